/- Records, plain: how the package reads one, how the form says it is read; what is whole is read alike, what ends within is refused. -/
import Derived.Test.YtmlmiljgbaalgaaDoorKm
import Derived.Test.YtmlmiljgbaalgaaDoorKq
import Derived.Test.YtmlmiljgbaalgaaDoorKa
set_option linter.unusedSimpArgs false
set_option linter.unusedVariables false
namespace Go.Ar
open Go.Km

/-- Numbers in groups of seven bits, the last of which is at most m. -/
def rdG (m : Nat) : Nat → Bs → Option (Nat × Bs)
  | _, [] => none
  | 0, b :: r => if b.toNat ≤ m then some (b.toNat, r) else none
  | f + 1, b :: r => if b.toNat < 128 then some (b.toNat, r) else (rdG m f r).map fun p => (b.toNat % 128 + 128 * p.1, p.2)

theorem rdG_V : ∀ (f : Nat) (bs : Bs), rdG 15 f bs = rdV f bs := by
  intro f
  induction f with
  | zero => intro bs; cases bs <;> simp [rdG, rdV]
  | succ f ih => intro bs; cases bs <;> simp [rdG, rdV, ih]

def rdUl (bs : Bs) : Option (Nat × Bs) := rdG 1 9 bs

theorem rdG_lt (m : Nat) (hm : m < 128) : ∀ (f : Nat) (bs : Bs) (n : Nat) (r : Bs), rdG m f bs = some (n, r) → n < (m + 1) * 128 ^ f ∧ r.length < bs.length := by
  intro f
  induction f with
  | zero =>
    intro bs n r h
    cases bs with
    | nil => simp [rdG] at h
    | cons b t =>
      simp only [rdG] at h
      split at h
      · cases h; simp; omega
      · cases h
  | succ f ih =>
    intro bs n r h
    have hp : 0 < 128 ^ f := Nat.pow_pos (by omega)
    have e : (m + 1) * 128 ^ (f + 1) = 128 * ((m + 1) * 128 ^ f) := by rw [Nat.pow_succ]; rw [← Nat.mul_assoc, Nat.mul_comm]
    have h1 : 1 ≤ (m + 1) * 128 ^ f := Nat.mul_pos (by omega) hp
    cases bs with
    | nil => simp [rdG] at h
    | cons b t =>
      simp only [rdG] at h
      split at h
      · cases h
        simp only [List.length_cons]
        omega
      · simp only [Option.map_eq_some_iff] at h
        obtain ⟨⟨q, r'⟩, hq, h2⟩ := h
        cases h2
        obtain ⟨g1, g2⟩ := ih t q _ hq
        simp only [List.length_cons]
        omega

theorem rdUl_some {bs : Bs} {n : Nat} {r : Bs} (h : rdUl bs = some (n, r)) : n < 2 ^ 64 ∧ r.length < bs.length := by
  obtain ⟨h1, h2⟩ := rdG_lt 1 (by omega) 9 bs n r h
  exact ⟨by simpa using h1, h2⟩

theorem rdG_suffix (m : Nat) : ∀ (f : Nat) (bs : Bs) (n : Nat) (r : Bs), rdG m f bs = some (n, r) → r <:+ bs := by
  intro f
  induction f with
  | zero =>
    intro bs n r h
    cases bs with
    | nil => simp [rdG] at h
    | cons b t =>
      simp only [rdG] at h
      split at h
      · cases h; exact List.suffix_cons _ _
      · cases h
  | succ f ih =>
    intro bs n r h
    cases bs with
    | nil => simp [rdG] at h
    | cons b t =>
      simp only [rdG] at h
      split at h
      · cases h; exact List.suffix_cons _ _
      · simp only [Option.map_eq_some_iff] at h
        obtain ⟨⟨q, r'⟩, h1, h2⟩ := h
        cases h2
        exact (ih t q _ h1).trans (List.suffix_cons _ _)

/-- In turns: 0, -1, 1, -2, .. -/
def zig (n : Nat) : Int := if n % 2 = 0 then ((n / 2 : Nat) : Int) else -((n / 2 : Nat) : Int) - 1

def rdVi (bs : Bs) : Option (Int × Bs) := (rdUv bs).map fun p => (zig p.1, p.2)
def rdVl (bs : Bs) : Option (Int × Bs) := (rdUl bs).map fun p => (zig p.1, p.2)

/-- Octets with their length ahead; below nothing: null. -/
def rdOc (bs : Bs) : Option (Option Bs × Bs) := (rdVi bs).bind fun p => if p.1 < 0 then some (none, p.2) else (rdSpan p.1 p.2).map fun q => (some q.1, q.2)

abbrev Hd := Bs × Option Bs

structure Rec where
  len : Int
  attr : Int
  delta : Int
  off : Int
  key : Option Bs
  val : Option Bs
  hs : List Hd

def rdHd (bs : Bs) : Option (Hd × Bs) := (rdOc bs).bind fun p => (rdOc p.2).map fun q => ((p.1.getD [], q.1), q.2)

def rdHs : Nat → Bs → Option (List Hd × Bs)
  | 0, bs => some ([], bs)
  | n + 1, bs => (rdHd bs).bind fun p => (rdHs n p.2).map fun q => (p.1 :: q.1, q.2)

def rdRec (bs : Bs) : Option (Rec × Bs) :=
  (rdVi bs).bind fun l => (rdI 1 l.2).bind fun a => (rdVl a.2).bind fun d => (rdVi d.2).bind fun o => (rdOc o.2).bind fun k => (rdOc k.2).bind fun v => (rdVi v.2).bind fun n =>
    if (n.2.length : Int) < n.1 then none else (rdHs n.1.toNat n.2).map fun h => (⟨l.1, a.1, d.1, o.1, k.1, v.1, h.1⟩, h.2)

/-! The form. -/
inductive Rs (α : Type) where
  | fine (x : α) (r : Bs)
  | short
  | loose

def Rs.map {α β : Type} (f : α → β) : Rs α → Rs β
  | .fine x r => .fine (f x) r
  | .short => .short
  | .loose => .loose

def Rs.bind {α β : Type} (x : Rs α) (f : α → Bs → Rs β) : Rs β := match x with
  | .fine x r => f x r
  | .short => .short
  | .loose => .loose

def refN (m : Nat) : Nat → Bs → Rs Nat
  | _, [] => .short
  | 0, b :: r => if m < b.toNat % 128 then .loose else if b.toNat < 128 then .fine b.toNat r else .loose
  | f + 1, b :: r => if b.toNat < 128 then .fine b.toNat r else (refN m f r).map fun n => b.toNat % 128 + 128 * n

def refV (m f : Nat) (bs : Bs) : Rs Int := (refN m f bs).map zig

/-- Octets, their number known. -/
def refO (n : Int) (bs : Bs) : Rs (Option Bs) :=
  if n = -1 then .fine none bs else if n < 0 then .loose else if (bs.length : Int) < n then .short else .fine (some (bs.take n.toNat)) (bs.drop n.toNat)

def refOc (bs : Bs) : Rs (Option Bs) := (refV 15 4 bs).bind refO
def refT (bs : Bs) : Rs Bs := (refV 15 4 bs).bind fun n r => if n < 0 then .loose else (refO n r).map fun x => x.getD []
def refHd (bs : Bs) : Rs Hd := (refT bs).bind fun k r => (refOc r).map fun v => (k, v)

def refHs : Nat → Bs → Rs (List Hd)
  | 0, bs => .fine [] bs
  | n + 1, bs => (refHd bs).bind fun h r => (refHs n r).map fun l => h :: l

def refI8 (bs : Bs) : Rs Int := match rdI 1 bs with
  | some (x, r) => .fine x r
  | none => .short

def refRec (bs : Bs) : Rs Rec :=
  (refV 15 4 bs).bind fun l b0 => (refI8 b0).bind fun a b1 => (refV 1 9 b1).bind fun d b2 => (refV 15 4 b2).bind fun o b3 => (refOc b3).bind fun k b4 => (refOc b4).bind fun v b5 => (refV 15 4 b5).bind fun n b6 =>
    if n < 0 then .loose else (refHs n.toNat b6).bind fun h b7 => if l ≠ (b0.length : Int) - b7.length then .loose else .fine ⟨l, a, d, o, k, v, h⟩ b7

/-! Alike. -/
def Like {α : Type} (x : Rs α) (y : Option (α × Bs)) : Prop := match x with
  | .fine a r => y = some (a, r)
  | .short => y = none
  | .loose => True

theorem Like.map {α β : Type} {x : Rs α} {y : Option (α × Bs)} (h : Like x y) (f : α → β) : Like (x.map f) (y.map fun p => (f p.1, p.2)) := by
  cases x with
  | fine a r => simp only [Like] at h; subst h; rfl
  | short => simp only [Like] at h; subst h; rfl
  | loose => trivial

theorem Like.bind {α β : Type} {x : Rs α} {y : Option (α × Bs)} (h : Like x y) {f : α → Bs → Rs β} {g : α × Bs → Option (β × Bs)} (hk : ∀ a r, y = some (a, r) → Like (f a r) (g (a, r))) : Like (x.bind f) (y.bind g) := by
  cases x with
  | fine a r => simp only [Like] at h; subst h; exact hk a r rfl
  | short => simp only [Like] at h; subst h; rfl
  | loose => trivial

theorem likeN (m : Nat) : ∀ (f : Nat) (bs : Bs), Like (refN m f bs) (rdG m f bs) := by
  intro f
  induction f with
  | zero =>
    intro bs
    cases bs with
    | nil => simp [refN, rdG, Like]
    | cons b t =>
      simp only [refN, rdG]
      split
      · trivial
      · split
        · have : b.toNat ≤ m := by rw [Nat.mod_eq_of_lt (by assumption)] at *; omega
          simp only [Like, this, if_true]
        · trivial
  | succ f ih =>
    intro bs
    cases bs with
    | nil => simp [refN, rdG, Like]
    | cons b t =>
      simp only [refN, rdG]
      split
      · rfl
      · exact (ih t).map fun n => b.toNat % 128 + 128 * n

theorem likeV (bs : Bs) : Like (refV 15 4 bs) (rdVi bs) := by
  have := (likeN 15 4 bs).map zig
  rw [rdG_V] at this
  exact this
theorem likeL (bs : Bs) : Like (refV 1 9 bs) (rdVl bs) := (likeN 1 9 bs).map zig

theorem likeO (n : Int) (bs : Bs) : Like (refO n bs) (if n < 0 then some (none, bs) else (rdSpan n bs).map fun q => (some q.1, q.2)) := by
  unfold refO
  split
  · subst n; rfl
  · split
    · trivial
    · rename_i h1 h2
      try simp only [h2, if_false]
      obtain ⟨k, rfl⟩ := Int.eq_ofNat_of_zero_le (Int.not_lt.1 h2)
      simp only [rdSpan, h2, Int.natCast_nonneg, if_true, Int.toNat_natCast, cut]
      split
      · rename_i h3
        rw [if_neg (by omega)]
        rfl
      · rename_i h3
        rw [if_pos (by omega)]
        rfl

theorem likeOc (bs : Bs) : Like (refOc bs) (rdOc bs) := (likeV bs).bind fun n r _ => likeO n r

theorem likeT (bs : Bs) : Like (refT bs) ((rdOc bs).map fun p => (p.1.getD [], p.2)) := by
  have : ((rdOc bs).map fun p => (p.1.getD [], p.2)) = (rdVi bs).bind fun p => (if p.1 < 0 then some (none, p.2) else (rdSpan p.1 p.2).map fun q => (some q.1, q.2)).map fun q : Option Bs × Bs => (q.1.getD [], q.2) := by
    unfold rdOc; rw [Option.map_bind]; rfl
  rw [this]
  refine (likeV bs).bind fun n r _ => ?_
  split
  · trivial
  · rename_i hn
    have h := (likeO n r).map fun x => x.getD []
    rw [if_neg hn] at h
    exact h

theorem likeHd (bs : Bs) : Like (refHd bs) (rdHd bs) := by
  have : rdHd bs = ((rdOc bs).map fun p => (p.1.getD [], p.2)).bind fun p => (rdOc p.2).map fun q => ((p.1, q.1), q.2) := by
    unfold rdHd; rw [Option.bind_map]; rfl
  rw [this]
  exact (likeT bs).bind fun k r _ => (likeOc r).map fun v => (k, v)

theorem likeHs : ∀ (n : Nat) (bs : Bs), Like (refHs n bs) (rdHs n bs) := by
  intro n
  induction n with
  | zero => intro bs; rfl
  | succ n ih => intro bs; exact (likeHd bs).bind fun h r _ => (ih r).map fun l => h :: l

theorem rdVi_lt {bs : Bs} {n : Int} {r : Bs} (h : rdVi bs = some (n, r)) : r.length < bs.length ∧ -2147483648 ≤ n ∧ n < 2147483648 := by
  simp only [rdVi, Option.map_eq_some_iff] at h
  obtain ⟨⟨m, r'⟩, h1, h2⟩ := h
  cases h2
  obtain ⟨g1, g2⟩ := rdUv_some h1
  refine ⟨g2, ?_⟩
  simp only [zig]
  split <;> omega

theorem rdVl_lt {bs : Bs} {n : Int} {r : Bs} (h : rdVl bs = some (n, r)) : r.length < bs.length ∧ -9223372036854775808 ≤ n ∧ n < 9223372036854775808 := by
  simp only [rdVl, Option.map_eq_some_iff] at h
  obtain ⟨⟨m, r'⟩, h1, h2⟩ := h
  cases h2
  obtain ⟨g1, g2⟩ := rdUl_some h1
  refine ⟨g2, ?_⟩
  simp only [zig]
  split <;> omega

theorem rdOc_lt {bs : Bs} {x : Option Bs} {r : Bs} (h : rdOc bs = some (x, r)) : r.length < bs.length := by
  simp only [rdOc, Option.bind_eq_some_iff] at h
  obtain ⟨⟨n, r1⟩, h1, h2⟩ := h
  have := (rdVi_lt h1).1
  dsimp only at h2
  split at h2
  · cases h2; exact this
  · simp only [Option.map_eq_some_iff, rdSpan] at h2
    obtain ⟨⟨q, r2⟩, h3, h4⟩ := h2
    cases h4
    split at h3
    · have := cut_some h3; obtain ⟨e, _⟩ := this; subst e; simp at *; omega
    · cases h3

theorem rdHs_many : ∀ (n : Nat) (bs : Bs) (l : List Hd) (r : Bs), rdHs n bs = some (l, r) → n ≤ bs.length ∧ l.length = n := by
  intro n
  induction n with
  | zero => intro bs l r h; simp only [rdHs, Option.some.injEq, Prod.mk.injEq] at h; obtain ⟨rfl, _⟩ := h; simp
  | succ n ih =>
    intro bs l r h
    simp only [rdHs, Option.bind_eq_some_iff, Option.map_eq_some_iff] at h
    obtain ⟨⟨h1, r1⟩, e1, ⟨l2, r2⟩, e2, e3⟩ := h
    cases e3
    obtain ⟨g1, g2⟩ := ih _ _ _ e2
    simp only [rdHd, Option.bind_eq_some_iff, Option.map_eq_some_iff] at e1
    obtain ⟨⟨k, r3⟩, e4, ⟨v, r4⟩, e5, e6⟩ := e1
    cases e6
    have := rdOc_lt e4
    have := rdOc_lt e5
    dsimp only at *
    simp only [List.length_cons]
    omega

theorem like_rec (bs : Bs) : Like (refRec bs) (rdRec bs) := by
  unfold refRec rdRec
  refine (likeV bs).bind fun l b0 _ => ?_
  refine Like.bind (y := rdI 1 b0) ?_ fun a b1 _ => ?_
  · unfold refI8; cases h : rdI 1 b0 with
    | none => rfl
    | some p => rfl
  refine (likeL b1).bind fun d b2 _ => (likeV b2).bind fun o b3 _ => (likeOc b3).bind fun k b4 _ => (likeOc b4).bind fun v b5 _ => (likeV b5).bind fun n b6 _ => ?_
  split
  · trivial
  · have hh := likeHs n.toNat b6
    cases hr : refHs n.toNat b6 with
    | loose => trivial
    | short =>
      rw [hr] at hh
      simp only [Like] at hh
      dsimp only [Rs.bind, Like]
      rw [hh]
      split <;> rfl
    | fine h b7 =>
      rw [hr] at hh
      simp only [Like] at hh
      obtain ⟨g1, _⟩ := rdHs_many _ _ _ _ hh
      dsimp only [Rs.bind]
      split
      · trivial
      · show _ = some _
        try dsimp only
        rw [if_neg (by omega), hh]
        rfl

end Go.Ar

/- The package's readers of numbers in groups of seven bits in turns, and of what stands behind such. -/
namespace Go.Ar
open Go.Lx Go.Nx Go.Km Go.Mx Go.Kb

set_option linter.unusedSimpArgs false
set_option linter.unusedVariables false

section
variable {P : Program}

/-- kbin.uvarlong: the number and how many octets it took; none, or fewer, if it is no such number. -/
def KUl (P : Program) (f : FuncId) : Prop :=
  ∀ (ok : Nat → Prop) (w : World) (v : Value) (bs : Bs) (K : Value → World → Prop), Sl ok w v bs →
    (∀ (n k : Int), (match rdUl bs with | some (x, r) => n = x ∧ k = ((bs.length - r.length : Nat) : Int) | none => k ≤ 0) → K (.tuple #[.int .u64 n, .int .i64 k]) w) → In.wp P (.call f) [v] w K

/-- The low bits of an octet, as a 64-bit number. -/
theorem lowO64 {η : Nat → Value} {w : World} {k : NP} {Q : Out → (Nat → Value) → World → Prop} {x n m j c1 c2 : Nat} {v : Value} {bs : Bs} {c : Nat} {a : Addr} (hx : η x = .slice (some a) bs.length c) (hb : BytesAt w a bs) (hj : j < bs.length) (hxn : x ∉ [n, m, c1, c2]) (hnm : c1 ≠ m)
    (hk : ∀ η' : Nat → Value, η' c2 = .int .u64 ((bs[j].toNat % 128 : Nat) : Int) → (∀ i, i ∉ [n, m, c1, c2] → η' i = η i) → k.wp P Q η' w) :
    (NP.op (.ia 1) [.s x, .k (.int .i64 (j : Int))] n <| .chk n <| .op .load [.q n 0] m <| .op (.bin .and) [.s m, .k (.int .u8 127)] c1 <| .op (.cv .u64) [.s c1] c2 k).wp P Q η w := by
  simp only [List.mem_cons, List.not_mem_nil, or_false, not_or] at hxn hk
  refine byteO hx hb hj hxn.1 hxn.2.1 fun η1 e1 f1 => ?_
  have hb8 := bs[j].toNat_lt
  have hand := and_nat .u8 rfl bs[j].toNat 127 hb8 (by decide)
  rw [and127' _ hb8] at hand
  refine np_op (vs := [u8 bs[j], .int .u8 127]) (by simp [SV.val, e1]) ⟨.u8, _, _, _, rfl, hand, ?_⟩
  refine np_op (vs := [.int .u8 ((bs[j].toNat % 128 : Nat) : Int)]) (by simp [SV.val, upd]) ⟨.u8, _, rfl, ?_⟩
  refine hk _ (by simp only [upd, if_true]; rw [wrap_nat .u64 rfl _ (by have : (2:Nat) ^ IntKind.u64.bits = 18446744073709551616 := rfl; omega)]) fun i hi => ?_
  simp only [upd, if_neg hi.2.2.2, if_neg hi.2.2.1]
  exact f1 i hi.1 hi.2.1

def UlEnd (bs : Bs) (n k : Int) : Prop := match rdUl bs with
  | some (x, r) => n = x ∧ k = ((bs.length - r.length : Nat) : Int)
  | none => k ≤ 0

abbrev ulBad : NP := .ret [.k (.int .u64 0), .k (.int .i64 0)]

/-- What is left of a number at its j-th group. -/
def UlAt (bs : Bs) (j A : Nat) : Prop := A < 2 ^ (7 * j) ∧ rdUl bs = (rdG 1 (9 - j) (bs.drop j)).map fun p => (A + 2 ^ (7 * j) * p.1, p.2)

theorem ulAt_step {bs : Bs} {j A : Nat} (h : UlAt bs j A) (hj : j < 9) (hlt : j < bs.length) (hb : ¬ bs[j].toNat < 128) : UlAt bs (j + 1) (A + bs[j].toNat % 128 * 2 ^ (7 * j)) := by
  obtain ⟨h1, h2⟩ := h
  have e7 : 2 ^ (7 * (j + 1)) = 2 ^ (7 * j) * 128 := by rw [Nat.mul_add, Nat.pow_add]
  refine ⟨?_, ?_⟩
  · have h3 : bs[j].toNat % 128 * 2 ^ (7 * j) ≤ 127 * 2 ^ (7 * j) := Nat.mul_le_mul_right _ (by omega)
    rw [e7]; omega
  · rw [h2, List.drop_eq_getElem_cons hlt]
    have e4 : 9 - j = (9 - (j + 1)) + 1 := by omega
    rw [e4]
    simp only [rdG, hb, if_false, Option.map_map]
    congr 1
    funext p
    simp only [Function.comp]
    rw [e7, Nat.mul_add, ← Nat.add_assoc, Nat.mul_comm (2 ^ (7 * j)) (bs[j].toNat % 128), Nat.mul_assoc]

theorem ulAt_stop {bs : Bs} {j A : Nat} (h : UlAt bs j A) (hj : j < 9) (hlt : j < bs.length) (hb : bs[j].toNat < 128) : UlEnd bs ((A + bs[j].toNat % 128 * 2 ^ (7 * j) : Nat) : Int) ((j + 1 : Nat) : Int) := by
  obtain ⟨h1, h2⟩ := h
  have e4 : 9 - j = (9 - (j + 1)) + 1 := by omega
  rw [List.drop_eq_getElem_cons hlt, e4] at h2
  simp only [rdG, hb, if_true, Option.map_some] at h2
  unfold UlEnd
  rw [h2]
  refine ⟨?_, ?_⟩
  · rw [Nat.mod_eq_of_lt hb, Nat.mul_comm]
  · simp only [List.length_drop]; omega

theorem ulAt_short {bs : Bs} {j A : Nat} (h : UlAt bs j A) (hlt : ¬ j < bs.length) : UlEnd bs 0 0 := by
  obtain ⟨h1, h2⟩ := h
  rw [List.drop_of_length_le (by omega)] at h2
  have : rdG 1 (9 - j) [] = none := by cases 9 - j <;> rfl
  rw [this] at h2
  unfold UlEnd
  rw [h2]
  exact Int.le_refl _

def ulG (j acc i : Nat) (next : NP) : NP :=
  .op .len [.s 0] i <| .op (.bin .lss) [.s i, .k (.int .i64 ((j + 1 : Nat) : Int))] (i + 1) <| .ite (.s (i + 1)) ulBad
      (.op (.ia 1) [.s 0, .k (.int .i64 (j : Int))] (i + 2) <| .chk (i + 2) <| .op .load [.q (i + 2) 0] (i + 3) <| .op (.bin .and) [.s (i + 3), .k (.int .u8 127)] (i + 4) <| .op (.cv .u64) [.s (i + 4)] (i + 5) <|
        .op (.sh .shl) [.s (i + 5), .k (.int .u64 ((7 * j : Nat) : Int))] (i + 6) <| .op (.bin .or) [.s acc, .s (i + 6)] (i + 7) <|
        .op (.ia 1) [.s 0, .k (.int .i64 (j : Int))] (i + 8) <| .chk (i + 8) <| .op .load [.q (i + 8) 0] (i + 9) <| .op (.bin .and) [.s (i + 9), .k (.int .u8 128)] (i + 10) <| .op (.bin .eql) [.s (i + 10), .k (.int .u8 0)] (i + 11) <|
        .ite (.s (i + 11)) (.ret [.s (i + 7), .k (.int .i64 ((j + 1 : Nat) : Int))]) next .nil) .nil

def ul0 (next : NP) : NP :=
  .op .len [.s 0] 1 <| .op (.bin .lss) [.s 1, .k (.int .i64 1)] 2 <| .ite (.s 2) ulBad
    (.op (.ia 1) [.s 0, .k (.int .i64 ((0 : Nat) : Int))] 3 <| .chk 3 <| .op .load [.q 3 0] 4 <| .op (.bin .and) [.s 4, .k (.int .u8 127)] 5 <| .op (.cv .u64) [.s 5] 6 <|
      .op (.ia 1) [.s 0, .k (.int .i64 ((0 : Nat) : Int))] 7 <| .chk 7 <| .op .load [.q 7 0] 8 <| .op (.bin .and) [.s 8, .k (.int .u8 128)] 9 <| .op (.bin .eql) [.s 9, .k (.int .u8 0)] 10 <|
      .ite (.s 10) (.ret [.s 6, .k (.int .i64 1)]) next .nil) .nil

def ulL : NP :=
  .op .len [.s 0] 107 <| .op (.bin .lss) [.s 107, .k (.int .i64 10)] 108 <| .ite (.s 108) ulBad
    (.op (.ia 1) [.s 0, .k (.int .i64 ((9 : Nat) : Int))] 109 <| .chk 109 <| .op .load [.q 109 0] 110 <| .op (.cv .u64) [.s 110] 111 <| .op (.sh .shl) [.s 111, .k (.int .u64 63)] 112 <| .op (.bin .or) [.s 102, .s 112] 113 <|
      .op (.ia 1) [.s 0, .k (.int .i64 ((9 : Nat) : Int))] 114 <| .chk 114 <| .op .load [.q 114 0] 115 <| .op (.bin .leq) [.s 115, .k (.int .u8 1)] 116 <|
      .ite (.s 116) (.ret [.s 113, .k (.int .i64 10)]) .nil <| .ret [.k (.int .u64 0), .k (.int .i64 (-10))]) .nil

def p_uvarlong : FnP := ⟨ul0 (ulG 1 6 11 (ulG 2 18 23 (ulG 3 30 35 (ulG 4 42 47 (ulG 5 54 59 (ulG 6 66 71 (ulG 7 78 83 (ulG 8 90 95 ulL)))))))), [.direct, .direct]⟩

/-- A group from the second to the ninth. -/
theorem ul_grp {j A acc i : Nat} {next : NP} {η : Nat → Value} {w : World} {Q : Out → (Nat → Value) → World → Prop} {ok : Nat → Prop} {v : Value} {bs : Bs} (hsl : Sl ok w v bs) (h0 : η 0 = v) (hA : UlAt bs j A) (hacc : η acc = .int .u64 (A : Int)) (hj1 : 1 ≤ j) (hj : j < 9) (hi0 : acc < i) (hi : 0 < i)
    (hret : ∀ n k η', UlEnd bs n k → Q (.ret [.int .u64 n, .int .i64 k]) η' w)
    (hnext : ∀ (Q' : Out → (Nat → Value) → World → Prop) η' A', (∀ vs η w, Q (.ret vs) η w → Q' (.ret vs) η w) → η' 0 = v → η' (i + 7) = .int .u64 (A' : Int) → UlAt bs (j + 1) A' → next.wp P Q' η' w) : (ulG j acc i next).wp P Q η w := by
  unfold ulG
  obtain ⟨a, c, hv, hc⟩ := sl_slice hsl
  refine np_op (vs := [v]) (by simp [SV.val, h0]) ⟨a, _, c, by rw [hv], ?_⟩
  refine np_op (vs := [goInt bs.length, .int .i64 ((j + 1 : Nat) : Int)]) (by simp [SV.val, upd]) ⟨.i64, _, _, _, rfl, rfl, ?_⟩
  refine np_ite (decide ((bs.length : Int) < ((j + 1 : Nat) : Int))) (by simp [SV.val, upd]) ?_
  by_cases hlt : j < bs.length
  · have hd : ¬ ((bs.length : Int) < ((j + 1 : Nat) : Int)) := by omega
    simp only [hd, decide_false, Bool.false_eq_true, if_false]
    obtain ⟨a, c, hv, hc, hb⟩ := sl_some hsl (by intro h; subst h; simp at hlt)
    have hb8 := bs[j].toNat_lt
    have h7j : 7 * j + 7 ≤ 63 := by omega
    have hbits : (2 : Nat) ^ IntKind.u64.bits = 2 ^ 64 := rfl
    have hle63 : 2 ^ (7 * j + 7) ≤ 2 ^ 63 := Nat.pow_le_pow_right (by omega) h7j
    have e77 : 2 ^ (7 * j + 7) = 2 ^ (7 * j) * 128 := Nat.pow_add 2 (7 * j) 7
    have hmul : bs[j].toNat % 128 * 2 ^ (7 * j) ≤ 127 * 2 ^ (7 * j) := Nat.mul_le_mul_right _ (by omega)
    have hAlt := hA.1
    refine lowO64 (v := v) (a := a) (c := c) (bs := bs) (j := j) (by simp [upd, h0, hv]; omega) hb.2.2 hlt (by simp) (by omega) fun η1 e1 f1 => ?_
    have hshl := shl_nat .u64 rfl (bs[j].toNat % 128) (7 * j) (by show 7 * j ≤ 64; omega) (by rw [hbits]; omega)
    refine np_op (vs := [.int .u64 ((bs[j].toNat % 128 : Nat) : Int), .int .u64 ((7 * j : Nat) : Int)]) (by simp [SV.val, e1]) ⟨.u64, _, .u64, 7 * j, _, rfl, hshl, ?_⟩
    have hor := or_nat .u64 rfl A (bs[j].toNat % 128 * 2 ^ (7 * j)) (by rw [hbits]; omega) (by rw [hbits]; omega)
    rw [or_add A _ _ hAlt] at hor
    have hf1 : ∀ q, q < i → η1 q = η q := fun q hq => by
      rw [f1 q (by simp; omega)]
      simp [upd, show q ≠ i by omega, show q ≠ i + 1 by omega]
    refine np_op (vs := [.int .u64 (A : Int), .int .u64 ((bs[j].toNat % 128 * 2 ^ (7 * j) : Nat) : Int)]) (by simp [SV.val, upd, show acc ≠ i + 6 by omega, hf1 acc hi0, hacc]) ⟨.u64, _, _, _, rfl, hor, ?_⟩
    refine moreO (a := a) (c := c) (bs := bs) (j := j) (by simp [upd, show (0:Nat) ≠ i + 7 by omega, hf1 0 hi, h0, hv]) hb.2.2 hlt (by simp) fun η2 e2 f2 => ?_
    refine np_ite (decide (bs[j].toNat < 128)) (by simp [SV.val, e2]) ?_
    by_cases hb7 : bs[j].toNat < 128
    · simp only [hb7, decide_true, if_true]
      have := hret _ _ η2 (ulAt_stop hA hj hlt hb7)
      show Q (.ret [η2 (i + 7), _]) η2 w
      rw [f2 (i + 7) (by simp)]
      simpa [upd, SV.val] using this
    · simp only [hb7, decide_false, Bool.false_eq_true, if_false]
      refine hnext _ η2 _ (fun vs η w h => h) ?_ ?_ (ulAt_step hA hj hlt hb7)
      · rw [f2 0 (by simp)]
        simp [upd, hf1 0 hi, h0]
      · rw [f2 (i + 7) (by simp)]
        simp [upd]
  · have hd : ((bs.length : Int) < ((j + 1 : Nat) : Int)) := by omega
    simp only [hd, decide_true, if_true]
    exact hret _ _ _ (ulAt_short hA hlt)

theorem uvarlong_ok (hn : Named P) {f : FuncId} (hf : fnP P f 1 = some p_uvarlong) : KUl P f := by
  intro ok w v bs K hsl hk
  refine calls_of_np hn (vs := [v]) hf fun η hη => ?_
  have hret : ∀ n k η', UlEnd bs n k → postP [.direct, .direct] K (.ret [.int .u64 n, .int .i64 k]) η' w := fun n k η' h => hk n k h
  dsimp only [p_uvarlong]
  generalize postP [RK.direct, RK.direct] K = QR at hret ⊢
  unfold ul0
  have h0 : η 0 = v := hη 0 (by simp)
  obtain ⟨a, c, hv, hc⟩ := sl_slice hsl
  refine np_op (vs := [v]) (by simp [SV.val, h0]) ⟨a, _, c, by rw [hv], ?_⟩
  refine np_op (vs := [goInt bs.length, .int .i64 1]) (by simp [SV.val, upd]) ⟨.i64, _, _, _, rfl, rfl, ?_⟩
  refine np_ite (decide ((bs.length : Int) < 1)) (by simp [SV.val, upd]) ?_
  by_cases hlt : 0 < bs.length
  · have hd : ¬ ((bs.length : Int) < 1) := by omega
    simp only [hd, decide_false, Bool.false_eq_true, if_false]
    obtain ⟨a, c, hv, hc, hb⟩ := sl_some hsl (by intro h; subst h; simp at hlt)
    have hA0 : UlAt bs 0 0 := ⟨by simp, by simp [rdUl]⟩
    have hb8 := bs[0].toNat_lt
    refine lowO64 (v := v) (a := a) (c := c) (bs := bs) (j := 0) (by simp [upd, h0, hv]) hb.2.2 hlt (by decide) (by decide) fun η1 e1 f1 => ?_
    refine moreO (a := a) (c := c) (bs := bs) (j := 0) (by rw [f1 0 (by decide)]; simp [upd, h0, hv]) hb.2.2 hlt (by decide) fun η2 e2 f2 => ?_
    refine np_ite (decide (bs[0].toNat < 128)) (by simp [SV.val, e2]) ?_
    by_cases hb7 : bs[0].toNat < 128
    · simp only [hb7, decide_true, if_true]
      have := hret _ _ η2 (ulAt_stop hA0 (by omega) hlt hb7)
      show QR (.ret [η2 6, _]) η2 w
      rw [f2 6 (by decide), e1]
      simpa [SV.val] using this
    · simp only [hb7, decide_false, Bool.false_eq_true, if_false]
      have h20 : η2 0 = v := by rw [f2 0 (by decide), f1 0 (by decide)]; simp [upd, h0]
      have h26 : η2 6 = .int .u64 ((0 + bs[0].toNat % 128 * 2 ^ (7 * 0) : Nat) : Int) := by rw [f2 6 (by decide), e1]; simp
      have hA1 := ulAt_step hA0 (by omega) hlt hb7
      refine ul_grp (j := 1) (acc := 6) (i := 11) hsl h20 hA1 h26 (by omega) (by omega) (by omega) (by omega) (fun n k η' h => hret n k η' h) fun Q1 e1 B1 hQ1 p1 r1 hB1 => ?_
      refine ul_grp (j := 2) (acc := 18) (i := 23) hsl p1 hB1 r1 (by omega) (by omega) (by omega) (by omega) (fun n k η' h => hQ1 _ _ _ (hret n k η' h)) fun Q2 e2 B2 hQ2 p2 r2 hB2 => ?_
      refine ul_grp (j := 3) (acc := 30) (i := 35) hsl p2 hB2 r2 (by omega) (by omega) (by omega) (by omega) (fun n k η' h => hQ2 _ _ _ (hQ1 _ _ _ (hret n k η' h))) fun Q3 e3 B3 hQ3 p3 r3 hB3 => ?_
      refine ul_grp (j := 4) (acc := 42) (i := 47) hsl p3 hB3 r3 (by omega) (by omega) (by omega) (by omega) (fun n k η' h => hQ3 _ _ _ (hQ2 _ _ _ (hQ1 _ _ _ (hret n k η' h)))) fun Q4 e4 B4 hQ4 p4 r4 hB4 => ?_
      refine ul_grp (j := 5) (acc := 54) (i := 59) hsl p4 hB4 r4 (by omega) (by omega) (by omega) (by omega) (fun n k η' h => hQ4 _ _ _ (hQ3 _ _ _ (hQ2 _ _ _ (hQ1 _ _ _ (hret n k η' h))))) fun Q5 e5 B5 hQ5 p5 r5 hB5 => ?_
      refine ul_grp (j := 6) (acc := 66) (i := 71) hsl p5 hB5 r5 (by omega) (by omega) (by omega) (by omega) (fun n k η' h => hQ5 _ _ _ (hQ4 _ _ _ (hQ3 _ _ _ (hQ2 _ _ _ (hQ1 _ _ _ (hret n k η' h)))))) fun Q6 e6 B6 hQ6 p6 r6 hB6 => ?_
      refine ul_grp (j := 7) (acc := 78) (i := 83) hsl p6 hB6 r6 (by omega) (by omega) (by omega) (by omega) (fun n k η' h => hQ6 _ _ _ (hQ5 _ _ _ (hQ4 _ _ _ (hQ3 _ _ _ (hQ2 _ _ _ (hQ1 _ _ _ (hret n k η' h))))))) fun Q7 e7 B7 hQ7 p7 r7 hB7 => ?_
      refine ul_grp (j := 8) (acc := 90) (i := 95) hsl p7 hB7 r7 (by omega) (by omega) (by omega) (by omega) (fun n k η' h => hQ7 _ _ _ (hQ6 _ _ _ (hQ5 _ _ _ (hQ4 _ _ _ (hQ3 _ _ _ (hQ2 _ _ _ (hQ1 _ _ _ (hret n k η' h)))))))) fun Q8 e8 B8 hQ8 p8 r8 hB8 => ?_
      unfold ulL
      have hfin : ∀ n k η', UlEnd bs n k → Q8 (.ret [.int .u64 n, .int .i64 k]) η' w := fun n k η' h => hQ8 _ _ _ (hQ7 _ _ _ (hQ6 _ _ _ (hQ5 _ _ _ (hQ4 _ _ _ (hQ3 _ _ _ (hQ2 _ _ _ (hQ1 _ _ _ (hret n k η' h))))))))
      refine np_op (vs := [v]) (by simp [SV.val, p8]) ⟨some a, _, c, by rw [hv], ?_⟩
      refine np_op (vs := [goInt bs.length, .int .i64 10]) (by simp [SV.val, upd]) ⟨.i64, _, _, _, rfl, rfl, ?_⟩
      refine np_ite (decide ((bs.length : Int) < 10)) (by simp [SV.val, upd]) ?_
      by_cases hl5 : 9 < bs.length
      · have hd : ¬ ((bs.length : Int) < 10) := by omega
        simp only [hd, decide_false, Bool.false_eq_true, if_false]
        have hb89 := bs[9].toNat_lt
        refine byteO (x := 0) (n := 109) (m := 110) (j := 9) (a := a) (c := c) (bs := bs) (by simp [upd, p8, hv]) hb.2.2 hl5 (by decide) (by decide) fun η6 e6 f6 => ?_
        refine np_op (vs := [u8 bs[9]]) (by simp [SV.val, e6]) ⟨.u8, _, rfl, ?_⟩
        rw [wrap_nat .u64 rfl _ (show bs[9].toNat < 2 ^ 64 by omega)]
        refine np_op (vs := [.int .u64 (bs[9].toNat : Int), .int .u64 63]) (by simp [SV.val, upd]) ⟨.u64, _, .u64, 63, _, rfl, rfl, ?_⟩
        have h642 : η6 102 = .int .u64 (B8 : Int) := by rw [f6 102 (by decide) (by decide)]; simp [upd, r8]
        refine np_op (vs := [.int .u64 (B8 : Int), .int .u64 (IntKind.u64.wrap ((bs[9].toNat : Int) * 2 ^ (min 63 IntKind.u64.bits)))]) (by simp [SV.val, upd, h642]) ⟨.u64, _, _, _, rfl, rfl, ?_⟩
        refine byteO (x := 0) (n := 114) (m := 115) (j := 9) (a := a) (c := c) (bs := bs) (by simp only [upd]; simp; rw [f6 0 (by decide) (by decide)]; simp [upd, p8, hv]) hb.2.2 hl5 (by decide) (by decide) fun η7 e7 f7 => ?_
        refine np_op (vs := [u8 bs[9], .int .u8 1]) (by simp [SV.val, e7]) ⟨.u8, _, _, _, rfl, rfl, ?_⟩
        have hcmp : decide (((bs[9].toNat : Nat) : Int) ≤ 1) = decide (bs[9].toNat ≤ 1) := by rw [Bool.eq_iff_iff]; simp only [decide_eq_true_eq]; omega
        refine np_ite (decide (bs[9].toNat ≤ 1)) (by simp [SV.val, upd, hcmp]) ?_
        have hrd := hB8.2
        rw [List.drop_eq_getElem_cons hl5] at hrd
        simp only [Nat.sub_self, rdG] at hrd
        by_cases h1 : bs[9].toNat ≤ 1
        · simp only [h1, decide_true, if_true] at hrd ⊢
          have hB8lt := hB8.1
          have hval : η7 113 = .int .u64 ((B8 + bs[9].toNat * 2 ^ 63 : Nat) : Int) := by
            rw [f7 113 (by decide) (by decide)]
            have hshl := shl_nat .u64 rfl bs[9].toNat 63 (by decide) (show bs[9].toNat * 2 ^ 63 < 2 ^ 64 by omega)
            simp only [shV, Option.some.injEq, Value.int.injEq, true_and] at hshl
            have hor := or_nat .u64 rfl B8 (bs[9].toNat * 2 ^ 63) (show B8 < 2 ^ 64 by omega) (show bs[9].toNat * 2 ^ 63 < 2 ^ 64 by omega)
            rw [or_add B8 _ _ hB8lt] at hor
            simp only [binV, Option.some.injEq] at hor
            simp only [upd, if_true]
            rw [hshl]
            exact hor
          have : UlEnd bs ((B8 + bs[9].toNat * 2 ^ 63 : Nat) : Int) 10 := by
            unfold UlEnd
            rw [hrd]
            simp only [Option.map_some]
            refine ⟨by rw [Nat.mul_comm], by simp only [List.length_drop]; omega⟩
          show Q8 (.ret [_, _]) _ w
          have := hfin _ _ (upd η7 116 (.bool (decide (((bs[9].toNat : Nat) : Int) ≤ 1)))) this
          simpa [SV.val, upd, hval] using this
        · simp only [h1, decide_false, Bool.false_eq_true, if_false, Option.map_none] at hrd ⊢
          have : UlEnd bs 0 (-10) := by unfold UlEnd; rw [hrd]; show (-10 : Int) ≤ 0; omega
          exact hfin _ _ _ this
      · have hd : ((bs.length : Int) < 10) := by omega
        simp only [hd, decide_true, if_true]
        exact hfin _ _ _ (ulAt_short hB8 hl5)
  · have hd : ((bs.length : Int) < 1) := by omega
    simp only [hd, decide_true, if_true]
    have hA0 : UlAt bs 0 0 := ⟨by simp, by simp [rdUl]⟩
    exact hret _ _ _ (ulAt_short hA0 hlt)


end
end Go.Ar

/- The package's readers of numbers in turns, of octets, texts and counts behind such. -/
namespace Go.Ar
open Go.Lx Go.Nx Go.Km Go.Mx Go.Kb

set_option linter.unusedSimpArgs false
set_option linter.unusedVariables false

section
variable {P : Program}

theorem xor0 (b m : Nat) (h : m < 2 ^ b) : (BitVec.ofInt b (m : Int) ^^^ BitVec.ofInt b 0).toNat = m := by
  have : BitVec.ofInt b (0 : Int) = 0#b := by simp
  rw [this, BitVec.xor_zero]
  rw [show BitVec.ofInt b (m : Int) = BitVec.ofNat b m by simp, BitVec.toNat_ofNat, Nat.mod_eq_of_lt h]

theorem xor1 (b m : Nat) (h : m < 2 ^ b) : (BitVec.ofInt b (m : Int) ^^^ BitVec.ofInt b (-1)).toNat = 2 ^ b - 1 - m := by
  have : BitVec.ofInt b (-1 : Int) = BitVec.allOnes b := by
    rw [show (-1 : Int) = -((1 : Nat) : Int) by rfl, BitVec.ofInt_neg]
    rw [show BitVec.ofInt b ((1 : Nat) : Int) = BitVec.ofNat b 1 by simp]
    exact BitVec.neg_one_eq_allOnes
  rw [this, BitVec.xor_allOnes, BitVec.toNat_not]
  rw [show BitVec.ofInt b (m : Int) = BitVec.ofNat b m by simp, BitVec.toNat_ofNat, Nat.mod_eq_of_lt h]

theorem ofInt_ones (b : Nat) : BitVec.ofInt b (((2 ^ b - 1 : Nat) : Int)) = BitVec.ofInt b (-1) := by
  apply BitVec.eq_of_toNat_eq
  have h1 : BitVec.ofInt b (-1 : Int) = BitVec.allOnes b := by
    rw [show (-1 : Int) = -((1 : Nat) : Int) by rfl, BitVec.ofInt_neg]
    rw [show BitVec.ofInt b ((1 : Nat) : Int) = BitVec.ofNat b 1 by simp]
    exact BitVec.neg_one_eq_allOnes
  rw [h1, BitVec.toNat_allOnes, show BitVec.ofInt b (((2 ^ b - 1 : Nat) : Int)) = BitVec.ofNat b (2 ^ b - 1) by simp, BitVec.toNat_ofNat]
  exact Nat.mod_eq_of_lt (by have := Nat.two_pow_pos b; omega)

theorem half (n : Nat) : (n : Int).fdiv 2 = ((n / 2 : Nat) : Int) := by
  rw [Int.fdiv_eq_ediv_of_nonneg _ (by omega)]; omega

/-- The turns' bits: 32. -/
theorem zig32 (n : Nat) (h : n < 2 ^ 32) : ∃ v, intV2 .xor .u32 ((n / 2 : Nat) : Int) (IntKind.u32.wrap (0 - ((n % 2 : Nat) : Int))) = some (.int .u32 v) ∧ IntKind.i32.wrap v = zig n := by
  have hb : IntKind.u32.bits = 32 := rfl
  refine ⟨_, rfl, ?_⟩
  rw [hb]
  rcases Nat.mod_two_eq_zero_or_one n with h2 | h2
  · rw [h2]
    have : IntKind.u32.wrap (0 - ((0 : Nat) : Int)) = 0 := by decide
    rw [this, xor0 32 (n / 2) (by omega), wrap_nat .u32 rfl _ (show n / 2 < 2 ^ 32 by omega)]
    simp only [zig, h2, if_true]
    rw [IntKind.wrap_i32]; omega
  · rw [h2]
    have : IntKind.u32.wrap (0 - ((1 : Nat) : Int)) = ((2 ^ 32 - 1 : Nat) : Int) := by decide
    rw [this, ofInt_ones, xor1 32 (n / 2) (by omega), wrap_nat .u32 rfl _ (show 2 ^ 32 - 1 - n / 2 < 2 ^ 32 by omega)]
    simp only [zig, h2, show ¬ (1 = 0) by omega, if_false]
    rw [IntKind.wrap_i32]; omega

/-- 64. -/
theorem zig64 (n : Nat) (h : n < 2 ^ 64) : ∃ v, intV2 .xor .u64 ((n / 2 : Nat) : Int) (IntKind.u64.wrap (0 - ((n % 2 : Nat) : Int))) = some (.int .u64 v) ∧ IntKind.i64.wrap v = zig n := by
  have hb : IntKind.u64.bits = 64 := rfl
  refine ⟨_, rfl, ?_⟩
  rw [hb]
  rcases Nat.mod_two_eq_zero_or_one n with h2 | h2
  · rw [h2]
    have : IntKind.u64.wrap (0 - ((0 : Nat) : Int)) = 0 := by decide
    rw [this, xor0 64 (n / 2) (by omega), wrap_nat .u64 rfl _ (show n / 2 < 2 ^ 64 by omega)]
    simp only [zig, h2, if_true]
    rw [IntKind.wrap_i64]; omega
  · rw [h2]
    have : IntKind.u64.wrap (0 - ((1 : Nat) : Int)) = ((2 ^ 64 - 1 : Nat) : Int) := by decide
    rw [this, ofInt_ones, xor1 64 (n / 2) (by omega), wrap_nat .u64 rfl _ (show 2 ^ 64 - 1 - n / 2 < 2 ^ 64 by omega)]
    simp only [zig, h2, show ¬ (1 = 0) by omega, if_false]
    rw [IntKind.wrap_i64]; omega

def p_varint (u : FuncId) : FnP := ⟨.op (.call u) [.s 0] 1 <|
  .op (.ex 0) [.s 1] 2 <|
  .op (.ex 1) [.s 1] 3 <|
  .op (.sh .shr) [.s 2, .k (.int .u64 1)] 4 <|
  .op (.bin .and) [.s 2, .k (.int .u32 1)] 5 <|
  .op .neg [.s 5] 6 <|
  .op (.int2 .xor) [.s 4, .s 6] 7 <|
  .op (.cv .i32) [.s 7] 8 <|
  .ret [.s 8, .s 3], [.direct, .direct]⟩

def p_varlong (u : FuncId) : FnP := ⟨.op (.call u) [.s 0] 1 <|
  .op (.ex 0) [.s 1] 2 <|
  .op (.ex 1) [.s 1] 3 <|
  .op (.sh .shr) [.s 2, .k (.int .u64 1)] 4 <|
  .op (.bin .and) [.s 2, .k (.int .u64 1)] 5 <|
  .op .neg [.s 5] 6 <|
  .op (.int2 .xor) [.s 4, .s 6] 7 <|
  .op (.cv .i64) [.s 7] 8 <|
  .ret [.s 8, .s 3], [.direct, .direct]⟩

/-- A number in turns, and how many octets it took. -/
def KZ (P : Program) (f : FuncId) (kd : IntKind) (dec : Bs → Option (Int × Bs)) : Prop :=
  ∀ (ok : Nat → Prop) (w : World) (v : Value) (bs : Bs) (K : Value → World → Prop), Sl ok w v bs →
    (∀ (n k : Int), (match dec bs with | some (x, r) => n = x ∧ k = ((bs.length - r.length : Nat) : Int) | none => k ≤ 0) → K (.tuple #[.int kd n, .int .i64 k]) w) → In.wp P (.call f) [v] w K

theorem and1 (n : Nat) : n &&& 1 = n % 2 := Nat.and_two_pow_sub_one_eq_mod n 1

theorem varint_ok (hn : Named P) {f u : FuncId} (hf : fnP P f 1 = some (p_varint u)) (hu : KUv P u) : KZ P f .i32 rdVi := by
  intro ok w v bs K hsl hk
  refine calls_of_np hn (vs := [v]) hf fun η hη => ?_
  have h0 : η 0 = v := hη 0 (by simp)
  refine np_op (vs := [v]) (by simp [SV.val, h0]) (hu ok w v bs _ hsl fun n k hnk => ?_)
  refine np_op (vs := [.tuple #[.int .u32 n, .int .i64 k]]) (by simp [SV.val, upd]) ⟨_, _, rfl, rfl, ?_⟩
  refine np_op (vs := [.tuple #[.int .u32 n, .int .i64 k]]) (by simp [SV.val, upd]) ⟨_, _, rfl, rfl, ?_⟩
  obtain ⟨a4, h4⟩ : ∃ z, z = n.fdiv (2 ^ (min 1 IntKind.u32.bits)) := ⟨_, rfl⟩
  obtain ⟨a5, h5⟩ : ∃ z, binV .and .u32 n 1 = some (.int .u32 z) := ⟨_, rfl⟩
  obtain ⟨a7, h7⟩ : ∃ z, intV2 .xor .u32 a4 (IntKind.u32.wrap (0 - a5)) = some (.int .u32 z) := ⟨_, rfl⟩
  refine np_op (vs := [.int .u32 n, .int .u64 ((1 : Nat) : Int)]) (by simp [SV.val, upd]) ⟨.u32, _, .u64, 1, .int .u32 a4, rfl, by rw [h4]; rfl, ?_⟩
  refine np_op (vs := [.int .u32 n, .int .u32 1]) (by simp [SV.val, upd]) ⟨.u32, _, _, _, rfl, h5, ?_⟩
  refine np_op (vs := [.int .u32 a5]) (by simp [SV.val, upd]) ⟨.u32, _, rfl, ?_⟩
  refine np_op (vs := [.int .u32 a4, .int .u32 (IntKind.u32.wrap (0 - a5))]) (by simp [SV.val, upd]) ⟨.u32, _, _, _, rfl, h7, ?_⟩
  refine np_op (vs := [.int .u32 a7]) (by simp [SV.val, upd]) ⟨.u32, _, rfl, ?_⟩
  show K (pack [_, _]) w
  have := hk (IntKind.i32.wrap a7) k (by
    unfold rdVi
    cases hr : rdUv bs with
    | none => rw [hr] at hnk; exact hnk
    | some p =>
      rw [hr] at hnk
      obtain ⟨rfl, h2⟩ := hnk
      have hlt := (rdUv_some hr).1
      refine ⟨?_, h2⟩
      have e4 : a4 = ((p.1 / 2 : Nat) : Int) := by
        rw [h4, show min 1 IntKind.u32.bits = 1 from rfl, Int.pow_one]; exact half p.1
      have hand := and_nat .u32 rfl p.1 1 hlt (by decide)
      rw [and1] at hand
      have e5 : a5 = ((p.1 % 2 : Nat) : Int) := by
        have := h5.symm.trans hand
        simpa using this
      subst e4 e5
      obtain ⟨x, hx, hz⟩ := zig32 p.1 hlt
      have : a7 = x := by
        have := h7.symm.trans hx
        simpa using this
      rw [this, hz])
  simpa [SV.val, upd, pack] using this

theorem varlong_ok (hn : Named P) {f u : FuncId} (hf : fnP P f 1 = some (p_varlong u)) (hu : KUl P u) : KZ P f .i64 rdVl := by
  intro ok w v bs K hsl hk
  refine calls_of_np hn (vs := [v]) hf fun η hη => ?_
  have h0 : η 0 = v := hη 0 (by simp)
  refine np_op (vs := [v]) (by simp [SV.val, h0]) (hu ok w v bs _ hsl fun n k hnk => ?_)
  refine np_op (vs := [.tuple #[.int .u64 n, .int .i64 k]]) (by simp [SV.val, upd]) ⟨_, _, rfl, rfl, ?_⟩
  refine np_op (vs := [.tuple #[.int .u64 n, .int .i64 k]]) (by simp [SV.val, upd]) ⟨_, _, rfl, rfl, ?_⟩
  obtain ⟨a4, h4⟩ : ∃ z, z = n.fdiv (2 ^ (min 1 IntKind.u64.bits)) := ⟨_, rfl⟩
  obtain ⟨a5, h5⟩ : ∃ z, binV .and .u64 n 1 = some (.int .u64 z) := ⟨_, rfl⟩
  obtain ⟨a7, h7⟩ : ∃ z, intV2 .xor .u64 a4 (IntKind.u64.wrap (0 - a5)) = some (.int .u64 z) := ⟨_, rfl⟩
  refine np_op (vs := [.int .u64 n, .int .u64 ((1 : Nat) : Int)]) (by simp [SV.val, upd]) ⟨.u64, _, .u64, 1, .int .u64 a4, rfl, by rw [h4]; rfl, ?_⟩
  refine np_op (vs := [.int .u64 n, .int .u64 1]) (by simp [SV.val, upd]) ⟨.u64, _, _, _, rfl, h5, ?_⟩
  refine np_op (vs := [.int .u64 a5]) (by simp [SV.val, upd]) ⟨.u64, _, rfl, ?_⟩
  refine np_op (vs := [.int .u64 a4, .int .u64 (IntKind.u64.wrap (0 - a5))]) (by simp [SV.val, upd]) ⟨.u64, _, _, _, rfl, h7, ?_⟩
  refine np_op (vs := [.int .u64 a7]) (by simp [SV.val, upd]) ⟨.u64, _, rfl, ?_⟩
  show K (pack [_, _]) w
  have := hk (IntKind.i64.wrap a7) k (by
    unfold rdVl
    cases hr : rdUl bs with
    | none => rw [hr] at hnk; exact hnk
    | some p =>
      rw [hr] at hnk
      obtain ⟨rfl, h2⟩ := hnk
      have hlt := (rdUl_some hr).1
      refine ⟨?_, h2⟩
      have e4 : a4 = ((p.1 / 2 : Nat) : Int) := by
        rw [h4, show min 1 IntKind.u64.bits = 1 from rfl, Int.pow_one]; exact half p.1
      have hand := and_nat .u64 rfl p.1 1 hlt (by decide)
      rw [and1] at hand
      have e5 : a5 = ((p.1 % 2 : Nat) : Int) := by
        have := h5.symm.trans hand
        simpa using this
      subst e4 e5
      obtain ⟨x, hx, hz⟩ := zig64 p.1 hlt
      have : a7 = x := by
        have := h7.symm.trans hx
        simpa using this
      rw [this, hz])
  simpa [SV.val, upd, pack] using this

def p_rNum (c : FuncId) (kd : IntKind) : FnP := ⟨.chk 0 <|
  .op .load [.q 0 0] 1 <|
  .op (.call c) [.s 1] 2 <|
  .op (.ex 0) [.s 2] 3 <|
  .op (.ex 1) [.s 2] 4 <|
  .op (.bin .leq) [.s 4, .k (.int .i64 0)] 5 <|
  .ite (.s 5)
    (.op (.store 1) [.q 0 1, .k (.bool true)] 6 <|
    .op (.store 1) [.q 0 0, .k (.slice none 0 0)] 7 <|
    .ret [.k (.int kd 0)])
    (.nil) <|
  .op .load [.q 0 0] 8 <|
  .op (.sl 1 true false false) [.s 8, .s 4] 9 <|
  .op (.store 1) [.q 0 0, .s 9] 10 <|
  .ret [.s 3], [.direct]⟩

theorem rNum_ok (hn : Named P) {f c : FuncId} {kd : IntKind} {dec : Bs → Option (Int × Bs)} (hf : fnP P f 1 = some (p_rNum c kd)) (hu : KZ P c kd dec) (hd : ∀ bs x r, dec bs = some (x, r) → r <:+ bs ∧ r.length < bs.length) (hd0 : dec [] = none) :
    Reads P f dec (intRep kd) (· = .int kd 0) := by
  intro ok w R nn s K he hs hk
  refine calls_of_np hn (vs := [ptr R]) hf fun η hη => ?_
  have h0 : η 0 = ptr R := hη 0 (by simp)
  obtain ⟨src, hrow, hsl, hbad⟩ := rd_row hs
  obtain ⟨a, c', hsrc, hc⟩ := sl_slice hsl
  refine ⟨⟨_, h0⟩, ?_⟩
  refine np_op (vs := [ptr R]) (by simp [SV.val, h0, Addr.add]) (wp_load hrow rfl ?_)
  refine np_op (vs := [src]) (by simp [SV.val, upd]) (hu ok w src (s.getD []) _ hsl fun n k hnk => ?_)
  refine np_op (vs := [.tuple #[.int kd n, .int .i64 k]]) (by simp [SV.val, upd]) ⟨_, _, rfl, rfl, ?_⟩
  refine np_op (vs := [.tuple #[.int kd n, .int .i64 k]]) (by simp [SV.val, upd]) ⟨_, _, rfl, rfl, ?_⟩
  refine np_op (vs := [.int .i64 k, .int .i64 0]) (by simp [SV.val, upd]) ⟨.i64, _, _, _, rfl, rfl, ?_⟩
  refine np_ite (decide (k ≤ 0)) (by simp [SV.val, upd]) ?_
  have hnone : s.bind dec = dec (s.getD []) := by
    cases s with
    | none => exact hd0.symm
    | some bs => rfl
  cases hr : dec (s.getD []) with
  | none =>
    rw [hr] at hnk
    simp only [hnk, decide_true, if_true]
    refine spoil hrow (by simp [upd, h0]) (by simp) fun w1 k1 r1 => ?_
    refine hk _ w1 k1 ?_
    simp only [ReadEnd, hnone, hr]
    exact ⟨r1, rfl⟩
  | some x =>
    obtain ⟨x, r⟩ := x
    rw [hr] at hnk
    obtain ⟨rfl, rfl⟩ := hnk
    obtain ⟨hsuf, hlt⟩ := hd _ _ _ hr
    have hne : ¬ (((((s.getD []).length - r.length : Nat) : Int)) ≤ 0) := by omega
    simp only [hne, decide_false, Bool.false_eq_true, if_false]
    cases s with
    | none => simp only [Option.getD_none] at hr; rw [hd0] at hr; cases hr
    | some bs =>
      simp only [Option.getD_some, Option.bind_some] at *
      obtain ⟨ad, c', h2, h3, h4⟩ := sl_some hsl (by intro h; subst h; simp at hlt)
      refine np_op (vs := [ptr R]) (by simp [SV.val, upd, h0, add0]) (wp_load hrow rfl ?_)
      refine np_op (vs := [src, .int .i64 ((bs.length - r.length : Nat) : Int)]) (by simp [SV.val, upd]) ⟨some ad, bs.length, c', _, by rw [h2], ?_⟩
      simp only [bnd, if_true, Bool.false_eq_true, if_false]
      refine ⟨.i64, bs.length - r.length, [], rfl, rfl, by omega, h3, Nat.le_refl _, ?_⟩
      obtain ⟨g1, g2⟩ := sl_drop (n := bs.length - r.length) h4 h3 (by omega)
      refine np_op (vs := [ptr R, _]) (by simp [SV.val, upd, h0, add0]) (wp_store hrow (Sl.fit g1) (by simp) fun w1 r1 k1 => ?_)
      refine hk _ w1 k1 ?_
      simp only [ReadEnd, Option.bind_some, hr]
      rw [drop_suffix hsuf] at g1
      refine ⟨rd_after (o := undef) he (by simpa [put, Value.cells] using r1) k1 g1 g2, ?_⟩
      simp [intRep, SV.val, upd, pack]

theorem rdVi_suf (bs : Bs) (x : Int) (r : Bs) (h : rdVi bs = some (x, r)) : r <:+ bs ∧ r.length < bs.length := by
  refine ⟨?_, (rdVi_lt h).1⟩
  simp only [rdVi, Option.map_eq_some_iff] at h
  obtain ⟨⟨m, r'⟩, h1, h2⟩ := h
  cases h2
  exact rdV_suffix 4 _ _ _ h1

theorem rdVl_suf (bs : Bs) (x : Int) (r : Bs) (h : rdVl bs = some (x, r)) : r <:+ bs ∧ r.length < bs.length := by
  refine ⟨?_, (rdVl_lt h).1⟩
  simp only [rdVl, Option.map_eq_some_iff] at h
  obtain ⟨⟨m, r'⟩, h1, h2⟩ := h
  cases h2
  exact rdG_suffix 1 9 _ _ _ h1

def p_rVarintBytes (rVarint rSpan : FuncId) : FnP := ⟨.op (.call rVarint) [.s 0] 1 <|
  .op (.bin .lss) [.s 1, .k (.int .i32 0)] 2 <|
  .ite (.s 2)
    (.ret [.k (.slice none 0 0)])
    (.nil) <|
  .op (.cv .i64) [.s 1] 3 <|
  .op (.call rSpan) [.s 0, .s 3] 4 <|
  .ret [.s 4], [.direct]⟩

def ocRep : (Nat → Prop) → World → Option Bs → Value → Prop := fun ok w x v => match x with
  | none => v = .slice none 0 0
  | some l => Sl ok w v l ∧ v ≠ .slice none 0 0

theorem rVarintBytes_ok (hn : Named P) {f fV fS : FuncId} (hf : fnP P f 1 = some (p_rVarintBytes fV fS)) (hV : Reads P fV rdVi (intRep .i32) (· = .int .i32 0)) (hS : Spans P fS) : Reads P f rdOc ocRep (· = .slice none 0 0) := by
  intro ok w R nn s K he hs hk
  refine calls_of_np hn (vs := [ptr R]) hf fun η hη => ?_
  have h0 : η 0 = ptr R := hη 0 (by simp)
  refine np_op (vs := [ptr R]) (by simp [SV.val, h0]) (hV ok w R nn s _ he hs fun v w1 k1 hend => ?_)
  unfold ReadEnd at hend
  cases hq : s.bind rdVi with
  | none =>
    rw [hq] at hend
    obtain ⟨h1, rfl⟩ := hend
    refine np_op (vs := [.int .i32 0, .int .i32 0]) (by simp [SV.val, upd]) ⟨.i32, _, _, _, rfl, rfl, ?_⟩
    refine np_ite false (by simp [SV.val, upd]) ?_
    refine np_op (vs := [.int .i32 0]) (by simp [SV.val, upd]) ⟨.i32, _, rfl, ?_⟩
    refine np_op (vs := [ptr R, .int .i64 0]) (by simp [SV.val, upd, h0, wrap64]) (hS ok w1 R false none 0 _ (he.keep k1) h1 fun v w2 k2 h2 => ?_)
    obtain ⟨h3, rfl⟩ := h2
    refine hk _ w2 (k1.then k2) ?_
    unfold ReadEnd
    have : s.bind rdOc = none := by
      cases s with
      | none => rfl
      | some bs => simp only [Option.bind_some] at hq ⊢; simp [rdOc, hq]
    rw [this]
    exact ⟨h3, by simp [SV.val, upd, pack]⟩
  | some p =>
    obtain ⟨n, r⟩ := p
    rw [hq] at hend
    obtain ⟨h1, rfl⟩ := hend
    have hlim : -2147483648 ≤ n ∧ n < 2147483648 := by
      cases s with
      | none => cases hq
      | some bs => exact (rdVi_lt hq).2
    refine np_op (vs := [.int .i32 n, .int .i32 0]) (by simp [SV.val, upd]) ⟨.i32, _, _, _, rfl, rfl, ?_⟩
    refine np_ite (decide (n < 0)) (by simp [SV.val, upd]) ?_
    by_cases hneg : n < 0
    · simp only [hneg, decide_true, if_true]
      refine hk _ w1 k1 ?_
      unfold ReadEnd
      have : s.bind rdOc = some (none, r) := by
        cases s with
        | none => cases hq
        | some bs => simp only [Option.bind_some] at hq ⊢; simp [rdOc, hq, hneg]
      rw [this]
      exact ⟨h1, by simp [SV.val, pack, ocRep]⟩
    · simp only [hneg, decide_false, Bool.false_eq_true, if_false]
      refine np_op (vs := [.int .i32 n]) (by simp [SV.val, upd]) ⟨.i32, _, rfl, ?_⟩
      rw [wrap64 n (by omega) (by omega)]
      refine np_op (vs := [ptr R, .int .i64 n]) (by simp [SV.val, upd, h0]) (hS ok w1 R true (some r) n _ (he.keep k1) h1 fun v w2 k2 h2 => ?_)
      refine hk _ w2 (k1.then k2) ?_
      have hoc : s.bind rdOc = (rdSpan n r).map fun q => (some q.1, q.2) := by
        cases s with
        | none => cases hq
        | some bs => simp only [Option.bind_some] at hq ⊢; simp [rdOc, hq, hneg]
      unfold SpanEnd at h2
      simp only [Option.bind_some] at h2
      unfold ReadEnd
      rw [hoc]
      cases hsp : rdSpan n r with
      | none =>
        rw [hsp] at h2
        obtain ⟨h3, rfl⟩ := h2
        exact ⟨h3, by simp [SV.val, upd, pack]⟩
      | some q =>
        rw [hsp] at h2
        obtain ⟨h3, h4, h5⟩ := h2
        exact ⟨h3, by simpa [SV.val, upd, pack, ocRep] using ⟨h4, h5 trivial⟩⟩

def p_rVarintString (rB : FuncId) : FnP := ⟨.op (.call rB) [.s 0] 1 <|
  .op .toStr [.s 1] 2 <|
  .ret [.s 2], [.direct]⟩

def rdT (bs : Bs) : Option (Bs × Bs) := (rdOc bs).map fun p => (p.1.getD [], p.2)
def strRep : (Nat → Prop) → World → Bs → Value → Prop := fun _ _ l v => v = .string ⟨l.toArray⟩

theorem rVarintString_ok (hn : Named P) {f fB : FuncId} (hf : fnP P f 1 = some (p_rVarintString fB)) (hB : Reads P fB rdOc ocRep (· = .slice none 0 0)) : Reads P f rdT strRep (· = .string ⟨([] : Bs).toArray⟩) := by
  intro ok w R nn s K he hs hk
  refine calls_of_np hn (vs := [ptr R]) hf fun η hη => ?_
  have h0 : η 0 = ptr R := hη 0 (by simp)
  refine np_op (vs := [ptr R]) (by simp [SV.val, h0]) (hB ok w R nn s _ he hs fun v w1 k1 hend => ?_)
  have hb : s.bind rdT = (s.bind rdOc).map fun p => (p.1.getD [], p.2) := by cases s <;> rfl
  unfold ReadEnd at hend
  cases hq : s.bind rdOc with
  | none =>
    rw [hq] at hend
    obtain ⟨h1, rfl⟩ := hend
    refine np_op (vs := [.slice none 0 0]) (by simp [SV.val, upd]) ⟨_, [], rfl, .inl ⟨rfl, rfl⟩, ?_⟩
    refine hk _ w1 k1 ?_
    unfold ReadEnd
    rw [hb, hq]
    exact ⟨h1, by simp [SV.val, upd, pack]⟩
  | some p =>
    obtain ⟨x, r⟩ := p
    rw [hq] at hend
    obtain ⟨h1, h2⟩ := hend
    have hs0 : Sl0 w1 v (x.getD []) := by
      cases x with
      | none => exact .inl ⟨h2, rfl⟩
      | some l => exact h2.1.sl0
    refine np_op (vs := [v]) (by simp [SV.val, upd]) ⟨_, x.getD [], rfl, hs0, ?_⟩
    refine hk _ w1 k1 ?_
    unfold ReadEnd
    rw [hb, hq]
    exact ⟨h1, by simp [SV.val, upd, pack, strRep]⟩

def p_rVarintArrayLen (rV : FuncId) : FnP := ⟨.op (.call rV) [.s 0] 1 <|
  .chk 0 <|
  .op .load [.q 0 0] 2 <|
  .op .len [.s 2] 3 <|
  .op (.cv .i64) [.s 1] 4 <|
  .op (.bin .lss) [.s 3, .s 4] 5 <|
  .ite (.s 5)
    (.op (.store 1) [.q 0 1, .k (.bool true)] 6 <|
    .op (.store 1) [.q 0 0, .k (.slice none 0 0)] 7 <|
    .ret [.k (.int .i32 0)])
    (.nil) <|
  .ret [.s 1], [.direct]⟩

/-- A count: no more than there are octets left. -/
def rdCnt (bs : Bs) : Option (Int × Bs) := (rdVi bs).bind fun p => if (p.2.length : Int) < p.1 then none else some p

theorem rVarintArrayLen_ok (hn : Named P) {f fV : FuncId} (hf : fnP P f 1 = some (p_rVarintArrayLen fV)) (hV : Reads P fV rdVi (intRep .i32) (· = .int .i32 0)) : Reads P f rdCnt (intRep .i32) (· = .int .i32 0) := by
  intro ok w R nn s K he hs hk
  refine calls_of_np hn (vs := [ptr R]) hf fun η hη => ?_
  have h0 : η 0 = ptr R := hη 0 (by simp)
  refine np_op (vs := [ptr R]) (by simp [SV.val, h0]) (hV ok w R nn s _ he hs fun v w1 k1 hend => ?_)
  have hb : s.bind rdCnt = (s.bind rdVi).bind fun p => if (p.2.length : Int) < p.1 then none else some p := by cases s <;> rfl
  have hvn : ∃ (n : Int) (s' : Option Bs) (nn' : Bool), v = .int .i32 n ∧ Rd ok w1 R nn' s' ∧ -2147483648 ≤ n ∧ n < 2147483648 ∧ (match s.bind rdVi with | some (x, r) => n = x ∧ s' = some r ∧ nn' = true | none => n = 0 ∧ s' = none ∧ nn' = false) := by
    unfold ReadEnd at hend
    cases hq : s.bind rdVi with
    | none => rw [hq] at hend; exact ⟨0, none, false, hend.2, hend.1, by omega, by omega, rfl, rfl, rfl⟩
    | some p =>
      obtain ⟨x, r⟩ := p
      rw [hq] at hend
      have hlim : -2147483648 ≤ x ∧ x < 2147483648 := by
        cases s with
        | none => cases hq
        | some bs => exact (rdVi_lt hq).2
      exact ⟨x, some r, true, hend.2, hend.1, hlim.1, hlim.2, rfl, rfl, rfl⟩
  obtain ⟨n, s', nn', rfl, hs', l1, l2, hm⟩ := hvn
  obtain ⟨src, hrow, hsl, hbad⟩ := rd_row hs'
  obtain ⟨a, c, hsrc, hc⟩ := sl_slice hsl
  refine ⟨⟨_, by simpa [upd] using h0⟩, ?_⟩
  refine np_op (vs := [ptr R]) (by simp [SV.val, upd, h0, Addr.add]) (wp_load hrow rfl ?_)
  refine np_op (vs := [src]) (by simp [SV.val, upd]) ⟨a, _, c, by rw [hsrc], ?_⟩
  refine np_op (vs := [.int .i32 n]) (by simp [SV.val, upd]) ⟨.i32, _, rfl, ?_⟩
  rw [wrap64 n (by omega) (by omega)]
  refine np_op (vs := [goInt (s'.getD []).length, .int .i64 n]) (by simp [SV.val, upd]) ⟨.i64, _, _, _, rfl, rfl, ?_⟩
  refine np_ite (decide (((s'.getD []).length : Int) < n)) (by simp [SV.val, upd]) ?_
  by_cases hlt : ((s'.getD []).length : Int) < n
  · simp only [hlt, decide_true, if_true]
    refine spoil hrow (by simp [upd, h0]) (by simp) fun w2 k2 r2 => ?_
    refine hk _ w2 (k1.then k2) ?_
    unfold ReadEnd
    have : s.bind rdCnt = none := by
      rw [hb]
      cases hq : s.bind rdVi with
      | none => rfl
      | some p =>
        obtain ⟨x, r⟩ := p
        rw [hq] at hm
        obtain ⟨rfl, rfl, rfl⟩ := hm
        simp only [Option.getD_some] at hlt
        simp [hlt]
    rw [this]
    exact ⟨r2, rfl⟩
  · simp only [hlt, decide_false, Bool.false_eq_true, if_false]
    refine hk _ w1 k1 ?_
    unfold ReadEnd
    rw [hb]
    cases hq : s.bind rdVi with
    | none =>
      rw [hq] at hm
      obtain ⟨rfl, rfl, rfl⟩ := hm
      exact ⟨hs', by simp [SV.val, upd, pack]⟩
    | some p =>
      obtain ⟨x, r⟩ := p
      rw [hq] at hm
      obtain ⟨rfl, rfl, rfl⟩ := hm
      simp only [Option.getD_some] at hlt
      simp only [Option.bind_some, hlt, if_false]
      exact ⟨hs', by simp [SV.val, upd, pack, intRep]⟩

end
end Go.Ar

/- How the package reads a record. -/
namespace Go.Ar
open Go.Lx Go.Nx Go.Km Go.Mx Go.Kb

set_option linter.unusedSimpArgs false
set_option linter.unusedVariables false

abbrev Post := Out → (Nat → Value) → World → Prop

section
variable {P : Program}

theorem iT {c : SV} {a b k : NP} {Q : Post} {η : Nat → Value} {w : World} (hc : c.val η = .bool true) (h : a.wp P (fun o η w => match o with | .nrm => k.wp P Q η w | o => Q o η w) η w) : (NP.ite c a b k).wp P Q η w :=
  ⟨true, hc, fun _ => h, fun h => (by cases h)⟩
theorem iF {c : SV} {a b k : NP} {Q : Post} {η : Nat → Value} {w : World} (hc : c.val η = .bool false) (h : b.wp P (fun o η w => match o with | .nrm => k.wp P Q η w | o => Q o η w) η w) : (NP.ite c a b k).wp P Q η w :=
  ⟨false, hc, fun h => (by cases h), fun _ => h⟩

/-- A loop: so many rounds at most, a word that holds at each round's beginning. -/
theorem lp {b k : NP} {Q : Post} {η : Nat → Value} {w : World} (I : Nat → (Nat → Value) → World → Prop) (n : Nat) (h0 : I n η w)
    (hr : ∀ m η w, I m η w → b.wp P (fun o η w => match o with | .nrm => (∃ j, j < m ∧ I j η w) | .ext => k.wp P Q η w | o => Q o η w) η w) : (NP.loop b k).wp P Q η w := by
  refine ⟨n + 1, ?_⟩
  have key : ∀ n m η w, m ≤ n → I m η w → roundsP (b.wp P) (fun o η w => match o with | .ext => k.wp P Q η w | o => Q o η w) (n + 1) η w := by
    intro n
    induction n with
    | zero =>
      intro m η w hm hi
      have hm0 : m = 0 := by omega
      subst hm0
      refine NP.wp_mono _ _ _ _ _ ?_ (hr 0 η w hi)
      intro o η w ho
      cases o with
      | nrm => obtain ⟨j, hj, _⟩ := ho; omega
      | ext => exact ho
      | ret vs => exact ho
    | succ n ih =>
      intro m η w hm hi
      refine NP.wp_mono _ _ _ _ _ ?_ (hr m η w hi)
      intro o η w ho
      cases o with
      | nrm => obtain ⟨j, hj, hi'⟩ := ho; exact ih j η w (by omega) hi'
      | ext => exact ho
      | ret vs => exact ho
  exact key n n η w (Nat.le_refl _) h0

/-- A value of one cell. -/
def One (v : Value) : Prop := v.cells = #[v] ∧ v.oneCell' = true
theorem One.fit {v : Value} (h : One v) : Fit 1 v := Fit.one h.1 h.2
theorem One.list {v : Value} (h : One v) : v.cells.toList = [v] := by rw [h.1]
theorem One.sl {ok : Nat → Prop} {w : World} {v : Value} {bs : Bs} (h : Sl ok w v bs) : One v := by
  rcases h with ⟨rfl, _⟩ | ⟨a, c, rfl, _⟩ <;> exact ⟨rfl, rfl⟩

/-- What is left behind a read. -/
def nxt {α : Type} (dec : Bs → Option (α × Bs)) (s : Option Bs) : Option Bs := (s.bind dec).map (·.2)

structure Good {α : Type} (rep : (Nat → Prop) → World → α → Value → Prop) (zr : Value → Prop) : Prop where
  same : ∀ ok w w' x v, rep ok w x v → Same ok w w' → rep ok w' x v
  one : ∀ ok w x v, rep ok w x v → One v
  zero : ∀ v, zr v → One v

theorem good_int (k : IntKind) : Good (intRep k) (· = .int k 0) := ⟨fun _ _ _ _ _ h _ => h, fun _ _ _ v h => by rw [show v = _ from h]; exact ⟨rfl, rfl⟩, fun v h => by rw [show v = _ from h]; exact ⟨rfl, rfl⟩⟩
theorem good_str : Good strRep (· = .string ⟨([] : Bs).toArray⟩) := ⟨fun _ _ _ _ _ h _ => h, fun _ _ _ v h => by rw [show v = _ from h]; exact ⟨rfl, rfl⟩, fun v h => by rw [show v = _ from h]; exact ⟨rfl, rfl⟩⟩
theorem good_oc : Good ocRep (· = .slice none 0 0) := by
  refine ⟨fun ok w w' x v h k => ?_, fun ok w x v h => ?_, fun v h => by rw [show v = _ from h]; exact ⟨rfl, rfl⟩⟩
  · cases x with
    | none => exact h
    | some l => exact ⟨h.1.same k, h.2⟩
  · cases x with
    | none => rw [show v = _ from h]; exact ⟨rfl, rfl⟩
    | some l => exact One.sl h.1

theorem ocRep.weak {ok ok' : Nat → Prop} {w : World} {x : Option Bs} {v : Value} (h : ocRep ok w x v) (k : ∀ b, b < w.heap.size → ok b → ok' b) : ocRep ok' w x v := by
  cases x with
  | none => exact h
  | some l => exact ⟨h.1.weak k, h.2⟩

/-- What a read leaves: the reader, the value. -/
theorem readEnd {ok : Nat → Prop} {R : Nat} {α : Type} {dec : Bs → Option (α × Bs)} {rep : (Nat → Prop) → World → α → Value → Prop} {zr : Value → Prop} {s : Option Bs} {v : Value} {w : World} (hg : Good rep zr) (h : ReadEnd ok R dec rep zr s v w) :
    (∃ nn, Rd ok w R nn (nxt dec s)) ∧ (∀ x r, s.bind dec = some (x, r) → rep ok w x v) ∧ (s.bind dec = none → zr v) ∧ One v := by
  unfold ReadEnd at h
  unfold nxt
  cases hq : s.bind dec with
  | none => rw [hq] at h; exact ⟨⟨_, h.1⟩, fun _ _ h => (by cases h), fun _ => h.2, hg.zero _ h.2⟩
  | some p => rw [hq] at h; exact ⟨⟨_, h.1⟩, fun x r e => by cases e; exact h.2, fun h => (by cases h), hg.one _ _ _ _ h.2⟩

/-- A read, stored. -/
theorem rd_st {f : FuncId} {α : Type} {dec : Bs → Option (α × Bs)} {rep : (Nat → Prop) → World → α → Value → Prop} {zr : Value → Prop} (h : Reads P f dec rep zr) (hg : Good rep zr)
    {ok : Nat → Prop} {w : World} {R V base o n m j : Nat} {s : Option Bs} {cs : List Value} {k : NP} {Q : Post} {η : Nat → Value}
    (h5 : η 5 = ptr R) (hj : η j = .pointer (some ⟨V, base, none⟩)) (hjn : j ≠ n) (he : Env ok w R) (hrd : ∃ nn, Rd ok w R nn s) (hrow : Row w V cs) (hV : ¬ ok V) (hRV : R ≠ V) (ho : base + o < cs.length)
    (hk : ∀ v w', Keep [R, V] w w' → Row w' V (put cs (base + o) [v]) → (∃ nn, Rd ok w' R nn (nxt dec s)) → (∀ x r, s.bind dec = some (x, r) → rep ok w' x v) → (s.bind dec = none → zr v) → k.wp P Q (upd (upd η n v) m undef) w') :
    (NP.op (.call f) [.q 5 0] n <| NP.op (.store 1) [.q j o, .s n] m k).wp P Q η w := by
  obtain ⟨nn, hrd⟩ := hrd
  refine np_op (vs := [ptr R]) (by simp [SV.val, h5, add0]) (h ok w R nn s _ he hrd fun v w1 k1 hend => ?_)
  obtain ⟨g1, g2, g3, g4⟩ := readEnd hg hend
  refine np_op (vs := [.pointer (some ⟨V, base + o, none⟩), v]) (by simp [SV.val, upd, hj, hjn, Addr.add]) (wp_store (hrow.keep k1 (by simpa using hRV.symm)) g4.fit (by omega) fun w2 r2 k2 => ?_)
  rw [g4.list] at r2
  have k1' : Keep [R, V] w w1 := k1.mono fun x hx _ => by simp at hx ⊢; exact .inl hx
  have k2' : Keep [R, V] w1 w2 := k2.mono fun x hx _ => by simp at hx ⊢; exact .inr hx
  have hA : ∀ x ∈ [V], ¬ ok x := fun x hx => by simp at hx; subst hx; exact hV
  obtain ⟨nn', g1⟩ := g1
  exact hk v w2 (k1'.then k2') r2 ⟨nn', g1.keep k2 (by simpa using hRV) hA⟩ (fun x r e => hg.same _ _ _ _ _ (g2 x r e) (k2.same hA)) g3

structure AI where
  rdef : FuncId
  hdef : FuncId
  rV : FuncId
  r8 : FuncId
  rL : FuncId
  rB : FuncId
  rS : FuncId
  rU : FuncId
  rN : FuncId
  rOk : FuncId
  rC : FuncId

def DefOk (P : Program) (f : FuncId) : Prop := ∀ (v : Value) (w : World) (K : Value → World → Prop), (∀ u, K u w) → In.wp P (.call f) [v] w K

structure AFns (P : Program) (I : AI) (g : Nat) : Prop where
  rdef : DefOk P I.rdef
  hdef : DefOk P I.hdef
  rV : Reads P I.rV rdVi (intRep .i32) (· = .int .i32 0)
  r8 : Reads P I.r8 (rdI 1) (intRep .i8) (· = .int .i8 0)
  rL : Reads P I.rL rdVl (intRep .i64) (· = .int .i64 0)
  rB : Reads P I.rB rdOc ocRep (· = .slice none 0 0)
  rS : Reads P I.rS rdT strRep (· = .string ⟨([] : Bs).toArray⟩)
  rN : Reads P I.rN rdCnt (intRep .i32) (· = .int .i32 0)
  rOk : OkFn P I.rOk
  rC : CompleteFn P I.rC g

theorem def_ok (hn : Named P) {f : FuncId} (hf : fnP P f 1 = some ⟨.nil, []⟩) : DefOk P f := fun v w K hk =>
  calls_of_np hn (vs := [v]) hf fun η hη => ⟨rfl, hk _⟩

def rfBody (I : AI) : NP := .op (.bin .lss) [.s 30, .s 22] 31 <|
    .ite (.s 31)
      (.nil)
      (.exit) <|
    .op (.ia 2) [.s 29, .s 30] 32 <|
    .chk 32 <|
    .op (.call I.hdef) [.q 32 0] 33 <|
    .ite (.s 2)
      (.op (.call I.rU) [.q 5 0] 34 <|
      .set 36 (.s 34) <|
      .set 37 (.s 34) <|
      .nil)
      (.op (.call I.rS) [.q 5 0] 35 <|
      .set 36 (.s 35) <|
      .set 37 (.s 35) <|
      .nil) <|
    .op (.store 1) [.q 32 0, .s 37] 38 <|
    .op (.call I.rB) [.q 5 0] 39 <|
    .op (.store 1) [.q 32 1, .s 39] 40 <|
    .op (.bin .add) [.s 30, .k (.int .i32 1)] 41 <|
    .set 42 (.s 41) <|
    .set 30 (.s 42) <|
    .nil

def rfTail (I : AI) : NP := .op (.store 1) [.q 0 7, .s 29] 43 <|
  .op (.call I.rC) [.q 5 0] 44 <|
  .ret [.s 44]

def p_readFrom (I : AI) : FnP := ⟨.op (.call I.rdef) [.s 0] 3 <|
  .op (.lit [.slice none 0 0, .bool false] [0]) [.s 1] 4 <|
  .op (.alloc [.slice none 0 0, .bool false]) [] 5 <|
  .chk 5 <|
  .op (.store 2) [.q 5 0, .s 4] 6 <|
  .op (.call I.rV) [.q 5 0] 7 <|
  .chk 0 <|
  .op (.store 1) [.q 0 0, .s 7] 8 <|
  .op (.call I.r8) [.q 5 0] 9 <|
  .op (.store 1) [.q 0 1, .s 9] 10 <|
  .op (.call I.rL) [.q 5 0] 11 <|
  .op (.store 1) [.q 0 3, .s 11] 12 <|
  .op (.cv .i32) [.s 11] 13 <|
  .op (.store 1) [.q 0 2, .s 13] 14 <|
  .op (.call I.rV) [.q 5 0] 15 <|
  .op (.store 1) [.q 0 4, .s 15] 16 <|
  .op (.call I.rB) [.q 5 0] 17 <|
  .op (.store 1) [.q 0 5, .s 17] 18 <|
  .op (.call I.rB) [.q 5 0] 19 <|
  .op (.store 1) [.q 0 6, .s 19] 20 <|
  .op .load [.q 0 7] 21 <|
  .op (.call I.rN) [.q 5 0] 22 <|
  .op (.call I.rOk) [.q 5 0] 23 <|
  .op .not [.s 23] 24 <|
  .ite (.s 24)
    (.op (.call I.rC) [.q 5 0] 25 <|
    .ret [.s 25])
    (.nil) <|
  .op (.sl 2 false true false) [.s 21, .k (.int .i64 0)] 26 <|
  .op (.bin .gtr) [.s 22, .k (.int .i32 0)] 27 <|
  .ite (.s 27)
    (.op (.appZ [.string ByteArray.empty, .slice none 0 0]) [.s 26, .s 22] 28 <|
    .set 29 (.s 28) <|
    .nil)
    (.set 29 (.s 26) <|
    .nil) <|
  .set 30 (.k (.int .i32 0)) <|
  .loop (rfBody I) <|
  rfTail I, [.direct]⟩

/-- Headers in cells: two each. -/
def HdsC (ok : Nat → Prop) (w : World) (l : List Hd) (cs : List Value) : Prop :=
  ∀ i (h : i < l.length), cs[i * 2]? = some (.string ⟨(l[i]).1.toArray⟩) ∧ ∃ u, cs[i * 2 + 1]? = some u ∧ ocRep ok w (l[i]).2 u

theorem HdsC.same {ok : Nat → Prop} {w w' : World} {l : List Hd} {cs : List Value} (h : HdsC ok w l cs) (k : Same ok w w') : HdsC ok w' l cs := fun i hi => by
  obtain ⟨h1, u, h2, h3⟩ := h i hi
  exact ⟨h1, u, h2, good_oc.same _ _ _ _ _ h3 k⟩

theorem HdsC.weak {ok ok' : Nat → Prop} {w : World} {l : List Hd} {cs : List Value} (h : HdsC ok w l cs) (k : ∀ b, b < w.heap.size → ok b → ok' b) : HdsC ok' w l cs := fun i hi => by
  obtain ⟨h1, u, h2, h3⟩ := h i hi
  exact ⟨h1, u, h2, h3.weak k⟩

def HsRep (ok : Nat → Prop) (w : World) (l : List Hd) (v : Value) : Prop :=
  (l = [] ∧ v = .slice none 0 0) ∨ ∃ H c cs, v = .slice (some ⟨H, 0, none⟩) l.length c ∧ ok H ∧ Row w H cs ∧ cs.length = c * 2 ∧ l.length ≤ c ∧ HdsC ok w l cs

/-- A record in cells, as the package has it. -/
def RecC (ok : Nat → Prop) (w : World) (x : Rec) (cs : List Value) : Prop :=
  ∃ td key val hs, cs = [.int .i32 x.len, .int .i8 x.attr, td, .int .i64 x.delta, .int .i32 x.off, key, val, hs] ∧ ocRep ok w x.key key ∧ ocRep ok w x.val val ∧ HsRep ok w x.hs hs

theorem rdHs_snoc : ∀ (n : Nat) (bs : Bs), rdHs (n + 1) bs = (rdHs n bs).bind fun p => (rdHd p.2).map fun q => (p.1 ++ [q.1], q.2) := by
  intro n
  induction n with
  | zero =>
    intro bs
    simp only [rdHs, Option.bind_some]
    cases rdHd bs with
    | none => rfl
    | some p => rfl
  | succ n ih =>
    intro bs
    have e1 : rdHs (n + 1 + 1) bs = (rdHd bs).bind fun p => (rdHs (n + 1) p.2).map fun q => (p.1 :: q.1, q.2) := rfl
    have e2 : rdHs (n + 1) bs = (rdHd bs).bind fun p => (rdHs n p.2).map fun q => (p.1 :: q.1, q.2) := rfl
    rw [e1, e2]
    cases h : rdHd bs with
    | none => rfl
    | some p =>
      simp only [Option.bind_some, ih p.2]
      cases h2 : rdHs n p.2 with
      | none => rfl
      | some q =>
        simp only [Option.bind_some, Option.map_some]
        cases h3 : rdHd q.2 with
        | none => rfl
        | some z => rfl

def zV : List Value := [.int .i32 0, .int .i8 0, .int .i32 0, .int .i64 0, .int .i32 0, .slice none 0 0, .slice none 0 0, .slice none 0 0]

/-- A round's place. -/
structure RIn (I : AI) (ok : Nat → Prop) (w0 : World) (V R H cap : Nat) (csV : List Value) (N : Nat) (n : Int) (b7 : Bs) (i : Nat) (η : Nat → Value) (w : World) : Prop where
  hi : η 30 = .int .i32 i
  hu : η 29 = .slice (some ⟨H, 0, none⟩) N cap
  hn : η 22 = .int .i32 n
  hv : η 0 = ptr V
  hr : η 5 = ptr R
  hs : η 2 = .bool false
  keep : Keep [R, H] w0 w
  rowV : Row w V csV
  rowH : ∃ cs, Row w H cs ∧ cs.length = cap * 2 ∧ ∀ l r, rdHs i b7 = some (l, r) → HdsC ok w l cs
  rd : ∃ nn, Rd ok w R nn ((rdHs i b7).map (·.2))

theorem round_ok {I : AI} {g : Nat} (F : AFns P I g) {ok : Nat → Prop} {w0 : World} {V R H cap : Nat} {csV : List Value} {N : Nat} {b7 : Bs} {i : Nat} {η : Nat → Value} {w : World} {Q : Post}
    (he : Env ok w0 R) (hH : ¬ ok H) (hRH : R ≠ H) (hVH : V ≠ H) (hVR : V ≠ R) (hN : N ≤ cap) (hNb : N < 2147483648) (hi : i < N) (h : RIn I ok w0 V R H cap csV N (N : Int) b7 i η w)
    (hk : ∀ η' w', RIn I ok w0 V R H cap csV N (N : Int) b7 (i + 1) η' w' → Q .nrm η' w') : (rfBody I).wp P Q η w := by
  obtain ⟨cs, hrowH, hlen, hds⟩ := h.rowH
  have hew : Env ok w R := he.keep h.keep
  refine np_op (vs := [.int .i32 (i : Int), .int .i32 (N : Int)]) (by simp [SV.val, h.hi, h.hn]) ⟨.i32, _, _, _, rfl, rfl, ?_⟩
  refine iT (by simp [SV.val, upd]; omega) ?_
  refine np_op (vs := [.slice (some ⟨H, 0, none⟩) N cap, .int .i32 (i : Int)]) (by simp [SV.val, upd, h.hu, h.hi]) ⟨_, _, _, .i32, i, rfl, hi, ?_⟩
  have hadd : (⟨H, 0, none⟩ : Addr).add (i * 2) = ⟨H, i * 2, none⟩ := by simp [Addr.add]; omega
  rw [hadd]
  refine ⟨⟨_, by simp only [upd]; rfl⟩, ?_⟩
  refine np_op (vs := [.pointer (some ⟨H, i * 2, none⟩)]) (by simp [SV.val, upd, Addr.add]) (F.hdef _ _ _ fun u33 => ?_)
  refine iF (by simp [SV.val, upd, h.hs]) ?_
  obtain ⟨nn, hrd⟩ := h.rd
  refine np_op (vs := [ptr R]) (by simp [SV.val, upd, h.hr, add0]) (F.rS ok w R nn _ _ hew hrd fun v w1 k1 hend => ?_)
  obtain ⟨g1, g2, g3, g4⟩ := readEnd good_str hend
  have hrowH1 : Row w1 H cs := hrowH.keep k1 (by simpa using hRH.symm)
  have hi2 : i * 2 + 1 < cs.length := by omega
  have hAH : ∀ x ∈ [H], ¬ ok x := fun x hx => by simp at hx; subst hx; exact hH
  refine np_op (vs := [.pointer (some ⟨H, i * 2, none⟩), v]) (by simp [SV.val, upd, Addr.add]) (wp_store hrowH1 g4.fit (by omega) fun w2 r2 k2 => ?_)
  rw [g4.list] at r2
  obtain ⟨nn1, g1⟩ := g1
  have g1' : Rd ok w2 R nn1 (nxt rdT ((rdHs i b7).map (·.2))) := g1.keep k2 (by simpa using hRH) hAH
  have k02 : Keep [R, H] w w2 := (k1.mono fun x hx _ => by simp at hx ⊢; exact .inl hx).then (k2.mono fun x hx _ => by simp at hx ⊢; exact .inr hx)
  refine rd_st (base := i * 2) (o := 1) (j := 32) (V := H) F.rB good_oc (by simp [upd, h.hr]) (by simp [upd]) (by omega) (hew.keep k02) ⟨_, g1'⟩ r2 hH hRH (by rw [put_length _ _ _ (by simp; omega)]; omega) fun v2 w3 k3 r3 rd3 rep3 zr3 => ?_
  refine np_op (vs := [.int .i32 (i : Int), .int .i32 1]) (by simp [SV.val, upd, h.hi]) ⟨.i32, _, _, _, rfl, rfl, ?_⟩
  have hw1 : IntKind.i32.wrap ((i : Int) + 1) = ((i + 1 : Nat) : Int) := by rw [IntKind.wrap_i32]; omega
  rw [hw1]
  refine hk _ w3 ⟨by simp [upd, SV.val], by simp [upd, h.hu], by simp [upd, h.hn], by simp [upd, h.hv], by simp [upd, h.hr], by simp [upd, h.hs], h.keep.then (k02.then k3), ?_, ⟨_, r3, ?_, ?_⟩, ?_⟩
  · exact (h.rowV.keep k02 (by simp [hVR, hVH])).keep k3 (by simp [hVR, hVH])
  · rw [put_length _ _ _ (by rw [put_length _ _ _ (by simp; omega)]; simp; omega), put_length _ _ _ (by simp; omega)]; exact hlen
  · intro l r hl
    rw [rdHs_snoc] at hl
    simp only [Option.bind_eq_some_iff, Option.map_eq_some_iff] at hl
    obtain ⟨⟨l0, r0⟩, e0, ⟨h1, r1⟩, e1, e2⟩ := hl
    cases e2
    have hl0 : l0.length = i := (rdHs_many _ _ _ _ e0).2
    simp only [rdHd, Option.bind_eq_some_iff, Option.map_eq_some_iff] at e1
    obtain ⟨⟨kx, rk⟩, ek, ⟨vx, rv⟩, ev, e3⟩ := e1
    cases e3
    have hT : (Option.map (·.2) (rdHs i b7)).bind rdT = some (kx.getD [], rk) := by rw [e0]; simp only [Option.map_some, Option.bind_some, rdT, ek]
    have hv : v = .string ⟨(kx.getD []).toArray⟩ := g2 _ _ hT
    have hv2 := rep3 vx rv (by unfold nxt; rw [hT]; exact ev)
    have hds0 := ((hds l0 r0 e0).same ((k02.then k3).same fun x hx => by
      simp at hx; rcases hx with rfl | rfl
      · exact hew.notR
      · exact hH))
    show HdsC ok w3 (l0 ++ [(kx.getD [], vx)]) _
    intro j hj
    simp only [List.length_append, List.length_cons, List.length_nil] at hj
    by_cases hji : j < l0.length
    · rw [List.getElem_append_left hji]
      obtain ⟨q1, u, q2, q3⟩ := hds0 j hji
      refine ⟨?_, u, ?_, q3⟩
      · rw [put_out _ _ _ (by rw [put_length _ _ _ (by simp; omega)]; simp; omega) _ (.inl (by omega)), put_out _ _ _ (by simp; omega) _ (.inl (by omega))]; exact q1
      · rw [put_out _ _ _ (by rw [put_length _ _ _ (by simp; omega)]; simp; omega) _ (.inl (by omega)), put_out _ _ _ (by simp; omega) _ (.inl (by omega))]; exact q2
    · have hj' : j = l0.length := by omega
      subst hj'
      rw [List.getElem_append_right (by omega)]
      simp only [Nat.sub_self, List.getElem_cons_zero]
      rw [hl0]
      refine ⟨?_, v2, ?_, hv2⟩
      · rw [put_out _ _ _ (by rw [put_length _ _ _ (by simp; omega)]; simp; omega) _ (.inl (by omega))]
        have := put_in cs (i * 2) [v] (by simp; omega) 0 (by simp)
        simp only [Nat.add_zero] at this
        rw [this]
        simp [hv]
      · have := put_in (put cs (i * 2) [v]) (i * 2 + 1) [v2] (by rw [put_length _ _ _ (by simp; omega)]; simp; omega) 0 (by simp)
        simp only [Nat.add_zero] at this
        rw [this]
        rfl
  · have : (rdHs (i + 1) b7).map (·.2) = nxt rdOc (nxt rdT ((rdHs i b7).map (·.2))) := by
      rw [rdHs_snoc]
      unfold nxt
      cases h1 : rdHs i b7 with
      | none => rfl
      | some p =>
        simp only [Option.map_some, Option.bind_some, rdT, rdHd]
        cases h2 : rdOc p.2 with
        | none => rfl
        | some q =>
          simp only [Option.map_some, Option.bind_some]
          cases h3 : rdOc q.2 with
          | none => rfl
          | some z => rfl
    rw [this]
    exact rd3

end
end Go.Ar

/- Slices of octets of which those of nothing may lie anywhere. -/
namespace Go.Ar
open Go.Lx Go.Nx Go.Km Go.Mx Go.Kb

/-- As 'Sl', but a slice of nothing may lie anywhere. -/
def Sz (ok : Nat → Prop) (w : World) (v : Value) (bs : Bs) : Prop := Sl ok w v bs ∨ (bs = [] ∧ ∃ a c, v = .slice (some a) 0 c)

theorem Sz.weak {ok ok' : Nat → Prop} {w : World} {v : Value} {bs : Bs} (h : Sz ok w v bs) (k : ∀ b, b < w.heap.size → ok b → ok' b) : Sz ok' w v bs := h.imp (fun h => h.weak k) id
theorem Sz.same {ok : Nat → Prop} {w w' : World} {v : Value} {bs : Bs} (h : Sz ok w v bs) (k : Same ok w w') : Sz ok w' v bs := h.imp (fun h => h.same k) id
theorem Sz.sl0 {ok : Nat → Prop} {w : World} {v : Value} {bs : Bs} (h : Sz ok w v bs) : Sl0 w v bs := by
  rcases h with h | ⟨rfl, a, c, rfl⟩
  · exact h.sl0
  · exact .inr ⟨a, c, rfl, fun j hj => by simp at hj⟩
theorem sz_slice {ok : Nat → Prop} {w : World} {v : Value} {bs : Bs} (h : Sz ok w v bs) : ∃ a c, v = .slice a bs.length c ∧ bs.length ≤ c := by
  rcases h with h | ⟨rfl, a, c, rfl⟩
  · exact sl_slice h
  · exact ⟨some a, c, rfl, Nat.zero_le _⟩
theorem sz_some {ok : Nat → Prop} {w : World} {v : Value} {bs : Bs} (h : Sz ok w v bs) (hne : bs ≠ []) : ∃ a c, v = .slice (some a) bs.length c ∧ bs.length ≤ c ∧ BytesIn ok w a bs := by
  rcases h with h | ⟨rfl, _⟩
  · exact sl_some h hne
  · exact (hne rfl).elim

theorem oneZ {ok : Nat → Prop} {w : World} {v : Value} {bs : Bs} (h : Sz ok w v bs) : One v := by
  rcases h with (⟨rfl, _⟩ | ⟨a, c, rfl, _⟩) | ⟨_, a, c, rfl⟩ <;> exact ⟨rfl, rfl⟩

theorem nilZ {ok : Nat → Prop} {w : World} : Sz ok w (.slice none 0 0) [] := .inl (.inl ⟨rfl, rfl⟩)

end Go.Ar

/- How the package reads a record: the whole. -/
namespace Go.Ar
open Go.Lx Go.Nx Go.Km Go.Mx Go.Kb

set_option linter.unusedSimpArgs false
set_option linter.unusedVariables false

section
variable {P : Program}

theorem cellLt {w : World} {a : Addr} {v : Value} (h : w.cell? a = some v) : a.block < w.heap.size := by
  unfold World.cell? at h
  split at h
  · rename_i hb
    exact (Array.getElem?_eq_some_iff.1 hb).1
  · cases h

/-- A read, stored, the target looked at in between. -/
theorem rd_stc {f : FuncId} {α : Type} {dec : Bs → Option (α × Bs)} {rep : (Nat → Prop) → World → α → Value → Prop} {zr : Value → Prop} (h : Reads P f dec rep zr) (hg : Good rep zr)
    {ok : Nat → Prop} {w : World} {R V base o n m j : Nat} {s : Option Bs} {cs : List Value} {k : NP} {Q : Post} {η : Nat → Value}
    (h5 : η 5 = ptr R) (hj : η j = .pointer (some ⟨V, base, none⟩)) (hjn : j ≠ n) (he : Env ok w R) (hrd : ∃ nn, Rd ok w R nn s) (hrow : Row w V cs) (hV : ¬ ok V) (hRV : R ≠ V) (ho : base + o < cs.length)
    (hk : ∀ v w', Keep [R, V] w w' → Row w' V (put cs (base + o) [v]) → (∃ nn, Rd ok w' R nn (nxt dec s)) → (∀ x r, s.bind dec = some (x, r) → rep ok w' x v) → (s.bind dec = none → zr v) → k.wp P Q (upd (upd η n v) m undef) w') :
    (NP.op (.call f) [.q 5 0] n <| NP.chk j <| NP.op (.store 1) [.q j o, .s n] m k).wp P Q η w := by
  obtain ⟨nn, hrd⟩ := hrd
  refine np_op (vs := [ptr R]) (by simp [SV.val, h5, add0]) (h ok w R nn s _ he hrd fun v w1 k1 hend => ?_)
  obtain ⟨g1, g2, g3, g4⟩ := readEnd hg hend
  refine ⟨⟨_, by simp only [upd, if_neg hjn]; exact hj⟩, ?_⟩
  refine np_op (vs := [.pointer (some ⟨V, base + o, none⟩), v]) (by simp [SV.val, upd, hj, hjn, Addr.add]) (wp_store (hrow.keep k1 (by simpa using hRV.symm)) g4.fit (by omega) fun w2 r2 k2 => ?_)
  rw [g4.list] at r2
  have k1' : Keep [R, V] w w1 := k1.mono fun x hx _ => by simp at hx ⊢; exact .inl hx
  have k2' : Keep [R, V] w1 w2 := k2.mono fun x hx _ => by simp at hx ⊢; exact .inr hx
  have hA : ∀ x ∈ [V], ¬ ok x := fun x hx => by simp at hx; subst hx; exact hV
  obtain ⟨nn', g1⟩ := g1
  exact hk v w2 (k1'.then k2') r2 ⟨nn', g1.keep k2 (by simpa using hRV) hA⟩ (fun x r e => hg.same _ _ _ _ _ (g2 x r e) (k2.same hA)) g3

/-- What is left ahead of the headers. -/
def upTo (bs : Bs) : Option Bs := nxt rdCnt (nxt rdOc (nxt rdOc (nxt rdVi (nxt rdVl (nxt (rdI 1) (nxt rdVi (some bs)))))))

theorem upTo_none {bs : Bs} (h : upTo bs = none) : rdRec bs = none := by
  unfold rdRec
  unfold upTo nxt at h
  simp only [Option.bind_some] at h
  cases h1 : rdVi bs with
  | none => rfl
  | some l =>
    simp only [h1, Option.map_some, Option.bind_some] at h ⊢
    cases h2 : rdI 1 l.2 with
    | none => rfl
    | some a =>
      simp only [h2, Option.map_some, Option.bind_some] at h ⊢
      cases h3 : rdVl a.2 with
      | none => rfl
      | some d =>
        simp only [h3, Option.map_some, Option.bind_some] at h ⊢
        cases h4 : rdVi d.2 with
        | none => rfl
        | some o =>
          simp only [h4, Option.map_some, Option.bind_some] at h ⊢
          cases h5 : rdOc o.2 with
          | none => rfl
          | some k =>
            simp only [h5, Option.map_some, Option.bind_some] at h ⊢
            cases h6 : rdOc k.2 with
            | none => rfl
            | some v =>
              simp only [h6, Option.map_some, Option.bind_some, rdCnt] at h ⊢
              cases h7 : rdVi v.2 with
              | none => rfl
              | some n =>
                simp only [h7, Option.map_some, Option.bind_some] at h ⊢
                split at h
                · rename_i hlt; rw [if_pos hlt]
                · simp at h

theorem upTo_some {bs b7 : Bs} (h : upTo bs = some b7) : ∃ l a d o k v n b0 b1 b2 b3 b4 b5, rdVi bs = some (l, b0) ∧ rdI 1 b0 = some (a, b1) ∧ rdVl b1 = some (d, b2) ∧ rdVi b2 = some (o, b3) ∧ rdOc b3 = some (k, b4) ∧ rdOc b4 = some (v, b5) ∧
    rdCnt b5 = some (n, b7) ∧ n < 2147483648 ∧ rdRec bs = (rdHs n.toNat b7).map fun h => ((⟨l, a, d, o, k, v, h.1⟩ : Rec), h.2) := by
  unfold rdRec
  unfold upTo nxt at h
  simp only [Option.bind_some] at h
  cases h1 : rdVi bs with
  | none => simp [h1] at h
  | some l =>
    simp only [h1, Option.map_some, Option.bind_some] at h ⊢
    cases h2 : rdI 1 l.2 with
    | none => simp [h2] at h
    | some a =>
      simp only [h2, Option.map_some, Option.bind_some] at h ⊢
      cases h3 : rdVl a.2 with
      | none => simp [h3] at h
      | some d =>
        simp only [h3, Option.map_some, Option.bind_some] at h ⊢
        cases h4 : rdVi d.2 with
        | none => simp [h4] at h
        | some o =>
          simp only [h4, Option.map_some, Option.bind_some] at h ⊢
          cases h5 : rdOc o.2 with
          | none => simp [h5] at h
          | some k =>
            simp only [h5, Option.map_some, Option.bind_some] at h ⊢
            cases h6 : rdOc k.2 with
            | none => simp [h6] at h
            | some v =>
              simp only [h6, Option.map_some, Option.bind_some] at h ⊢
              cases h7 : rdVi v.2 with
              | none => simp [rdCnt, h7] at h
              | some n =>
                have hn := (rdVi_lt h7).2.2
                have hc : rdCnt v.2 = if (n.2.length : Int) < n.1 then none else some n := by simp [rdCnt, h7]
                rw [hc] at h
                simp only [Option.bind_some] at ⊢
                by_cases hlt : (n.2.length : Int) < n.1
                · rw [if_pos hlt] at h; simp at h
                · rw [if_neg hlt] at h hc
                  rw [if_neg hlt]
                  simp only [Option.map_some, Option.some.injEq] at h
                  subst h
                  exact ⟨l.1, a.1, d.1, o.1, k.1, v.1, n.1, l.2, a.2, d.2, o.2, k.2, v.2, rfl, h2, h3, h4, h5, h6, hc, hn, rfl⟩

/-- THE PACKAGE READS A RECORD. -/
theorem readFrom_ok (hn : Named P) {I : AI} {g : Nat} (F : AFns P I g) {f : FuncId} (hf : fnP P f 3 = some (p_readFrom I)) {w : World} {V : Nat} {src : Value} {bs : Bs} {K : Value → World → Prop} {errv : Value}
    (hV : Row w V zV) (hsl : Sl (fun k => k ≠ V) w src bs) (herr : w.cell? ⟨g, 0, none⟩ = some errv) (hgV : g ≠ V)
    (hbad : rdRec bs = none → ∀ w', Keep [V] w w' → K errv w')
    (hgood : ∀ x r, rdRec bs = some (x, r) → ∀ w' cs, Keep [V] w w' → Row w' V cs → RecC (fun k => k ≠ V) w' x cs → K .nilIface w') : In.wp P (.call f) [ptr V, src, .bool false] w K := by
  refine calls_of_np hn (vs := [ptr V, src, .bool false]) hf fun η hη => ?_
  have h0 : η 0 = ptr V := hη 0 (by simp)
  have h1 : η 1 = src := hη 1 (by simp)
  have h2 : η 2 = .bool false := hη 2 (by simp)
  have hVlt := hV.lt
  have hsone : One src := One.sl hsl
  refine np_op (vs := [ptr V]) (by simp [SV.val, h0, add0]) (F.rdef _ _ _ fun u3 => ?_)
  refine np_op (vs := [src]) (by simp [SV.val, upd, h1]) ⟨rfl, fun v hv => by simp at hv; subst hv; exact ⟨by rw [hsone.1]; rfl, hsone.list⟩, ?_⟩
  refine np_op (vs := []) rfl (wp_alloc fun R w1 r1 hR k1 => ?_)
  refine ⟨⟨_, by simp only [upd]; rfl⟩, ?_⟩
  refine np_op (vs := [ptr R, .agg #[src, .bool false]]) (by simp [SV.val, upd, add0, putAll]) (wp_store r1 (n := 2) ⟨rfl, by have := hsone.2; simp only [Value.cells]; simp [this]; rfl⟩ (by simp) fun w2 r2 k2 => ?_)
  have r2 : Row w2 R [src, .bool false] := r2
  have hRV : R ≠ V := by omega
  have k02 : Keep [] w w2 := k1.trans k2 fun x hx hlt => by simp at hx; omega
  have hsz := k02.size
  have hR2 := r2.lt
  let ok : Nat → Prop := fun k => k ≠ V ∧ k ≠ R
  have he2 : Env ok w2 R := ⟨fun k hk => ⟨by omega, by omega⟩, fun h => h.2 rfl⟩
  have hokV : ¬ ok V := fun h => h.1 rfl
  have hsl2 : Sl ok w2 src bs := (hsl.weak (ok' := ok) fun b hb hob => ⟨hob, by omega⟩).same (k02.same fun x hx => by cases hx)
  have hrd2 : Rd ok w2 R false (some bs) := ⟨src, r2, hsl2, fun h => by cases h⟩
  have hV2 : Row w2 V zV := hV.keep k02 (by simp)
  refine rd_stc (base := 0) (o := 0) (j := 0) (V := V) F.rV (good_int _) (by simp [upd]) (by simp [upd, h0]) (by omega) he2 ⟨_, hrd2⟩ hV2 hokV hRV (by simp [zV]) fun v7 w3 k3 r3 d3 p3 q3 => ?_
  have r3 : Row w3 V [v7, .int .i8 0, .int .i32 0, .int .i64 0, .int .i32 0, .slice none 0 0, .slice none 0 0, .slice none 0 0] := r3
  have he3 := he2.keep k3
  refine rd_st (base := 0) (o := 1) (j := 0) (V := V) F.r8 (good_int _) (by simp [upd]) (by simp [upd, h0]) (by omega) he3 d3 r3 hokV hRV (by simp) fun v9 w4 k4 r4 d4 p4 q4 => ?_
  have r4 : Row w4 V [v7, v9, .int .i32 0, .int .i64 0, .int .i32 0, .slice none 0 0, .slice none 0 0, .slice none 0 0] := r4
  have he4 := he3.keep k4
  refine rd_st (base := 0) (o := 3) (j := 0) (V := V) F.rL (good_int _) (by simp [upd]) (by simp [upd, h0]) (by omega) he4 d4 r4 hokV hRV (by simp) fun v11 w5 k5 r5 d5 p5 q5 => ?_
  have r5 : Row w5 V [v7, v9, .int .i32 0, v11, .int .i32 0, .slice none 0 0, .slice none 0 0, .slice none 0 0] := r5
  have he5 := he4.keep k5
  obtain ⟨dl, hdl⟩ : ∃ d, v11 = .int .i64 d := by
    cases hq : (nxt (rdI 1) (nxt rdVi (some bs))).bind rdVl with
    | none => exact ⟨_, q5 hq⟩
    | some p => exact ⟨_, p5 p.1 p.2 hq⟩
  refine np_op (vs := [.int .i64 dl]) (by simp [SV.val, upd, hdl]) ⟨.i64, _, rfl, ?_⟩
  refine np_op (vs := [.pointer (some ⟨V, 2, none⟩), .int .i32 (IntKind.i32.wrap dl)]) (by simp [SV.val, upd, h0, Addr.add]) (wp_store r5 (Fit.one rfl rfl) (by simp) fun w6 r6 k6 => ?_)
  have r6 : Row w6 V [v7, v9, .int .i32 (IntKind.i32.wrap dl), v11, .int .i32 0, .slice none 0 0, .slice none 0 0, .slice none 0 0] := r6
  have k6' : Keep [R, V] w5 w6 := k6.mono fun x hx _ => by simp at hx ⊢; exact .inr hx
  have he6 := he5.keep k6'
  have hAV : ∀ x ∈ [V], ¬ ok x := fun x hx => by simp at hx; subst hx; exact hokV
  have hARV : ∀ x ∈ [R, V], ¬ ok x := fun x hx => by
    simp at hx; rcases hx with rfl | rfl
    · exact he2.notR
    · exact hokV
  have d6 : ∃ nn, Rd ok w6 R nn (nxt rdVl (nxt (rdI 1) (nxt rdVi (some bs)))) := by
    obtain ⟨nn, d5⟩ := d5
    exact ⟨nn, d5.keep k6 (by simpa using hRV) hAV⟩
  refine rd_st (base := 0) (o := 4) (j := 0) (V := V) F.rV (good_int _) (by simp [upd]) (by simp [upd, h0]) (by omega) he6 d6 r6 hokV hRV (by simp) fun v15 w7 k7 r7 d7 p7 q7 => ?_
  have r7 : Row w7 V [v7, v9, .int .i32 (IntKind.i32.wrap dl), v11, v15, .slice none 0 0, .slice none 0 0, .slice none 0 0] := r7
  have he7 := he6.keep k7
  refine rd_st (base := 0) (o := 5) (j := 0) (V := V) F.rB good_oc (by simp [upd]) (by simp [upd, h0]) (by omega) he7 d7 r7 hokV hRV (by simp) fun v17 w8 k8 r8 d8 p8 q8 => ?_
  have r8 : Row w8 V [v7, v9, .int .i32 (IntKind.i32.wrap dl), v11, v15, v17, .slice none 0 0, .slice none 0 0] := r8
  have he8 := he7.keep k8
  refine rd_st (base := 0) (o := 6) (j := 0) (V := V) F.rB good_oc (by simp [upd]) (by simp [upd, h0]) (by omega) he8 d8 r8 hokV hRV (by simp) fun v19 w9 k9 r9 d9 p9 q9 => ?_
  have r9 : Row w9 V [v7, v9, .int .i32 (IntKind.i32.wrap dl), v11, v15, v17, v19, .slice none 0 0] := r9
  have he9 := he8.keep k9
  refine np_op (vs := [.pointer (some ⟨V, 7, none⟩)]) (by simp [SV.val, upd, h0, Addr.add]) (wp_load r9 rfl ?_)
  obtain ⟨nn9, d9⟩ := d9
  refine np_op (vs := [ptr R]) (by simp [SV.val, upd, add0]) (F.rN ok w9 R nn9 _ _ he9 d9 fun v22 w10 k10 hend => ?_)
  obtain ⟨⟨nn10, d10⟩, p10, q10, o10⟩ := readEnd (good_int _) hend
  have k10' : Keep [R, V] w9 w10 := k10.mono fun x hx _ => by simp at hx ⊢; exact .inl hx
  have k210 : Keep [R, V] w2 w10 := k3.then (k4.then (k5.then (k6'.then (k7.then (k8.then (k9.then k10'))))))
  have k010 : Keep [V] w w10 := (k02.mono (A' := [V]) fun x hx _ => by cases hx).trans (k210) (fun x hx hlt => by simp at hx ⊢; omega)
  have r10 : Row w10 V [v7, v9, .int .i32 (IntKind.i32.wrap dl), v11, v15, v17, v19, .slice none 0 0] := r9.keep k10 (by simpa using hRV.symm)
  have hglt : g < w.heap.size := cellLt herr
  have herr10 : w10.cell? ⟨g, 0, none⟩ = some errv := by
    rw [World.cell?_of_block (w := w) (w' := w10) (k010.block g hglt (by simpa using hgV))]; exact herr
  refine np_op (vs := [ptr R]) (by simp [SV.val, upd, add0]) (F.rOk ok w10 R nn10 _ _ d10 ?_)
  have hup : upTo bs = nxt rdCnt (nxt rdOc (nxt rdOc (nxt rdVi (nxt rdVl (nxt (rdI 1) (nxt rdVi (some bs))))))) := rfl
  rw [← hup] at d10 ⊢
  refine np_op (vs := [.bool (upTo bs).isSome]) (by simp [SV.val, upd]) ⟨_, rfl, ?_⟩
  cases hs7 : upTo bs with
  | none =>
    rw [hs7] at d10
    refine iT (by simp [SV.val, upd]) ?_
    refine np_op (vs := [ptr R]) (by simp [SV.val, upd, add0]) (F.rC ok w10 R nn10 none _ errv d10 herr10 ?_)
    simp only [Option.isSome_none, Bool.false_eq_true, if_false]
    show K (pack _) w10
    simpa [SV.val, upd, pack] using hbad (upTo_none hs7) w10 k010
  | some b7 =>
    rw [hs7] at d10
    refine iF (by simp [SV.val, upd]) ?_
    obtain ⟨l, a, d, o, kx, vx, n, b0, b1, b2, b3, b4, b5, e1, e2, e3, e4, e5, e6, e7, hnlt, hrec⟩ := upTo_some hs7
    have x1 : nxt rdVi (some bs) = some b0 := by simp [nxt, e1]
    have x2 : nxt (rdI 1) (some b0) = some b1 := by simp [nxt, e2]
    have x3 : nxt rdVl (some b1) = some b2 := by simp [nxt, e3]
    have x4 : nxt rdVi (some b2) = some b3 := by simp [nxt, e4]
    have x5 : nxt rdOc (some b3) = some b4 := by simp [nxt, e5]
    have x6 : nxt rdOc (some b4) = some b5 := by simp [nxt, e6]
    simp only [x1, x2, x3, x4, x5, x6, Option.bind_some] at p3 p4 p5 p7 p8 p9 p10
    have y7 : v7 = .int .i32 l := p3 _ _ e1
    have y9 : v9 = .int .i8 a := p4 _ _ e2
    have y11 : v11 = .int .i64 d := p5 _ _ e3
    have y15 : v15 = .int .i32 o := p7 _ _ e4
    have y17 : ocRep ok w10 kx v17 := good_oc.same _ _ _ _ _ (p8 _ _ e5) ((k9.then k10').same hARV)
    have y19 : ocRep ok w10 vx v19 := good_oc.same _ _ _ _ _ (p9 _ _ e6) (k10'.same hARV)
    have y22 : v22 = .int .i32 n := p10 _ _ e7
    subst y22
    have hzs : ∀ (η' : Nat → Value), True := fun _ => trivial
    refine np_op (vs := [.slice none 0 0, .int .i64 ((0 : Nat) : Int)]) (by simp [SV.val, upd]) ⟨none, 0, 0, [.int .i64 ((0 : Nat) : Int)], rfl, ?_⟩
    simp only [bnd, if_true, Bool.false_eq_true, if_false]
    refine ⟨.i64, 0, [], rfl, rfl, Nat.le_refl _, Nat.le_refl _, Nat.le_refl _, ?_⟩
    refine np_op (vs := [.int .i32 n, .int .i32 0]) (by simp [SV.val, upd]) ⟨.i32, _, _, _, rfl, rfl, ?_⟩
    by_cases hpos : n > 0
    · obtain ⟨N, rfl⟩ := Int.eq_ofNat_of_zero_le (show 0 ≤ n by omega)
      refine iT (by simp [SV.val, upd]; omega) ?_
      refine np_op (vs := [.slice none 0 0, .int .i32 (N : Int)]) (by simp [SV.val, upd]) ⟨.i32, N, by omega, by omega, .inl ⟨rfl, fun cap e hcap => ?_⟩⟩
      have kd : Keep [] w10 w10.drew := ⟨rfl, rfl, rfl, Nat.le_refl _, fun _ _ _ => rfl⟩
      obtain ⟨rH, kH⟩ := alloc_row (w := w10.drew) (List.replicate cap [Value.string ByteArray.empty, Value.slice none 0 0]).flatten e
      generalize hw11 : w10.drew.alloc (.cells (List.replicate cap [Value.string ByteArray.empty, Value.slice none 0 0]).flatten.toArray e) = w11 at rH kH ⊢
      have hHs : w10.drew.heap.size = w10.heap.size := rfl
      rw [hHs] at rH
      have k11 : Keep [] w10 w11 := kd.then kH
      generalize hHd : w10.heap.size = H at rH ⊢
      have hR10 : R < H := by have := k210.size; omega
      have hV10 : V < H := by have := r10.lt; omega
      let ok1 : Nat → Prop := fun k => ok k ∧ k ≠ H
      have hH1 : ¬ ok1 H := fun h => h.2 rfl
      have hHlt := rH.lt
      have he11 : Env ok1 w11 R := ⟨fun k hk => ⟨he9.new k (by have := k10.size; have := k11.size; omega), by omega⟩, fun h => h.1.2 rfl⟩
      have d11 : Rd ok1 w11 R nn10 (some b7) := by
        obtain ⟨v, q1, q2, q3⟩ := d10
        exact ⟨v, q1.keep k11 (by simp), (q2.weak fun b hb hob => ⟨hob, by omega⟩).same (k11.same fun x hx => by cases hx), q3⟩
      have y17' : ocRep ok1 w11 kx v17 := good_oc.same _ _ _ _ _ (y17.weak (ok' := ok1) fun b hb hob => ⟨hob, by omega⟩) (k11.same fun x hx => by cases hx)
      have y19' : ocRep ok1 w11 vx v19 := good_oc.same _ _ _ _ _ (y19.weak (ok' := ok1) fun b hb hob => ⟨hob, by omega⟩) (k11.same fun x hx => by cases hx)
      have r11 := r10.keep k11 (by simp)
      refine lp (fun m η' w' => ∃ i, i + m = N ∧ RIn I ok1 w11 V R H cap [v7, v9, .int .i32 (IntKind.i32.wrap dl), v11, v15, v17, v19, .slice none 0 0] N (N : Int) b7 i η' w') N ⟨0, by omega, ?_⟩ ?_
      · refine ⟨by simp [upd, SV.val], by simp [upd, SV.val], by simp [upd, SV.val], by simp [upd, h0], by simp [upd], by simp [upd, h2], Keep.refl _ _, r11, ⟨_, rH, ?_, ?_⟩, ?_⟩
        · simp
        · intro l r hl
          simp only [rdHs, Option.some.injEq, Prod.mk.injEq] at hl
          obtain ⟨rfl, _⟩ := hl
          intro i hi
          simp at hi
        · exact ⟨_, by simpa [rdHs] using d11⟩
      · rintro m η' w' ⟨i, him, hin⟩
        by_cases hm : i < N
        · exact round_ok F he11 hH1 (by omega) (by omega) hRV.symm hcap (by omega) hm hin fun η'' w'' hin' => ⟨m - 1, by omega, i + 1, by omega, hin'⟩
        · have hiN : i = N := by omega
          subst hiN
          refine np_op (vs := [.int .i32 (i : Int), .int .i32 (i : Int)]) (by simp [SV.val, hin.hi, hin.hn]) ⟨.i32, _, _, _, rfl, rfl, ?_⟩
          refine iF (by simp [SV.val, upd]) ?_
          show NP.wp P (rfTail I) _ _ w'
          obtain ⟨csH, rH', hlenH, hdsH⟩ := hin.rowH
          obtain ⟨nn', dd⟩ := hin.rd
          refine np_op (vs := [.pointer (some ⟨V, 7, none⟩), .slice (some ⟨H, 0, none⟩) i cap]) (by simp [SV.val, upd, hin.hv, hin.hu, Addr.add]) (wp_store hin.rowV (Fit.one rfl rfl) (by simp) fun w12 r12 k12 => ?_)
          have r12 : Row w12 V [v7, v9, .int .i32 (IntKind.i32.wrap dl), v11, v15, v17, v19, .slice (some ⟨H, 0, none⟩) i cap] := r12
          have hAV1 : ∀ x ∈ [V], ¬ ok1 x := fun x hx => by simp at hx; subst hx; exact fun h => hokV h.1
          have dd12 := dd.keep k12 (by simpa using hRV) hAV1
          have k1112 : Keep [R, H, V] w11 w12 := (hin.keep.mono fun x hx _ => by simp at hx ⊢; omega).then (k12.mono fun x hx _ => by simp at hx ⊢; omega)
          have kall : Keep [V] w w12 := (k010.then (k11.mono fun x hx _ => by cases hx)).trans k1112 fun x hx hlt => by
            simp at hx ⊢
            rcases hx with rfl | rfl | rfl
            · omega
            · have := k010.size; omega
            · rfl
          have herr12 : w12.cell? ⟨g, 0, none⟩ = some errv := by
            rw [World.cell?_of_block (w := w) (w' := w12) (kall.block g hglt (by simpa using hgV))]; exact herr
          refine np_op (vs := [ptr R]) (by simp [SV.val, upd, hin.hr, add0]) (F.rC ok1 w12 R nn' _ _ errv dd12 herr12 ?_)
          show K (pack _) w12
          rw [Int.toNat_natCast] at hrec
          cases hh : rdHs i b7 with
          | none =>
            rw [hh] at hrec
            simpa [SV.val, upd, pack] using hbad hrec w12 kall
          | some p =>
            obtain ⟨hl, hr⟩ := p
            rw [hh] at hrec
            have hsame : Same ok1 w11 w12 := k1112.same fun x hx => by
              simp at hx; rcases hx with rfl | rfl | rfl
              · exact fun h => h.1.2 rfl
              · exact hH1
              · exact fun h => hokV h.1
            have hlen := (rdHs_many _ _ _ _ hh).2
            have := hgood _ _ hrec w12 _ kall r12 ⟨.int .i32 (IntKind.i32.wrap dl), v17, v19, _, by rw [y7, y9, y11, y15], (good_oc.same _ _ _ _ _ y17' hsame).weak fun b _ hb => hb.1.1, (good_oc.same _ _ _ _ _ y19' hsame).weak fun b _ hb => hb.1.1,
              .inr ⟨H, cap, csH, by rw [hlen], (by show H ≠ V; omega), rH'.keep k12 (by simp; omega), hlenH, (by show hl.length ≤ cap; omega), ((hdsH _ _ hh).same (k12.same hAV1)).weak fun b _ hb => hb.1.1⟩⟩
            simpa [SV.val, upd, pack] using this
    · refine iF (by simp [SV.val, upd]; omega) ?_
      refine lp (fun m η' w' => w' = w10 ∧ η' 29 = .slice none 0 0 ∧ η' 30 = .int .i32 0 ∧ η' 22 = .int .i32 n ∧ η' 0 = ptr V ∧ η' 5 = ptr R) 0 ⟨rfl, by simp [upd, SV.val], by simp [upd, SV.val], by simp [upd, SV.val], by simp [upd, h0], by simp [upd]⟩ ?_
      rintro m η' w' ⟨rfl, z29, z30, z22, z0, z5⟩
      refine np_op (vs := [.int .i32 0, .int .i32 n]) (by simp [SV.val, z30, z22]) ⟨.i32, _, _, _, rfl, rfl, ?_⟩
      refine iF (by simp [SV.val, upd]; omega) ?_
      show NP.wp P (rfTail I) _ _ w'
      refine np_op (vs := [.pointer (some ⟨V, 7, none⟩), .slice none 0 0]) (by simp [SV.val, upd, z0, z29, Addr.add]) (wp_store r10 (Fit.one rfl rfl) (by simp) fun w12 r12 k12 => ?_)
      have r12 : Row w12 V [v7, v9, .int .i32 (IntKind.i32.wrap dl), v11, v15, v17, v19, .slice none 0 0] := r12
      have dd12 := d10.keep k12 (by simpa using hRV) hAV
      have kall : Keep [V] w w12 := k010.then k12
      have herr12 : w12.cell? ⟨g, 0, none⟩ = some errv := by
        rw [World.cell?_of_block (w := w) (w' := w12) (kall.block g hglt (by simpa using hgV))]; exact herr
      refine np_op (vs := [ptr R]) (by simp [SV.val, upd, z5, add0]) (F.rC ok w12 R nn10 _ _ errv dd12 herr12 ?_)
      show K (pack _) w12
      have hn0 : n.toNat = 0 := by omega
      rw [hn0] at hrec
      simp only [rdHs, Option.map_some] at hrec
      have := hgood _ _ hrec w12 _ kall r12 ⟨.int .i32 (IntKind.i32.wrap dl), v17, v19, _, by rw [y7, y9, y11, y15], (good_oc.same _ _ _ _ _ y17 (k12.same hAV)).weak fun b _ hb => hb.1, (good_oc.same _ _ _ _ _ y19 (k12.same hAV)).weak fun b _ hb => hb.1, .inl ⟨rfl, rfl⟩⟩
      simpa [SV.val, upd, pack] using this

end
end Go.Ar

/- A record as the thin package tells it: octets of one's own, the copying of what was read. -/
namespace Go.Ar
open Go.Lx Go.Nx Go.Km Go.Mx Go.Kb

set_option linter.unusedSimpArgs false
set_option linter.unusedVariables false

section
variable {P : Program} {e : TypeId}

theorem own_sl {w : World} {B : Nat} {d : Value} {out : Bs} (h : Own w B e d out) : Sl (fun k => B ≤ k) w d out := by
  rcases h.1.2 with ⟨h1, h2⟩ | ⟨b, cap, cur, h1, h2, h3, h4, h5, h6, h7⟩
  · refine .inl ⟨h1, ?_⟩
    simpa using h2
  · refine .inr ⟨⟨b, 0, none⟩, cap, h1, h4, (Array.getElem?_eq_some_iff.1 h3).1, h2, fun j hj => ?_⟩
    have hr : Row w b cur.toList := ⟨e, by rw [h3]⟩
    have ha : (⟨b, 0, none⟩ : Addr).add j = ⟨b, j, none⟩ := by simp [Addr.add]; omega
    rw [ha]
    refine hr.cell ?_
    have := congrArg (fun l => l[j]?) h7
    simp only [Nat.mul_one, List.getElem?_take, hj, if_true, List.getElem?_map, List.getElem?_eq_getElem hj, Option.map_some] at this
    exact this

theorem own_nil (w : World) : Own w w.heap.size e (.slice none 0 0) [] := ⟨⟨rfl, .inl ⟨rfl, rfl⟩⟩, Nat.le_refl _⟩

def p_own (e8 : TypeId) : FnP := ⟨.op (.app e8) [.k (.slice none 0 0), .s 0] 1 <|
  .ret [.s 1], [.direct]⟩

def OwnFn (P : Program) (f : FuncId) : Prop := ∀ (w : World) (src : Value) (bs : Bs) (K : Value → World → Prop), Sl0 w src bs → bs.length ≤ lim →
  (∀ v w', Keep [] w w' → Sl (fun k => w.heap.size ≤ k) w' v bs → K v w') → In.wp P (.call f) [src] w K

theorem own_ok (hn : Named P) {f : FuncId} (hf : fnP P f 1 = some (p_own e)) : OwnFn P f := by
  intro w src bs K hs hl hk
  refine calls_of_np hn (vs := [src]) hf fun η hη => ?_
  have h0 : η 0 = src := hη 0 (by simp)
  refine np_op (vs := [.slice none 0 0, src]) (by simp [SV.val, h0]) (wp_appB (own_nil (e := e) w) hs (by simpa using hl) fun d' w' ho hb => ?_)
  have := hk d' w' (Keep.of_below hb.toBelow) (by simpa using own_sl ho)
  show K (pack _) w'
  simpa [SV.val, upd, pack] using this

def p_oct (e8 : TypeId) : FnP := ⟨.op (.alloc [.bool false, .slice none 0 0]) [] 1 <|
  .chk 1 <|
  .op (.isNil 1 false) [.s 0] 2 <|
  .ite (.s 2)
    (.op (.lit [.bool false, .slice none 0 0] [0]) [.k (.bool true)] 3 <|
    .op (.store 2) [.q 1 0, .s 3] 4 <|
    .ret [.q 1 0])
    (.nil) <|
  .op (.bsl e8) [] 5 <|
  .op (.app e8) [.s 5, .s 0] 6 <|
  .op (.lit [.bool false, .slice none 0 0] [1]) [.s 6] 7 <|
  .op (.store 2) [.q 1 0, .s 7] 8 <|
  .ret [.q 1 0], [.cells 2]⟩

/-- Octets as data: null, or new memory. -/
def OctFn (P : Program) (f : FuncId) : Prop := ∀ (ok : Nat → Prop) (w : World) (x : Option Bs) (v : Value) (K : Value → World → Prop), ocRep ok w x v → (x.getD []).length ≤ lim →
  (∀ d w', Keep [] w w' → Sl (fun k => w.heap.size ≤ k) w' d (x.getD []) → K (.agg #[.bool x.isNone, d]) w') → In.wp P (.call f) [v] w K

theorem oct_ok (hn : Named P) {f : FuncId} (hf : fnP P f 1 = some (p_oct e)) : OctFn P f := by
  intro ok w x v K hs hl hk
  refine calls_of_np hn (vs := [v]) hf fun η hη => ?_
  have h0 : η 0 = v := hη 0 (by simp)
  refine np_op (vs := []) rfl (wp_alloc fun b w1 r1 hb k1 => ?_)
  refine ⟨⟨_, by simp only [upd]; rfl⟩, ?_⟩
  cases x with
  | none =>
    have hv : v = .slice none 0 0 := hs
    refine np_op (vs := [.slice none 0 0]) (by simp [SV.val, upd, h0, hv]) ⟨_, true, rfl, rfl, ?_⟩
    refine iT (by simp [SV.val, upd]) ?_
    refine np_op (vs := [.bool true]) (by simp [SV.val]) ⟨rfl, fun v hv => by simp at hv; subst hv; exact ⟨rfl, rfl⟩, ?_⟩
    refine np_op (vs := [ptr b, .agg #[.bool true, .slice none 0 0]]) (by simp [SV.val, upd, add0, putAll]) (wp_store r1 (n := 2) ⟨rfl, by simp [Value.cells, Value.oneCell']⟩ (by simp) fun w2 r2 k2 => ?_)
    have r2 : Row w2 b [.bool true, .slice none 0 0] := r2
    have k02 : Keep [] w w2 := k1.trans k2 fun x hx hlt => by simp at hx; omega
    refine ⟨b, 0, [.bool true, .slice none 0 0], by simp [SV.val, upd, add0], by simpa using r2.range 0 2, rfl, ?_⟩
    show K (pack _) w2
    simpa [pack] using hk (.slice none 0 0) w2 k02 (.inl ⟨rfl, rfl⟩)
  | some l =>
    obtain ⟨hsl, hne⟩ := hs
    obtain ⟨a, c, hv, hc⟩ : ∃ a c, v = .slice (some a) l.length c ∧ True := by
      rcases hsl with ⟨h1, _⟩ | ⟨a, c, h1, _⟩
      · exact (hne h1).elim
      · exact ⟨a, c, h1, trivial⟩
    refine np_op (vs := [v]) (by simp [SV.val, upd, h0]) ⟨_, false, rfl, by rw [hv]; rfl, ?_⟩
    refine iF (by simp [SV.val, upd]) ?_
    refine np_op (vs := []) rfl ⟨fun v hv => by simp at hv, ?_⟩
    obtain ⟨r2, k2⟩ := alloc_row (w := w1) ([] : List Value) e
    have ho : Own (w1.alloc (.cells ([] : List Value).toArray e)) w1.heap.size e (.slice (some ⟨w1.heap.size, 0, none⟩) 0 0) [] :=
      ⟨⟨rfl, .inr ⟨w1.heap.size, 0, #[], rfl, Nat.le_refl _, heap_alloc_new w1 _, Nat.le_refl _, by decide, rfl, rfl⟩⟩, k2.size⟩
    have hsl2 : Sl0 (w1.alloc (.cells ([] : List Value).toArray e)) v l := (hsl.same ((k1.then k2).same fun x hx => by cases hx)).sl0
    refine np_op (vs := [.slice (some ⟨w1.heap.size, 0, none⟩) 0 0, v]) (by simp [SV.val, upd, h0]) (wp_appB ho hsl2 (by simpa using hl) fun d' w' ho' hb => ?_)
    have k3 : Keep [] w1 w' := Keep.of_below ((Keep.below (B := w1.heap.size) k2 (fun x hx => by cases hx) (Nat.le_refl _)).trans hb.toBelow)
    have hd := own_sl ho'
    simp only [List.nil_append] at hd
    have hone : One d' := One.sl hd
    refine np_op (vs := [d']) (by simp [SV.val, upd]) ⟨rfl, fun v hv => by simp at hv; subst hv; exact ⟨by rw [hone.1]; rfl, hone.list⟩, ?_⟩
    have r3 := r1.keep k3 (by simp)
    refine np_op (vs := [ptr b, .agg #[.bool false, d']]) (by simp [SV.val, upd, add0, putAll]) (wp_store r3 (n := 2) ⟨rfl, by have := hone.2; simp only [Value.cells]; simp [this]; rfl⟩ (by simp) fun w2 r2 k4 => ?_)
    have r2 : Row w2 b [.bool false, d'] := r2
    have hk1 := k1.size
    have hbl := r1.lt
    have k02 : Keep [] w w2 := (k1.then k3).trans k4 fun x hx hlt => by simp at hx; omega
    refine ⟨b, 0, [.bool false, d'], by simp [SV.val, upd, add0], by simpa using r2.range 0 2, rfl, ?_⟩
    show K (pack _) w2
    have hd2 : Sl (fun k => w.heap.size ≤ k) w2 d' l := (hd.same (k4.same fun x hx h => by simp at hx; subst hx; omega)).weak fun q _ hq => Nat.le_trans hk1 hq
    simpa [pack] using hk d' w2 k02 hd2

/-! The copying: whichever comes first. -/
abbrev keep6 (k : NP) : NP := .keep .load [.q 2 6] 13 <| .keep .load [.q 2 5] 12 <| .keep .load [.q 2 4] 11 <| .keep .load [.q 2 3] 10 <| .keep .load [.q 2 1] 9 <| .keep .load [.q 2 0] 8 k

abbrev z9 : List Value := [.int .i32 0, .int .i8 0, .int .i64 0, .int .i32 0, .bool false, .slice none 0 0, .bool false, .slice none 0 0, .slice none 0 0]
abbrev cC (f : FuncId) (x n : Nat) (k : NP) : NP := .op (.call f) [.s x] n (keep6 k)
abbrev cA (n : Nat) (k : NP) : NP := .op (.alloc z9) [] n <| .chk n (keep6 k)
abbrev cL (a b n : Nat) (k : NP) : NP := .op (.litG z9 [(0, 1), (1, 1), (2, 1), (3, 1), (4, 2), (6, 2)]) [.s 8, .s 9, .s 10, .s 11, .s a, .s b] n (keep6 k)
abbrev cS (o l n : Nat) (k : NP) : NP := .op (.store 9) [.q o 0, .s l] n k

def cpy (f : FuncId) (k : NP) : NP := .flip 14 <|
  .ite (.s 14)
    (cC f 12 15 <| .flip 16 <|
    .ite (.s 16)
      (cC f 13 17 <| .flip 18 <|
      .ite (.s 18)
        (cL 15 17 19 <| cA 20 <| cS 20 19 21 <| .set 25 (.s 19) <| .set 26 (.q 20 0) .nil)
        (cA 22 <| cL 15 17 23 <| cS 22 23 24 <| .set 25 (.s 23) <| .set 26 (.q 22 0) .nil) <|
      .chk 26 <| .set 31 (.s 17) <| .set 32 (.s 25) <| .set 33 (.q 26 0) .nil)
      (cA 27 <| cC f 13 28 <| cL 15 28 29 <| cS 27 29 30 <| .set 31 (.s 28) <| .set 32 (.s 29) <| .set 33 (.q 27 0) .nil) <|
    .chk 33 <| .set 39 (.s 15) <| .set 40 (.s 31) <| .set 41 (.s 32) <| .set 42 (.q 33 0) .nil)
    (cA 34 <| cC f 12 35 <| cC f 13 36 <| cL 35 36 37 <| cS 34 37 38 <| .set 39 (.s 35) <| .set 40 (.s 36) <| .set 41 (.s 37) <| .set 42 (.q 34 0) .nil) <|
  .chk 42 k

/-- What was looked at. -/
structure E6 (V : Nat) (a0 a1 a3 a4 a5 a6 : Value) (η : Nat → Value) : Prop where
  h2 : η 2 = ptr V
  h8 : η 8 = a0
  h9 : η 9 = a1
  h10 : η 10 = a3
  h11 : η 11 = a4
  h12 : η 12 = a5
  h13 : η 13 = a6

theorem E6.upd {V : Nat} {a0 a1 a3 a4 a5 a6 : Value} {η : Nat → Value} (h : E6 V a0 a1 a3 a4 a5 a6 η) {n : Nat} (hn : 13 < n) (v : Value) : E6 V a0 a1 a3 a4 a5 a6 (Lx.upd η n v) := by
  have e : ∀ m, m ≤ 13 → Lx.upd η n v m = η m := fun m hm => by simp only [Lx.upd]; rw [if_neg (by omega)]
  exact ⟨by rw [e 2 (by omega)]; exact h.h2, by rw [e 8 (by omega)]; exact h.h8, by rw [e 9 (by omega)]; exact h.h9, by rw [e 10 (by omega)]; exact h.h10, by rw [e 11 (by omega)]; exact h.h11, by rw [e 12 (by omega)]; exact h.h12, by rw [e 13 (by omega)]; exact h.h13⟩

theorem keep6_ok {V : Nat} {a0 a1 a2 a3 a4 a5 a6 a7 : Value} {η : Nat → Value} {w : World} {k : NP} {Q : Post} (h : E6 V a0 a1 a3 a4 a5 a6 η) (r : Row w V [a0, a1, a2, a3, a4, a5, a6, a7]) (hk : k.wp P Q η w) : (keep6 k).wp P Q η w := by
  have ld : ∀ (o n : Nat) (v : Value) (k' : NP), [a0, a1, a2, a3, a4, a5, a6, a7][o]? = some v → η n = v → k'.wp P Q η w → (NP.keep .load [.q 2 o] n k').wp P Q η w := fun o n v k' ho hn hk' => by
    refine ⟨?_, hk'⟩
    show In.wp P .load _ _ _
    have : [SV.q 2 o].map (SV.val η) = [.pointer (some ⟨V, o, none⟩)] := by simp [SV.val, h.h2, Addr.add]; omega
    rw [this]
    exact wp_load r ho ⟨hn.symm, rfl⟩
  exact ld 6 13 a6 _ rfl h.h13 (ld 5 12 a5 _ rfl h.h12 (ld 4 11 a4 _ rfl h.h11 (ld 3 10 a3 _ rfl h.h10 (ld 1 9 a1 _ rfl h.h9 (ld 0 8 a0 _ rfl h.h8 hk)))))

section
variable {V : Nat} {a0 a1 a2 a3 a4 a5 a6 a7 : Value} {η : Nat → Value} {w : World} {k : NP} {Q : Post}

theorem cA_ok (h : E6 V a0 a1 a3 a4 a5 a6 η) (r : Row w V [a0, a1, a2, a3, a4, a5, a6, a7]) {n : Nat} (hn : 13 < n) (hk : ∀ b w', Row w' b z9 → w.heap.size ≤ b → Keep [] w w' → Row w' V [a0, a1, a2, a3, a4, a5, a6, a7] → E6 V a0 a1 a3 a4 a5 a6 (upd η n (ptr b)) → k.wp P Q (upd η n (ptr b)) w') : (cA n k).wp P Q η w := by
  refine np_op (vs := []) rfl (wp_alloc fun b w' rb hb kk => ?_)
  refine ⟨⟨_, by simp only [upd]; rfl⟩, ?_⟩
  have e := h.upd hn (ptr b)
  have r' := r.keep kk (by simp)
  exact keep6_ok e r' (hk b w' rb hb kk r' e)

theorem cC_ok {f : FuncId} (hf : OctFn P f) (h : E6 V a0 a1 a3 a4 a5 a6 η) (r : Row w V [a0, a1, a2, a3, a4, a5, a6, a7]) {x n : Nat} (hn : 13 < n) {ok : Nat → Prop} {o : Option Bs} {v : Value} (hx : η x = v) (ho : ocRep ok w o v) (hl : (o.getD []).length ≤ lim)
    (hk : ∀ d w', Keep [] w w' → Sl (fun k => w.heap.size ≤ k) w' d (o.getD []) → Row w' V [a0, a1, a2, a3, a4, a5, a6, a7] → E6 V a0 a1 a3 a4 a5 a6 (upd η n (.agg #[.bool o.isNone, d])) → k.wp P Q (upd η n (.agg #[.bool o.isNone, d])) w') : (cC f x n k).wp P Q η w := by
  refine np_op (vs := [v]) (by simp [SV.val, hx]) (hf ok w o v _ ho hl fun d w' kk hd => ?_)
  have e := h.upd hn (.agg #[.bool o.isNone, d])
  have r' := r.keep kk (by simp)
  exact keep6_ok e r' (hk d w' kk hd r' e)

theorem cL_ok (h : E6 V a0 a1 a3 a4 a5 a6 η) (r : Row w V [a0, a1, a2, a3, a4, a5, a6, a7]) {a b n : Nat} (hn : 13 < n) {n1 n2 : Bool} {d1 d2 : Value} (ha : η a = .agg #[.bool n1, d1]) (hb : η b = .agg #[.bool n2, d2]) (o0 : One a0) (o1 : One a1) (o3 : One a3) (o4 : One a4)
    (hk : E6 V a0 a1 a3 a4 a5 a6 (upd η n (.agg #[a0, a1, a3, a4, .bool n1, d1, .bool n2, d2, .slice none 0 0])) → k.wp P Q (upd η n (.agg #[a0, a1, a3, a4, .bool n1, d1, .bool n2, d2, .slice none 0 0])) w) : (cL a b n k).wp P Q η w := by
  refine np_op (vs := [a0, a1, a3, a4, .agg #[.bool n1, d1], .agg #[.bool n2, d2]]) (by simp [SV.val, h.h8, h.h9, h.h10, h.h11, ha, hb]) ⟨[a0, a1, a3, a4, .bool n1, d1, .bool n2, d2, .slice none 0 0], ?_, ?_⟩
  · have hA : (Value.agg #[.bool n1, d1]).cells = #[.bool n1, d1] := rfl
    have hB : (Value.agg #[.bool n2, d2]).cells = #[.bool n2, d2] := rfl
    simp [fillG, o0.1, o1.1, o3.1, o4.1, hA, hB]
  · exact keep6_ok (h.upd hn _) r (hk (h.upd hn _))

theorem cS_ok {o l n b : Nat} {cs vs : List Value} (ho : η o = ptr b) (hl : η l = .agg vs.toArray) (rb : Row w b cs) (h9 : cs.length = 9) (hv : vs.length = 9) (h1 : ∀ v ∈ vs, v.oneCell' = true)
    (hk : ∀ w', Row w' b vs → Keep [b] w w' → k.wp P Q (upd η n undef) w') : (cS o l n k).wp P Q η w := by
  refine np_op (vs := [ptr b, .agg vs.toArray]) (by simp [SV.val, ho, hl, add0]) (wp_store rb (n := 9) ⟨by simp [Value.cells, hv], by simp only [Value.cells]; simp; exact h1⟩ (by omega) fun w' r' k' => ?_)
  have : put cs 0 (Value.agg vs.toArray).cells.toList = vs := by simp [put, Value.cells, hv]; omega
  rw [this] at r'
  exact hk w' r' k'

end

/-- THE COPY, whichever came first. -/
theorem cpy_ok {f : FuncId} (hf : OctFn P f) {V : Nat} {a0 a1 a2 a3 a4 a5 a6 a7 : Value} {η : Nat → Value} {w : World} {k : NP} {Q : Post} (h : E6 V a0 a1 a3 a4 a5 a6 η) (r : Row w V [a0, a1, a2, a3, a4, a5, a6, a7])
    (o0 : One a0) (o1 : One a1) (o3 : One a3) (o4 : One a4) {ok : Nat → Prop} {kx vx : Option Bs} (hkx : ocRep ok w kx a5) (hvx : ocRep ok w vx a6) (l1 : (kx.getD []).length ≤ lim) (l2 : (vx.getD []).length ≤ lim)
    (hk : ∀ O d1 d2 η' w', w.heap.size ≤ O → Keep [] w w' → Row w' O [a0, a1, a3, a4, .bool kx.isNone, d1, .bool vx.isNone, d2, .slice none 0 0] → Sl (fun k => w.heap.size ≤ k ∧ k ≠ O) w' d1 (kx.getD []) → Sl (fun k => w.heap.size ≤ k ∧ k ≠ O) w' d2 (vx.getD []) →
      η' 42 = ptr O → η' 1 = η 1 → η' 2 = ptr V → k.wp P Q η' w') : (cpy f k).wp P Q η w := by
  have one9 : ∀ {n1 n2 : Bool} {d1 d2 : Value}, One d1 → One d2 → ∀ v ∈ [a0, a1, a3, a4, .bool n1, d1, .bool n2, d2, .slice none 0 0], v.oneCell' = true := by
    intro n1 n2 d1 d2 q1 q2 v hv
    simp only [List.mem_cons, List.not_mem_nil, or_false] at hv
    rcases hv with h | h | h | h | h | h | h | h | h
    · rw [h]; exact o0.2
    · rw [h]; exact o1.2
    · rw [h]; exact o3.2
    · rw [h]; exact o4.2
    · rw [h]; rfl
    · rw [h]; exact q1.2
    · rw [h]; rfl
    · rw [h]; exact q2.2
    · rw [h]; rfl
  have e0 : ∀ {w1 w2 : World} (ok : Nat → Prop), Keep [] w1 w2 → Same ok w1 w2 := fun ok k => k.same fun x hx => by cases hx
  intro b14
  have h14 := h.upd (n := 14) (by omega) (.bool b14)
  cases b14 with
  | true =>
    refine iT (by simp [SV.val, upd]) ?_
    refine cC_ok (a2 := a2) (a7 := a7) hf h14 r (by omega) (ok := ok) (o := kx) h14.h12 hkx l1 fun d1 w1 k1 s1 r1 e1 => ?_
    intro b16
    have h16 := e1.upd (n := 16) (by omega) (.bool b16)
    have hvx1 := good_oc.same _ _ _ _ _ hvx (e0 ok k1)
    cases b16 with
    | true =>
      refine iT (by simp [SV.val, upd]) ?_
      refine cC_ok (a2 := a2) (a7 := a7) hf h16 r1 (by omega) (ok := ok) (o := vx) h16.h13 hvx1 l2 fun d2 w2 k2 s2 r2 e2 => ?_
      have s1' := s1.same (e0 _ k2)
      have hsz := k1.size
      intro b18
      have h18 := e2.upd (n := 18) (by omega) (.bool b18)
      cases b18 with
      | true =>
        refine iT (by simp [SV.val, upd]) ?_
        refine cL_ok (a2 := a2) (a7 := a7) h18 r2 (by omega) (n1 := kx.isNone) (n2 := vx.isNone) (d1 := d1) (d2 := d2) (by simp [upd]) (by simp [upd]) o0 o1 o3 o4 fun e3 => ?_
        refine cA_ok (a2 := a2) (a7 := a7) e3 r2 (by omega) fun O w3 rO hO k3 r3 e4 => ?_
        refine cS_ok (vs := [a0, a1, a3, a4, .bool kx.isNone, d1, .bool vx.isNone, d2, .slice none 0 0]) (by simp [upd]) (by simp [upd]) rO rfl rfl (one9 (One.sl s1) (One.sl s2)) fun w4 rO4 k4 => ?_
        refine ⟨⟨_, by simp [upd, SV.val, add0]; rfl⟩, ?_⟩
        refine ⟨⟨_, by simp [upd, SV.val, add0]; rfl⟩, ?_⟩
        refine ⟨⟨_, by simp [upd, SV.val, add0]; rfl⟩, ?_⟩
        have hsz2 := k2.size
        refine hk O d1 d2 _ w4 (by omega) ((k1.then (k2.then k3)).trans k4 fun x hx hlt => by simp at hx; omega) rO4 ?_ ?_ (by simp [upd, SV.val, add0]) (by simp [upd]) (by simp [upd, h.h2])
        · exact (((s1'.weak (ok' := fun k => w.heap.size ≤ k ∧ k ≠ O) fun b hb hq => ⟨hq, by omega⟩).same (e0 _ k3)).same (k4.same fun x hx hq => by simp at hx; exact hq.2 hx))
        · exact (((s2.weak (ok' := fun k => w.heap.size ≤ k ∧ k ≠ O) fun b hb hq => ⟨by omega, by omega⟩).same (e0 _ k3)).same (k4.same fun x hx hq => by simp at hx; exact hq.2 hx))
      | false =>
        refine iF (by simp [SV.val, upd]) ?_
        refine cA_ok (a2 := a2) (a7 := a7) h18 r2 (by omega) fun O w3 rO hO k3 r3 e4 => ?_
        refine cL_ok (a2 := a2) (a7 := a7) e4 r3 (by omega) (n1 := kx.isNone) (n2 := vx.isNone) (d1 := d1) (d2 := d2) (by simp [upd]) (by simp [upd]) o0 o1 o3 o4 fun e3 => ?_
        refine cS_ok (vs := [a0, a1, a3, a4, .bool kx.isNone, d1, .bool vx.isNone, d2, .slice none 0 0]) (by simp [upd]) (by simp [upd]) rO rfl rfl (one9 (One.sl s1) (One.sl s2)) fun w4 rO4 k4 => ?_
        refine ⟨⟨_, by simp [upd, SV.val, add0]; rfl⟩, ?_⟩
        refine ⟨⟨_, by simp [upd, SV.val, add0]; rfl⟩, ?_⟩
        refine ⟨⟨_, by simp [upd, SV.val, add0]; rfl⟩, ?_⟩
        have hsz2 := k2.size
        refine hk O d1 d2 _ w4 (by omega) ((k1.then (k2.then k3)).trans k4 fun x hx hlt => by simp at hx; omega) rO4 ?_ ?_ (by simp [upd, SV.val, add0]) (by simp [upd]) (by simp [upd, h.h2])
        · exact (((s1'.weak (ok' := fun k => w.heap.size ≤ k ∧ k ≠ O) fun b hb hq => ⟨hq, by omega⟩).same (e0 _ k3)).same (k4.same fun x hx hq => by simp at hx; exact hq.2 hx))
        · exact (((s2.weak (ok' := fun k => w.heap.size ≤ k ∧ k ≠ O) fun b hb hq => ⟨by omega, by omega⟩).same (e0 _ k3)).same (k4.same fun x hx hq => by simp at hx; exact hq.2 hx))
    | false =>
      refine iF (by simp [SV.val, upd]) ?_
      refine cA_ok (a2 := a2) (a7 := a7) h16 r1 (by omega) fun O w2 rO hO k2 r2 e2 => ?_
      refine cC_ok (a2 := a2) (a7 := a7) hf e2 r2 (by omega) (ok := ok) (o := vx) e2.h13 (good_oc.same _ _ _ _ _ hvx1 (e0 ok k2)) l2 fun d2 w3 k3 s2 r3 e3 => ?_
      have hsz := k1.size
      have hsz2 := k2.size
      have hOlt := rO.lt
      refine cL_ok (a2 := a2) (a7 := a7) e3 r3 (by omega) (n1 := kx.isNone) (n2 := vx.isNone) (d1 := d1) (d2 := d2) (by simp [upd]) (by simp [upd]) o0 o1 o3 o4 fun e4 => ?_
      refine cS_ok (vs := [a0, a1, a3, a4, .bool kx.isNone, d1, .bool vx.isNone, d2, .slice none 0 0]) (by simp [upd]) (by simp [upd]) (rO.keep k3 (by simp)) rfl rfl (one9 (One.sl s1) (One.sl s2)) fun w4 rO4 k4 => ?_
      refine ⟨⟨_, by simp [upd, SV.val, add0]; rfl⟩, ?_⟩
      refine ⟨⟨_, by simp [upd, SV.val, add0]; rfl⟩, ?_⟩
      refine hk O d1 d2 _ w4 (by omega) ((k1.then (k2.then k3)).trans k4 fun x hx hlt => by simp at hx; omega) rO4 ?_ ?_ (by simp [upd, SV.val, add0]) (by simp [upd]) (by simp [upd, h.h2])
      · exact (((s1.weak (ok' := fun k => w.heap.size ≤ k ∧ k ≠ O) fun b hb hq => ⟨hq, by omega⟩).same (e0 _ (k2.then k3))).same (k4.same fun x hx hq => by simp at hx; exact hq.2 hx))
      · exact ((s2.weak (ok' := fun k => w.heap.size ≤ k ∧ k ≠ O) fun b hb hq => ⟨by omega, by omega⟩).same (k4.same fun x hx hq => by simp at hx; exact hq.2 hx))
  | false =>
    refine iF (by simp [SV.val, upd]) ?_
    refine cA_ok (a2 := a2) (a7 := a7) h14 r (by omega) fun O w1 rO hO k1 r1 e1 => ?_
    refine cC_ok (a2 := a2) (a7 := a7) hf e1 r1 (by omega) (ok := ok) (o := kx) e1.h12 (good_oc.same _ _ _ _ _ hkx (e0 ok k1)) l1 fun d1 w2 k2 s1 r2 e2 => ?_
    refine cC_ok (a2 := a2) (a7 := a7) hf e2 r2 (by omega) (ok := ok) (o := vx) e2.h13 (good_oc.same _ _ _ _ _ hvx (e0 ok (k1.then k2))) l2 fun d2 w3 k3 s2 r3 e3 => ?_
    have hsz := k1.size
    have hsz2 := k2.size
    have hOlt := rO.lt
    refine cL_ok (a2 := a2) (a7 := a7) e3 r3 (by omega) (n1 := kx.isNone) (n2 := vx.isNone) (d1 := d1) (d2 := d2) (by simp [upd]) (by simp [upd]) o0 o1 o3 o4 fun e4 => ?_
    refine cS_ok (vs := [a0, a1, a3, a4, .bool kx.isNone, d1, .bool vx.isNone, d2, .slice none 0 0]) (by simp [upd]) (by simp [upd]) (rO.keep (k2.then k3) (by simp)) rfl rfl (one9 (One.sl s1) (One.sl s2)) fun w4 rO4 k4 => ?_
    refine ⟨⟨_, by simp [upd, SV.val, add0]; rfl⟩, ?_⟩
    refine hk O d1 d2 _ w4 (by omega) ((k1.then (k2.then k3)).trans k4 fun x hx hlt => by simp at hx; omega) rO4 ?_ ?_ (by simp [upd, SV.val, add0]) (by simp [upd]) (by simp [upd, h.h2])
    · exact (((s1.weak (ok' := fun k => w.heap.size ≤ k ∧ k ≠ O) fun b hb hq => ⟨by omega, by omega⟩).same (e0 _ k3)).same (k4.same fun x hx hq => by simp at hx; exact hq.2 hx))
    · exact ((s2.weak (ok' := fun k => w.heap.size ≤ k ∧ k ≠ O) fun b hb hq => ⟨by omega, by omega⟩).same (k4.same fun x hx hq => by simp at hx; exact hq.2 hx))

end
end Go.Ar

/- A record as the thin package tells it: the whole. -/
namespace Go.Ar
open Go.Lx Go.Nx Go.Km Go.Mx Go.Kb

set_option linter.unusedSimpArgs false
set_option linter.unusedVariables false

/-- Headers in cells, three each. -/
def XsR (ok : Nat → Prop) (w : World) (l : List Hd) (xs : List Value) : Prop :=
  xs.length = l.length * 3 ∧ ∀ i (h : i < l.length), xs[i * 3]? = some (.string ⟨(l[i]).1.toArray⟩) ∧ xs[i * 3 + 1]? = some (.bool (l[i]).2.isNone) ∧ ∃ d, xs[i * 3 + 2]? = some d ∧ Sz ok w d ((l[i]).2.getD [])

def HdR (ok : Nat → Prop) (w : World) (l : List Hd) (v : Value) : Prop :=
  (v = .slice none 0 0 ∧ l = []) ∨ ∃ H c cs, v = .slice (some ⟨H, 0, none⟩) l.length c ∧ Row w H cs ∧ XsR ok w l (cs.take (l.length * 3))

/-- A record in cells, as the thin package has it. -/
def RecR (ok : Nat → Prop) (w : World) (x : Rec) (cs : List Value) : Prop :=
  ∃ d1 d2 hs, cs = [.int .i32 x.len, .int .i8 x.attr, .int .i64 x.delta, .int .i32 x.off, .bool x.key.isNone, d1, .bool x.val.isNone, d2, hs] ∧ Sz ok w d1 (x.key.getD []) ∧ Sz ok w d2 (x.val.getD []) ∧ HdR ok w x.hs hs

theorem XsR.same {ok : Nat → Prop} {w w' : World} {l : List Hd} {xs : List Value} (h : XsR ok w l xs) (k : Same ok w w') : XsR ok w' l xs := ⟨h.1, fun i hi => by
  obtain ⟨h1, h2, d, h3, h4⟩ := h.2 i hi
  exact ⟨h1, h2, d, h3, h4.same k⟩⟩

theorem XsR.weak {ok ok' : Nat → Prop} {w : World} {l : List Hd} {xs : List Value} (h : XsR ok w l xs) (k : ∀ b, b < w.heap.size → ok b → ok' b) : XsR ok' w l xs := ⟨h.1, fun i hi => by
  obtain ⟨h1, h2, d, h3, h4⟩ := h.2 i hi
  exact ⟨h1, h2, d, h3, h4.weak k⟩⟩

/-- One more. -/
theorem XsR.snoc {ok : Nat → Prop} {w : World} {l : List Hd} {xs : List Value} (h : XsR ok w l xs) {a : Hd} {d : Value} (hd : Sz ok w d (a.2.getD [])) : XsR ok w (l ++ [a]) (xs ++ [.string ⟨a.1.toArray⟩, .bool a.2.isNone, d]) := by
  obtain ⟨h0, h⟩ := h
  refine ⟨by simp [h0]; omega, fun i hi => ?_⟩
  simp only [List.length_append, List.length_cons, List.length_nil] at hi
  by_cases hil : i < l.length
  · obtain ⟨h1, h2, d', h3, h4⟩ := h i hil
    rw [List.getElem_append_left hil, List.getElem?_append_left (by omega), List.getElem?_append_left (by omega), List.getElem?_append_left (by omega)]
    exact ⟨h1, h2, d', h3, h4⟩
  · have : i = l.length := by omega
    subst this
    rw [List.getElem_append_right (by omega), List.getElem?_append_right (by omega), List.getElem?_append_right (by omega), List.getElem?_append_right (by omega)]
    have e0 : l.length * 3 - xs.length = 0 := by omega
    have e1 : l.length * 3 + 1 - xs.length = 1 := by omega
    have e2 : l.length * 3 + 2 - xs.length = 2 := by omega
    simp only [e0, e1, e2, Nat.sub_self, List.getElem_cons_zero]
    exact ⟨rfl, rfl, d, rfl, hd⟩

theorem xsR_nil (ok : Nat → Prop) (w : World) : XsR ok w [] [] := ⟨rfl, fun i hi => by simp at hi⟩

/-- A row of one's own, as it may be read. -/
theorem own_hd {ok : Nat → Prop} {w : World} {B : Nat} {e : TypeId} {v : Value} {l : List Hd} {xs : List Value} (h : w.ownsRow B e 3 v l.length xs) (hx : XsR ok w l xs) : HdR ok w l v := by
  rcases h.2 with ⟨h1, h2⟩ | ⟨g, cap, cur, h1, h2, h3, h4, h5, h6, h7⟩
  · exact .inl ⟨h1, List.length_eq_zero_iff.1 h2⟩
  · exact .inr ⟨g, cap, cur.toList, h1, ⟨e, by rw [h3]⟩, by rw [h7]; exact hx⟩

section
variable {P : Program} {eG : TypeId}

abbrev keep3 (k : NP) : NP := .keep .load [.q 49 1] 53 <| .keep .load [.q 49 0] 52 <| .keep .load [.q 42 8] 51 k

def trBody (oct : FuncId) (eG : TypeId) : NP := .op (.bin .lss) [.s 45, .s 44] 46 <|
    .ite (.s 46)
      (.nil)
      (.exit) <|
    .op (.ia 2) [.s 43, .s 45] 47 <|
    .chk 47 <|
    .op (.loadN 2) [.q 47 0] 48 <|
    .op (.alloc [.string ByteArray.empty, .slice none 0 0]) [] 49 <|
    .chk 49 <|
    .op (.store 2) [.q 49 0, .s 48] 50 <|
    .draw <|
    .look .load [.q 42 8] 51 <|
    .look .load [.q 49 0] 52 <|
    .look .load [.q 49 1] 53 <|
    .op (.call oct) [.s 53] 54 <| keep3 <|
    .op (.litG [.string ByteArray.empty, .bool false, .slice none 0 0] [(0, 1), (1, 2)]) [.s 52, .s 54] 55 <| keep3 <|
    .op (.bslG 3) [.s 55] 56 <| keep3 <|
    .op (.appG eG 3) [.s 51, .s 56] 57 <| keep3 <|
    .op (.store 1) [.q 42 8, .s 57] 58 <|
    .op (.bin .add) [.s 45, .k (.int .i64 1)] 59 <|
    .set 60 (.s 59) <|
    .set 45 (.s 60) <|
    .nil

theorem keep3_ok {O b : Nat} {csO : List Value} {hs ky u : Value} {η : Nat → Value} {w : World} {k : NP} {Q : Post} (h42 : η 42 = ptr O) (h49 : η 49 = ptr b) (h51 : η 51 = hs) (h52 : η 52 = ky) (h53 : η 53 = u) (rO : Row w O csO) (hO : csO[8]? = some hs) (rb : Row w b [ky, u]) (hk : k.wp P Q η w) : (keep3 k).wp P Q η w := by
  have ld : ∀ (j o n B : Nat) (cs : List Value) (v : Value) (k' : NP), η j = ptr B → Row w B cs → cs[o]? = some v → η n = v → k'.wp P Q η w → (NP.keep .load [.q j o] n k').wp P Q η w := fun j o n B cs v k' hj hr ho hn hk' => by
    refine ⟨?_, hk'⟩
    show In.wp P .load _ _ _
    have : [SV.q j o].map (SV.val η) = [.pointer (some ⟨B, o, none⟩)] := by simp [SV.val, hj, Addr.add]; omega
    rw [this]
    exact wp_load hr ho ⟨hn.symm, rfl⟩
  exact ld 49 1 53 b _ u _ h49 rb rfl h53 (ld 49 0 52 b _ ky _ h49 rb rfl h52 (ld 42 8 51 O _ hs _ h42 rO hO h51 hk))

/-- A round's place. -/
structure TIn (w0 wl : World) (B O R1 : Nat) (v43 : Value) (l : List Hd) (pre : List Value) (eG : TypeId) (i : Nat) (η : Nat → Value) (w : World) : Prop where
  h1 : η 1 = ptr R1
  h42 : η 42 = ptr O
  h43 : η 43 = v43
  h44 : η 44 = .int .i64 l.length
  h45 : η 45 = .int .i64 i
  keep : Keep [] w0 w
  same : Same (fun k => k < B ∧ k ≠ O) wl w
  rest : ∃ hs xs, Row w O (pre ++ [hs]) ∧ w.ownsRow B eG 3 hs i xs ∧ XsR (fun k => B ≤ k ∧ hs.ownBlock ≠ some k) w (l.take i) xs

theorem Gr.row {w w' : World} {v v' : Value} {b : Nat} {cs : List Value} (h : Gr w v w' v') (hr : Row w b cs) (hb : v.ownBlock ≠ some b) : Row w' b cs := by
  have hlt := hr.lt
  obtain ⟨e, hr⟩ := hr
  exact ⟨e, by rw [h.1.block b hlt (fun h => hb h.symm)]; exact hr⟩

theorem owns_lt {w : World} {B n sz : Nat} {e : TypeId} {v : Value} {xs : List Value} (h : w.ownsRow B e sz v n xs) : ∀ g, v.ownBlock = some g → B ≤ g ∧ g < w.heap.size := by
  intro g hg
  rcases h.2 with ⟨rfl, _⟩ | ⟨g', cap, cur, rfl, h2, h3, _⟩
  · cases hg
  · cases hg; exact ⟨h2, (Array.getElem?_eq_some_iff.1 h3).1⟩

theorem owns_keep {w w' : World} {B n sz : Nat} {e : TypeId} {v : Value} {xs : List Value} (h : w.ownsRow B e sz v n xs) {A : List Nat} (k : Keep A w w') (hA : ∀ g, v.ownBlock = some g → g ∉ A) : w'.ownsRow B e sz v n xs := by
  refine ⟨h.1, ?_⟩
  rcases h.2 with h2 | ⟨g, cap, cur, h1, h2, h3, h4⟩
  · exact .inl h2
  · refine .inr ⟨g, cap, cur, h1, h2, ?_, h4⟩
    rw [k.block g (Array.getElem?_eq_some_iff.1 h3).1 (hA g (by rw [h1]; rfl))]
    exact h3

theorem owns_one {w : World} {B n sz : Nat} {e : TypeId} {v : Value} {xs : List Value} (h : w.ownsRow B e sz v n xs) : One v := by
  rcases h.2 with ⟨rfl, _⟩ | ⟨g', cap, cur, rfl, _⟩ <;> exact ⟨rfl, rfl⟩

theorem tround {oct : FuncId} (hf : OctFn P oct) {w0 wl : World} {B O R1 : Nat} {v43 : Value} {l : List Hd} {pre : List Value} {i : Nat} {η : Nat → Value} {w : World} {Q : Post}
    (hpre : pre.length = 8) (hO0 : w0.heap.size ≤ O) (hOB : O < B) (hBl : B = wl.heap.size) (hi : i < l.length) (hll : l.length ≤ 1048576) (hlim : ∀ h ∈ l, (h.2.getD []).length ≤ lim)
    (hsrc : ∃ Hp cap csP, v43 = .slice (some ⟨Hp, 0, none⟩) l.length cap ∧ Hp < B ∧ Hp ≠ O ∧ Row wl Hp csP ∧ HdsC (fun k => k < B ∧ k ≠ O) wl l csP)
    (h : TIn w0 wl B O R1 v43 l pre eG i η w) (hk : ∀ η' w', TIn w0 wl B O R1 v43 l pre eG (i + 1) η' w' → Q .nrm η' w') : (trBody oct eG).wp P Q η w := by
  obtain ⟨hs, xs, rO, ow, hx⟩ := h.rest
  obtain ⟨Hp, cap, csP, rfl, hHB, hHO, rP, hP⟩ := hsrc
  have rPw : Row w Hp csP := by
    obtain ⟨e, rP⟩ := rP
    exact ⟨e, by rw [h.same.2 Hp (by omega) ⟨hHB, hHO⟩]; exact rP⟩
  have hPw := hP.same h.same
  have hBw : B ≤ w.heap.size := by rw [hBl]; exact h.same.1
  obtain ⟨p1, u, p2, p3⟩ := hPw i hi
  have hgO : hs.ownBlock ≠ some O := fun hh => by have := owns_lt ow O hh; omega
  refine np_op (vs := [.int .i64 (i : Int), .int .i64 (l.length : Int)]) (by simp [SV.val, h.h45, h.h44]) ⟨.i64, _, _, _, rfl, rfl, ?_⟩
  refine iT (by simp [SV.val, upd]; omega) ?_
  refine np_op (vs := [.slice (some ⟨Hp, 0, none⟩) l.length cap, .int .i64 (i : Int)]) (by simp [SV.val, upd, h.h43, h.h45]) ⟨_, _, _, .i64, i, rfl, hi, ?_⟩
  have hadd : (⟨Hp, 0, none⟩ : Addr).add (i * 2) = ⟨Hp, i * 2, none⟩ := by simp [Addr.add]; omega
  rw [hadd]
  refine ⟨⟨_, by simp only [upd]; rfl⟩, ?_⟩
  have hu1 : One u := good_oc.one _ _ _ _ p3
  have hcell : (csP.drop (i * 2)).take 2 = [.string ⟨(l[i]).1.toArray⟩, u] := by
    apply List.ext_getElem?
    intro j
    rw [List.getElem?_take]
    rcases j with _ | _ | j
    · simpa [List.getElem?_drop] using p1
    · simpa [List.getElem?_drop] using p2
    · simp; omega
  have hlenP : i * 2 + 2 ≤ csP.length := by
    have := (List.getElem?_eq_some_iff.1 p2).1
    omega
  refine np_op (vs := [.pointer (some ⟨Hp, i * 2, none⟩)]) (by simp [SV.val, upd, Addr.add]) (wp_loadN rPw hlenP ?_)
  rw [hcell]
  refine np_op (vs := []) rfl (wp_alloc fun b w1 r1 hb k1 => ?_)
  refine ⟨⟨_, by simp only [upd]; rfl⟩, ?_⟩
  refine np_op (vs := [ptr b, .agg #[.string ⟨(l[i]).1.toArray⟩, u]]) (by simp [SV.val, upd, add0]) (wp_store r1 (n := 2) ⟨rfl, by have := hu1.2; simp only [Value.cells]; simp [this]; rfl⟩ (by simp) fun w2 r2 k2 => ?_)
  have r2 : Row w2 b [.string ⟨(l[i]).1.toArray⟩, u] := r2
  have k02 : Keep [] w w2 := k1.trans k2 fun x hx hlt => by simp at hx; omega
  refine np_draw ?_
  have kd := keep_drawn w2
  have k03 := k02.then kd
  generalize hw3 : ({ w2 with drawn := w2.drawn + 1 } : World) = w3 at kd k03 ⊢
  have r3 := r2.keep kd (by simp)
  have rO3 := rO.keep k03 (by simp)
  have ow3 := owns_keep ow k03 (fun g _ hg => by cases hg)
  have hO8 : (pre ++ [hs])[8]? = some hs := by rw [List.getElem?_append_right (by omega), hpre]; rfl
  refine np_look (vs := [.pointer (some ⟨O, 8, none⟩)]) (by simp [SV.val, upd, h.h42, Addr.add]) (wp_load rO3 hO8 ⟨rfl, ?_⟩)
  refine np_look (vs := [ptr b]) (by simp [SV.val, upd, add0]) (wp_load r3 rfl ⟨rfl, ?_⟩)
  refine np_look (vs := [.pointer (some ⟨b, 1, none⟩)]) (by simp [SV.val, upd, Addr.add]) (wp_load r3 rfl ⟨rfl, ?_⟩)
  have p3' := good_oc.same _ _ _ _ _ p3 (k03.same (ok := fun k => k < B ∧ k ≠ O) fun x hx => by cases hx)
  refine np_op (vs := [u]) (by simp [SV.val, upd]) (hf _ w3 _ u _ p3' (hlim _ (List.getElem_mem hi)) fun d w4 k4 hd => ?_)
  have k04 := k03.then k4
  have r4 := r3.keep k4 (by simp)
  have rO4 := rO3.keep k4 (by simp)
  refine keep3_ok (O := O) (b := b) (by simp [upd, h.h42]) (by simp [upd]) (by simp [upd]) (by simp [upd]) (by simp [upd]) rO4 hO8 r4 ?_
  have hd1 : One d := One.sl hd
  have hA : (Value.agg #[.bool (l[i]).2.isNone, d]).cells = #[.bool (l[i]).2.isNone, d] := rfl
  have hS : ∀ s, (Value.string s).cells = #[.string s] := fun s => rfl
  refine np_op (vs := [.string ⟨(l[i]).1.toArray⟩, .agg #[.bool (l[i]).2.isNone, d]]) (by simp [SV.val, upd]) ⟨[.string ⟨(l[i]).1.toArray⟩, .bool (l[i]).2.isNone, d], by simp [fillG, hS, hA], ?_⟩
  refine keep3_ok (O := O) (b := b) (by simp [upd, h.h42]) (by simp [upd]) (by simp [upd]) (by simp [upd]) (by simp [upd]) rO4 hO8 r4 ?_
  refine np_op (vs := [.agg #[.string ⟨(l[i]).1.toArray⟩, .bool (l[i]).2.isNone, d]]) (by simp [SV.val, upd]) ⟨fun v hv => by simp at hv; subst hv; rfl, fun e5 => ?_⟩
  have hfl : ([Value.agg #[.string ⟨(l[i]).1.toArray⟩, .bool (l[i]).2.isNone, d]].map (·.cells.toList)).flatten = [.string ⟨(l[i]).1.toArray⟩, .bool (l[i]).2.isNone, d] := by simp [Value.cells]
  rw [hfl]
  obtain ⟨r5n, k5⟩ := alloc_row (w := w4) [.string ⟨(l[i]).1.toArray⟩, .bool (l[i]).2.isNone, d] e5
  generalize hw5 : w4.alloc (.cells [Value.string ⟨(l[i]).1.toArray⟩, .bool (l[i]).2.isNone, d].toArray e5) = w5 at r5n k5 ⊢
  generalize hN : w4.heap.size = N5 at r5n ⊢
  have k05 := k04.then k5
  have r5 := r4.keep k5 (by simp)
  have rO5 := rO4.keep k5 (by simp)
  have ow5 := owns_keep ow k05 (fun g _ hg => by cases hg)
  refine keep3_ok (O := O) (b := b) (by simp [upd, h.h42]) (by simp [upd]) (by simp [upd]) (by simp [upd]) (by simp [upd]) rO5 hO8 r5 ?_
  have hsz05 := k05.size
  refine np_op (vs := [hs, .slice (some ⟨N5, 0, none⟩) 1 1]) (by simp [SV.val, upd]) ⟨B, hs, i, xs, _, 1, 1, [.string ⟨(l[i]).1.toArray⟩, .bool (l[i]).2.isNone, d], rfl, ow5, by omega, rfl, fun j v hj => ?_, fun v hv => ?_, by omega, fun hs' w6 ow6 hb6 hg6 => ?_⟩
  · have ha : (⟨N5, 0, none⟩ : Addr).add j = ⟨N5, j, none⟩ := by simp [Addr.add]; omega
    rw [ha]; exact r5n.cell hj
  · simp at hv
    rcases hv with rfl | rfl | rfl
    · rfl
    · rfl
    · exact hd1.2
  have hbw : b < w5.heap.size := r5.lt
  have hgb : hs.ownBlock ≠ some b := fun hh => by have := owns_lt ow b hh; omega
  have r6 : Row w6 b _ := Gr.row hg6 r5 hgb
  have rO6 : Row w6 O _ := Gr.row hg6 rO5 hgO
  refine keep3_ok (O := O) (b := b) (by simp [upd, h.h42]) (by simp [upd]) (by simp [upd]) (by simp [upd]) (by simp [upd]) rO6 hO8 r6 ?_
  have hone' := owns_one ow6
  refine np_op (vs := [.pointer (some ⟨O, 8, none⟩), hs']) (by simp [SV.val, upd, h.h42, Addr.add]) (wp_store rO6 hone'.fit (by simp; omega) fun w7 rO7 k7 => ?_)
  have hput : put (pre ++ [hs]) 8 hs'.cells.toList = pre ++ [hs'] := by
    rw [hone'.list]
    unfold put
    rw [List.take_left' hpre, List.drop_of_length_le (by simp; omega), List.append_nil]
  rw [hput] at rO7
  refine np_op (vs := [.int .i64 (i : Int), .int .i64 1]) (by simp [SV.val, upd, h.h45]) ⟨.i64, _, _, _, rfl, rfl, ?_⟩
  rw [wrap64 _ (by omega) (by omega)]
  have hg' : hs'.ownBlock ≠ some O := fun hh => by
    have := owns_lt ow6 O hh; omega
  have k56 : Keep [] w0 w6 := by
    have ka := h.keep.then k05
    refine ⟨hb6.os.trans ka.os, hb6.tape.trans ka.tape, hb6.output.trans ka.output, Nat.le_trans ka.size hb6.size, fun k hk hkn => ?_⟩
    rw [hb6.block k (by omega)]
    exact ka.block k hk hkn
  refine hk _ w7 ⟨by simp [upd, h.h1], by simp [upd, h.h42], by simp [upd, h.h43], by simp [upd, h.h44], by simp [upd, SV.val], ?_, ?_, hs', xs ++ [.string ⟨(l[i]).1.toArray⟩, .bool (l[i]).2.isNone, d], rO7, ?_, ?_⟩
  · exact k56.trans k7 fun x hx hlt => by simp at hx; omega
  · have s1 : Same (fun k => k < B ∧ k ≠ O) w w5 := k05.same fun x hx => by cases hx
    have s2 : Same (fun k => k < B ∧ k ≠ O) w5 w6 := Same.below hb6 fun k hk => hk.1
    have s3 : Same (fun k => k < B ∧ k ≠ O) w6 w7 := k7.same fun x hx hh => by simp at hx; exact hh.2 hx
    exact h.same.trans (s1.trans (s2.trans s3))
  · exact owns_keep ow6 k7 (fun g hg hm => by simp at hm; exact hg' (by rw [hg, hm]))
  · rw [List.take_succ_eq_append_getElem hi]
    have hx5 : XsR (fun k => B ≤ k ∧ hs.ownBlock ≠ some k) w5 (l.take i) xs := hx.same (k05.same fun x hx => by cases hx)
    have hd5 : Sl (fun k => B ≤ k ∧ hs.ownBlock ≠ some k) w5 d ((l[i]).2.getD []) := (hd.weak fun q hq hqq => ⟨by have := k03.size; omega, fun hh => by have := owns_lt ow q hh; have := k03.size; omega⟩).same (k5.same fun x hx => by cases hx)
    have hnew := XsR.snoc hx5 (.inl hd5)
    have hs56 : Same (fun k => B ≤ k ∧ hs.ownBlock ≠ some k) w5 w6 := ⟨hb6.size, fun k hk hq => hg6.1.block k hk (fun hh => hq.2 hh.symm)⟩
    have hw : XsR (fun k => B ≤ k ∧ hs'.ownBlock ≠ some k) w6 (l.take i ++ [l[i]]) (xs ++ [.string ⟨(l[i]).1.toArray⟩, .bool (l[i]).2.isNone, d]) := by
      have hlow : XsR (fun k => (B ≤ k ∧ hs.ownBlock ≠ some k) ∧ k < w5.heap.size) w5 (l.take i ++ [l[i]]) (xs ++ [.string ⟨(l[i]).1.toArray⟩, .bool (l[i]).2.isNone, d]) := hnew.weak fun q hq hqq => ⟨hqq, hq⟩
      refine (hlow.same ⟨hs56.1, fun k hk hq => hs56.2 k hk hq.1⟩).weak fun q _ hq => ⟨hq.1.1, ?_⟩
      rcases hg6.2 with e | e
      · rw [e]; exact hq.1.2
      · intro hh; have := e q hh; omega
    exact hw.same (k7.same fun x hx hh => by simp at hx; have := hh.1; omega)

end
end Go.Ar

/- THE THIN PACKAGE TELLS A RECORD. -/
namespace Go.Ar
open Go.Lx Go.Nx Go.Km Go.Mx Go.Kb

set_option linter.unusedSimpArgs false
set_option linter.unusedVariables false

theorem rdOc_le {bs : Bs} {x : Option Bs} {r : Bs} (h : rdOc bs = some (x, r)) : (x.getD []).length + r.length ≤ bs.length := by
  simp only [rdOc, Option.bind_eq_some_iff] at h
  obtain ⟨⟨n, r1⟩, h1, h2⟩ := h
  have := (rdVi_lt h1).1
  dsimp only at h2
  split at h2
  · cases h2; simp; omega
  · simp only [Option.map_eq_some_iff, rdSpan] at h2
    obtain ⟨⟨q, r2⟩, h3, h4⟩ := h2
    cases h4
    split at h3
    · have := cut_some h3; obtain ⟨e, _⟩ := this; subst e; simp at *; omega
    · cases h3

theorem rdHs_le : ∀ (n : Nat) (bs : Bs) (l : List Hd) (r : Bs), rdHs n bs = some (l, r) → r.length ≤ bs.length ∧ ∀ h ∈ l, (h.2.getD []).length ≤ bs.length := by
  intro n
  induction n with
  | zero => intro bs l r h; simp only [rdHs, Option.some.injEq, Prod.mk.injEq] at h; obtain ⟨rfl, rfl⟩ := h; exact ⟨Nat.le_refl _, fun h hh => by simp at hh⟩
  | succ n ih =>
    intro bs l r h
    simp only [rdHs, Option.bind_eq_some_iff, Option.map_eq_some_iff] at h
    obtain ⟨⟨h1, r1⟩, e1, ⟨l2, r2⟩, e2, e3⟩ := h
    cases e3
    obtain ⟨g1, g2⟩ := ih _ _ _ e2
    simp only [rdHd, Option.bind_eq_some_iff, Option.map_eq_some_iff] at e1
    obtain ⟨⟨k, r3⟩, e4, ⟨v, r4⟩, e5, e6⟩ := e1
    cases e6
    have := rdOc_le e4
    have := rdOc_le e5
    dsimp only at *
    refine ⟨by omega, fun h hh => ?_⟩
    rcases List.mem_cons.1 hh with rfl | hh
    · dsimp only; omega
    · have := g2 h hh; omega

theorem rdI1_lt {bs : Bs} {x : Int} {r : Bs} (h : rdI 1 bs = some (x, r)) : r.length ≤ bs.length := by
  simp only [rdI, rdU, Option.map_eq_some_iff] at h
  obtain ⟨⟨q, r1⟩, ⟨⟨q2, r2⟩, h1, h2⟩, h3⟩ := h
  cases h3; cases h2
  have := cut_some h1; obtain ⟨e, _⟩ := this; subst e; simp

theorem rdRec_le {bs : Bs} {x : Rec} {r : Bs} (h : rdRec bs = some (x, r)) : (x.key.getD []).length ≤ bs.length ∧ (x.val.getD []).length ≤ bs.length ∧ x.hs.length ≤ bs.length ∧ ∀ h ∈ x.hs, (h.2.getD []).length ≤ bs.length := by
  simp only [rdRec, Option.bind_eq_some_iff] at h
  obtain ⟨⟨l, b0⟩, h1, ⟨a, b1⟩, h2, ⟨d, b2⟩, h3, ⟨o, b3⟩, h4, ⟨k, b4⟩, h5, ⟨v, b5⟩, h6, ⟨n, b6⟩, h7, h8⟩ := h
  dsimp only at *
  split at h8
  · cases h8
  · simp only [Option.map_eq_some_iff] at h8
    obtain ⟨⟨hs, b7⟩, h9, h10⟩ := h8
    cases h10
    have q1 := (rdVi_lt h1).1
    have q2 := rdI1_lt h2
    have q3 := (rdVl_lt h3).1
    have q4 := (rdVi_lt h4).1
    have q5 := rdOc_le h5
    have q6 := rdOc_le h6
    have q7 := (rdVi_lt h7).1
    obtain ⟨m1, m2⟩ := rdHs_many _ _ _ _ h9
    obtain ⟨m3, m4⟩ := rdHs_le _ _ _ _ h9
    dsimp only
    refine ⟨by omega, by omega, by omega, fun h hh => ?_⟩
    have := m4 h hh
    omega

/-- No part is longer than so many. -/
def RBd (x : Rec) (n : Nat) : Prop := (x.key.getD []).length ≤ n ∧ (x.val.getD []).length ≤ n ∧ x.hs.length ≤ n ∧ ∀ h ∈ x.hs, (h.2.getD []).length ≤ n

section
variable {P : Program} {eG : TypeId}

def p_ReadFrom (fr : FuncId) : FnP := ⟨.op (.call fr) [.s 0, .s 1, .k (.bool false)] 2 <|
  .ret [.s 2], [.direct]⟩

def p_tellRecord (own fRF oct : FuncId) (eG : TypeId) : FnP := ⟨.op (.alloc z9) [] 1 <|
  .chk 1 <|
  .op (.alloc zV) [] 2 <|
  .chk 2 <|
  .op (.call own) [.s 0] 3 <|
  .op (.call fRF) [.q 2 0, .s 3] 4 <|
  .op (.isNil 2 true) [.s 4] 5 <|
  .ite (.s 5)
    (.op (.lit z9 []) [] 6 <|
    .op (.store 9) [.q 1 0, .s 6] 7 <|
    .ret [.q 1 0, .k (.bool false)])
    (.nil) <|
  .draw <|
  .look .load [.q 2 0] 8 <|
  .look .load [.q 2 1] 9 <|
  .look .load [.q 2 3] 10 <|
  .look .load [.q 2 4] 11 <|
  .look .load [.q 2 5] 12 <|
  .look .load [.q 2 6] 13 <|
  cpy oct <|
  .op .load [.q 2 7] 43 <|
  .op .len [.s 43] 44 <|
  .set 45 (.k (.int .i64 0)) <|
  .loop (trBody oct eG) <|
  .op (.loadN 9) [.q 42 0] 61 <|
  .op (.store 9) [.q 1 0, .s 61] 62 <|
  .ret [.q 1 0, .k (.bool true)], [.cells 9, .direct]⟩

theorem wrap_ok (hn : Named P) {fr fRF : FuncId} (hRF : fnP P fRF 2 = some (p_ReadFrom fr)) {a b : Value} {w : World} {K : Value → World → Prop} (h : In.wp P (.call fr) [a, b, .bool false] w K) : In.wp P (.call fRF) [a, b] w K := by
  refine calls_of_np hn (vs := [a, b]) hRF fun ξ hξ => ?_
  have x0 : ξ 0 = a := hξ 0 (by simp)
  have x1 : ξ 1 = b := hξ 1 (by simp)
  refine np_op (vs := [a, b, .bool false]) (by simp [SV.val, x0, x1]) (In.wp_mono (fun v w' hk => ?_) h)
  show K (pack _) w'
  simpa [SV.val, upd, pack] using hk

/-- What a telling of a record gives. -/
def TellFn (P : Program) (f : FuncId) (g : Nat) : Prop := ∀ (w : World) (src : Value) (bs : Bs) (K : Value → World → Prop) (et : TypeId) (ev : Value), Sl0 w src bs → bs.length ≤ 1048576 → w.cell? ⟨g, 0, none⟩ = some (.iface et ev) →
  (∀ x cs w', Keep [] w w' → RecR (fun _ => True) w' x cs → (∀ y r, rdRec bs = some (y, r) → x = y) → RBd x bs.length → K (.tuple #[.agg cs.toArray, .bool (rdRec bs).isSome]) w') → In.wp P (.call f) [src] w K

theorem recR_zero (w : World) : RecR (fun _ => True) w ⟨0, 0, 0, 0, some [], some [], []⟩ z9 :=
  ⟨.slice none 0 0, .slice none 0 0, .slice none 0 0, rfl, nilZ, nilZ, .inl ⟨rfl, rfl⟩⟩

theorem tellRecord_ok (hn : Named P) {I : AI} {g : Nat} (F : AFns P I g) {f fr fRF own oct : FuncId} (hr : fnP P fr 3 = some (p_readFrom I)) (hRF : fnP P fRF 2 = some (p_ReadFrom fr)) (hown : OwnFn P own) (hoct : OctFn P oct) (hf : fnP P f 1 = some (p_tellRecord own fRF oct eG)) : TellFn P f g := by
  intro w src bs K et ev hsl hlen herr hk
  refine calls_of_np hn (vs := [src]) hf fun η hη => ?_
  have h0 : η 0 = src := hη 0 (by simp)
  have hglt : g < w.heap.size := cellLt herr
  refine np_op (vs := []) rfl (wp_alloc fun R1 w1 r1 hR1 k1 => ?_)
  refine ⟨⟨_, by simp only [upd]; rfl⟩, ?_⟩
  refine np_op (vs := []) rfl (wp_alloc fun V w2 r2 hV k2 => ?_)
  refine ⟨⟨_, by simp only [upd]; rfl⟩, ?_⟩
  have k02 := k1.then k2
  have hR1lt := r1.lt
  have hVlt := r2.lt
  have hsl2 : Sl0 w2 src bs := by
    rcases hsl with h | ⟨a, c, h1, h2⟩
    · exact .inl h
    · refine .inr ⟨a, c, h1, fun j hj => ?_⟩
      have hc := h2 j hj
      have hlt : (a.add j).block < w.heap.size := cellLt hc
      rw [World.cell?_of_block (k02.block _ hlt (by simp))]
      exact hc
  refine np_op (vs := [src]) (by simp [SV.val, upd, h0]) (hown w2 src bs _ hsl2 (by unfold lim; omega) fun v3 w3 k3 s3 => ?_)
  have k03 := k02.then k3
  have r13 := r1.keep (k2.then k3) (by simp)
  have r23 := r2.keep k3 (by simp)
  have hk1 := k1.size
  have hgV : g ≠ V := by omega
  have herr3 : w3.cell? ⟨g, 0, none⟩ = some (.iface et ev) := by
    rw [World.cell?_of_block (w := w) (w' := w3) (k03.block g hglt (by simp))]; exact herr
  refine np_op (vs := [ptr V, v3]) (by simp [SV.val, upd, add0]) (wrap_ok hn hRF (readFrom_ok hn F hr r23 (s3.weak fun b hb hq => by omega) herr3 hgV (fun hbad w4 k4 => ?_) (fun x r hrec w4 cs k4 r4 hcs => ?_)))
  · have r14 := r13.keep k4 (by simp; omega)
    refine np_op (vs := [.iface et ev]) (by simp [SV.val, upd, pack]) ⟨_, false, rfl, rfl, ?_⟩
    refine iT (by simp [SV.val, upd]) ?_
    refine np_op (vs := []) rfl ⟨rfl, fun v hv => by simp at hv, ?_⟩
    refine np_op (vs := [ptr R1, .agg z9.toArray]) (by simp [SV.val, upd, add0, putAll]) (wp_store r14 (n := 9) ⟨rfl, by simp [Value.cells, Value.oneCell']⟩ (by simp) fun w5 r5 k5 => ?_)
    have r5 : Row w5 R1 z9 := r5
    refine ⟨R1, 0, z9, by simp [SV.val, upd, add0], by simpa using r5.range 0 9, rfl, ?_⟩
    have kall : Keep [] w w5 := (k03.trans k4 fun x hx hlt => by simp at hx; omega).trans k5 fun x hx hlt => by simp at hx; omega
    have := hk ⟨0, 0, 0, 0, some [], some [], []⟩ z9 w5 kall (recR_zero w5) (fun y r hy => by rw [hbad] at hy; cases hy) ⟨by simp, by simp, by simp, by simp⟩
    rw [hbad] at this
    show K (pack _) w5
    simpa [pack, SV.val] using this
  · obtain ⟨td, key, val, hs, rfl, hkey, hval, hhs⟩ := hcs
    obtain ⟨b1, b2, b3, b4⟩ := rdRec_le hrec
    have hV3 : w.heap.size ≤ V := by omega
    have k04 : Keep [] w w4 := k03.trans k4 fun x hx hlt => by simp at hx; omega
    have r14 := r13.keep k4 (by simp; omega)
    have hsz34 := k4.size
    have hsz23 := k3.size
    refine np_op (vs := [.nilIface]) (by simp [SV.val, upd, pack]) ⟨_, true, rfl, rfl, ?_⟩
    refine iF (by simp [SV.val, upd]) ?_
    refine np_draw ?_
    have kd := keep_drawn w4
    generalize hw5 : ({ w4 with drawn := w4.drawn + 1 } : World) = w5 at kd ⊢
    have r5 := r4.keep kd (by simp)
    have r15 := r14.keep kd (by simp)
    have look : ∀ {o n : Nat} {v : Value} {ζ : Nat → Value} {k : NP} {Q : Post}, ζ 2 = ptr V → ([Value.int .i32 x.len, .int .i8 x.attr, td, .int .i64 x.delta, .int .i32 x.off, key, val, hs] : List Value)[o]? = some v → k.wp P Q (upd ζ n v) w5 → (NP.look .load [.q 2 o] n k).wp P Q ζ w5 := fun {o n v ζ k Q} h2 ho hk' => by
      refine np_look (vs := [.pointer (some ⟨V, o, none⟩)]) (by simp [SV.val, h2, Addr.add]; omega) (wp_load r5 ho ⟨rfl, hk'⟩)
    refine look (by simp [upd, SV.val]) rfl ?_
    refine look (by simp [upd, SV.val]) rfl ?_
    refine look (by simp [upd, SV.val]) rfl ?_
    refine look (by simp [upd, SV.val]) rfl ?_
    refine look (by simp [upd, SV.val]) rfl ?_
    refine look (by simp [upd, SV.val]) rfl ?_
    have hsame5 : Same (fun k => k ≠ V) w4 w5 := kd.same fun x hx => by cases hx
    refine cpy_ok hoct (a0 := .int .i32 x.len) (a1 := .int .i8 x.attr) (a2 := td) (a3 := .int .i64 x.delta) (a4 := .int .i32 x.off) (a5 := key) (a6 := val) (a7 := hs) (V := V) ⟨by simp [upd], by simp [upd], by simp [upd], by simp [upd], by simp [upd], by simp [upd], by simp [upd]⟩ r5 ⟨rfl, rfl⟩ ⟨rfl, rfl⟩ ⟨rfl, rfl⟩ ⟨rfl, rfl⟩
      (good_oc.same _ _ _ _ _ hkey hsame5) (good_oc.same _ _ _ _ _ hval hsame5) (by unfold lim; omega) (by unfold lim; omega) fun O d1 d2 η6 w6 hO k6 rO s1 s2 e42 e1 e2 => ?_
    have e1 : η6 1 = ptr R1 := by rw [e1]; simp [upd, SV.val]
    have r6 := r5.keep k6 (by simp)
    have r16 := r15.keep k6 (by simp)
    have hOlt := rO.lt
    have hsz45 := kd.size
    have hsz56 := k6.size
    refine np_op (vs := [.pointer (some ⟨V, 7, none⟩)]) (by simp [SV.val, e2, Addr.add]) (wp_load r6 rfl ?_)
    have hlenhs : ∃ a c, hs = .slice a x.hs.length c := by
      rcases hhs with ⟨h1, h2⟩ | ⟨Hp, c, csP, h1, _⟩
      · exact ⟨none, 0, by rw [h2, h1]; rfl⟩
      · exact ⟨_, _, h1⟩
    obtain ⟨a43, c43, hhs43⟩ := hlenhs
    refine np_op (vs := [.slice a43 x.hs.length c43]) (by simp [SV.val, upd, hhs43]) ⟨_, _, _, rfl, ?_⟩
    have k06 : Keep [] w w6 := k04.then (kd.then k6)
    let pre : List Value := [.int .i32 x.len, .int .i8 x.attr, .int .i64 x.delta, .int .i32 x.off, .bool x.key.isNone, d1, .bool x.val.isNone, d2]
    have hsrc : ∀ i, i < x.hs.length → ∃ Hp cap csP, hs = .slice (some ⟨Hp, 0, none⟩) x.hs.length cap ∧ Hp < w6.heap.size ∧ Hp ≠ O ∧ Row w6 Hp csP ∧ HdsC (fun k => k < w6.heap.size ∧ k ≠ O) w6 x.hs csP := by
      intro i hi
      rcases hhs with ⟨h1, h2⟩ | ⟨Hp, c, csP, h1, h2, h3, h4, h5, h6⟩
      · rw [h1] at hi; simp at hi
      · have := h3.lt
        have kk := kd.then k6
        exact ⟨Hp, c, csP, h1, by omega, by omega, h3.keep kk (by simp), (h6.weak (ok' := fun k => k < w6.heap.size ∧ k ≠ O) fun b hb _ => ⟨by omega, by omega⟩).same (kk.same fun x hx => by cases hx)⟩
    refine lp (fun m η' w' => ∃ i, i + m = x.hs.length ∧ TIn w w6 w6.heap.size O R1 hs x.hs pre eG i η' w') x.hs.length ⟨0, by omega, ?_⟩ ?_
    · refine ⟨by simp [upd, e1], by simp [upd, e42], by simp [upd], by simp [upd, goInt], by simp [upd, SV.val], k06, Same.refl _ _, .slice none 0 0, [], rO, ⟨rfl, .inl ⟨rfl, rfl⟩⟩, ?_⟩
      rw [List.take_zero]
      exact xsR_nil _ _
    · rintro m η' w' ⟨i, him, hin⟩
      by_cases hm : i < x.hs.length
      · exact tround hoct rfl (by omega) hOlt rfl hm (by omega) (fun h hh => by have := b4 h hh; unfold lim; omega) (hsrc i hm) hin fun η'' w'' hin' => ⟨m - 1, by omega, i + 1, by omega, hin'⟩
      · have hiN : i = x.hs.length := by omega
        subst hiN
        refine np_op (vs := [.int .i64 (x.hs.length : Int), .int .i64 (x.hs.length : Int)]) (by simp [SV.val, hin.h45, hin.h44]) ⟨.i64, _, _, _, rfl, rfl, ?_⟩
        refine iF (by simp [SV.val, upd]) ?_
        show NP.wp P (.op (.loadN 9) [.q 42 0] 61 _) _ _ w'
        obtain ⟨hs', xs, rO', ow, hx⟩ := hin.rest
        rw [List.take_length] at hx
        refine np_op (vs := [ptr O]) (by simp [SV.val, upd, hin.h42, add0]) (wp_loadN rO' (by simp [pre]) ?_)
        have hpc : ((pre ++ [hs']).drop 0).take 9 = pre ++ [hs'] := rfl
        rw [hpc]
        have r17 : Row w' R1 z9 := by
          obtain ⟨e, q⟩ := r16
          exact ⟨e, by rw [hin.same.2 R1 (by omega) ⟨by omega, by omega⟩]; exact q⟩
        have hone := owns_one ow
        refine np_op (vs := [ptr R1, .agg (pre ++ [hs']).toArray]) (by simp [SV.val, upd, hin.h1, add0]) (wp_store r17 (n := 9) ⟨rfl, ?_⟩ (by simp) fun w8 r8 k8 => ?_)
        · have q1 := (One.sl s1).2
          have q2 := (One.sl s2).2
          simp only [Value.cells]
          simp [pre, q1, q2, hone.2]
          first | rfl | simp [Value.oneCell']
        · have r8 : Row w8 R1 (pre ++ [hs']) := r8
          refine ⟨R1, 0, pre ++ [hs'], by simp [SV.val, upd, hin.h1, add0], by simpa [pre] using r8.range 0 9, rfl, ?_⟩
          have kall : Keep [] w w8 := hin.keep.trans k8 fun x hx hlt => by simp at hx; omega
          have dS : ∀ {d : Value} {l : Bs}, Sl (fun k => w5.heap.size ≤ k ∧ k ≠ O) w6 d l → Sl (fun _ => True) w8 d l := fun {d l} s => by
            have s' : Sl (fun k => (k < w6.heap.size ∧ k ≠ O) ∧ k ≠ R1) w6 d l := s.weak fun b hb hq => ⟨⟨hb, hq.2⟩, by omega⟩
            have s'' := s'.same (w' := w') ⟨hin.same.1, fun k hk hq => hin.same.2 k hk hq.1⟩
            exact (s''.same (k8.same fun x hx hq => by simp at hx; exact hq.2 hx)).weak fun _ _ _ => trivial
          have ow8 := owns_keep ow k8 (fun gg hgg hm => by simp at hm; have := owns_lt ow gg hgg; omega)
          have hx8 := (hx.same (k8.same fun x hx hq => by simp at hx; have := hq.1; omega)).weak (ok' := fun _ => True) fun _ _ _ => trivial
          have := hk x (pre ++ [hs']) w8 kall ⟨d1, d2, hs', rfl, .inl (dS s1), .inl (dS s2), own_hd ow8 hx8⟩ (fun y r' hy => by rw [hrec] at hy; cases hy; rfl) ⟨b1, b2, b3, b4⟩
          rw [hrec] at this
          show K (pack _) w8
          simpa [pack, SV.val] using this

end
end Go.Ar
