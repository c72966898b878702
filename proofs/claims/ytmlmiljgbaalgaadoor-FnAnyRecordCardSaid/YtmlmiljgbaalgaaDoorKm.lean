/- The plain side: octets of messages, read and written by a schema. Primitive kinds. -/

set_option linter.unusedSimpArgs false
set_option linter.unusedVariables false
namespace Go.Km

abbrev Bs := List UInt8

/-- A number in k octets, the highest one first. -/
def be : Nat → Nat → Bs
  | 0, _ => []
  | k + 1, n => UInt8.ofNat (n / 256 ^ k % 256) :: be k n

def ofBe : Bs → Nat
  | [] => 0
  | b :: r => b.toNat * 256 ^ r.length + ofBe r

theorem be_length : ∀ k n, (be k n).length = k := by
  intro k; induction k with
  | zero => intro n; rfl
  | succ k ih => intro n; simp [be, ih]

theorem ofBe_be : ∀ k n, ofBe (be k n) = n % 256 ^ k := by
  intro k
  induction k with
  | zero => intro n; simp [be, ofBe, Nat.mod_one]
  | succ k ih =>
    intro n
    simp only [be, ofBe, be_length, ih, UInt8.toNat_ofNat', Nat.reducePow]
    rw [Nat.mod_mod, Nat.pow_succ, Nat.mod_mul]
    rw [Nat.mul_comm, Nat.add_comm]

theorem ofBe_lt : ∀ bs : Bs, ofBe bs < 256 ^ bs.length := by
  intro bs
  induction bs with
  | nil => simp [ofBe]
  | cons b r ih =>
    simp only [ofBe, List.length_cons, Nat.pow_succ]
    have hb := b.toNat_lt
    have : b.toNat * 256 ^ r.length ≤ 255 * 256 ^ r.length := Nat.mul_le_mul_right _ (by omega)
    omega

/-- The number of so many bits, with a sign. -/
def sgn (bits : Nat) (n : Nat) : Int := if n < 2 ^ (bits - 1) then n else (n : Int) - 2 ^ bits

/-- Its octets' number. -/
def usn (bits : Nat) (i : Int) : Nat := (i % 2 ^ bits).toNat

theorem sgn_usn (k : Nat) (hk : 0 < k) (i : Int) (h1 : -(2 ^ (8 * k - 1) : Int) ≤ i) (h2 : i < 2 ^ (8 * k - 1)) : sgn (8 * k) (usn (8 * k) i % 256 ^ k) = i := by
  have hp : (256 : Nat) ^ k = 2 ^ (8 * k) := by rw [show (256 : Nat) = 2 ^ 8 from rfl, ← Nat.pow_mul]
  have hs : (2 : Nat) ^ (8 * k) = 2 * 2 ^ (8 * k - 1) := by
    rw [← Nat.pow_succ']; congr 1; omega
  have hpos : 0 < (2 : Nat) ^ (8 * k - 1) := Nat.pow_pos (by omega)
  have hsi : (2 : Int) ^ (8 * k) = 2 * 2 ^ (8 * k - 1) := by
    have := congrArg (Nat.cast : Nat → Int) hs
    simpa using this
  have hposi : (0 : Int) < 2 ^ (8 * k - 1) := by
    have := Int.ofNat_lt.2 hpos
    simpa using this
  have hm : usn (8 * k) i < 2 ^ (8 * k) := by
    unfold usn
    have h := Int.emod_lt_of_pos i (show (0 : Int) < 2 ^ (8 * k) by rw [hsi]; omega)
    have h0 := Int.emod_nonneg i (show (2 : Int) ^ (8 * k) ≠ 0 by rw [hsi]; omega)
    have : ((i % 2 ^ (8 * k)).toNat : Int) < ((2 ^ (8 * k) : Nat) : Int) := by
      rw [Int.toNat_of_nonneg h0]; simpa using h
    exact_mod_cast this
  rw [hp, Nat.mod_eq_of_lt hm]
  unfold sgn
  by_cases hi : 0 ≤ i
  · have e : i % 2 ^ (8 * k) = i := Int.emod_eq_of_lt hi (by rw [hsi]; omega)
    have : (usn (8 * k) i : Int) = i := by unfold usn; rw [e, Int.toNat_of_nonneg hi]
    rw [if_pos (by have : (usn (8 * k) i : Int) < ((2 ^ (8 * k - 1) : Nat) : Int) := by rw [this]; simpa using h2
                   exact_mod_cast this), this]
  · have e : i % 2 ^ (8 * k) = i + 2 ^ (8 * k) := by
      rw [← Int.add_emod_right, Int.emod_eq_of_lt (by rw [hsi]; omega) (by omega)]
    have : (usn (8 * k) i : Int) = i + 2 ^ (8 * k) := by unfold usn; rw [e, Int.toNat_of_nonneg (by rw [hsi]; omega)]
    rw [if_neg (by
      intro hlt
      have : (usn (8 * k) i : Int) < ((2 ^ (8 * k - 1) : Nat) : Int) := by exact_mod_cast hlt
      have h3 : (((2 ^ (8 * k - 1) : Nat) : Int)) = 2 ^ (8 * k - 1) := by simp
      omega), this]
    omega

theorem sgn_range (k : Nat) (hk : 0 < k) (n : Nat) (hn : n < 256 ^ k) : -(2 ^ (8 * k - 1) : Int) ≤ sgn (8 * k) n ∧ sgn (8 * k) n < 2 ^ (8 * k - 1) := by
  have hp : (256 : Nat) ^ k = 2 ^ (8 * k) := by rw [show (256 : Nat) = 2 ^ 8 from rfl, ← Nat.pow_mul]
  have hs : (2 : Nat) ^ (8 * k) = 2 * 2 ^ (8 * k - 1) := by
    rw [← Nat.pow_succ']; congr 1; omega
  have hsi : (2 : Int) ^ (8 * k) = 2 * 2 ^ (8 * k - 1) := by
    have := congrArg (Nat.cast : Nat → Int) hs
    simpa using this
  have hpos : 0 < (2 : Nat) ^ (8 * k - 1) := Nat.pow_pos (by omega)
  have h3 : (((2 ^ (8 * k - 1) : Nat) : Int)) = 2 ^ (8 * k - 1) := by simp
  rw [hp] at hn
  have hn' : (n : Int) < ((2 ^ (8 * k) : Nat) : Int) := by exact_mod_cast hn
  have h4 : (((2 ^ (8 * k) : Nat) : Int)) = 2 ^ (8 * k) := by simp
  unfold sgn
  split
  · rename_i h
    have : (n : Int) < ((2 ^ (8 * k - 1) : Nat) : Int) := by exact_mod_cast h
    omega
  · rename_i h
    have : ((2 ^ (8 * k - 1) : Nat) : Int) ≤ n := by exact_mod_cast Nat.le_of_not_lt h
    omega

/-- The first so many octets, and the rest. -/
def cut (k : Nat) (bs : Bs) : Option (Bs × Bs) := if k ≤ bs.length then some (bs.take k, bs.drop k) else none

theorem cut_append (l r : Bs) : cut l.length (l ++ r) = some (l, r) := by simp [cut]

theorem cut_some {k : Nat} {bs l r : Bs} (h : cut k bs = some (l, r)) : bs = l ++ r ∧ l.length = k := by
  unfold cut at h
  split at h
  · cases h; simp; omega
  · cases h

def rdU (k : Nat) (bs : Bs) : Option (Nat × Bs) := (cut k bs).map fun p => (ofBe p.1, p.2)
def rdI (k : Nat) (bs : Bs) : Option (Int × Bs) := (rdU k bs).map fun p => (sgn (8 * k) p.1, p.2)
def wrI (k : Nat) (i : Int) : Bs := be k (usn (8 * k) i)

theorem rdI_wrI (k : Nat) (hk : 0 < k) (i : Int) (h1 : -(2 ^ (8 * k - 1) : Int) ≤ i) (h2 : i < 2 ^ (8 * k - 1)) (r : Bs) : rdI k (wrI k i ++ r) = some (i, r) := by
  have hl : (wrI k i).length = k := be_length _ _
  have := cut_append (wrI k i) r
  rw [hl] at this
  simp only [rdI, rdU, this, Option.map_some]
  simp only [wrI, ofBe_be, sgn_usn k hk i h1 h2]

theorem rdU_be (k n : Nat) (hn : n < 256 ^ k) (r : Bs) : rdU k (be k n ++ r) = some (n, r) := by
  have := cut_append (be k n) r
  rw [be_length] at this
  simp only [rdU, this, Option.map_some, ofBe_be, Nat.mod_eq_of_lt hn]

theorem rdU_some {k n : Nat} {bs r : Bs} (h : rdU k bs = some (n, r)) : n < 256 ^ k ∧ r.length + k = bs.length := by
  simp only [rdU, Option.map_eq_some_iff] at h
  obtain ⟨⟨l, r'⟩, hc, e⟩ := h
  cases e
  obtain ⟨h1, h2⟩ := cut_some hc
  subst h1
  refine ⟨by have := ofBe_lt l; rw [h2] at this; exact this, by simp; omega⟩

theorem rdI_some {k : Nat} (hk : 0 < k) {i : Int} {bs r : Bs} (h : rdI k bs = some (i, r)) : (-(2 ^ (8 * k - 1) : Int) ≤ i ∧ i < 2 ^ (8 * k - 1)) ∧ r.length + k = bs.length := by
  simp only [rdI, Option.map_eq_some_iff] at h
  obtain ⟨⟨n, r'⟩, hc, e⟩ := h
  cases e
  obtain ⟨h1, h2⟩ := rdU_some hc
  exact ⟨sgn_range k hk n h1, h2⟩

/-! Groups of seven bits: at most five of them, 32 bits. -/
def wrV : Nat → Nat → Bs
  | 0, n => [UInt8.ofNat n]
  | f + 1, n => if n < 128 then [UInt8.ofNat n] else UInt8.ofNat (n % 128 + 128) :: wrV f (n / 128)

def wrUv (n : Nat) : Bs := wrV 4 n

/-- One group less is left each time; in the last one but the four low bits count. -/
def rdV : Nat → Bs → Option (Nat × Bs)
  | _, [] => none
  | 0, b :: r => if b.toNat ≤ 15 then some (b.toNat, r) else none
  | f + 1, b :: r => if b.toNat < 128 then some (b.toNat, r) else (rdV f r).map fun p => (b.toNat % 128 + 128 * p.1, p.2)

def rdUv (bs : Bs) : Option (Nat × Bs) := rdV 4 bs

theorem rdV_wrV : ∀ f n, n < 16 * 128 ^ f → ∀ r, rdV f (wrV f n ++ r) = some (n, r) := by
  intro f
  induction f with
  | zero =>
    intro n hn r
    simp only [Nat.pow_zero, Nat.mul_one] at hn
    have : n % 256 = n := Nat.mod_eq_of_lt (by omega)
    simp [wrV, rdV, this]
    omega
  | succ f ih =>
    intro n hn r
    by_cases h : n < 128
    · have : n % 256 = n := Nat.mod_eq_of_lt (by omega)
      simp [wrV, rdV, h, this]
    · have hm : (n % 128 + 128) % 256 = n % 128 + 128 := Nat.mod_eq_of_lt (by omega)
      have h2 : ¬ (n % 128 + 128 < 128) := by omega
      have h3 : (n % 128 + 128) % 128 = n % 128 := by omega
      have hd : n / 128 < 16 * 128 ^ f := by
        rw [Nat.pow_succ] at hn
        exact Nat.div_lt_of_lt_mul (by rw [Nat.mul_comm]; rw [← Nat.mul_assoc] at hn; exact hn)
      have := ih (n / 128) hd r
      simp only [wrV, h, if_false, List.cons_append, rdV, UInt8.toNat_ofNat', Nat.reducePow, hm, h2, this, Option.map_some, h3]
      congr 2
      omega

theorem rdUv_wrUv (n : Nat) (hn : n < 2 ^ 32) (r : Bs) : rdUv (wrUv n ++ r) = some (n, r) := rdV_wrV 4 n (by simpa using hn) r

theorem rdV_some : ∀ f bs n r, rdV f bs = some (n, r) → n < 16 * 128 ^ f ∧ r.length < bs.length := by
  intro f
  induction f with
  | zero =>
    intro bs n r h
    cases bs with
    | nil => simp [rdV] at h
    | cons b t =>
      simp only [rdV] at h
      split at h
      · cases h; simp; omega
      · cases h
  | succ f ih =>
    intro bs n r h
    cases bs with
    | nil => simp [rdV] at h
    | cons b t =>
      simp only [rdV] at h
      split at h
      · rename_i hb
        cases h
        refine ⟨?_, by simp⟩
        have : 128 ≤ 16 * 128 ^ (f + 1) := by
          have : 1 ≤ 128 ^ f := Nat.pow_pos (by omega)
          rw [Nat.pow_succ]; omega
        omega
      · simp only [Option.map_eq_some_iff] at h
        obtain ⟨⟨m, r'⟩, hm, e⟩ := h
        cases e
        obtain ⟨h1, h2⟩ := ih t m r' hm
        refine ⟨?_, by simp; omega⟩
        have hlt : b.toNat % 128 < 128 := Nat.mod_lt _ (by omega)
        have : 16 * 128 ^ (f + 1) = 128 * (16 * 128 ^ f) := by rw [Nat.pow_succ]; omega
        omega

theorem rdUv_some {bs : Bs} {n : Nat} {r : Bs} (h : rdUv bs = some (n, r)) : n < 2 ^ 32 ∧ r.length < bs.length := by
  obtain ⟨h1, h2⟩ := rdV_some 4 bs n r h
  exact ⟨by simpa using h1, h2⟩

theorem wrV_pos : ∀ f n, 0 < (wrV f n).length := by
  intro f; cases f with
  | zero => intro n; simp [wrV]
  | succ f => intro n; simp only [wrV]; split <;> simp

theorem wrV_le : ∀ f n, (wrV f n).length ≤ f + 1 := by
  intro f; induction f with
  | zero => intro n; simp [wrV]
  | succ f ih => intro n; simp only [wrV]; split; simp; simp; exact ih _

/-! Primitive kinds; 'c': of a flexible message. -/
inductive Prim where
  | bool | i8 | i16 | u16 | i32 | i64 | uuid
  | str (c : Bool) | nstr (c : Bool) | byt (c : Bool) | nbyt (c : Bool)
  deriving DecidableEq

/-- What is read: a truth, a number, octets, octets or nothing. -/
inductive PV where
  | b (x : Bool)
  | i (n : Int)
  | by (l : Bs)
  | o (x : Option Bs)

/-- A length ahead of octets: in groups, one more than it is, or in k octets. -/
def rdLen (c : Bool) (k : Nat) (bs : Bs) : Option (Int × Bs) :=
  if c then (rdUv bs).map fun p => ((p.1 : Int) - 1, p.2) else rdI k bs

def wrLen (c : Bool) (k : Nat) (n : Nat) : Bs := if c then wrUv (n + 1) else wrI k n
def wrNull (c : Bool) (k : Nat) : Bs := if c then wrUv 0 else wrI k (-1)

def rdSpan (l : Int) (bs : Bs) : Option (Bs × Bs) := if 0 ≤ l then cut l.toNat bs else none

def rdP : Prim → Bs → Option (PV × Bs)
  | .bool, bs => (cut 1 bs).map fun p => (.b (ofBe p.1 != 0), p.2)
  | .i8, bs => (rdI 1 bs).map fun p => (.i p.1, p.2)
  | .i16, bs => (rdI 2 bs).map fun p => (.i p.1, p.2)
  | .u16, bs => (rdU 2 bs).map fun p => (.i p.1, p.2)
  | .i32, bs => (rdI 4 bs).map fun p => (.i p.1, p.2)
  | .i64, bs => (rdI 8 bs).map fun p => (.i p.1, p.2)
  | .uuid, bs => (cut 16 bs).map fun p => (.by p.1, p.2)
  | .str c, bs => (rdLen c 2 bs).bind fun p => (rdSpan p.1 p.2).map fun q => (.by q.1, q.2)
  | .nstr c, bs => (rdLen c 2 bs).bind fun p => if p.1 < 0 then some (.o none, p.2) else (rdSpan p.1 p.2).map fun q => (.o (some q.1), q.2)
  | .byt c, bs => (rdLen c 4 bs).bind fun p => if p.1 = -1 then some (.by [], p.2) else (rdSpan p.1 p.2).map fun q => (.by q.1, q.2)
  | .nbyt c, bs => (rdLen c 4 bs).bind fun p => if p.1 < 0 then some (.o none, p.2) else (rdSpan p.1 p.2).map fun q => (.o (some q.1), q.2)

def wrP : Prim → PV → Bs
  | .bool, .b x => [if x then 1 else 0]
  | .i8, .i n => wrI 1 n
  | .i16, .i n => wrI 2 n
  | .u16, .i n => be 2 n.toNat
  | .i32, .i n => wrI 4 n
  | .i64, .i n => wrI 8 n
  | .uuid, .by l => l
  | .str c, .by l => wrLen c 2 l.length ++ l
  | .nstr c, .o none => wrNull c 2
  | .nstr c, .o (some l) => wrLen c 2 l.length ++ l
  | .byt c, .by l => wrLen c 4 l.length ++ l
  | .nbyt c, .o none => wrNull c 4
  | .nbyt c, .o (some l) => wrLen c 4 l.length ++ l
  | _, _ => []

/-- What may be written, so that it is read again. -/
def okP : Prim → PV → Prop
  | .bool, .b _ => True
  | .i8, .i n => -128 ≤ n ∧ n < 128
  | .i16, .i n => -32768 ≤ n ∧ n < 32768
  | .u16, .i n => 0 ≤ n ∧ n < 65536
  | .i32, .i n => -2147483648 ≤ n ∧ n < 2147483648
  | .i64, .i n => -9223372036854775808 ≤ n ∧ n < 9223372036854775808
  | .uuid, .by l => l.length = 16
  | .str _, .by l | .byt _, .by l => l.length ≤ 32767
  | .nstr _, .o x | .nbyt _, .o x => ∀ l, x = some l → l.length ≤ 32767
  | _, _ => False

theorem rdLen_wrLen (c : Bool) (k : Nat) (hk : 2 ≤ k) (n : Nat) (hn : n ≤ 32767) (r : Bs) : rdLen c k (wrLen c k n ++ r) = some ((n : Int), r) := by
  cases c with
  | true =>
    simp only [rdLen, wrLen, if_true]
    rw [rdUv_wrUv (n + 1) (by omega)]
    simp
  | false =>
    simp only [rdLen, wrLen, Bool.false_eq_true, if_false]
    have h : (32768 : Int) ≤ 2 ^ (8 * k - 1) := by
      have : (2 : Nat) ^ 15 ≤ 2 ^ (8 * k - 1) := Nat.pow_le_pow_right (by omega) (by omega)
      have := Int.ofNat_le.2 this
      simpa using this
    exact rdI_wrI k (by omega) n (by omega) (by omega) r

theorem rdLen_wrNull (c : Bool) (k : Nat) (hk : 2 ≤ k) (r : Bs) : rdLen c k (wrNull c k ++ r) = some (-1, r) := by
  cases c with
  | true =>
    simp only [rdLen, wrNull, if_true]
    rw [rdUv_wrUv 0 (by omega)]
    rfl
  | false =>
    simp only [rdLen, wrNull, Bool.false_eq_true, if_false]
    have h : (32768 : Int) ≤ 2 ^ (8 * k - 1) := by
      have : (2 : Nat) ^ 15 ≤ 2 ^ (8 * k - 1) := Nat.pow_le_pow_right (by omega) (by omega)
      have := Int.ofNat_le.2 this
      simpa using this
    exact rdI_wrI k (by omega) (-1) (by omega) (by omega) r

theorem rdSpan_append (l r : Bs) : rdSpan (l.length : Int) (l ++ r) = some (l, r) := by
  unfold rdSpan
  rw [if_pos (by omega), Int.toNat_natCast]
  exact cut_append l r

theorem rdP_wrP (p : Prim) (v : PV) (h : okP p v) (r : Bs) : rdP p (wrP p v ++ r) = some (v, r) := by
  cases p <;> cases v <;> try (exact h.elim)
  · rename_i x
    have := cut_append [if x then 1 else 0] r
    simp only [List.length_singleton] at this
    simp only [rdP, wrP, this, Option.map_some]
    cases x <;> rfl
  · simp only [rdP, wrP]; rw [rdI_wrI 1 (by omega) _ (by simpa [okP] using h.1) (by simpa [okP] using h.2)]; rfl
  · simp only [rdP, wrP]; rw [rdI_wrI 2 (by omega) _ (by simpa [okP] using h.1) (by simpa [okP] using h.2)]; rfl
  · rename_i n
    obtain ⟨h1, h2⟩ := h
    simp only [rdP, wrP]
    rw [rdU_be 2 n.toNat (by omega)]
    simp only [Option.map_some, Int.toNat_of_nonneg h1]
  · simp only [rdP, wrP]; rw [rdI_wrI 4 (by omega) _ (by simpa [okP] using h.1) (by simpa [okP] using h.2)]; rfl
  · simp only [rdP, wrP]; rw [rdI_wrI 8 (by omega) _ (by simpa [okP] using h.1) (by simpa [okP] using h.2)]; rfl
  · rename_i l
    have h : l.length = 16 := h
    have := cut_append l r
    rw [h] at this
    simp only [rdP, wrP, this, Option.map_some]
  · rename_i c l
    simp only [rdP, wrP, List.append_assoc]
    rw [rdLen_wrLen c 2 (by omega) _ h]
    simp only [Option.bind_some, rdSpan_append, Option.map_some]
  · rename_i c x
    cases x with
    | none => simp only [rdP, wrP]; rw [rdLen_wrNull c 2 (by omega)]; rfl
    | some l =>
      simp only [rdP, wrP, List.append_assoc]
      rw [rdLen_wrLen c 2 (by omega) _ (h l rfl)]
      simp only [Option.bind_some]
      rw [if_neg (by omega), rdSpan_append]; rfl
  · rename_i c l
    simp only [rdP, wrP, List.append_assoc]
    rw [rdLen_wrLen c 4 (by omega) _ h]
    simp only [Option.bind_some]
    rw [if_neg (by omega), rdSpan_append]; rfl
  · rename_i c x
    cases x with
    | none => simp only [rdP, wrP]; rw [rdLen_wrNull c 4 (by omega)]; rfl
    | some l =>
      simp only [rdP, wrP, List.append_assoc]
      rw [rdLen_wrLen c 4 (by omega) _ (h l rfl)]
      simp only [Option.bind_some]
      rw [if_neg (by omega), rdSpan_append]; rfl

theorem rdLen_some {c : Bool} {k : Nat} (hk : 0 < k) {bs : Bs} {l : Int} {r : Bs} (h : rdLen c k bs = some (l, r)) : r.length < bs.length := by
  unfold rdLen at h
  split at h
  · simp only [Option.map_eq_some_iff] at h
    obtain ⟨⟨n, r'⟩, hn, e⟩ := h
    cases e
    exact (rdUv_some hn).2
  · have := (rdI_some hk h).2; omega

theorem rdSpan_some {l : Int} {bs q r : Bs} (h : rdSpan l bs = some (q, r)) : q.length ≤ bs.length ∧ r.length ≤ bs.length := by
  unfold rdSpan at h
  split at h
  · obtain ⟨h1, h2⟩ := cut_some h
    subst h1; simp
  · cases h

/-- What has been read may be written; something was read. -/
theorem rdP_some (p : Prim) {bs : Bs} {v : PV} {r : Bs} (h : rdP p bs = some (v, r)) (hb : bs.length ≤ 32767) : okP p v ∧ r.length < bs.length := by
  cases p
  · simp only [rdP, Option.map_eq_some_iff] at h
    obtain ⟨⟨l, r'⟩, hc, e⟩ := h; cases e
    obtain ⟨h1, h2⟩ := cut_some hc
    exact ⟨trivial, by subst h1; simp; omega⟩
  · simp only [rdP, Option.map_eq_some_iff] at h
    obtain ⟨⟨l, r'⟩, hc, e⟩ := h; cases e
    obtain ⟨⟨h1, h2⟩, h3⟩ := rdI_some (by omega) hc
    exact ⟨⟨by simpa using h1, by simpa using h2⟩, by simp only at h3 ⊢; omega⟩
  · simp only [rdP, Option.map_eq_some_iff] at h
    obtain ⟨⟨l, r'⟩, hc, e⟩ := h; cases e
    obtain ⟨⟨h1, h2⟩, h3⟩ := rdI_some (by omega) hc
    exact ⟨⟨by simpa using h1, by simpa using h2⟩, by simp only at h3 ⊢; omega⟩
  · simp only [rdP, Option.map_eq_some_iff] at h
    obtain ⟨⟨l, r'⟩, hc, e⟩ := h; cases e
    obtain ⟨h1, h3⟩ := rdU_some hc
    exact ⟨⟨by omega, by have h1 : l < 256 ^ 2 := h1; omega⟩, by have h3 : r'.length + 2 = bs.length := h3; show r'.length < bs.length; omega⟩
  · simp only [rdP, Option.map_eq_some_iff] at h
    obtain ⟨⟨l, r'⟩, hc, e⟩ := h; cases e
    obtain ⟨⟨h1, h2⟩, h3⟩ := rdI_some (by omega) hc
    exact ⟨⟨by simpa using h1, by simpa using h2⟩, by simp only at h3 ⊢; omega⟩
  · simp only [rdP, Option.map_eq_some_iff] at h
    obtain ⟨⟨l, r'⟩, hc, e⟩ := h; cases e
    obtain ⟨⟨h1, h2⟩, h3⟩ := rdI_some (by omega) hc
    exact ⟨⟨by simpa using h1, by simpa using h2⟩, by simp only at h3 ⊢; omega⟩
  · simp only [rdP, Option.map_eq_some_iff] at h
    obtain ⟨⟨l, r'⟩, hc, e⟩ := h; cases e
    obtain ⟨h1, h2⟩ := cut_some hc
    exact ⟨h2, by subst h1; simp; omega⟩
  · simp only [rdP, Option.bind_eq_some_iff, Option.map_eq_some_iff] at h
    obtain ⟨⟨l, r'⟩, hc, ⟨q, r''⟩, hs, e⟩ := h; cases e
    have h1 := rdLen_some (by omega) hc
    have h2 := rdSpan_some hs
    simp only at h1 h2 ⊢; exact ⟨show q.length ≤ 32767 by omega, by omega⟩
  · simp only [rdP, Option.bind_eq_some_iff] at h
    obtain ⟨⟨l, r'⟩, hc, h⟩ := h
    have h1 := rdLen_some (by omega) hc
    split at h
    · cases h; exact ⟨(fun l h => by cases h), h1⟩
    · simp only [Option.map_eq_some_iff] at h
      obtain ⟨⟨q, r''⟩, hs, e⟩ := h; cases e
      have h2 := rdSpan_some hs
      simp only at h1 h2 ⊢; exact ⟨(fun l h => by cases h; omega), by omega⟩
  · simp only [rdP, Option.bind_eq_some_iff] at h
    obtain ⟨⟨l, r'⟩, hc, h⟩ := h
    have h1 := rdLen_some (by omega) hc
    split at h
    · cases h; exact ⟨show (0 : Nat) ≤ 32767 by omega, h1⟩
    · simp only [Option.map_eq_some_iff] at h
      obtain ⟨⟨q, r''⟩, hs, e⟩ := h; cases e
      have h2 := rdSpan_some hs
      simp only at h1 h2 ⊢; exact ⟨show q.length ≤ 32767 by omega, by omega⟩
  · simp only [rdP, Option.bind_eq_some_iff] at h
    obtain ⟨⟨l, r'⟩, hc, h⟩ := h
    have h1 := rdLen_some (by omega) hc
    split at h
    · cases h; exact ⟨(fun l h => by cases h), h1⟩
    · simp only [Option.map_eq_some_iff] at h
      obtain ⟨⟨q, r''⟩, hs, e⟩ := h; cases e
      have h2 := rdSpan_some hs
      simp only at h1 h2 ⊢; exact ⟨(fun l h => by cases h; omega), by omega⟩

theorem wrP_pos (p : Prim) (v : PV) (h : okP p v) : 0 < (wrP p v).length := by
  have hl : ∀ c k n, 0 < k → 0 < (wrLen c k n).length := by
    intro c k n hk
    unfold wrLen; split
    · exact wrV_pos _ _
    · rw [wrI, be_length]; exact hk
  have hn : ∀ c k, 0 < k → 0 < (wrNull c k).length := by
    intro c k hk
    unfold wrNull; split
    · exact wrV_pos _ _
    · rw [wrI, be_length]; exact hk
  cases p <;> cases v <;> try (exact h.elim)
  · simp [wrP]
  · simp [wrP, wrI, be_length]
  · simp [wrP, wrI, be_length]
  · simp [wrP, be_length]
  · simp [wrP, wrI, be_length]
  · simp [wrP, wrI, be_length]
  · have h : _ = 16 := h
    simp only [wrP, h]; omega
  · simp only [wrP, List.length_append]; have := hl ‹Bool› 2 ‹Bs›.length (by omega); omega
  · rename_i c x
    cases x with
    | none => exact hn c 2 (by omega)
    | some l => simp only [wrP, List.length_append]; have := hl c 2 l.length (by omega); omega
  · simp only [wrP, List.length_append]; have := hl ‹Bool› 4 ‹Bs›.length (by omega); omega
  · rename_i c x
    cases x with
    | none => exact hn c 4 (by omega)
    | some l => simp only [wrP, List.length_append]; have := hl c 4 l.length (by omega); omega

end Go.Km

/- The plain side: schemas, what is read and written by them, and that what was written is read again. -/
namespace Go.Km

/-! Tags, by rising numbers. -/
abbrev Tg := List (Nat × Bs)

def tagSet (k : Nat) (v : Bs) : Tg → Tg
  | [] => [(k, v)]
  | (j, u) :: r => if k < j then (k, v) :: (j, u) :: r else if k = j then (k, v) :: r else (j, u) :: tagSet k v r

def rdTagN : Nat → Tg → Bs → Option (Tg × Bs)
  | 0, acc, bs => some (acc, bs)
  | n + 1, acc, bs => (rdUv bs).bind fun k => (rdUv k.2).bind fun s => (cut s.1 s.2).bind fun v => rdTagN n (tagSet k.1 v.1 acc) v.2

def rdTags (bs : Bs) : Option (Tg × Bs) := (rdUv bs).bind fun p => rdTagN p.1 [] p.2

def wrTag (p : Nat × Bs) : Bs := wrUv p.1 ++ (wrUv p.2.length ++ p.2)
def wrTagL (l : Tg) : Bs := (l.map wrTag).flatten
def wrTags (l : Tg) : Bs := wrUv l.length ++ wrTagL l

structure okTags (l : Tg) : Prop where
  sorted : l.Pairwise (·.1 < ·.1)
  keys : ∀ p ∈ l, p.1 < 2 ^ 32 ∧ p.2.length ≤ 32767
  many : l.length ≤ 65536

theorem tagSet_last (k : Nat) (v : Bs) : ∀ l : Tg, (∀ p ∈ l, p.1 < k) → tagSet k v l = l ++ [(k, v)] := by
  intro l
  induction l with
  | nil => intro _; rfl
  | cons x r ih =>
    intro h
    obtain ⟨j, u⟩ := x
    have hj : j < k := h (j, u) (by simp)
    simp only [tagSet]
    rw [if_neg (by omega), if_neg (by omega), ih (fun p hp => h p (by simp [hp]))]
    rfl

theorem rdTagN_wr : ∀ (l acc : Tg) (r : Bs), (acc ++ l).Pairwise (·.1 < ·.1) → (∀ p ∈ l, p.1 < 2 ^ 32 ∧ p.2.length ≤ 32767) → rdTagN l.length acc (wrTagL l ++ r) = some (acc ++ l, r) := by
  intro l
  induction l with
  | nil => intro acc r _ _; simp [rdTagN, wrTagL]
  | cons x t ih =>
    intro acc r hs hk
    obtain ⟨k, v⟩ := x
    have h1 := hk (k, v) (by simp)
    have hw : wrTagL ((k, v) :: t) ++ r = wrUv k ++ (wrUv v.length ++ (v ++ (wrTagL t ++ r))) := by simp [wrTagL, wrTag]
    rw [hw, List.length_cons]
    simp only [rdTagN]
    rw [rdUv_wrUv k h1.1]
    simp only [Option.bind_some]
    rw [rdUv_wrUv v.length (by have := h1.2; (try dsimp only at *); omega)]
    simp only [Option.bind_some, cut_append]
    have hlt : ∀ p ∈ acc, p.1 < k := by
      intro p hp
      rw [List.pairwise_append] at hs
      exact hs.2.2 p hp (k, v) (by simp)
    rw [tagSet_last k v acc hlt]
    have := ih (acc ++ [(k, v)]) r (by simpa using hs) (fun p hp => hk p (by simp [hp]))
    simpa using this

theorem rdTags_wrTags (l : Tg) (h : okTags l) (r : Bs) : rdTags (wrTags l ++ r) = some (l, r) := by
  unfold rdTags wrTags
  rw [List.append_assoc, rdUv_wrUv _ (by have := h.many; omega)]
  simp only [Option.bind_some]
  have := rdTagN_wr l [] r (by simpa using h.sorted) h.keys
  simpa using this

theorem tagSet_mem {k : Nat} {v : Bs} : ∀ {l : Tg} {p : Nat × Bs}, p ∈ tagSet k v l → p = (k, v) ∨ p ∈ l := by
  intro l
  induction l with
  | nil => intro p h; simp [tagSet] at h; exact .inl h
  | cons x r ih =>
    intro p h
    obtain ⟨j, u⟩ := x
    simp only [tagSet] at h
    split at h
    · rcases List.mem_cons.1 h with h | h
      · exact .inl h
      · exact .inr h
    · split at h
      · rcases List.mem_cons.1 h with h | h
        · exact .inl h
        · exact .inr (by simp [h])
      · rcases List.mem_cons.1 h with h | h
        · exact .inr (by simp [h])
        · rcases ih h with h | h
          · exact .inl h
          · exact .inr (by simp [h])

theorem tagSet_sorted {k : Nat} {v : Bs} : ∀ {l : Tg}, l.Pairwise (·.1 < ·.1) → (tagSet k v l).Pairwise (·.1 < ·.1) := by
  intro l
  induction l with
  | nil => intro _; simp [tagSet]
  | cons x r ih =>
    intro h
    obtain ⟨j, u⟩ := x
    rw [List.pairwise_cons] at h
    simp only [tagSet]
    split
    · rename_i hk
      rw [List.pairwise_cons, List.pairwise_cons]
      refine ⟨fun p hp => ?_, h.1, h.2⟩
      rcases List.mem_cons.1 hp with rfl | hp
      · exact hk
      · have := h.1 p hp; (try dsimp only at *); omega
    · split
      · rename_i hk
        subst hk
        rw [List.pairwise_cons]
        exact ⟨h.1, h.2⟩
      · rw [List.pairwise_cons]
        refine ⟨fun p hp => ?_, ih h.2⟩
        rcases tagSet_mem hp with rfl | hp
        · simp only; omega
        · exact h.1 p hp

theorem tagSet_length {k : Nat} {v : Bs} : ∀ {l : Tg}, (tagSet k v l).length ≤ l.length + 1 := by
  intro l
  induction l with
  | nil => simp [tagSet]
  | cons x r ih =>
    obtain ⟨j, u⟩ := x
    simp only [tagSet]
    split
    · simp
    · split
      · simp
      · simp; exact ih

theorem rdTagN_some : ∀ (n : Nat) (acc : Tg) (bs : Bs) (l : Tg) (r : Bs), rdTagN n acc bs = some (l, r) → acc.Pairwise (·.1 < ·.1) → (∀ p ∈ acc, p.1 < 2 ^ 32 ∧ p.2.length ≤ 32767) → bs.length ≤ 32767 → acc.length + bs.length ≤ 65536 →
    l.Pairwise (·.1 < ·.1) ∧ (∀ p ∈ l, p.1 < 2 ^ 32 ∧ p.2.length ≤ 32767) ∧ l.length ≤ 65536 ∧ r.length ≤ bs.length := by
  intro n
  induction n with
  | zero => intro acc bs l r h hs hk hb hl; cases h; exact ⟨hs, hk, by omega, Nat.le_refl _⟩
  | succ n ih =>
    intro acc bs l r h hs hk hb hl
    simp only [rdTagN, Option.bind_eq_some_iff] at h
    obtain ⟨⟨k, b1⟩, h1, ⟨s, b2⟩, h2, ⟨v, b3⟩, h3, h4⟩ := h
    have g1 := rdUv_some h1
    have g2 := rdUv_some h2
    obtain ⟨g3, g4⟩ := cut_some h3
    have g5 : b2.length = v.length + b3.length := by simp only at g3; rw [g3]; simp
    simp only at g1 g2
    have := ih (tagSet k v acc) b3 l r h4 (tagSet_sorted hs) (fun p hp => by
      rcases tagSet_mem hp with rfl | hp
      · exact ⟨g1.1, by simp only; omega⟩
      · exact hk p hp) (by omega) (by have := tagSet_length (k := k) (v := v) (l := acc); omega)
    exact ⟨this.1, this.2.1, this.2.2.1, by omega⟩

theorem rdTags_some {bs : Bs} {l : Tg} {r : Bs} (h : rdTags bs = some (l, r)) (hb : bs.length ≤ 32767) : okTags l ∧ r.length < bs.length := by
  simp only [rdTags, Option.bind_eq_some_iff] at h
  obtain ⟨⟨n, b1⟩, h1, h2⟩ := h
  have g1 := rdUv_some h1
  have := rdTagN_some n [] b1 l r h2 (by simp) (by simp) (by (try dsimp only at *); omega) (by simp; omega)
  exact ⟨⟨this.1, this.2.1, this.2.2.1⟩, by (try dsimp only at *); omega⟩

/-! Schemas: a field's place in its struct goes with it. -/
mutual
inductive Sh where
  | prim (p : Prim)
  | arr (c : Bool) (sz : Nat) (e : Sh)
  | narr (c z : Bool) (sz : Nat) (e : Sh)
  | str (fs : Fs)
  | opt (fs : Fs)
inductive Fs where
  | nil
  | tags (o : Nat)
  | cons (o : Nat) (s : Sh) (r : Fs)
end

/-- What is read: of a kind, a list (of things, of fields), one that may be null, tags. -/
inductive Val where
  | p (v : PV)
  | l (vs : List Val)
  | n (x : Option (List Val))
  | t (ts : Tg)

/-- How many things a list has: no more than there are octets left. -/
def rdCount (c : Bool) (bs : Bs) : Option (Int × Bs) :=
  (if c then (rdUv bs).map fun p => (if p.1 = 2147483648 then (2147483647 : Int) else sgn 32 p.1 - 1, p.2) else rdI 4 bs).bind fun p => if (p.2.length : Int) < p.1 then none else some p

def wrCount (c : Bool) (n : Nat) : Bs := wrLen c 4 n

def rdN {α : Type} (f : Bs → Option (α × Bs)) : Nat → Bs → Option (List α × Bs)
  | 0, bs => some ([], bs)
  | n + 1, bs => (f bs).bind fun x => (rdN f n x.2).map fun y => (x.1 :: y.1, y.2)

mutual
def rd : Sh → Bs → Option (Val × Bs)
  | .prim p, bs => (rdP p bs).map fun x => (.p x.1, x.2)
  | .arr c _ e, bs => (rdCount c bs).bind fun x => (rdN (rd e) x.1.toNat x.2).map fun y => (.l y.1, y.2)
  | .narr c z _ e, bs => (rdCount c bs).bind fun x => if x.1 < 0 ∧ z = false then some (.n none, x.2) else (rdN (rd e) x.1.toNat x.2).map fun y => (.n (some y.1), y.2)
  | .str fs, bs => (rdF fs bs).map fun x => (.l x.1, x.2)
  | .opt fs, bs => (rdI 1 bs).bind fun x => if x.1 = -1 then some (.n none, x.2) else (rdF fs x.2).map fun y => (.n (some y.1), y.2)
def rdF : Fs → Bs → Option (List Val × Bs)
  | .nil, bs => some ([], bs)
  | .tags _, bs => (rdTags bs).map fun x => ([.t x.1], x.2)
  | .cons _ s r, bs => (rd s bs).bind fun x => (rdF r x.2).map fun y => (x.1 :: y.1, y.2)
end

mutual
def wr : Sh → Val → Bs
  | .prim p, .p v => wrP p v
  | .arr c _ e, .l vs => wrCount c vs.length ++ (vs.map (wr e)).flatten
  | .narr c _ _ _, .n none => wrNull c 4
  | .narr c _ _ e, .n (some vs) => wrCount c vs.length ++ (vs.map (wr e)).flatten
  | .str fs, .l vs => wrF fs vs
  | .opt _, .n none => [255]
  | .opt fs, .n (some vs) => 1 :: wrF fs vs
  | _, _ => []
def wrF : Fs → List Val → Bs
  | .tags _, [.t l] => wrTags l
  | .cons _ s r, v :: vs => wr s v ++ wrF r vs
  | _, _ => []
end

mutual
def ok : Sh → Val → Prop
  | .prim p, .p v => okP p v
  | .arr _ _ e, .l vs => vs.length ≤ 32767 ∧ ∀ v ∈ vs, ok e v
  | .narr _ z _ _, .n none => z = false
  | .narr _ _ _ e, .n (some vs) => vs.length ≤ 32767 ∧ ∀ v ∈ vs, ok e v
  | .str fs, .l vs => okF fs vs
  | .opt _, .n none => True
  | .opt fs, .n (some vs) => okF fs vs
  | _, _ => False
def okF : Fs → List Val → Prop
  | .nil, [] => True
  | .tags _, [.t l] => okTags l
  | .cons _ s r, v :: vs => ok s v ∧ okF r vs
  | _, _ => False
end

mutual
/-- Is at least one octet written? -/
def pos : Sh → Bool
  | .str fs => posF fs
  | _ => true
def posF : Fs → Bool
  | .nil => false
  | .tags _ => true
  | .cons _ s r => pos s || posF r
end

mutual
def wf : Sh → Bool
  | .prim _ => true
  | .arr _ _ e => pos e && wf e
  | .narr _ _ _ e => pos e && wf e
  | .str fs => wfF fs
  | .opt fs => wfF fs
def wfF : Fs → Bool
  | .nil => true
  | .tags _ => true
  | .cons _ s r => wf s && wfF r
end

theorem wrTags_pos (l : Tg) : 0 < (wrTags l).length := by
  simp only [wrTags, List.length_append]
  have := wrV_pos 4 l.length
  unfold wrUv; omega

theorem wrCount_pos (c : Bool) (n : Nat) : 0 < (wrCount c n).length := by
  unfold wrCount wrLen
  split
  · exact wrV_pos 4 _
  · simp [wrI, be_length]

theorem wrNull_pos (c : Bool) : 0 < (wrNull c 4).length := by
  unfold wrNull
  split
  · exact wrV_pos 4 _
  · simp [wrI, be_length]

mutual
theorem wr_pos : ∀ (s : Sh) (v : Val), ok s v → pos s = true → 0 < (wr s v).length
  | .prim p, .p v, h, _ => wrP_pos p v h
  | .arr c _ e, .l vs, _, _ => by simp only [wr, List.length_append]; have := wrCount_pos c vs.length; omega
  | .narr c _ _ _, .n none, _, _ => wrNull_pos c
  | .narr c _ _ e, .n (some vs), _, _ => by simp only [wr, List.length_append]; have := wrCount_pos c vs.length; omega
  | .str fs, .l vs, h, hp => wrF_pos fs vs h hp
  | .opt _, .n none, _, _ => by simp [wr]
  | .opt fs, .n (some vs), _, _ => by simp [wr]
theorem wrF_pos : ∀ (fs : Fs) (vs : List Val), okF fs vs → posF fs = true → 0 < (wrF fs vs).length
  | .tags _, [.t l], _, _ => wrTags_pos l
  | .cons _ s r, v :: vs, h, hp => by
    simp only [wrF, List.length_append]
    simp only [posF, Bool.or_eq_true] at hp
    rcases hp with hp | hp
    · have := wr_pos s v h.1 hp; omega
    · have := wrF_pos r vs h.2 hp; omega
end

theorem flatten_ge {α : Type} (f : α → Bs) : ∀ l : List α, (∀ x ∈ l, 0 < (f x).length) → l.length ≤ ((l.map f).flatten).length := by
  intro l
  induction l with
  | nil => intro _; simp
  | cons x r ih =>
    intro h
    simp only [List.map_cons, List.flatten_cons, List.length_append, List.length_cons]
    have := h x (by simp)
    have := ih (fun y hy => h y (by simp [hy]))
    omega

theorem rdCount_wrCount (c : Bool) (n : Nat) (hn : n ≤ 32767) (r : Bs) (hr : n ≤ r.length) : rdCount c (wrCount c n ++ r) = some ((n : Int), r) := by
  unfold rdCount wrCount
  cases c with
  | true =>
    simp only [wrLen, if_true]
    rw [rdUv_wrUv (n + 1) (by omega)]
    simp only [Option.map_some, Option.bind_some]
    rw [if_neg (show ¬ (n + 1 = 2147483648) by omega)]
    have : sgn 32 (n + 1) = ((n + 1 : Nat) : Int) := by unfold sgn; rw [if_pos (by simp; omega)]
    rw [this, if_neg (by omega)]
    congr 2; omega
  | false =>
    have := rdLen_wrLen false 4 (by omega) n hn r
    simp only [rdLen, wrLen, Bool.false_eq_true, if_false] at this ⊢
    rw [this]
    simp only [Option.bind_some]
    rw [if_neg (by omega)]

theorem rdCount_wrNull (c : Bool) (r : Bs) : rdCount c (wrNull c 4 ++ r) = some (-1, r) := by
  unfold rdCount
  have := rdLen_wrNull c 4 (by omega) r
  cases c with
  | true =>
    simp only [wrNull, if_true]
    rw [rdUv_wrUv 0 (by omega)]
    simp only [Option.map_some, Option.bind_some]
    rw [if_neg (show ¬ (0 = 2147483648) by omega)]
    have : sgn 32 0 = 0 := rfl
    rw [this, if_neg (by omega)]; rfl
  | false =>
    simp only [rdLen, Bool.false_eq_true, if_false] at this ⊢
    rw [this]
    simp only [Option.bind_some]
    rw [if_neg (by omega)]

theorem rdN_wr {α : Type} {f : Bs → Option (α × Bs)} {g : α → Bs} : ∀ (l : List α) (r : Bs), (∀ x ∈ l, ∀ r, f (g x ++ r) = some (x, r)) → rdN f l.length ((l.map g).flatten ++ r) = some (l, r) := by
  intro l
  induction l with
  | nil => intro r _; rfl
  | cons x t ih =>
    intro r h
    simp only [List.map_cons, List.flatten_cons, List.append_assoc, List.length_cons, rdN, h x (by simp), Option.bind_some, ih r (fun y hy => h y (by simp [hy])), Option.map_some]

mutual
theorem rd_wr : ∀ (s : Sh) (v : Val) (r : Bs), wf s = true → ok s v → rd s (wr s v ++ r) = some (v, r)
  | .prim p, .p v, r, _, h => by simp only [rd, wr, rdP_wrP p v h, Option.map_some]
  | .arr c _ e, .l vs, r, hw, h => by
    simp only [wf, Bool.and_eq_true] at hw
    simp only [rd, wr, List.append_assoc]
    have hge := flatten_ge (wr e) vs (fun v hv => wr_pos e v (h.2 v hv) hw.1)
    rw [rdCount_wrCount c vs.length h.1 _ (by simp only [List.length_append]; omega)]
    simp only [Option.bind_some, Int.toNat_natCast]
    rw [rdN_wr vs r (fun v hv r => rd_wr e v r hw.2 (h.2 v hv))]; rfl
  | .narr c z _ e, .n none, r, hw, h => by
    have h : z = false := h
    simp only [rd, wr]
    rw [rdCount_wrNull]
    simp only [Option.bind_some]
    rw [if_pos ⟨by omega, h⟩]
  | .narr c z _ e, .n (some vs), r, hw, h => by
    simp only [wf, Bool.and_eq_true] at hw
    simp only [rd, wr, List.append_assoc]
    have hge := flatten_ge (wr e) vs (fun v hv => wr_pos e v (h.2 v hv) hw.1)
    rw [rdCount_wrCount c vs.length h.1 _ (by simp only [List.length_append]; omega)]
    simp only [Option.bind_some, Int.toNat_natCast]
    rw [if_neg (by omega), rdN_wr vs r (fun v hv r => rd_wr e v r hw.2 (h.2 v hv))]; rfl
  | .str fs, .l vs, r, hw, h => by simp only [rd, wr, rdF_wrF fs vs r hw h, Option.map_some]
  | .opt fs, .n none, r, hw, h => by
    have := rdI_wrI 1 (by omega) (-1) (by decide) (by decide) r
    simp only [rd, wr]
    have e : wrI 1 (-1) = [255] := rfl
    rw [e] at this
    rw [this]
    simp only [Option.bind_some, if_true]
  | .opt fs, .n (some vs), r, hw, h => by
    have := rdI_wrI 1 (by omega) 1 (by decide) (by decide) (wrF fs vs ++ r)
    simp only [rd, wr, List.cons_append]
    have e : wrI 1 1 = [1] := rfl
    rw [e, List.singleton_append] at this
    rw [this]
    simp only [Option.bind_some]
    rw [if_neg (by omega), rdF_wrF fs vs r hw h]; rfl
theorem rdF_wrF : ∀ (fs : Fs) (vs : List Val) (r : Bs), wfF fs = true → okF fs vs → rdF fs (wrF fs vs ++ r) = some (vs, r)
  | .nil, [], r, _, _ => rfl
  | .tags _, [.t l], r, _, h => by simp only [rdF, wrF]; rw [rdTags_wrTags l h]; rfl
  | .cons _ s t, v :: vs, r, hw, h => by
    simp only [wfF, Bool.and_eq_true] at hw
    simp only [rdF, wrF, List.append_assoc]
    rw [rd_wr s v _ hw.1 h.1]
    simp only [Option.bind_some]
    rw [rdF_wrF t vs r hw.2 h.2]; rfl
end

theorem rdCount_some {c : Bool} {bs : Bs} {n : Int} {r : Bs} (h : rdCount c bs = some (n, r)) : n ≤ r.length ∧ r.length < bs.length := by
  simp only [rdCount, Option.bind_eq_some_iff] at h
  obtain ⟨⟨m, q⟩, h1, h2⟩ := h
  split at h2
  · cases h2
  · rename_i hlt
    cases h2
    refine ⟨Int.not_lt.1 hlt, ?_⟩
    split at h1
    · simp only [Option.map_eq_some_iff] at h1
      obtain ⟨⟨u, q'⟩, hu, e⟩ := h1
      cases e
      exact (rdUv_some hu).2
    · have := (rdI_some (by omega) h1).2; omega

theorem rdN_some {α : Type} {f : Bs → Option (α × Bs)} {ok : α → Prop} {m : Nat} (hf : ∀ bs x r, f bs = some (x, r) → bs.length ≤ m → ok x ∧ r.length ≤ bs.length) :
    ∀ (n : Nat) (bs : Bs) (l : List α) (r : Bs), rdN f n bs = some (l, r) → bs.length ≤ m → l.length = n ∧ (∀ x ∈ l, ok x) ∧ r.length ≤ bs.length := by
  intro n
  induction n with
  | zero => intro bs l r h _; cases h; simp
  | succ n ih =>
    intro bs l r h hb
    simp only [rdN, Option.bind_eq_some_iff, Option.map_eq_some_iff] at h
    obtain ⟨⟨x, b1⟩, h1, ⟨t, b2⟩, h2, e⟩ := h
    cases e
    obtain ⟨g1, g2⟩ := hf _ _ _ h1 hb
    obtain ⟨g3, g4, g5⟩ := ih _ _ _ h2 (by (try dsimp only at *); omega)
    refine ⟨by simp [g3], fun y hy => ?_, by (try dsimp only at *); omega⟩
    rcases List.mem_cons.1 hy with rfl | hy
    · exact g1
    · exact g4 y hy

mutual
theorem rd_some : ∀ (s : Sh) (bs : Bs) (v : Val) (r : Bs), rd s bs = some (v, r) → bs.length ≤ 32767 → ok s v ∧ r.length ≤ bs.length
  | .prim p, bs, v, r, h, hb => by
    simp only [rd, Option.map_eq_some_iff] at h
    obtain ⟨⟨x, q⟩, h1, e⟩ := h; cases e
    have := rdP_some p h1 hb
    exact ⟨this.1, by have := this.2; (try dsimp only at *); omega⟩
  | .arr c _ e, bs, v, r, h, hb => by
    simp only [rd, Option.bind_eq_some_iff, Option.map_eq_some_iff] at h
    obtain ⟨⟨n, q⟩, h1, ⟨l, q'⟩, h2, e⟩ := h; cases e
    have g := rdCount_some h1
    have := rdN_some (ok := ok e) (m := 32767) (fun bs x r h hb => rd_some e bs x r h hb) _ _ _ _ h2 (by (try dsimp only at *); omega)
    exact ⟨⟨by rw [this.1]; (try dsimp only at *); omega, this.2.1⟩, by have := this.2.2; (try dsimp only at *); omega⟩
  | .narr c z _ e, bs, v, r, h, hb => by
    simp only [rd, Option.bind_eq_some_iff] at h
    obtain ⟨⟨n, q⟩, h1, h⟩ := h
    have g := rdCount_some h1
    split at h
    · rename_i hc
      cases h
      exact ⟨hc.2, by (try dsimp only at *); omega⟩
    · simp only [Option.map_eq_some_iff] at h
      obtain ⟨⟨l, q'⟩, h2, e⟩ := h; cases e
      have := rdN_some (ok := ok e) (m := 32767) (fun bs x r h hb => rd_some e bs x r h hb) _ _ _ _ h2 (by (try dsimp only at *); omega)
      exact ⟨⟨by rw [this.1]; (try dsimp only at *); omega, this.2.1⟩, by have := this.2.2; (try dsimp only at *); omega⟩
  | .str fs, bs, v, r, h, hb => by
    simp only [rd, Option.map_eq_some_iff] at h
    obtain ⟨⟨x, q⟩, h1, e⟩ := h; cases e
    exact rdF_some fs bs _ _ h1 hb
  | .opt fs, bs, v, r, h, hb => by
    simp only [rd, Option.bind_eq_some_iff] at h
    obtain ⟨⟨n, q⟩, h1, h⟩ := h
    have g := (rdI_some (by omega) h1).2
    split at h
    · cases h; exact ⟨trivial, by (try dsimp only at *); omega⟩
    · simp only [Option.map_eq_some_iff] at h
      obtain ⟨⟨l, q'⟩, h2, e⟩ := h; cases e
      have := rdF_some fs _ _ _ h2 (by (try dsimp only at *); omega)
      exact ⟨this.1, by have := this.2; (try dsimp only at *); omega⟩
theorem rdF_some : ∀ (fs : Fs) (bs : Bs) (vs : List Val) (r : Bs), rdF fs bs = some (vs, r) → bs.length ≤ 32767 → okF fs vs ∧ r.length ≤ bs.length
  | .nil, bs, vs, r, h, hb => by cases h; exact ⟨trivial, Nat.le_refl _⟩
  | .tags _, bs, vs, r, h, hb => by
    simp only [rdF, Option.map_eq_some_iff] at h
    obtain ⟨⟨x, q⟩, h1, e⟩ := h; cases e
    have := rdTags_some h1 hb
    exact ⟨this.1, by have := this.2; (try dsimp only at *); omega⟩
  | .cons _ s t, bs, vs, r, h, hb => by
    simp only [rdF, Option.bind_eq_some_iff, Option.map_eq_some_iff] at h
    obtain ⟨⟨x, q⟩, h1, ⟨y, q'⟩, h2, e⟩ := h; cases e
    have g1 := rd_some s bs x q h1 hb
    have g2 := rdF_some t q y q' h2 (by omega)
    exact ⟨⟨g1.1, g2.1⟩, by simp only; omega⟩
end

/-- What was read, once written, is read again, and is the same. -/
theorem again (fs : Fs) (hw : wfF fs = true) {bs : Bs} {vs : List Val} {r : Bs} (h : rdF fs bs = some (vs, r)) (hb : bs.length ≤ 32767) : rdF fs (wrF fs vs) = some (vs, []) := by
  have := rdF_wrF fs vs [] hw (rdF_some fs bs vs r h hb).1
  simpa using this

end Go.Km

/- The plain side: what is read of octets is read of them with more behind; so nothing is read of less than was written. -/
namespace Go.Km

def Mono {α : Type} (f : Bs → Option (α × Bs)) : Prop := ∀ bs v r x, f bs = some (v, r) → f (bs ++ x) = some (v, r ++ x)

theorem Mono.mapv {α β : Type} {f : Bs → Option (α × Bs)} (h : Mono f) (g : α → β) : Mono fun bs => (f bs).map fun p => (g p.1, p.2) := by
  intro bs v r x hv
  simp only [Option.map_eq_some_iff] at hv ⊢
  obtain ⟨⟨a, q⟩, h1, e⟩ := hv
  cases e
  exact ⟨(a, q ++ x), h bs a q x h1, rfl⟩

theorem Mono.bindv {α β : Type} {f : Bs → Option (α × Bs)} {g : α → Bs → Option (β × Bs)} (h : Mono f) (hg : ∀ a, Mono (g a)) : Mono fun bs => (f bs).bind fun p => g p.1 p.2 := by
  intro bs v r x hv
  simp only [Option.bind_eq_some_iff] at hv ⊢
  obtain ⟨⟨a, q⟩, h1, h2⟩ := hv
  exact ⟨(a, q ++ x), h bs a q x h1, hg a q v r x h2⟩

theorem Mono.some {α : Type} (a : α) : Mono fun bs => Option.some (a, bs) := by intro bs v r x h; cases h; rfl
theorem Mono.none {α : Type} : Mono fun _ => (Option.none : Option (α × Bs)) := by intro bs v r x h; cases h

theorem mono_cut (k : Nat) : Mono (cut k) := by
  intro bs v r x h
  obtain ⟨rfl, h2⟩ := cut_some h
  have := cut_append v (r ++ x)
  rw [h2] at this
  simpa using this

theorem mono_rdU (k : Nat) : Mono (rdU k) := (mono_cut k).mapv ofBe
theorem mono_rdI (k : Nat) : Mono (rdI k) := (mono_rdU k).mapv fun n => sgn (8 * k) n

theorem mono_rdV : ∀ f, Mono (rdV f) := by
  intro f
  induction f with
  | zero =>
    intro bs v r x h
    cases bs with
    | nil => simp [rdV] at h
    | cons b t =>
      simp only [rdV] at h
      split at h
      · rename_i hb
        cases h
        simp [rdV, hb]
      · cases h
  | succ f ih =>
    intro bs v r x h
    cases bs with
    | nil => simp [rdV] at h
    | cons b t =>
      simp only [rdV] at h
      split at h
      · rename_i hb
        cases h
        simp [rdV, hb]
      · rename_i hb
        simp only [Option.map_eq_some_iff] at h
        obtain ⟨⟨m, q⟩, h1, e⟩ := h
        cases e
        simp only [List.cons_append, rdV, hb, if_false, ih t m q x h1, Option.map_some]

theorem mono_rdUv : Mono rdUv := mono_rdV 4

theorem mono_rdLen (c : Bool) (k : Nat) : Mono (rdLen c k) := by
  cases c with
  | true => exact mono_rdUv.mapv fun n => (n : Int) - 1
  | false => exact mono_rdI k

theorem mono_rdSpan (l : Int) : Mono (rdSpan l) := by
  intro bs v r x h
  unfold rdSpan at h ⊢
  split at h
  · rename_i hl; rw [if_pos hl]; exact mono_cut _ bs v r x h
  · cases h

theorem mono_ite {α : Type} {c : Prop} [Decidable c] {f g : Bs → Option (α × Bs)} (hf : Mono f) (hg : Mono g) : Mono fun bs => if c then f bs else g bs := by
  intro bs v r x h
  by_cases hc : c
  · simp only [hc, if_true] at h ⊢; exact hf bs v r x h
  · simp only [hc, if_false] at h ⊢; exact hg bs v r x h

theorem mono_rdP (p : Prim) : Mono (rdP p) := by
  cases p with
  | bool => exact (mono_cut 1).mapv fun l => PV.b (ofBe l != 0)
  | i8 => exact (mono_rdI 1).mapv PV.i
  | i16 => exact (mono_rdI 2).mapv PV.i
  | u16 => exact (mono_rdU 2).mapv fun n : Nat => PV.i (n : Int)
  | i32 => exact (mono_rdI 4).mapv PV.i
  | i64 => exact (mono_rdI 8).mapv PV.i
  | uuid => exact (mono_cut 16).mapv PV.by
  | str c => exact (mono_rdLen c 2).bindv fun l => (mono_rdSpan l).mapv PV.by
  | nstr c => exact (mono_rdLen c 2).bindv fun l => mono_ite (c := l < 0) (Mono.some (PV.o none)) ((mono_rdSpan l).mapv fun q => PV.o (some q))
  | byt c => exact (mono_rdLen c 4).bindv fun l => mono_ite (c := l = -1) (Mono.some (PV.by [])) ((mono_rdSpan l).mapv PV.by)
  | nbyt c => exact (mono_rdLen c 4).bindv fun l => mono_ite (c := l < 0) (Mono.some (PV.o none)) ((mono_rdSpan l).mapv fun q => PV.o (some q))

theorem mono_rdTagN : ∀ (n : Nat) (acc : Tg), Mono (rdTagN n acc) := by
  intro n
  induction n with
  | zero => intro acc; exact Mono.some acc
  | succ n ih => intro acc; exact mono_rdUv.bindv fun k => mono_rdUv.bindv fun s => (mono_cut s).bindv fun v => ih (tagSet k v acc)

theorem mono_rdTags : Mono rdTags := mono_rdUv.bindv fun n => mono_rdTagN n []

theorem mono_rdCount (c : Bool) : Mono (rdCount c) := by
  have key : ∀ f : Bs → Option (Int × Bs), Mono f → Mono fun bs => (f bs).bind fun p => if (p.2.length : Int) < p.1 then none else some p := by
    intro f hf
    refine Mono.bindv (g := fun n bs => if (bs.length : Int) < n then none else some (n, bs)) hf fun n => ?_
    intro bs v r x h
    dsimp only at h ⊢
    split at h
    · cases h
    · rename_i hlt
      cases h
      rw [if_neg (by simp only [List.length_append]; omega)]
  cases c with
  | true => exact key _ (mono_rdUv.mapv fun n => if n = 2147483648 then (2147483647 : Int) else sgn 32 n - 1)
  | false => exact key _ (mono_rdI 4)

theorem mono_rdN {α : Type} {f : Bs → Option (α × Bs)} (hf : Mono f) : ∀ n, Mono (rdN f n) := by
  intro n
  induction n with
  | zero => exact Mono.some []
  | succ n ih => exact hf.bindv fun a => ih.mapv fun l => a :: l

mutual
theorem mono_rd : ∀ s : Sh, Mono (rd s)
  | .prim p => by simp only [rd]; exact (mono_rdP p).mapv Val.p
  | .arr c _ e => by
    simp only [rd]
    exact (mono_rdCount c).bindv fun n => (mono_rdN (mono_rd e) n.toNat).mapv Val.l
  | .narr c z _ e => by
    simp only [rd]
    exact (mono_rdCount c).bindv fun n => mono_ite (c := n < 0 ∧ z = false) (Mono.some (Val.n none)) ((mono_rdN (mono_rd e) n.toNat).mapv fun l => Val.n (some l))
  | .str fs => by simp only [rd]; exact (mono_rdF fs).mapv Val.l
  | .opt fs => by
    simp only [rd]
    exact (mono_rdI 1).bindv fun n => mono_ite (c := n = -1) (Mono.some (Val.n none)) ((mono_rdF fs).mapv fun l => Val.n (some l))
theorem mono_rdF : ∀ fs : Fs, Mono (rdF fs)
  | .nil => by simp only [rdF]; exact Mono.some []
  | .tags _ => by simp only [rdF]; exact mono_rdTags.mapv fun t => [Val.t t]
  | .cons _ s r => by simp only [rdF]; exact (mono_rd s).bindv fun a => (mono_rdF r).mapv fun l => a :: l
end

/-- What ends ahead of its end is not read. -/
theorem cut_none (fs : Fs) (hw : wfF fs = true) {vs : List Val} (h : okF fs vs) {k : Nat} (hk : k < (wrF fs vs).length) : rdF fs ((wrF fs vs).take k) = none := by
  cases hr : rdF fs ((wrF fs vs).take k) with
  | none => rfl
  | some p =>
    obtain ⟨v, r⟩ := p
    have h1 := mono_rdF fs _ v r ((wrF fs vs).drop k) hr
    rw [List.take_append_drop] at h1
    have h2 := rdF_wrF fs vs [] hw h
    rw [List.append_nil] at h2
    rw [h2] at h1
    simp only [Option.some.injEq, Prod.mk.injEq] at h1
    have h3 := congrArg List.length h1.2
    simp only [List.length_nil, List.length_append, List.length_drop] at h3
    omega

end Go.Km

/- What is read is written in no more octets. -/
namespace Go.Km

set_option linter.unusedSimpArgs false
set_option linter.unusedVariables false

theorem wrV_rd : ∀ f bs n r, rdV f bs = some (n, r) → (wrV f n).length + r.length ≤ bs.length := by
  intro f
  induction f with
  | zero =>
    intro bs n r h
    cases bs with
    | nil => simp [rdV] at h
    | cons b t =>
      simp only [rdV] at h
      split at h
      · cases h; simp [wrV]; omega
      · cases h
  | succ f ih =>
    intro bs n r h
    cases bs with
    | nil => simp [rdV] at h
    | cons b t =>
      simp only [rdV] at h
      split at h
      · rename_i hb
        cases h
        simp only [wrV, if_pos hb]
        simp; omega
      · simp only [Option.map_eq_some_iff] at h
        obtain ⟨⟨m, r'⟩, hm, e⟩ := h
        cases e
        have g := ih t m r' hm
        have hlt : b.toNat % 128 < 128 := Nat.mod_lt _ (by omega)
        have hd : (b.toNat % 128 + 128 * m) / 128 = m := by omega
        simp only [wrV]
        split
        · have := rdV_some f t m r' hm
          simp; omega
        · rw [hd]; simp; omega

theorem wrUv_rd {bs : Bs} {n : Nat} {r : Bs} (h : rdUv bs = some (n, r)) : (wrUv n).length + r.length ≤ bs.length := wrV_rd 4 bs n r h

theorem wrUv_one {n : Nat} (h : n < 128) : (wrUv n).length = 1 := by simp [wrUv, wrV, h]

theorem wrI_length (k : Nat) (i : Int) : (wrI k i).length = k := be_length _ _

theorem wrLen_rd {c : Bool} {k : Nat} (hk : 0 < k) {bs : Bs} {l : Int} {r : Bs} (h : rdLen c k bs = some (l, r)) : (0 ≤ l → (wrLen c k l.toNat).length + r.length ≤ bs.length) ∧ (wrNull c k).length + r.length ≤ bs.length ∧ (wrLen c k 0).length + r.length ≤ bs.length := by
  unfold rdLen at h
  cases c with
  | true =>
    simp only [if_true, Option.map_eq_some_iff] at h
    obtain ⟨⟨p, q⟩, h1, e⟩ := h
    cases e
    have g := wrUv_rd h1
    have g2 := rdUv_some h1
    refine ⟨fun hl => ?_, ?_, ?_⟩
    · have : ((p : Int) - 1).toNat + 1 = p := by (try dsimp only at *); omega
      simp only [wrLen, if_true, this]; exact g
    · simp only [wrNull, if_true, wrUv_one (show 0 < 128 by omega)]; (try dsimp only at *); omega
    · simp only [wrLen, if_true, wrUv_one (show 0 + 1 < 128 by omega)]; (try dsimp only at *); omega
  | false =>
    simp only [Bool.false_eq_true, if_false] at h
    have g := (rdI_some hk h).2
    simp only [wrLen, wrNull, Bool.false_eq_true, if_false, wrI_length]
    refine ⟨fun _ => ?_, ?_, ?_⟩ <;> omega

theorem rdSpan_len {l : Int} {bs q r : Bs} (h : rdSpan l bs = some (q, r)) : 0 ≤ l ∧ l.toNat = q.length ∧ q.length + r.length = bs.length := by
  unfold rdSpan at h
  split at h
  · rename_i hl
    obtain ⟨h1, h2⟩ := cut_some h
    subst h1
    exact ⟨hl, h2.symm, by simp⟩
  · cases h

theorem cut_len {k : Nat} {bs q r : Bs} (h : cut k bs = some (q, r)) : q.length = k ∧ k + r.length = bs.length := by
  obtain ⟨h1, h2⟩ := cut_some h
  subst h1
  exact ⟨h2, by simp [h2]⟩

theorem wrP_rd (p : Prim) {bs : Bs} {v : PV} {r : Bs} (h : rdP p bs = some (v, r)) : (wrP p v).length + r.length ≤ bs.length := by
  cases p with
  | bool =>
    simp only [rdP, Option.map_eq_some_iff] at h
    obtain ⟨⟨x, q⟩, h1, e⟩ := h; cases e
    have := cut_len h1
    simp [wrP]; omega
  | i8 =>
    simp only [rdP, Option.map_eq_some_iff] at h
    obtain ⟨⟨x, q⟩, h1, e⟩ := h; cases e
    have := (rdI_some (by omega) h1).2
    simp only [wrP, wrI_length]; omega
  | i16 =>
    simp only [rdP, Option.map_eq_some_iff] at h
    obtain ⟨⟨x, q⟩, h1, e⟩ := h; cases e
    have := (rdI_some (by omega) h1).2
    simp only [wrP, wrI_length]; omega
  | u16 =>
    simp only [rdP, Option.map_eq_some_iff] at h
    obtain ⟨⟨x, q⟩, h1, e⟩ := h; cases e
    have := (rdU_some h1).2
    simp only [wrP, be_length]; omega
  | i32 =>
    simp only [rdP, Option.map_eq_some_iff] at h
    obtain ⟨⟨x, q⟩, h1, e⟩ := h; cases e
    have := (rdI_some (by omega) h1).2
    simp only [wrP, wrI_length]; omega
  | i64 =>
    simp only [rdP, Option.map_eq_some_iff] at h
    obtain ⟨⟨x, q⟩, h1, e⟩ := h; cases e
    have := (rdI_some (by omega) h1).2
    simp only [wrP, wrI_length]; omega
  | uuid =>
    simp only [rdP, Option.map_eq_some_iff] at h
    obtain ⟨⟨x, q⟩, h1, e⟩ := h; cases e
    have := cut_len h1
    simp only [wrP]; (try dsimp only at *); omega
  | str c =>
    simp only [rdP, Option.bind_eq_some_iff, Option.map_eq_some_iff] at h
    obtain ⟨⟨l, q⟩, h1, ⟨x, q'⟩, h2, e⟩ := h; cases e
    have g := rdSpan_len h2
    have := (wrLen_rd (by omega) h1).1 g.1
    rw [g.2.1] at this
    simp only [wrP, List.length_append]; (try dsimp only at *); omega
  | nstr c =>
    simp only [rdP, Option.bind_eq_some_iff] at h
    obtain ⟨⟨l, q⟩, h1, h⟩ := h
    split at h
    · cases h; simp only [wrP]; exact (wrLen_rd (by omega) h1).2.1
    · simp only [Option.map_eq_some_iff] at h
      obtain ⟨⟨x, q'⟩, h2, e⟩ := h; cases e
      have g := rdSpan_len h2
      have := (wrLen_rd (by omega) h1).1 g.1
      rw [g.2.1] at this
      simp only [wrP, List.length_append]; (try dsimp only at *); omega
  | byt c =>
    simp only [rdP, Option.bind_eq_some_iff] at h
    obtain ⟨⟨l, q⟩, h1, h⟩ := h
    split at h
    · cases h; simp only [wrP, List.length_append, List.length_nil]
      have := (wrLen_rd (by omega) h1).2.2
      (try dsimp only at *); omega
    · simp only [Option.map_eq_some_iff] at h
      obtain ⟨⟨x, q'⟩, h2, e⟩ := h; cases e
      have g := rdSpan_len h2
      have := (wrLen_rd (by omega) h1).1 g.1
      rw [g.2.1] at this
      simp only [wrP, List.length_append]; (try dsimp only at *); omega
  | nbyt c =>
    simp only [rdP, Option.bind_eq_some_iff] at h
    obtain ⟨⟨l, q⟩, h1, h⟩ := h
    split at h
    · cases h; simp only [wrP]; exact (wrLen_rd (by omega) h1).2.1
    · simp only [Option.map_eq_some_iff] at h
      obtain ⟨⟨x, q'⟩, h2, e⟩ := h; cases e
      have g := rdSpan_len h2
      have := (wrLen_rd (by omega) h1).1 g.1
      rw [g.2.1] at this
      simp only [wrP, List.length_append]; (try dsimp only at *); omega

theorem wrCount_rd {c : Bool} {bs : Bs} {n : Int} {r : Bs} (h : rdCount c bs = some (n, r)) : (wrCount c n.toNat).length + r.length ≤ bs.length ∧ (wrNull c 4).length + r.length ≤ bs.length := by
  unfold rdCount at h
  simp only [Option.bind_eq_some_iff] at h
  obtain ⟨⟨m, q⟩, h1, h2⟩ := h
  split at h2
  · cases h2
  cases h2
  cases c with
  | true =>
    simp only [if_true, Option.map_eq_some_iff] at h1
    obtain ⟨⟨p, q'⟩, h3, e⟩ := h1
    have g := wrUv_rd h3
    have g2 := rdUv_some h3
    have hp : p < 4294967296 := g2.1
    simp only [wrCount, wrLen, wrNull, if_true]
    have hz : (wrUv 0).length = 1 := wrUv_one (by omega)
    cases e
    simp only at *
    refine ⟨?_, by omega⟩
    by_cases h31 : p = 2147483648
    · subst h31; simp only [if_true]; exact g
    · rw [if_neg h31]
      simp only [sgn]
      split
      · rename_i hs
        have hs' : p < 2147483648 := hs
        by_cases hp0 : p = 0
        · subst hp0; have : (wrUv (((0 : Nat) : Int) - 1).toNat.succ).length = 1 := wrUv_one (by decide)
          have e1 : (((0 : Nat) : Int) - 1).toNat + 1 = (((0 : Nat) : Int) - 1).toNat.succ := rfl
          rw [e1, this]; omega
        · have : ((p : Int) - 1).toNat + 1 = p := by omega
          rw [this]; exact g
      · have h5 : ((2 : Int) ^ 32) = 4294967296 := by decide
        rw [h5]
        have : (((p : Int) - 4294967296 - 1).toNat + 1) = 1 := by omega
        rw [this, wrUv_one (by omega)]; omega
  | false =>
    simp only [Bool.false_eq_true, if_false] at h1
    have g := (rdI_some (by omega) h1).2
    simp only [wrCount, wrLen, wrNull, Bool.false_eq_true, if_false, wrI_length]
    omega

theorem tagSet_wr (k : Nat) (v : Bs) : ∀ l : Tg, (wrTagL (tagSet k v l)).length ≤ (wrTagL l).length + (wrTag (k, v)).length := by
  intro l
  induction l with
  | nil => simp [tagSet, wrTagL]
  | cons x r ih =>
    obtain ⟨j, u⟩ := x
    simp only [tagSet]
    split
    · simp [wrTagL]; omega
    · split
      · simp [wrTagL]; omega
      · simp only [wrTagL, List.map_cons, List.flatten_cons, List.length_append] at ih ⊢
        omega

theorem wrTagN_rd : ∀ (n : Nat) (acc : Tg) (bs : Bs) (l : Tg) (r : Bs), rdTagN n acc bs = some (l, r) → (wrTagL l).length + r.length ≤ (wrTagL acc).length + bs.length ∧ l.length ≤ acc.length + n := by
  intro n
  induction n with
  | zero => intro acc bs l r h; cases h; exact ⟨Nat.le_refl _, by omega⟩
  | succ n ih =>
    intro acc bs l r h
    simp only [rdTagN, Option.bind_eq_some_iff] at h
    obtain ⟨⟨k, b1⟩, h1, ⟨s, b2⟩, h2, ⟨v, b3⟩, h3, h4⟩ := h
    have g1 := wrUv_rd h1
    have g2 := wrUv_rd h2
    have g3 := cut_len h3
    have g4 := ih _ _ _ _ h4
    have g5 := tagSet_wr k v acc
    have g6 := @tagSet_length k v acc
    simp only [wrTag, List.length_append] at g5
    (try dsimp only at *)
    rw [g3.1] at g5
    omega

theorem wrV_mono : ∀ f m n, m ≤ n → (wrV f m).length ≤ (wrV f n).length := by
  intro f
  induction f with
  | zero => intro m n _; simp [wrV]
  | succ f ih =>
    intro m n h
    simp only [wrV]
    split
    · split
      · simp
      · simp
    · rw [if_neg (by omega)]
      have := ih (m / 128) (n / 128) (Nat.div_le_div_right h)
      simp; omega

theorem wrTags_rd {bs : Bs} {l : Tg} {r : Bs} (h : rdTags bs = some (l, r)) : (wrTags l).length + r.length ≤ bs.length := by
  unfold rdTags at h
  simp only [Option.bind_eq_some_iff] at h
  obtain ⟨⟨n, q⟩, h1, h2⟩ := h
  have g1 := wrUv_rd h1
  have g2 := wrTagN_rd _ _ _ _ _ h2
  have g3 : (wrUv l.length).length ≤ (wrUv n).length := wrV_mono 4 _ _ (by simpa using g2.2)
  simp only [wrTags, List.length_append]
  have : (wrTagL []).length = 0 := rfl
  (try dsimp only at *)
  omega

theorem wrN_rd {α : Type} {f : Bs → Option (α × Bs)} {g : α → Bs} (hf : ∀ bs x r, f bs = some (x, r) → (g x).length + r.length ≤ bs.length) : ∀ (n : Nat) (bs : Bs) (l : List α) (r : Bs), rdN f n bs = some (l, r) → ((l.map g).flatten).length + r.length ≤ bs.length ∧ l.length = n := by
  intro n
  induction n with
  | zero => intro bs l r h; cases h; simp
  | succ n ih =>
    intro bs l r h
    simp only [rdN, Option.bind_eq_some_iff, Option.map_eq_some_iff] at h
    obtain ⟨⟨x, b1⟩, h1, ⟨y, b2⟩, h2, e⟩ := h
    cases e
    have g1 := hf _ _ _ h1
    have g2 := ih _ _ _ h2
    simp only [List.map_cons, List.flatten_cons, List.length_append, List.length_cons]
    (try dsimp only at *)
    omega

mutual
theorem wr_rd : ∀ (s : Sh) (bs : Bs) (v : Val) (r : Bs), rd s bs = some (v, r) → (wr s v).length + r.length ≤ bs.length
  | .prim p, bs, v, r, h => by
    simp only [rd, Option.map_eq_some_iff] at h
    obtain ⟨⟨x, q⟩, h1, e⟩ := h; cases e
    simpa [wr] using wrP_rd p h1
  | .arr c _ e, bs, v, r, h => by
    simp only [rd, Option.bind_eq_some_iff, Option.map_eq_some_iff] at h
    obtain ⟨⟨n, q⟩, h1, ⟨l, q'⟩, h2, e⟩ := h; cases e
    have g := (wrCount_rd h1).1
    have := wrN_rd (g := wr e) (fun bs x r h => wr_rd e bs x r h) _ _ _ _ h2
    simp only [wr, List.length_append]
    rw [this.2]
    have := this.1
    (try dsimp only at *); omega
  | .narr c z _ e, bs, v, r, h => by
    simp only [rd, Option.bind_eq_some_iff] at h
    obtain ⟨⟨n, q⟩, h1, h⟩ := h
    have g := wrCount_rd h1
    split at h
    · rename_i hc
      cases h
      simpa [wr] using g.2
    · simp only [Option.map_eq_some_iff] at h
      obtain ⟨⟨l, q'⟩, h2, e⟩ := h; cases e
      have := wrN_rd (g := wr e) (fun bs x r h => wr_rd e bs x r h) _ _ _ _ h2
      simp only [wr, List.length_append]
      rw [this.2]
      have := this.1
      have := g.1
      (try dsimp only at *); omega
  | .str fs, bs, v, r, h => by
    simp only [rd, Option.map_eq_some_iff] at h
    obtain ⟨⟨x, q⟩, h1, e⟩ := h; cases e
    simpa [wr] using wrF_rd fs bs _ _ h1
  | .opt fs, bs, v, r, h => by
    simp only [rd, Option.bind_eq_some_iff] at h
    obtain ⟨⟨n, q⟩, h1, h⟩ := h
    have g := (rdI_some (by omega) h1).2
    split at h
    · cases h; simp only [wr, List.length_singleton]; (try dsimp only at *); omega
    · simp only [Option.map_eq_some_iff] at h
      obtain ⟨⟨l, q'⟩, h2, e⟩ := h; cases e
      have := wrF_rd fs _ _ _ h2
      simp only [wr, List.length_cons]; (try dsimp only at *); omega
theorem wrF_rd : ∀ (fs : Fs) (bs : Bs) (vs : List Val) (r : Bs), rdF fs bs = some (vs, r) → (wrF fs vs).length + r.length ≤ bs.length
  | .nil, bs, vs, r, h => by cases h; simp [wrF]
  | .tags _, bs, vs, r, h => by
    simp only [rdF, Option.map_eq_some_iff] at h
    obtain ⟨⟨x, q⟩, h1, e⟩ := h; cases e
    simpa [wrF] using wrTags_rd h1
  | .cons _ s t, bs, vs, r, h => by
    simp only [rdF, Option.bind_eq_some_iff, Option.map_eq_some_iff] at h
    obtain ⟨⟨x, q⟩, h1, ⟨y, q'⟩, h2, e⟩ := h; cases e
    have g1 := wr_rd s bs x q h1
    have g2 := wrF_rd t q y q' h2
    simp only [wrF, List.length_append]; (try dsimp only at *); omega
end

end Go.Km
