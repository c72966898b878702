/- Rows that grow, slices, calls: the executor's operations are the model's. -/
import Derived.Test.YtfiadcfdnpggdaaCx4
namespace Go.CX
open Go.RowKit (Below)
open Go.Lib

section
variable {σ : Nat → Value} {P : Program} {B : Nat} {w0 : World} {V : Vn} {nt : Nat} {h h' : Heap} {w : World} {fr : T AV} {a : Act} {o : Oper} {t : TypeId} {x y : Operand}

/-- A row that has grown, or been written behind its end, under a new number. -/
theorem HRel.grown (hr : HRel σ B w0 V h w) {w' : World} {row : Option Nat} (hg : w.grownBy w' row) (hrow : ∀ r, row = some r → B ≤ r ∧ ∀ b k p, h.get b = some k → V[b]? = some p → p.1 ≠ r)
    {g cap size : Nat} {cur : Array Value} {e : TypeId} {xs : List CV} {vs : List Value} (hv : vals σ V xs = some vs) (hgB : B ≤ g) (hnew : row = some g ∨ w.heap.size ≤ g)
    (hh : w'.heap[g]? = some (.cells cur e (0, 0))) (hcap : cap ≤ maxLen) (hsz : cur.size = cap * size) (htk : cur.toList.take vs.length = vs) :
    HRel σ B w0 (V ++ [(g, cap)]) (h.new { e := e, xs := xs, row := some size }) w' := by
  have ex : Ext V (V ++ [(g, cap)]) := Ext.snoc _ _
  have old : ∀ b k p cur, h.get b = some k → V[b]? = some p → w.heap[p.1]? = some (.cells cur k.e (0, 0)) → w'.heap[p.1]? = some (.cells cur k.e (0, 0)) ∧ p.1 ≠ g := by
    intro b k p cur hb hp hc
    have hlt := (Array.getElem?_eq_some_iff.1 hc).1
    have hne : some p.1 ≠ row := fun e => (hrow p.1 e.symm).2 b k p hb hp rfl
    refine ⟨by rw [hg.block p.1 hlt hne]; exact hc, fun e => ?_⟩
    rcases hnew with h1 | h1
    · exact hne (by rw [h1, e])
    · omega
  refine ⟨hr.base, hr.below.grown hg hr.le (fun k hk => (hrow k hk).1), by simp [hr.len, Heap.new], fun b k hb => ?_, fun b b' k k' p p' hb hb' hp hp' he => ?_⟩
  · rcases T.get_set _ _ _ _ _ _ hb with ⟨rfl, hk⟩ | ⟨hne, hk⟩
    · cases hk
      exact ⟨(g, cap), cur, by rw [← hr.len]; simp, hgB, hcap, hh, ⟨vs, vals_ext ex hv, htk⟩, hsz⟩
    · obtain ⟨p, cur, h1, h2, h3, h4, ⟨us, h5, h6⟩, h7⟩ := hr.blk b k hk
      exact ⟨p, cur, ex.get h1, h2, h3, (old b k p cur hk h1 h4).1, ⟨us, vals_ext ex h5, h6⟩, h7⟩
  · have key : ∀ b k p, (h.new { e := e, xs := xs, row := some size }).get b = some k → (V ++ [(g, cap)])[b]? = some p → (b = h.n ∧ p.1 = g) ∨ (h.get b = some k ∧ V[b]? = some p ∧ p.1 ≠ g) := by
      intro b k p hb hp
      rcases T.get_set _ _ _ _ _ _ hb with ⟨rfl, hk⟩ | ⟨hne, hk⟩
      · refine .inl ⟨rfl, ?_⟩
        rw [← hr.len] at hp
        simp at hp
        rw [← hp]
      · obtain ⟨q, cur, h1, h2, h3, h4, _⟩ := hr.blk b k hk
        have := ex.get h1
        rw [hp] at this
        cases this
        exact .inr ⟨hk, h1, (old b k p cur hk h1 h4).2⟩
    rcases key b k p hb hp with ⟨rfl, h1⟩ | ⟨h1, h2, h3⟩ <;> rcases key b' k' p' hb' hp' with ⟨rfl, h1'⟩ | ⟨h1', h2', h3'⟩
    · rfl
    · exact (h3' (by rw [← he]; exact h1)).elim
    · exact (h3 (by rw [he]; exact h1')).elim
    · exact hr.inj b b' k k' p p' h1 h1' h2 h2' he

/-- What an append leaves: a row of its own, in the old block or in a new one. -/
def Grew (w w' : World) (row : Option Nat) (e : TypeId) (size n : Nat) (xs : List Value) (v : Value) : Prop :=
  ∃ g cap cur, v = .slice (some ⟨g, 0, none⟩) n cap ∧ (row = some g ∨ g = w.heap.size) ∧ w.grownBy w' row ∧ w'.heap[g]? = some (.cells cur e (0, 0)) ∧ n ≤ cap ∧ cap ≤ maxLen ∧ cur.size = cap * size ∧ cur.toList.take (n * size) = xs

theorem grew_new (w : World) (e : TypeId) (size n old : Nat) (xs news : List Value) (z : Array Value) (hz : z.size = size) (hl : (xs ++ news).length = n * size) (hn : n ≤ maxLen) (row : Option Nat) :
    Grew w (w.drew.alloc (.cells (xs.toArray ++ news.toArray ++ Builtin.zeroCells z (grownCap w n old e - n)) e)) row e size n (xs ++ news) (.slice (some ⟨w.heap.size, 0, none⟩) n (grownCap w n old e)) := by
  have hge := grownCap_ge w n old e
  refine ⟨w.heap.size, _, _, rfl, .inr rfl, ⟨rfl, rfl, rfl, by simp, fun k hk _ => heap_alloc_old w.drew _ k hk⟩, heap_alloc_new w.drew _, hge, grownCap_le_maxLen w n old e hn, ?_, ?_⟩
  · simp only [Array.size_append, List.size_toArray, size_zeroCells, hz]
    have : xs.length + news.length = n * size := by simpa using hl
    rw [this, ← Nat.add_mul]; congr 1; omega
  · simp only [Array.toList_append, List.append_assoc]
    rw [← List.append_assoc, ← hl]
    exact List.take_left

theorem grew_room (w : World) (e : TypeId) (size n m cap g : Nat) (cur : Array Value) (xs news : List Value) (hg : w.heap[g]? = some (.cells cur e (0, 0))) (hcs : cur.size = cap * size) (hcm : cap ≤ maxLen)
    (hroom : n + m ≤ cap) (hxl : xs.length = n * size) (hl : news.length = m * size) (htake : cur.toList.take (n * size) = xs) :
    Grew w (w.setRow g (cur.toList.take (n * size) ++ news ++ cur.toList.drop (n * size + news.length)).toArray) (some g) e size (n + m) (xs ++ news) (.slice (some ⟨g, 0, none⟩) (n + m) cap) := by
  have hfit : n * size + news.length ≤ cur.size := by rw [hl, hcs, ← Nat.add_mul]; exact Nat.mul_le_mul_right _ hroom
  refine ⟨g, cap, _, rfl, .inl rfl, ⟨rfl, rfl, rfl, by simp [World.setRow], fun k _ hk => setRow_other w g k _ (fun e => hk (by rw [e]))⟩, setRow_heap w g cur _ e _ hg, hroom, hcm, ?_, ?_⟩
  · simp only [List.size_toArray, List.length_append, List.length_take, List.length_drop, Array.length_toList]
    omega
  · rw [htake]
    have : (n + m) * size = (xs ++ news).length := by simp [hxl, hl, Nat.add_mul]
    rw [this]
    exact List.take_left

/-- append of a slice of memory to a row of one's own. -/
theorem run_append_grew (w : World) (t ty e : TypeId) (i : TypeInfo) (z : Value) (ht : P.underlying t = some (.slice e)) (hi : P.info? e = some i) (hz : i.zero = some z) (hzs : z.cells.size = i.size)
    (g n cap : Nat) (cur : Array Value) (xs : List Value) (hg : w.heap[g]? = some (.cells cur e (0, 0))) (hcs : cur.size = cap * i.size) (hcm : cap ≤ maxLen)
    (hxl : xs.length = n * i.size) (htake : cur.toList.take (n * i.size) = xs)
    (ad : Addr) (m c : Nat) (news : List Value) (hl : news.length = m * i.size) (hnews : ∀ j u, news[j]? = some u → w.cell? (ad.add j) = some u) (h1 : ∀ u ∈ news, u.oneCell' = true)
    (h63 : n + m ≤ 1048576) (hby : i.bytes ≤ 4096) :
    ∃ v w', (Builtin.append_ #[t, t] ty #[.slice (some ⟨g, 0, none⟩) n cap, .slice (some ad) m c]).run P w = .ok v w' ∧ Grew w w' (some g) e i.size (n + m) (xs ++ news) v := by
  by_cases hroom : n + m ≤ cap
  · have hfit : n * i.size + news.length ≤ cur.size := by rw [hl, hcs, ← Nat.add_mul]; exact Nat.mul_le_mul_right _ hroom
    exact ⟨_, _, run_append_room (P := P) w t ty e i ht hi g n cap cur hg ad m c news hl hnews h1 hroom hfit, grew_room w e i.size n m cap g cur xs news hg hcs hcm hroom hxl hl htake⟩
  · have holds : ∀ j u, xs[j]? = some u → w.cell? ((⟨g, 0, none⟩ : Addr).add j) = some u := by
      intro j u hu
      rw [add_lit', Nat.zero_add]
      simp only [World.cell?, hg]
      rw [← htake, List.getElem?_take] at hu
      split at hu
      · simpa using hu
      · cases hu
    have hb : (n + m) * i.bytes ≤ 140737488355328 := Nat.le_trans (Nat.mul_le_mul h63 hby) (by decide)
    refine ⟨_, _, run_append_grow (P := P) w t ty e i z ht hi hz ⟨g, 0, none⟩ n cap xs hxl holds ad m c news hl hnews (by omega) (by omega) (growslice_fits (by omega) hb), ?_⟩
    exact grew_new w e i.size (n + m) cap xs news z.cells hzs (by simp [hxl, hl, Nat.add_mul]) (by simp only [maxLen]; omega) (some g)

theorem run_append_grew_nil (w : World) (t ty e : TypeId) (i : TypeInfo) (z : Value) (ht : P.underlying t = some (.slice e)) (hi : P.info? e = some i) (hz : i.zero = some z) (hzs : z.cells.size = i.size)
    (ad : Addr) (m c : Nat) (news : List Value) (hl : news.length = m * i.size) (hnews : ∀ j u, news[j]? = some u → w.cell? (ad.add j) = some u) (h0 : 0 < m)
    (h63 : m ≤ 1048576) (hby : i.bytes ≤ 4096) :
    ∃ v w', (Builtin.append_ #[t, t] ty #[.slice none 0 0, .slice (some ad) m c]).run P w = .ok v w' ∧ Grew w w' none e i.size m news v := by
  have hb : m * i.bytes ≤ 281474976710656 := Nat.le_trans (Nat.mul_le_mul h63 hby) (by decide)
  refine ⟨_, _, run_append_nil (P := P) w t ty e i z ht hi hz ad m c news hl hnews h0 (by omega) hb, ?_⟩
  have := grew_new w e i.size m 0 [] news z.cells hzs (by simpa using hl) (by simp only [maxLen]; omega) none
  simpa using this

theorem run_append_grew_string (w : World) (t u ty e : TypeId) (i : TypeInfo) (z : Value) (ht : P.underlying t = some (.slice e)) (hu : P.underlying u = some .string) (hi : P.info? e = some i) (hz : i.zero = some z) (hzs : z.cells.size = i.size) (hs1 : i.size = 1)
    (g n cap : Nat) (cur : Array Value) (xs : List Value) (hg : w.heap[g]? = some (.cells cur e (0, 0))) (hcs : cur.size = cap * i.size) (hcm : cap ≤ maxLen)
    (hxl : xs.length = n * i.size) (htake : cur.toList.take (n * i.size) = xs) (s : ByteArray) (h63 : n + s.size ≤ 1048576) (hby : i.bytes ≤ 4096) :
    ∃ v w', (Builtin.append_ #[t, u] ty #[.slice (some ⟨g, 0, none⟩) n cap, .string s]).run P w = .ok v w' ∧ Grew w w' (some g) e i.size (n + s.size) (xs ++ strCells s) v := by
  have hl : (strCells s).length = s.size * i.size := by rw [strCells_length, hs1, Nat.mul_one]
  by_cases hroom : n + s.size ≤ cap
  · have hfit : n + s.size ≤ cur.size := by rw [hcs, hs1]; omega
    have hr := run_append_room_string (P := P) w t u ty e i ht hu hi hs1 g n cap cur hg s hroom hfit
    refine ⟨_, _, hr, ?_⟩
    have := grew_room w e i.size n s.size cap g cur xs (strCells s) hg hcs hcm hroom hxl hl htake
    rw [strCells_length] at this
    simpa [hs1] using this
  · have holds : ∀ j u, xs[j]? = some u → w.cell? ((⟨g, 0, none⟩ : Addr).add j) = some u := by
      intro j u hu
      rw [add_lit', Nat.zero_add]
      simp only [World.cell?, hg]
      rw [← htake, List.getElem?_take] at hu
      split at hu
      · simpa using hu
      · cases hu
    have hb : (n + s.size) * i.bytes ≤ 140737488355328 := Nat.le_trans (Nat.mul_le_mul h63 hby) (by decide)
    refine ⟨_, _, run_append_grow_string (P := P) w t u ty e i z ht hu hi hz ⟨g, 0, none⟩ n cap xs hxl holds s (by omega) (by omega) (growslice_fits (by omega) hb), ?_⟩
    exact grew_new w e i.size (n + s.size) cap xs (strCells s) z.cells hzs (by rw [List.length_append, hxl, hl, Nat.add_mul]) (by simp only [maxLen]; omega) (some g)

theorem run_append_grew_nil_string (w : World) (t u ty e : TypeId) (i : TypeInfo) (z : Value) (ht : P.underlying t = some (.slice e)) (hu : P.underlying u = some .string) (hi : P.info? e = some i) (hz : i.zero = some z) (hzs : z.cells.size = i.size) (hs1 : i.size = 1)
    (s : ByteArray) (h0 : 0 < s.size) (h63 : s.size ≤ 1048576) (hby : i.bytes ≤ 4096) :
    ∃ v w', (Builtin.append_ #[t, u] ty #[.slice none 0 0, .string s]).run P w = .ok v w' ∧ Grew w w' none e i.size s.size (strCells s) v := by
  have hb : s.size * i.bytes ≤ 281474976710656 := Nat.le_trans (Nat.mul_le_mul h63 hby) (by decide)
  refine ⟨_, _, run_append_nil_string (P := P) w t u ty e i z ht hu hi hz s h0 (by omega) hb, ?_⟩
  have := grew_new w e i.size s.size 0 [] (strCells s) z.cells hzs (by simp [strCells_length, hs1]) (by simp only [maxLen]; omega) none
  have e1 : s.data.map (fun b => Value.int .u8 b.toNat) = (strCells s).toArray := by apply Array.ext'; simp [strCells]
  rw [e1]
  simpa using this

/-- An append of nothing. -/
theorem run_append_none (w : World) (t ty e : TypeId) (i : TypeInfo) (ht : P.underlying t = some (.slice e)) (hi : P.info? e = some i)
    (b : Option Addr) (n cap : Nat) (hn : n ≤ cap) (d : Option Addr) (c : Nat) :
    (Builtin.append_ #[t, t] ty #[.slice b n cap, .slice d 0 c]).run P w = .ok (.slice b n cap) w := by
  have hf : (Builtin.firstCells i.size 0 (.slice d 0 c)).run P w = .ok #[] w := by cases d <;> simp [Builtin.firstCells, loadCells, loadCellsFrom]
  cases b with
  | none => simp [Builtin.append_, run_underlying ht, sizeOf, typeInfo, hi, Builtin.lenOf, hn, hf]
  | some b => simp [Builtin.append_, run_underlying ht, sizeOf, typeInfo, hi, Builtin.lenOf, hn, hf, storeCells]

theorem run_append_none_string (w : World) (t u ty e : TypeId) (i : TypeInfo) (ht : P.underlying t = some (.slice e)) (hu : P.underlying u = some .string) (hi : P.info? e = some i)
    (b : Option Addr) (n cap : Nat) (hn : n ≤ cap) (s : ByteArray) (hs : s.size = 0) :
    (Builtin.append_ #[t, u] ty #[.slice b n cap, .string s]).run P w = .ok (.slice b n cap) w := by
  have hf : (Builtin.firstCells i.size s.size (.string s)).run P w = .ok #[] w := by rw [run_firstCells_string]; congr 1; rw [← List.length_eq_zero_iff.1 (by rw [strCells_length]; exact hs)]
  rw [hs] at hf
  cases b with
  | none => simp [Builtin.append_, run_underlying ht, run_underlying hu, sizeOf, typeInfo, hi, Builtin.lenOf, hs, hn, hf]
  | some b => simp [Builtin.append_, run_underlying ht, run_underlying hu, sizeOf, typeInfo, hi, Builtin.lenOf, hs, hn, hf, storeCells]

end
end Go.CX
