/- The executor's appends, slices, calls as operations of the model. -/
import Derived.Test.YtfiadcfdnpggdabCx5
namespace Go.CX
open Go.RowKit (Below)
open Go.Lib

section
variable {σ : Nat → Value} {P : Program} {B : Nat} {w0 : World} {V : Vn} {nt : Nat} {h h' : Heap} {w : World} {fr : T AV} {a : Act} {o : Oper} {t : TypeId} {x y : Operand} {ts : Array TypeId}

theorem cells_strCells (V : Vn) (s : ByteArray) : vals σ V (s.data.toList.map fun b => CV.lit (.int .u8 b.toNat)) = some (strCells s) := by
  simp only [strCells]
  induction s.data.toList with
  | nil => rfl
  | cons b r ih => simp [vals, CV.val, oneCell, ih]

/-- What is appended, as the world has it. -/
inductive Src (σ : Nat → Value) (P : Program) (w : World) (t xt : TypeId) (V : Vn) (size : Nat) (cs : List CV) (m : Nat) : Value → Prop where
  | mem (ad : Addr) (c : Nat) (news : List Value) (ht : xt = t) (hv : vals σ V cs = some news) (hl : news.length = m * size) (hc : ∀ j u, news[j]? = some u → w.cell? (ad.add j) = some u) : Src σ P w t xt V size cs m (.slice (some ad) m c)
  | none (ht : xt = t) (hm : m = 0) (c : Nat) : Src σ P w t xt V size cs m (.slice none 0 c)
  | str (s : ByteArray) (hu : P.underlying xt = some .string) (hm : m = s.size) (h1 : size = 1) (hv : vals σ V cs = some (strCells s)) : Src σ P w t xt V size cs m (.string s)

theorem appCells_src (hr : HRel σ B w0 V h w) {t xt : TypeId} {size : Nat} {x : AV} {cs : List CV} {m : Nat} (hx : appCells h size x = some (cs, m))
    (hk : appKind P t xt x = true) {v : Value} (hv : x.val σ V = some v) : Src σ P w t xt V size cs m v := by
  unfold appCells at hx
  split at hx
  · rename_i b off n cap
    simp only [Option.bind_eq_some_iff] at hx
    obtain ⟨k, hb, hx⟩ := hx
    split at hx
    · rename_i hle
      cases hx
      simp only [AV.val] at hv
      have ht : xt = t := by simpa [appKind] using hk
      cases cap with
      | none =>
        simp only [CV.val, Option.bind_eq_some_iff] at hv
        obtain ⟨p, hp, hv⟩ := hv
        split at hv <;> cases hv
        obtain ⟨vs, h1, h2, h3⟩ := hr.rowCells hb hp hle
        exact .mem _ _ vs ht h1 h2 h3
      | some c =>
        simp only [CV.val] at hv
        split at hv
        · simp only [Option.map_eq_some_iff] at hv
          obtain ⟨p, hp, rfl⟩ := hv
          obtain ⟨vs, h1, h2, h3⟩ := hr.rowCells hb hp hle
          exact .mem _ _ vs ht h1 h2 h3
        · cases hv
    · cases hx
  · rename_i n c
    split at hx
    · rename_i hn
      cases hx
      subst hn
      simp only [AV.val, CV.val, oneCell, if_true, Option.some.injEq] at hv
      subst hv
      exact .none (by simpa [appKind] using hk) rfl c
    · cases hx
  · rename_i s
    split at hx
    · rename_i h1
      cases hx
      simp only [AV.val, CV.val, oneCell, if_true, Option.some.injEq] at hv
      subst hv
      refine .str s ?_ rfl h1 (cells_strCells V s)
      simp only [appKind] at hk
      split at hk <;> simp_all
    · cases hx
  · cases hx

theorem op_append (ho : o.op = .call { callee := .builtin .append, args := #[x, y], argTypes := ts }) (hr : HRel σ B w0 V h w) (hf : FRel σ V nt fr a) {s z r : AV}
    (hx : evalO fr x = some s) (hy : evalO fr y = some z) (happ : appendO P h ts.toList s z = some (r, h')) : OpOk σ P B w0 V h' a w o (some r) := by
  have hsv := evalO_val hf hx
  have hzv := evalO_val hf hy
  have hexec : ∀ (v : Value) (w' : World), (Builtin.append_ ts o.type #[a.eval x, a.eval y]).run P w = .ok v w' → (execOp a.eval o).run P w = .ok (.value v) w' := by
    intro v w' hrun
    simp only [execOp, ho, resolve, invoke, builtin, Sem.run_bind, Sem.run_pure, Result.andThen_ok, List.map_toArray, List.map_cons, List.map_nil, hrun]
  unfold appendO at happ
  split at happ
  · rename_i t xt htl
    have hts : ts = #[t, xt] := by apply Array.ext'; simpa using htl
    subst hts
    split at happ
    · rename_i e he
      split at happ
      · cases happ
      · rename_i hkind
        have hkind : appKind P t xt z = true := by simpa using hkind
        simp only [Option.bind_eq_some_iff] at happ
        obtain ⟨i, hi, zc, ⟨zv, hz, hof⟩, happ⟩ := happ
        split at happ
        · rename_i hcond
          obtain ⟨hzl, hby, hnt⟩ := hcond
          have hnt : zc.isTup = false := by simpa using hnt
          have hzs : zv.cells.size = i.size := by
            have := vals_length (cells_val hnt (ofValue_val (σ := σ) V hof)); simp at this; omega
          simp only [Option.bind_eq_some_iff] at happ
          obtain ⟨⟨cs, m⟩, hcs, happ⟩ := happ
          have hsrc := appCells_src (P := P) hr hcs hkind hzv
          -- nothing is appended
          have none_case : m = 0 → ∀ (b : Option Addr) (n cap : Nat), n ≤ cap → (Builtin.append_ #[t, xt] o.type #[.slice b n cap, a.eval y]).run P w = .ok (.slice b n cap) w := by
            intro hm b n cap hn
            generalize a.eval y = yv at hsrc
            cases hsrc with
            | mem ad c news ht hv hl hc => subst ht; subst hm; exact run_append_none w xt o.type e i he hi b n cap hn (some ad) c
            | none ht hm' c => subst ht; exact run_append_none w xt o.type e i he hi b n cap hn none c
            | str s hu hm' h1 hv => exact run_append_none_string w t xt o.type e i he hu hi b n cap hn s (by omega)
          split at happ
          · -- a nil slice
            have hxe : a.eval x = .slice none 0 0 := by
              simp only [AV.val, CV.val, oneCell, if_true, Option.some.injEq] at hsv; exact hsv.symm
            split at happ
            · rename_i hm
              cases happ
              refine OpOk.val hr (v := .slice none 0 0) rfl (hexec _ _ ?_)
              rw [hxe]
              exact none_case hm none 0 0 (Nat.le_refl _)
            · rename_i hm
              split at happ
              · rename_i hmost
                cases happ
                have hmost : m ≤ 1048576 := hmost
                have hgrew : ∃ v w' news, vals σ V cs = some news ∧ news.length = m * i.size ∧ (Builtin.append_ #[t, xt] o.type #[.slice none 0 0, a.eval y]).run P w = .ok v w' ∧ Grew w w' none e i.size m news v := by
                  generalize a.eval y = yv at hsrc
                  cases hsrc with
                  | mem ad c news ht hv hl hc =>
                    subst ht
                    obtain ⟨v, w', h1, h2⟩ := run_append_grew_nil w xt o.type e i zv he hi hz hzs ad m c news hl hc (by omega) hmost hby
                    exact ⟨v, w', news, hv, hl, h1, h2⟩
                  | none ht hm' c => exact (hm hm').elim
                  | str s hu hm' h1 hv =>
                    subst hm'
                    obtain ⟨v, w', g1, g2⟩ := run_append_grew_nil_string w t xt o.type e i zv he hu hi hz hzs h1 s (by omega) hmost hby
                    exact ⟨v, w', _, hv, by rw [strCells_length, h1, Nat.mul_one], g1, g2⟩
                obtain ⟨v, w', news, hv, hl, hrun, g, cap, cur, rfl, hg, hgb, hh, hnc, hcm, hsz, htk⟩ := hgrew
                intro K Q hk
                have hg' : g = w.heap.size := by simpa using hg
                have hr' := hr.grown hgb (by simp) hv (by rw [hg']; exact hr.le) (.inr (by omega)) hh hcm hsz (by rw [hl]; exact htk)
                refine wp_val (hexec _ _ (by rw [hxe]; exact hrun)) (hk _ _ _ (Ext.snoc _ _) hr' ?_)
                intro q hq
                cases hq
                simp [AV.val, CV.val, ← hr.len, hnc]
              · cases happ
          · rename_i b off n cap
            have hxv : ∃ p c, V[b]? = some p ∧ a.eval x = .slice (some ⟨p.1, off, none⟩) n c ∧ n ≤ c ∧ (cap = none → c = p.2) ∧ (∀ q, cap = some q → c = q) := by
              simp only [AV.val] at hsv
              cases cap with
              | none =>
                simp only [CV.val, Option.bind_eq_some_iff] at hsv
                obtain ⟨p, hp, hv⟩ := hsv
                split at hv
                · rename_i hn
                  simp only [Option.some.injEq] at hv
                  exact ⟨p, p.2, hp, hv.symm, hn, (fun _ => rfl), (fun q hq => by cases hq)⟩
                · cases hv
              | some c =>
                simp only [CV.val] at hsv
                split at hsv
                · rename_i hn
                  simp only [Option.map_eq_some_iff] at hsv
                  obtain ⟨p, hp, hv⟩ := hsv
                  exact ⟨p, c, hp, hv.symm, hn, (fun hq => by cases hq), (fun q hq => by cases hq; rfl)⟩
                · cases hsv
            obtain ⟨p, c, hp, hxe, hnc, hc1, hc2⟩ := hxv
            split at happ
            · rename_i hm
              cases happ
              refine OpOk.val hr hsv (hexec _ _ ?_)
              rw [hxe]
              exact none_case hm _ _ _ hnc
            · rename_i hm
              simp only [Option.bind_eq_some_iff] at happ
              obtain ⟨k, hb, happ⟩ := happ
              split at happ
              · rename_i hc
                obtain ⟨hke, hoff, hnk, hmost, hpos, hrow⟩ := hc
                cases happ
                subst hoff
                have hmost : n + m ≤ 1048576 := hmost
                obtain ⟨q, cur, h1, h2, h3, h4, ⟨vs, h5, h6⟩, h7⟩ := hr.blk b k hb
                rw [hp] at h1; cases h1
                have hvl := vals_length h5
                have hcur : cur.size = c * i.size ∧ c ≤ maxLen := by
                  rcases hrow with ⟨hr1, hr2⟩ | ⟨hr1, hr2, hr3, hr4⟩
                  · rw [hr1] at h7; rw [hc1 hr2]; exact ⟨h7, h3⟩
                  · rw [hr1] at h7
                    have hcq := hc2 _ hr2
                    have hdv : k.xs.length / i.size * i.size = k.xs.length := Nat.div_mul_cancel (Nat.dvd_of_mod_eq_zero hr3)
                    refine ⟨by rw [h7, hcq, hdv], ?_⟩
                    rw [hcq]
                    exact Nat.le_trans (Nat.div_le_self _ _) (Nat.le_trans hr4 (by decide))
                rw [hke] at h4
                have hxs := vals_take (n * i.size) h5
                have hxl : (vs.take (n * i.size)).length = n * i.size := by simp; omega
                have htake : cur.toList.take (n * i.size) = vs.take (n * i.size) := by rw [← h6, List.take_take]; congr 1; omega
                have hgrew : ∃ v w' news, vals σ V cs = some news ∧ news.length = m * i.size ∧ (Builtin.append_ #[t, xt] o.type #[.slice (some ⟨p.1, 0, none⟩) n c, a.eval y]).run P w = .ok v w' ∧ Grew w w' (some p.1) e i.size (n + m) (vs.take (n * i.size) ++ news) v := by
                  generalize a.eval y = yv at hsrc
                  cases hsrc with
                  | mem ad c' news ht hv hl hcc =>
                    subst ht
                    obtain ⟨v, w', g1, g2⟩ := run_append_grew w xt o.type e i zv he hi hz hzs p.1 n c cur _ h4 hcur.1 hcur.2 hxl htake ad m c' news hl hcc (vals_one hv) hmost hby
                    exact ⟨v, w', news, hv, hl, g1, g2⟩
                  | none ht hm' c => exact (hm hm').elim
                  | str s hu hm' hs1 hv =>
                    subst hm'
                    obtain ⟨v, w', g1, g2⟩ := run_append_grew_string w t xt o.type e i zv he hu hi hz hzs hs1 p.1 n c cur _ h4 hcur.1 hcur.2 hxl htake s hmost hby
                    exact ⟨v, w', _, hv, by rw [strCells_length, hs1, Nat.mul_one], g1, g2⟩
                obtain ⟨v, w', news, hv, hl, hrun, g, cap', cur', rfl, hg, hgb, hh, hnc', hcm', hsz', htk'⟩ := hgrew
                intro K Q hk
                have hB := hr.le
                have hr' := (hr.kill b).grown hgb (fun r hr0 => by
                    cases hr0
                    refine ⟨h2, fun b' k' p' hb' hp' he' => ?_⟩
                    rcases T.get_set _ _ _ _ _ _ hb' with ⟨_, hk'⟩ | ⟨hne, hk'⟩
                    · cases hk'
                    · exact hne (hr.inj b' b k' k p' p hk' hb hp' hp he')) (vals_append hxs hv)
                    (by rcases hg with hg | hg
                        · cases hg; exact h2
                        · omega) (by rcases hg with hg | hg
                                     · exact .inl hg
                                     · exact .inr (by omega)) hh hcm' hsz' (by rw [List.length_append, hxl, hl, ← Nat.add_mul]; exact htk')
                refine wp_val (hexec _ _ (by rw [hxe]; exact hrun)) (hk _ _ _ (Ext.snoc _ _) hr' ?_)
                intro q hq
                cases hq
                simp [AV.val, CV.val, ← hr.len, hnc']
              · cases happ
          · cases happ
        · cases happ
    · cases happ
  · cases happ

end
end Go.CX
