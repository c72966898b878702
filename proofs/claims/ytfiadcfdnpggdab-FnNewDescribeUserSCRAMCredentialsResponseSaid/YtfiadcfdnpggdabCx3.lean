/- Single operations of the executor are what the model's operations do. -/
import Derived.Test.YtfiadcfdnpggdabCx2
import Derived.Laws.MakeOwn
import Derived.Laws.BytesString
import Derived.Laws.CopyRow
import Derived.Lib.AppendStr
namespace Go.CX
open Go.RowKit (Below)

section
variable {σ : Nat → Value} {P : Program} {B : Nat} {w0 : World} {V : Vn} {nt : Nat} {h h' : Heap} {w : World} {fr : T AV} {a : Act} {o : Oper}
variable {K : Act → World → Prop} {Q : Exit → Act → World → Prop}

theorem wp_val {v : Value} {w' : World} (hr : (execOp a.eval o).run P w = .ok (.value v) w') (hk : K (a.put o.dst v) w') : o.wp P a w K Q := by
  unfold Oper.wp; rw [hr]; exact hk
theorem wp_skp {w' : World} (hr : (execOp a.eval o).run P w = .ok .skip w') (hk : K (a.put o.dst undef) w') : o.wp P a w K Q := by
  unfold Oper.wp; rw [hr]; exact hk

/-- What an operation of the executor promises. -/
def OpOk (σ : Nat → Value) (P : Program) (B : Nat) (w0 : World) (V : Vn) (h' : Heap) (a : Act) (w : World) (o : Oper) (x : Option AV) : Prop :=
  ∀ (K : Act → World → Prop) (Q : Exit → Act → World → Prop),
    (∀ V' v w', Ext V V' → HRel σ B w0 V' h' w' → (∀ y, x = some y → y.val σ V' = some v) → K (a.put o.dst v) w') → o.wp P a w K Q

theorem OpOk.val {x : AV} {v : Value} (hr : HRel σ B w0 V h w) (hv : x.val σ V = some v) (hrun : (execOp a.eval o).run P w = .ok (.value v) w) : OpOk σ P B w0 V h a w o (some x) :=
  fun _ _ hk => wp_val hrun (hk V v w (Ext.refl V) hr fun y hy => by cases hy; exact hv)

theorem eval_lit {x : Operand} {v : Value} (hf : FRel σ V nt fr a) (hx : evalO fr x = some (.c (.lit v))) : a.eval x = v := by
  have := evalO_val hf hx
  simp only [AV.val, CV.val] at this
  split at this <;> simp_all

theorem eval_ptr {x : Operand} {b off : Nat} (hf : FRel σ V nt fr a) (hx : evalO fr x = some (.c (.ptr b off))) : ∃ p, V[b]? = some p ∧ a.eval x = .pointer (some ⟨p.1, off, none⟩) := by
  have := evalO_val hf hx
  simp only [AV.val, CV.val, Option.map_eq_some_iff] at this
  obtain ⟨p, hp, e⟩ := this
  exact ⟨p, hp, e.symm⟩

theorem add_lit' (b off n : Nat) : (⟨b, off, none⟩ : Addr).add n = ⟨b, off + n, none⟩ := by unfold Addr.add; split <;> simp_all

/-- The cells of a block, as the world has them. -/
theorem HRel.cells (hr : HRel σ B w0 V h w) {b : Nat} {k : Blk} (hb : h.get b = some k) {p : Nat × Nat} (hp : V[b]? = some p) :
    ∃ vs, vals σ V k.xs = some vs ∧ ∀ j v, vs[j]? = some v → w.cell? ⟨p.1, j, none⟩ = some v := by
  obtain ⟨q, cur, h1, h2, h3, h4, ⟨vs, h5, h6⟩, h7⟩ := hr.blk b k hb
  rw [hp] at h1; cases h1
  refine ⟨vs, h5, fun j v hj => ?_⟩
  simp only [World.cell?, h4]
  rw [← h6] at hj
  rw [List.getElem?_take] at hj
  split at hj
  · simpa using hj
  · cases hj

theorem run_isAgg {t : TypeId} {g : Bool} (hg : isAggT P t = some g) (w : World) : (isAgg t).run P w = .ok g w := by
  unfold isAggT at hg
  unfold isAgg
  split at hg
  all_goals first
    | (cases hg; rename_i hd; rw [Sem.run_bind, run_underlying hd w]; simp; done)
    | (cases hg; rename_i d hd h1; rw [Sem.run_bind, run_underlying h1 w]; cases d <;> simp_all; done)
    | cases hg

theorem run_sizeOf' {t : TypeId} {n : Nat} (hn : sizeOfT P t = some n) (w : World) : (sizeOf t).run P w = .ok n w := by
  unfold sizeOfT at hn
  simp only [Option.map_eq_some_iff] at hn
  obtain ⟨i, hi, rfl⟩ := hn
  simp [sizeOf, typeInfo, hi]

theorem run_part {t : TypeId} {cs : List CV} {vs : List Value} {off : Nat} {x : AV} (hx : partT P t cs off = some x) (hv : vals σ V cs = some vs) :
    ∃ v, x.val σ V = some v ∧ (part t vs.toArray off).run P w = .ok v w := by
  unfold partT at hx
  simp only [Option.bind_eq_some_iff] at hx
  obtain ⟨g, hg, hx⟩ := hx
  cases g with
  | true =>
    simp only [if_true, Option.bind_eq_some_iff] at hx
    obtain ⟨n, hn, hx⟩ := hx
    split at hx
    · rename_i hle
      cases hx
      refine ⟨.agg ((vs.drop off).take n).toArray, by simp [AV.val, vals_take n (vals_drop off hv)], ?_⟩
      simp only [part, Sem.run_bind, run_isAgg hg, Result.andThen_ok, if_true, run_sizeOf' hn]
      simp [List.extract_toArray, List.extract_eq_take_drop]
    · cases hx
  | false =>
    simp only [Bool.false_eq_true, if_false, Option.map_eq_some_iff] at hx
    obtain ⟨y, hy, rfl⟩ := hx
    obtain ⟨v, h1, h2⟩ := vals_get hv hy
    refine ⟨v, h2, ?_⟩
    simp [part, run_isAgg hg, h1]

theorem run_loadVar {t : TypeId} {b off : Nat} {k : Blk} {x : AV} (hr : HRel σ B w0 V h w) (hb : h.get b = some k) (hx : partT P t k.xs off = some x) {p : Nat × Nat} (hp : V[b]? = some p) :
    ∃ v, x.val σ V = some v ∧ (loadVar t ⟨p.1, off, none⟩).run P w = .ok v w := by
  obtain ⟨vs, hv, hc⟩ := hr.cells hb hp
  unfold partT at hx
  simp only [Option.bind_eq_some_iff] at hx
  obtain ⟨g, hg, hx⟩ := hx
  cases g with
  | true =>
    simp only [if_true, Option.bind_eq_some_iff] at hx
    obtain ⟨n, hn, hx⟩ := hx
    split at hx
    · rename_i hle
      cases hx
      refine ⟨.agg ((vs.drop off).take n).toArray, by simp [AV.val, vals_take n (vals_drop off hv)], ?_⟩
      have hl := vals_length hv
      have hlen : ((vs.drop off).take n).length = n := by simp; omega
      have hload := run_loadCells_list (P := P) w ⟨p.1, off, none⟩ ((vs.drop off).take n) (fun j v hj => by
        rw [add_lit']
        refine hc _ _ ?_
        rw [List.getElem?_take] at hj
        split at hj
        · simpa [List.getElem?_drop] using hj
        · cases hj)
      rw [hlen] at hload
      simp only [loadVar, Sem.run_bind, run_isAgg hg, Result.andThen_ok, if_true, run_sizeOf' hn, hload]
      rfl
    · cases hx
  | false =>
    simp only [Bool.false_eq_true, if_false, Option.map_eq_some_iff] at hx
    obtain ⟨y, hy, rfl⟩ := hx
    obtain ⟨v, h1, h2⟩ := vals_get hv hy
    refine ⟨v, h2, ?_⟩
    simp [loadVar, run_isAgg hg, hc _ _ h1]

theorem splice_val {xs ys cs : List CV} {off : Nat} {vs us : List Value} (hs : splice xs off cs = some ys) (hv : vals σ V xs = some vs) (hu : vals σ V cs = some us) :
    off + us.length ≤ vs.length ∧ ys.length = xs.length ∧ vals σ V ys = some (vs.take off ++ us ++ vs.drop (off + us.length)) := by
  unfold splice at hs
  split at hs
  · rename_i hle
    cases hs
    have h1 := vals_length hv
    have h2 := vals_length hu
    refine ⟨by omega, by simp; omega, ?_⟩
    rw [h2]
    exact vals_append (vals_append (vals_take off hv) hu) (vals_drop _ hv)
  · cases hs

theorem splice_take {α : Type} (l cs : List α) (off m : Nat) (h : off + cs.length ≤ m) (hm : m ≤ l.length) :
    (l.take off ++ cs ++ l.drop (off + cs.length)).take m = (l.take m).take off ++ cs ++ (l.take m).drop (off + cs.length) := by
  apply List.ext_getElem?
  intro i
  simp only [List.getElem?_append, List.getElem?_take, List.getElem?_drop, List.length_append, List.length_take]
  have h1 : min off l.length = off := by omega
  have h2 : min off (min m l.length) = off := by omega
  simp only [h1, h2]
  by_cases c1 : i < off
  · simp [c1, show i < m by omega, show i < off + cs.length by omega]
  · by_cases c2 : i < off + cs.length
    · simp [c1, c2, show i < m by omega]
    · by_cases c3 : i < m
      · simp [c2, c3, show off + cs.length + (i - (off + cs.length)) = i by omega]
      · simp [c2, c3, show ¬ (off + cs.length + (i - (off + cs.length)) < m) by omega]

theorem fold_splice_from : ∀ (us : List Value) (j off : Nat) (vs : List Value), off + j + us.length ≤ vs.length →
    ((us.zipIdx j).foldl (fun (cs : Array Value) (x : Value × Nat) => cs.setIfInBounds (off + x.2) x.1) vs.toArray) = (vs.take (off + j) ++ us ++ vs.drop (off + j + us.length)).toArray := by
  intro us
  induction us with
  | nil => intro j off vs h; simp
  | cons u r ih =>
    intro j off vs h
    simp only [List.zipIdx_cons, List.foldl_cons, List.setIfInBounds_toArray]
    rw [ih (j + 1) off (vs.set (off + j) u) (by simp at h ⊢; omega)]
    congr 1
    have e := list_seg_step vs (off + j) u r (by simp at h ⊢; omega)
    simpa [Nat.add_assoc] using e

theorem fold_splice (us : List Value) (off : Nat) (vs : List Value) (h : off + us.length ≤ vs.length) :
    ((us.toArray.zipIdx).foldl (fun (cs : Array Value) (x : Value × Nat) => cs.setIfInBounds (off + x.2) x.1) vs.toArray) = (vs.take off ++ us ++ vs.drop (off + us.length)).toArray := by
  have := fold_splice_from us 0 off vs (by simpa using h)
  simpa using this

theorem run_storeVar {t : TypeId} {b off : Nat} {k : Blk} {x : AV} {v : Value} {ys : List CV} (hr : HRel σ B w0 V h w) (hb : h.get b = some k) (ht : x.isTup = false) (hn : sizeOfT P t = some x.cells.length)
    (hx : x.val σ V = some v) (hs : splice k.xs off x.cells = some ys) {p : Nat × Nat} (hp : V[b]? = some p) :
    ∃ w', (storeVar t ⟨p.1, off, none⟩ v).run P w = .ok () w' ∧ HRel σ B w0 V (h.put b (some { k with xs := ys })) w' := by
  obtain ⟨q, cur, h1, h2, h3, h4, ⟨vs, h5, h6⟩, h7⟩ := hr.blk b k hb
  rw [hp] at h1; cases h1
  have hc := cells_val ht hx
  have hcl := vals_length hc
  obtain ⟨hle, hlen, hys⟩ := splice_val hs h5 hc
  have hvl := vals_length h5
  have hcur : vs.length ≤ cur.size := by
    have := congrArg List.length h6
    simp at this; omega
  have hone : ∀ u ∈ v.cells.toList, u.oneCell' = true := vals_one hc
  have hst := run_storeCells_at P p.1 off k.e v.cells.toList 0 cur w h4 (by simp at hle hcl ⊢; omega) hone
  have hsz : v.cells.size = x.cells.length := by simpa using hcl
  simp only [Nat.add_zero] at hst
  refine ⟨_, (?_ : (storeVar t ⟨p.1, off, none⟩ v).run P w = .ok () (w.setRow p.1 (cur.toList.take off ++ v.cells.toList ++ cur.toList.drop (off + v.cells.toList.length)).toArray)), ?_⟩
  · simp only [storeVar, Sem.run_bind, run_sizeOf' hn, Result.andThen_ok, hsz, ne_eq, not_true, if_false]
    exact hst
  · have htk : cur.toList.take vs.length = vs := h6
    refine hr.setRow hb hp ys _ _ hys ?_ ?_
    · have := splice_take cur.toList v.cells.toList off vs.length (by simpa using hle) (by simpa using hcur)
      rw [htk] at this
      rw [List.toList_toArray, show (vs.take off ++ v.cells.toList ++ vs.drop (off + v.cells.toList.length)).length = vs.length from by simp at hle ⊢; omega]
      simpa using this
    · revert h7
      cases k.row with
      | none => intro h7; simp at hle hcl ⊢; omega
      | some s => intro h7; simp at hle hcl h7 ⊢; omega

/-- Cells of a row read one by one. -/
theorem HRel.rowCells (hr : HRel σ B w0 V h w) {b : Nat} {k : Blk} (hb : h.get b = some k) {p : Nat × Nat} (hp : V[b]? = some p) {off n : Nat} (hle : off + n ≤ k.xs.length) :
    ∃ vs, vals σ V ((k.xs.drop off).take n) = some vs ∧ vs.length = n ∧ ∀ j v, vs[j]? = some v → w.cell? ((⟨p.1, off, none⟩ : Addr).add j) = some v := by
  obtain ⟨vs, hv, hc⟩ := hr.cells hb hp
  have hl := vals_length hv
  refine ⟨_, vals_take n (vals_drop off hv), by simp; omega, fun j v hj => ?_⟩
  rw [add_lit']
  refine hc _ _ ?_
  rw [List.getElem?_take] at hj
  split at hj
  · simpa [List.getElem?_drop] using hj
  · cases hj



/-- 'fill' is the model's. -/
theorem fillL_fill {place : Nat → Option (Nat × Nat)} : ∀ {parts : List (Nat × AV)} {us : List Value} {cells out : List CV} {vs : List Value},
    fillL place cells parts = some out → avals σ V (parts.map (·.2)) = some us → vals σ V cells = some vs →
    ∃ ws, vals σ V out = some ws ∧ Instr.fill place vs.toArray ((parts.map (·.1)).zip us) = some ws.toArray := by
  intro parts
  induction parts with
  | nil =>
    intro us cells out vs hf hu hv
    simp [fillL] at hf; simp [avals] at hu; subst hf; subst hu
    exact ⟨vs, hv, by simp [Instr.fill]⟩
  | cons x r ih =>
    intro us cells out vs hf hu hv
    obtain ⟨i, x⟩ := x
    simp only [List.map_cons, avals, Option.bind_eq_some_iff, Option.map_eq_some_iff] at hu
    obtain ⟨u, hxu, us, hus, rfl⟩ := hu
    simp only [fillL] at hf
    split at hf
    · cases hf
    · rename_i hnt
      have hnt : x.isTup = false := by simpa using hnt
      simp only [Option.bind_eq_some_iff] at hf
      obtain ⟨⟨off, size⟩, hpl, hf⟩ := hf
      split at hf
      · rename_i hsz
        simp only [Option.bind_eq_some_iff] at hf
        obtain ⟨cs, hsp, hf⟩ := hf
        have hc := cells_val hnt hxu
        have hcl := vals_length hc
        obtain ⟨hle, hlen, hys⟩ := splice_val hsp hv hc
        obtain ⟨ws, h1, h2⟩ := ih hf hus hys
        refine ⟨ws, h1, ?_⟩
        have hsz' : u.cells.size = size := by simp at hcl hsz; omega
        have hle' : off + u.cells.size ≤ vs.length := by simpa using hle
        simp only [List.map_cons, List.zip_cons_cons, Instr.fill, hpl, hsz']
        rw [if_neg (by simp; omega)]
        rw [fold_splice u.cells.toList off vs hle']
        simpa using h2
      · cases hf

end
end Go.CX
