/- Each operation of the executor is what the model's operation does: allocations, builds, rows, appends, calls. -/
import Derived.Test.YtfiadcfdnpggdaaCx3
namespace Go.CX
open Go.RowKit (Below)

section
variable {σ : Nat → Value} {P : Program} {B : Nat} {w0 : World} {V : Vn} {nt : Nat} {h h' : Heap} {w : World} {fr : T AV} {a : Act} {o : Oper} {t : TypeId} {x y : Operand} {parts : Array (Nat × Operand)} {len : Nat}

theorem HRel.le (hr : HRel σ B w0 V h w) : B ≤ w.heap.size := Nat.le_trans hr.base hr.below.size

/-- A new block's pointer. -/
theorem new_ptr (hr : HRel σ B w0 V h w) (x : Nat × Nat) : (CV.ptr h.n 0).val σ (V ++ [x]) = some (.pointer (some ⟨x.1, 0, none⟩)) := by
  simp [CV.val, ← hr.len]

theorem op_new (hr : HRel σ B w0 V h w) {e : TypeId} {z : AV} {v : Value} (ht : z.isTup = false) (hz : z.val σ V = some v)
    (hrun : (execOp a.eval o).run P w = .ok (.value (.pointer (some ⟨w.heap.size, 0, none⟩))) (w.alloc (.cells v.cells e))) :
    OpOk σ P B w0 V (h.new { e := e, xs := z.cells, row := none }) a w o (some (.c (.ptr h.n 0))) := by
  intro K Q hk
  have hc := cells_val ht hz
  refine wp_val hrun (hk (V ++ [(w.heap.size, 0)]) _ _ (Ext.snoc _ _) ?_ ?_)
  · have := hr.alloc e z.cells _ hc
    simpa using this
  · intro y hy
    cases hy
    exact new_ptr hr _

theorem zeroOf_spec {t : TypeId} {z : AV} (hz : zeroOf P t = some z) : ∃ i v, P.info? t = some i ∧ i.zero = some v ∧ ofValue v = some z := by
  unfold zeroOf at hz
  simp only [Option.bind_eq_some_iff] at hz
  obtain ⟨v, ⟨i, hi, hv⟩, ho⟩ := hz
  exact ⟨i, v, hi, hv, ho⟩

theorem op_alloc (ho : o.op = .alloc t) (hr : HRel σ B w0 V h w) {z : AV} (hz : zeroOf P t = some z) (ht : z.isTup = false) :
    OpOk σ P B w0 V (h.new { e := t, xs := z.cells, row := none }) a w o (some (.c (.ptr h.n 0))) := by
  obtain ⟨i, v, hi, hv, hof⟩ := zeroOf_spec hz
  refine op_new hr ht (ofValue_val V hof) ?_
  simp [execOp, ho, Instr.alloc, zeroValue, typeInfo, hi, hv, newVar, newRow]

theorem op_box (ho : o.op = .box t x) (hr : HRel σ B w0 V h w) (hf : FRel σ V nt fr a) {z : AV} (hz : evalO fr x = some z) (ht : z.isTup = false) :
    OpOk σ P B w0 V (h.new { e := t, xs := z.cells, row := none }) a w o (some (.c (.ptr h.n 0))) := by
  refine op_new hr ht (evalO_val hf hz) ?_
  simp [execOp, ho, Instr.box, newVar, newRow]

theorem run_places {fs : List Go.Field} {pl : List (Nat × Nat)} (hp : placesOf P fs = some pl) (w : World) :
    (fs.mapM fun (f : Go.Field) => (do pure (f.offset, ← sizeOf f.type) : Sem (Nat × Nat))).run P w = .ok pl w := by
  induction fs generalizing pl with
  | nil => simp [placesOf] at hp; subst hp; rfl
  | cons f r ih =>
    simp only [placesOf, List.mapM_cons, Option.pure_def, Option.bind_eq_bind, Option.bind_eq_some_iff, Option.map_eq_some_iff, Option.some.injEq] at hp
    obtain ⟨q, ⟨n, hn, rfl⟩, ps, hps, rfl⟩ := hp
    have := ih hps
    simp only [List.mapM_cons, Sem.run_bind, run_sizeOf' hn, Result.andThen_ok, Sem.run_pure, this]

theorem parts_zip (parts : Array (Nat × Operand)) (f : Operand → Value) :
    ((parts.map fun (i, x) => (i, f x)).toList) = (parts.toList.map (·.1)).zip ((parts.toList.map (·.2)).map f) := by
  simp only [Array.toList_map]
  induction parts.toList with
  | nil => rfl
  | cons x r ih => simpa using ih

theorem zip_fst {α β : Type} : ∀ (l : List α) (m : List β), l.length = m.length → (l.zip m).map (·.1) = l ∧ (l.zip m).map (·.2) = m := by
  intro l
  induction l with
  | nil => intro m hm; cases m <;> simp_all
  | cons x r ih => intro m hm; cases m with
    | nil => simp at hm
    | cons y s => simpa using ih s (by simpa using hm)

theorem evalOs_length : ∀ {xs : List Operand} {ys : List AV}, evalOs fr xs = some ys → ys.length = xs.length := by
  intro xs
  induction xs with
  | nil => intro ys hy; simp [evalOs] at hy; subst hy; rfl
  | cons x r ih =>
    intro ys hy
    simp only [evalOs, Option.bind_eq_some_iff, Option.map_eq_some_iff] at hy
    obtain ⟨y, _, zs, h2, rfl⟩ := hy
    simp [ih h2]

theorem fill_run {place : Nat → Option (Nat × Nat)} (hf : FRel σ V nt fr a) {parts : Array (Nat × Operand)} {vs : List AV} (hv : evalOs fr (parts.toList.map (·.2)) = some vs)
    {cells out : List CV} {us : List Value} (hfill : fillL place cells ((parts.toList.map (·.1)).zip vs) = some out) (hc : vals σ V cells = some us) :
    ∃ ws, vals σ V out = some ws ∧ Instr.fill place us.toArray ((parts.map fun (i, x) => (i, a.eval x)).toList) = some ws.toArray := by
  have hl := evalOs_length hv
  have hz := zip_fst (parts.toList.map (·.1)) vs (by simpa using hl.symm)
  have := fillL_fill hfill (by rw [hz.2]; exact evalOs_val hf hv) hc
  rw [hz.1] at this
  rw [parts_zip]
  exact this

theorem op_build_struct (ho : o.op = .build t parts) (hr : HRel σ B w0 V h w) (hf : FRel σ V nt fr a) {vs : List AV} (hv : evalOs fr (parts.toList.map (·.2)) = some vs)
    {z : AV} (hz : zeroOf P t = some z) (ht : z.isTup = false) {fs : Array Go.Field} (hu : P.underlying t = some (.struct fs)) {pl : List (Nat × Nat)} (hp : placesOf P fs.toList = some pl)
    {cs : List CV} (hfill : fillL (pl[·]?) z.cells ((parts.toList.map (·.1)).zip vs) = some cs) : OpOk σ P B w0 V h a w o (some (.agg cs)) := by
  obtain ⟨i, v, hi, hvz, hof⟩ := zeroOf_spec hz
  obtain ⟨ws, h1, h2⟩ := fill_run hf hv hfill (cells_val ht (ofValue_val V hof))
  refine OpOk.val hr (v := .agg ws.toArray) (by simp [AV.val, h1]) ?_
  have hp' := run_places hp w
  simp only [Array.toArray_toList] at h2
  simp only [execOp, ho, Instr.build, Sem.run_bind, zeroValue, typeInfo, run_program, Result.andThen_ok, hi, Sem.run_pure, hvz, run_underlying hu]
  rw [Array.mapM_eq_mapM_toList]
  simp only [Sem.run_map, hp', Result.andThen_ok]
  have e : (fun (x : Nat) => pl.toArray[x]?) = (fun (x : Nat) => pl[x]?) := by funext x; simp
  simp only [e, h2]
  rfl

theorem op_build_array (ho : o.op = .build t parts) (hr : HRel σ B w0 V h w) (hf : FRel σ V nt fr a) {vs : List AV} (hv : evalOs fr (parts.toList.map (·.2)) = some vs)
    {z : AV} (hz : zeroOf P t = some z) (ht : z.isTup = false) {m : Nat} {e : TypeId} (hu : P.underlying t = some (.array m e)) {n : Nat} (hn : sizeOfT P e = some n)
    {cs : List CV} (hfill : fillL (fun i => some (i * n, n)) z.cells ((parts.toList.map (·.1)).zip vs) = some cs) : OpOk σ P B w0 V h a w o (some (.agg cs)) := by
  obtain ⟨i, v, hi, hvz, hof⟩ := zeroOf_spec hz
  obtain ⟨ws, h1, h2⟩ := fill_run hf hv hfill (cells_val ht (ofValue_val V hof))
  refine OpOk.val hr (v := .agg ws.toArray) (by simp [AV.val, h1]) ?_
  simp only [Array.toArray_toList] at h2
  simp only [execOp, ho, Instr.build, Sem.run_bind, zeroValue, typeInfo, run_program, Result.andThen_ok, hi, Sem.run_pure, hvz, run_underlying hu, run_sizeOf' hn, h2]

theorem range_rep (n s : Nat) (z : Array Value) (hz : z.size = s) : ((Array.range (n * s)).map (z[· % z.size]!)).toList = (List.replicate n z.toList).flatten := by
  subst hz
  simp only [Array.toList_map, Array.toList_range]
  induction n with
  | zero => simp
  | succ n ih =>
    rw [List.replicate_succ, List.flatten_cons, ← ih, Nat.succ_mul, Nat.add_comm (n * z.size) z.size, List.range_add, List.map_append, List.map_map]
    congr 1
    · apply List.ext_getElem
      · simp
      · intro i h1 h2
        simp at h1
        simp [Nat.mod_eq_of_lt h1, h1]
    · apply List.map_congr_left
      intro j _
      simp

theorem op_buildSlice (ho : o.op = .buildSlice t len parts) (hr : HRel σ B w0 V h w) (hf : FRel σ V nt fr a) {vs : List AV} (hv : evalOs fr (parts.toList.map (·.2)) = some vs)
    {e : TypeId} (hu : P.underlying t = some (.slice e)) {i : TypeInfo} (hi : P.info? e = some i) {zv : Value} {z : AV} (hz : i.zero = some zv) (hof : ofValue zv = some z)
    (ht : z.isTup = false) (hsz : z.cells.length = i.size) (hle : len * i.size ≤ 65536)
    {cs : List CV} (hfill : fillL (fun j => some (j * i.size, i.size)) (rep len z.cells) ((parts.toList.map (·.1)).zip vs) = some cs) :
    OpOk σ P B w0 V (h.new { e := e, xs := cs, row := none }) a w o (some (.c (.sl h.n 0 len (some len)))) := by
  have hcz := cells_val ht (ofValue_val (σ := σ) V hof)
  have hzl : zv.cells.size = i.size := by have := vals_length hcz; simp at this; omega
  obtain ⟨ws, h1, h2⟩ := fill_run hf hv hfill (vals_flat hcz len)
  have hrg := range_rep len i.size zv.cells hzl
  intro K Q hk
  have hr' := hr.alloc e cs ws h1
  refine wp_val (v := .slice (some ⟨w.heap.size, 0, none⟩) len len) (w' := w.alloc (.cells ws.toArray e)) ?_ (hk (V ++ [(w.heap.size, 0)]) _ _ (Ext.snoc _ _) hr' ?_)
  · rw [← hrg] at h2
    simp only [Array.toArray_toList] at h2
    simp only [execOp, ho, Instr.buildSlice, Sem.run_bind, run_underlying hu, Result.andThen_ok, sizeOf, typeInfo, run_program, hi, Sem.run_pure]
    rw [if_neg (by omega)]
    by_cases h0 : len * i.size = 0
    · rw [h0] at h2
      simp only [Array.range_zero', List.map_toArray, List.map_nil, Array.toList_map] at h2
      simp [h0, Array.range_zero', h2, newRow]
    · simp only [Array.toList_map] at h2
      simp [h0, zeroValue, typeInfo, hi, hz, h2, newRow]
  · intro y hy
    cases hy
    simp [AV.val, CV.val, ← hr.len]

theorem op_load (ho : o.op = .load t x) (hr : HRel σ B w0 V h w) (hf : FRel σ V nt fr a) {p y : AV} (hp : evalO fr x = some p) (hl : loadT P h t p = some y) :
    OpOk σ P B w0 V h a w o (some y) := by
  unfold loadT at hl
  split at hl
  · rename_i b off
    simp only [Option.bind_eq_some_iff] at hl
    obtain ⟨k, hk, hy⟩ := hl
    obtain ⟨q, hq, he⟩ := eval_ptr hf hp
    obtain ⟨v, hv, hrun⟩ := run_loadVar hr hk hy hq
    refine OpOk.val hr hv ?_
    simp only [execOp, ho, he, Instr.loadAt, Instr.sureAddr, Sem.run_bind, Sem.run_pure, Result.andThen_ok, hrun]
  · cases hl

theorem op_store (ho : o.op = .store t x y) (hr : HRel σ B w0 V h w) (hf : FRel σ V nt fr a) {p z : AV} (hp : evalO fr x = some p) (hy : evalO fr y = some z) (hs : storeT P h t p z = some h') :
    OpOk σ P B w0 V h' a w o none := by
  unfold storeT at hs
  split at hs
  · cases hs
  · rename_i hnt
    have hnt : z.isTup = false := by simpa using hnt
    split at hs
    · rename_i b off
      simp only [Option.bind_eq_some_iff] at hs
      obtain ⟨n, hn, hs⟩ := hs
      split at hs
      · rename_i hlen
        simp only [Option.bind_eq_some_iff, Option.map_eq_some_iff] at hs
        obtain ⟨k, hk, ys, hys, rfl⟩ := hs
        obtain ⟨q, hq, he⟩ := eval_ptr hf hp
        obtain ⟨w', hrun, hr'⟩ := run_storeVar hr hk hnt (by rw [hlen]; exact hn) (evalO_val hf hy) hys hq
        intro K Q hkk
        refine wp_skp (w' := w') ?_ (hkk V undef w' (Ext.refl V) hr' (fun y hy => by cases hy))
        simp only [execOp, ho, he, Instr.storeAt, Instr.sureAddr, Sem.run_bind, Sem.run_pure, Result.andThen_ok, hrun]
      · cases hs
    · cases hs

end
end Go.CX
