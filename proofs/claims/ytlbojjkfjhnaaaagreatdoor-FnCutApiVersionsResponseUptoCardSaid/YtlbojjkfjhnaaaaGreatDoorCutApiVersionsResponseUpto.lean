/- The law FnCutApiVersionsResponse: what the reference writes of a tree as a message, if it ends anywhere ahead of its end, is not read. It holds for every number (an octet), place and tree, where what comes in is of bulk at most 1048576 (the second form); no further condition. -/
import Derived.Test.YtlbojjkfjhnaaaaGreatDoorSg
import Derived.Test.YtlbojjkfjhnaaaaGreatDoorSc
import Derived.Test.YtlbojjkfjhnaaaaGreatDoorCards
import Derived.Test.YtlbojjkfjhnaaaaGreatDoorTie
import Derived.WalkKit
import Derived.ProofKit
import Derived.OpenShut
import Derived.Carry
import Derived.LaidMore
import Derived.Stop.LaidErr
import Derived.SevenTiedAt
import Derived.Deep.DeepHandedRow
import Derived.Deep.DeepWitnessRowRef
import Derived.Stop.Joined
namespace Go.Proofs.YtlbojjkfjhnaaaaGreatDoor.fnCutApiVersionsResponse
open Go Go.ChangeShapes Go.WideShapes Go.ChangeAt Go.RowKit
open Go.Lx Go.Nx Go.Km Go.Mx Go.Kb Go.Mr
set_option linter.unusedVariables false
set_option maxRecDepth 100000

noncomputable abbrev P : Program := Tryz.prog

def s_ApiVersionsResponseApiKey (v : Nat) : Fs := fld (true) 0 (.prim (.i16)) <| fld (true) 1 (.prim (.i16)) <| fld (true) 2 (.prim (.i16)) <| endT (decide (3 ≤ v)) 3
def s_ApiVersionsResponseSupportedFeature (v : Nat) : Fs := fld (true) 0 (.prim (.str (decide (3 ≤ v)))) <| fld (true) 1 (.prim (.i16)) <| fld (true) 2 (.prim (.i16)) <| endT (decide (3 ≤ v)) 3
def s_ApiVersionsResponseFinalizedFeature (v : Nat) : Fs := fld (true) 0 (.prim (.str (decide (3 ≤ v)))) <| fld (true) 1 (.prim (.i16)) <| fld (true) 2 (.prim (.i16)) <| endT (decide (3 ≤ v)) 3
def s_ApiVersionsResponse (v : Nat) : Fs := fld (true) 1 (.prim (.i16)) <| fld (true) 2 (.arr (decide (3 ≤ v)) 4 (.str (s_ApiVersionsResponseApiKey v))) <| fld (decide (1 ≤ v)) 3 (.prim (.i32)) <| .nil
def k_ApiVersionsResponse (v : Nat) : List KU := [⟨0, 4, .arr (decide (3 ≤ v)) 4 (.str (s_ApiVersionsResponseSupportedFeature v)), .lst⟩, ⟨1, 5, .prim (.i64), .num (-1)⟩, ⟨2, 6, .arr (decide (3 ≤ v)) 4 (.str (s_ApiVersionsResponseFinalizedFeature v)), .lst⟩, ⟨3, 7, .prim (.bool), .bool false⟩]

noncomputable def z : List Value := [.int .i16 0, .int .i16 0, .slice none 0 0, .int .i32 0, .slice none 0 0, .int .i64 0, .slice none 0 0, .bool false, .map none]
noncomputable def ds : List (Nat × Value) := (defC P 96).getD []
theorem h_f : fnP P 5 3 = some (Sp.p_fnCut 9 18 19 16 Sg.SJ.write 20) := by kernel_rfl
theorem h_ver : fnP P 16 2 = some p_version := by kernel_rfl
theorem h_same : fnP P 27 2 = some p_same := by kernel_rfl
theorem h_max : fnP P 18 0 = some (p_max 42 43) := by kernel_rfl
theorem h_new : fnP P 42 0 = some (p_new z 96) := by kernel_rfl
theorem h_def : Sg.TT.defs 96 = some ds := by kernel_rfl
theorem h_ds : (decide (0 < z.length) && ds.all (fun d => decide (d.1 < z.length))) = true := by kernel_rfl
theorem h_mx : fnP P 43 1 = some (p_maxV ((5 : Nat) : Int)) := by kernel_rfl
theorem h_again : fnP P 20 2 = some (p_again Sg.IJ.e8 42 47 48 49) := by kernel_rfl
theorem h_set : fnP P 47 2 = some Mr.p_set := by kernel_rfl
theorem h_read : fnP P 48 2 = some (p_read 97) := by kernel_rfl
def UU : KTab := { uv := Sg.IJ.rUvarint, span := Sg.IJ.rSpan, set := Sg.IJ.set }
theorem UU_ok : KTabOk P UU := ⟨Sg.c_rUvarint, Sg.c_rSpan, set_at Sg.hn Sg.f_set⟩
theorem h_r : msgRK P Sg.TT UU 96 97 (setD 0 ds z) 5 3 s_ApiVersionsResponse 8 k_ApiVersionsResponse = true := by kernel_rfl
theorem h_w : msgWK P Sg.WW Sg.IJ.eG 49 (setD 0 ds z) 5 3 s_ApiVersionsResponse 8 k_ApiVersionsResponse = true := by kernel_rfl
theorem h_zk : ∀ v, v ≤ 5 → ∀ k ∈ k_ApiVersionsResponse v, ZzAll P k := by
  intro v _ k hk
  simp only [k_ApiVersionsResponse, List.mem_cons, List.not_mem_nil, or_false] at hk
  rcases hk with rfl | rfl | rfl | rfl
  all_goals trivial
theorem h_k : ksC (setD 0 ds z) ds 5 3 k_ApiVersionsResponse = true := by kernel_rfl

noncomputable def fl : Sp.Fl := ((Sp.msgC P 16 19).map (·.1)).getD .nil
theorem h_msg : Sp.msgC P 16 19 = some (fl, ((3 : Nat) : Int)) := by kernel_rfl
theorem h_us : fnP P Sg.SJ.usual 2 = some (Sp.q_usual Sg.SJ 27) := by kernel_rfl
theorem h_zz : fnP P 9 1 = some (Sp.q_zzFits2 Sg.SJ) := by kernel_rfl
theorem h_ok : (Sp.okSub fl && Sp.usT fl && Sp.smallT fl && decide (Sp.knT fl 0 ≤ 1000) && decide (fl.len ≤ 32767)) = true := by kernel_rfl
theorem h_tab : ((List.range (5 + 1)).all fun v => if 3 ≤ v then Sp.tabT (v : Int) fl (s_ApiVersionsResponse v) (k_ApiVersionsResponse v) else Sp.fitN (v : Int) false fl (s_ApiVersionsResponse v) && wfF (s_ApiVersionsResponse v)) = true := by kernel_rfl
theorem h_lim : (decide ((Sp.wtF fl + 10) * 1048576 < 4294967296) && decide (Sp.knT fl 0 * fl.len ≤ 1000)) = true := by kernel_rfl

/-- The walk. -/
theorem walk (a0 : Int) (w0 : (Lit.int .u8 a0).wf = true) (a2 : Int) (w2 : (Lit.int .u16 a2).wf = true) {w : World} {cs : List Value} {t : Sp.Tr} {et : TypeId} {ev : Value} (ht : Sp.RepTr w cs t) (hb : t.bulk ≤ 1048576) (herr : w.cell? ⟨Sg.IJ.err, 0, none⟩ = some (.iface et ev)) :
    Calls Tryz.prog 5 #[.int .u8 a0, .agg cs.toArray, .int .u16 a2] w fun e w' => e = .returned (.bool true) ∧ Below w.heap.size w w' := by
  have hx : 0 ≤ a0 ∧ a0 ≤ 255 := by simpa [Lit.wf, IntKind.min, IntKind.max, IntKind.signed, IntKind.bits] using w0
  have ha : ((a0.toNat : Nat) : Int) = a0 := by omega
  have hx2 : 0 ≤ a2 ∧ a2 ≤ 65535 := by simpa [Lit.wf, IntKind.min, IntKind.max, IntKind.signed, IntKind.bits] using w2
  have ha2 : ((a2.toNat : Nat) : Int) = a2 := by omega
  have h : In.wp P (.call 5) [.int .u8 ((a0.toNat : Nat) : Int), .agg cs.toArray, .int .u16 ((a2.toNat : Nat) : Int)] w fun v w' => v = .bool true ∧ Keep [] w w' :=
    Sp.law_cutT (Sp.law_ofT (eG := Sg.IJ.eG) Sg.fns Sg.TT_ok UU_ok Sg.WW_ok h_zz h_ver h_us h_same h_max h_new h_def h_ds h_mx (by omega) h_again h_set h_read h_r h_w h_k h_zk h_msg h_ok h_tab) h_f (n := a0.toNat) (by omega) (at' := a2.toNat) (by omega) ht (fun v hv => Sp.HT_bulk h_lim hb v hv) herr fun w' k => ⟨rfl, k⟩
  rw [ha, ha2] at h
  refine Calls.mono h fun ev' w' hev => ?_
  match ev', hev with
  | .returned v, hev => exact ⟨by rw [hev.1], hev.2.below (fun x hx => by cases hx) (Nat.le_refl _)⟩

theorem own : ownKnob Tryz.prog.godebug = none := by kernel_rfl
theorem laidOut : laidOutB Tryz.prog = true := by kernel_rfl

theorem rowE (u : TypeId) (h : Tryz.prog.typeName? 3 u = some "*errors.errorString") : u = 249 :=
  typeName_ptr_named (nm := "errors.errorString") (by rw [show "*" ++ "errors.errorString" = "*errors.errorString" by decide]; kernel_rfl) (by kernel_rfl) (by decide) u (by rw [show "*" ++ "errors.errorString" = "*errors.errorString" by decide]; exact h)

/-- The error's variable. -/
theorem of_laid {W : World} (h : laidMetH Tryz.prog Rows.fnCutApiVersionsResponseUptoRow.laid W) : ∃ (et : TypeId) (ev : Value), W.cell? ⟨Sg.IJ.err, 0, none⟩ = some (.iface et ev) := by
  rw [MakeChecks.laidMetH_plain _ _ _ (by kernel_rfl)] at h
  obtain ⟨a, s, hv, _⟩ := laid_sentinel h (show Tryz.prog.globalNamed "pub-kmsg/pub/kmsg/inner/kbin.ErrNotEnoughData" = some 1 by kernel_rfl) (show (Tryz.prog.globals[1]?).map (·.type) = some 56 by kernel_rfl) Tryz.underlying56 rowE Tryz.underlying249 Tryz.underlying267 rfl rfl Tryz.underlying9 (by kernel_rfl) (by kernel_rfl)
  have h0 : W.cell? ⟨1, 0, none⟩ = some (.iface 249 (.pointer (some a))) := by
    have := World.var?_cell (show Tryz.prog.globalNamed "pub-kmsg/pub/kmsg/inner/kbin.ErrNotEnoughData" = some 1 by kernel_rfl) hv 0
    simpa using this
  exact ⟨_, _, h0⟩

noncomputable def fsT : Array Go.Field := match P.underlying 26 with | some (.struct fs) => fs | _ => #[]
noncomputable def fsG : Array Go.Field := match P.underlying 75 with | some (.struct fs) => fs | _ => #[]
theorem ty : Sp.TyOk P 26 2 22 5 4 23 24 75 73 fsT fsG :=
  ⟨by kernel_rfl, by kernel_rfl, by kernel_rfl, by kernel_rfl, by kernel_rfl, by kernel_rfl, by kernel_rfl, by kernel_rfl, by kernel_rfl, by kernel_rfl, by kernel_rfl, by kernel_rfl, by kernel_rfl, by kernel_rfl⟩

/-- The measure that the rows give. -/
theorem meas (H : Type) : Sp.Meas (H := H) Rows.uptoBulk Rows.uptoBulkAll := by
  refine ⟨fun d => ?_, fun es sp => ?_, fun ps => ?_, ?_, fun d r => ?_⟩
  · cases d with
    | lit l => cases l <;> simp [Rows.uptoBulk]
    | _ => simp [Rows.uptoBulk]
  · simp only [Rows.uptoBulk]; omega
  · simp only [Rows.uptoBulk]; omega
  · simp only [Rows.uptoBulkAll]
  · simp only [Rows.uptoBulkAll]

theorem door_met (os : Os) (args : Array Value) : laidMetH Tryz.prog Rows.fnCutApiVersionsResponseUptoRow.laid ((World.doorLaid Tryz.prog 400 os).forCall (fun _ _ => 0) ⟨#[], args, []⟩).memory :=
  laidMetH_of_parts3 (fuel := 8) (laidMet_of_run' 8 (by kernel_rfl) (by kernel_rfl)) (by kernel_rfl) (by kernel_rfl)

theorem reads (os : Os) {H : Type} (enc : TypeId × Value → H) : ∃ places, DataW.whole enc Tryz.prog ((World.doorLaid Tryz.prog 400 os).forCall (fun _ _ => 0) ⟨#[], #[.int .u8 0, .agg #[.int .i64 0, .slice none 0 0, .bool false, .slice none 0 0, .slice none 0 0], .int .u16 0], []⟩).memory Tryz.f5.params.toList Rows.fnCutApiVersionsResponseSpec.vars false #[Value.int .u8 0, .agg #[.int .i64 0, .slice none 0 0, .bool false, .slice none 0 0, .slice none 0 0], .int .u16 0].toList 8 = some ([.lit (.int .u8 0), .agg [.lit (.int .i64 0), .nil, .lit (.bool false), .nil, .nil], .lit (.int .u16 0)], [], places) :=
  ⟨[], by kernel_rfl⟩

set_option maxRecDepth 100000 in
theorem lifted (os : Os) (started : os.Started) (H : Type) (enc : TypeId × Value → H) (Fi : Stop.Interp) :
    ReturnsInHanded {} Tryz.checked os 5 .any ((Rows.OpenSpec.upto Rows.fnCutApiVersionsResponseSpec).preRow enc Tryz.prog Tryz.f5 Rows.fnCutApiVersionsResponseUptoRow.domain false Rows.fnCutApiVersionsResponseUptoRow.laid) (((Rows.OpenSpec.upto Rows.fnCutApiVersionsResponseSpec).at Fi).post enc Tryz.prog Tryz.f5 false true false false) := by
  obtain ⟨places, hx⟩ := reads os enc
  refine returnsInHanded_of_row (C := Tryz.checked) (s := Rows.OpenSpec.upto Rows.fnCutApiVersionsResponseSpec) own started (by kernel_rfl) Tryz.func5
    (witness_row_atRef (enc := enc) (C := Tryz.checked) false (World.doorLaid Tryz.prog 400 os) #[.int .u8 0, .agg #[.int .i64 0, .slice none 0 0, .bool false, .slice none 0 0, .slice none 0 0], .int .u16 0] rfl (by kernel_rfl) (by kernel_rfl) (by kernel_rfl)
      (OpenSpec.preRow_of_cond 8 hx (by kernel_rfl) (fun k hk => by cases hk; kernel_rfl) (by kernel_rfl) (door_met os _))) ?_
  intro W base args ds gs before hval0 hW _ hcond _ hL _ _
  have hval : ∀ (j : Nat) t v, Tryz.f5.params[j]? = some t → args[j]? = some v → Value.okWide Tryz.prog W .any base t v := hval0
  have hW' := hW
  obtain ⟨p, q, hA0, hV, rfl, hfz, hnd⟩ := hW
  have hA : DataW.TrodAll enc Tryz.prog W 0 (fun _ => true) true Tryz.f5.params.toList args.toList ds p := hA0
  rw [Tryz.params5] at hA hval
  obtain ⟨v0, vs0, d0, ds0, p0, q0, hargs, rfl, rfl, h0, r0⟩ := trodAll_cons hA
  obtain ⟨v1, vs1, d1, ds1, p1, q1, hargs1, rfl, rfl, h1, r1⟩ := trodAll_cons r0
  obtain ⟨v2, vs2, d2, ds2, p2, q2, hargs2, rfl, rfl, h2, r2⟩ := trodAll_cons r1
  obtain ⟨rfl, rfl, rfl⟩ := trodAll_nil r2
  obtain rfl : args = #[v0, v1, v2] := by cases args; simp_all
  obtain ⟨rfl, rfl⟩ := trodVars_none hV
  obtain ⟨cs1, rfl, _⟩ := okWide_struct (by kernel_rfl : Tryz.prog.underlying 26 = some (.struct fsT)) (hval 1 26 v1 rfl rfl)
  obtain ⟨a0, rfl, rfl, rfl, w0⟩ := open_int Tryz.underlying5 (hval 0 5 v0 rfl rfl) h0
  obtain ⟨a2, rfl, rfl, rfl, w2⟩ := open_int Tryz.underlying27 (hval 2 27 v2 rfl rfl) h2
  obtain ⟨fuel, htrod⟩ := id h1
  obtain ⟨t, ht, htb⟩ := Sp.open_tree ty (meas H) fuel _ _ htrod
  have hb : t.bulk ≤ 1048576 := by
    have h : Rows.uptoBulkAll _ ≤ 1048576 := of_decide_eq_true (hcond _ rfl)
    simp only [List.cons_append, List.nil_append, Rows.uptoBulkAll] at h
    simp only at htb
    omega
  obtain ⟨et, ev, herr⟩ := of_laid hL
  clear hA0 hval0
  simp only [List.append_nil] at hW'
  have hlt : ∀ x ∈ p1, x.block < W.heap.size := fun x hx => by simpa using hW'.lt x (by simpa using hx)
  have ht' : Sp.RepTr W cs1.toList t := by simpa [Value.cells] using ht
  have hwalk := walk a0 w0 a2 w2 ht' hb herr
  rw [show cs1.toList.toArray = cs1 by simp] at hwalk
  refine hwalk.mono fun e W' ⟨he, hg⟩ => ?_
  subst he
  exact ⟨_, rfl, _, _, _, [], _, [], hW', (trodAll_cons_mk (shut_bool Tryz.underlying4 _) trodAll_mk0), (trodAll_cons_mk (shut_int Tryz.underlying5 w0) (trodAll_cons_mk (Below.trod laidOut (by kernel_rfl) (of_decide_eq_true (by kernel_rfl)) h1 hg hlt) (trodAll_cons_mk (shut_int Tryz.underlying27 w2) trodAll_mk0))), rfl, hg.frame _, fun h => by cases h⟩

theorem over : Rows.fnCutApiVersionsResponseUptoRow.holds Tryz.pinned (Rows.OpenSpec.upto Rows.fnCutApiVersionsResponseSpec) :=
  OpenClaim.holds_of_cond 5 Tryz.f5 rfl rfl rfl rfl rfl rfl rfl ⟨rfl, rfl, rfl, rfl, rfl⟩ rfl rfl rfl rfl rfl (by kernel_rfl) Tryz.func5 (by kernel_rfl)
    (of_decide_eq_true (by kernel_rfl)) (by unfold Func.isWrapper; first | (rw [if_pos (by decide +kernel)]; kernel_rfl) | (rw [if_neg (by decide +kernel)]; exact ⟨rfl, rfl⟩))
    (fun os started H enc _ Fi => by rw [OpenClaim.pre_eq_preRow]; exact lifted os started H enc Fi)

/-- The statement. -/
theorem proved : Rows.FnCutApiVersionsResponseUptoCardSaid :=
  Claim7.holds_tied_plain_at .later [] [.sentinel] true (true, "f0c661a2a083e2d8f090539c26fc314ec3ab7cafee4fe3973f86b558c0048d2a") false
    over (fun _ h => by cases h) (by kernel_rfl) (fun _ h => by cases h) fnCutApiVersionsResponseUpto_row_tie rfl ⟨rfl, rfl⟩ (by kernel_rfl) rfl
    (fun f fn hf hfn => by
      obtain rfl : f = 5 := Option.some.inj ((show Tryz.prog.funcNamed "pub-kmsg/laws.FnCutApiVersionsResponse" = some 5 by kernel_rfl).symm.trans hf) |>.symm
      obtain rfl : fn = Tryz.f5 := (Option.some.inj (Tryz.func5.symm.trans hfn)).symm
      exact ⟨by kernel_rfl, fun j t ht => by
        rw [Tryz.params5] at ht
        have hm : t ∈ [5, 26, 27] := by simpa using Array.mem_of_getElem? ht
        have hall : ([5, 26, 27].all fun u => !Tryz.prog.wantsStandIn u) = true := by kernel_rfl
        exact (show Tryz.prog.wantsStandIn t = false by simpa using List.all_eq_true.1 hall t hm)⟩)
    (by kernel_rfl)
#print axioms proved
end Go.Proofs.YtlbojjkfjhnaaaaGreatDoor.fnCutApiVersionsResponse
