/- The law FnFrameControlledShutdown: a whole request that is read of what the reference writes of a tree is the frame. It holds for every number (an octet), client id, number of the request and tree; no further condition. -/
import Derived.Test.YtmlmiljgbaalgaaGreatDoorSg
import Derived.Test.YtmlmiljgbaalgaaGreatDoorFr
import Derived.Test.YtmlmiljgbaalgaaGreatDoorCards
import Derived.Test.YtmlmiljgbaalgaaGreatDoorTie
import Derived.WalkKit
import Derived.ProofKit
import Derived.OpenShut
import Derived.Carry
import Derived.LaidMore
import Derived.Stop.LaidErr
import Derived.SevenTiedAt
import Derived.Deep.DeepHandedRow
import Derived.Deep.DeepWitnessRowRef
import Derived.Stop.Joined
namespace Go.Proofs.YtmlmiljgbaalgaaGreatDoor.fnFrameControlledShutdown
open Go Go.ChangeShapes Go.WideShapes Go.ChangeAt Go.RowKit
open Go.Lx Go.Nx Go.Km Go.Mx Go.Kb Go.Mr
set_option linter.unusedVariables false
set_option maxRecDepth 100000

noncomputable abbrev P : Program := Tryz.prog

def s_ControlledShutdownRequest (v : Nat) : Fs := fld (true) 1 (.prim (.i32)) <| fld (decide (2 ≤ v)) 2 (.prim (.i64)) <| endT (decide (3 ≤ v)) 3

noncomputable def z : List Value := [.int .i16 0, .int .i32 0, .int .i64 0, .map none]
noncomputable def ds : List (Nat × Value) := (defC P 24).getD []
theorem h_f : fnP P 3 4 = some (Sp.p_fnFrame 4 5 6 7 8 10 Sg.SJ.write 11 13 12) := by kernel_rfl
theorem h_z1 : fnP P 4 1 = some Sp.q_zzFits1 := by kernel_rfl
theorem h_id : fnP P 6 1 = some Sp.q_idBytes := by kernel_rfl
theorem h_ver : fnP P 8 2 = some p_version := by kernel_rfl
theorem h_same : fnP P 12 2 = some p_same := by kernel_rfl
theorem h_max : fnP P 7 0 = some (p_max 15 16) := by kernel_rfl
theorem h_new : fnP P 15 0 = some (p_new z 24) := by kernel_rfl
theorem h_def : Sg.TT.defs 24 = some ds := by kernel_rfl
theorem h_ds : (decide (0 < z.length) && ds.all (fun d => decide (d.1 < z.length))) = true := by kernel_rfl
theorem h_mx : fnP P 16 1 = some (p_maxV ((3 : Nat) : Int)) := by kernel_rfl
def J : Sp.FI := { e8 := Sg.IJ.e8, tOpt := 105, tReq := 46, newRF := 34, clientID := 35, closure := 46, apply := 123, appReq := 36, framed := 20, ai16 := 47, ai32 := 48, au32 := 56, ans := 49, as' := 57, key := 79, getV := 77, isFlex := 78, app := 76 }
theorem i_apply (x y : Value) (w : World) : (invoke (.fn (.method "pub-kmsg/pub/kmsg.apply") #[]) #[.iface 105 x, y]).run Tryz.prog w = .ok (.enter 123 #[x, y]) w := by kernel_rfl
theorem i_key (x : Value) (w : World) : (invoke (.fn (.method "Key") #[]) #[.iface 46 x]).run Tryz.prog w = .ok (.enter 79 #[x]) w := by kernel_rfl
theorem i_getV (x : Value) (w : World) : (invoke (.fn (.method "GetVersion") #[]) #[.iface 46 x]).run Tryz.prog w = .ok (.enter 77 #[x]) w := by kernel_rfl
theorem i_flex (x : Value) (w : World) : (invoke (.fn (.method "IsFlexible") #[]) #[.iface 46 x]).run Tryz.prog w = .ok (.enter 78 #[x]) w := by kernel_rfl
theorem i_app (x y : Value) (w : World) : (invoke (.fn (.method "AppendTo") #[]) #[.iface 46 x, y]).run Tryz.prog w = .ok (.enter 76 #[x, y]) w := by kernel_rfl
theorem h_newRF : fnP P J.newRF 1 = some Sp.p_newRF := by kernel_rfl
theorem h_clientID : fnP P J.clientID 1 = some (Sp.p_clientID J) := by kernel_rfl
theorem h_closure : fnP P J.closure 2 = some Sp.p_closure := by kernel_rfl
theorem h_apply : fnP P J.apply 2 = some Sp.p_apply := by kernel_rfl
theorem h_appReq : fnP P J.appReq 4 = some (Sp.p_appReq J) := by kernel_rfl
theorem h_framed : fnP P J.framed 4 = some (Sp.p_framed J) := by kernel_rfl
theorem h_key : fnP P J.key 1 = some (Sp.p_key 7) := by kernel_rfl
theorem h_getV : fnP P J.getV 1 = some Sp.p_getV := by kernel_rfl
theorem h_isFlex : fnP P J.isFlex 1 = some (Sp.p_isFlex 3) := by kernel_rfl
theorem h_fr : Sp.FrOk P J Sg.IJ.toIds :=
  ⟨Sg.hn, rfl, h_newRF, h_clientID, h_closure, h_apply, h_appReq, h_framed, h_key, h_getV, Sg.c_appendInt16, Sg.c_appendInt32, Sg.f_appendInt32, Sg.f_appendUint32, Sg.f_appendNullableString, Sg.f_appendString, Sg.c_appendInt16, i_apply, i_key, i_getV, i_flex, i_app⟩
theorem h_frame : fnP P 11 4 = some (Sp.p_frameC J 15 18 19) := by kernel_rfl
theorem h_spec : fnP P 13 6 = some (Sp.q_frame Sg.SJ.e8 Sg.SJ.fixed 22) := by kernel_rfl
theorem h_flex : ((List.range (3 + 1)).all fun v => Sp.flexC P 22 7 (v : Int) (decide ((v : Int) ≥ 3))) = true := by kernel_rfl
theorem h_set : fnP P 18 2 = some Mr.p_set := by kernel_rfl
theorem h_read : fnP P 19 2 = some (p_read 33) := by kernel_rfl
theorem h_r : msgR P Sg.TT 33 (setD 0 ds z) 3 s_ControlledShutdownRequest = true := by kernel_rfl
theorem h_w : msgW P Sg.WW J.app (setD 0 ds z) 3 s_ControlledShutdownRequest = true := by kernel_rfl
theorem h_wf : ((List.range (3 + 1)).all fun v => wfF (s_ControlledShutdownRequest v)) = true := by kernel_rfl
noncomputable def fl : Sp.Fl := ((Sp.msgC P 16 10).map (·.1)).getD .nil
theorem h_msg : Sp.msgC P 16 10 = some (fl, 3) := by kernel_rfl
theorem h_zz : fnP P 5 1 = some (Sp.q_zzFits2 Sg.SJ) := by kernel_rfl
theorem h_ok : (Sp.okFl fl && decide (fl.len ≤ 32767)) = true := by kernel_rfl
theorem h_fit : ((List.range (3 + 1)).all fun v => Sp.fitF (v : Int) (Sp.isFlex 3 (v : Int)) fl (s_ControlledShutdownRequest v)) = true := by kernel_rfl
theorem h_lim : ((List.range (3 + 1)).all fun v => decide (Sp.mxF (v : Int) (Sp.isFlex 3 (v : Int)) fl + 1074004164 + 40000 ≤ 2147483647)) = true := by kernel_rfl

/-- The walk. -/
theorem walk (a0 : Int) (w0 : (Lit.int .u8 a0).wf = true) (a2 : Int) (w2 : (Lit.int .i32 a2).wf = true) {w : World} {has : Bool} {l : Km.Bs} {cs : List Value} {t : Sp.Tr} {et : TypeId} {ev : Value} (ht : Sp.RepTr w cs t) (herr : w.cell? ⟨Sg.IJ.err, 0, none⟩ = some (.iface et ev)) :
    Calls Tryz.prog 3 #[.int .u8 a0, .agg #[.bool has, .string ⟨l.toArray⟩], .int .i32 a2, .agg cs.toArray] w fun e w' => e = .returned (.bool true) ∧ Below w.heap.size w w' := by
  have hx : 0 ≤ a0 ∧ a0 ≤ 255 := by simpa [Lit.wf, IntKind.min, IntKind.max, IntKind.signed, IntKind.bits] using w0
  have ha : ((a0.toNat : Nat) : Int) = a0 := by omega
  have hx2 : -2147483648 ≤ a2 ∧ a2 ≤ 2147483647 := by simpa [Lit.wf, IntKind.min, IntKind.max, IntKind.signed, IntKind.bits] using w2
  have h : In.wp P (.call 3) [.int .u8 ((a0.toNat : Nat) : Int), .agg #[.bool has, .string ⟨l.toArray⟩], .int .i32 a2, .agg cs.toArray] w fun v w' => v = .bool true ∧ Keep [] w w' :=
    Sp.law_frame Sg.fns h_fr rfl Sg.TT_ok Sg.WW_ok h_f h_z1 h_zz h_id h_same h_ver h_max h_new h_def h_ds h_mx (by omega) h_frame h_set h_read h_r h_w h_wf h_msg h_ok h_fit h_spec h_isFlex h_flex h_lim (n := a0.toNat) (by omega) ⟨by omega, by omega⟩ ht herr fun w' k => ⟨rfl, k⟩
  rw [ha] at h
  refine Calls.mono h fun ev' w' hev => ?_
  match ev', hev with
  | .returned v, hev => exact ⟨by rw [hev.1], hev.2.below (fun x hx => by cases hx) (Nat.le_refl _)⟩

theorem own : ownKnob Tryz.prog.godebug = none := by kernel_rfl
theorem laidOut : laidOutB Tryz.prog = true := by kernel_rfl

theorem rowE (u : TypeId) (h : Tryz.prog.typeName? 3 u = some "*errors.errorString") : u = 125 :=
  typeName_ptr_named (nm := "errors.errorString") (by rw [show "*" ++ "errors.errorString" = "*errors.errorString" by decide]; kernel_rfl) (by kernel_rfl) (by decide) u (by rw [show "*" ++ "errors.errorString" = "*errors.errorString" by decide]; exact h)

/-- The error's variable. -/
theorem of_laid {W : World} (h : laidMetH Tryz.prog Rows.fnFrameControlledShutdownRow.laid W) : ∃ (et : TypeId) (ev : Value), W.cell? ⟨Sg.IJ.err, 0, none⟩ = some (.iface et ev) := by
  rw [MakeChecks.laidMetH_plain _ _ _ (by kernel_rfl)] at h
  obtain ⟨a, s, hv, _⟩ := laid_sentinel h (show Tryz.prog.globalNamed "pub-kmsg/pub/kmsg/inner/kbin.ErrNotEnoughData" = some 1 by kernel_rfl) (show (Tryz.prog.globals[1]?).map (·.type) = some 54 by kernel_rfl) Tryz.underlying54 rowE Tryz.underlying125 Tryz.underlying182 rfl rfl Tryz.underlying9 (by kernel_rfl) (by kernel_rfl)
  have h0 : W.cell? ⟨1, 0, none⟩ = some (.iface 125 (.pointer (some a))) := by
    have := World.var?_cell (show Tryz.prog.globalNamed "pub-kmsg/pub/kmsg/inner/kbin.ErrNotEnoughData" = some 1 by kernel_rfl) hv 0
    simpa using this
  exact ⟨_, _, h0⟩

noncomputable def fsD : Array Go.Field := match P.underlying 23 with | some (.struct fs) => fs | _ => #[]
noncomputable def fsT : Array Go.Field := match P.underlying 28 with | some (.struct fs) => fs | _ => #[]
noncomputable def fsG : Array Go.Field := match P.underlying 61 with | some (.struct fs) => fs | _ => #[]
theorem ty : Sp.TyOk P 28 2 24 5 4 25 26 61 59 fsT fsG :=
  ⟨by kernel_rfl, by kernel_rfl, by kernel_rfl, by kernel_rfl, by kernel_rfl, by kernel_rfl, by kernel_rfl, by kernel_rfl, by kernel_rfl, by kernel_rfl, by kernel_rfl, by kernel_rfl, by kernel_rfl, by kernel_rfl⟩

/-- The measure that the rows give. -/
theorem meas (H : Type) : Sp.Meas (H := H) Rows.uptoBulk Rows.uptoBulkAll := by
  refine ⟨fun d => ?_, fun es sp => ?_, fun ps => ?_, ?_, fun d r => ?_⟩
  · cases d with
    | lit l => cases l <;> simp [Rows.uptoBulk]
    | _ => simp [Rows.uptoBulk]
  · simp only [Rows.uptoBulk]; omega
  · simp only [Rows.uptoBulk]; omega
  · simp only [Rows.uptoBulkAll]
  · simp only [Rows.uptoBulkAll]

theorem door_met (os : Os) (args : Array Value) : laidMetH Tryz.prog Rows.fnFrameControlledShutdownRow.laid ((World.doorLaid Tryz.prog 400 os).forCall (fun _ _ => 0) ⟨#[], args, []⟩).memory :=
  laidMetH_of_parts3 (fuel := 8) (laidMet_of_run' 8 (by kernel_rfl) (by kernel_rfl)) (by kernel_rfl) (by kernel_rfl)

theorem reads (os : Os) {H : Type} (enc : TypeId × Value → H) : ∃ places, DataW.whole enc Tryz.prog ((World.doorLaid Tryz.prog 400 os).forCall (fun _ _ => 0) ⟨#[], #[.int .u8 0, .agg #[.bool false, .string ByteArray.empty], .int .i32 0, .agg #[.int .i64 0, .slice none 0 0, .bool false, .slice none 0 0, .slice none 0 0]], []⟩).memory Tryz.f3.params.toList Rows.fnFrameControlledShutdownSpec.vars false #[Value.int .u8 0, .agg #[.bool false, .string ByteArray.empty], .int .i32 0, .agg #[.int .i64 0, .slice none 0 0, .bool false, .slice none 0 0, .slice none 0 0]].toList 8 = some ([.lit (.int .u8 0), .agg [.lit (.bool false), .lit (.string [])], .lit (.int .i32 0), .agg [.lit (.int .i64 0), .nil, .lit (.bool false), .nil, .nil]], [], places) :=
  ⟨[], by kernel_rfl⟩

set_option maxRecDepth 100000 in
theorem lifted (os : Os) (started : os.Started) (H : Type) (enc : TypeId × Value → H) (Fi : Stop.Interp) :
    ReturnsInHanded {} Tryz.checked os 3 .any ((OpenSpec.ofChange Rows.fnFrameControlledShutdownSpec).preRow enc Tryz.prog Tryz.f3 Rows.fnFrameControlledShutdownRow.domain false Rows.fnFrameControlledShutdownRow.laid) (((OpenSpec.ofChange Rows.fnFrameControlledShutdownSpec).at Fi).post enc Tryz.prog Tryz.f3 false true false false) := by
  obtain ⟨places, hx⟩ := reads os enc
  refine returnsInHanded_of_row (C := Tryz.checked) (s := OpenSpec.ofChange Rows.fnFrameControlledShutdownSpec) own started (by kernel_rfl) Tryz.func3
    (witness_row_atRef (enc := enc) (C := Tryz.checked) false (World.doorLaid Tryz.prog 400 os) #[.int .u8 0, .agg #[.bool false, .string ByteArray.empty], .int .i32 0, .agg #[.int .i64 0, .slice none 0 0, .bool false, .slice none 0 0, .slice none 0 0]] rfl (by kernel_rfl) (by kernel_rfl) (by kernel_rfl)
      (OpenSpec.preRow_of_cond 8 hx (by kernel_rfl) (fun k hk => by cases hk) (by kernel_rfl) (door_met os _))) ?_
  intro W base args ds gs before hval0 hW _ hcond _ hL _ _
  have hval : ∀ (j : Nat) t v, Tryz.f3.params[j]? = some t → args[j]? = some v → Value.okWide Tryz.prog W .any base t v := hval0
  have hW' := hW
  obtain ⟨p, q, hA0, hV, rfl, hfz, hnd⟩ := hW
  have hA : DataW.TrodAll enc Tryz.prog W 0 (fun _ => true) true Tryz.f3.params.toList args.toList ds p := hA0
  rw [Tryz.params3] at hA hval
  obtain ⟨v0, vs0, d0, ds0, p0, q0, hargs, rfl, rfl, h0, r0⟩ := trodAll_cons hA
  obtain ⟨v1, vs1, d1, ds1, p1, q1, hargs1, rfl, rfl, h1, r1⟩ := trodAll_cons r0
  obtain ⟨v2, vs2, d2, ds2, p2, q2, hargs2, rfl, rfl, h2, r2⟩ := trodAll_cons r1
  obtain ⟨v3, vs3, d3, ds3, p3, q3, hargs3, rfl, rfl, h3, r3⟩ := trodAll_cons r2
  obtain ⟨rfl, rfl, rfl⟩ := trodAll_nil r3
  obtain rfl : args = #[v0, v1, v2, v3] := by cases args; simp_all
  obtain ⟨rfl, rfl⟩ := trodVars_none hV
  obtain ⟨cs3, rfl, _⟩ := okWide_struct (by kernel_rfl : Tryz.prog.underlying 28 = some (.struct fsT)) (hval 3 28 v3 rfl rfl)
  obtain ⟨cs1, rfl, _⟩ := okWide_struct (by kernel_rfl : Tryz.prog.underlying 23 = some (.struct fsD)) (hval 1 23 v1 rfl rfl)
  obtain ⟨a0, rfl, rfl, rfl, w0⟩ := open_int Tryz.underlying5 (hval 0 5 v0 rfl rfl) h0
  obtain ⟨a2, rfl, rfl, rfl, w2⟩ := open_int Tryz.underlying21 (hval 2 21 v2 rfl rfl) h2
  obtain ⟨fuel1, htrod1⟩ := id h1
  obtain ⟨has, l, hcs1⟩ := Sp.open_id (by kernel_rfl : P.underlying 23 = some (.struct fsD)) (by kernel_rfl : P.underlying 4 = some .bool) (by kernel_rfl : P.underlying 9 = some .string) (by kernel_rfl) (by kernel_rfl) (by kernel_rfl) (by kernel_rfl) htrod1
  obtain ⟨fuel, htrod⟩ := id h3
  obtain ⟨t, ht, htb⟩ := Sp.open_tree ty (meas H) fuel _ _ htrod
  obtain ⟨et, ev, herr⟩ := of_laid hL
  clear hA0 hval0
  simp only [List.append_nil] at hW'
  have hlt1 : ∀ x ∈ p1, x.block < W.heap.size := fun x hx => by simpa using hW'.lt x (by simp [hx])
  have hlt3 : ∀ x ∈ p3, x.block < W.heap.size := fun x hx => by simpa using hW'.lt x (by simp [hx])
  have ht' : Sp.RepTr W cs3.toList t := by simpa [Value.cells] using ht
  have hcs1' : cs1 = #[.bool has, .string ⟨l.toArray⟩] := by
    have : cs1.toList = [.bool has, .string ⟨l.toArray⟩] := by simpa [Value.cells] using hcs1
    rw [show cs1 = cs1.toList.toArray by simp, this]
  have hwalk := walk a0 w0 a2 w2 (has := has) (l := l) ht' herr
  rw [show cs3.toList.toArray = cs3 by simp, ← hcs1'] at hwalk
  refine hwalk.mono fun e W' ⟨he, hg⟩ => ?_
  subst he
  exact ⟨_, rfl, _, _, _, [], _, [], hW', (trodAll_cons_mk (shut_bool Tryz.underlying4 _) trodAll_mk0), (trodAll_cons_mk (shut_int Tryz.underlying5 w0) (trodAll_cons_mk (Below.trod laidOut (by kernel_rfl) (of_decide_eq_true (by kernel_rfl)) h1 hg hlt1) (trodAll_cons_mk (shut_int Tryz.underlying21 w2) (trodAll_cons_mk (Below.trod laidOut (by kernel_rfl) (of_decide_eq_true (by kernel_rfl)) h3 hg hlt3) trodAll_mk0)))), rfl, hg.frame _, fun h => by cases h⟩

theorem over : Rows.fnFrameControlledShutdownRow.holds Tryz.pinned (OpenSpec.ofChange Rows.fnFrameControlledShutdownSpec) :=
  OpenClaim.holds_of_cond 3 Tryz.f3 rfl rfl rfl rfl rfl rfl rfl ⟨rfl, rfl, rfl, rfl, rfl⟩ rfl rfl rfl rfl rfl (by kernel_rfl) Tryz.func3 (by kernel_rfl)
    (of_decide_eq_true (by kernel_rfl)) (by unfold Func.isWrapper; first | (rw [if_pos (by decide +kernel)]; kernel_rfl) | (rw [if_neg (by decide +kernel)]; exact ⟨rfl, rfl⟩))
    (fun os started H enc _ Fi => by rw [OpenClaim.pre_eq_preRow]; exact lifted os started H enc Fi)

/-- The statement. -/
theorem proved : Rows.FnFrameControlledShutdownCardSaid :=
  Claim7.holds_tied_plain_at .later [] [.sentinel] true (true, "edf16e7f0f618a43967d60c5df3aa697978d5be0308729ea7a39a6c4e63af331") false
    over (fun _ h => by cases h) (by kernel_rfl) (fun _ h => by cases h) fnFrameControlledShutdown_row_tie rfl ⟨rfl, rfl⟩ (by kernel_rfl) rfl
    (fun f fn hf hfn => by
      obtain rfl : f = 3 := Option.some.inj ((show Tryz.prog.funcNamed "pub-kmsg/laws.FnFrameControlledShutdown" = some 3 by kernel_rfl).symm.trans hf) |>.symm
      obtain rfl : fn = Tryz.f3 := (Option.some.inj (Tryz.func3.symm.trans hfn)).symm
      exact ⟨by kernel_rfl, fun j t ht => by
        rw [Tryz.params3] at ht
        have hm : t ∈ [5, 23, 21, 28] := by simpa using Array.mem_of_getElem? ht
        have hall : ([5, 23, 21, 28].all fun u => !Tryz.prog.wantsStandIn u) = true := by kernel_rfl
        exact (show Tryz.prog.wantsStandIn t = false by simpa using List.all_eq_true.1 hall t hm)⟩)
    (by kernel_rfl)
#print axioms proved
end Go.Proofs.YtmlmiljgbaalgaaGreatDoor.fnFrameControlledShutdown
