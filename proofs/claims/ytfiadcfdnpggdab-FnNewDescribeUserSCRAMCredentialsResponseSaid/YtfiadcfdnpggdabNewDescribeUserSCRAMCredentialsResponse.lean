/- The law FnNewDescribeUserSCRAMCredentialsResponse: a new message is written, at every version, as the defaults are. It holds for every number n (an octet); no further condition. -/
import Derived.Test.YtfiadcfdnpggdabRows
import Derived.Test.YtfiadcfdnpggdabCx13
import Derived.WalkKit
import Derived.ProofKit
import Derived.OpenShut
namespace Go.Proofs.Ytfiadcfdnpggdab.fnNewDescribeUserSCRAMCredentialsResponse
open Go.ChangeShapes Go.WideShapes Go.ChangeAt Go.RowKit
set_option linter.unusedVariables false

theorem own : ownKnob Try.prog.godebug = none := by kernel_rfl

theorem names : (Try.prog.funcs.toList.all fun fn => fn.name != "runtime.NumGoroutine") = true := by kernel_rfl

theorem hnames (f : FuncId) (fn : Func) (h : Try.prog.funcs[f]? = some fn) : fn.name ≠ "runtime.NumGoroutine" := by
  have := (List.all_eq_true.1 names) fn (by rw [← Array.getElem?_toList] at h; exact List.mem_of_getElem? h)
  simpa using this

/-- The version of a number. -/
theorem version_any (n : Int) (h0 : 0 ≤ n) (h1 : n ≤ 255) (w : World) :
    Calls Try.prog 13 #[.int .u8 n, .int .i64 0] w fun e w' => e = .returned (.int .i64 (n % 1)) ∧ w' = w := by
  go_enter Try.func13, Try.ntmps13
  go_wp2
  go_ret
  exact ⟨by first | rfl | simp [Int.emod_one], rfl⟩

/-- What the executor is told of the version. -/
def orc (v : Nat) (f : FuncId) (args : List CX.AV) : Option CX.AV :=
  if f = 13 then
    match args with
    | [.c (.sym 0), .c (.lit (.int .i64 m))] => if m = 0 then some (.c (.lit (.int .i64 v))) else none
    | _ => none
  else none

theorem orc_ok (n : Int) (h0 : 0 ≤ n) (h1 : n ≤ 255) (v : Nat) (hv : n % 1 = v) : CX.OrcOk (fun _ => .int .u8 n) Try.prog (orc v) := by
  intro f args r hr
  unfold orc at hr
  split at hr
  · rename_i hf
    subst hf
    split at hr
    · split at hr
      · rename_i m hm
        subst hm
        cases hr
        refine ⟨⟨_, Try.func13, rfl⟩, fun V w vs hvs => ?_⟩
        simp only [CX.avals, CX.AV.val, CX.CV.val, CX.oneCell, if_true, Option.bind_some, Option.map_some, Option.some.injEq] at hvs
        subst hvs
        refine (version_any n h0 h1 w).mono ?_
        rintro e w' ⟨rfl, rfl⟩
        exact ⟨rfl, _, rfl, by rw [hv]⟩
      · cases hr
    · cases hr
  · cases hr

set_option maxRecDepth 100000 in
theorem runs : ((List.range 1).all fun v => CX.isTrue (CX.run Try.prog (orc v) 300 60 5 [.c (.sym 0)] { t := .nil, n := 0 })) = true := by kernel_rfl

theorem walk (a0 : Int) (w0 : (Lit.int .u8 a0).wf = true) (w : World) :
    Calls Try.prog 5 #[.int .u8 a0] w fun e w' => e = .returned (.bool true) ∧ Below w.heap.size w w' := by
  have hx : 0 ≤ a0 ∧ a0 ≤ 255 := by simpa [Lit.wf, IntKind.min, IntKind.max, IntKind.signed, IntKind.bits] using w0
  have hv : a0 % 1 = ((a0 % 1).toNat : Int) := by omega
  have hr := (List.all_eq_true.1 runs) (a0 % 1).toNat (by simp only [List.mem_range]; omega)
  exact CX.calls_true (σ := fun _ => .int .u8 a0) (vs := [.int .u8 a0]) Try.checked.mixed hnames (orc_ok a0 hx.1 hx.2 _ hv) rfl hr w

set_option maxRecDepth 100000 in
theorem lifted (os : Os) (started : os.Started) (H : Type) (enc : TypeId × Value → H) :
    ReturnsInHanded {} Try.checked os 5 .any (Rows.fnNewDescribeUserSCRAMCredentialsResponseSpec.pre6 enc Try.prog Try.f5 Rows.fnNewDescribeUserSCRAMCredentialsResponseRow.domain false) (Rows.fnNewDescribeUserSCRAMCredentialsResponseSpec.post enc Try.prog Try.f5 false true false false) := by
  refine returnsInHanded_of_change (C := Try.checked) own started (by kernel_rfl) Try.func5
    (ChangeSpec.witness6 (enc := enc) (C := Try.checked) false ⟨#[], #[.int .u8 0], []⟩ 8 (by kernel_rfl) (by kernel_rfl) (by kernel_rfl) (by kernel_rfl)) ?_
  intro W base args ds gs before hval0 hW hcnd _
  have hval : ∀ (j : Nat) t v, Try.f5.params[j]? = some t → args[j]? = some v → Value.okWide Try.prog W .any base t v := hval0
  have hW' := hW
  obtain ⟨p, q, hA0, hV, rfl, hfz, hnd⟩ := hW
  have hA : DataW.TrodAll enc Try.prog W 0 (fun _ => true) true Try.f5.params.toList args.toList ds p := hA0
  rw [Try.params5] at hA hval
  obtain ⟨v0, vs0, d0, ds0, p0, q0, hargs, rfl, rfl, h0, r0⟩ := trodAll_cons hA
  obtain ⟨rfl, rfl, rfl⟩ := trodAll_nil r0
  obtain rfl : args = #[v0] := by cases args; simp_all
  obtain ⟨rfl, rfl⟩ := trodVars_none hV
  obtain ⟨a0, rfl, rfl, rfl, w0⟩ := open_int Try.underlying5 (hval 0 5 v0 rfl rfl) h0
  clear hA0 hval0
  simp only [List.append_nil] at hW'
  refine (walk a0 w0 W).mono fun e W' ⟨he, hg⟩ => ?_
  subst he
  exact ⟨_, rfl, _, _, _, [], [], [], hW', (trodAll_cons_mk (shut_bool Try.underlying4 _) trodAll_mk0), (trodAll_cons_mk (shut_int Try.underlying5 w0) trodAll_mk0), rfl, hg.frame _, fun h => by cases h⟩

theorem over : Rows.fnNewDescribeUserSCRAMCredentialsResponseRow.holds Try.pinned (OpenSpec.ofChange Rows.fnNewDescribeUserSCRAMCredentialsResponseSpec) :=
  OpenClaim.holds_of_wide 5 Try.f5 rfl rfl rfl rfl rfl rfl rfl ⟨rfl, rfl, rfl, rfl, rfl⟩ rfl rfl rfl rfl rfl (by kernel_rfl) Try.func5 (by kernel_rfl)
    (of_decide_eq_true (by kernel_rfl)) (by unfold Func.isWrapper; first | (rw [if_pos (by decide +kernel)]; kernel_rfl) | (rw [if_neg (by decide +kernel)]; exact ⟨rfl, rfl⟩))
    (fun os started H enc _ => lifted os started H enc)

/-- The statement. -/
theorem proved : Rows.FnNewDescribeUserSCRAMCredentialsResponseSaid :=
  over
#print axioms proved
end Go.Proofs.Ytfiadcfdnpggdab.fnNewDescribeUserSCRAMCredentialsResponse
