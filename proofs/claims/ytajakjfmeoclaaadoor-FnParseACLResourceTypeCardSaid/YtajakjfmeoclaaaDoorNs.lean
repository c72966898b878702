/- The names of kinds at this seat: what the functions do that trim a text and make its letters small, and the package's and the reference's own. -/
import Derived.Test.YtajakjfmeoclaaaDoorNa
import Derived.Test.YtajakjfmeoclaaaDoorRows
import Derived.KernelRfl
import Derived.WalkKit
import Derived.Lib.SmallJoins
import Derived.Shelf.Strings.TrimSpace
import Derived.Shelf.Strings.OnBuilder
namespace Go.Proofs.YtajakjfmeoclaaaDoor
open Go.Shelf
def Tryd.laysTrim_ren : Go.Shelf.Ren := ⟨fun | 163 => 61 | 237 => 85 | 199 => 86 | 238 => 87 | 272 => 105 | 261 => 106 | 273 => 107 | 197 => 108 | 315 => 127 | 311 => 128 | 312 => 129 | 271 => 130 | 260 => 131 | 120 => 139 | n => n, fun | 9 => 9 | 37 => 26 | 3 => 3 | 0 => 0 | 5 => 5 | 4 => 4 | 40 => 150 | 119 => 151 | 21 => 21 | 51 => 172 | 141 => 174 | 105 => 161 | 196 => 191 | 193 => 188 | 198 => 194 | 49 => 192 | 194 => 189 | 201 => 197 | 226 => 210 | 46 => 91 | 227 => 211 | 139 => 214 | 138 => 213 | n => n, fun | 0 => 0 | 6 => 2 | 3 => 5 | 4 => 6 | n => n⟩
theorem Tryd.laysTrim : Go.Proofs.Lays.n163 Tryd.prog Tryd.laysTrim_ren where
  mixed := by kernel_rfl
  f120 := Tryd.func139.trans (congrArg some (by kernel_rfl))
  f163 := Tryd.func61.trans (congrArg some (by kernel_rfl))
  f197 := Tryd.func108.trans (congrArg some (by kernel_rfl))
  f199 := Tryd.func86.trans (congrArg some (by kernel_rfl))
  f237 := Tryd.func85.trans (congrArg some (by kernel_rfl))
  f238 := Tryd.func87.trans (congrArg some (by kernel_rfl))
  f260 := Tryd.func131.trans (congrArg some (by kernel_rfl))
  f261 := Tryd.func106.trans (congrArg some (by kernel_rfl))
  f271 := Tryd.func130.trans (congrArg some (by kernel_rfl))
  f272 := Tryd.func105.trans (congrArg some (by kernel_rfl))
  f273 := Tryd.func107.trans (congrArg some (by kernel_rfl))
  f311 := Tryd.func128.trans (congrArg some (by kernel_rfl))
  f312 := Tryd.func129.trans (congrArg some (by kernel_rfl))
  f315 := Tryd.func127.trans (congrArg some (by kernel_rfl))
  t0 := Tryd.underlying0
  a0 := Tryd.isAgg0
  z0 := Tryd.sizeOf0
  v0 := Tryd.zeroValue0
  t3 := Tryd.underlying3
  a3 := Tryd.isAgg3
  z3 := Tryd.sizeOf3
  v3 := Tryd.zeroValue3
  t4 := Tryd.underlying4
  a4 := Tryd.isAgg4
  z4 := Tryd.sizeOf4
  v4 := Tryd.zeroValue4
  t5 := Tryd.underlying5
  a5 := Tryd.isAgg5
  z5 := Tryd.sizeOf5
  v5 := Tryd.zeroValue5
  t9 := Tryd.underlying9
  a9 := Tryd.isAgg9
  z9 := Tryd.sizeOf9
  v9 := Tryd.zeroValue9
  t21 := Tryd.underlying21
  a21 := Tryd.isAgg21
  z21 := Tryd.sizeOf21
  v21 := Tryd.zeroValue21
  t37 := Tryd.underlying26
  a37 := Tryd.isAgg26
  z37 := Tryd.sizeOf26
  v37 := Tryd.zeroValue26
  t40 := Tryd.underlying150
  a40 := Tryd.isAgg150
  z40 := Tryd.sizeOf150
  v40 := Tryd.zeroValue150
  t46 := Tryd.underlying91
  a46 := Tryd.isAgg91
  z46 := Tryd.sizeOf91
  v46 := Tryd.zeroValue91
  t49 := Tryd.underlying192
  a49 := Tryd.isAgg192
  z49 := Tryd.sizeOf192
  v49 := Tryd.zeroValue192
  t51 := Tryd.underlying172
  a51 := Tryd.isAgg172
  z51 := Tryd.sizeOf172
  v51 := Tryd.zeroValue172
  t105 := Tryd.underlying161
  a105 := Tryd.isAgg161
  z105 := Tryd.sizeOf161
  v105 := Tryd.zeroValue161
  t119 := Tryd.underlying151
  a119 := Tryd.isAgg151
  z119 := Tryd.sizeOf151
  t138 := Tryd.underlying213
  a138 := Tryd.isAgg213
  z138 := Tryd.sizeOf213
  v138 := Tryd.zeroValue213
  t139 := Tryd.underlying214
  a139 := Tryd.isAgg214
  z139 := Tryd.sizeOf214
  v139 := Tryd.zeroValue214
  t141 := Tryd.underlying174
  a141 := Tryd.isAgg174
  z141 := Tryd.sizeOf174
  v141 := Tryd.zeroValue174
  t193 := Tryd.underlying188
  a193 := Tryd.isAgg188
  z193 := Tryd.sizeOf188
  v193 := Tryd.zeroValue188
  t194 := Tryd.underlying189
  a194 := Tryd.isAgg189
  z194 := Tryd.sizeOf189
  v194 := Tryd.zeroValue189
  t196 := Tryd.underlying191
  a196 := Tryd.isAgg191
  z196 := Tryd.sizeOf191
  v196 := Tryd.zeroValue191
  t198 := Tryd.underlying194
  a198 := Tryd.isAgg194
  z198 := Tryd.sizeOf194
  v198 := Tryd.zeroValue194
  t201 := Tryd.underlying197
  a201 := Tryd.isAgg197
  z201 := Tryd.sizeOf197
  v201 := Tryd.zeroValue197
  t226 := Tryd.underlying210
  a226 := Tryd.isAgg210
  z226 := Tryd.sizeOf210
  v226 := Tryd.zeroValue210
  t227 := Tryd.underlying211
  a227 := Tryd.isAgg211
  z227 := Tryd.sizeOf211
  v227 := Tryd.zeroValue211
  g0 := by kernel_rfl
  g3 := by kernel_rfl
  g4 := by kernel_rfl
  g6 := by kernel_rfl
def Tryd.laysLower_ren : Go.Shelf.Ren := ⟨fun | 159 => 62 | 165 => 88 | 166 => 89 | 167 => 90 | 169 => 91 | 230 => 92 | 204 => 93 | 240 => 109 | 241 => 110 | 197 => 108 | 118 => 111 | 168 => 112 | 270 => 113 | 262 => 114 | 276 => 132 | 277 => 133 | 260 => 131 | 242 => 134 | 313 => 135 | 278 => 140 | 274 => 141 | 275 => 142 | n => n, fun | 9 => 9 | 4 => 4 | 3 => 3 | 5 => 5 | 72 => 154 | 0 => 0 | 76 => 155 | 75 => 52 | 107 => 159 | 70 => 152 | 20 => 20 | 37 => 26 | 127 => 177 | 21 => 21 | 105 => 161 | 164 => 199 | 162 => 204 | 203 => 202 | 119 => 151 | 46 => 91 | 139 => 214 | 138 => 213 | 51 => 172 | 160 => 215 | 208 => 222 | 206 => 220 | 80 => 62 | n => n, fun | 13 => 3 | 3 => 5 | 4 => 6 | n => n⟩
theorem Tryd.laysLower : Go.Proofs.Lays.n159 Tryd.prog Tryd.laysLower_ren where
  mixed := by kernel_rfl
  f118 := Tryd.func111.trans (congrArg some (by kernel_rfl))
  f159 := Tryd.func62.trans (congrArg some (by kernel_rfl))
  f165 := Tryd.func88.trans (congrArg some (by kernel_rfl))
  f166 := Tryd.func89.trans (congrArg some (by kernel_rfl))
  f167 := Tryd.func90.trans (congrArg some (by kernel_rfl))
  f168 := Tryd.func112.trans (congrArg some (by kernel_rfl))
  f169 := Tryd.func91.trans (congrArg some (by kernel_rfl))
  f197 := Tryd.func108.trans (congrArg some (by kernel_rfl))
  f204 := Tryd.func93.trans (congrArg some (by kernel_rfl))
  f230 := Tryd.func92.trans (congrArg some (by kernel_rfl))
  f240 := Tryd.func109.trans (congrArg some (by kernel_rfl))
  f241 := Tryd.func110.trans (congrArg some (by kernel_rfl))
  f242 := Tryd.func134.trans (congrArg some (by kernel_rfl))
  f260 := Tryd.func131.trans (congrArg some (by kernel_rfl))
  f262 := Tryd.func114.trans (congrArg some (by kernel_rfl))
  f270 := Tryd.func113.trans (congrArg some (by kernel_rfl))
  f274 := Tryd.func141.trans (congrArg some (by kernel_rfl))
  f275 := Tryd.func142.trans (congrArg some (by kernel_rfl))
  f276 := Tryd.func132.trans (congrArg some (by kernel_rfl))
  f277 := Tryd.func133.trans (congrArg some (by kernel_rfl))
  f278 := Tryd.func140.trans (congrArg some (by kernel_rfl))
  f313 := Tryd.func135.trans (congrArg some (by kernel_rfl))
  t0 := Tryd.underlying0
  a0 := Tryd.isAgg0
  z0 := Tryd.sizeOf0
  v0 := Tryd.zeroValue0
  t3 := Tryd.underlying3
  a3 := Tryd.isAgg3
  z3 := Tryd.sizeOf3
  v3 := Tryd.zeroValue3
  t4 := Tryd.underlying4
  a4 := Tryd.isAgg4
  z4 := Tryd.sizeOf4
  v4 := Tryd.zeroValue4
  t5 := Tryd.underlying5
  a5 := Tryd.isAgg5
  z5 := Tryd.sizeOf5
  v5 := Tryd.zeroValue5
  t9 := Tryd.underlying9
  a9 := Tryd.isAgg9
  z9 := Tryd.sizeOf9
  v9 := Tryd.zeroValue9
  t20 := Tryd.underlying20
  a20 := Tryd.isAgg20
  z20 := Tryd.sizeOf20
  v20 := Tryd.zeroValue20
  t21 := Tryd.underlying21
  a21 := Tryd.isAgg21
  z21 := Tryd.sizeOf21
  v21 := Tryd.zeroValue21
  t37 := Tryd.underlying26
  a37 := Tryd.isAgg26
  z37 := Tryd.sizeOf26
  v37 := Tryd.zeroValue26
  t46 := Tryd.underlying91
  a46 := Tryd.isAgg91
  z46 := Tryd.sizeOf91
  v46 := Tryd.zeroValue91
  t51 := Tryd.underlying172
  a51 := Tryd.isAgg172
  z51 := Tryd.sizeOf172
  v51 := Tryd.zeroValue172
  t70 := Tryd.underlying152
  a70 := Tryd.isAgg152
  z70 := Tryd.sizeOf152
  v70 := Tryd.zeroValue152
  t72 := Tryd.underlying154
  a72 := Tryd.isAgg154
  z72 := Tryd.sizeOf154
  v72 := Tryd.zeroValue154
  t75 := Tryd.underlying52
  a75 := Tryd.isAgg52
  z75 := Tryd.sizeOf52
  v75 := Tryd.zeroValue52
  t76 := Tryd.underlying155
  a76 := Tryd.isAgg155
  z76 := Tryd.sizeOf155
  v76 := Tryd.zeroValue155
  t105 := Tryd.underlying161
  a105 := Tryd.isAgg161
  z105 := Tryd.sizeOf161
  v105 := Tryd.zeroValue161
  t107 := Tryd.underlying159
  a107 := Tryd.isAgg159
  z107 := Tryd.sizeOf159
  v107 := Tryd.zeroValue159
  t119 := Tryd.underlying151
  a119 := Tryd.isAgg151
  z119 := Tryd.sizeOf151
  t127 := Tryd.underlying177
  a127 := Tryd.isAgg177
  z127 := Tryd.sizeOf177
  v127 := Tryd.zeroValue177
  t138 := Tryd.underlying213
  a138 := Tryd.isAgg213
  z138 := Tryd.sizeOf213
  v138 := Tryd.zeroValue213
  t139 := Tryd.underlying214
  a139 := Tryd.isAgg214
  z139 := Tryd.sizeOf214
  v139 := Tryd.zeroValue214
  t160 := Tryd.underlying215
  a160 := Tryd.isAgg215
  z160 := Tryd.sizeOf215
  v160 := Tryd.zeroValue215
  t162 := Tryd.underlying204
  a162 := Tryd.isAgg204
  z162 := Tryd.sizeOf204
  v162 := Tryd.zeroValue204
  t164 := Tryd.underlying199
  a164 := Tryd.isAgg199
  z164 := Tryd.sizeOf199
  v164 := Tryd.zeroValue199
  t203 := Tryd.underlying202
  a203 := Tryd.isAgg202
  z203 := Tryd.sizeOf202
  v203 := Tryd.zeroValue202
  t206 := Tryd.underlying220
  a206 := Tryd.isAgg220
  z206 := Tryd.sizeOf220
  v206 := Tryd.zeroValue220
  t208 := Tryd.underlying222
  a208 := Tryd.isAgg222
  z208 := Tryd.sizeOf222
  v208 := Tryd.zeroValue222
  g3 := by kernel_rfl
  g4 := by kernel_rfl
  g13 := by kernel_rfl
end Go.Proofs.YtajakjfmeoclaaaDoor
namespace Go.Proofs.YtajakjfmeoclaaaDoor.Ns
open Go Go.Lx Go.Nx Go.Km Go.Mx Go.Kb Go.Nm
set_option linter.unusedVariables false
set_option maxRecDepth 100000

noncomputable abbrev P : Program := Tryd.prog
def NJ : NI := { e8 := 5, index := 84, replace := 60, trim := 61, lower := 62, strnorm := 41, blank := 40, normal := 21 }
theorem names : (P.funcs.toList.all fun fn => fn.name != "runtime.NumGoroutine") = true := by kernel_rfl
theorem hn : Named P := fun f fn h => by
  have := (List.all_eq_true.1 names) fn (by rw [← Array.getElem?_toList] at h; exact List.mem_of_getElem? h)
  simpa using this
theorem f_index : fnP P NJ.index 2 = some p_index := by kernel_rfl
theorem f_replace : fnP P NJ.replace 3 = some (p_replace NJ) := by kernel_rfl
theorem f_strnorm : fnP P NJ.strnorm 1 = some (p_strnorm NJ) := by kernel_rfl
theorem f_blank : fnP P NJ.blank 1 = some p_blank := by kernel_rfl
theorem f_normal : fnP P NJ.normal 1 = some (p_normal NJ) := by kernel_rfl
theorem f_new : fnP P 42 1 = some (p_new 119) := by kernel_rfl

/-- The table of blanks. -/
def X (w : World) : Prop := Lib.TabIs P w "strings.asciiSpace" .u8 Lib.asciiSpaceTab
theorem gX : P.globalNamed "strings.asciiSpace" = some (Tryd.laysTrim_ren.g 0) := by kernel_rfl
theorem stays : Stays X := fun w w' h k => Joins.tab_stays gX h (k.below (B := w.heap.size) (fun x hx => by cases hx) (Nat.le_refl _)) (Nat.le_refl _)

theorem trim_ok : TrimOk P X NJ.trim := by
  intro w l K hlow hlen hx hk
  have h := Any.strings_TrimSpace Tryd.laysTrim ⟨gX⟩ ⟨l.toArray⟩ w (by show l.length ≤ _; omega) (fun j b hj => hlow b (List.mem_of_getElem? hj)) hx
  refine Calls.mono (show Calls P NJ.trim #[S l] w _ from h) ?_
  rintro e w' ⟨rfl, rfl⟩
  exact hk _ ⟨rfl, rfl, rfl, by rw [Lib.bytesWorld_size]; omega, fun k hk _ => Lib.bytesWorld_at_old w _ _ k hk⟩

theorem extra : Builder.Extra P Tryd.laysLower_ren where
  sizeBuilder := by kernel_rfl
  liesBuilder := by kernel_rfl
  t5 := by kernel_rfl
  a5 := fun _ => by kernel_rfl
  z5 := fun _ => by kernel_rfl
  v5 := fun _ => by kernel_rfl
  infoByte := by kernel_rfl
  cellsByte := by kernel_rfl
  sizeByte := by kernel_rfl
  neB5 := by decide

theorem lower_ok : LowerOk P NJ.lower := by
  intro w l K hlow hlen hk
  have h := Any.strings_ToLower_ascii Tryd.laysLower extra ⟨l.toArray⟩ w (by show l.length ≤ _; omega) (fun j b hj => hlow b (List.mem_of_getElem? hj))
  refine Calls.mono (show Calls P NJ.lower #[S l] w _ from h) ?_
  rintro e w' ⟨rfl, hb⟩
  exact hk _ (Keep.of_below hb)

theorem parses {msg : Bs} {ws : List (Bs × Int)} {f : FuncId} (hf : fnP P f 1 = some (p_parse NJ 42 msg ws)) : ParseOk P X 119 ws f :=
  parse_ok hn stays f_index f_replace trim_ok lower_ok f_strnorm f_new hf

theorem own : ownKnob Tryd.prog.godebug = none := by kernel_rfl
end Go.Proofs.YtajakjfmeoclaaaDoor.Ns
