import Derived.Test.YtmlmiljgbaalgaaGreatDoorSb
import Derived.Test.YtmlmiljgbaalgaaGreatDoorRows
import Derived.KernelRfl
import Derived.WalkKit
namespace Go.Proofs.YtmlmiljgbaalgaaGreatDoor
open Go.Shelf
def Tryz.sl6_ren:Go.Shelf.Ren:=⟨fun | 6=>89 | 10=>91 | 11=>92 | 12=>93 | 13=>94 | 14=>95 | 24=>88 | 25=>105 | 26=>106 | 27=>107 | 28=>108 | 29=>109 | 30=>110 | 31=>111 | 32=>112 | 33=>113 | 34=>114 | 35=>115 | 36=>116 | 37=>117 | 38=>118 | 39=>119 | n=>n,fun | 20=>20 | 26=>147 | 35=>151 | 0=>0 | 37=>153 | 3=>3 | 41=>91 | 44=>158 | 49=>59 | 51=>74 | 4=>4 | 54=>165 | 53=>164 | 58=>169 | 5=>5 | 9=>9 | 60=>171 | 64=>174 | 66=>176 | 67=>177 | 17=>17 | 32=>148 | 33=>149 | 82=>140 | 12=>12 | 75=>133 | 76=>134 | 77=>135 | 78=>136 | 79=>137 | 80=>138 | n=>n,fun | n=>n⟩
theorem Tryz.sl6:Go.Proofs.LaysGg.n6 Tryz.prog Tryz.sl6_ren where
 mixed:=by kernel_rfl
 f6:=Tryz.func89.trans (congrArg some (by kernel_rfl))
 f10:=Tryz.func91.trans (congrArg some (by kernel_rfl))
 f11:=Tryz.func92.trans (congrArg some (by kernel_rfl))
 f12:=Tryz.func93.trans (congrArg some (by kernel_rfl))
 f13:=Tryz.func94.trans (congrArg some (by kernel_rfl))
 f14:=Tryz.func95.trans (congrArg some (by kernel_rfl))
 f24:=Tryz.func88.trans (congrArg some (by kernel_rfl))
 f25:=Tryz.func105.trans (congrArg some (by kernel_rfl))
 f26:=Tryz.func106.trans (congrArg some (by kernel_rfl))
 f27:=Tryz.func107.trans (congrArg some (by kernel_rfl))
 f28:=Tryz.func108.trans (congrArg some (by kernel_rfl))
 f29:=Tryz.func109.trans (congrArg some (by kernel_rfl))
 f30:=Tryz.func110.trans (congrArg some (by kernel_rfl))
 f31:=Tryz.func111.trans (congrArg some (by kernel_rfl))
 f32:=Tryz.func112.trans (congrArg some (by kernel_rfl))
 f33:=Tryz.func113.trans (congrArg some (by kernel_rfl))
 f34:=Tryz.func114.trans (congrArg some (by kernel_rfl))
 f35:=Tryz.func115.trans (congrArg some (by kernel_rfl))
 f36:=Tryz.func116.trans (congrArg some (by kernel_rfl))
 f37:=Tryz.func117.trans (congrArg some (by kernel_rfl))
 f38:=Tryz.func118.trans (congrArg some (by kernel_rfl))
 f39:=Tryz.func119.trans (congrArg some (by kernel_rfl))
 t0:=Tryz.underlying0
 a0:=Tryz.isAgg0
 z0:=Tryz.sizeOf0
 v0:=Tryz.zeroValue0
 i0:=by kernel_rfl
 t3:=Tryz.underlying3
 a3:=Tryz.isAgg3
 z3:=Tryz.sizeOf3
 v3:=Tryz.zeroValue3
 i3:=by kernel_rfl
 t4:=Tryz.underlying4
 a4:=Tryz.isAgg4
 z4:=Tryz.sizeOf4
 v4:=Tryz.zeroValue4
 i4:=by kernel_rfl
 t5:=Tryz.underlying5
 a5:=Tryz.isAgg5
 z5:=Tryz.sizeOf5
 v5:=Tryz.zeroValue5
 i5:=by kernel_rfl
 t9:=Tryz.underlying9
 a9:=Tryz.isAgg9
 z9:=Tryz.sizeOf9
 v9:=Tryz.zeroValue9
 i9:=by kernel_rfl
 t12:=Tryz.underlying12
 a12:=Tryz.isAgg12
 z12:=Tryz.sizeOf12
 v12:=Tryz.zeroValue12
 i12:=by kernel_rfl
 t17:=Tryz.underlying17
 a17:=Tryz.isAgg17
 z17:=Tryz.sizeOf17
 v17:=Tryz.zeroValue17
 i17:=by kernel_rfl
 t20:=Tryz.underlying20
 a20:=Tryz.isAgg20
 z20:=Tryz.sizeOf20
 v20:=Tryz.zeroValue20
 i20:=by kernel_rfl
 t26:=Tryz.underlying147
 a26:=Tryz.isAgg147
 z26:=Tryz.sizeOf147
 v26:=Tryz.zeroValue147
 i26:=by kernel_rfl
 t32:=Tryz.underlying148
 a32:=Tryz.isAgg148
 z32:=Tryz.sizeOf148
 v32:=Tryz.zeroValue148
 i32:=by kernel_rfl
 t33:=Tryz.underlying149
 a33:=Tryz.isAgg149
 z33:=Tryz.sizeOf149
 v33:=Tryz.zeroValue149
 i33:=by kernel_rfl
 t35:=Tryz.underlying151
 a35:=Tryz.isAgg151
 z35:=Tryz.sizeOf151
 v35:=Tryz.zeroValue151
 i35:=by kernel_rfl
 t37:=Tryz.underlying153
 a37:=Tryz.isAgg153
 z37:=Tryz.sizeOf153
 v37:=Tryz.zeroValue153
 i37:=by kernel_rfl
 t41:=Tryz.underlying91
 a41:=Tryz.isAgg91
 z41:=Tryz.sizeOf91
 v41:=Tryz.zeroValue91
 i41:=by kernel_rfl
 t44:=Tryz.underlying158
 a44:=Tryz.isAgg158
 z44:=Tryz.sizeOf158
 v44:=Tryz.zeroValue158
 i44:=by kernel_rfl
 t49:=Tryz.underlying59
 a49:=Tryz.isAgg59
 z49:=Tryz.sizeOf59
 v49:=Tryz.zeroValue59
 i49:=by kernel_rfl
 t51:=Tryz.underlying74
 a51:=Tryz.isAgg74
 z51:=Tryz.sizeOf74
 v51:=Tryz.zeroValue74
 i51:=by kernel_rfl
 t53:=Tryz.underlying164
 a53:=Tryz.isAgg164
 z53:=Tryz.sizeOf164
 v53:=Tryz.zeroValue164
 i53:=by kernel_rfl
 t54:=Tryz.underlying165
 a54:=Tryz.isAgg165
 z54:=Tryz.sizeOf165
 v54:=Tryz.zeroValue165
 i54:=by kernel_rfl
 t58:=Tryz.underlying169
 a58:=Tryz.isAgg169
 z58:=Tryz.sizeOf169
 v58:=Tryz.zeroValue169
 i58:=by kernel_rfl
 t60:=Tryz.underlying171
 a60:=Tryz.isAgg171
 z60:=Tryz.sizeOf171
 v60:=Tryz.zeroValue171
 i60:=by kernel_rfl
 t64:=Tryz.underlying174
 a64:=Tryz.isAgg174
 z64:=Tryz.sizeOf174
 v64:=Tryz.zeroValue174
 i64:=by kernel_rfl
 t66:=Tryz.underlying176
 a66:=Tryz.isAgg176
 z66:=Tryz.sizeOf176
 v66:=Tryz.zeroValue176
 i66:=by kernel_rfl
 t67:=Tryz.underlying177
 a67:=Tryz.isAgg177
 z67:=Tryz.sizeOf177
 v67:=Tryz.zeroValue177
 i67:=by kernel_rfl
 t75:=Tryz.underlying133
 a75:=Tryz.isAgg133
 z75:=Tryz.sizeOf133
 v75:=Tryz.zeroValue133
 i75:=by kernel_rfl
 t76:=Tryz.underlying134
 a76:=Tryz.isAgg134
 z76:=Tryz.sizeOf134
 v76:=Tryz.zeroValue134
 i76:=by kernel_rfl
 t77:=Tryz.underlying135
 a77:=Tryz.isAgg135
 z77:=Tryz.sizeOf135
 v77:=Tryz.zeroValue135
 i77:=by kernel_rfl
 t78:=Tryz.underlying136
 a78:=Tryz.isAgg136
 z78:=Tryz.sizeOf136
 v78:=Tryz.zeroValue136
 i78:=by kernel_rfl
 t79:=Tryz.underlying137
 a79:=Tryz.isAgg137
 z79:=Tryz.sizeOf137
 v79:=Tryz.zeroValue137
 i79:=by kernel_rfl
 t80:=Tryz.underlying138
 a80:=Tryz.isAgg138
 z80:=Tryz.sizeOf138
 v80:=Tryz.zeroValue138
 i80:=by kernel_rfl
 t82:=Tryz.underlying140
 a82:=Tryz.isAgg140
 z82:=Tryz.sizeOf140
 v82:=Tryz.zeroValue140
 i82:=by kernel_rfl
end Go.Proofs.YtmlmiljgbaalgaaGreatDoor
namespace Go.Proofs.YtmlmiljgbaalgaaGreatDoor.Sg
open Go Go.Lx Go.Nx Go.Km Go.Mx Go.Kb Go.Mr
set_option linter.unusedVariables false
set_option maxRecDepth 100000
noncomputable abbrev P:Program:=Tryz.prog
def IJ:J:={ e8:=5,lens:=⟨#[1,1,1,1,1,1,1,1,2,2,2,2,2,2,2,3,3,3,3,3,3,3,4,4,4,4,4,4,4,5,5,5,5,5,5,5,6,6,6,6,6,6,6,7,7,7,7,7,7,7,8,8,8,8,8,8,8,9,9,9,9,9,9,9,10,0,0,0,0,0,0,0,0,0,0,0,0,0,0,0,0,0,0,0,0,0,0,0,0,0,0,0,0,0,0,0,0,0,0,0,0,0,0,0,0,0,0,0,0,0,0,0,0,0,0,0,0,0,0,0,0,0,0,0,0,0,0,0,0,0,0,0,0,0,0,0,0,0,0,0,0,0,0,0,0,0,0,0,0,0,0,0,0,0,0,0,0,0,0,0,0,0,0,0,0,0,0,0,0,0,0,0,0,0,0,0,0,0,0,0,0,0,0,0,0,0,0,0,0,0,0,0,0,0,0,0,0,0,0,0,0,0,0,0,0,0,0,0,0,0,0,0,0,0,0,0,0,0,0,0,0,0,0,0,0,0,0,0,0,0,0,0,0,0,0,0,0,0,0,0,0,0,0,0,0,0,0,0,0,0,0,0,0,0,0,0]⟩,tab8:=⟨#[0,1,2,2,3,3,3,3,4,4,4,4,4,4,4,4,5,5,5,5,5,5,5,5,5,5,5,5,5,5,5,5,6,6,6,6,6,6,6,6,6,6,6,6,6,6,6,6,6,6,6,6,6,6,6,6,6,6,6,6,6,6,6,6,7,7,7,7,7,7,7,7,7,7,7,7,7,7,7,7,7,7,7,7,7,7,7,7,7,7,7,7,7,7,7,7,7,7,7,7,7,7,7,7,7,7,7,7,7,7,7,7,7,7,7,7,7,7,7,7,7,7,7,7,7,7,7,7,8,8,8,8,8,8,8,8,8,8,8,8,8,8,8,8,8,8,8,8,8,8,8,8,8,8,8,8,8,8,8,8,8,8,8,8,8,8,8,8,8,8,8,8,8,8,8,8,8,8,8,8,8,8,8,8,8,8,8,8,8,8,8,8,8,8,8,8,8,8,8,8,8,8,8,8,8,8,8,8,8,8,8,8,8,8,8,8,8,8,8,8,8,8,8,8,8,8,8,8,8,8,8,8,8,8,8,8,8,8,8,8,8,8,8,8,8,8,8,8,8,8,8,8,8,8,8,8]⟩,err:=1,appendBytes:=0,appendCompactBytes:=0,appendCompactString:=0,appendInt16:=47,appendInt32:=48,appendString:=57,appendUint16:=55,appendUint32:=56,appendUint64:=84,appendUvarint:=81,len32:=88,rInt16:=0,rInt32:=42,rSpan:=54,rUvarint:=52,rreadUint64:=51,unsafeString:=0,uvarint:=59,uvarintLen:=85,appendEach1:=87,each:=86,each1:=90,set:=53,slice:=89,uint16:=0,uint32:=50,uint64:=58,be:=0,eG:=59,tSl:=145 }
theorem names : (P.funcs.toList.all fun fn => fn.name != "runtime.NumGoroutine") = true := by kernel_rfl
theorem hn:Named P:=fun f fn h=>by
 have:=(List.all_eq_true.1 names) fn (by rw [← Array.getElem?_toList] at h;exact List.mem_of_getElem? h)
 simpa using this
theorem tab8_ok:Tab8 IJ.tab8:=by
 have h:((List.range 256).all fun n=>IJ.tab8[n]? == some (UInt8.ofNat (bitlen n)))=true:=by kernel_rfl
 intro n hn
 simpa using (List.all_eq_true.1 h) n (by simpa using hn)
theorem lens_ok:LensTab IJ.lens:=by
 have h:((List.range 33).all fun n=>IJ.lens[n]? == some (UInt8.ofNat (groups n)))=true:=by kernel_rfl
 intro n hn
 simpa using (List.all_eq_true.1 h) n (by simp only [List.mem_range];omega)
theorem f_uint32:fnP P 50 2=some (p_uint32 IJ):=by kernel_rfl
theorem f_uint64:fnP P 58 2=some (p_uint64 IJ):=by kernel_rfl
theorem f_rInt32:fnP P 42 1=some (p_rInt32 IJ):=by kernel_rfl
theorem f_rreadUint64:fnP P 51 1=some (p_rreadUint64 IJ):=by kernel_rfl
theorem f_rInt64:fnP P 43 1=some (p_rInt64 IJ.toIds):=by kernel_rfl
theorem f_rSpan:fnP P 54 2=some (p_rSpan IJ.toIds):=by kernel_rfl
theorem f_uvarint:fnP P 59 1=some (p_uvarint IJ):=by kernel_rfl
theorem f_rUvarint:fnP P 52 1=some (p_rUvarint IJ.toIds):=by kernel_rfl
theorem f_rComplete:fnP P 45 1=some (p_rComplete IJ.toIds):=by kernel_rfl
theorem f_set:fnP P 53 3=some (p_set IJ):=by kernel_rfl
theorem f_rt:fnP P 44 1=some (p_internalReadTags IJ):=by kernel_rfl
theorem f_len32:fnP P 88 1=some (p_len32 IJ.toIds):=by kernel_rfl
theorem f_uvarintLen:fnP P 85 1=some (p_uvarintLen IJ.toIds):=by kernel_rfl
theorem f_appendUvarint:fnP P 81 2=some (p_appendUvarint IJ.toIds):=by kernel_rfl
theorem f_appendUint16:fnP P 55 2=some (p_appendUint16 IJ.toIds):=by kernel_rfl
theorem f_appendUint32:fnP P 56 2=some (p_appendUint32 IJ.toIds):=by kernel_rfl
theorem f_appendUint64:fnP P 84 2=some (p_appendUint64 IJ.toIds):=by kernel_rfl
theorem f_appendInt16:fnP P 47 2=some (p_appendInt16 IJ.toIds):=by kernel_rfl
theorem f_appendInt32:fnP P 48 2=some (p_appendInt32 IJ.toIds):=by kernel_rfl
theorem f_appendInt64:fnP P 80 2=some (p_appendInt64 IJ.toIds):=by kernel_rfl
theorem f_appendString:fnP P 57 2=some (p_appendString IJ.toIds):=by kernel_rfl
theorem f_appendNullableString:fnP P 49 2=some (p_appendNullableString IJ.toIds):=by kernel_rfl
theorem f_len:fnP P 82 1=some (p_len IJ):=by kernel_rfl
theorem f_appendEach1:fnP P 87 3=some (p_appendEach1 IJ):=by kernel_rfl
theorem f_each:fnP P 86 2=some (p_each IJ):=by kernel_rfl
theorem f_appendEach:fnP P 83 2=some (p_appendEach IJ):=by kernel_rfl
theorem f_each1:fnP P 90 3=some (p_each1 IJ):=by kernel_rfl
noncomputable def siT:TypeInfo:=(P.info? 145).get (by kernel_rfl)
noncomputable def siE:TypeInfo:=(P.info? 59).get (by kernel_rfl)
theorem siK (n:Nat) (h2:2≤n):Lib.swapperK n siE 10=6:=by
 have a:siE.hasPointers=false:=by kernel_rfl
 have b:siE.bytes=4:=by kernel_rfl
 have c:(n == 0)=false:=by simp;omega
 have d:(n == 1)=false:=by simp;omega
 simp [Lib.swapperK,a,b,c,d]
theorem c_sort:SortOk P IJ.slice IJ.each1 IJ.tSl:=
 Mr.sort_ok hn Tryz.sl6 145 59 siT siE (by kernel_rfl) (by kernel_rfl) (by kernel_rfl) (by kernel_rfl) 10 (fun _=>by kernel_rfl) (by kernel_rfl) (fun _=>by kernel_rfl) f_each1
  (enters_of Tryz.func90 (by kernel_rfl) rfl) 6 101 96 97 siK (by kernel_rfl) (by kernel_rfl) (by kernel_rfl) true
  (fun args W=>run_callFunc_extern Tryz.func101 (by kernel_rfl) (by kernel_rfl) (by kernel_rfl) (e:=Extern.ReflectliteSwapper.swap true) (by kernel_rfl) args W)
theorem c_uint32:BeOk P 50 4 .u32:=uint32_ok hn f_uint32
theorem c_uint64:BeOk P 58 8 .u64:=uint64_ok hn f_uint64
theorem c_rInt32:Reads P 42 (rdI 4) (intRep .i32) (· = .int .i32 0):=rInt32_ok hn f_rInt32 c_uint32
theorem c_rreadUint64:Reads P 51 (rdU 8) (natRep .u64) (· = .int .u64 0):=rreadUint64_ok hn f_rreadUint64 c_uint64
theorem c_rInt64:Reads P 43 (rdI 8) (intRep .i64) (· = .int .i64 0):=rInt64_ok hn f_rInt64 c_rreadUint64
theorem c_rSpan:Spans P 54:=rSpan_ok hn f_rSpan
theorem c_uvarint:KUv P 59:=uvarint_ok hn f_uvarint
theorem c_rUvarint:Reads P 52 rdUv (natRep .u32) (· = .int .u32 0):=rUvarint_ok hn f_rUvarint c_uvarint
theorem c_rComplete:CompleteFn P 45 IJ.err:=rComplete_ok hn f_rComplete
theorem c_set:SetOk P 53:=set_ok hn f_set
theorem c_rt:TagsOk P 44:=rt_ok hn f_rt c_rUvarint c_rSpan c_set
theorem c_len32:Len32Ok P 88:=len32_ok hn f_len32 tab8_ok
theorem c_uvarintLen:UvLenOk P 85:=uvarintLen_ok hn f_uvarintLen c_len32 lens_ok
theorem c_appendUvarint:AppendsG P IJ.e8 81 wrUv uvRep:=appendUvarint_okG hn f_appendUvarint c_uvarintLen
theorem c_appendUint16:Appends P IJ.e8 55 (be 2) (natRep .u16):=appendUint16_ok hn f_appendUint16
theorem c_appendUint32:Appends P IJ.e8 56 (be 4) (natRep .u32):=appendUint32_ok hn f_appendUint32
theorem c_appendUint64:Appends P IJ.e8 84 (be 8) (natRep .u64):=appendUint64_ok hn f_appendUint64
theorem c_appendInt16:Appends P IJ.e8 47 (wrI 2) (intRep .i16):=appendInt16_ok hn f_appendInt16 c_appendUint16
theorem c_appendInt32:Appends P IJ.e8 48 (wrI 4) (intRep .i32):=appendInt32_ok hn f_appendInt32 c_appendUint32
theorem c_appendInt64:Appends P IJ.e8 80 (wrI 8) (intRep .i64):=appendInt64_ok hn f_appendInt64 c_appendUint64
theorem c_appendString:AppPrim P IJ.e8 57 (.str false):=appendString_ok hn f_appendString c_appendInt16
theorem c_appendNullableString:AppPrim P IJ.e8 49 (.nstr false):=appendNullableString_ok hn f_appendNullableString c_appendInt16 c_appendString
theorem c_len:LenOk P 82:=len_ok' hn f_len
theorem c_appendEach1:CbOk P IJ.e8 87:=cb_ok hn f_appendEach1 c_appendUvarint
theorem c_each:EachOk P IJ.e8 86 IJ.appendEach1:=each_ok hn f_each c_sort c_appendEach1 (fnP_fn f_appendEach1)
theorem c_appendEach:AppEachOk P IJ.e8 83:=appEach_ok hn f_appendEach c_each
def primL:List (Nat×Prim):=[(42,.i32),(43,.i64)]
theorem primL_ok:AllP (fun f p=>PrimOk P f p) primL:=⟨prim_i32 c_rInt32,prim_i64 c_rInt64,trivial⟩
def cntL:List (Nat×Bool):=[]
theorem cntL_ok:AllP (fun f c=>Counts P f c) cntL:=trivial
noncomputable def defL:List (Nat×List (Nat×Value)):=[(24,(defC P 24).getD [])]
theorem defL_ok:AllP (fun f ds=>DefOk P f ds) defL:=⟨defC_ok hn (show defC P 24=some ((defC P 24).getD []) by kernel_rfl),trivial⟩
noncomputable def TT:Tab:={ prim:=Mr.look primL,cnt:=Mr.look cntL,tags:=44,okF:=none,compl:=45,defs:=Mr.look defL }
theorem TT_ok:TabOk P TT IJ.err:=⟨look_ok primL_ok,look_ok cntL_ok,c_rt,(fun f h=>by cases h),c_rComplete,look_ok defL_ok⟩
def appL:List (Nat×Prim):=[(47,.i16),(55,.u16),(48,.i32),(80,.i64),(57,.str false),(49,.nstr false)]
theorem appL_ok:AllP (fun f p=>AppPrim P IJ.e8 f p) appL:=⟨app_i16 c_appendInt16,app_u16 c_appendUint16,app_i32 c_appendInt32,app_i64 c_appendInt64,c_appendString,c_appendNullableString,trivial⟩
def alenL:List (Nat×Bool):=[]
theorem alenL_ok:AllP (fun f c=>Appends P IJ.e8 f (wrCount c) lenRep) alenL:=trivial
def alenNL:List (Nat×Bool):=[]
theorem alenNL_ok:AllP (fun f c=>AppN P IJ.e8 f c) alenNL:=trivial
def WW:WTab:={ app:=Mr.look appL,alen:=Mr.look alenL,alenN:=Mr.look alenNL,tlen:=82,uv:=81,each:=83 }
theorem WW_ok:WTabOk P WW IJ.e8:=⟨look_ok appL_ok,look_ok alenL_ok,look_ok alenNL_ok,c_len,c_appendUvarint.app,c_appendEach⟩
def SJ:Sp.SI:={ e8:=5,eT:=61,atF:=27,counted:=39,fieldF:=26,fixed:=21,hasF:=25,knownF:=28,nullF:=37,partF:=17,things:=38,unknown:=31,usual:=29,uvarint:=30,valueF:=40,whole:=32,width:=41,write:=9,zzFits3:=14,zzFits4:=23 }
theorem q_has:fnP P 25 2=some (Sp.q_has SJ):=by kernel_rfl
theorem q_null:fnP P 37 3=some (Sp.q_null SJ):=by kernel_rfl
theorem q_at1:fnP P 27 2=some (Sp.q_at SJ):=by kernel_rfl
theorem q_whole:fnP P 32 1=some (Sp.q_whole SJ):=by kernel_rfl
theorem q_things:fnP P 38 1=some (Sp.q_things SJ):=by kernel_rfl
theorem q_width:fnP P 41 1=some (Sp.q_width SJ):=by kernel_rfl
theorem q_fixed:fnP P 21 2=some (Sp.q_fixed SJ):=by kernel_rfl
theorem q_uvarint:fnP P 30 1=some (Sp.q_uvarint SJ):=by kernel_rfl
theorem q_counted:fnP P 39 4=some (Sp.q_counted SJ):=by kernel_rfl
theorem q_known:fnP P 28 1=some (Sp.q_known SJ):=by kernel_rfl
theorem q_unknown:fnP P 31 2=some (Sp.q_unknown SJ):=by kernel_rfl
theorem q_value:fnP P 40 6=some (Sp.q_value SJ):=by kernel_rfl
theorem q_field:fnP P 26 4=some (Sp.q_field SJ):=by kernel_rfl
theorem q_part:fnP P 17 4=some (Sp.q_part SJ):=by kernel_rfl
theorem q_write:fnP P 9 3=some (Sp.q_write SJ):=by kernel_rfl
theorem q_zz3:fnP P 14 1=some (Sp.q_zzFits3 SJ):=by kernel_rfl
theorem q_zz4:fnP P 23 1=some (Sp.q_zzFits4 SJ):=by kernel_rfl
theorem fns:Sp.Fns P SJ:=⟨hn,q_has,q_null,q_at1,q_whole,q_things,q_width,q_fixed,q_uvarint,q_counted,q_known,q_unknown,q_value,q_field,q_part,q_write,q_zz3,q_zz4⟩
end Go.Proofs.YtmlmiljgbaalgaaGreatDoor.Sg

