import Derived.Test.YtlbojjkfjhnaaaaGreatDoorSb
import Derived.Test.YtlbojjkfjhnaaaaGreatDoorRows
import Derived.KernelRfl
import Derived.WalkKit
namespace Go.Proofs.YtlbojjkfjhnaaaaGreatDoor
open Go.Shelf
def Tryz.sl6_ren:Go.Shelf.Ren:=⟨fun | 6=>172 | 10=>175 | 11=>176 | 12=>177 | 13=>178 | 14=>179 | 24=>171 | 25=>189 | 26=>190 | 27=>191 | 28=>192 | 29=>193 | 30=>194 | 31=>195 | 32=>196 | 33=>197 | 34=>198 | 35=>199 | 36=>200 | 37=>201 | 38=>202 | 39=>203 | n=>n,fun | 20=>20 | 26=>216 | 35=>221 | 0=>0 | 37=>223 | 3=>3 | 41=>192 | 44=>228 | 49=>73 | 51=>95 | 4=>4 | 54=>235 | 53=>234 | 58=>239 | 5=>5 | 9=>9 | 60=>241 | 64=>244 | 66=>246 | 67=>247 | 17=>17 | 32=>218 | 33=>219 | 82=>262 | 12=>12 | 75=>255 | 76=>256 | 77=>257 | 78=>258 | 79=>259 | 80=>260 | n=>n,fun | n=>n⟩
theorem Tryz.sl6:Go.Proofs.LaysGg.n6 Tryz.prog Tryz.sl6_ren where
 mixed:=by kernel_rfl
 f6:=Tryz.func172.trans (congrArg some (by kernel_rfl))
 f10:=Tryz.func175.trans (congrArg some (by kernel_rfl))
 f11:=Tryz.func176.trans (congrArg some (by kernel_rfl))
 f12:=Tryz.func177.trans (congrArg some (by kernel_rfl))
 f13:=Tryz.func178.trans (congrArg some (by kernel_rfl))
 f14:=Tryz.func179.trans (congrArg some (by kernel_rfl))
 f24:=Tryz.func171.trans (congrArg some (by kernel_rfl))
 f25:=Tryz.func189.trans (congrArg some (by kernel_rfl))
 f26:=Tryz.func190.trans (congrArg some (by kernel_rfl))
 f27:=Tryz.func191.trans (congrArg some (by kernel_rfl))
 f28:=Tryz.func192.trans (congrArg some (by kernel_rfl))
 f29:=Tryz.func193.trans (congrArg some (by kernel_rfl))
 f30:=Tryz.func194.trans (congrArg some (by kernel_rfl))
 f31:=Tryz.func195.trans (congrArg some (by kernel_rfl))
 f32:=Tryz.func196.trans (congrArg some (by kernel_rfl))
 f33:=Tryz.func197.trans (congrArg some (by kernel_rfl))
 f34:=Tryz.func198.trans (congrArg some (by kernel_rfl))
 f35:=Tryz.func199.trans (congrArg some (by kernel_rfl))
 f36:=Tryz.func200.trans (congrArg some (by kernel_rfl))
 f37:=Tryz.func201.trans (congrArg some (by kernel_rfl))
 f38:=Tryz.func202.trans (congrArg some (by kernel_rfl))
 f39:=Tryz.func203.trans (congrArg some (by kernel_rfl))
 t0:=Tryz.underlying0
 a0:=Tryz.isAgg0
 z0:=Tryz.sizeOf0
 v0:=Tryz.zeroValue0
 i0:=by kernel_rfl
 t3:=Tryz.underlying3
 a3:=Tryz.isAgg3
 z3:=Tryz.sizeOf3
 v3:=Tryz.zeroValue3
 i3:=by kernel_rfl
 t4:=Tryz.underlying4
 a4:=Tryz.isAgg4
 z4:=Tryz.sizeOf4
 v4:=Tryz.zeroValue4
 i4:=by kernel_rfl
 t5:=Tryz.underlying5
 a5:=Tryz.isAgg5
 z5:=Tryz.sizeOf5
 v5:=Tryz.zeroValue5
 i5:=by kernel_rfl
 t9:=Tryz.underlying9
 a9:=Tryz.isAgg9
 z9:=Tryz.sizeOf9
 v9:=Tryz.zeroValue9
 i9:=by kernel_rfl
 t12:=Tryz.underlying12
 a12:=Tryz.isAgg12
 z12:=Tryz.sizeOf12
 v12:=Tryz.zeroValue12
 i12:=by kernel_rfl
 t17:=Tryz.underlying17
 a17:=Tryz.isAgg17
 z17:=Tryz.sizeOf17
 v17:=Tryz.zeroValue17
 i17:=by kernel_rfl
 t20:=Tryz.underlying20
 a20:=Tryz.isAgg20
 z20:=Tryz.sizeOf20
 v20:=Tryz.zeroValue20
 i20:=by kernel_rfl
 t26:=Tryz.underlying216
 a26:=Tryz.isAgg216
 z26:=Tryz.sizeOf216
 v26:=Tryz.zeroValue216
 i26:=by kernel_rfl
 t32:=Tryz.underlying218
 a32:=Tryz.isAgg218
 z32:=Tryz.sizeOf218
 v32:=Tryz.zeroValue218
 i32:=by kernel_rfl
 t33:=Tryz.underlying219
 a33:=Tryz.isAgg219
 z33:=Tryz.sizeOf219
 v33:=Tryz.zeroValue219
 i33:=by kernel_rfl
 t35:=Tryz.underlying221
 a35:=Tryz.isAgg221
 z35:=Tryz.sizeOf221
 v35:=Tryz.zeroValue221
 i35:=by kernel_rfl
 t37:=Tryz.underlying223
 a37:=Tryz.isAgg223
 z37:=Tryz.sizeOf223
 v37:=Tryz.zeroValue223
 i37:=by kernel_rfl
 t41:=Tryz.underlying192
 a41:=Tryz.isAgg192
 z41:=Tryz.sizeOf192
 v41:=Tryz.zeroValue192
 i41:=by kernel_rfl
 t44:=Tryz.underlying228
 a44:=Tryz.isAgg228
 z44:=Tryz.sizeOf228
 v44:=Tryz.zeroValue228
 i44:=by kernel_rfl
 t49:=Tryz.underlying73
 a49:=Tryz.isAgg73
 z49:=Tryz.sizeOf73
 v49:=Tryz.zeroValue73
 i49:=by kernel_rfl
 t51:=Tryz.underlying95
 a51:=Tryz.isAgg95
 z51:=Tryz.sizeOf95
 v51:=Tryz.zeroValue95
 i51:=by kernel_rfl
 t53:=Tryz.underlying234
 a53:=Tryz.isAgg234
 z53:=Tryz.sizeOf234
 v53:=Tryz.zeroValue234
 i53:=by kernel_rfl
 t54:=Tryz.underlying235
 a54:=Tryz.isAgg235
 z54:=Tryz.sizeOf235
 v54:=Tryz.zeroValue235
 i54:=by kernel_rfl
 t58:=Tryz.underlying239
 a58:=Tryz.isAgg239
 z58:=Tryz.sizeOf239
 v58:=Tryz.zeroValue239
 i58:=by kernel_rfl
 t60:=Tryz.underlying241
 a60:=Tryz.isAgg241
 z60:=Tryz.sizeOf241
 v60:=Tryz.zeroValue241
 i60:=by kernel_rfl
 t64:=Tryz.underlying244
 a64:=Tryz.isAgg244
 z64:=Tryz.sizeOf244
 v64:=Tryz.zeroValue244
 i64:=by kernel_rfl
 t66:=Tryz.underlying246
 a66:=Tryz.isAgg246
 z66:=Tryz.sizeOf246
 v66:=Tryz.zeroValue246
 i66:=by kernel_rfl
 t67:=Tryz.underlying247
 a67:=Tryz.isAgg247
 z67:=Tryz.sizeOf247
 v67:=Tryz.zeroValue247
 i67:=by kernel_rfl
 t75:=Tryz.underlying255
 a75:=Tryz.isAgg255
 z75:=Tryz.sizeOf255
 v75:=Tryz.zeroValue255
 i75:=by kernel_rfl
 t76:=Tryz.underlying256
 a76:=Tryz.isAgg256
 z76:=Tryz.sizeOf256
 v76:=Tryz.zeroValue256
 i76:=by kernel_rfl
 t77:=Tryz.underlying257
 a77:=Tryz.isAgg257
 z77:=Tryz.sizeOf257
 v77:=Tryz.zeroValue257
 i77:=by kernel_rfl
 t78:=Tryz.underlying258
 a78:=Tryz.isAgg258
 z78:=Tryz.sizeOf258
 v78:=Tryz.zeroValue258
 i78:=by kernel_rfl
 t79:=Tryz.underlying259
 a79:=Tryz.isAgg259
 z79:=Tryz.sizeOf259
 v79:=Tryz.zeroValue259
 i79:=by kernel_rfl
 t80:=Tryz.underlying260
 a80:=Tryz.isAgg260
 z80:=Tryz.sizeOf260
 v80:=Tryz.zeroValue260
 i80:=by kernel_rfl
 t82:=Tryz.underlying262
 a82:=Tryz.isAgg262
 z82:=Tryz.sizeOf262
 v82:=Tryz.zeroValue262
 i82:=by kernel_rfl
end Go.Proofs.YtlbojjkfjhnaaaaGreatDoor
namespace Go.Proofs.YtlbojjkfjhnaaaaGreatDoor.Sg
open Go Go.Lx Go.Nx Go.Km Go.Mx Go.Kb Go.Mr
set_option linter.unusedVariables false
set_option maxRecDepth 100000
noncomputable abbrev P:Program:=Tryz.prog
def IJ:J:={ e8:=5,lens:=⟨#[1,1,1,1,1,1,1,1,2,2,2,2,2,2,2,3,3,3,3,3,3,3,4,4,4,4,4,4,4,5,5,5,5,5,5,5,6,6,6,6,6,6,6,7,7,7,7,7,7,7,8,8,8,8,8,8,8,9,9,9,9,9,9,9,10,0,0,0,0,0,0,0,0,0,0,0,0,0,0,0,0,0,0,0,0,0,0,0,0,0,0,0,0,0,0,0,0,0,0,0,0,0,0,0,0,0,0,0,0,0,0,0,0,0,0,0,0,0,0,0,0,0,0,0,0,0,0,0,0,0,0,0,0,0,0,0,0,0,0,0,0,0,0,0,0,0,0,0,0,0,0,0,0,0,0,0,0,0,0,0,0,0,0,0,0,0,0,0,0,0,0,0,0,0,0,0,0,0,0,0,0,0,0,0,0,0,0,0,0,0,0,0,0,0,0,0,0,0,0,0,0,0,0,0,0,0,0,0,0,0,0,0,0,0,0,0,0,0,0,0,0,0,0,0,0,0,0,0,0,0,0,0,0,0,0,0,0,0,0,0,0,0,0,0,0,0,0,0,0,0,0,0,0,0,0,0]⟩,tab8:=⟨#[0,1,2,2,3,3,3,3,4,4,4,4,4,4,4,4,5,5,5,5,5,5,5,5,5,5,5,5,5,5,5,5,6,6,6,6,6,6,6,6,6,6,6,6,6,6,6,6,6,6,6,6,6,6,6,6,6,6,6,6,6,6,6,6,7,7,7,7,7,7,7,7,7,7,7,7,7,7,7,7,7,7,7,7,7,7,7,7,7,7,7,7,7,7,7,7,7,7,7,7,7,7,7,7,7,7,7,7,7,7,7,7,7,7,7,7,7,7,7,7,7,7,7,7,7,7,7,7,8,8,8,8,8,8,8,8,8,8,8,8,8,8,8,8,8,8,8,8,8,8,8,8,8,8,8,8,8,8,8,8,8,8,8,8,8,8,8,8,8,8,8,8,8,8,8,8,8,8,8,8,8,8,8,8,8,8,8,8,8,8,8,8,8,8,8,8,8,8,8,8,8,8,8,8,8,8,8,8,8,8,8,8,8,8,8,8,8,8,8,8,8,8,8,8,8,8,8,8,8,8,8,8,8,8,8,8,8,8,8,8,8,8,8,8,8,8,8,8,8,8,8,8,8,8,8,8]⟩,err:=1,appendBytes:=0,appendCompactBytes:=0,appendCompactString:=74,appendInt16:=71,appendInt32:=73,appendString:=75,appendUint16:=102,appendUint32:=125,appendUint64:=124,appendUvarint:=76,len32:=171,rInt16:=112,rInt32:=114,rSpan:=121,rUvarint:=119,rreadUint64:=167,unsafeString:=169,uvarint:=170,uvarintLen:=126,appendEach1:=128,each:=127,each1:=173,set:=120,slice:=172,uint16:=166,uint32:=168,uint64:=174,be:=0,eG:=73,tSl:=83 }
theorem names : (P.funcs.toList.all fun fn => fn.name != "runtime.NumGoroutine") = true := by kernel_rfl
theorem hn:Named P:=fun f fn h=>by
 have:=(List.all_eq_true.1 names) fn (by rw [← Array.getElem?_toList] at h;exact List.mem_of_getElem? h)
 simpa using this
theorem tab8_ok:Tab8 IJ.tab8:=by
 have h:((List.range 256).all fun n=>IJ.tab8[n]? == some (UInt8.ofNat (bitlen n)))=true:=by kernel_rfl
 intro n hn
 simpa using (List.all_eq_true.1 h) n (by simpa using hn)
theorem lens_ok:LensTab IJ.lens:=by
 have h:((List.range 33).all fun n=>IJ.lens[n]? == some (UInt8.ofNat (groups n)))=true:=by kernel_rfl
 intro n hn
 simpa using (List.all_eq_true.1 h) n (by simp only [List.mem_range];omega)
theorem f_uint16:fnP P 166 2=some (p_uint16 IJ):=by kernel_rfl
theorem f_uint32:fnP P 168 2=some (p_uint32 IJ):=by kernel_rfl
theorem f_uint64:fnP P 174 2=some (p_uint64 IJ):=by kernel_rfl
theorem f_rInt16:fnP P 112 1=some (p_rInt16 IJ):=by kernel_rfl
theorem f_rInt32:fnP P 114 1=some (p_rInt32 IJ):=by kernel_rfl
theorem f_rreadUint64:fnP P 167 1=some (p_rreadUint64 IJ):=by kernel_rfl
theorem f_rInt64:fnP P 113 1=some (p_rInt64 IJ.toIds):=by kernel_rfl
theorem f_rSpan:fnP P 121 2=some (p_rSpan IJ.toIds):=by kernel_rfl
theorem f_uvarint:fnP P 170 1=some (p_uvarint IJ):=by kernel_rfl
theorem f_rUvarint:fnP P 119 1=some (p_rUvarint IJ.toIds):=by kernel_rfl
theorem f_rUuid:fnP P 122 1=some (p_rUuid IJ):=by kernel_rfl
theorem f_rString:fnP P 118 1=some (p_rString IJ.toIds):=by kernel_rfl
theorem f_rCompactString:fnP P 117 1=some (p_rCompactString IJ.toIds):=by kernel_rfl
theorem f_rOk:fnP P 136 1=some (p_rOk IJ.toIds):=by kernel_rfl
theorem f_rComplete:fnP P 123 1=some (p_rComplete IJ.toIds):=by kernel_rfl
theorem f_set:fnP P 120 3=some (p_set IJ):=by kernel_rfl
theorem f_rt:fnP P 144 1=some (p_internalReadTags IJ):=by kernel_rfl
theorem f_len32:fnP P 171 1=some (p_len32 IJ.toIds):=by kernel_rfl
theorem f_uvarintLen:fnP P 126 1=some (p_uvarintLen IJ.toIds):=by kernel_rfl
theorem f_appendUvarint:fnP P 76 2=some (p_appendUvarint IJ.toIds):=by kernel_rfl
theorem f_appendUint16:fnP P 102 2=some (p_appendUint16 IJ.toIds):=by kernel_rfl
theorem f_appendUint32:fnP P 125 2=some (p_appendUint32 IJ.toIds):=by kernel_rfl
theorem f_appendUint64:fnP P 124 2=some (p_appendUint64 IJ.toIds):=by kernel_rfl
theorem f_appendInt16:fnP P 71 2=some (p_appendInt16 IJ.toIds):=by kernel_rfl
theorem f_appendInt32:fnP P 73 2=some (p_appendInt32 IJ.toIds):=by kernel_rfl
theorem f_appendInt64:fnP P 72 2=some (p_appendInt64 IJ.toIds):=by kernel_rfl
theorem f_appendUuid:fnP P 78 2=some (p_appendUuid IJ):=by kernel_rfl
theorem f_appendString:fnP P 75 2=some (p_appendString IJ.toIds):=by kernel_rfl
theorem f_appendCompactString:fnP P 74 2=some (p_appendCompactString IJ.toIds):=by kernel_rfl
theorem f_len:fnP P 77 1=some (p_len IJ):=by kernel_rfl
theorem f_appendEach1:fnP P 128 3=some (p_appendEach1 IJ):=by kernel_rfl
theorem f_each:fnP P 127 2=some (p_each IJ):=by kernel_rfl
theorem f_appendEach:fnP P 79 2=some (p_appendEach IJ):=by kernel_rfl
theorem f_each1:fnP P 173 3=some (p_each1 IJ):=by kernel_rfl
noncomputable def siT:TypeInfo:=(P.info? 83).get (by kernel_rfl)
noncomputable def siE:TypeInfo:=(P.info? 73).get (by kernel_rfl)
theorem siK (n:Nat) (h2:2≤n):Lib.swapperK n siE 10=6:=by
 have a:siE.hasPointers=false:=by kernel_rfl
 have b:siE.bytes=4:=by kernel_rfl
 have c:(n == 0)=false:=by simp;omega
 have d:(n == 1)=false:=by simp;omega
 simp [Lib.swapperK,a,b,c,d]
theorem c_sort:SortOk P IJ.slice IJ.each1 IJ.tSl:=
 Mr.sort_ok hn Tryz.sl6 83 73 siT siE (by kernel_rfl) (by kernel_rfl) (by kernel_rfl) (by kernel_rfl) 10 (fun _=>by kernel_rfl) (by kernel_rfl) (fun _=>by kernel_rfl) f_each1
  (enters_of Tryz.func173 (by kernel_rfl) rfl) 6 185 180 181 siK (by kernel_rfl) (by kernel_rfl) (by kernel_rfl) true
  (fun args W=>run_callFunc_extern Tryz.func185 (by kernel_rfl) (by kernel_rfl) (by kernel_rfl) (e:=Extern.ReflectliteSwapper.swap true) (by kernel_rfl) args W)
theorem c_uint16:BeOk P 166 2 .u16:=uint16_ok hn f_uint16
theorem c_uint32:BeOk P 168 4 .u32:=uint32_ok hn f_uint32
theorem c_uint64:BeOk P 174 8 .u64:=uint64_ok hn f_uint64
theorem c_rInt16:Reads P 112 (rdI 2) (intRep .i16) (· = .int .i16 0):=rInt16_ok hn f_rInt16 c_uint16
theorem c_rInt32:Reads P 114 (rdI 4) (intRep .i32) (· = .int .i32 0):=rInt32_ok hn f_rInt32 c_uint32
theorem c_rreadUint64:Reads P 167 (rdU 8) (natRep .u64) (· = .int .u64 0):=rreadUint64_ok hn f_rreadUint64 c_uint64
theorem c_rInt64:Reads P 113 (rdI 8) (intRep .i64) (· = .int .i64 0):=rInt64_ok hn f_rInt64 c_rreadUint64
theorem c_rSpan:Spans P 121:=rSpan_ok hn f_rSpan
theorem c_uvarint:KUv P 170:=uvarint_ok hn f_uvarint
theorem c_rUvarint:Reads P 119 rdUv (natRep .u32) (· = .int .u32 0):=rUvarint_ok hn f_rUvarint c_uvarint
theorem c_rUuid:PrimOk P 122 .uuid:=rUuid_ok hn f_rUuid c_rSpan
theorem c_rString:PrimOk P 118 (.str false):=rString_ok hn f_rString c_rInt16 c_rSpan
theorem c_rCompactString:PrimOk P 117 (.str true):=rCompactString_ok hn f_rCompactString c_rUvarint c_rSpan
theorem c_rOk:OkFn P 136:=rOk_ok hn f_rOk
theorem c_rComplete:CompleteFn P 123 IJ.err:=rComplete_ok hn f_rComplete
theorem c_set:SetOk P 120:=set_ok hn f_set
theorem c_rt:TagsOk P 144:=rt_ok hn f_rt c_rUvarint c_rSpan c_set
theorem c_len32:Len32Ok P 171:=len32_ok hn f_len32 tab8_ok
theorem c_uvarintLen:UvLenOk P 126:=uvarintLen_ok hn f_uvarintLen c_len32 lens_ok
theorem c_appendUvarint:AppendsG P IJ.e8 76 wrUv uvRep:=appendUvarint_okG hn f_appendUvarint c_uvarintLen
theorem c_appendUint16:Appends P IJ.e8 102 (be 2) (natRep .u16):=appendUint16_ok hn f_appendUint16
theorem c_appendUint32:Appends P IJ.e8 125 (be 4) (natRep .u32):=appendUint32_ok hn f_appendUint32
theorem c_appendUint64:Appends P IJ.e8 124 (be 8) (natRep .u64):=appendUint64_ok hn f_appendUint64
theorem c_appendInt16:Appends P IJ.e8 71 (wrI 2) (intRep .i16):=appendInt16_ok hn f_appendInt16 c_appendUint16
theorem c_appendInt32:Appends P IJ.e8 73 (wrI 4) (intRep .i32):=appendInt32_ok hn f_appendInt32 c_appendUint32
theorem c_appendInt64:Appends P IJ.e8 72 (wrI 8) (intRep .i64):=appendInt64_ok hn f_appendInt64 c_appendUint64
theorem c_appendUuid:AppPrim P IJ.e8 78 .uuid:=appendUuid_ok hn f_appendUuid
theorem c_appendString:AppPrim P IJ.e8 75 (.str false):=appendString_ok hn f_appendString c_appendInt16
theorem c_appendCompactString:AppPrim P IJ.e8 74 (.str true):=appendCompactString_ok hn f_appendCompactString c_appendUvarint.app
theorem c_len:LenOk P 77:=len_ok' hn f_len
theorem c_appendEach1:CbOk P IJ.e8 128:=cb_ok hn f_appendEach1 c_appendUvarint
theorem c_each:EachOk P IJ.e8 127 IJ.appendEach1:=each_ok hn f_each c_sort c_appendEach1 (fnP_fn f_appendEach1)
theorem c_appendEach:AppEachOk P IJ.e8 79:=appEach_ok hn f_appendEach c_each
def primL:List (Nat×Prim):=[(112,.i16),(114,.i32),(113,.i64),(122,.uuid),(118,.str false),(117,.str true)]
theorem primL_ok:AllP (fun f p=>PrimOk P f p) primL:=⟨prim_i16 c_rInt16,prim_i32 c_rInt32,prim_i64 c_rInt64,c_rUuid,c_rString,c_rCompactString,trivial⟩
def cntL:List (Nat×Bool):=[]
theorem cntL_ok:AllP (fun f c=>Counts P f c) cntL:=trivial
noncomputable def defL:List (Nat×List (Nat×Value)):=[(69,(defC P 69).getD [])]
theorem defL_ok:AllP (fun f ds=>DefOk P f ds) defL:=⟨defC_ok hn (show defC P 69=some ((defC P 69).getD []) by kernel_rfl),trivial⟩
noncomputable def TT:Tab:={ prim:=Mr.look primL,cnt:=Mr.look cntL,tags:=144,okF:=136,compl:=123,defs:=Mr.look defL }
theorem TT_ok:TabOk P TT IJ.err:=⟨look_ok primL_ok,look_ok cntL_ok,c_rt,c_rOk,c_rComplete,look_ok defL_ok⟩
def appL:List (Nat×Prim):=[(71,.i16),(102,.u16),(73,.i32),(72,.i64),(78,.uuid),(75,.str false),(74,.str true)]
theorem appL_ok:AllP (fun f p=>AppPrim P IJ.e8 f p) appL:=⟨app_i16 c_appendInt16,app_u16 c_appendUint16,app_i32 c_appendInt32,app_i64 c_appendInt64,c_appendUuid,c_appendString,c_appendCompactString,trivial⟩
def alenL:List (Nat×Bool):=[]
theorem alenL_ok:AllP (fun f c=>Appends P IJ.e8 f (wrCount c) lenRep) alenL:=trivial
def alenNL:List (Nat×Bool):=[]
theorem alenNL_ok:AllP (fun f c=>AppN P IJ.e8 f c) alenNL:=trivial
def WW:WTab:={ app:=Mr.look appL,alen:=Mr.look alenL,alenN:=Mr.look alenNL,tlen:=77,uv:=76,each:=79 }
theorem WW_ok:WTabOk P WW IJ.e8:=⟨look_ok appL_ok,look_ok alenL_ok,look_ok alenNL_ok,c_len,c_appendUvarint.app,c_appendEach⟩
def SJ:Sp.SI:={ e8:=5,eT:=75,atF:=83,counted:=131,fieldF:=82,fixed:=31,hasF:=81,knownF:=84,nullF:=129,partF:=37,things:=130,unknown:=87,usual:=85,uvarint:=86,valueF:=132,whole:=88,width:=133,write:=14,zzFits3:=30,zzFits4:=68 }
theorem q_has:fnP P 81 2=some (Sp.q_has SJ):=by kernel_rfl
theorem q_null:fnP P 129 3=some (Sp.q_null SJ):=by kernel_rfl
theorem q_at1:fnP P 83 2=some (Sp.q_at SJ):=by kernel_rfl
theorem q_whole:fnP P 88 1=some (Sp.q_whole SJ):=by kernel_rfl
theorem q_things:fnP P 130 1=some (Sp.q_things SJ):=by kernel_rfl
theorem q_width:fnP P 133 1=some (Sp.q_width SJ):=by kernel_rfl
theorem q_fixed:fnP P 31 2=some (Sp.q_fixed SJ):=by kernel_rfl
theorem q_uvarint:fnP P 86 1=some (Sp.q_uvarint SJ):=by kernel_rfl
theorem q_counted:fnP P 131 4=some (Sp.q_counted SJ):=by kernel_rfl
theorem q_known:fnP P 84 1=some (Sp.q_known SJ):=by kernel_rfl
theorem q_unknown:fnP P 87 2=some (Sp.q_unknown SJ):=by kernel_rfl
theorem q_value:fnP P 132 6=some (Sp.q_value SJ):=by kernel_rfl
theorem q_field:fnP P 82 4=some (Sp.q_field SJ):=by kernel_rfl
theorem q_part:fnP P 37 4=some (Sp.q_part SJ):=by kernel_rfl
theorem q_write:fnP P 14 3=some (Sp.q_write SJ):=by kernel_rfl
theorem q_zz3:fnP P 30 1=some (Sp.q_zzFits3 SJ):=by kernel_rfl
theorem q_zz4:fnP P 68 1=some (Sp.q_zzFits4 SJ):=by kernel_rfl
theorem fns:Sp.Fns P SJ:=⟨hn,q_has,q_null,q_at1,q_whole,q_things,q_width,q_fixed,q_uvarint,q_counted,q_known,q_unknown,q_value,q_field,q_part,q_write,q_zz3,q_zz4⟩
end Go.Proofs.YtlbojjkfjhnaaaaGreatDoor.Sg

