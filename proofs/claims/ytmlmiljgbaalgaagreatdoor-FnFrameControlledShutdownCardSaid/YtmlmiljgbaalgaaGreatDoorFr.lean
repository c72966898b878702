import Derived.Test.YtmlmiljgbaalgaaGreatDoorSb
set_option linter.unusedSimpArgs false
set_option linter.unusedVariables false
namespace Go.Sp
open Go.Lx Go.Nx Go.Km Go.Mx Go.Kb Go.Mr
set_option linter.unusedSimpArgs false
set_option linter.unusedVariables false
structure FI where
 e8:TypeId
 tOpt:TypeId
 tReq:TypeId
 newRF:FuncId
 clientID:FuncId
 closure:FuncId
 apply:FuncId
 appReq:FuncId
 framed:FuncId
 ai16:FuncId
 ai32:FuncId
 au32:FuncId
 ans:FuncId
 as':FuncId
 key:FuncId
 getV:FuncId
 isFlex:FuncId
 app:FuncId
def p_loopRF:NP := .op (.bin .lss) [.s 3,.s 2] 4 <|
  .ite (.s 4)
   (.nil)
   (.exit) <|
  .op (.ia 1) [.s 0,.s 3] 5 <|
  .chk 5 <|
  .op .load [.q 5 0] 6 <|
  .op (.inv "pub-kmsg/pub/kmsg.apply") [.s 6, .q 1 0] 7 <|
  .op (.bin .add) [.s 3,.k (.int .i64 1)] 8 <|
  .set 9 (.s 8) <|
  .set 3 (.s 9) <|
  .nil
def p_newRF:FnP:=⟨.op (.alloc [.pointer none]) [] 1 <|
 .chk 1 <|
 .op .len [.s 0] 2 <|
 .set 3 (.k (.int .i64 0)) <|
 .loop p_loopRF <|
 .ret [.q 1 0],[.direct]⟩
def p_clientID (I:FI):FnP:=⟨.op (.box 1) [.s 0] 1 <|
 .chk 1 <|
 .op (.mkfn I.closure) [.q 1 0] 2 <|
 .op (.lit [.nilFunc] [0]) [.s 2] 3 <|
 .op (.mkif I.tOpt) [.s 3] 4 <|
 .ret [.s 4],[.direct]⟩
def p_closure:FnP:=⟨.chk 0 <|
 .op (.store 1) [.q 0 0,.s 1] 2 <|
 .nil,[]⟩
def p_apply:FnP:=⟨.op (.box 1) [.s 0] 2 <|
 .chk 2 <|
 .op .load [.q 2 0] 3 <|
 .op .callV [.s 3,.s 1] 4 <|
 .nil,[]⟩
def p_getV:FnP:=⟨.chk 0 <|
 .op .load [.q 0 0] 1 <|
 .ret [.s 1],[.direct]⟩
def p_isFlex (fx:Int):FnP:=⟨.chk 0 <|
 .op .load [.q 0 0] 1 <|
 .op (.bin .geq) [.s 1,.k (.int .i16 fx)] 2 <|
 .ret [.s 2],[.direct]⟩
def p_key (k:Int):FnP:=⟨.ret [.k (.int .i16 k)],[.direct]⟩
def p_framed (I:FI):FnP:=⟨.op (.box 2) [.s 1] 4 <|
 .chk 4 <|
 .op (.call I.newRF) [.k (.slice none 0 0)] 5 <|
 .op .load [.q 4 0] 6 <|
 .ite (.s 6)
  (.op .load [.q 4 1] 7 <|
  .op (.call I.clientID) [.s 7] 8 <|
  .op (.bslG 1) [.s 8] 9 <|
  .op (.call I.newRF) [.s 9] 10 <|
  .set 11 (.s 10) <|
  .nil)
  (.set 11 (.s 5) <|
  .nil) <|
 .op (.app I.e8) [.k (.slice none 0 0),.s 0] 12 <|
 .op (.call I.appReq) [.s 11,.s 12,.s 2,.s 3] 13 <|
 .ret [.s 13],[.direct]⟩
def p_appReqTail (I : FI) : NP := .op (.inv "AppendTo") [.s 2, .s 21] 22 <|
 .draw <|
 .look (.sl 1 false true false) [.s 22,.k (.int .i64 0)] 23 <|
 .look (.sl 1 true false false) [.s 22,.k (.int .i64 4)] 24 <|
 .look .len [.s 24] 25 <|
 .look (.cv .i32) [.s 25] 26 <|
 .op (.call I.ai32) [.s 23,.s 26] 27 <|
 .keep (.cv .i32) [.s 25] 26 <|
 .keep .len [.s 24] 25 <|
 .keep (.sl 1 true false false) [.s 22,.k (.int .i64 4)] 24 <|
 .keep (.sl 1 false true false) [.s 22,.k (.int .i64 0)] 23 <|
 .ret [.s 22]
def p_appReq (I:FI):FnP:=⟨.op (.bsl I.e8) [.k (.int .u8 0),.k (.int .u8 0),.k (.int .u8 0),.k (.int .u8 0)] 4 <|
 .op (.app I.e8) [.s 1,.s 4] 5 <|
 .op (.inv "Key") [.s 2] 6 <|
 .op (.inv "GetVersion") [.s 2] 7 <|
 .op (.call I.ai16) [.s 5,.s 6] 8 <|
 .op (.call I.ai16) [.s 8,.s 7] 9 <|
 .op (.call I.ai32) [.s 9,.s 3] 10 <|
 .op (.bin .eql) [.s 6,.k (.int .i16 7)] 11 <|
 .ite (.s 11)
  (.set 12 (.s 7) <|
  .nil)
  (.set 12 (.k (.tuple #[])) <|
  .nil) <|
 .ite (.s 11)
  (.op (.bin .eql) [.s 12,.k (.int .i16 0)] 13 <|
  .set 14 (.s 13) <|
  .nil)
  (.set 14 (.k (.tuple #[])) <|
  .nil) <|
 .ite (.s 11)
  (.set 15 (.s 14) <|
  .nil)
  (.set 15 (.k (.bool false)) <|
  .nil) <|
 .ite (.s 15)
  (.ret [.s 10])
  (.nil) <|
 .chk 0 <|
 .op .load [.q 0 0] 16 <|
 .op (.call I.ans) [.s 10,.s 16] 17 <|
 .op (.inv "IsFlexible") [.s 2] 18 <|
 .ite (.s 18)
  (.op (.bsl I.e8) [.k (.int .u8 0)] 19 <|
  .op (.app I.e8) [.s 17,.s 19] 20 <|
  .set 21 (.s 20) <|
  .nil)
  (.set 21 (.s 17) <|
  .nil) <|
 p_appReqTail I,[.direct]⟩
def IdAt (ok:Nat→Prop) (w:World) (v:Value):Option Bs→Prop
 | none=>v = .pointer none
 | some l=>∃ b,v=ptr b∧ok b∧Row w b [.string ⟨l.toArray⟩]
def idB:Option Bs→Bs
 | none=>wrI 2 (-1)
 | some l=>wrI 2 (IntKind.i16.wrap (l.length:Int))++l
theorem IdAt.same {ok:Nat→Prop} {w w':World} {v:Value} {o:Option Bs} (h:IdAt ok w v o) (k:Same ok w w'):IdAt ok w' v o:=by
 cases o with
 | none=>exact h
 | some l=>
  obtain ⟨b,h1,h2,h3⟩:=h
  have hlt:=h3.lt
  obtain ⟨ee,h3⟩:=h3
  exact ⟨b,h1,h2,ee,by rw [k.2 b hlt h2];exact h3⟩
section
variable {P:Program} {g:Nat}
structure FrOk (P:Program) (I:FI) (K:Ids):Prop where
 named:Named P
 e:K.e8=I.e8
 newRF:fnP P I.newRF 1=some p_newRF
 clientID:fnP P I.clientID 1=some (p_clientID I)
 closure:fnP P I.closure 2=some p_closure
 apply:fnP P I.apply 2=some p_apply
 appReq:fnP P I.appReq 4=some (p_appReq I)
 framed:fnP P I.framed 4=some (p_framed I)
 key:fnP P I.key 1=some (p_key 7)
 getV:fnP P I.getV 1=some p_getV
 ai16:Appends P I.e8 I.ai16 (wrI 2) (intRep .i16)
 ai32:Appends P I.e8 I.ai32 (wrI 4) (intRep .i32)
 fai32:fnP P I.ai32 2=some (p_appendInt32 K)
 fau32:fnP P K.appendUint32 2=some (p_appendUint32 K)
 ans:fnP P I.ans 2=some (p_appendNullableString K)
 fas:fnP P K.appendString 2=some (p_appendString K)
 i16:Appends P I.e8 K.appendInt16 (wrI 2) (intRep .i16)
 invApply : ∀ (x y : Value) (w : World), (invoke (.fn (.method "pub-kmsg/pub/kmsg.apply") #[]) #[.iface I.tOpt x, y]).run P w = .ok (.enter I.apply #[x, y]) w
 invKey : ∀ (x : Value) (w : World), (invoke (.fn (.method "Key") #[]) #[.iface I.tReq x]).run P w = .ok (.enter I.key #[x]) w
 invGetV : ∀ (x : Value) (w : World), (invoke (.fn (.method "GetVersion") #[]) #[.iface I.tReq x]).run P w = .ok (.enter I.getV #[x]) w
 invFlex : ∀ (x : Value) (w : World), (invoke (.fn (.method "IsFlexible") #[]) #[.iface I.tReq x]).run P w = .ok (.enter I.isFlex #[x]) w
 invApp : ∀ (x y : Value) (w : World), (invoke (.fn (.method "AppendTo") #[]) #[.iface I.tReq x, y]).run P w = .ok (.enter I.app #[x, y]) w
theorem inv1 {m:String} {t:TypeId} {f:FuncId} {x:Value} {w:World} {K:Value→World→Prop} (hi:(invoke (.fn (.method m) #[]) #[.iface t x]).run P w = .ok (.enter f #[x]) w) (h:In.wp P (.call f) [x] w K):In.wp P (.inv m) [.iface t x] w K:=⟨f,#[x],hi,h⟩
theorem inv2 {m:String} {t:TypeId} {f:FuncId} {x y:Value} {w:World} {K:Value→World→Prop} (hi:(invoke (.fn (.method m) #[]) #[.iface t x,y]).run P w = .ok (.enter f #[x,y]) w) (h:In.wp P (.call f) [x,y] w K):In.wp P (.inv m) [.iface t x,y] w K:=⟨f,#[x,y],hi,h⟩
theorem closure_ok {I:FI} {K0:Ids} (F:FrOk P I K0) {w:World} {b:Nat} {u v:Value} {K:Value→World→Prop} (hr:Row w b [u]) (hv:v.cells = #[v]) (h1:v.oneCell'=true) (hk:∀ w',Row w' b [v]→Keep [b] w w'→K (.tuple #[]) w'):In.wp P (.call I.closure) [ptr b,v] w K:=by
 refine calls_of_np F.named (vs:=[ptr b,v]) F.closure fun η hη => ?_
 have h0:η 0=ptr b:=hη 0 (by simp)
 have h1':η 1=v:=hη 1 (by simp)
 refine ⟨⟨_,h0⟩,?_⟩
 refine np_op (vs:=[.pointer (some ⟨b,0,none⟩),v]) (by simp [SV.val,h0,h1',Addr.add]) (wp_store hr (n:=1) (Fit.one hv h1) (by simp) fun w' r k => ?_)
 have hput:put [u] 0 v.cells.toList=[v]:=by rw [hv];simp [put]
 rw [hput] at r
 exact ⟨rfl,hk w' r k⟩
theorem apply_ok {I:FI} {K0:Ids} (F:FrOk P I K0) {w:World} {b b2:Nat} {u:Value} {K:Value→World→Prop} (hr:Row w b [u]) (hk:∀ w',Row w' b [ptr b2]→Keep [b] w w'→K (.tuple #[]) w') :
  In.wp P (.call I.apply) [.agg #[.func (.func I.closure) #[] #[ptr b2]],ptr b] w K:=by
 refine calls_of_np F.named (vs:=[.agg #[.func (.func I.closure) #[] #[ptr b2]],ptr b]) F.apply fun η hη => ?_
 have h0:η 0 = .agg #[.func (.func I.closure) #[] #[ptr b2]]:=hη 0 (by simp)
 have h1:η 1=ptr b:=hη 1 (by simp)
 refine np_op (vs:=[.agg #[.func (.func I.closure) #[] #[ptr b2]]]) (by simp [SV.val,h0]) (wp_box (cs:=[.func (.func I.closure) #[] #[ptr b2]]) rfl fun b3 w1 r3 hb3 k1 => ?_)
 refine ⟨⟨_,by simp only [upd];rfl⟩,?_⟩
 refine np_op (vs:=[ptrO b3 0]) (by simp [SV.val,upd,Addr.add]) (wp_load r3 rfl ?_)
 obtain ⟨fn,hfn,hb⟩:=fnP_fn F.closure
 refine np_op (vs:=[.func (.func I.closure) #[] #[ptr b2],ptr b]) (by simp [SV.val,upd,h1]) ⟨I.closure,#[ptr b2],[ptr b],fn,rfl,hfn,hb,?_⟩
 have hc:In.wp P (.call I.closure) [ptr b,ptr b2] w1 fun v w'=>NP.wp P .nil (postP [] K) (upd (upd (upd η 2 (ptr b3)) 3 (.func (.func I.closure) #[] #[ptr b2])) 4 v) w':=closure_ok F (hr.keep k1 (by simp)) rfl rfl fun w' r k=>⟨rfl,hk w' r (k1.mono (A':=[b]) (fun x hx _=>by cases hx) |>.then k)⟩
 exact hc
theorem newRF0_ok {I:FI} {K0:Ids} (F:FrOk P I K0) {w:World} {K:Value→World→Prop} (hk:∀ b w',Row w' b [.pointer none]→w.heap.size≤b→Keep [] w w'→K (ptr b) w'):In.wp P (.call I.newRF) [.slice none 0 0] w K:=by
 refine calls_of_np F.named (vs:=[.slice none 0 0]) F.newRF fun η hη => ?_
 have h0:η 0 = .slice none 0 0:=hη 0 (by simp)
 refine np_op (vs:=[]) rfl (wp_alloc fun b w1 r1 hb k1 => ?_)
 refine ⟨⟨_,by simp only [upd];rfl⟩,?_⟩
 refine np_op (vs:=[.slice none 0 0]) (by simp [SV.val,upd,h0]) ⟨_,_,_,rfl,?_⟩
 refine ⟨1,?_⟩
 show NP.wp P p_loopRF _ _ w1
 refine np_op (vs:=[i64 0,i64 0]) (by simp [SV.val,upd,goInt]) ⟨.i64,0,0,.bool false,rfl,rfl,?_⟩
 refine np_F (by simp [SV.val,upd]) ?_
 show K (pack _) w1
 simpa [pack,SV.val,upd,Addr.add] using hk b w1 r1 hb k1
theorem newRF1_ok {I:FI} {K0:Ids} (F:FrOk P I K0) {w:World} {bo b2 c:Nat} {K:Value→World→Prop} (ho:Row w bo [.iface I.tOpt (.agg #[.func (.func I.closure) #[] #[ptr b2]])]) (hk:∀ b w',Row w' b [ptr b2]→w.heap.size≤b→Keep [] w w'→K (ptr b) w') :
  In.wp P (.call I.newRF) [.slice (some ⟨bo,0,none⟩) 1 c] w K:=by
 refine calls_of_np F.named (vs:=[.slice (some ⟨bo,0,none⟩) 1 c]) F.newRF fun η hη => ?_
 have h0:η 0 = .slice (some ⟨bo,0,none⟩) 1 c:=hη 0 (by simp)
 refine np_op (vs:=[]) rfl (wp_alloc fun b w1 r1 hb k1 => ?_)
 refine ⟨⟨_,by simp only [upd];rfl⟩,?_⟩
 have ho1:=ho.keep k1 (by simp)
 have hbo:=ho.lt
 refine np_op (vs:=[.slice (some ⟨bo,0,none⟩) 1 c]) (by simp [SV.val,upd,h0]) ⟨_,_,_,rfl,?_⟩
 refine ⟨2,?_⟩
 show NP.wp P p_loopRF _ _ w1
 refine np_op (vs:=[i64 0,i64 1]) (by simp [SV.val,upd,goInt]) ⟨.i64,0,1,.bool true,rfl,rfl,?_⟩
 refine np_T (by simp [SV.val,upd]) ?_
 refine np_op (vs:=[.slice (some ⟨bo,0,none⟩) 1 c,i64 0]) (by simp [SV.val,upd,h0]) (wp_ia (i:=0) (by omega) ?_)
 refine ⟨⟨_,by simp only [upd];rfl⟩,?_⟩
 refine np_op (vs:=[ptrO bo 0]) (by simp [SV.val,upd,Addr.add]) (wp_load ho1 rfl ?_)
 refine np_op (vs:=[.iface I.tOpt (.agg #[.func (.func I.closure) #[] #[ptr b2]]),ptr b]) (by simp [SV.val,upd,Addr.add]) (inv2 (F.invApply _ _ _) (apply_ok F r1 fun w2 r2 k2 => ?_))
 refine np_op (vs:=[i64 0,i64 1]) (by simp [SV.val,upd]) ⟨.i64,0,1,_,rfl,rfl,?_⟩
 show NP.wp P p_loopRF _ _ w2
 refine np_op (vs:=[i64 1,i64 1]) (by simp [SV.val,upd,goInt];rfl) ⟨.i64,1,1,.bool false,rfl,rfl,?_⟩
 refine np_F (by simp [SV.val,upd]) ?_
 show K (pack _) w2
 simpa [pack,SV.val,upd,Addr.add] using hk b w2 r2 hb (k1.trans k2 fun x hx hlt=>by rw [List.mem_singleton.1 hx] at hlt;omega)
theorem clientID_ok {I:FI} {K0:Ids} (F:FrOk P I K0) {w:World} {s:ByteArray} {K:Value→World→Prop} (hk:∀ b w',Row w' b [.string s]→w.heap.size≤b→Keep [] w w'→K (.iface I.tOpt (.agg #[.func (.func I.closure) #[] #[ptr b]])) w'):In.wp P (.call I.clientID) [.string s] w K:=by
 refine calls_of_np F.named (vs:=[.string s]) F.clientID fun η hη => ?_
 have h0:η 0 = .string s:=hη 0 (by simp)
 refine np_op (vs:=[.string s]) (by simp [SV.val,h0]) ⟨.string s,rfl,rfl,fun e => ?_⟩
 obtain ⟨hr,hkp⟩:=alloc_row (w:=w) [.string s] e
 refine ⟨⟨_,by simp only [upd];rfl⟩,?_⟩
 refine np_op (vs:=[ptr w.heap.size]) (by simp [SV.val,upd,Addr.add]) ?_
 show NP.wp P (.op (.lit [.nilFunc] [0]) [.s 2] 3 _) _ _ _
 refine np_op (vs:=[.func (.func I.closure) #[] #[ptr w.heap.size]]) (by simp [SV.val,upd]) ⟨rfl,by simp [Value.cells],?_⟩
 refine np_op (vs:=[.agg #[.func (.func I.closure) #[] #[ptr w.heap.size]]]) (by simp [SV.val,upd,putAll]) ⟨_,rfl,?_⟩
 show K (pack _) _
 have:=hk _ _ hr (Nat.le_refl _) hkp
 simp only [pack,List.map,SV.val,upd,if_true]
 exact this
end
end Go.Sp
namespace Go.Sp
open Go.Lx Go.Nx Go.Km Go.Mx Go.Kb Go.Mr
set_option linter.unusedSimpArgs false
set_option linter.unusedVariables false
section
variable {P:Program} {g:Nat}
theorem str_raw {I:FI} {K0:Ids} (F:FrOk P I K0) {w:World} {B:Nat} {d:Value} {out l:Bs} {K:Value→World→Prop} (ho:Own w B I.e8 d out) (hl:out.length+(2+l.length)≤lim)
  (hk:∀ d' w',Own w' B I.e8 d' (out++(wrI 2 (IntKind.i16.wrap (l.length:Int))++l))→Bl B w d w' d'→K d' w'):In.wp P (.call K0.appendString) [d,.string ⟨l.toArray⟩] w K:=by
 refine calls_of_np F.named (vs:=[d,.string ⟨l.toArray⟩]) F.fas fun η hη => ?_
 have h0:η 0=d:=hη 0 (by simp)
 have h1:η 1 = .string ⟨l.toArray⟩:=hη 1 (by simp)
 have h2:∀ n,(wrI 2 n).length=2:=fun n=>be_length _ _
 refine np_op (vs:=[.string ⟨l.toArray⟩]) (by simp [SV.val,h1]) ⟨_,rfl,?_⟩
 refine np_op (vs:=[.int .i64 (l.length:Int)]) (by simp [SV.val,upd,goInt,ByteArray.size]) ⟨.i64,_,rfl,?_⟩
 refine np_op (vs:=[d,.int .i16 (IntKind.i16.wrap (l.length:Int))]) (by simp [SV.val,upd,h0]) (F.i16 w B d out _ _ _ ho rfl (by rw [h2];omega) fun d' w' o' k' => ?_)
 rw [F.e]
 refine np_op (vs:=[d',.string ⟨l.toArray⟩]) (by simp [SV.val,upd,h1]) (wp_appSB o' (by rw [List.length_append,h2];omega) fun d2 w2 o2 k2 => ?_)
 show K (pack _) w2
 have:=hk d2 w2 (by rw [← List.append_assoc];exact o2) (k'.trans k2)
 simpa [SV.val,upd,pack] using this
theorem ans_raw {I:FI} {K0:Ids} (F:FrOk P I K0) {w:World} {B:Nat} {d v:Value} {out:Bs} {o:Option Bs} {K:Value→World→Prop} (ho:Own w B I.e8 d out) (hv:IdAt (· < B) w v o) (hl:out.length+(idB o).length≤lim)
  (hk:∀ d' w',Own w' B I.e8 d' (out++idB o)→Bl B w d w' d'→K d' w'):In.wp P (.call I.ans) [d,v] w K:=by
 refine calls_of_np F.named (vs:=[d,v]) F.ans fun η hη => ?_
 have h0:η 0=d:=hη 0 (by simp)
 have h1:η 1=v:=hη 1 (by simp)
 have h2:∀ n,(wrI 2 n).length=2:=fun n=>be_length _ _
 cases o with
 | none=>
  have hv:v = .pointer none:=hv
  subst hv
  refine np_op (vs:=[.pointer none]) (by simp [SV.val,h1]) ⟨_,true,rfl,rfl,?_⟩
  refine np_ite true (by simp [SV.val,upd]) ?_
  simp only [if_true]
  refine np_op (vs:=[d,.int .i16 (-1)]) (by simp [SV.val,upd,h0]) (F.i16 w B d out (-1) _ _ ho rfl hl fun d' w' o' k' => ?_)
  show K (pack _) w'
  simpa [SV.val,upd,pack] using hk d' w' o' k'
 | some l=>
  obtain ⟨b,hv,hb,hrow⟩:=hv
  subst hv
  simp only [idB,List.length_append,h2] at hl
  refine np_op (vs:=[ptr b]) (by simp [SV.val,h1]) ⟨_,false,rfl,rfl,?_⟩
  refine np_ite false (by simp [SV.val,upd]) ?_
  simp only [Bool.false_eq_true,if_false]
  refine ⟨⟨_,by simp [upd,h1];rfl⟩,?_⟩
  refine np_op (vs:=[ptrO b 0]) (by simp [SV.val,upd,h1,Addr.add]) (wp_load hrow rfl ?_)
  refine np_op (vs:=[d,.string ⟨l.toArray⟩]) (by simp [SV.val,upd,h0]) (str_raw F ho hl fun d' w' o' k' => ?_)
  show K (pack _) w'
  simpa [SV.val,upd,pack] using hk d' w' o' k'
theorem own_row {w:World} {B:Nat} {e:TypeId} {d:Value} {out:Bs} (h:Own w B e d out) (hne:0<out.length):∃ b cap cs,d = .slice (some ⟨b,0,none⟩) out.length cap∧B≤b∧w.heap[b]?=some (.cells (List.toArray cs) e (0,0))∧out.length≤cap∧cap≤maxLen∧cs.length=cap∧cs.take out.length=out.map u8:=by
 rcases h.1.2 with ⟨_,h2⟩ | ⟨b,cap,cur,h1,h2,h3,h4,h5,h6,h7⟩
 ·omega
 ·refine ⟨b,cap,cur.toList,h1,h2,by simpa using h3,h4,h5,by simpa using h6,by simpa using h7⟩
theorem over_ok {I:FI} {K0:Ids} (F:FrOk P I K0) {w:World} {B:Nat} {d:Value} {out:Bs} {n:Int} {c b:Nat} (ho:Own w B I.e8 d out) (hd:d = .slice (some ⟨b,0,none⟩) out.length c) (h4:4≤out.length) (hn : -2147483648≤n∧n<2147483648) {K:Value→World→Prop}
  (hk:∀ u w',Own w' B I.e8 d (wrI 4 n++out.drop 4)→RowKit.Below B w w'→K u w'):In.wp P (.call I.ai32) [.slice (some ⟨b,0,none⟩) 0 c,.int .i32 n] w K:=by
 obtain ⟨b',cap,cs,hd',hB,hh,hlc,hcm,hcl,htk⟩:=own_row ho (by omega)
 rw [hd,Value.slice.injEq] at hd'
 obtain ⟨e1,_,rfl⟩:=hd'
 cases e1
 refine calls_of_np F.named (vs:=[.slice (some ⟨b,0,none⟩) 0 c,.int .i32 n]) F.fai32 fun η hη => ?_
 have h0:η 0 = .slice (some ⟨b,0,none⟩) 0 c:=hη 0 (by simp)
 have h1:η 1 = .int .i32 n:=hη 1 (by simp)
 refine np_op (vs:=[.int .i32 n]) (by simp [SV.val,h1]) ⟨.i32,_,rfl,?_⟩
 rw [wrap_usn .u32 rfl]
 generalize hm:usn 32 n=m
 have hwr:wrI 4 n=be 4 m:=by rw [← hm];rfl
 refine np_op (vs:=[.slice (some ⟨b,0,none⟩) 0 c,.int .u32 (m:Int)]) (by simp [SV.val,upd,h0,← hm];rfl) ?_
 have hcall:In.wp P (.call K0.appendUint32) [.slice (some ⟨b,0,none⟩) 0 c,.int .u32 (m:Int)] w fun v w'=>K v w':=by
  refine calls_of_np F.named (vs:=[.slice (some ⟨b,0,none⟩) 0 c,.int .u32 (m:Int)]) F.fau32 fun η hη => ?_
  have h0:η 0 = .slice (some ⟨b,0,none⟩) 0 c:=hη 0 (by simp)
  have h1:η 1 = .int .u32 (m:Int):=hη 1 (by simp)
  refine np_op (vs:=[.int .u32 (m:Int),.int .u64 24]) (by simp [SV.val,upd,h1]) ⟨.u32,_,.u64,24,_,rfl,shr_nat .u32 m 24 (by decide),?_⟩
  refine np_op (vs:=[.int .u32 ((m / 2^24:Nat):Int)]) (by simp [SV.val,upd]) ⟨.u32,_,rfl,?_⟩
  refine np_op (vs:=[.int .u32 (m:Int),.int .u64 16]) (by simp [SV.val,upd,h1]) ⟨.u32,_,.u64,16,_,rfl,shr_nat .u32 m 16 (by decide),?_⟩
  refine np_op (vs:=[.int .u32 ((m / 2^16:Nat):Int)]) (by simp [SV.val,upd]) ⟨.u32,_,rfl,?_⟩
  refine np_op (vs:=[.int .u32 (m:Int),.int .u64 8]) (by simp [SV.val,upd,h1]) ⟨.u32,_,.u64,8,_,rfl,shr_nat .u32 m 8 (by decide),?_⟩
  refine np_op (vs:=[.int .u32 ((m / 2^8:Nat):Int)]) (by simp [SV.val,upd]) ⟨.u32,_,rfl,?_⟩
  refine np_op (vs:=[.int .u32 (m:Int)]) (by simp [SV.val,upd,h1]) ⟨.u32,_,rfl,?_⟩
  rw [F.e]
  refine np_op (vs:=(be 4 m).map u8) (by simp only [List.map,SV.val,upd,wrap_u8];simp [be]) (wp_bsl fun b2 w1 hb2 k1 r1 => ?_)
  have hh1:w1.heap[b]?=some (.cells (List.toArray cs) I.e8 (0,0)):=by rw [k1.block b (Array.getElem?_eq_some_iff.1 hh).1 (by simp)];exact hh
  have hb4:(be 4 m).length=4:=be_length _ _
  refine np_op (vs:=[.slice (some ⟨b,0,none⟩) 0 c,.slice (some ⟨b2,0,none⟩) (be 4 m).length (be 4 m).length]) (by simp [SV.val,upd,h0]) (.inr ⟨b,0,c,cs,⟨b2,0,none⟩,be 4 m,_,rfl,hh1,(row_bytes (ok:=fun _=>True) r1 trivial).2.2,by omega,by omega,?_⟩)
  rw [List.take_zero,List.nil_append,Nat.zero_add,hb4]
  have hset:=setRow_heap w1 b (List.toArray cs) ((be 4 m).map u8++cs.drop 4).toArray I.e8 (0,0) hh1
  show K (pack _) _
  have hO:Own (w1.setRow b ((be 4 m).map u8++cs.drop 4).toArray) B I.e8 d (wrI 4 n++out.drop 4):=by
   have hlen:(wrI 4 n++out.drop 4).length=out.length:=by rw [hwr,List.length_append,hb4,List.length_drop];omega
   refine ⟨⟨by simp,.inr ⟨b,c,_,by rw [hlen];exact hd,hB,hset,by rw [hlen];exact hlc,hcm,by simp [hb4];omega,?_⟩⟩,?_⟩
   ·rw [hlen,Nat.mul_one,hwr,List.map_append,List.map_drop,← htk,List.take_append,List.take_of_length_le (by simp [hb4];omega)]
    congr 1
    rw [List.length_map,hb4,List.drop_take]
   ·have:=k1.size;have:=ho.2;simp [World.setRow];omega
  have hBl:RowKit.Below B w (w1.setRow b ((be 4 m).map u8++cs.drop 4).toArray):=by
   refine (k1.below (by simp) ho.2).trans ⟨rfl,rfl,rfl,by simp [World.setRow],fun k hk=>setRow_other w1 b k _ (by omega)⟩
  exact hk _ _ hO hBl
 exact In.wp_mono (fun v w' hv=>by show K (pack _) w';simpa [pack,SV.val,upd] using hv) hcall
end
end Go.Sp
namespace Go.Sp
open Go.Lx Go.Nx Go.Km Go.Mx Go.Kb Go.Mr
set_option linter.unusedSimpArgs false
set_option linter.unusedVariables false
section
variable {P:Program} {g:Nat}
theorem key_ok {I:FI} {K0:Ids} (F:FrOk P I K0) {w:World} {x:Value} {K:Value→World→Prop} (hk:K (.int .i16 7) w):In.wp P (.call I.key) [x] w K:=by
 refine calls_of_np F.named (vs:=[x]) F.key fun η hη => ?_
 show K (pack _) w
 simpa [pack,SV.val] using hk
theorem getV_ok {I:FI} {K0:Ids} (F:FrOk P I K0) {w:World} {S:Nat} {cs:List Value} {u:Value} {K:Value→World→Prop} (hS:Row w S cs) (hu:cs[0]?=some u) (hk:K u w):In.wp P (.call I.getV) [ptr S] w K:=by
 refine calls_of_np F.named (vs:=[ptr S]) F.getV fun η hη => ?_
 have h0:η 0=ptr S:=hη 0 (by simp)
 refine ⟨⟨_,h0⟩,?_⟩
 refine np_op (vs:=[ptrO S 0]) (by simp [SV.val,h0,Addr.add]) (wp_load hS hu ?_)
 show K (pack _) w
 simpa [pack,SV.val,upd] using hk
theorem isFlex_ok {I:FI} {K0:Ids} (F:FrOk P I K0) {fx:Int} (hf:fnP P I.isFlex 1=some (p_isFlex fx)) {w:World} {S:Nat} {cs:List Value} {v:Int} {K:Value→World→Prop} (hS:Row w S cs) (hu:cs[0]?=some (.int .i16 v)) (hk:K (.bool (decide (v≥fx))) w):In.wp P (.call I.isFlex) [ptr S] w K:=by
 refine calls_of_np F.named (vs:=[ptr S]) hf fun η hη => ?_
 have h0:η 0=ptr S:=hη 0 (by simp)
 refine ⟨⟨_,h0⟩,?_⟩
 refine np_op (vs:=[ptrO S 0]) (by simp [SV.val,h0,Addr.add]) (wp_load hS hu ?_)
 refine np_op (vs:=[.int .i16 v,.int .i16 fx]) (by simp [SV.val,upd]) ⟨.i16,v,fx,_,rfl,rfl,?_⟩
 show K (pack _) w
 simpa [pack,SV.val,upd] using hk
theorem wrap32_range (n:Int) : -2147483648≤IntKind.i32.wrap n∧IntKind.i32.wrap n<2147483648:=by
 simp only [IntKind.wrap,IntKind.bits,IntKind.signed]
 simp
 omega
def frameH (v number:Int) (o:Option Bs) (fx:Int):Bs:=wrI 2 7++(wrI 2 v++(wrI 4 number++(idB o++(if v≥fx then [0] else []))))
def frameB (v number:Int) (o:Option Bs) (fx:Int) (body:Bs):Bs:=wrI 4 (IntKind.i32.wrap ((frameH v number o fx++body).length:Int))++(frameH v number o fx++body)
theorem tailReq_ok {I:FI} {K0:Ids} (F:FrOk P I K0) {Wt:WTab} (hW:WTabOk P Wt I.e8) {fs:Fs} {cells:List (Option Value)} {pa:NP} (hfa:fnP P I.app 2=some ⟨pa,[.direct]⟩) (htw:topW Wt fs cells pa=true)
  {w:World} {B S:Nat} {cs:List Value} {d:Value} {out:Bs} {vs:List Val} {η:Nat→Value} {K:Value→World→Prop} (h2:η 2 = .iface I.tReq (ptr S)) (h21:η 21=d) (ho:Own w B I.e8 d ([0,0,0,0]++out)) (hSB:S<B) (hS:Row w S cs)
  (hlen:cells.length≤cs.length) (hkn:∀ (j:Nat) (v:Value),cells[j]?=some (some v)→cs[j]?=some v) (hrep:RepF (· < B) w fs vs cs) (hok:okF fs vs) (hl:4+(out++wrF fs vs).length≤lim)
  (hk:∀ d' w',Own w' B I.e8 d' (wrI 4 (IntKind.i32.wrap ((out++wrF fs vs).length:Int))++(out++wrF fs vs))→RowKit.Below B w w'→K d' w'):(p_appReqTail I).wp P (postP [.direct] K) η w:=by
 refine np_op (vs:=[.iface I.tReq (ptr S),d]) (by simp [SV.val,h2,h21]) (inv2 (F.invApp _ _ _) (topW_ok F.named hW hfa htw ho hSB hS hlen hkn hrep hok (by simp only [List.length_append,List.length_cons,List.length_nil] at hl ⊢;omega) fun d1 w1 o1 b1 => ?_))
 generalize hbody:out++wrF fs vs=body at *
 have e1:[0,0,0,0]++out++wrF fs vs=[0,0,0,0]++body:=by rw [List.append_assoc,hbody]
 rw [e1] at o1
 have hbl:(([0,0,0,0]:Bs)++body).length=4+body.length:=by simp;omega
 obtain ⟨b,cap,cc,hd,hB,hh,hlc,hcm,hcl,htk⟩:=own_row o1 (by rw [hbl];omega)
 rw [hbl] at hd hlc
 refine np_draw ?_
 have kd:=keep_drawn w1
 have od:Own { w1 with drawn:=w1.drawn+1 } B I.e8 d1 ([0,0,0,0]++body):=own_keep0 o1 kd
 have s1:∀ (w:World) (K:Value→World→Prop),K (.slice (some ⟨b,0,none⟩) 0 cap) w→In.wp P (.sl 1 false true false) [.slice (some ⟨b,0,none⟩) (4+body.length) cap,i64 0] w K:=fun w K hK=>wp_sl0 (h:=0) (by omega) hK
 generalize hv2:Value.slice (if cap=4 then some (⟨b,0,none⟩:Addr) else (some (⟨b,0,none⟩:Addr)).map (·.add (4*1))) body.length (cap - 4)=v2
 have s2:∀ (w:World) (K:Value→World→Prop),K v2 w→In.wp P (.sl 1 true false false) [.slice (some ⟨b,0,none⟩) (4+body.length) cap,i64 4] w K:=fun w K hK=>by
  refine ⟨_,_,_,_,rfl,?_⟩
  simp only [bnd,Bool.false_eq_true,if_false,if_true]
  refine ⟨.i64,4,[],rfl,rfl,by omega,by omega,Nat.le_refl _,?_⟩
  rw [Nat.add_sub_cancel_left,hv2];exact hK
 have s3:∀ (w:World) (K:Value→World→Prop),K (goInt body.length) w→In.wp P .len [v2] w K:=fun w K hK=>by
  rw [← hv2];exact ⟨_,_,_,rfl,hK⟩
 have s4:∀ (w:World) (K:Value→World→Prop),K (.int .i32 (IntKind.i32.wrap (body.length:Int))) w→In.wp P (.cv .i32) [goInt body.length] w K:=fun w K hK=>⟨.i64,_,rfl,hK⟩
 refine np_look (vs:=[.slice (some ⟨b,0,none⟩) (4+body.length) cap,i64 0]) (by simp [SV.val,upd,hd]) (s1 _ _ ⟨rfl,?_⟩)
 refine np_look (vs:=[.slice (some ⟨b,0,none⟩) (4+body.length) cap,i64 4]) (by simp [SV.val,upd,hd]) (s2 _ _ ⟨rfl,?_⟩)
 refine np_look (vs:=[v2]) (by simp [SV.val,upd]) (s3 _ _ ⟨rfl,?_⟩)
 refine np_look (vs:=[goInt body.length]) (by simp [SV.val,upd]) (s4 _ _ ⟨rfl,?_⟩)
 refine np_op (vs:=[.slice (some ⟨b,0,none⟩) 0 cap,.int .i32 (IntKind.i32.wrap (body.length:Int))]) (by simp [SV.val,upd]) (over_ok F od (by rw [hbl];exact hd) (by rw [hbl];omega) (wrap32_range _) fun u w2 o2 b2 => ?_)
 refine np_keep (vs:=[goInt body.length]) (by simp [SV.val,upd]) (s4 _ _ ⟨by simp [upd],rfl⟩) ?_
 refine np_keep (vs:=[v2]) (by simp [SV.val,upd]) (s3 _ _ ⟨by simp [upd],rfl⟩) ?_
 refine np_keep (vs:=[.slice (some ⟨b,0,none⟩) (4+body.length) cap,i64 4]) (by simp [SV.val,upd,hd]) (s2 _ _ ⟨by simp [upd],rfl⟩) ?_
 refine np_keep (vs:=[.slice (some ⟨b,0,none⟩) (4+body.length) cap,i64 0]) (by simp [SV.val,upd,hd]) (s1 _ _ ⟨by simp [upd],rfl⟩) ?_
 show K (pack _) w2
 have hdr:(([0,0,0,0]:Bs)++body).drop 4=body:=rfl
 rw [hdr] at o2
 have:=hk d1 w2 o2 (b1.trans ((kd.below (by simp) (Nat.le_trans ho.2 b1.size)).trans b2))
 simpa [pack,SV.val,upd] using this
theorem appReq_ok {I:FI} {K0:Ids} (F:FrOk P I K0) {Wt:WTab} (hW:WTabOk P Wt I.e8) {fs:Fs} {cells:List (Option Value)} {pa:NP} (hfa:fnP P I.app 2=some ⟨pa,[.direct]⟩) (htw:topW Wt fs cells pa=true) {fx:Int} (hfx:fnP P I.isFlex 1=some (p_isFlex fx))
  {w:World} {B S bf:Nat} {cs:List Value} {d0 pv:Value} {o:Option Bs} {v number:Int} {vs:List Val} {K:Value→World→Prop} (hd0:Own w B I.e8 d0 []) (hf:Row w bf [pv]) (hfl:bf<B) (hid:IdAt (· < B) w pv o) (hS:Row w S cs) (hSl:S<B) (hv0:cs[0]?=some (.int .i16 v)) (hv1:v≠0)
  (hlen:cells.length≤cs.length) (hkn:∀ (j:Nat) (v:Value),cells[j]?=some (some v)→cs[j]?=some v) (hrep:RepF (· < B) w fs vs cs) (hok:okF fs vs) (hl:4+(frameH v number o fx++wrF fs vs).length≤lim)
  (hk:∀ d' w',Own w' B I.e8 d' (frameB v number o fx (wrF fs vs))→RowKit.Below B w w'→K d' w'):In.wp P (.call I.appReq) [ptr bf,d0,.iface I.tReq (ptr S),.int .i32 number] w K:=by
 refine calls_of_np F.named (vs:=[ptr bf,d0,.iface I.tReq (ptr S),.int .i32 number]) F.appReq fun η hη => ?_
 have h0:η 0=ptr bf:=hη 0 (by simp)
 have h1:η 1=d0:=hη 1 (by simp)
 have h2:η 2 = .iface I.tReq (ptr S):=hη 2 (by simp)
 have h3:η 3 = .int .i32 number:=hη 3 (by simp)
 have l2:∀ n,(wrI 2 n).length=2:=fun n=>be_length _ _
 have l4:∀ n,(wrI 4 n).length=4:=fun n=>be_length _ _
 have hlH:(frameH v number o fx).length=8+(idB o).length+(if v≥fx then [(0:UInt8)] else []).length:=by
  simp only [frameH,List.length_append,l2,l4];omega
 rw [List.length_append,hlH] at hl
 refine np_op (vs:=([0,0,0,0]:Bs).map u8) (by simp [SV.val,u8]) (wp_bsl fun bz w1 hbz k1 r1 => ?_)
 have b01:RowKit.Below B w w1:=k1.below (by simp) hd0.2
 refine np_op (vs:=[d0,.slice (some ⟨bz,0,none⟩) ([0,0,0,0]:Bs).length ([0,0,0,0]:Bs).length]) (by simp [SV.val,upd,h1]) (wp_appB (own_keep0 hd0 k1) (.inr ⟨_,_,rfl,(row_bytes (ok:=fun _=>True) r1 trivial).2.2⟩) (by simp [lim]) fun d5 w2 o2 b2 => ?_)
 rw [List.nil_append] at o2
 have b02:=b01.trans b2.toBelow
 refine np_op (vs:=[.iface I.tReq (ptr S)]) (by simp [SV.val,upd,h2]) (inv1 (F.invKey _ _) (key_ok F ?_))
 refine np_op (vs:=[.iface I.tReq (ptr S)]) (by simp [SV.val,upd,h2]) (inv1 (F.invGetV _ _) (getV_ok F (row_below hS b02 hSl) hv0 ?_))
 refine np_op (vs:=[d5,.int .i16 7]) (by simp [SV.val,upd]) (F.ai16 w2 _ d5 _ 7 _ _ o2 rfl (by rw [l2];simp;omega) fun d8 w3 o3 b3 => ?_)
 have b03:=b02.trans b3.toBelow
 refine np_op (vs:=[d8,.int .i16 v]) (by simp [SV.val,upd]) (F.ai16 w3 _ d8 _ v _ _ o3 rfl (by simp only [List.length_append,l2];simp;omega) fun d9 w4 o4 b4 => ?_)
 have b04:=b03.trans b4.toBelow
 refine np_op (vs:=[d9,.int .i32 number]) (by simp [SV.val,upd,h3]) (F.ai32 w4 _ d9 _ number _ _ o4 rfl (by simp only [List.length_append,l2,l4];simp;omega) fun d10 w5 o5 b5 => ?_)
 have b05:=b04.trans b5.toBelow
 refine np_op (vs:=[.int .i16 7,.int .i16 7]) (by simp [SV.val,upd]) ⟨.i16,7,7,.bool true,rfl,rfl,?_⟩
 refine np_T (by simp [SV.val,upd]) ?_
 refine np_T (by simp [SV.val,upd]) ?_
 refine np_op (vs:=[.int .i16 v,.int .i16 0]) (by simp [SV.val,upd]) ⟨.i16,v,0,.bool (v == 0),rfl,rfl,?_⟩
 refine np_T (by simp [SV.val,upd]) ?_
 have hv0b:(v == 0)=false:=by simpa using hv1
 refine np_F (by simp [SV.val,upd,hv0b]) ?_
 refine ⟨⟨_,by simp [upd,h0];rfl⟩,?_⟩
 refine np_op (vs:=[ptrO bf 0]) (by simp [SV.val,upd,h0,Addr.add]) (wp_load (row_below hf b05 hfl) rfl ?_)
 have hsame5:Same (· < B) w w5:=Same.below b05 fun k hk=>hk
 refine np_op (vs:=[d10,pv]) (by simp [SV.val,upd]) (ans_raw F o5 (hid.same hsame5) (by simp only [List.length_append,l2,l4];simp;omega) fun d17 w6 o6 b6 => ?_)
 have b06:=b05.trans b6.toBelow
 refine np_op (vs:=[.iface I.tReq (ptr S)]) (by simp [SV.val,upd,h2]) (inv1 (F.invFlex _ _) (isFlex_ok F hfx (row_below hS b06 hSl) hv0 ?_))
 by_cases hge:v≥fx
 ·have hH:frameH v number o fx=wrI 2 7++wrI 2 v++wrI 4 number++idB o++[0]:=by simp [frameH,hge,List.append_assoc]
  simp only [hge,if_true,List.length_singleton] at hl
  refine np_T (by simp [SV.val,upd,hge]) ?_
  refine np_op (vs:=([0]:Bs).map u8) (by simp [SV.val,u8]) (wp_bsl fun bz w7 hbz k7 r7 => ?_)
  refine np_op (vs:=[d17,.slice (some ⟨bz,0,none⟩) ([0]:Bs).length ([0]:Bs).length]) (by simp [SV.val,upd]) (wp_appB (own_keep0 o6 k7) (.inr ⟨_,_,rfl,(row_bytes (ok:=fun _=>True) r7 trivial).2.2⟩) (by simp only [List.length_append,l2,l4];simp;omega) fun d20 w8 o8 b8 => ?_)
  have b08:=(b06.trans (k7.below (by simp) o6.2)).trans b8.toBelow
  have hsame8:Same (· < B) w w8:=Same.below b08 fun k hk=>hk
  show NP.wp P (p_appReqTail I) _ _ w8
  refine tailReq_ok F hW hfa htw (out:=frameH v number o fx) (d:=d20) (B:=B) (by simp [upd,h2]) (by simp [upd,SV.val]) (by rw [hH];simpa [List.append_assoc] using o8) hSl (row_below hS b08 hSl) hlen hkn (RepF.same hsame8 fs vs cs hrep) hok (by rw [List.length_append,hlH];simp only [hge,if_true,List.length_singleton];omega) fun d' w' o' b'=>hk d' w' o' (b08.trans b')
 ·have hH:frameH v number o fx=wrI 2 7++wrI 2 v++wrI 4 number++idB o:=by simp [frameH,hge,List.append_assoc]
  simp only [hge,if_false,List.length_nil] at hl
  refine np_F (by simp [SV.val,upd,hge];try omega) ?_
  have hsame6:Same (· < B) w w6:=Same.below b06 fun k hk=>hk
  show NP.wp P (p_appReqTail I) _ _ w6
  refine tailReq_ok F hW hfa htw (out:=frameH v number o fx) (d:=d17) (B:=B) (by simp [upd,h2]) (by simp [upd,SV.val]) (by rw [hH];simpa [List.append_assoc] using o6) hSl (row_below hS b06 hSl) hlen hkn (RepF.same hsame6 fs vs cs hrep) hok (by rw [List.length_append,hlH];simp only [hge,if_false,List.length_nil];omega) fun d' w' o' b'=>hk d' w' o' (b06.trans b')
theorem framed_ok {I:FI} {K0:Ids} (F:FrOk P I K0) {Wt:WTab} (hW:WTabOk P Wt I.e8) {fs:Fs} {cells:List (Option Value)} {pa:NP} (hfa:fnP P I.app 2=some ⟨pa,[.direct]⟩) (htw:topW Wt fs cells pa=true) {fx:Int} (hfx:fnP P I.isFlex 1=some (p_isFlex fx))
  {w:World} {S:Nat} {cs:List Value} {has:Bool} {l:Bs} {v number:Int} {vs:List Val} {K:Value→World→Prop} (hS:Row w S cs) (hv0:cs[0]?=some (.int .i16 v)) (hv1:v≠0)
  (hlen:cells.length≤cs.length) (hkn:∀ (j:Nat) (v:Value),cells[j]?=some (some v)→cs[j]?=some v) (hrep:RepF (· < w.heap.size) w fs vs cs) (hok:okF fs vs) (hl:4+(frameH v number (if has then some l else none) fx++wrF fs vs).length≤lim)
  (hk:∀ d' w',Own w' w.heap.size I.e8 d' (frameB v number (if has then some l else none) fx (wrF fs vs))→Keep [] w w'→K d' w'):In.wp P (.call I.framed) [.slice none 0 0,.agg #[.bool has,.string ⟨l.toArray⟩],.iface I.tReq (ptr S),.int .i32 number] w K:=by
 refine calls_of_np F.named (vs:=[.slice none 0 0,.agg #[.bool has,.string ⟨l.toArray⟩],.iface I.tReq (ptr S),.int .i32 number]) F.framed fun η hη => ?_
 have h0:η 0 = .slice none 0 0:=hη 0 (by simp)
 have h1:η 1 = .agg #[.bool has,.string ⟨l.toArray⟩]:=hη 1 (by simp)
 have h2:η 2 = .iface I.tReq (ptr S):=hη 2 (by simp)
 have h3:η 3 = .int .i32 number:=hη 3 (by simp)
 refine np_op (vs:=[.agg ([.bool has,.string ⟨l.toArray⟩]:List Value).toArray]) (by simp [SV.val,h1]) (wp_box rfl fun b4 w1 r4 hb4 k1 => ?_)
 refine ⟨⟨_,by simp only [upd];rfl⟩,?_⟩
 refine np_op (vs:=[.slice none 0 0]) (by simp [SV.val]) (newRF0_ok F fun b5 w2 r5 hb5 k2 => ?_)
 have k02:=k1.then k2
 have r4':=r4.keep k2 (by simp)
 refine np_op (vs:=[ptrO b4 0]) (by simp [SV.val,upd,Addr.add]) (wp_load r4' rfl ?_)
 have fin:∀ (η':Nat→Value) (w':World) (bf:Nat) (pv:Value),η' 0 = .slice none 0 0→η' 2 = .iface I.tReq (ptr S)→η' 3 = .int .i32 number→η' 11=ptr bf→Row w' bf [pv]→IdAt (· < w'.heap.size) w' pv (if has then some l else none)→Keep [] w w' →
   NP.wp P (.op (.app I.e8) [.k (.slice none 0 0),.s 0] 12 <| .op (.call I.appReq) [.s 11,.s 12,.s 2,.s 3] 13 <| .ret [.s 13]) (postP [.direct] K) η' w':=by
  intro η' w' bf pv e0 e2 e3 e11 hbf hid kk
  refine np_op (vs:=[.slice none 0 0,.slice none 0 0]) (by simp [SV.val,e0]) (wp_appB (own_nil (e:=I.e8) w') (bs:=[]) (.inl ⟨rfl,rfl⟩) (by simp [lim]) fun d12 w3 o3 b3 => ?_)
  rw [List.nil_append] at o3
  have k3:Keep [] w' w3:=Keep.of_below b3.toBelow
  have k03:=kk.then k3
  have hid3:IdAt (· < w'.heap.size) w3 pv (if has then some l else none):=hid.same (Same.below b3.toBelow fun k hk=>hk)
  have hrep3:RepF (· < w'.heap.size) w3 fs vs cs:=RepF.weak (fun b hb h=>Nat.lt_of_lt_of_le h kk.size) fs vs cs (RepF.same (k03.same fun x hx=>by cases hx) fs vs cs hrep)
  refine np_op (vs:=[ptr bf,d12,.iface I.tReq (ptr S),.int .i32 number]) (by simp [SV.val,upd,e2,e3,e11]) (appReq_ok F hW hfa htw hfx o3 (hbf.keep k3 (by simp)) hbf.lt hid3 (hS.keep k03 (by simp)) (Nat.lt_of_lt_of_le hS.lt kk.size) hv0 hv1 hlen hkn hrep3 hok hl fun d' w4 o4 b4 => ?_)
  show K (pack _) w4
  have:=hk d' w4 (own_low o4 kk.size) (keep_below k03 b4 kk.size)
  simpa [pack,SV.val,upd] using this
 cases has with
 | false=>
  refine np_F (by simp [SV.val,upd]) ?_
  exact fin _ w2 b5 _ (by simp [upd,h0]) (by simp [upd,h2]) (by simp [upd,h3]) (by simp [upd,SV.val]) r5 rfl k02
 | true=>
  refine np_T (by simp [SV.val,upd]) ?_
  refine np_op (vs:=[ptrO b4 1]) (by simp [SV.val,upd,Addr.add]) (wp_load r4' rfl ?_)
  refine np_op (vs:=[.string ⟨l.toArray⟩]) (by simp [SV.val,upd]) (clientID_ok F fun bs w3 r3 hbs k3 => ?_)
  refine np_op (vs:=[.iface I.tOpt (.agg #[.func (.func I.closure) #[] #[ptr bs]])]) (by simp [SV.val,upd]) ⟨fun v hv=>by rw [List.mem_singleton.1 hv];rfl,fun e => ?_⟩
  have hal:=alloc_row (w:=w3) [.iface I.tOpt (.agg #[.func (.func I.closure) #[] #[ptr bs]])] e
  generalize hw4:w3.alloc (.cells ([Value.iface I.tOpt (.agg #[.func (.func I.closure) #[] #[ptr bs]])].map (·.cells.toList)).flatten.toArray e)=w4
  have hal4:Row w4 w3.heap.size [.iface I.tOpt (.agg #[.func (.func I.closure) #[] #[ptr bs]])]∧Keep [] w3 w4:=by rw [← hw4];exact hal
  obtain ⟨r4,k4⟩:=hal4
  refine np_op (vs:=[.slice (some ⟨w3.heap.size,0,none⟩) 1 1]) (by simp [SV.val,upd]) (newRF1_ok F r4 fun bf w5 r5 hbf k5 => ?_)
  have k35:=k4.then k5
  have r3':=r3.keep k35 (by simp)
  exact fin _ w5 bf _ (by simp [upd,h0]) (by simp [upd,h2]) (by simp [upd,h3]) (by simp [upd,SV.val]) r5 ⟨bs,rfl,r3'.lt,r3'⟩ (k02.then (k3.then k35))
end
end Go.Sp
namespace Go.Sp
open Go.Lx Go.Nx Go.Km Go.Mx Go.Kb Go.Mr
open Go.CX (T deep)
set_option linter.unusedSimpArgs false
set_option linter.unusedVariables false
def p_frameC (I:FI) (fNew fSet fRead:FuncId):FnP:=⟨.op (.box 2) [.s 0] 4 <|
 .chk 4 <|
 .op (.call fNew) [] 5 <|
 .op (.call fSet) [.s 5,.s 2] 6 <|
 .op (.app I.e8) [.k (.slice none 0 0),.s 3] 7 <|
 .op (.call fRead) [.s 5,.s 7] 8 <|
 .op (.isNil 2 true) [.s 8] 9 <|
 .ite (.s 9)
  (.ret [.k (.slice none 0 0),.k (.bool false)])
  (.nil) <|
 .op (.loadN 2) [.q 4 0] 10 <|
 .op (.mkif I.tReq) [.s 5] 11 <|
 .op (.call I.framed) [.k (.slice none 0 0),.s 10,.s 11,.s 1] 12 <|
 .ret [.s 12,.k (.bool true)],[.direct,.direct]⟩
def q_frame (e8:TypeId) (fFixed fFlex:FuncId):FnP:=⟨.op (.cv .i64) [.s 0] 6 <|
 .op (.call fFixed) [.s 6,.k (.int .i64 2)] 7 <|
 .op (.cv .i64) [.s 1] 8 <|
 .op (.call fFixed) [.s 8,.k (.int .i64 2)] 9 <|
 .op (.app e8) [.s 7,.s 9] 10 <|
 .op (.cv .i64) [.s 2] 11 <|
 .op (.call fFixed) [.s 11,.k (.int .i64 4)] 12 <|
 .op (.app e8) [.s 10,.s 12] 13 <|
 .ite (.s 3)
  (.op .len [.s 4] 14 <|
  .op (.call fFixed) [.s 14,.k (.int .i64 2)] 15 <|
  .op (.app e8) [.s 13,.s 15] 16 <|
  .op (.app e8) [.s 16,.s 4] 17 <|
  .set 20 (.s 17) <|
  .set 21 (.s 17) <|
  .nil)
  (.op (.call fFixed) [.k (.int .i64 (-1)),.k (.int .i64 2)] 18 <|
  .op (.app e8) [.s 13,.s 18] 19 <|
  .set 20 (.s 19) <|
  .set 21 (.s 19) <|
  .nil) <|
 .op (.call fFlex) [.s 0,.s 1] 22 <|
 .ite (.s 22)
  (.op (.bsl e8) [.k (.int .u8 0)] 23 <|
  .op (.app e8) [.s 21,.s 23] 24 <|
  .set 25 (.s 24) <|
  .nil)
  (.set 25 (.s 21) <|
  .nil) <|
 .op (.app e8) [.s 25,.s 5] 26 <|
 .op .len [.s 26] 27 <|
 .op (.call fFixed) [.s 27,.k (.int .i64 4)] 28 <|
 .op (.app e8) [.s 28,.s 26] 29 <|
 .ret [.s 29],[.direct]⟩
def isBo (b:Bool):Value→Bool
 | .bool b'=>b == b'
 | _=>false
theorem isBo_eq {b:Bool} {v:Value} (h:isBo b v=true):v = .bool b:=by
 unfold isBo at h
 split at h
 ·simp only [beq_iff_eq] at h;subst h;rfl
 ·cases h
theorem frameH_le (v number:Int) (o:Option Bs) (fx:Int):(frameH v number o fx).length≤9+(idB o).length:=by
 have l2:∀ n,(wrI 2 n).length=2:=fun n=>be_length _ _
 have l4:∀ n,(wrI 4 n).length=4:=fun n=>be_length _ _
 have h1:(if v≥fx then [(0:UInt8)] else []).length≤1:=by split<;>simp
 simp only [frameH,List.length_append,l2,l4]
 omega
def flexC (P:Program) (f:FuncId) (key v:Int) (b:Bool):Bool:=match fnP P f 2 with
 | some ⟨p,[.direct]⟩=>
  match (runS KF p { env:=(T.nil.set deep 0 (some (.k (.int .i16 key)))).set deep 1 (some (.k (.int .i16 v))),nj:=1,sj:=0,cells:=[] }).1 with
  | .ret [x]=>match evalA (runS KF p { env:=(T.nil.set deep 0 (some (.k (.int .i16 key)))).set deep 1 (some (.k (.int .i16 v))),nj:=1,sj:=0,cells:=[] }).2.env x with
   | some (.k u)=>isBo b u
   | _=>false
  | _=>false
 | _=>false
section
variable {P:Program} {g:Nat}
theorem flex_ok (hn:Named P) {f:FuncId} {key v:Int} {b:Bool} (h:flexC P f key v b=true) {w:World} {b0:Nat} {cs0:List Value} (hr:Row w b0 cs0) {K:Value→World→Prop} (hk:K (.bool b) w):In.wp P (.call f) [.int .i16 key,.int .i16 v] w K:=by
 unfold flexC at h
 split at h
 case h_2=>cases h
 rename_i p hf
 split at h
 case h_2=>cases h
 rename_i x hx
 split at h
 case h_2=>cases h
 rename_i u hu
 have hu':=isBo_eq h
 subst hu'
 refine calls_of_np hn (vs:=[.int .i16 key,.int .i16 v]) hf fun η hη => ?_
 have h0:η 0 = .int .i16 key:=hη 0 (by simp)
 have h1:η 1 = .int .i16 v:=hη 1 (by simp)
 let ρ:Nat→Value:=fun _=>ptr b0
 generalize hst:({ env:=(T.nil.set deep 0 (some (.k (.int .i16 key)))).set deep 1 (some (.k (.int .i16 v))),nj:=1,sj:=0,cells:=[] }:St)=st at *
 have he:EnvOk st.env st.nj ρ η:=by
  rw [← hst]
  exact ((env_nil 1 ρ η).know (n:=0) (a := .k (.int .i16 key)) trivial h0).know (n:=1) (a := .k (.int .i16 v)) trivial h1
 have hc:Cur st ρ w b0 0 cs0:=by
  rw [← hst]
  exact ⟨rfl,hr,by simp,fun j v hj=>by simp at hj⟩
 obtain ⟨g1,g2,g3,g4⟩:=runS_ok (P:=P) KF p st
 refine g4 he hc fun η' he' => ?_
 rw [hx]
 obtain ⟨_,hv⟩:=evalA_val he' hu
 show K (pack _) w
 simp only [pack,List.map,hv,AV.val]
 exact hk
theorem wp_app' {w:World} {B:Nat} {e:TypeId} {d u:Value} {out bs:Bs} {K:Value→World→Prop} (h:Own w B e d out) (hu:Sl0 w u bs) (hl:out.length+bs.length≤lim)
  (hk:∀ d' w',Own w' B e d' (out++bs)→RowKit.Below B w w'→K d' w'):In.wp P (.app e) [d,u] w K:=wp_app h hu hl hk
theorem specFrame_ok {I:SI} (F:Fns P I) {f fFlex:FuncId} (hf:fnP P f 6=some (q_frame I.e8 I.fixed fFlex)) {v number:Int} {has:Bool} {l body:Bs} {fx:Int} (hfl:flexC P fFlex 7 v (decide (v≥fx))=true) (hv : -32768≤v∧v<32768) (hn : -2147483648≤number∧number<2147483648) (hll:l.length≤32767)
  {w:World} {nm bd:Value} {ok:Nat→Prop} (hnm:∃ a c,nm = .slice a l.length c) (hnm0:∀ w',Keep [] w w'→Sl0 w' nm l) (hbd:SlE ok w bd body) (hl:8+(2+l.length)+1+body.length+4≤2147483647) {K:Value→World→Prop} (hk:∀ d w',New w w' d (frameB v number (if has then some l else none) fx body)→Keep [] w w'→K d w') :
  In.wp P (.call f) [.int .i16 7,.int .i16 v,.int .i32 number,.bool has,nm,bd] w K:=by
 refine calls_of_np F.named (vs:=[.int .i16 7,.int .i16 v,.int .i32 number,.bool has,nm,bd]) hf fun η hη => ?_
 have h0:η 0 = .int .i16 7:=hη 0 (by simp)
 have h1:η 1 = .int .i16 v:=hη 1 (by simp)
 have h2:η 2 = .int .i32 number:=hη 2 (by simp)
 have h3:η 3 = .bool has:=hη 3 (by simp)
 have h4:η 4=nm:=hη 4 (by simp)
 have h5:η 5=bd:=hη 5 (by simp)
 have l2:∀ n,(wrI 2 n).length=2:=fun n=>be_length _ _
 have l4:∀ n,(wrI 4 n).length=4:=fun n=>be_length _ _
 have hlim:lim=140737488355328:=rfl
 refine np_op (vs:=[.int .i16 7]) (by simp [SV.val,h0]) ⟨.i16,_,rfl,?_⟩
 rw [wrap64 _ (by omega) (by omega)]
 refine np_op (vs:=[i64 7,i64 ((2:Nat):Int)]) (by simp [SV.val,upd]) (fixed_ok F.named F.fixed (by omega) fun d7 w1 o7 k1 => ?_)
 refine np_op (vs:=[.int .i16 v]) (by simp [SV.val,upd,h1]) ⟨.i16,_,rfl,?_⟩
 rw [wrap64 _ (by omega) (by omega)]
 refine np_op (vs:=[i64 v,i64 ((2:Nat):Int)]) (by simp [SV.val,upd]) (fixed_ok F.named F.fixed (by omega) fun d9 w2 o9 k2 => ?_)
 have k02:=k1.then k2
 refine np_op (vs:=[d7,d9]) (by simp [SV.val,upd]) (wp_app (own_keep0 o7 k2) (own_sl o9).sl0 (by rw [l2,l2];omega) fun d10 w3 o10 b3 => ?_)
 have k03:=keep_below k02 b3 (Nat.le_refl _)
 refine np_op (vs:=[.int .i32 number]) (by simp [SV.val,upd,h2]) ⟨.i32,_,rfl,?_⟩
 rw [wrap64 _ (by omega) (by omega)]
 refine np_op (vs:=[i64 number,i64 ((4:Nat):Int)]) (by simp [SV.val,upd]) (fixed_ok F.named F.fixed (by omega) fun d12 w4 o12 k4 => ?_)
 have k04:=k03.then k4
 refine np_op (vs:=[d10,d12]) (by simp [SV.val,upd]) (wp_app (own_keep0 o10 k4) (own_sl o12).sl0 (by simp only [List.length_append,l2,l4];omega) fun d13 w5 o13 b5 => ?_)
 have k05:=keep_below k04 b5 (Nat.le_refl _)
 have fin:∀ (η':Nat→Value) (w':World) (d:Value),η' 0 = .int .i16 7→η' 1 = .int .i16 v→η' 5=bd→η' 21=d→Own w' w.heap.size I.e8 d (wrI 2 7++wrI 2 v++wrI 4 number++idB (if has then some l else none))→Keep [] w w' →
   NP.wp P (.op (.call fFlex) [.s 0,.s 1] 22 <|
    .ite (.s 22)
     (.op (.bsl I.e8) [.k (.int .u8 0)] 23 <|
     .op (.app I.e8) [.s 21,.s 23] 24 <|
     .set 25 (.s 24) <|
     .nil)
     (.set 25 (.s 21) <|
     .nil) <|
    .op (.app I.e8) [.s 25,.s 5] 26 <|
    .op .len [.s 26] 27 <|
    .op (.call I.fixed) [.s 27,.k (.int .i64 4)] 28 <|
    .op (.app I.e8) [.s 28,.s 26] 29 <|
    .ret [.s 29]) (postP [.direct] K) η' w':=by
  intro η' w' d e0 e1 e5 e21 od kk
  have hidl:(idB (if has then some l else none)).length≤2+l.length:=by
   cases has<;>simp [idB,l2]
  have hol:(wrI 2 7++wrI 2 v++wrI 4 number++idB (if has then some l else none)).length=8+(idB (if has then some l else none)).length:=by simp only [List.length_append,l2,l4]
  obtain ⟨b,cap,cs,_,_,hh,_⟩:=own_row od (by rw [hol];omega)
  have hbd':SlE ok w' bd body:=hbd.same (kk.same fun x hx=>by cases hx)
  have fin2:∀ (η2:Nat→Value) (w2:World) (d2:Value),η2 5=bd→η2 25=d2→Own w2 w.heap.size I.e8 d2 (frameH v number (if has then some l else none) fx)→Keep [] w w2 →
    NP.wp P (.op (.app I.e8) [.s 25,.s 5] 26 <|
     .op .len [.s 26] 27 <|
     .op (.call I.fixed) [.s 27,.k (.int .i64 4)] 28 <|
     .op (.app I.e8) [.s 28,.s 26] 29 <|
     .ret [.s 29]) (postP [.direct] K) η2 w2:=by
   intro η2 w2 d2 e5 e25 o2 k2
   have hHl:(frameH v number (if has then some l else none) fx).length≤8+(2+l.length)+1:=by
    have:=frameH_le v number (if has then some l else none) fx
    omega
   have hbd2:SlE ok w2 bd body:=hbd.same (k2.same fun x hx=>by cases hx)
   refine np_op (vs:=[d2,bd]) (by simp [SV.val,e25,e5]) (wp_app o2 hbd2.sl0 (by omega) fun d26 w26 o26 b26 => ?_)
   have k26:=keep_below k2 b26 (Nat.le_refl _)
   obtain ⟨a26,c26,hd26,_⟩:=sl_slice (own_sl o26)
   refine np_op (vs:=[.slice a26 (frameH v number (if has then some l else none) fx++body).length c26]) (by simp [SV.val,upd,hd26]) ⟨_,_,_,rfl,?_⟩
   generalize hn:(frameH v number (if has then some l else none) fx++body).length=n at *
   have hnl:n≤2147483647:=by rw [← hn,List.length_append];omega
   refine np_op (vs:=[i64 (n:Int),i64 ((4:Nat):Int)]) (by simp [SV.val,upd,goInt]) (fixed_ok F.named F.fixed (by omega) fun d28 w28 o28 k28 => ?_)
   have o26':=own_keep0 o26 k28
   have k028:=k26.then k28
   refine np_op (vs:=[d28,d26]) (by simp [SV.val,upd]) (wp_app o28 (own_sl o26').sl0 (by rw [l4,hn];omega) fun d29 w29 o29 b29 => ?_)
   show K (pack _) w29
   have hwrap:IntKind.i32.wrap (n:Int)=(n:Int):=by
    simp only [IntKind.wrap,IntKind.bits,IntKind.signed]
    simp
    omega
   have hB:wrI 4 (n:Int)++(frameH v number (if has then some l else none) fx++body)=frameB v number (if has then some l else none) fx body:=by
    unfold frameB
    rw [hn,hwrap]
   rw [hB] at o29
   have:=hk d29 w29 (Own.low o29 k26.size) (keep_below k028 b29 k26.size)
   simpa [pack,SV.val,upd] using this
  refine np_op (vs:=[.int .i16 7,.int .i16 v]) (by simp [SV.val,e0,e1]) (flex_ok F.named hfl (b0:=b) (cs0:=cs) ⟨I.e8,hh⟩ ?_)
  by_cases hge:v≥fx
  ·have hH:frameH v number (if has then some l else none) fx=wrI 2 7++wrI 2 v++wrI 4 number++idB (if has then some l else none)++[0]:=by simp [frameH,hge,List.append_assoc]
   refine np_T (by simp [SV.val,upd,hge]) ?_
   refine np_op (vs:=([0]:Bs).map u8) (by simp [SV.val,u8]) (wp_bsl fun bz w7 hbz k7 r7 => ?_)
   refine np_op (vs:=[d,.slice (some ⟨bz,0,none⟩) ([0]:Bs).length ([0]:Bs).length]) (by simp [SV.val,upd,e21]) (wp_app (own_keep0 od k7) (.inr ⟨_,_,rfl,(row_bytes (ok:=fun _=>True) r7 trivial).2.2⟩) (by rw [hol];simp;omega) fun d20 w8 o8 b8 => ?_)
   exact fin2 _ w8 d20 (by simp [upd,e5]) (by simp [upd,SV.val]) (by rw [hH];exact o8) (keep_below (kk.then k7) b8 (Nat.le_refl _))
  ·have hH:frameH v number (if has then some l else none) fx=wrI 2 7++wrI 2 v++wrI 4 number++idB (if has then some l else none):=by simp [frameH,hge,List.append_assoc]
   refine np_F (by simp [SV.val,upd,hge];try omega) ?_
   exact fin2 _ w' d (by simp [upd,e5]) (by simp [upd,SV.val,e21]) (by rw [hH];exact od) kk
 have hw16:IntKind.i16.wrap (l.length:Int)=(l.length:Int):=wrap16 _ (by omega) (by omega)
 cases has with
 | true=>
  obtain ⟨a4,c4,e4⟩:=hnm
  refine np_T (by simp [SV.val,upd,h3]) ?_
  refine np_op (vs:=[.slice a4 l.length c4]) (by simp [SV.val,upd,h4,e4]) ⟨_,_,_,rfl,?_⟩
  refine np_op (vs:=[i64 (l.length:Int),i64 ((2:Nat):Int)]) (by simp [SV.val,upd,goInt]) (fixed_ok F.named F.fixed (by omega) fun d15 w6 o15 k6 => ?_)
  have k06:=k05.then k6
  refine np_op (vs:=[d13,d15]) (by simp [SV.val,upd]) (wp_app (own_keep0 o13 k6) (own_sl o15).sl0 (by simp only [List.length_append,l2,l4];omega) fun d16 w7 o16 b7 => ?_)
  have k07:=keep_below k06 b7 (Nat.le_refl _)
  refine np_op (vs:=[d16,nm]) (by simp [SV.val,upd,h4]) (wp_app o16 (hnm0 w7 k07) (by simp only [List.length_append,l2,l4];omega) fun d17 w8 o17 b8 => ?_)
  refine fin _ w8 d17 (by simp [upd,h0]) (by simp [upd,h1]) (by simp [upd,h5]) (by simp [upd,SV.val]) ?_ (keep_below k07 b8 (Nat.le_refl _))
  simpa [idB,hw16,List.append_assoc] using o17
 | false=>
  refine np_F (by simp [SV.val,upd,h3]) ?_
  refine np_op (vs:=[i64 (-1),i64 ((2:Nat):Int)]) (by simp [SV.val]) (fixed_ok F.named F.fixed (by omega) fun d18 w6 o18 k6 => ?_)
  have k06:=k05.then k6
  refine np_op (vs:=[d13,d18]) (by simp [SV.val,upd]) (wp_app (own_keep0 o13 k6) (own_sl o18).sl0 (by simp only [List.length_append,l2,l4];omega) fun d19 w7 o19 b7 => ?_)
  refine fin _ w7 d19 (by simp [upd,h0]) (by simp [upd,h1]) (by simp [upd,h5]) (by simp [upd,SV.val]) ?_ (keep_below k06 b7 (Nat.le_refl _))
  simpa [idB,List.append_assoc] using o19
theorem frameC_ok {I:FI} {K0:Ids} (F:FrOk P I K0) {T:Tab} (hT:TabOk P T g) {Wt:WTab} (hW:WTabOk P Wt I.e8) {f fNew fSet fRead fr fDef:FuncId} {z:List Value} {ds:List (Nat×Value)} {fs:Fs} {pr pa:NP} {v number:Int} {fx:Int}
  (hf:fnP P f 4=some (p_frameC I fNew fSet fRead)) (hNew:fnP P fNew 0=some (p_new z fDef)) (hd:T.defs fDef=some ds) (hl:ds.all (fun d=>decide (d.1<z.length))=true) (hSet:fnP P fSet 2=some Mr.p_set) (hRead:fnP P fRead 2=some (p_read fr))
  (hfr:fnP P fr 3=some ⟨pr,[.direct]⟩) (htr:topR T fs 1 ((setD 0 ds z).set 0 (.int .i16 v)) false pr=true)
  (hfa:fnP P I.app 2=some ⟨pa,[.direct]⟩) (htw:topW Wt fs (knownC 1 ((setD 0 ds z).set 0 (.int .i16 v))) pa=true) (hz:0<z.length) (hv1:v≠0) (hfx:fnP P I.isFlex 1=some (p_isFlex fx))
  {ok:Nat→Prop} {w:World} {src:Value} {bs l:Bs} {has:Bool} {vs:List Val} {et:TypeId} {ev:Value} {K:Value→World→Prop} (hsl:SlE ok w src bs) (hbl:bs.length≤2147483647) (hll:l.length≤2147483647) (hrd:rdF fs bs=some (vs,[])) (hok:okF fs vs) (hwr:wrF fs vs=bs) (herr:w.cell? ⟨g,0,none⟩=some (.iface et ev))
  (hk:∀ d w',Keep [] w w'→Own w' w.heap.size I.e8 d (frameB v number (if has then some l else none) fx bs)→K (.tuple #[d,.bool true]) w'):In.wp P (.call f) [.agg #[.bool has,.string ⟨l.toArray⟩],.int .i32 number,.int .i16 v,src] w K:=by
 refine calls_of_np F.named (vs:=[.agg #[.bool has,.string ⟨l.toArray⟩],.int .i32 number,.int .i16 v,src]) hf fun η hη => ?_
 have h0:η 0 = .agg #[.bool has,.string ⟨l.toArray⟩]:=hη 0 (by simp)
 have h1:η 1 = .int .i32 number:=hη 1 (by simp)
 have h2:η 2 = .int .i16 v:=hη 2 (by simp)
 have h3:η 3=src:=hη 3 (by simp)
 simp only [List.all_eq_true,decide_eq_true_eq] at hl
 have hgw:g<w.heap.size:=cell_lt herr
 have hlim:lim=140737488355328:=rfl
 refine np_op (vs:=[.agg ([.bool has,.string ⟨l.toArray⟩]:List Value).toArray]) (by simp [SV.val,h0]) (wp_box rfl fun b4 w0 r4 hb4 k0 => ?_)
 refine ⟨⟨_,by simp only [upd];rfl⟩,?_⟩
 refine np_op (vs:=[]) rfl (new_ok F.named hT hNew hd hl fun S w1 r1 hS k1 => ?_)
 have hzl:=setD_length 0 ds z
 refine np_op (vs:=[ptr S,.int .i16 v]) (by simp [SV.val,upd,h2]) (set_ok' F.named hSet r1 (by omega) rfl rfl fun w2 r2 k2 => ?_)
 have k01:=k0.then k1
 have hS0:w.heap.size≤S:=by have:=k0.size;omega
 have hb4S:b4≠S:=by have:=r4.lt;omega
 have kk2:Keep [] w w2:=k01.trans k2 fun x hx hlt=>by rw [List.mem_singleton.1 hx] at hlt;omega
 have r4b:=(r4.keep k1 (by simp)).keep k2 (by simpa using hb4S)
 have hsl2:SlE (fun k=>ok k∧k<w.heap.size) w2 src bs:=(hsl.weak (ok':=fun k=>ok k∧k<w.heap.size) fun b hb ho=>⟨ho,hb⟩).same (kk2.same fun x hx=>by cases hx)
 refine np_op (vs:=[.slice none 0 0,src]) (by simp [SV.val,upd,h3]) (wp_appG (own_nil (e:=I.e8) w2) hsl2.sl0 (by simp only [List.length_nil];omega) fun d3 w3 o3 b3 _ => ?_)
 rw [List.nil_append] at o3
 have k3:Keep [] w2 w3:=Keep.of_below b3
 have hSw:S<w2.heap.size:=r2.lt
 have r3:Row w3 S ((setD 0 ds z).set 0 (.int .i16 v)):=r2.keep k3 (by simp)
 have hsl3:Sl (fun k=>k≠S∧k≠b4) w3 d3 bs:=(own_sl o3).weak fun b _ hb=>⟨by omega,by have:=r4b.lt;omega⟩
 have kk3:Keep [] w w3:=kk2.then k3
 have herr3:w3.cell? ⟨g,0,none⟩=some (.iface et ev):=cell_keep herr kk3 (by simp)
 refine np_op (vs:=[ptr S,d3]) (by simp [SV.val,upd]) (read_ok F.named hRead (topR_ok F.named hT hfr htr (ok:=fun k=>k≠S) (fun k hk=>by have:=k3.size;omega) (fun h=>h rfl) r3 (hsl3.weak fun b _ h=>h.1) herr3 (by omega) (fun h=>by rw [hrd] at h;cases h) ?_))
 intro vs' rest hrd' w4 cs' k4 r4' hcl hlow hrep
 rw [hrd] at hrd'
 cases hrd'
 have kk4:Keep [] w w4:=kk3.trans k4 fun x hx hlt=>by rw [List.mem_singleton.1 hx] at hlt;omega
 have r4c:=(r4b.keep k3 (by simp)).keep k4 (by simpa using hb4S)
 refine np_op (vs:=[.nilIface]) (by simp [SV.val,upd]) ⟨_,true,rfl,rfl,?_⟩
 refine np_ite false (by simp [SV.val,upd]) ?_
 simp only [Bool.false_eq_true,if_false]
 have hcl':cs'.length=z.length:=by rw [hcl,List.length_set,hzl]
 refine np_op (vs:=[ptrO b4 0]) (by simp [SV.val,upd,Addr.add]) (wp_lds (by have h:=r4c.range 0 2;exact h) rfl ?_)
 refine np_op (vs:=[ptr S]) (by simp [SV.val,upd]) ⟨_,rfl,?_⟩
 have l2:∀ n,(wrI 2 n).length=2:=fun n=>be_length _ _
 have l4:∀ n,(wrI 4 n).length=4:=fun n=>be_length _ _
 refine np_op (vs:=[.slice none 0 0,.agg #[.bool has,.string ⟨l.toArray⟩],.iface I.tReq (ptr S),.int .i32 number]) (by simp [SV.val,upd,h1]) (framed_ok F hW hfa htw hfx (v:=v) r4' ?_ hv1 ?_ ?_ (hrep.weak fun b hb _=>hb) hok ?_ fun d5 w5 o5 k5 => ?_)
 ·rw [hlow 0 (by omega),List.getElem?_set,if_pos rfl,if_pos (by omega)]
 ·simp [knownC,hcl',hzl];omega
 ·intro j v' hj
  unfold knownC at hj
  by_cases hj0:j<1
  ·rw [List.getElem?_append_left (by simp [hzl];omega)] at hj
   rw [hlow j hj0]
   simp only [List.getElem?_map,List.getElem?_take,hj0,if_true,Option.map_eq_some_iff] at hj
   obtain ⟨u,u1,u2⟩:=hj
   cases u2
   exact u1
  ·rw [List.getElem?_append_right (by simp [hzl];omega),List.getElem?_replicate] at hj
   split at hj<;>cases hj
 ·rw [hwr]
  have hidl:(idB (if has then some l else none)).length≤2+l.length:=by
   cases has<;>simp [idB,l2]
  have:=frameH_le v number (if has then some l else none) fx
  rw [List.length_append]
  omega
 ·show K (pack _) w5
  rw [hwr] at o5
  have:=hk d5 w5 (kk4.then k5) (own_low o5 kk4.size)
  simpa [pack,SV.val,upd] using this
end
end Go.Sp
namespace Go.Sp
open Go.Lx Go.Nx Go.Km Go.Mx Go.Kb Go.Mr
set_option linter.unusedSimpArgs false
set_option linter.unusedVariables false
def q_zzFits1:FnP:=⟨.op (.box 2) [.s 0] 1 <|
 .chk 1 <|
 .op .load [.q 1 1] 2 <|
 .op .lenS [.s 2] 3 <|
 .op (.bin .gtr) [.s 3,.k (.int .i64 2147483647)] 4 <|
 .ite (.s 4)
  (.ret [.k (.bool false)])
  (.nil) <|
 .ret [.k (.bool true)],[.direct]⟩
def q_idBytes:FnP:=⟨.op (.box 2) [.s 0] 1 <|
 .chk 1 <|
 .draw <|
 .look .load [.q 1 1] 2 <|
 .look .load [.q 1 1] 3 <|
 .look .lenS [.s 3] 4 <|
 .look (.bin .leq) [.s 4,.k (.int .i64 32767)] 5 <|
 .op .toByt [.s 2] 6 <|
 .keep (.bin .leq) [.s 4,.k (.int .i64 32767)] 5 <|
 .keep .lenS [.s 3] 4 <|
 .keep .load [.q 1 1] 3 <|
 .keep .load [.q 1 1] 2 <|
 .ret [.s 6,.s 5],[.direct,.direct]⟩
def frTail (fFrame fSpec fSame:FuncId):NP := .op (.loadN 2) [.q 4 0] 27 <|
 .op (.cv .i16) [.s 22] 28 <|
 .op (.call fFrame) [.s 27,.s 2,.s 28,.s 26] 29 <|
 .op (.ex 0) [.s 29] 30 <|
 .op (.ex 1) [.s 29] 31 <|
 .op .not [.s 19] 32 <|
 .ite (.s 32)
  (.set 51 (.k (.bool true)) <|
  .set 52 (.k (.tuple #[])) <|
  .set 53 (.k (.tuple #[])) <|
  .set 54 (.k (.tuple #[])) <|
  .set 55 (.k (.tuple #[])) <|
  .set 56 (.k (.tuple #[])) <|
  .set 57 (.k (.tuple #[])) <|
  .set 58 (.k (.tuple #[])) <|
  .set 59 (.k (.tuple #[])) <|
  .set 60 (.k (.tuple #[])) <|
  .set 61 (.k (.tuple #[])) <|
  .set 62 (.k (.tuple #[])) <|
  .set 63 (.k (.tuple #[])) <|
  .set 64 (.k (.tuple #[])) <|
  .set 65 (.k (.bool true)) <|
  .set 66 (.k (.bool true)) <|
  .nil)
  (.ite (.s 31)
   (.op (.cv .i16) [.s 22] 33 <|
   .op .load [.q 4 0] 34 <|
   .op (.call fSpec) [.k (.int .i16 7),.s 33,.s 2,.s 34,.s 18,.s 26] 35 <|
   .op (.call fSame) [.s 30,.s 35] 36 <|
   .set 37 (.k (.bool true)) <|
   .set 38 (.s 30) <|
   .set 39 (.s 22) <|
   .set 40 (.s 33) <|
   .set 41 (.s 2) <|
   .set 42 (.q 4 0) <|
   .set 43 (.s 34) <|
   .set 44 (.s 18) <|
   .set 45 (.s 26) <|
   .set 46 (.s 35) <|
   .set 47 (.s 36) <|
   .set 48 (.s 36) <|
   .set 49 (.s 36) <|
   .set 50 (.s 36) <|
   .nil)
   (.set 37 (.k (.bool false)) <|
   .set 38 (.k (.tuple #[])) <|
   .set 39 (.k (.tuple #[])) <|
   .set 40 (.k (.tuple #[])) <|
   .set 41 (.k (.tuple #[])) <|
   .set 42 (.k (.tuple #[])) <|
   .set 43 (.k (.tuple #[])) <|
   .set 44 (.k (.tuple #[])) <|
   .set 45 (.k (.tuple #[])) <|
   .set 46 (.k (.tuple #[])) <|
   .set 47 (.k (.tuple #[])) <|
   .set 48 (.k (.bool false)) <|
   .set 49 (.k (.bool false)) <|
   .set 50 (.k (.bool false)) <|
   .nil) <|
  .set 51 (.k (.bool false)) <|
  .set 52 (.s 31) <|
  .set 53 (.s 37) <|
  .set 54 (.s 38) <|
  .set 55 (.s 39) <|
  .set 56 (.s 40) <|
  .set 57 (.s 41) <|
  .set 58 (.s 42) <|
  .set 59 (.s 43) <|
  .set 60 (.s 44) <|
  .set 61 (.s 45) <|
  .set 62 (.s 46) <|
  .set 63 (.s 47) <|
  .set 64 (.s 48) <|
  .set 65 (.s 49) <|
  .set 66 (.s 50) <|
  .nil) <|
 .ret [.s 66]
def p_fnFrame (fZ1 fZz fId fMax fVer fMsg fWrite fFrame fSpec fSame:FuncId):FnP:=⟨.op (.box 2) [.s 1] 4 <|
 .chk 4 <|
 .op (.box 5) [.s 3] 5 <|
 .chk 5 <|
 .op (.loadN 2) [.q 4 0] 6 <|
 .op (.call fZ1) [.s 6] 7 <|
 .op .not [.s 7] 8 <|
 .ite (.s 8)
  (.set 10 (.k (.tuple #[])) <|
  .nil)
  (.op (.loadN 5) [.q 5 0] 9 <|
  .set 10 (.s 9) <|
  .nil) <|
 .ite (.s 8)
  (.set 12 (.k (.tuple #[])) <|
  .nil)
  (.op (.call fZz) [.s 10] 11 <|
  .set 12 (.s 11) <|
  .nil) <|
 .ite (.s 8)
  (.set 14 (.k (.tuple #[])) <|
  .nil)
  (.op .not [.s 12] 13 <|
  .set 14 (.s 13) <|
  .nil) <|
 .ite (.s 8)
  (.set 15 (.k (.bool true)) <|
  .nil)
  (.set 15 (.s 14) <|
  .nil) <|
 .ite (.s 15)
  (.ret [.k (.bool true)])
  (.nil) <|
 .op (.loadN 2) [.q 4 0] 16 <|
 .op (.call fId) [.s 16] 17 <|
 .op (.ex 0) [.s 17] 18 <|
 .op (.ex 1) [.s 17] 19 <|
 .op (.call fMax) [] 20 <|
 .op (.bin .lss) [.s 20,.k (.int .i64 0)] 21 <|
 .ite (.s 21)
  (.ret [.k (.bool false)])
  (.nil) <|
 .op (.call fVer) [.s 0,.s 20] 22 <|
 .op (.bin .eql) [.s 22,.k (.int .i64 0)] 23 <|
 .ite (.s 23)
  (.ret [.k (.bool true)])
  (.nil) <|
 .draw <|
 .look (.loadN 5) [.q 5 0] 24 <|
 .op (.call fMsg) [] 25 <|
 .keep (.loadN 5) [.q 5 0] 24 <|
 .op (.call fWrite) [.s 25,.s 22,.s 24] 26 <|
 .keep (.loadN 5) [.q 5 0] 24 <|
 frTail fFrame fSpec fSame,[.direct]⟩
section
variable {P:Program} {g:Nat}
theorem zz1_ok (hn:Named P) {f:FuncId} (hf:fnP P f 1=some q_zzFits1) {w:World} {has:Bool} {l:Bs} {K:Value→World→Prop} (hk:∀ b w',(b=true→l.length≤2147483647)→Keep [] w w'→K (.bool b) w'):In.wp P (.call f) [.agg #[.bool has,.string ⟨l.toArray⟩]] w K:=by
 refine calls_of_np hn (vs:=[.agg #[.bool has,.string ⟨l.toArray⟩]]) hf fun η hη => ?_
 have h0:η 0 = .agg #[.bool has,.string ⟨l.toArray⟩]:=hη 0 (by simp)
 refine np_op (vs:=[.agg ([.bool has,.string ⟨l.toArray⟩]:List Value).toArray]) (by simp [SV.val,h0]) (wp_box rfl fun b w1 r1 hb k1 => ?_)
 refine ⟨⟨_,by simp only [upd];rfl⟩,?_⟩
 refine np_op (vs:=[ptrO b 1]) (by simp [SV.val,upd,Addr.add]) (wp_load r1 rfl ?_)
 refine np_op (vs:=[.string ⟨l.toArray⟩]) (by simp [SV.val,upd]) ⟨_,rfl,?_⟩
 refine np_op (vs:=[i64 (l.length:Int),i64 2147483647]) (by simp [SV.val,upd,goInt,ByteArray.size]) ⟨.i64,_,_,.bool (decide ((l.length:Int) > 2147483647)),rfl,rfl,?_⟩
 by_cases h:(l.length:Int) > 2147483647
 ·refine np_T (by simp [SV.val,upd];omega) ?_
  show K (.bool false) w1
  exact hk _ w1 (fun h=>by cases h) k1
 ·refine np_F (by simp [SV.val,upd];omega) ?_
  show K (.bool true) w1
  exact hk _ w1 (fun _=>by omega) k1
theorem bytesAt_keep {w w':World} {a:Addr} {bs:Bs} (h:BytesAt w a bs) (k:Keep [] w w'):BytesAt w' a bs:=fun j hj=>by
 have hc:=h j hj
 have hlt:(a.add j).block<w.heap.size:=Kb.cell_lt hc
 rw [World.cell?_of_block (k.block _ hlt (by simp))]
 exact hc
theorem idBytes_ok (hn:Named P) {f:FuncId} (hf:fnP P f 1=some q_idBytes) {w:World} {has:Bool} {l:Bs} {K:Value→World→Prop} (hk:∀ nm w',(∃ a c,nm = .slice a l.length c)→(∀ w'',Keep [] w' w''→Sl0 w'' nm l)→Keep [] w w'→K (.tuple #[nm,.bool (decide ((l.length:Int)≤32767))]) w') :
  In.wp P (.call f) [.agg #[.bool has,.string ⟨l.toArray⟩]] w K:=by
 refine calls_of_np hn (vs:=[.agg #[.bool has,.string ⟨l.toArray⟩]]) hf fun η hη => ?_
 have h0:η 0 = .agg #[.bool has,.string ⟨l.toArray⟩]:=hη 0 (by simp)
 refine np_op (vs:=[.agg ([.bool has,.string ⟨l.toArray⟩]:List Value).toArray]) (by simp [SV.val,h0]) (wp_box rfl fun b w1 r1 hb k1 => ?_)
 refine ⟨⟨_,by simp only [upd];rfl⟩,?_⟩
 refine np_draw ?_
 have kd:=keep_drawn w1
 have r1':=r1.keep kd (by simp)
 refine np_look (vs:=[ptrO b 1]) (by simp [SV.val,upd,Addr.add]) (wp_load r1' rfl ⟨rfl,?_⟩)
 refine np_look (vs:=[ptrO b 1]) (by simp [SV.val,upd,Addr.add]) (wp_load r1' rfl ⟨rfl,?_⟩)
 refine np_look (vs:=[.string ⟨l.toArray⟩]) (by simp [SV.val,upd]) ⟨_,rfl,rfl,?_⟩
 refine np_look (vs:=[i64 (l.length:Int),i64 32767]) (by simp [SV.val,upd,goInt,ByteArray.size]) ⟨.i64,_,_,.bool (decide ((l.length:Int)≤32767)),rfl,rfl,rfl,?_⟩
 refine np_op (vs:=[.string ⟨l.toArray⟩]) (by simp [SV.val,upd]) ⟨_,rfl,fun c w2 hby hbl => ?_⟩
 have k2:Keep [] { w1 with drawn:=w1.drawn+1 } w2:=Keep.of_below hbl
 have r2:=r1'.keep k2 (by simp)
 refine np_keep (vs:=[i64 (l.length:Int),i64 32767]) (by simp [SV.val,upd,goInt,ByteArray.size]) ⟨.i64,_,_,.bool (decide ((l.length:Int)≤32767)),rfl,rfl,by simp [upd],rfl⟩ ?_
 refine np_keep (vs:=[.string ⟨l.toArray⟩]) (by simp [SV.val,upd]) ⟨_,rfl,by simp [upd],rfl⟩ ?_
 refine np_keep (vs:=[ptrO b 1]) (by simp [SV.val,upd,Addr.add]) (wp_load r2 rfl ⟨by simp [upd],rfl⟩) ?_
 refine np_keep (vs:=[ptrO b 1]) (by simp [SV.val,upd,Addr.add]) (wp_load r2 rfl ⟨by simp [upd],rfl⟩) ?_
 show K (pack _) w2
 have hby':BytesAt w2 ⟨w1.heap.size,0,none⟩ l:=by simpa using hby
 have:=hk (.slice (some ⟨w1.heap.size,0,none⟩) l.length c) w2 ⟨_,_,rfl⟩ (fun w'' k => .inr ⟨_,_,rfl,bytesAt_keep hby' k⟩) ((k1.then kd).then k2)
 simpa [pack,SV.val,upd,ByteArray.size] using this
theorem law_frame {I:SI} (F:Fns P I) {J:FI} {K0:Ids} (Fr:FrOk P J K0) (he:J.e8=I.e8) {T:Tab} (hT:TabOk P T g) {Wt:WTab} (hW:WTabOk P Wt J.e8) {f fZ1 fZz fId fMax fVer fMsg fFrame fSpec fSame fFlex fNew fMx fDef fSet fRead fr:FuncId} {z:List Value} {ds:List (Nat×Value)} {m d:Nat} {fs:Nat→Fs} {fl:Fl} {fx fx2:Int}
  (hf:fnP P f 4=some (p_fnFrame fZ1 fZz fId fMax fVer fMsg I.write fFrame fSpec fSame)) (h1:fnP P fZ1 1=some q_zzFits1) (hz:fnP P fZz 1=some (q_zzFits2 I)) (hId:fnP P fId 1=some q_idBytes) (hS:fnP P fSame 2=some p_same) (hV:fnP P fVer 2=some p_version)
  (hMax:fnP P fMax 0=some (p_max fNew fMx)) (hNew:fnP P fNew 0=some (p_new z fDef)) (hd:T.defs fDef=some ds) (hl:(decide (0<z.length) && ds.all (fun d=>decide (d.1<z.length)))=true) (hM:fnP P fMx 1=some (p_maxV (m:Int))) (hm:m<1000)
  (hFr:fnP P fFrame 4=some (p_frameC J fNew fSet fRead)) (hSet:fnP P fSet 2=some Mr.p_set) (hRead:fnP P fRead 2=some (p_read fr))
  (hr:msgR P T fr (setD 0 ds z) m fs=true) (hw:msgW P Wt J.app (setD 0 ds z) m fs=true) (hwf:((List.range (m+1)).all fun v=>wfF (fs v))=true)
  (hmsg:msgC P d fMsg=some (fl,fx)) (hok:(okFl fl && decide (fl.len≤32767))=true) (hfit:((List.range (m+1)).all fun v=>fitF (v:Int) (isFlex fx (v:Int)) fl (fs v))=true)
  (hSpec:fnP P fSpec 6=some (q_frame I.e8 I.fixed fFlex)) (hfx:fnP P J.isFlex 1=some (p_isFlex fx2)) (hflex:((List.range (m+1)).all fun v=>flexC P fFlex 7 (v:Int) (decide ((v:Int)≥fx2)))=true)
  (hlm:((List.range (m+1)).all fun v=>decide (mxF (v:Int) (isFlex fx (v:Int)) fl+1074004164+40000≤2147483647))=true)
  {w:World} {cs:List Value} {t:Tr} {n:Nat} {has:Bool} {l:Bs} {number:Int} {et:TypeId} {ev:Value} (hn8:n<256) (hnum : -2147483648≤number∧number<2147483648) (ht:RepTr w cs t) (herr:w.cell? ⟨g,0,none⟩=some (.iface et ev))
  {K:Value→World→Prop} (hk:∀ w',Keep [] w w'→K (.bool true) w'):In.wp P (.call f) [.int .u8 (n:Int),.agg #[.bool has,.string ⟨l.toArray⟩],.int .i32 number,.agg cs.toArray] w K:=by
 have hn:=F.named
 simp only [Bool.and_eq_true,decide_eq_true_eq] at hl hok
 obtain ⟨p,hp,hr⟩:=rdC_ok hr
 obtain ⟨q,hq,hw⟩:=wrC_ok hw
 simp only [List.all_eq_true,List.mem_range,decide_eq_true_eq] at hr hw hwf hfit hflex hlm
 have hmod:n%(m+1)≤m:=by have:=Nat.mod_lt n (show 0<m+1 by omega);omega
 generalize hvn:n%(m+1)=v at hmod
 have hcl:cs.length=5:=by obtain ⟨_,_,_,_,_,e⟩:=ht.cells;rw [e];rfl
 refine calls_of_np hn (vs:=[.int .u8 (n:Int),.agg #[.bool has,.string ⟨l.toArray⟩],.int .i32 number,.agg cs.toArray]) hf fun η hη => ?_
 have h0:η 0 = .int .u8 (n:Int):=hη 0 (by simp)
 have h1':η 1 = .agg #[.bool has,.string ⟨l.toArray⟩]:=hη 1 (by simp)
 have h2:η 2 = .int .i32 number:=hη 2 (by simp)
 have h3:η 3 = .agg cs.toArray:=hη 3 (by simp)
 refine np_op (vs:=[.agg ([.bool has,.string ⟨l.toArray⟩]:List Value).toArray]) (by simp [SV.val,h1']) (wp_box rfl fun b4 w1 r4 hb4 k1 => ?_)
 refine ⟨⟨_,by simp only [upd];rfl⟩,?_⟩
 refine np_op (vs:=[.agg cs.toArray]) (by simp [SV.val,upd,h3]) (wp_box hcl fun b5 w2 r5 hb5 k2 => ?_)
 refine ⟨⟨_,by simp only [upd];rfl⟩,?_⟩
 have k02:=k1.then k2
 have r42:=r4.keep k2 (by simp)
 have all:∀ {w:World},Row w b5 cs→w.rangeAt b5 0 cs:=fun h=>by have h:=h.range 0 5;rw [List.drop_zero,List.take_of_length_le (by omega)] at h;exact h
 have all4:∀ {w:World},Row w b4 [.bool has,.string ⟨l.toArray⟩]→w.rangeAt b4 0 [.bool has,.string ⟨l.toArray⟩]:=fun h=>h.range 0 2
 refine np_op (vs:=[ptrO b4 0]) (by simp [SV.val,upd,Addr.add]) (wp_lds (all4 r42) rfl ?_)
 refine np_op (vs:=[.agg #[.bool has,.string ⟨l.toArray⟩]]) (by simp [SV.val,upd]) (zz1_ok hn h1 fun z1 w3 hz1 k3 => ?_)
 have k03:=k02.then k3
 have r43:=r42.keep k3 (by simp)
 have r53:=r5.keep k3 (by simp)
 refine np_op (vs:=[.bool z1]) (by simp [SV.val,upd]) ⟨z1,rfl,?_⟩
 cases z1 with
 | false=>
  refine np_T (by simp [SV.val,upd]) ?_
  refine np_T (by simp [SV.val,upd]) ?_
  refine np_T (by simp [SV.val,upd]) ?_
  refine np_T (by simp [SV.val,upd]) ?_
  refine np_T (by simp [SV.val,upd]) ?_
  show K (pack _) w3
  exact hk w3 k03
 | true=>
 have hll:=hz1 rfl
 refine np_F (by simp [SV.val,upd]) ?_
 refine np_op (vs:=[ptrO b5 0]) (by simp [SV.val,upd,Addr.add]) (wp_lds (all r53) hcl ?_)
 refine np_F (by simp [SV.val,upd]) ?_
 refine np_op (vs:=[.agg cs.toArray]) (by simp [SV.val,upd]) (zz2_ok F hz (ht.keep k03) fun z2 w4 k4 => ?_)
 have k04:=k03.then k4
 have r44:=r43.keep k4 (by simp)
 have r54:=r53.keep k4 (by simp)
 refine np_F (by simp [SV.val,upd]) ?_
 refine np_op (vs:=[.bool z2]) (by simp [SV.val,upd]) ⟨z2,rfl,?_⟩
 refine np_F (by simp [SV.val,upd]) ?_
 cases z2 with
 | false=>
  refine np_T (by simp [SV.val,upd]) ?_
  show K (pack _) w4
  exact hk w4 k04
 | true=>
 refine np_F (by simp [SV.val,upd]) ?_
 show NP.wp P (.op (.loadN 2) [.q 4 0] 16 _) _ _ w4
 refine np_op (vs:=[ptrO b4 0]) (by simp [SV.val,upd,Addr.add]) (wp_lds (all4 r44) rfl ?_)
 refine np_op (vs:=[.agg #[.bool has,.string ⟨l.toArray⟩]]) (by simp [SV.val,upd]) (idBytes_ok hn hId fun nm w5 hnm hnm0 k5 => ?_)
 have k05:=k04.then k5
 have r45:=r44.keep k5 (by simp)
 have r55:=r54.keep k5 (by simp)
 generalize his:decide ((l.length:Int)≤32767)=is
 refine np_op (vs:=[.tuple #[nm,.bool is]]) (by simp [SV.val,upd]) ⟨_,_,rfl,rfl,?_⟩
 refine np_op (vs:=[.tuple #[nm,.bool is]]) (by simp [SV.val,upd]) ⟨_,_,rfl,rfl,?_⟩
 have hl2:=hl.2
 have hl2':=hl2
 simp only [List.all_eq_true,decide_eq_true_eq] at hl2'
 refine np_op (vs:=[]) rfl (max_ok hn hT hMax hNew hd hl2' hM hm fun w6 k6 => ?_)
 have k06:=k05.then k6
 have r46:=r45.keep k6 (by simp)
 have r56:=r55.keep k6 (by simp)
 refine np_op (vs:=[.int .i64 (m:Int),.int .i64 0]) (by simp [SV.val,upd]) ⟨.i64,m,0,.bool false,rfl,by simp [binV],?_⟩
 refine np_F (by simp [SV.val,upd]) ?_
 show NP.wp P (.op (.call fVer) [.s 0,.s 20] 22 _) _ _ w6
 refine np_op (vs:=[.int .u8 (n:Int),.int .i64 (m:Int)]) (by simp [SV.val,upd,h0]) (version_ok hn hV hm hn8 ?_)
 rw [hvn]
 refine np_eq (a:=(v:Int)) (by simp [SV.val,upd]) ?_
 by_cases hv0:v=0
 ·refine np_T (by simp [SV.val,upd,hv0]) ?_
  show K (pack _) w6
  simpa [pack,SV.val] using hk w6 k06
 refine np_F (by simp [SV.val,upd,hv0]) ?_
 show NP.wp P (.draw _) _ _ w6
 refine np_draw ?_
 have kd:=keep_drawn w6
 have k0d:=k06.then kd
 have r5d:=r56.keep kd (by simp)
 have r4d:=r46.keep kd (by simp)
 refine np_look (vs:=[ptrO b5 0]) (by simp [SV.val,upd,Addr.add]) (wp_lds (all r5d) hcl ⟨rfl,?_⟩)
 refine np_op (vs:=[]) rfl (msgC_ok hn hmsg fun vF w7 hF k7 => ?_)
 have k07:=k0d.then k7
 have r57:=r5d.keep k7 (by simp)
 have r47:=r4d.keep k7 (by simp)
 refine np_keep (vs:=[ptrO b5 0]) (by simp [SV.val,upd,Addr.add]) (wp_lds (all r57) hcl ⟨by simp [upd],rfl⟩) ?_
 have hmx:=hlm v (by omega)
 have hpl:=partB_max (v:Int) (isFlex fx (v:Int)) fl t
 have hpl2:(partB (v:Int) (isFlex fx (v:Int)) fl t).length+40000≤2147483647:=by
  have:(if isFlex fx (v:Int)=true then 1074004164 else 0)≤1074004164:=by split<;>omega
  omega
 have hlim:lim=140737488355328:=rfl
 refine np_op (vs:=[.agg (mcells vF fx).toArray,i64 (v:Int),.agg cs.toArray]) (by simp [SV.val,upd]) (write_ok F hok.1 hok.2 hF (ht.keep k07) (by omega) fun db w8 n8 k8 => ?_)
 have k08:=k07.then k8
 have r58:=r57.keep k8 (by simp)
 have r48:=r47.keep k8 (by simp)
 refine np_keep (vs:=[ptrO b5 0]) (by simp [SV.val,upd,Addr.add]) (wp_lds (all r58) hcl ⟨by simp [upd],rfl⟩) ?_
 have hpw:=partB_wr (hfit v (by omega)) t
 have hrd:=rdF_wrF (fs v) _ [] (hwf v (by omega)) hpw.2
 rw [List.append_nil] at hrd
 generalize hbody:partB (v:Int) (isFlex fx (v:Int)) fl t=body at *
 have hbw:=hpw.1
 rw [← hbw] at hrd
 have herr8:=cell_keep herr k08 (by simp)
 show NP.wp P (frTail fFrame fSpec fSame) _ _ w8
 refine np_op (vs:=[ptrO b4 0]) (by simp [SV.val,upd,Addr.add]) (wp_lds (all4 r48) rfl ?_)
 refine np_op (vs:=[i64 (v:Int)]) (by simp [SV.val,upd]) ⟨.i64,_,rfl,?_⟩
 rw [Mr.wrap16 _ (by omega) (by omega)]
 refine np_op (vs:=[.agg #[.bool has,.string ⟨l.toArray⟩],.int .i32 number,.int .i16 (v:Int),db]) (by simp [SV.val,upd,h2]) (frameC_ok Fr hT hW hFr hNew hd hl2 hSet hRead hp (hr v (by omega)) hq (hw v (by omega)) hl.1 (by omega) hfx (.inl n8) (by omega) hll hrd hpw.2 hbw.symm herr8 fun d9 w9 k9 o9 => ?_)
 have k09:=k08.then k9
 have r49:=r48.keep k9 (by simp)
 refine np_op (vs:=[.tuple #[d9,.bool true]]) (by simp [SV.val,upd]) ⟨_,_,rfl,rfl,?_⟩
 refine np_op (vs:=[.tuple #[d9,.bool true]]) (by simp [SV.val,upd]) ⟨_,_,rfl,rfl,?_⟩
 refine np_op (vs:=[.bool is]) (by simp [SV.val,upd]) ⟨is,rfl,?_⟩
 cases is with
 | false=>
  refine np_T (by simp [SV.val,upd]) ?_
  show K (pack _) w9
  simpa [pack,SV.val,upd] using hk w9 k09
 | true=>
 have hlb:l.length≤32767:=by have:=of_decide_eq_true his;omega
 refine np_F (by simp [SV.val,upd]) ?_
 refine np_T (by simp [SV.val,upd]) ?_
 refine np_op (vs:=[i64 (v:Int)]) (by simp [SV.val,upd]) ⟨.i64,_,rfl,?_⟩
 rw [Mr.wrap16 _ (by omega) (by omega)]
 refine np_op (vs:=[ptrO b4 0]) (by simp [SV.val,upd,Addr.add]) (wp_load r49 rfl ?_)
 have k59:Keep [] w5 w9:=(((k6.then kd).then k7).then k8).then k9
 have n9:Sl (fun q=>w7.heap.size≤q) w9 db body:=n8.same (k9.same fun x hx=>by cases hx)
 refine np_op (vs:=[.int .i16 7,.int .i16 (v:Int),.int .i32 number,.bool has,nm,db]) (by simp [SV.val,upd,h2]) (specFrame_ok F hSpec (fx:=fx2) (hflex v (by omega)) ⟨by omega,by omega⟩ hnum hlb hnm (fun w' k=>hnm0 w' (k59.then k)) (.inl n9) (by omega) fun d10 w10 n10 k10 => ?_)
 have k010:=k09.then k10
 have s1:Sl (fun _=>True) w10 d9 _:=((own_sl o9).weak fun _ _ _=>trivial).same (k10.same fun x hx=>by cases hx)
 have s2:Sl (fun _=>True) w10 d10 _:=n10.weak fun _ _ _=>trivial
 refine np_op (vs:=[d9,d10]) (by simp [SV.val,upd]) (same_ok hn hS s1 s2 ?_ fun w11 k11 => ?_)
 ·have h4:∀ n,(wrI 4 n).length=4:=fun n=>be_length _ _
  have hH:=frameH_le (v:Int) number (if has then some l else none) fx2
  have hidl:(idB (if has then some l else none)).length≤2+l.length:=by
   cases has<;>simp [idB,wrI,be_length]
  unfold frameB
  simp only [List.length_append,h4]
  omega
 ·show K (pack _) w11
  simpa [pack,SV.val,upd] using hk w11 (k010.then k11)
end
end Go.Sp
namespace Go.Sp
open Go.Lx Go.Nx Go.Km Go.Mx Go.Kb Go.Mr
set_option linter.unusedSimpArgs false
set_option linter.unusedVariables false
section
variable {H:Type} {enc:TypeId×Value→H} {P:Program} {w:World}
theorem two_of {α:Type} {l:List α} (h:l.length=2):∃ a b,l=[a,b]:=by
 match l,h with
 | [a,b],_=>exact ⟨a,b,rfl⟩
theorem open_id {tD tB tS:TypeId} {fsD:Array Go.Field} (hT:P.underlying tD=some (.struct fsD)) (hB:P.underlying tB=some .bool) (hS:P.underlying tS=some .string) (fT:fsD.toList.map (fun f=>(f.type,f.offset))=[(tB,0),(tS,1)]) (cT:P.cellsOf tD=2) (cB:P.cellsOf tB=1) (cS:P.cellsOf tS=1)
  {n:Nat} {cs:List Value} {x:DataW H×List MemPlace} (h:RD enc P w n tD cs=some x):∃ (has:Bool) (l:Bs),cs=[.bool has,.string ⟨l.toArray⟩]:=by
 obtain ⟨xs,m,rfl,rfl,hcl,hxl,hf⟩:=DataW.trod_struct hT h
 rw [cT] at hcl
 obtain ⟨v0,v1,rfl⟩:=two_of hcl
 have hfl:=congrArg List.length fT
 simp at hfl
 obtain ⟨f0,f1,hfs⟩:=two_of (l:=fsD.toList) (by simpa using hfl)
 have hfg:=fT
 rw [hfs] at hfg
 simp only [List.map_cons,List.map_nil,List.cons.injEq,Prod.mk.injEq,and_true] at hfg
 obtain ⟨⟨t0,o0⟩,t1,o1⟩:=hfg
 have hxl2:xs.length=2:=by rw [hxl];simpa using hfl
 obtain ⟨x0,x1,rfl⟩:=two_of hxl2
 have q0:=hf 0 f0 (by rw [← Array.getElem?_toList,hfs];rfl)
 have q1:=hf 1 f1 (by rw [← Array.getElem?_toList,hfs];rfl)
 rw [t0,o0,cB] at q0
 rw [t1,o1,cS] at q1
 obtain ⟨b,hb,_⟩:=DataW.trod_bool hB (show DataW.trod enc P w 0 (fun _=>true) true m tB [v0]=some x0 from q0)
 obtain ⟨s,hs,_⟩:=DataW.trod_string hS (show DataW.trod enc P w 0 (fun _=>true) true m tS [v1]=some x1 from q1)
 cases hb
 cases hs
 exact ⟨b,s.data.toList,by simp⟩
end
end Go.Sp

