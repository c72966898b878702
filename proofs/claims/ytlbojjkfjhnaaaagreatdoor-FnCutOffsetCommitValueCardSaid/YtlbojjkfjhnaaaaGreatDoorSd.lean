import Derived.Test.YtlbojjkfjhnaaaaGreatDoorMl
import Derived.Test.YtlbojjkfjhnaaaaGreatDoorSc
import Derived.Test.YtlbojjkfjhnaaaaGreatDoorSb
set_option linter.unusedSimpArgs false
set_option linter.unusedVariables false
namespace Go.Mr
open Go.Lx Go.Nx Go.Km Go.Mx Go.Kb
open Go.CX (T deep)
set_option linter.unusedSimpArgs false
set_option linter.unusedVariables false
def bodyK (T:Tab) (U:KTab) (fx:Bool) (fs:Fs) (o:Nat) (ks:List KT) (z:List Value) (k:NP) (s0:St):Bool:=
 match chkF T fs 0 k s0 with
 | some (q,st)=>
  if fx=true then ksDef ks o st.cells && winDef ks st.cells z && (match endK T U o ks q st with
   | some (q2,st2)=>match (runS KF q2 st2).1 with
    | .op (.call fc) [x] n (.ret [.s n'])=>fc == T.compl && n == n' && isO (runS KF q2 st2).2.env x 0 0
    | _=>false
   | none=>false)
  else match (runS KF q st).1 with
   | .op (.call fc) [x] n (.ret [.s n'])=>fc == T.compl && n == n' && isO (runS KF q st).2.env x 0 0
   | _=>false
 | none=>false
def rdX (fx:Bool) (fs:Fs) (ks:List KT) (bs:Bs):Option (MV×Bs):=if fx=true then rdM fs ks bs else (rdF fs bs).map fun p=>((p.1,([],[])),p.2)
def wrX (fx:Bool) (fs:Fs) (ks:List KT) (m:MV):Bs:=if fx=true then wrM fs ks m else wrF fs m.1
def layK (fx:Bool) (fs:Fs) (o:Nat) (ks:List KT) (lo n:Nat):Bool:=loF lo fs && (!fx || (ksLay ks o n && (ks.all fun k=>decide (lo≤k.off) && decide (extF fs≤k.off)) && decide (lo≤o) && decide (extF fs≤o)))
section
variable {P:Program} {g:Nat}
theorem rdX_bind {fx:Bool} {fs:Fs} {ks:List KT} (sb:Option Bs):sb.bind (rdX fx fs ks)=(sb.bind (rdF fs)).bind fun p=>if fx=true then (rdE ks p.2).map fun s=>((p.1,s.1),s.2) else some ((p.1,([],[])),p.2):=by
 cases sb with
 | none=>rfl
 | some b=>
  simp only [Option.bind_some,rdX]
  cases fx with
  | true=>simp only [if_true,rdM]
  | false=>
   simp only [Bool.false_eq_true,if_false]
   cases rdF fs b<;>rfl
theorem bodyK_ok {T:Tab} (hT:TabOk P T g) {U:KTab} (hU:KTabOk P U) {fx:Bool} {fs:Fs} {o:Nat} {ks:List KT} {lo:Nat} {z:List Value} {k:NP} {s0:St} (h:bodyK T U fx fs o ks z k s0=true) (hl:layK fx fs o ks lo z.length=true) (hs0:s0.sj=1)
  {ok1:Nat→Prop} {R S:Nat} {nn:Bool} {sb:Option Bs} {ρ η:Nat→Value} {w3:World} {et:TypeId} {ev:Value} {K:Value→World→Prop} (hpre:Pre g s0 ok1 R S 0 z nn sb ρ η w3 (.iface et ev))
  (hbad:sb.bind (rdX fx fs ks)=none→∀ w',Keep [R,S] w3 w'→K (.iface et ev) w')
  (hgood:∀ vs s rest,sb.bind (rdX fx fs ks)=some ((vs,s),rest)→∀ w' cs',Keep [R,S] w3 w'→Row w' S cs'→cs'.length=z.length→(∀ j,j<lo→cs'[j]?=z[j]?)→RepF ok1 w' fs vs cs' →
   (fx=true→RepKV ok1 w' z cs' ks s.1∧∃ v,cs'[o]?=some v∧RepT ok1 ok1 w' s.2 v∧(s.2=[]→v = .map none))→K .nilIface w'):k.wp P (postP [.direct] K) η w3:=by
 unfold bodyK at h
 split at h
 case h_2=>cases h
 rename_i q st hchk
 simp only [layK,Bool.and_eq_true] at hl
 obtain ⟨hlo,hl⟩:=hl
 have F:=chkF_ok hT fs 0 lo k q _ st hlo hchk
 have hlink:=rdX_bind (fx:=fx) (fs:=fs) (ks:=ks) sb
 refine F.2 ok1 R S 0 z nn sb ρ η w3 _ _ hpre (fun hb η' w' kw => ?_) fun ρ' η' w' cs' hnx he => ?_
 ·exact hbad (by rw [hlink,hb];rfl) w' kw
 unfold FEnd at he
 obtain ⟨nn1,t1,hrd1,ht1⟩:∃ nn1 t1,Rd ok1 w' R nn1 t1∧t1=(sb.bind (rdF fs)).map (·.2):=by
  cases hd:sb.bind (rdF fs) with
  | none=>rw [hd] at he;exact ⟨false,none,he,rfl⟩
  | some y=>obtain ⟨y,r⟩:=y;rw [hd] at he;obtain ⟨⟨nn',hh⟩,_⟩:=he;exact ⟨nn',some r,hh,rfl⟩
 have hp1:=hpre.next hnx F.1 hrd1
 cases fx with
 | false=>
  simp only [Bool.false_eq_true,if_false] at h hlink
  split at h
  case h_2=>cases h
  rename_i fc x n n' hend
  simp only [Bool.and_eq_true,beq_iff_eq] at h
  obtain ⟨⟨rfl,rfl⟩,hx⟩:=h
  refine run_pre (f:=KF) hp1 fun η4 hp4 => ?_
  rw [hend]
  obtain ⟨_,hxv⟩:=isO_val hp4.env hx
  rw [hp4.r0,addOff_ptr] at hxv
  refine np_op (vs:=[ptr R]) (by simp [hxv]) (hT.compl ok1 w' R nn1 t1 _ _ hp4.rd hp4.err ?_)
  show K _ w'
  simp only [pack,SV.val,upd,if_true,List.map]
  cases hd:sb.bind (rdF fs) with
  | none=>rw [hd] at ht1 hlink;subst ht1;exact hbad hlink w' hnx.keep
  | some y=>
   obtain ⟨vs,rest⟩:=y
   rw [hd] at ht1 he hlink
   subst ht1
   exact hgood vs ([],[]) rest hlink w' cs' hnx.keep hnx.cur.row hnx.len (fun j hj=>hnx.low j (by omega)) (by simpa using he.2) (fun h=>by cases h)
 | true=>
  simp only [if_true,Bool.and_eq_true] at h hlink
  obtain ⟨⟨hdef,hwin⟩,h⟩:=h
  split at h
  case h_2=>cases h
  rename_i q2 st2 hendK
  split at h
  case h_2=>cases h
  rename_i fc x n n' hend
  simp only [Bool.and_eq_true,beq_iff_eq] at h
  obtain ⟨⟨rfl,rfl⟩,hx⟩:=h
  simp only [Bool.not_true,Bool.false_or,Bool.and_eq_true,List.all_eq_true,decide_eq_true_eq] at hl
  obtain ⟨⟨⟨hlay,hks⟩,hloo⟩,hexo⟩:=hl
  have hsj:st.sj=1:=by rw [F.1.sj];exact hs0
  obtain ⟨E1,E2,E3,E4⟩:=endK_ok (P:=P) (g:=g) hT hU hendK (by rw [hsj];omega) hlay hdef
  refine E4 hp1 (by rw [hnx.len];omega) (fun hb2 η2 w4 k4 => ?_) fun G ρ2 η2 w4 hG hp2 hl2 => ?_
  ·refine hbad ?_ w4 (hnx.keep.then k4)
   rw [hlink]
   cases hd:sb.bind (rdF fs) with
   | none=>rfl
   | some y=>rw [hd] at ht1;subst ht1;simp only [Option.map_some,Option.bind_some] at hb2 ⊢;rw [hb2];rfl
  ·have kw4:Keep [R,S] w3 w4:=hnx.keep.then hG.keep
   refine run_pre (f:=KF) hp2 fun η4 hp4 => ?_
   rw [hend]
   obtain ⟨_,hxv⟩:=isO_val hp4.env hx
   rw [hp4.r0,addOff_ptr] at hxv
   refine np_op (vs:=[ptr R]) (by simp [hxv]) (hT.compl G.ok w4 R G.nn G.t _ _ hp4.rd hp4.err ?_)
   show K _ w4
   simp only [pack,SV.val,upd,if_true,List.map]
   cases hgt:G.t with
   | none=>
    rw [hgt] at hl2
    refine hbad ?_ w4 kw4
    rw [hlink]
    cases hd:sb.bind (rdF fs) with
    | none=>rfl
    | some y=>rw [hd] at ht1;subst ht1;simp only [Option.map_some,Option.bind_some,Option.map_none] at hl2 ⊢;rw [hl2];rfl
   | some rest=>
    rw [hgt] at hl2
    cases hd:sb.bind (rdF fs) with
    | none=>rw [hd] at ht1;subst ht1;simp at hl2
    | some y=>
     obtain ⟨vs,r⟩:=y
     rw [hd] at ht1 he hlink
     subst ht1
     simp only [Option.map_some,Option.bind_some] at hl2 hlink
     rw [hl2] at hlink
     have hlayo:=hlay
     simp only [ksLay,Bool.and_eq_true,List.all_eq_true,Bool.or_eq_true,decide_eq_true_eq] at hlayo
     have hcells:G.cs.length=z.length:=by rw [hG.len,hnx.len]
     have hlow:∀ j,j<max lo (extF fs)→G.cs[j]?=cs'[j]?:=fun j hj=>hG.out j (fun k hk=>by have:=hks k hk;omega) (by omega)
     have hRSn:∀ x∈[R,S],¬ ok1 x:=fun x hx=>by
      simp only [List.mem_cons,List.not_mem_nil,or_false] at hx
      rcases hx with rfl | rfl
      ·exact hpre.he.notR
      ·exact hpre.nS
     refine hgood vs (G.vs,G.acc) rest hlink w4 G.cs kw4 hG.row hcells (fun j hj => ?_) ?_ fun _=>⟨fun i k hi => ?_,?_⟩
     ·rw [hlow j (by omega),hnx.low j (by omega)]
     ·have h5:=he.2
      simp only [List.drop_zero] at h5
      refine RepF.cells fs vs cs' G.cs ?_ (RepF.same (hG.keep.same hRSn) fs vs cs' h5)
      apply List.ext_getElem?
      intro j
      simp only [List.getElem?_take]
      split
      ·exact hlow j (by omega)
      ·rfl
     ·dsimp only
      cases hv:G.vs.getD i none with
      | none=>
       dsimp only
       intro j hj1 hj2
       rw [hG.dfl i k hi hv j (by omega) (by omega)]
       simp only [winDef,List.all_eq_true,List.mem_range] at hwin
       have hw:=hwin k (List.mem_of_getElem? hi) (j - k.off) (by omega)
       rw [show k.off+(j - k.off)=j by omega] at hw
       split at hw
       ·rename_i v u hv1 hv2
        have hsm:=CX.sameV_eq hw
        subst hsm
        have:=hnx.cur.known j v hv1
        rw [Nat.zero_add] at this
        rw [this,hv2]
       ·cases hw
      | some x'=>
       have hsl:=hG.slots i k hi
       rw [hv] at hsl
       have:=kslot_rep (ok0:=ok1) hsl (fun b hb=>hG.sub b hb) (fun a ha=>(hG.apart i a ha).2.2.2.2.1)
       simpa using this
     ·refine ⟨G.v,by have:=hG.cell;simpa using this,?_,hG.nil⟩
      rcases hG.rep with q1 | ⟨r',es,q1,q2,q3⟩
      ·exact .inl q1
      ·exact .inr ⟨r',es,q1,q2.2.2.2.2.1,q3.weak fun b _ hb=>hG.sub b hb⟩
end
end Go.Mr
namespace Go.Mr
open Go.Lx Go.Nx Go.Km Go.Mx Go.Kb
open Go.CX (T deep)
set_option linter.unusedSimpArgs false
set_option linter.unusedVariables false
def headV (fi:FuncId) (k:NP) (s0:St):Option (NP×St):=
 match (runS KF k s0).1 with
 | .op (.call f) [x] n k1=>if f=fi∧isO (runS KF k s0).2.env x 0 0=true then
   match (runS KF k1 ((runS KF k s0).2.new n)).1 with
   | .op (.store 1) [y,x'] n2 k2=>if isO (runS KF k1 ((runS KF k s0).2.new n)).2.env y 1 0=true∧isO (runS KF k1 ((runS KF k s0).2.new n)).2.env x' (runS KF k s0).2.nj 0=true∧0<s0.cells.length then
     some (k2,{ (runS KF k1 ((runS KF k s0).2.new n)).2 with env:=(runS KF k1 ((runS KF k s0).2.new n)).2.env.set deep n2 none }) else none
   | _=>none
  else none
 | _=>none
def St.ver (st:St) (v:Value):St:={ st with cells:=st.cells.set 0 (some v) }
def msgVR (T:Tab) (U:KTab) (fi:FuncId) (m flex:Nat) (fs:Nat→Fs) (o:Nat) (ks:Nat→List KT) (z:List Value) (un:Bool):NP→Bool
 | .op (.call df) [.s 0] n0 (.op (.lit [.slice none 0 0,.bool false] [0]) [.s 1] n1 (.op (.alloc [.slice none 0 0,.bool false]) [] n2 (.chk n3 (.op (.store 2) [.q n4 0,.s n5] n6 k))))=>
  if n2=n3∧n2=n4∧n1=n5∧n1≠n2∧[n0,n1,n2,n6].all (fun n=>n != 0 && n != 1 && n != 2)=true∧n0≠n1∧n6≠n2∧0<m∧0<z.length then
   match T.defs df with
   | some ds=>ds.all (fun d=>decide (d.1<z.length)) && match headV fi k (rSt n2 un ((setD 0 ds z).map some)) with
    | some (k2,st1)=>(List.range m).all fun v=>layK (decide (flex≤v)) (fs v) o (ks v) 1 z.length &&
      bodyK T U (decide (flex≤v)) (fs v) o (ks v) ((setD 0 ds z).set 0 (.int .i16 (v:Int))) k2 (st1.ver (.int .i16 (v:Int)))
    | none=>false
   | none=>false
  else false
 | _=>false
section
variable {P:Program} {g:Nat}
theorem headV_ok {fi:FuncId} (hfi:Reads P fi (rdI 2) (intRep .i16) (· = .int .i16 0)) {k k2:NP} {s0 st1:St} (h:headV fi k s0=some (k2,st1)) (hs0:s0.sj=1) :
  st1.sj=1∧∀ {ok:Nat→Prop} {R S:Nat} {nn:Bool} {bs:Bs} {cs:List Value} {ρ η:Nat→Value} {w:World} {err:Value} {Q:Post},Pre g s0 ok R S 0 cs nn (some bs) ρ η w err →
   (∀ x sb nn' ρ' η' w',(match rdI 2 bs with | none=>x=0∧sb=none | some (y,r)=>x=y∧sb=some r)→Pre g (st1.ver (.int .i16 x)) ok R S 0 (cs.set 0 (.int .i16 x)) nn' sb ρ' η' w' err→Keep [R,S] w w'→k2.wp P Q η' w')→k.wp P Q η w:=by
 unfold headV at h
 split at h
 case h_2=>cases h
 rename_i f x n k1 hp0
 split at h
 case isFalse=>cases h
 rename_i hc1
 obtain ⟨rfl,hx⟩:=hc1
 split at h
 case h_2=>cases h
 rename_i y x' n2 k2' hp1
 split at h
 case isFalse=>cases h
 rename_i hc2
 obtain ⟨hy,hx',hpos⟩:=hc2
 cases h
 have R1:=run_stt P (f:=KF) (p:=k) (st:=s0)
 have R2:=run_stt P (f:=KF) (p:=k1) (st:=(runS KF k s0).2.new n)
 have hn1:(runS KF k s0).2.nj=s0.nj:=R1.2.1
 have hs2:(runS KF k1 ((runS KF k s0).2.new n)).2.sj=1:=by rw [R2.1.sj];show (runS KF k s0).2.sj=1;rw [R1.1.sj,hs0]
 have hn2:(runS KF k1 ((runS KF k s0).2.new n)).2.nj=s0.nj+1:=by rw [R2.2.1];show (runS KF k s0).2.nj+1=_;rw [hn1]
 refine ⟨hs2,?_⟩
 intro ok R S nn bs cs ρ η w err Q hpre hk
 refine run_pre (f:=KF) hpre fun η1 hq1 => ?_
 rw [hp0]
 obtain ⟨_,hxv⟩:=isO_val hq1.env hx
 rw [hq1.r0,addOff_ptr] at hxv
 refine np_op (vs:=[ptr R]) (by simp [hxv]) (hfi ok w R nn (some bs) _ hq1.he hq1.rd fun v w1 k1' hv => ?_)
 have key:∃ xx sb nn',v = .int .i16 xx∧(match rdI 2 bs with | none=>xx=0∧sb=none | some (y,r)=>xx=y∧sb=some r)∧Rd ok w1 R nn' sb:=by
  unfold ReadEnd at hv
  simp only [Option.bind_some] at hv
  cases hr:rdI 2 bs with
  | none=>rw [hr] at hv;exact ⟨0,none,false,hv.2,⟨rfl,rfl⟩,hv.1⟩
  | some p=>obtain ⟨y,r⟩:=p;rw [hr] at hv;exact ⟨y,some r,true,hv.2,⟨rfl,rfl⟩,hv.1⟩
 obtain ⟨xx,sb,nn',rfl,hm,hrd⟩:=key
 have hq2:=hq1.new n (.int .i16 xx) k1' hrd
 refine run_pre (f:=KF) hq2 fun η3 hq3 => ?_
 rw [hp1]
 obtain ⟨_,hyv⟩:=isO_val hq3.env hy
 obtain ⟨_,hxv'⟩:=isO_val hq3.env hx'
 have hptr:=hq3.cur.ptr
 rw [hs2] at hptr
 rw [hptr] at hyv
 simp only [addOff,addr_at,Nat.add_zero] at hyv
 rw [addOff_zero] at hxv'
 simp only [upd,if_true] at hxv'
 have hlen:0<cs.length:=by
  have:=hpre.cur.len;omega
 refine np_op (vs:=[.pointer (some ⟨S,0,none⟩),.int .i16 xx]) (by simp [hyv,hxv']) (wp_store hq3.cur.row (n:=1) (Fit.one rfl rfl) (by omega) fun w4 r4 k4 => ?_)
 have hput:put cs 0 (Value.int .i16 xx).cells.toList=cs.set 0 (.int .i16 xx):=by
  rw [List.set_eq_take_append_cons_drop,if_pos hlen]
  simp [put,Value.cells]
 rw [hput] at r4
 have kall:Keep [R,S] w w4:=(k1'.mono (A':=[R,S]) (fun x hx _=>by simp at hx ⊢;exact .inl hx)).then (k4.mono (A':=[R,S]) (fun x hx _=>by simp at hx ⊢;exact .inr hx))
 have hRS:∀ x∈[S],x≠R:=fun x hx=>by rw [List.mem_singleton.1 hx];exact hpre.SR
 refine hk xx sb nn' _ _ w4 hm ⟨hq3.env.clear,⟨?_,r4,?_,fun j v' hj => ?_⟩,hq3.he.keep k4,hpre.nS,hpre.SR,?_,hq3.r0,cell_keep hq3.err k4 (by simpa using hpre.gS),hpre.gR,hpre.gS,hq3.nj⟩ kall
 ·exact hq3.cur.ptr
 ·have:=hq3.cur.len
  simpa [St.ver] using this
 ·have hl:=hq3.cur.known j
  simp only [St.ver,List.getElem?_set] at hj
  rw [Nat.zero_add,List.getElem?_set]
  split at hj
  ·rename_i h0
   subst h0
   rw [if_pos rfl,if_pos hlen]
   split at hj
   ·simpa using hj
   ·cases hj
  ·rename_i h0
   rw [if_neg h0]
   have:=hl v' hj
   rwa [Nat.zero_add] at this
 ·exact hq3.rd.keep k4 (by simpa using Ne.symm hpre.SR) (fun x hx=>by rw [List.mem_singleton.1 hx];exact hpre.nS)
theorem msgVR_ok (hn:Named P) {T:Tab} (hT:TabOk P T g) {U:KTab} (hU:KTabOk P U) {f fi:FuncId} (hfi:Reads P fi (rdI 2) (intRep .i16) (· = .int .i16 0)) {m flex o:Nat} {fs:Nat→Fs} {ks:Nat→List KT} {z:List Value} {un:Bool} {prog:NP} (hf:fnP P f 3=some ⟨prog,[.direct]⟩) (h:msgVR T U fi m flex fs o ks z un prog=true)
  {ok:Nat→Prop} {w:World} {S v:Nat} {src:Value} {bs:Bs} {et:TypeId} {ev:Value} {K:Value→World→Prop} (hv:v<m) (hver:∀ x r,rdI 2 bs=some (x,r)→x=(v:Int)) (hnew:∀ k,w.heap.size≤k→ok k) (hS:¬ ok S) (hrow:Row w S z) (hsl:Sl ok w src bs) (herr:w.cell? ⟨g,0,none⟩=some (.iface et ev)) (hgS:g≠S)
  (hbad:((rdI 2 bs).bind fun p=>rdX (decide (flex≤v)) (fs v) (ks v) p.2)=none→∀ w',Keep [S] w w'→K (.iface et ev) w')
  (hgood:∀ df ds vs s rest,dfOf prog=some df→T.defs df=some ds→((rdI 2 bs).bind fun p=>rdX (decide (flex≤v)) (fs v) (ks v) p.2)=some ((vs,s),rest)→∀ w' cs',Keep [S] w w'→Row w' S cs'→cs'.length=z.length→cs'[0]?=some (.int .i16 (v:Int))→RepF ok w' (fs v) vs cs' →
   (flex≤v→RepKV ok w' ((setD 0 ds z).set 0 (.int .i16 (v:Int))) cs' (ks v) s.1∧∃ u,cs'[o]?=some u∧RepT ok ok w' s.2 u∧(s.2=[]→u = .map none))→K .nilIface w'):In.wp P (.call f) [ptr S,src,.bool un] w K:=by
 refine calls_of_np hn (vs:=[ptr S,src,.bool un]) hf fun η hη => ?_
 dsimp only
 have h0:η 0=ptr S:=hη 0 (by simp)
 have h1:η 1=src:=hη 1 (by simp)
 have h2:η 2 = .bool un:=hη 2 (by simp)
 unfold msgVR at h
 split at h
 case h_2=>cases h
 rename_i df n0 n1 n2 n3 n4 n5 n6 k
 split at h
 case isFalse=>cases h
 rename_i hc
 obtain ⟨rfl,rfl,rfl,h12,hall,h01,h62,hm0,hpos⟩:=hc
 simp only [List.all_cons,List.all_nil,Bool.and_true,Bool.and_eq_true,bne_iff_ne,ne_eq] at hall
 obtain ⟨⟨⟨a0,a1⟩,a2⟩,⟨⟨b0,b1⟩,b2⟩,⟨⟨c0,c1⟩,c2⟩,⟨⟨d0,d1⟩,d2⟩⟩:=hall
 split at h
 case h_2=>cases h
 rename_i ds hds
 simp only [Bool.and_eq_true,List.all_eq_true,decide_eq_true_eq] at h
 obtain ⟨hdl,h⟩:=h
 split at h
 case h_2=>cases h
 rename_i k2 st1 hhead
 simp only [List.all_eq_true,List.mem_range,Bool.and_eq_true] at h
 refine np_op (vs:=[ptr S]) (by simp [SV.val,h0]) (hT.defs df ds hds w S 0 z _ hrow (fun d hd=>by have:=hdl d hd;omega) fun w1 r1 k1 => ?_)
 have hone:=sl_one hsl
 refine np_op (vs:=[src]) (by simp [SV.val,upd,Ne.symm a1,h1]) ⟨rfl,fun v hv=>by rw [List.mem_singleton.1 hv];exact hone,?_⟩
 refine np_op (vs:=[]) rfl (wp_alloc fun R w2 r2 hR k2 => ?_)
 refine ⟨⟨_,by simp only [upd];rfl⟩,?_⟩
 have hput2:putAll [.slice none 0 0,.bool false] ([0].zip [src])=[src,.bool false]:=rfl
 rw [hput2]
 have hf2:Fit 2 (.agg ([src,.bool false]:List Value).toArray):=by
  refine ⟨rfl,?_⟩
  rcases hsl with ⟨rfl,_⟩ | ⟨a,c,rfl,_⟩<;>simp [Value.cells,Value.oneCell']
 refine np_op (vs:=[ptr R,.agg ([src,.bool false]:List Value).toArray]) (by simp [SV.val,upd,h12,Addr.add]) (wp_store r2 hf2 (by simp) fun w3 r3 k3 => ?_)
 have hrR:Row w3 R [src,.bool false]:=by simpa [put,Value.cells] using r3
 have hSw:S<w.heap.size:=hrow.lt
 have hgw:g<w.heap.size:=cell_lt herr
 have hsz1:=k1.size
 have hRS:R≠S:=by omega
 have hRg:g≠R:=by omega
 let ok1:Nat→Prop:=fun k=>ok k∧k≠R
 let ρ:Nat→Value:=fun j=>if j=0 then ptr R else ptr S
 have kk:Keep [S] w w3:=k1.trans (k2.trans k3 (A':=[R]) (fun x hx hlt=>by rw [List.mem_singleton] at hx;omega)) (fun x hx hlt=>by cases hx)
 have hS3:Row w3 S (setD 0 ds z):=(r1.keep k2 (by simp)).keep k3 (by simpa using Ne.symm hRS)
 have hsl3:Sl ok w3 src bs:=hsl.same (kk.same fun x hx=>by rw [List.mem_singleton.1 hx];exact hS)
 generalize hη3:upd (upd (upd (upd η n0 (.tuple #[])) n1 (.agg ([src,.bool false]:List Value).toArray)) n2 (.pointer (some ⟨R,0,none⟩))) n6 undef=η3
 have e0:η3 0=ptr S:=by rw [← hη3];simp [upd,Ne.symm a0,Ne.symm b0,Ne.symm c0,Ne.symm d0,h0]
 have e2:η3 2 = .bool un:=by rw [← hη3];simp [upd,Ne.symm a2,Ne.symm b2,Ne.symm c2,Ne.symm d2,h2]
 have eR:η3 n2=ptr R:=by rw [← hη3];simp [upd,Ne.symm h62]
 have henv:EnvOk (rSt n2 un ((setD 0 ds z).map some)).env 2 ρ η3:=by
  refine (((env_nil 2 ρ η3).know (n:=0) (a := .o 1 0) (by show 1<2;omega) ?_).know (n:=2) (a := .k (.bool un)) trivial e2).know (n:=n2) (a := .o 0 0) (by show 0<2;omega) ?_
  ·simp only [AV.val,addOff_zero,e0];rfl
  ·simp only [AV.val,addOff_zero,eR];rfl
 have hslen:=setD_length 0 ds z
 have hpre:Pre g (rSt n2 un ((setD 0 ds z).map some)) ok1 R S 0 (setD 0 ds z) false (some bs) ρ η3 w3 (.iface et ev):=by
  refine ⟨henv,⟨rfl,hS3,by simp [rSt],fun j v hj => ?_⟩,⟨fun k hk=>⟨hnew k (Nat.le_trans kk.size hk),by have:=hrR.lt;omega⟩,fun h=>h.2 rfl⟩,fun h=>hS h.1,Ne.symm hRS,?_,rfl,cell_keep herr kk (by simpa using hgS),hRg,hgS,by show 0<2∧1<2;omega⟩
  ·simp only [rSt,List.getElem?_map,Option.map_eq_some_iff] at hj
   obtain ⟨u,h1,h2⟩:=hj
   cases h2
   simpa using h1
  ·refine ⟨src,hrR,?_,fun h=>by cases h⟩
   rcases hsl with hh | ⟨a,c,h1,h2,h3,h4,h5⟩
   ·exact .inl hh
   ·rcases hsl3 with ⟨hh,_⟩ | ⟨a',c',h1',h2',h3',h4',h5'⟩
    ·rw [h1] at hh;cases hh
    ·refine .inr ⟨a',c',h1',h2',h3',⟨h4',?_⟩,h5'⟩
     rw [h1] at h1'
     cases h1'
     omega
 have kOut:∀ {w1 w':World},Keep [S] w w1→Keep [R,S] w1 w'→Keep [S] w w':=fun ka kb=>ka.trans kb fun x hx hlt=>by
  simp only [List.mem_cons,List.not_mem_nil,or_false] at hx ⊢
  rcases hx with rfl | rfl
  ·omega
  ·rfl
 obtain ⟨hsj1,hH⟩:=headV_ok (P:=P) (g:=g) hfi hhead rfl
 refine hH hpre fun x sb nn' ρ' η' w' hx hp' kw => ?_
 have kw':=kOut kk kw
 have hlenz:∀ x:Value,((setD 0 ds z).set 0 x).length=z.length:=fun x=>by rw [List.length_set,hslen]
 cases hrd:rdI 2 bs with
 | none=>
  rw [hrd] at hx hbad
  obtain ⟨rfl,rfl⟩:=hx
  obtain ⟨hl0,hb0⟩:=h 0 hm0
  refine bodyK_ok hT hU hb0 (by rw [hlenz];exact hl0) hsj1 hp' (fun _ w4 k4=>hbad rfl w4 (kOut kw' k4)) fun vs s rest hh=>by cases hh
 | some p=>
  obtain ⟨y,r⟩:=p
  have hyv:=hver y r hrd
  subst hyv
  rw [hrd] at hx hbad hgood
  obtain ⟨rfl,rfl⟩:=hx
  obtain ⟨hl0,hb0⟩:=h v hv
  refine bodyK_ok hT hU hb0 (by rw [hlenz];exact hl0) hsj1 hp' (fun hb w4 k4=>hbad hb w4 (kOut kw' k4)) fun vs s rest hh w4 cs4 k4 r4 hl4 hlow hrep hkv => ?_
  refine hgood df ds vs s rest rfl hds hh w4 cs4 (kOut kw' k4) r4 (hl4.trans (hlenz _)) ?_ (RepF.weak (ok:=ok1) (fun b _ hb=>hb.1) _ vs _ hrep) fun hfx => ?_
  ·rw [hlow 0 (by omega),List.getElem?_set,if_pos rfl,if_pos (by rw [hslen];exact hpos)]
  ·obtain ⟨q1,u,q2,q3,q4⟩:=hkv (by simpa using hfx)
   refine ⟨fun i k hi => ?_,u,q2,?_,q4⟩
   ·have:=q1 i k hi
    cases hv:s.1.getD i none with
    | none=>rw [hv] at this;exact this
    | some xx=>rw [hv] at this;exact RepS.weak (fun b _ hb=>hb.1) _ _ _ this
   ·rcases q3 with q5 | ⟨r',es,q5,q6,q7⟩
    ·exact .inl q5
    ·exact .inr ⟨r',es,q5,q6.1,q7.weak fun b _ hb=>hb.1⟩
end
end Go.Mr
namespace Go.Mr
open Go.Lx Go.Nx Go.Km Go.Mx Go.Kb
open Go.CX (T deep)
set_option linter.unusedSimpArgs false
set_option linter.unusedVariables false
def headW (W:WTab) (v:Int) (p:NP) (s0:St):Option (NP×St×Nat):=
 match (runS KF p s0).1 with
 | .op (.call f) [d,y] n k=>match evalA (runS KF p s0).2.env y with
  | some (.k u)=>if W.app f=some .i16∧isO (runS KF p s0).2.env d 1 0=true∧isInt .i16 v u=true then some (k,(runS KF p s0).2.new n,(runS KF p s0).2.nj) else none
  | _=>none
 | _=>none
def bodyW (W:WTab) (eG:TypeId) (fx:Bool) (fs:Fs) (o:Nat) (ks:List KU) (dj:Nat) (k:NP) (s1:St):Bool:=
 match chkWF W fs 0 dj k s1 with
 | some (q,st,dj')=>
  if fx=true then (match tailKS W eG o ks dj' q st with
   | some (q2,st2,dj2)=>match (runS KF q2 st2).1 with
    | .ret [x]=>isO (runS KF q2 st2).2.env x dj2 0
    | _=>false
   | none=>false)
  else match (runS KF q st).1 with
   | .ret [x]=>isO (runS KF q st).2.env x dj' 0
   | _=>false
 | none=>false
def topVW (W:WTab) (eG:TypeId) (fx:Bool) (fs:Fs) (o:Nat) (ks:List KU) (v:Int) (cells:List (Option Value)) (p:NP):Bool:=
 match headW W v p (wSt cells) with
 | some (k,s1,dj)=>bodyW W eG fx fs o ks dj k s1
 | none=>false
section
variable {P:Program} {g:Nat} {e eG:TypeId}
theorem bodyW_ok {W:WTab} (hW:WTabOk P W e) {fx:Bool} {fs:Fs} {o:Nat} {ks:List KU} {dj:Nat} {k:NP} {s1:St} {cs0:List Value} (h:bodyW W eG fx fs o ks dj k s1=true)
  (hu:fx=true→ks.all (fun k=>uOk k cs0)=true∧ksOk (ks.map KU.kt)=true∧ks.length≤1000) (hzz:∀ k∈ks,ZzAll P k)
  {B S:Nat} {cs:List Value} {out:Bs} {ρ η:Nat→Value} {w:World} {vs:List Val} {s:KV×Tg} {K:Value→World→Prop} (hpre:WPre e s1 dj B S 0 cs out ρ η w)
  (hrep:RepF (· < B) w fs vs cs) (hok:okF fs vs) (hkv:fx=true→RepKV (· < B) w cs0 cs (ks.map KU.kt) s.1∧(∃ v,cs[o]?=some v∧RepT (· < B) (· < B) w s.2 v)∧OkE (ks.map KU.kt) s)
  (hlim:out.length+(wrX fx fs (ks.map KU.kt) (vs,s)).length≤lim) (hk:∀ d' w',Own w' B e d' (out++wrX fx fs (ks.map KU.kt) (vs,s))→Bl B w (ρ dj) w' d'→K d' w'):k.wp P (postP [.direct] K) η w:=by
 unfold bodyW at h
 split at h
 case h_2=>cases h
 rename_i q st dj' hchk
 have hrow:=hpre.cur.row
 obtain ⟨F1,F2,F3,F4⟩:=chkWF_ok hW fs 0 dj k q _ st dj' hchk
 cases fx with
 | false=>
  simp only [Bool.false_eq_true,if_false,wrX] at h hlim hk
  split at h
  case h_2=>cases h
  rename_i x hend
  refine F4 B S 0 cs out ρ η w vs _ hpre (by simpa using hrep) hok hlim fun ρ' η' w' he' hρ' hb' ho' => ?_
  obtain ⟨hbS,hnS⟩:=hb'.other hrow.lt hpre.SB
  have hrow':Row w' S cs:=by obtain ⟨ee,hr⟩:=hrow;exact ⟨ee,by rw [hbS];exact hr⟩
  have hcur':Cur st ρ' w' S 0 cs:=hpre.cur.move F1.sj F2 hpre.sj hρ' hrow'
  obtain ⟨g1,g2,g3,g4⟩:=runS_ok (P:=P) KF q st
  refine g4 he' hcur' fun η2 he2 => ?_
  rw [hend]
  obtain ⟨_,hxv⟩:=isO_val he2 h
  rw [addOff_zero] at hxv
  show K _ w'
  simp only [pack,List.map,hxv]
  exact hk _ w' ho' hb'
 | true=>
  simp only [if_true,wrX] at h hlim hk
  split at h
  case h_2=>cases h
  rename_i q2 st2 dj2 htl
  split at h
  case h_2=>cases h
  rename_i x hend
  obtain ⟨hu1,hko,hkl⟩:=hu rfl
  obtain ⟨hkv,htg,hoe⟩:=hkv rfl
  simp only [wrM,List.length_append] at hlim hk
  refine F4 B S 0 cs out ρ η w vs _ hpre (by simpa using hrep) hok (by omega) fun ρ' η' w' he' hρ' hb' ho' => ?_
  obtain ⟨hbS,hnS⟩:=hb'.other hrow.lt hpre.SB
  have hrow':Row w' S cs:=by obtain ⟨ee,hr⟩:=hrow;exact ⟨ee,by rw [hbS];exact hr⟩
  have hp':WPre e st dj' B S 0 cs (out++wrF fs vs) ρ' η' w':=⟨he',hpre.cur.move F1.sj F2 hpre.sj hρ' hrow',ho',hnS,F3 hpre.dj,by have:=hpre.sj;have:=F1.nj;rw [F1.sj];omega⟩
  have hvl:s.1.length=ks.length:=by have:=okK_length hoe.okk;simpa using this
  obtain ⟨G1,G2,G3,G4⟩:=tail_okW hW htl hu1 hzz hko hkl hvl hoe.okk hoe.okt hoe.sz
  have hct:CT cs0 ks o s.1 s.2 B w' ρ' (cs.drop 0):=by
   refine ⟨fun i k hi => ?_,?_⟩
   ·have:=hkv i k.kt (by rw [List.getElem?_map,hi];rfl)
    rw [List.drop_zero]
    refine KCell.same (w:=w) ?_ (below_same hb')
    unfold KCell
    exact this
   ·obtain ⟨v,hv1,hv2⟩:=htg
    exact ⟨v,by rw [List.drop_zero];exact hv1,rept_same hv2 (below_same hb')⟩
  refine G4 B S 0 cs _ ρ' η' w' _ hp' hct (by simp only [List.length_append];show _+(wrE (ks.map KU.kt) s).length≤lim;omega) fun ρ2 η2 w2 he2 hρ2 hb2 ho2 => ?_
  obtain ⟨hbS2,hnS2⟩:=hb2.other hrow'.lt hnS
  have hrow2:Row w2 S cs:=by obtain ⟨ee,hr⟩:=hrow';exact ⟨ee,by rw [hbS2];exact hr⟩
  have hcur2:Cur st2 ρ2 w2 S 0 cs:=hp'.cur.move G1.sj G2 hp'.sj hρ2 hrow2
  obtain ⟨g1,g2,g3,g4⟩:=runS_ok (P:=P) KF q2 st2
  refine g4 he2 hcur2 fun η3 he3 => ?_
  rw [hend]
  obtain ⟨_,hxv⟩:=isO_val he3 h
  rw [addOff_zero] at hxv
  show K _ w2
  simp only [pack,List.map,hxv]
  refine hk _ w2 ?_ (hb'.trans hb2)
  rw [← List.append_assoc];exact ho2
theorem topVW_ok (hn:Named P) {W:WTab} (hW:WTabOk P W e) {f:FuncId} {fx:Bool} {fs:Fs} {o:Nat} {ks:List KU} {v:Int} {cells:List (Option Value)} {cs0:List Value} {prog:NP} (hf:fnP P f 2=some ⟨prog,[.direct]⟩) (h:topVW W eG fx fs o ks v cells prog=true)
  (hv : -32768≤v∧v<32768) (hu:fx=true→ks.all (fun k=>uOk k cs0)=true∧ksOk (ks.map KU.kt)=true∧ks.length≤1000) (hzz:∀ k∈ks,ZzAll P k)
  {B S:Nat} {cs:List Value} {d:Value} {out:Bs} {w:World} {vs:List Val} {s:KV×Tg} {K:Value→World→Prop} (hown:Own w B e d out) (hSB:S<B) (hrow:Row w S cs) (hlen:cells.length≤cs.length) (hkn:∀ (j:Nat) (v:Value),cells[j]?=some (some v)→cs[j]?=some v)
  (hrep:RepF (· < B) w fs vs cs) (hok:okF fs vs) (hkv:fx=true→RepKV (· < B) w cs0 cs (ks.map KU.kt) s.1∧(∃ v,cs[o]?=some v∧RepT (· < B) (· < B) w s.2 v)∧OkE (ks.map KU.kt) s)
  (hlim:out.length+(wrI 2 v++wrX fx fs (ks.map KU.kt) (vs,s)).length≤lim) (hk:∀ d' w',Own w' B e d' (out++(wrI 2 v++wrX fx fs (ks.map KU.kt) (vs,s)))→RowKit.Below B w w'→K d' w'):In.wp P (.call f) [ptr S,d] w K:=by
 refine calls_of_np hn (vs:=[ptr S,d]) hf fun η hη => ?_
 dsimp only
 have h0:η 0=ptr S:=hη 0 (by simp)
 have h1:η 1=d:=hη 1 (by simp)
 unfold topVW at h
 split at h
 case h_2=>cases h
 rename_i k s1 dj hhead
 unfold headW at hhead
 split at hhead
 case h_2=>cases hhead
 rename_i fi y x n k' hp0
 split at hhead
 case h_2=>cases hhead
 rename_i u hxe
 split at hhead
 case isFalse=>cases hhead
 rename_i hc
 obtain ⟨hfi,hy,hu'⟩:=hc
 cases hhead
 have huv:=isInt_eq hu'
 subst huv
 let ρ:Nat→Value:=fun j=>if j=0 then ptr S else d
 have henv:EnvOk (wSt cells).env 2 ρ η:=by
  refine ((env_nil 2 ρ η).know (n:=0) (a := .o 0 0) (by show 0<2;omega) ?_).know (n:=1) (a := .o 1 0) (by show 1<2;omega) ?_
  ·simp only [AV.val,addOff_zero,h0];rfl
  ·simp only [AV.val,addOff_zero,h1];rfl
 have hcur:Cur (wSt cells) ρ w S 0 cs:=⟨rfl,hrow,by simpa [wSt] using hlen,fun j v hj=>by rw [Nat.zero_add];exact hkn j v hj⟩
 have hpre:WPre e (wSt cells) 1 B S 0 cs out ρ η w:=⟨henv,hcur,hown,fun h=>by have:=(own_own hown S h).1;omega,by show 1<2;omega,by show 0<2;omega⟩
 have hl2:(wrI 2 v).length=2:=be_length _ _
 rw [List.length_append,hl2] at hlim
 refine runW_pre (f:=KF) hpre fun η1 hp1 => ?_
 rw [hp0]
 obtain ⟨_,hyv⟩:=isO_val hp1.env hy
 rw [addOff_zero] at hyv
 obtain ⟨_,hxv⟩:=evalA_val hp1.env hxe
 simp only [AV.val] at hxv
 refine np_op (vs:=[ρ 1,.int .i16 v]) (by simp [hyv,hxv]) (hW.app fi .i16 hfi w B _ out (.i v) (.int .i16 v) _ hp1.own ⟨rfl,by simp only [okP];omega⟩ (by show _+(wrI 2 v).length≤lim;rw [hl2];omega) fun d1 w1 ho1 hb1 => ?_)
 obtain ⟨hbS,hnS⟩:=hb1.other hp1.cur.row.lt hp1.SB
 have hrow1:Row w1 S cs:=by obtain ⟨ee,hr⟩:=hrow;exact ⟨ee,by rw [hbS];exact hr⟩
 have hp2:WPre e ((runS KF prog (wSt cells)).2.new n) (runS KF prog (wSt cells)).2.nj B S 0 cs (out++wrI 2 v) (upd ρ (runS KF prog (wSt cells)).2.nj d1) (upd η1 n d1) w1:=
  ⟨hp1.env.fresh n d1,hp1.cur.move rfl rfl hp1.sj (fun j hj=>by simp [upd,Nat.ne_of_lt hj]) hrow1,by simp only [upd,if_true];exact ho1,by simp only [upd,if_true];exact hnS,Nat.lt_succ_self _,Nat.lt_succ_of_lt hp1.sj⟩
 refine bodyW_ok (vs:=vs) (s:=s) hW h hu hzz hp2 (RepF.same (below_same hb1) fs vs cs hrep) hok (fun hfx => ?_) (by rw [List.length_append,hl2];omega) fun d2 w2 ho2 hb2 => ?_
 ·obtain ⟨q1,⟨u,q2,q3⟩,q4⟩:=hkv hfx
  refine ⟨fun i k hi => ?_,⟨u,q2,rept_same q3 (below_same hb1)⟩,q4⟩
  have:=q1 i k hi
  cases hv:s.1.getD i none with
  | none=>rw [hv] at this;exact this
  | some xx=>rw [hv] at this;exact RepS.same (below_same hb1) _ _ _ this
 ·simp only [upd,if_true] at hb2
  refine hk d2 w2 (by rw [← List.append_assoc];exact ho2) ?_
  exact hb1.toBelow.trans hb2.toBelow
end
end Go.Mr
namespace Go.Sp
open Go.Lx Go.Nx Go.Km Go.Mx Go.Kb Go.Mr
set_option linter.unusedSimpArgs false
set_option linter.unusedVariables false
def AgainVG (P:Program) (e:TypeId) (g:Nat) (fA:FuncId) {α:Type} (dec:Bs→Option (α×Bs)) (enc:α→Bs) (pre:Bs→Prop):Prop:=
 ∀ (ok:Nat→Prop) (w:World) (src:Value) (bs:Bs) (K:Value→World→Prop) (et:TypeId) (ev:Value),SlE ok w src bs→pre bs→w.cell? ⟨g,0,none⟩=some (.iface et ev) →
  (dec bs=none→∀ w',Keep [] w w'→K (.tuple #[.slice none 0 0,.bool false]) w') →
  (∀ x rest,dec bs=some (x,rest)→∀ d w',Keep [] w w'→Own w' w.heap.size e d (enc x)→K (.tuple #[d,.bool true]) w')→In.wp P (.call fA) [src] w K
def decV (flex:Nat) (fs:Nat→Fs) (ks:Nat→List KU) (v:Nat) (bs:Bs):Option (MV×Bs):=(rdI 2 bs).bind fun p=>rdX (decide (flex≤v)) (fs v) ((ks v).map KU.kt) p.2
def encV (flex:Nat) (fs:Nat→Fs) (ks:Nat→List KU) (v:Nat) (m:MV):Bs:=wrI 2 (v:Int)++wrX (decide (flex≤v)) (fs v) ((ks v).map KU.kt) m
def preV (flex:Nat) (fs:Nat→Fs) (ks:Nat→List KU) (v:Nat) (bs:Bs):Prop:=bs.length≤lim∧(∀ x r,rdI 2 bs=some (x,r)→x=(v:Int)) ∧
 ∀ x rest,decV flex fs ks v bs=some (x,rest)→okF (fs v) x.1∧(flex≤v→OkE ((ks v).map KU.kt) x.2)∧(encV flex fs ks v x).length≤lim
theorem rdX_rdV (flex:Nat) (fs:Nat→Fs) (ks:Nat→List KU) (v:Nat) (bs:Bs):rdX (decide (flex≤v)) (fs v) ((ks v).map KU.kt) bs=rdV flex fs ks v bs:=by
 unfold rdX Mr.rdV
 by_cases h:flex≤v<;>simp [h]
theorem wrX_wrVm (flex:Nat) (fs:Nat→Fs) (ks:Nat→List KU) (v:Nat) (m:MV):wrX (decide (flex≤v)) (fs v) ((ks v).map KU.kt) m=wrVm flex fs ks v m:=by
 unfold wrX Mr.wrVm
 by_cases h:flex≤v<;>simp [h]
def ksV (cs0:List Value) (m flex:Nat) (ks:Nat→List KU):Bool:=(List.range m).all fun v=>if flex≤v then (ks v).all (fun k=>uOk k (cs0.set 0 (.int .i16 (v:Int)))) && ksOk ((ks v).map KU.kt) && decide ((ks v).length≤1000) else true
section
variable {P:Program} {g:Nat} {e eG:TypeId}
theorem againVG_ok (hn:Named P) {T:Tab} (hT:TabOk P T g) {U:KTab} (hU:KTabOk P U) {W:WTab} (hW:WTabOk P W e) {fA fNew fRead fApp fr fDef fi:FuncId} (hfi:Reads P fi (rdI 2) (intRep .i16) (· = .int .i16 0)) {z:List Value} {n m flex o:Nat} {ds:List (Nat×Value)} {fs:Nat→Fs} {ks:Nat→List KU} {pr pa:NP}
  (hA:fnP P fA 1=some (p_againK e z n fNew fRead fApp)) (hzn:z.length=n) (hNew:fnP P fNew 0=some (p_newK z n fDef)) (hd:T.defs fDef=some ds) (hl:∀ d∈ds,d.1<z.length) (hone:(setD 0 ds z).all (·.oneCell')=true) (hRead:fnP P fRead 2=some (p_read fr))
  (hfr:fnP P fr 3=some ⟨pr,[.direct]⟩) (hdf:dfOf pr=some fDef) (htr:msgVR T U fi m flex fs o (fun v=>(ks v).map KU.kt) (setD 0 ds z) false pr=true) (hm:m≤256)
  (hfa:fnP P fApp 2=some ⟨pa,[.direct]⟩) (htw:((List.range m).all fun v=>topVW W eG (decide (flex≤v)) (fs v) o (ks v) (v:Int) (knownC 1 ((setD 0 ds (setD 0 ds z)).set 0 (.int .i16 (v:Int)))) pa)=true) (hks:ksV (setD 0 ds (setD 0 ds z)) m flex ks=true) (hzz:∀ v,v<m→∀ k∈ks v,ZzAll P k)
  {v:Nat} (hv:v<m):AgainVG P e g fA (decV flex fs ks v) (encV flex fs ks v) (preV flex fs ks v):=by
 intro ok w src bs K et ev hsl hpre herr hbad hgood
 obtain ⟨hbl,hver,hokf⟩:=hpre
 unfold lim at hbl
 simp only [ksV,List.all_eq_true,List.mem_range] at hks htw
 have hks1:=hks v hv
 have htw1:=htw v hv
 refine calls_of_np hn (vs:=[src]) hA fun η hη => ?_
 have h0:η 0=src:=hη 0 (by simp)
 have hgw:g<w.heap.size:=cell_lt herr
 have hzl:=setD_length 0 ds z
 have hzl2:=setD_length 0 ds (setD 0 ds z)
 refine np_op (vs:=[]) rfl (newK_ok hn hT hNew hzn hd hl hone fun w1 k1 => ?_)
 refine np_op (vs:=[]) rfl (wp_alloc fun S w1' r1 hS k1' => ?_)
 refine ⟨⟨_,by simp only [upd];rfl⟩,?_⟩
 refine np_op (vs:=[ptr S,.agg (setD 0 ds z).toArray]) (by simp [SV.val,upd,Addr.add]) (wp_store r1 ⟨by simp [Value.cells];omega,by simpa [Value.cells] using hone⟩ (by omega) fun w2 r2 k2 => ?_)
 have hput:put z 0 (setD 0 ds z)=setD 0 ds z:=by simp [put,hzl]
 have r2':Row w2 S (setD 0 ds z):=by simpa [Value.cells,hput] using r2
 have kk2:Keep [] w w2:=(k1.then k1').trans k2 fun x hx hlt=>by rw [List.mem_singleton.1 hx] at hlt;have:=k1.size;omega
 have hsl2:SlE (fun k=>ok k∧k<w.heap.size) w2 src bs:=(hsl.weak (ok':=fun k=>ok k∧k<w.heap.size) fun b hb ho=>⟨ho,hb⟩).same (kk2.same fun x hx=>by cases hx)
 refine np_op (vs:=[.slice none 0 0,src]) (by simp [SV.val,upd,h0]) (wp_appG (own_nil (e:=e) w2) hsl2.sl0 (by simp only [List.length_nil,lim];omega) fun d3 w3 o3 b3 _ => ?_)
 rw [List.nil_append] at o3
 have k3:Keep [] w2 w3:=Keep.of_below b3
 have hSw:S<w2.heap.size:=r2'.lt
 have r3:Row w3 S (setD 0 ds z):=r2'.keep k3 (by simp)
 have hsl3:Sl (fun k=>k≠S) w3 d3 bs:=(own_sl o3).weak fun b _ hb=>by omega
 have kk3:Keep [] w w3:=kk2.then k3
 have herr3:w3.cell? ⟨g,0,none⟩=some (.iface et ev):=cell_keep herr kk3 (by simp)
 have hSw0:w.heap.size≤S:=by have:=k1.size;omega
 refine np_op (vs:=[ptr S,d3]) (by simp [SV.val,upd,Addr.add]) (read_ok hn hRead (msgVR_ok hn hT hU hfi hfr htr hv hver (ok:=fun k=>k≠S) (fun k hk=>by have:=k3.size;omega) (fun h=>h rfl) r3 hsl3 herr3 (by omega) ?_ ?_))
 ·intro hb w4 k4
  have kk4:Keep [] w w4:=kk3.trans k4 fun x hx hlt=>by rw [List.mem_singleton.1 hx] at hlt;omega
  refine np_op (vs:=[.iface et ev]) (by simp [SV.val,upd]) ⟨_,false,rfl,rfl,?_⟩
  refine np_ite true (by simp [SV.val,upd]) ?_
  simp only [if_true]
  show K (pack _) w4
  simpa [pack,SV.val] using hbad hb w4 kk4
 ·intro df ds' vs s rest hdf' hds' hrd w4 cs' k4 r4 hcl hlow hrep hkv
  rw [hdf] at hdf'
  cases hdf'
  rw [hd] at hds'
  cases hds'
  have kk4:Keep [] w w4:=kk3.trans k4 fun x hx hlt=>by rw [List.mem_singleton.1 hx] at hlt;omega
  refine np_op (vs:=[.nilIface]) (by simp [SV.val,upd]) ⟨_,true,rfl,rfl,?_⟩
  refine np_ite false (by simp [SV.val,upd]) ?_
  simp only [Bool.false_eq_true,if_false]
  obtain ⟨hok,hoe,hwl⟩:=hokf (vs,s) rest hrd
  refine np_op (vs:=[ptr S,.slice none 0 0]) (by simp [SV.val,upd,Addr.add]) (topVW_ok (vs:=vs) (s:=s) hn hW hfa htw1 ⟨by omega,by omega⟩ (cs0:=(setD 0 ds (setD 0 ds z)).set 0 (.int .i16 (v:Int))) (fun hfx => ?_) (hzz v hv) (own_nil (e:=e) w4) r4.lt r4 ?_ ?_ (hrep.weak fun b hb _=>hb) hok (fun hfx => ?_) (by simp only [List.length_nil];show 0+_≤lim;have:(wrI 2 (v:Int)++wrX (decide (flex≤v)) (fs v) ((ks v).map KU.kt) (vs,s)).length≤lim:=hwl;omega) fun d5 w5 o5 b5 => ?_)
  ·rw [if_pos (by simpa using hfx)] at hks1
   simp only [Bool.and_eq_true,decide_eq_true_eq] at hks1
   exact ⟨hks1.1.1,hks1.1.2,hks1.2⟩
  ·simp [knownC];omega
  ·intro j v' hj
   have hj1:j=0∧v' = .int .i16 (v:Int):=by
    simp only [knownC] at hj
    cases j with
    | zero=>
     refine ⟨rfl,?_⟩
     have hz0:0<(setD 0 ds (setD 0 ds z)).length:=by
      have h1:=(List.getElem?_eq_some_iff.1 hlow).1
      omega
     cases hq:setD 0 ds (setD 0 ds z) with
     | nil=>rw [hq] at hz0;simp at hz0
     | cons a r=>rw [hq] at hj;simpa using hj.symm
    | succ j=>
     exfalso
     cases hq:setD 0 ds (setD 0 ds z) with
     | nil=>rw [hq] at hj;simp at hj
     | cons a r=>
      rw [hq] at hj
      simp [List.getElem?_replicate] at hj
   obtain ⟨rfl,rfl⟩:=hj1
   exact hlow
  ·obtain ⟨q1,u,q2,q3,_⟩:=hkv (by simpa using hfx)
   refine ⟨fun i k hi => ?_,⟨u,q2,?_⟩,hoe (by simpa using hfx)⟩
   ·have:=q1 i k hi
    cases hv:s.1.getD i none with
    | none=>rw [hv] at this;exact this
    | some xx=>rw [hv] at this;exact RepS.weak (fun b hb _=>hb) _ _ _ this
   ·rcases q3 with q5 | ⟨r',es,q5,q6,q7⟩
    ·exact .inl q5
    ·exact .inr ⟨r',es,q5,q7.lt,q7.weak fun b hb _=>hb⟩
  ·rw [List.nil_append] at o5
   have k5:Keep [] w4 w5:=Keep.of_below b5
   show K (pack _) w5
   have:=hgood (vs,s) rest hrd d5 w5 (kk4.then k5) (own_low o5 kk4.size)
   simpa [pack,SV.val,upd] using this
theorem kept_okG {I:SI} (F:Fns P I) {f:FuncId} (hf:fnP P f 3=some (q_kept I)) {w:World} {vF:Value} {flex ver:Int} {fl:Fl} {cs:List Value} {t:Tr} {R:Bs→Prop} (hF:RepFl w vF fl) (ht:RepTr w cs t) {K:Value→World→Prop} (hRl:∀ bs,R bs→2+bs.length≤lim)
  (hwrite:∀ (w':World) (K':Value→World→Prop),Keep [] w w'→(∀ bs v w'',R bs→New w' w'' v bs→Keep [] w' w''→K' v w'')→In.wp P (.call I.write) [.agg (mcells vF flex).toArray,i64 ver,.agg cs.toArray] w' K')
  (hk:∀ bs v w',R bs→New w w' v (wrI 2 ver++bs)→Keep [] w w'→K v w'):In.wp P (.call f) [.agg (mcells vF flex).toArray,i64 ver,.agg cs.toArray] w K:=by
 refine calls_of_np F.named (vs:=[.agg (mcells vF flex).toArray,i64 ver,.agg cs.toArray]) hf fun η hη => ?_
 have h0:η 0 = .agg (mcells vF flex).toArray:=hη 0 (by simp)
 have h1:η 1=i64 ver:=hη 1 (by simp)
 have h2:η 2 = .agg cs.toArray:=hη 2 (by simp)
 have hcl:cs.length=5:=by obtain ⟨_,_,_,_,_,e⟩:=ht.cells;rw [e];rfl
 refine np_op (vs:=[.agg (mcells vF flex).toArray]) (by simp [SV.val,h0]) (wp_box rfl fun b3 w1 r3 hb3 k1 => ?_)
 refine ⟨⟨_,by simp only [upd];rfl⟩,?_⟩
 refine np_op (vs:=[.agg cs.toArray]) (by simp [SV.val,upd,h2]) (wp_box hcl fun b4 w2 r4 hb4 k2 => ?_)
 refine ⟨⟨_,by simp only [upd];rfl⟩,?_⟩
 refine np_draw ?_
 have kd:=keep_drawn w2
 have k0d:=(k1.then k2).then kd
 have r3d:=(r3.keep k2 (by simp)).keep kd (by simp)
 have r4d:=r4.keep kd (by simp)
 have all:∀ {w:World},Row w b4 cs→w.rangeAt b4 0 cs:=fun h=>by have h:=h.range 0 5;rw [List.drop_zero,List.take_of_length_le (by omega)] at h;exact h
 have all3:∀ {w:World},Row w b3 (mcells vF flex)→w.rangeAt b3 0 (mcells vF flex):=fun h=>h.range 0 2
 refine np_look (vs:=[ptrO b3 0]) (by simp [SV.val,upd,Addr.add]) (wp_lds (all3 r3d) rfl ⟨rfl,?_⟩)
 refine np_look (vs:=[ptrO b4 0]) (by simp [SV.val,upd,Addr.add]) (wp_lds (all r4d) hcl ⟨rfl,?_⟩)
 have keeps:∀ (η2:Nat→Value) (w3:World) (k:NP) (Q:Post),Row w3 b3 (mcells vF flex)→Row w3 b4 cs→η2 3=ptr b3→η2 4=ptr b4→η2 5 = .agg (mcells vF flex).toArray→η2 6 = .agg cs.toArray→k.wp P Q η2 w3 →
   NP.wp P (.keep (.loadN 5) [.q 4 0] 6 <| .keep (.loadN 2) [.q 3 0] 5<|k) Q η2 w3:=by
  intro η2 w3 k Q q3 q4 e3 e4 e5 e6 hk'
  refine np_keep (vs:=[ptrO b4 0]) (by simp [SV.val,e4,Addr.add]) (wp_lds (all q4) hcl ⟨by rw [e6],rfl⟩) ?_
  refine np_keep (vs:=[ptrO b3 0]) (by simp [SV.val,e3,Addr.add]) (wp_lds (all3 q3) rfl ⟨by rw [e5],rfl⟩) ?_
  exact hk'
 refine np_op (vs:=[i64 ver,i64 ((2:Nat):Int)]) (by simp [SV.val,upd,h1]) (fixed_ok F.named F.fixed (by omega) fun d w3 o3 k3 => ?_)
 have r3e:=r3d.keep k3 (by simp)
 have r4e:=r4d.keep k3 (by simp)
 have k03:=k0d.then k3
 refine keeps _ _ _ _ r3e r4e (by simp [upd]) (by simp [upd]) (by simp [upd]) (by simp [upd]) ?_
 refine np_op (vs:=[.agg (mcells vF flex).toArray,i64 ver,.agg cs.toArray]) (by simp [SV.val,upd,h1]) (hwrite _ _ k03 fun bs v4 w4 hR n4 k4 => ?_)
 have hRl':=hRl bs hR
 have r3f:=r3e.keep k4 (by simp)
 have r4f:=r4e.keep k4 (by simp)
 refine keeps _ _ _ _ r3f r4f (by simp [upd]) (by simp [upd]) (by simp [upd]) (by simp [upd]) ?_
 have o4:=o3.keep k4 (fun _ _ h=>by cases h)
 have hl2:(wrI 2 ver).length=2:=be_length _ _
 refine np_op (vs:=[d,v4]) (by simp [SV.val,upd]) (wp_app o4 n4.sl0 (by omega) fun d5 w5 o5 b5 => ?_)
 have hb3l:b3<w2.heap.size:=by have:=r3.lt;have:=k2.size;omega
 have r3g:=row_below r3f b5 (by simpa using hb3l)
 have r4g:=row_below r4f b5 (by simpa using r4.lt)
 refine keeps _ _ _ _ r3g r4g (by simp [upd]) (by simp [upd]) (by simp [upd]) (by simp [upd]) ?_
 show K (pack _) w5
 have:=hk bs d5 w5 hR (Own.low o5 k0d.size) (keep_below (k03.then k4) b5 k0d.size)
 simpa [pack,SV.val,upd] using this
end
end Go.Sp
namespace Go.Sp
open Go.Lx Go.Nx Go.Km Go.Mx Go.Kb Go.Mr
set_option linter.unusedSimpArgs false
set_option linter.unusedVariables false
def p_fnCutK (fZz fMsg fKept fA:FuncId) (m:Int):FnP:=⟨.op (.box 5) [.s 1] 3 <|
 .chk 3 <|
 .op (.loadN 5) [.q 3 0] 4 <|
 .op (.call fZz) [.s 4] 5 <|
 .op .not [.s 5] 6 <|
 .ite (.s 6)
  (.ret [.k (.bool true)])
  (.nil) <|
 .draw <|
 .look (.cv .i64) [.s 0] 7 <|
 .look .rem [.s 7,.k (.int .i64 m)] 8 <|
 .look (.loadN 5) [.q 3 0] 9 <|
 .op (.call fMsg) [] 10 <|
 .keep (.loadN 5) [.q 3 0] 9 <|
 .keep .rem [.s 7,.k (.int .i64 m)] 8 <|
 .keep (.cv .i64) [.s 0] 7 <|
 .op (.call fKept) [.s 10,.s 8,.s 9] 11 <|
 .keep (.loadN 5) [.q 3 0] 9 <|
 .keep .rem [.s 7,.k (.int .i64 m)] 8 <|
 .keep (.cv .i64) [.s 0] 7 <|
 .op (.call fA) [.s 11] 12 <|
 .op (.ex 0) [.s 12] 13 <|
 .op (.ex 1) [.s 12] 14 <|
 .op (.cv .i64) [.s 2] 15 <|
 .op .len [.s 11] 16 <|
 .op .rem [.s 15,.s 16] 17 <|
 .op (.sl 1 false true false) [.s 11,.s 17] 18 <|
 .op (.call fA) [.s 18] 19 <|
 .op (.ex 0) [.s 19] 20 <|
 .op (.ex 1) [.s 19] 21 <|
 .ite (.s 14)
  (.set 22 (.s 21) <|
  .nil)
  (.set 22 (.k (.tuple #[])) <|
  .nil) <|
 .ite (.s 14)
  (.op .not [.s 22] 23 <|
  .set 24 (.s 23) <|
  .nil)
  (.set 24 (.k (.tuple #[])) <|
  .nil) <|
 .ite (.s 14)
  (.set 25 (.s 24) <|
  .nil)
  (.set 25 (.k (.bool false)) <|
  .nil) <|
 .ret [.s 25],[.direct]⟩
section
variable {P:Program} {g:Nat} {e eG:TypeId}
structure LawV (P:Program) (I:SI) (e:TypeId) (g:Nat) (fMsg fKept fA:FuncId) (fl:Fl) (fx:Int) (m:Nat) {α:Type} (dec:Nat→Bs→Option (α×Bs)) (enc:Nat→α→Bs) (pre:Nat→Bs→Prop) (H:Nat→Tr→Prop) (R:Nat→Tr→Bs→Prop):Prop where
 F:Fns P I
 msg:∀ (w:World) (K:Value→World→Prop),(∀ vF w',RepFl w' vF fl→Keep [] w w'→K (.agg (mcells vF fx).toArray) w')→In.wp P (.call fMsg) [] w K
 kept:∀ v,v<m→∀ (w:World) (vF:Value) (cs:List Value) (t:Tr) (K:Value→World→Prop),H v t→RepFl w vF fl→RepTr w cs t→(∀ bs d w',R v t bs→New w w' d (wrI 2 (v:Int)++bs)→Keep [] w w'→K d w')→In.wp P (.call fKept) [.agg (mcells vF fx).toArray,i64 (v:Int),.agg cs.toArray] w K
 again:∀ v,v<m→AgainVG P e g fA (dec v) (enc v) (pre v)
 pos:0<m
 many:m≤256
 rd:∀ v,v<m→∀ t bs,H v t→R v t bs→∃ x,dec v (wrI 2 (v:Int)++bs)=some (x,[])∧pre v (wrI 2 (v:Int)++bs)∧(wrI 2 (v:Int)++bs).length≤lim∧∀ k,k<(wrI 2 (v:Int)++bs).length→dec v ((wrI 2 (v:Int)++bs).take k)=none∧pre v ((wrI 2 (v:Int)++bs).take k)
theorem law_cutV {I:SI} {f fZz fMsg fKept fA:FuncId} {fl:Fl} {fx:Int} {m:Nat} {α:Type} {dec:Nat→Bs→Option (α×Bs)} {enc:Nat→α→Bs} {pre:Nat→Bs→Prop} {H:Nat→Tr→Prop} {R:Nat→Tr→Bs→Prop} (L:LawV P I e g fMsg fKept fA fl fx m dec enc pre H R) (hz:fnP P fZz 1=some (q_zzFits2 I)) (hf:fnP P f 3=some (p_fnCutK fZz fMsg fKept fA (m:Int)))
  {w:World} {cs:List Value} {t:Tr} {n at':Nat} {et:TypeId} {ev:Value} (hn8:n<256) (hat:at'<65536) (ht:RepTr w cs t) (hlim:∀ v,v<m→H v t) (herr:w.cell? ⟨g,0,none⟩=some (.iface et ev))
  {K:Value→World→Prop} (hk:∀ w',Keep [] w w'→K (.bool true) w'):In.wp P (.call f) [.int .u8 (n:Int),.agg cs.toArray,.int .u16 (at':Int)] w K:=by
 have hn:=L.F.named
 refine calls_of_np hn (vs:=[.int .u8 (n:Int),.agg cs.toArray,.int .u16 (at':Int)]) hf fun η hη => ?_
 have h0:η 0 = .int .u8 (n:Int):=hη 0 (by simp)
 have h1:η 1 = .agg cs.toArray:=hη 1 (by simp)
 have h2:η 2 = .int .u16 (at':Int):=hη 2 (by simp)
 have hmp:=L.pos
 have hmany:=L.many
 have hmod:n%m<m:=Nat.mod_lt n hmp
 have hcl:cs.length=5:=by obtain ⟨_,_,_,_,_,e⟩:=ht.cells;rw [e];rfl
 refine np_op (vs:=[.agg cs.toArray]) (by simp [SV.val,h1]) (wp_box hcl fun b w1 r1 hb k1 => ?_)
 refine ⟨⟨_,by simp only [upd];rfl⟩,?_⟩
 have all:∀ {w:World},Row w b cs→w.rangeAt b 0 cs:=fun h=>by have h:=h.range 0 5;rw [List.drop_zero,List.take_of_length_le (by omega)] at h;exact h
 refine np_op (vs:=[ptrO b 0]) (by simp [SV.val,upd,Addr.add]) (wp_lds (all r1) hcl ?_)
 refine np_op (vs:=[.agg cs.toArray]) (by simp [SV.val,upd]) (zz2_ok L.F hz (ht.keep k1) fun bb w2 k2 => ?_)
 have k02:=k1.then k2
 have r2:=r1.keep k2 (by simp)
 refine np_op (vs:=[.bool bb]) (by simp [SV.val,upd]) ⟨bb,rfl,?_⟩
 cases bb with
 | false=>
  refine np_T (by simp [SV.val,upd]) ?_
  show K (pack _) w2
  exact hk w2 k02
 | true=>
 refine np_F (by simp [SV.val,upd]) ?_
 show NP.wp P (.draw _) _ _ w2
 refine np_draw ?_
 have kd:=keep_drawn w2
 have k0d:=k02.then kd
 have rd:=r2.keep kd (by simp)
 have hrem:((n:Int).tmod (m:Int))=((n%m:Nat):Int):=rfl
 have hm0:(m:Int)≠0:=by omega
 refine np_look (vs:=[.int .u8 (n:Int)]) (by simp [SV.val,upd,h0]) ⟨.u8,_,rfl,rfl,?_⟩
 rw [wrap64 _ (by omega) (by omega)]
 refine np_look (vs:=[i64 (n:Int),i64 (m:Int)]) (by simp [SV.val,upd]) ⟨.i64,(n:Int),(m:Int),rfl,hm0,rfl,?_⟩
 rw [hrem]
 refine np_look (vs:=[ptrO b 0]) (by simp [SV.val,upd,Addr.add]) (wp_lds (all rd) hcl ⟨rfl,?_⟩)
 have keeps:∀ (η2:Nat→Value) (w3:World) (k:NP) (Q:Post),Row w3 b cs→η2 0 = .int .u8 (n:Int)→η2 3=ptr b→η2 7=i64 (n:Int)→η2 8=i64 ((n%m:Nat):Int)→η2 9 = .agg cs.toArray→k.wp P Q η2 w3 →
   NP.wp P (.keep (.loadN 5) [.q 3 0] 9 <| .keep .rem [.s 7,.k (.int .i64 (m:Int))] 8 <| .keep (.cv .i64) [.s 0] 7<|k) Q η2 w3:=by
  intro η2 w3 k Q q e0 e2 e6 e7 e8 hk'
  refine np_keep (vs:=[ptrO b 0]) (by simp [SV.val,e2,Addr.add]) (wp_lds (all q) hcl ⟨by rw [e8],rfl⟩) ?_
  refine np_keep (vs:=[i64 (n:Int),i64 (m:Int)]) (by simp [SV.val,e6]) ⟨.i64,(n:Int),(m:Int),rfl,hm0,by rw [hrem,e7],rfl⟩ ?_
  refine np_keep (vs:=[.int .u8 (n:Int)]) (by simp [SV.val,e0]) ⟨.u8,_,rfl,by rw [wrap64 _ (by omega) (by omega),e6],rfl⟩ ?_
  exact hk'
 refine np_op (vs:=[]) rfl (L.msg _ _ fun vF w4 hF k4 => ?_)
 have k04:=k0d.then k4
 have r4:=rd.keep k4 (by simp)
 refine keeps _ _ _ _ r4 (by simp [upd,h0]) (by simp [upd]) (by simp [upd]) (by simp [upd]) (by simp [upd]) ?_
 refine np_op (vs:=[.agg (mcells vF fx).toArray,i64 ((n%m:Nat):Int),.agg cs.toArray]) (by simp [SV.val,upd]) (L.kept _ hmod _ _ _ _ _ (hlim _ hmod) hF (ht.keep k04) fun bs0 d w5 hR n5 k5 => ?_)
 obtain ⟨x0,hrd,hpre0,hl,hcutall⟩:=L.rd _ hmod t bs0 (hlim _ hmod) hR
 have hl2:2≤(wrI 2 ((n%m:Nat):Int)++bs0).length:=by rw [List.length_append,wrI,be_length];omega
 generalize hbs:wrI 2 ((n%m:Nat):Int)++bs0=bs at *
 unfold lim at hl
 have r5:=r4.keep k5 (by simp)
 have k05:=k04.then k5
 refine keeps _ _ _ _ r5 (by simp [upd,h0]) (by simp [upd]) (by simp [upd]) (by simp [upd]) (by simp [upd]) ?_
 have herr5:=cell_keep herr k05 (by simp)
 refine np_op (vs:=[d]) (by simp [SV.val,upd]) (L.again _ hmod _ w5 d _ _ et ev (.inl n5) hpre0 herr5 (fun h=>by rw [hrd] at h;cases h) fun x rest h d' w6 k6 o6 => ?_)
 have k06:=k05.then k6
 have n6:=n5.same (k6.same fun x hx=>by cases hx)
 obtain ⟨a,c,hd,hac⟩:=sl_slice n6
 refine np_op (vs:=[.tuple #[d',.bool true]]) (by simp [SV.val,upd]) ⟨_,_,rfl,rfl,?_⟩
 refine np_op (vs:=[.tuple #[d',.bool true]]) (by simp [SV.val,upd]) ⟨_,_,rfl,rfl,?_⟩
 refine np_op (vs:=[.int .u16 (at':Int)]) (by simp [SV.val,upd,h2]) ⟨.u16,_,rfl,?_⟩
 rw [wrap64 _ (by omega) (by omega)]
 refine np_op (vs:=[.slice a bs.length c]) (by simp [SV.val,upd,hd]) ⟨_,_,_,rfl,?_⟩
 have hzi:(bs.length:Int)≠0:=by omega
 refine np_op (vs:=[i64 (at':Int),i64 (bs.length:Int)]) (by simp [SV.val,upd,goInt]) ⟨.i64,(at':Int),(bs.length:Int),rfl,hzi,?_⟩
 have htm:((at':Int).tmod (bs.length:Int))=((at'%bs.length:Nat):Int):=rfl
 rw [htm]
 have hcut:at'%bs.length<bs.length:=Nat.mod_lt _ (by omega)
 refine np_op (vs:=[.slice a bs.length c,i64 ((at'%bs.length:Nat):Int)]) (by simp [SV.val,upd,hd]) (wp_sl0 (by omega) ?_)
 have hcn:=(hcutall _ hcut).1
 have hslc:SlE (fun _=>True) w6 (.slice a (at'%bs.length) c) (bs.take (at'%bs.length)):=by
  have h:=SlE.weak (ok':=fun _=>True) (.inl n6) fun _ _ _=>trivial
  obtain ⟨a',c',hd',_,h'⟩:=slE_take h (at'%bs.length)
  rw [hd,Value.slice.injEq] at hd'
  obtain ⟨rfl,_,rfl⟩:=hd'
  rw [Nat.min_eq_left (by omega)] at h'
  exact h'
 refine np_op (vs:=[.slice a (at'%bs.length) c]) (by simp [SV.val,upd]) (L.again _ hmod _ _ _ _ _ et ev hslc (hcutall _ hcut).2 (cell_keep herr k06 (by simp)) (fun _ w7 k7 => ?_) fun vs rest h=>by rw [hcn] at h;cases h)
 refine np_op (vs:=[.tuple #[.slice none 0 0,.bool false]]) (by simp [SV.val,upd]) ⟨_,_,rfl,rfl,?_⟩
 refine np_op (vs:=[.tuple #[.slice none 0 0,.bool false]]) (by simp [SV.val,upd]) ⟨_,_,rfl,rfl,?_⟩
 refine np_T (by simp [SV.val,upd]) ?_
 refine np_T (by simp [SV.val,upd]) ?_
 refine np_op (vs:=[.bool false]) (by simp [SV.val,upd]) ⟨_,rfl,?_⟩
 refine np_T (by simp [SV.val,upd]) ?_
 show K (pack _) w7
 simpa [pack,SV.val,upd] using hk w7 (k06.then k7)
theorem rdI2_wr (v:Nat) (hv:v<256) (r:Bs):rdI 2 (wrI 2 (v:Int)++r)=some ((v:Int),r):=
 rdI_wrI 2 (by omega) _ (by simp<;>omega) (by simp<;>omega) r
theorem rdI2_short {bs:Bs} (h:bs.length<2):rdI 2 bs=none:=by
 unfold rdI rdU cut
 rw [if_neg (by omega)];rfl
theorem law_ofV {I:SI} (F:Fns P I) {T:Tab} (hT:TabOk P T g) {U:KTab} (hU:KTabOk P U) {W:WTab} (hW:WTabOk P W e) {fMsg fKept fA fNew fRead fApp fr fDef fi fS:FuncId} (hfi:Reads P fi (rdI 2) (intRep .i16) (· = .int .i16 0)) {z:List Value} {n m d flex o:Nat} {ds:List (Nat×Value)} {fs:Nat→Fs} {ks:Nat→List KU} {fl:Fl}
  (hKept:fnP P fKept 3=some (q_kept I)) (hUs:fnP P I.usual 2=some (q_usual I fS)) (hS:fnP P fS 2=some p_same)
  (hA:fnP P fA 1=some (p_againK e z n fNew fRead fApp)) (hzn:z.length=n) (hNew:fnP P fNew 0=some (p_newK z n fDef)) (hd:T.defs fDef=some ds) (hl:(ds.all (fun d=>decide (d.1<z.length)) && (setD 0 ds z).all (·.oneCell'))=true) (hRead:fnP P fRead 2=some (p_read fr))
  (hr:rdC P T fr (fun p=>dfOf p == some fDef && msgVR T U fi (m+1) flex fs o (fun v=>(ks v).map KU.kt) (setD 0 ds z) false p)=true) (hm:m+1≤256)
  (hw:wrC P fApp (fun p=>(List.range (m+1)).all fun v=>topVW W eG (decide (flex≤v)) (fs v) o (ks v) (v:Int) (knownC 1 ((setD 0 ds (setD 0 ds z)).set 0 (.int .i16 (v:Int)))) p)=true) (hks:ksV (setD 0 ds (setD 0 ds z)) (m+1) flex ks=true) (hzz:∀ v,v<m+1→∀ k∈ks v,ZzAll P k)
  (hmsg:msgC P d fMsg=some (fl,(flex:Int))) (hok:(okSub fl && usT fl && smallT fl && decide (knT fl 0≤1000) && decide (fl.len≤32767))=true)
  (htab:((List.range (m+1)).all fun v=>if flex≤v then tabT (v:Int) fl (fs v) (ks v) else fitN (v:Int) false fl (fs v) && wfF (fs v))=true) :
  LawV P I e g fMsg fKept fA fl (flex:Int) (m+1) (decV flex fs ks) (encV flex fs ks) (preV flex fs ks) (HT (flex:Int) fl) (RT (flex:Int) fl):=by
 have hn:=F.named
 simp only [Bool.and_eq_true,List.all_eq_true,decide_eq_true_eq] at hl
 obtain ⟨p,hp,hr⟩:=rdC_ok hr
 obtain ⟨q,hq,hw⟩:=wrC_ok hw
 simp only [Bool.and_eq_true,beq_iff_eq] at hr
 refine ⟨F,fun w K hk'=>msgC_ok hn hmsg hk',fun v hv w vF cs t K hH hF ht hK => ?_,fun v hv=>againVG_ok hn hT hU hW hfi hA hzn hNew hd hl.1 (List.all_eq_true.2 hl.2) hRead hp hr.1 hr.2 hm hq hw hks hzz hv,by omega,hm,fun v hv t bs hH hR => ?_⟩
 ·exact kept_okG F hKept hF ht (fun bs hR=>by obtain ⟨_,_,_,r3,_⟩:=rd_ofT htab (v:=v) (by omega) hH hR;omega) (fun w' K' k' hK'=>write_ofT F (m:=m) hUs hS hok (fun hf=>tabT_len htab v t hf (by omega)) hH (hF.keep k') (ht.keep k') hK') hK
 ·obtain ⟨x,r1,r2,r3,r4⟩:=rd_ofT htab (v:=v) (by omega) hH hR
  have hl2:(wrI 2 (v:Int)).length=2:=be_length _ _
  have hdec:∀ r,decV flex fs ks v (wrI 2 (v:Int)++r)=rdV flex fs ks v r:=fun r=>by
   unfold decV
   rw [rdI2_wr v (by omega) r,Option.bind_some,rdX_rdV]
  have hver:∀ r y s,rdI 2 (wrI 2 (v:Int)++r)=some (y,s)→y=(v:Int):=fun r y s h=>by
   rw [rdI2_wr v (by omega) r] at h
   simp only [Option.some.injEq,Prod.mk.injEq] at h
   exact h.1.symm
  refine ⟨x,by rw [hdec];exact r1,⟨by rw [List.length_append];omega,hver bs,fun y rest hy => ?_⟩,by rw [List.length_append];omega,fun k hk' => ?_⟩
  ·rw [hdec,r1] at hy
   cases hy
   refine ⟨r2.1,r2.2.1,?_⟩
   have:=r2.2.2
   unfold encV
   rw [List.length_append,wrX_wrVm];omega
  ·rw [List.length_append] at hk'
   by_cases h2:k<2
   ·have hs:((wrI 2 (v:Int)++bs).take k).length<2:=by rw [List.length_take];omega
    have hn0:=rdI2_short hs
    refine ⟨by unfold decV;rw [hn0];rfl,⟨by rw [List.length_take,List.length_append];omega,fun y s h=>(by rw [hn0] at h;cases h),fun y s h=>by unfold decV at h;rw [hn0] at h;cases h⟩⟩
   ·have ht:(wrI 2 (v:Int)++bs).take k=wrI 2 (v:Int)++bs.take (k - 2):=by
     rw [List.take_append,hl2,List.take_of_length_le (by omega)]
    have hc:=r4 (k - 2) (by omega)
    rw [ht]
    refine ⟨by rw [hdec];exact hc,⟨by rw [List.length_append,List.length_take];omega,hver _,fun y s h=>by rw [hdec,hc] at h;cases h⟩⟩
end
end Go.Sp
namespace Go.Sp
open Go.Lx Go.Nx Go.Km Go.Mx Go.Kb Go.Mr
set_option linter.unusedSimpArgs false
set_option linter.unusedVariables false
def mxT (ver:Int):Fl→Nat
 | .nil=>0
 | .cons kind _ _ nul _ _ of sub r=>mxField kind nul of (mxF ver true sub+1074004164)+mxT ver r
theorem tagF_max {ver:Int} {T:Nat}:∀ (fl:Fl) (t:Tr) (i:Nat),∀ p∈tagF ver T fl t i,p.2.length≤mxT ver fl:=by
 intro fl
 induction fl with
 | nil=>intro t i p hp;simp [tagF] at hp
 | cons kind frm to nul tag df of sub r _ ih=>
  intro t i p hp
  simp only [tagF,List.mem_append] at hp
  simp only [mxT]
  rcases hp with hp | hp
  ·split at hp
   ·rw [List.mem_singleton] at hp
    subst hp
    have h1:=mxField_ok (kind:=kind) (nul:=nul) (of:=of) (pB:=partB ver true sub) (m:=mxF ver true sub+1074004164) (fun t=>by have:=partB_max ver true sub t;simpa using this) ver true (t.at i)
    dsimp only
    omega
   ·simp at hp
  ·have:=ih t (i+1) p hp
   omega
theorem allT_max {ver:Int} {fl:Fl} {t:Tr}:∀ (m T:Nat),∀ p∈allT ver fl t m T,p.2.length≤mxT ver fl:=by
 intro m
 induction m with
 | zero=>intro T p hp;simp [allT] at hp
 | succ m ih=>
  intro T p hp
  simp only [allT,List.mem_append] at hp
  rcases hp with hp | hp
  ·exact tagF_max fl t 0 p hp
  ·exact ih (T+1) p hp
theorem HT_max {m:Nat} {fl:Fl} {fx:Int} (h:(((List.range (m+1)).all fun v=>decide (mxT (v:Int) fl<4294967296) && decide (mxF (v:Int) true fl+(mxT (v:Int) fl+10)*1000+1074003999≤140737488355328) && decide (mxF (v:Int) false fl+2≤140737488355328)) && decide (knT fl 0*fl.len≤1000))=true) (t:Tr) (v:Nat) (hv:v≤m):HT fx fl v t:=by
 simp only [Bool.and_eq_true,List.all_eq_true,List.mem_range,decide_eq_true_eq] at h
 obtain ⟨h,hn⟩:=h
 obtain ⟨⟨h1,h2⟩,h3⟩:=h v (by omega)
 unfold HT
 split
 ·have hb:∀ p∈allT (v:Int) fl t (knT fl 0) 0,p.2.length≤mxT (v:Int) fl:=allT_max _ _
  have hA:=wrTagL_bound _ _ hb
  have hl := @allT_len (v:Int) fl t (knT fl 0) 0
  have hA2:(mxT (v:Int) fl+10)*(allT (v:Int) fl t (knT fl 0) 0).length≤(mxT (v:Int) fl+10)*1000:=Nat.mul_le_mul_left _ (by omega)
  have hu:=wrTagL_bound (unkT fl t) 32767 fun p hp=>(unkT_keys fl t p hp).2.2
  have hu2:(32767+10)*(unkT fl t).length≤(32767+10)*32767:=Nat.mul_le_mul_left _ (unkT_len fl t)
  have hp:=mxF_ok (ver:=(v:Int)) (flex:=true) fl t 0
  refine ⟨?_,fun p hp=>by have:=hb p hp;omega⟩
  unfold lim
  omega
 ·have hp:=mxF_ok (ver:=(v:Int)) (flex:=false) fl t 0
  unfold lim
  omega
end Go.Sp

