import Derived.Test.YtmlmiljgbaalgaaGreatDoorMw
import Derived.Shelf.GgSortFunc.Whole
import Derived.Shelf.GgSortFunc.Tiny
import Derived.Sort.LotA
set_option linter.unusedSimpArgs false
set_option linter.unusedVariables false
namespace Go.Mr
open Go.Lx Go.Nx Go.Km Go.Mx Go.Kb Go.Shelf Go.RowKit Go.Lib Go.Sort Go.Proofs
set_option linter.unusedSimpArgs false
set_option linter.unusedVariables false
section
variable {P:Program} {ρ:Ren}
theorem grow_keep (A:List Nat) (w:World) (os:Array Obj):Keep A w (grow w os):=
 ⟨rfl,rfl,rfl,by simp,fun k hk _=>by simp [grow,Array.getElem?_append,hk]⟩
theorem ahead_keep (A:List Nat) (w:World) (n:Nat):Keep A w (Sort.ahead w n):=⟨rfl,rfl,rfl,Nat.le_refl _,fun _ _ _=>rfl⟩
theorem putRow_keep {α:Type} [Inhabited α] (enc:α→Value) (w:World) (blk off:Nat) (d:Array α):Keep [blk] w (Sort.putRow enc w blk off d):=by
 refine ⟨rfl,rfl,rfl,by simp [Sort.putRow,mapBlock],fun k _ hk => ?_⟩
 simp only [List.mem_singleton] at hk
 simp only [Sort.putRow,mapBlock,Array.getElem?_modify]
 rw [if_neg (Ne.symm hk)]
theorem putRow_row {α:Type} [Inhabited α] (enc:α→Value) {w:World} {blk:Nat} {d d':Array α} {rest:List Value} (h:Mx.Row w blk (d.toList.map enc++rest)) (hs:d'.size=d.size):Mx.Row (Sort.putRow enc w blk 0 d') blk (d'.toList.map enc++rest):=by
 obtain ⟨e,he⟩:=h
 refine ⟨e,?_⟩
 simp only [Sort.putRow,mapBlock,Array.getElem?_modify,if_true,he,Option.map_some,onCells]
 congr 2
 apply Array.ext_getElem?
 intro k
 simp only [putCells,Array.getElem?_mapIdx,List.getElem?_toArray,List.getElem?_append,List.length_map,Array.length_toList,hs]
 by_cases hk:k<d.size
 ·have hk':k<d'.size:=by omega
  simp only [hk,if_true,List.getElem?_map,Array.getElem?_toList,Array.getElem?_eq_getElem hk,Array.getElem?_eq_getElem hk',Option.map_some]
  rw [if_pos ⟨Nat.zero_le _,by omega⟩]
  simp [getElem!_pos,hk']
 ·simp only [hk,if_false]
  cases rest[k - d.size]? with
  | none=>rfl
  | some v=>simp only [Option.map_some];rw [if_neg (by omega)]
theorem sort_ok (hn:Named P) (L:LaysGg.n6 P ρ) (t e:TypeId) (i ie:TypeInfo) (hi:P.info? t=some i) (hd:i.desc = .slice e) (hpk:P.packed t=false) (hie:P.info? e=some ie) (ke:Nat) (hke:∀ w,(Extern.Rtype.kind e).run P w = .ok ke w)
  (hs1:ie.size=1) (hagg:∀ w,(isAgg e).run P w = .ok false w) {I:J} {g:FuncId} (hg:fnP P g 3=some (p_each1 I)) (eg:∀ args w,(callFunc g args).run P w = .ok (.enter g args) w)
  (k f f0 f1 : Nat) (hk : ∀ n, 2 ≤ n → Lib.swapperK n ie ke = k) (hf : P.funcs.findIdx? (·.name == "internal/reflectlite" ++ ".Swapper$" ++ toString k) = some f)
  (hf0 : P.funcs.findIdx? (·.name == "internal/reflectlite" ++ ".Swapper$" ++ toString (Lib.swapperK 0 ie ke)) = some f0) (hf1 : P.funcs.findIdx? (·.name == "internal/reflectlite" ++ ".Swapper$" ++ toString (Lib.swapperK 1 ie ke)) = some f1)
  (gS:Bool) (hx:∀ args W,(callFunc f args).run P W=((Extern.ReflectliteSwapper.swap gS args).run P W).andThen fun v w' => .ok (.value v) w'):SortOk P (ρ.f 6) g t:=by
 intro w blk b8 c keys rest K hrow hc h8 hne hk32 hlen hK
 have hblk:=hrow.lt
 have h8lt:=h8.lt
 by_cases h2:2≤keys.length
 ·let d:Array Int:=(keys.map fun k:Nat=>(k:Int)).toArray
  have hdsz:d.size=keys.length:=by simp [d]
  have hdm:d.toList.map (Value.int .u32)=keys.map ku:=by simp [d,ku]
  have hrow':Mx.Row w blk (d.toList.map (Value.int .u32)++rest):=by rw [hdm];exact hrow
  have hH:Holds (Value.int .u32) w blk 0 d:=by
   intro j hj
   rw [Nat.zero_add]
   refine ⟨hrow'.cell ?_,?_⟩
   ·rw [List.getElem?_append_left (by simpa using hj)]
    simp [hj,getElem!_pos]
   ·obtain ⟨ee,he⟩:=hrow'
    simp [World.frozen?,he]
  have hless:LessReads P g #[ptr b8] (Value.int .u32) ltInt blk 0 d.size w:=by
   intro m os dk hs i j hi hj
   generalize hW:sortWorld (Value.int .u32) w blk 0 m dk os=W
   have hWe:W=Sort.putRow (Value.int .u32) (grow (Sort.ahead w m) os) blk 0 dk:=by
    rw [← hW];unfold sortWorld;rw [putRow_grow _ (Sort.ahead w m) _ blk 0 _ hblk]
   have hHg:Holds (Value.int .u32) (grow (Sort.ahead w m) os) blk 0 d:=holds_grow _ _ _ blk 0 d hblk (holds_ahead _ _ _ _ _ _ hH)
   have c8:W.cell? ⟨b8,0,none⟩=some (.slice (some ⟨blk,0,none⟩) keys.length c):=by
    rw [hWe,cell?_putRow_other _ _ blk 0 dk _ (Or.inl (Ne.symm hne)),cell?_grow _ _ _ (by exact h8lt)]
    exact h8.cell rfl
   have cb:∀ q,q<d.size→W.cell? ⟨blk,q,none⟩=some (.int .u32 dk[q]!):=fun q hq=>by
    have:=cell?_putRow (Value.int .u32) (grow (Sort.ahead w m) os) blk 0 d dk hHg hs q (by omega)
    rw [Nat.zero_add] at this
    rw [hWe];exact this
   have main:In.wp P (.call g) [.int .i64 i,.int .i64 j,ptr b8] W fun v w'=>v = .bool (ltInt dk[i]! dk[j]!)∧w'={ W with drawn:=W.drawn+1 }:=by
    refine calls_of_np hn (vs:=[.int .i64 i,.int .i64 j,ptr b8]) hg fun η hη => ?_
    have h0:η 0 = .int .i64 i:=hη 0 (by simp)
    have h1:η 1 = .int .i64 j:=hη 1 (by simp)
    have h2':η 2=ptr b8:=hη 2 (by simp)
    unfold p_each1
    show NP.wp P (.look .load [.s 2] 3 _) _ η { W with drawn:=W.drawn+1 }
    have c8':World.cell? { W with drawn:=W.drawn+1 } ⟨b8,0,none⟩=some (.slice (some ⟨blk,0,none⟩) keys.length c):=c8
    have cb':∀ q,q<d.size→World.cell? { W with drawn:=W.drawn+1 } ⟨blk,q,none⟩=some (.int .u32 dk[q]!):=cb
    refine np_look (vs:=[ptr b8]) (by simp [SV.val,h2']) ⟨_,_,rfl,c8',rfl,?_⟩
    refine np_look (vs:=[.slice (some ⟨blk,0,none⟩) keys.length c,.int .i64 i]) (by simp [SV.val,upd,h0]) ⟨_,_,c,.i64,i,rfl,by omega,rfl,?_⟩
    refine ⟨⟨_,by simp only [upd];rfl⟩,?_⟩
    refine np_look (vs:=[.pointer (some ⟨blk,i,none⟩)]) (by simp [SV.val,upd,addr_at]) ⟨_,_,rfl,cb' i hi,rfl,?_⟩
    refine np_look (vs:=[ptr b8]) (by simp [SV.val,upd,h2']) ⟨_,_,rfl,c8',rfl,?_⟩
    refine np_look (vs:=[.slice (some ⟨blk,0,none⟩) keys.length c,.int .i64 j]) (by simp [SV.val,upd,h1]) ⟨_,_,c,.i64,j,rfl,by omega,rfl,?_⟩
    refine ⟨⟨_,by simp only [upd];rfl⟩,?_⟩
    refine np_look (vs:=[.pointer (some ⟨blk,j,none⟩)]) (by simp [SV.val,upd,addr_at]) ⟨_,_,rfl,cb' j hj,rfl,?_⟩
    refine np_look (vs:=[.int .u32 dk[i]!,.int .u32 dk[j]!]) (by simp [SV.val,upd]) ⟨.u32,dk[i]!,dk[j]!,_,rfl,rfl,rfl,?_⟩
    show _∧_
    exact ⟨by simp [pack,SV.val,upd,ltInt],rfl⟩
   refine Calls.mono main fun ev w' hev => ?_
   match ev,hev with
   | .returned v,hev=>exact ⟨by rw [hev.1],1,hev.2⟩
  have hS:=Any.sort_Slice_sorted L t e i ie hi hd hpk hie ke hke hs1 hagg (Value.int .u32) (fun _=>rfl) ltInt swo_ltInt g #[ptr b8] eg blk 0 c d (by omega) (by omega) f (by rw [hk _ (by omega)];exact hf) gS hx w hless hH hblk
  rw [hdsz] at hS
  show Calls P _ _ w _
  refine Calls.mono hS ?_
  rintro ev w' ⟨rfl,d',n,os,hp,hso,rfl⟩
  obtain ⟨hsz,_,hperm⟩:=hp
  have ex1:d'.extract 0 keys.length=d':=by rw [← hdsz,← hsz];exact Array.extract_size
  have ex2:d.extract 0 keys.length=d:=by rw [← hdsz];exact Array.extract_size
  rw [ex1,ex2] at hperm
  have hkd:d.toList=keys.map fun k:Nat=>(k:Int):=by simp [d]
  have hnat:∀ x∈d'.toList,∃ q:Nat,x=(q:Int):=fun x hx=>by
   have:=hperm.mem_iff.1 hx
   rw [hkd,List.mem_map] at this
   obtain ⟨q,_,hq⟩:=this
   exact ⟨q,hq.symm⟩
  have hmap:(d'.toList.map Int.toNat).map ku=d'.toList.map (Value.int .u32):=by
   rw [List.map_map]
   refine List.map_congr_left fun x hx => ?_
   obtain ⟨q,rfl⟩:=hnat x hx
   simp [ku]
  refine hK (d'.toList.map Int.toNat) _ ?_ ?_ ?_ ?_
  ·have:=hperm.map Int.toNat
   rw [hkd,List.map_map] at this
   have e:(Int.toNat ∘ fun k:Nat=>(k:Int))=id:=by funext q;simp
   rw [e,List.map_id] at this
   exact this
  ·rw [List.pairwise_iff_getElem]
   intro a b ha hb hab
   simp only [List.length_map,Array.length_toList] at ha hb
   have:=hso a b (Nat.zero_le _) hab (by omega)
   simp only [ltInt,decide_eq_false_iff_not] at this
   rw [getElem!_pos d' a (by omega),getElem!_pos d' b (by omega)] at this
   simp only [List.getElem_map,Array.getElem_toList]
   omega
  ·rw [hmap]
   have r1:Mx.Row (Sort.ahead w n) blk (d.toList.map (Value.int .u32)++rest):=hrow'.keep (ahead_keep [] w n) (by simp)
   exact (putRow_row _ r1 hsz).keep (grow_keep [] _ os) (by simp)
  ·exact ((ahead_keep [blk] w n).then (putRow_keep _ _ blk 0 d')).then (grow_keep [blk] _ os)
 ·have h1:keys.length≤1:=by omega
  have hff : ∃ f', P.funcs.findIdx? (·.name == "internal/reflectlite" ++ ".Swapper$" ++ toString (Lib.swapperK keys.length ie ke)) = some f' := by
   rcases Nat.eq_zero_or_pos keys.length with h | h
   ·rw [h];exact ⟨f0,hf0⟩
   ·rw [show keys.length=1 by omega];exact ⟨f1,hf1⟩
  obtain ⟨f',hf'⟩:=hff
  have hS:=Any.sort_Slice_tiny L t e i ie hi hd hpk hie ke hke (some ⟨blk,0,none⟩) keys.length c h1 f' hf' (.func g) #[] #[ptr b8] w
  show Calls P _ _ w _
  refine Calls.mono hS ?_
  rintro ev w' ⟨rfl,os,rfl⟩
  refine hK keys _ (List.Perm.refl _) ?_ (hrow.keep (grow_keep [] w os) (by simp)) (grow_keep [blk] w os)
  match keys,h1 with
  | [],_=>simp
  | [x],_=>simp
  | x::y::r,h1=>simp at h1
end
end Go.Mr
namespace Go.Mr
open Go.Lx Go.Nx Go.Km Go.Mx Go.Kb
open Go.CX (T deep)
set_option linter.unusedSimpArgs false
set_option linter.unusedVariables false
def fld (c:Bool) (o:Nat) (s:Sh) (r:Fs):Fs:=if c then .cons o s r else r
def endT (c:Bool) (o:Nat):Fs:=if c then .tags o else .nil
def AllP {β:Type} (R:Nat→β→Prop):List (Nat×β)→Prop
 | []=>True
 | x::r=>R x.1 x.2∧AllP R r
def look {β:Type} (l:List (Nat×β)) (f:Nat):Option β:=match l with
 | []=>none
 | x::r=>if x.1=f then some x.2 else look r f
theorem look_ok {β:Type} {R:Nat→β→Prop}:∀ {l:List (Nat×β)},AllP R l→∀ f p,look l f=some p→R f p:=by
 intro l
 induction l with
 | nil=>intro _ f p h;cases h
 | cons x r ih=>
  intro h f p hf
  simp only [look] at hf
  split at hf
  ·rename_i he
   cases hf
   subst he
   exact h.1
  ·exact ih h.2 f p hf
section
variable (P:Program)
def defC (f:FuncId):Option (List (Nat×Value)):=match fnP P f 1 with
 | some ⟨p,[]⟩=>defP p
 | _=>none
def rdC (T:Tab) (fr:FuncId) (c:NP→Bool):Bool:=match fnP P fr 3 with
 | some ⟨p,[.direct]⟩=>c p
 | _=>false
def wrC (fa:FuncId) (c:NP→Bool):Bool:=match fnP P fa 2 with
 | some ⟨p,[.direct]⟩=>c p
 | _=>false
def msgR (T:Tab) (fr:FuncId) (z:List Value) (m:Nat) (fs:Nat→Fs):Bool:=rdC P T fr fun p=>(List.range (m+1)).all fun v=>topR T (fs v) 1 (z.set 0 (.int .i16 (v:Int))) false p
def msgW (W:WTab) (fa:FuncId) (z:List Value) (m:Nat) (fs:Nat→Fs):Bool:=wrC P fa fun p=>(List.range (m+1)).all fun v=>topW W (fs v) (knownC 1 (z.set 0 (.int .i16 (v:Int)))) p
end
section
variable {P:Program} {g:Nat} {e:TypeId}
theorem defC_ok (hn:Named P) {f:FuncId} {ds:List (Nat×Value)} (h:defC P f=some ds):DefOk P f ds:=by
 unfold defC at h
 split at h
 ·rename_i p hp
  exact def_ok hn hp h
 ·cases h
theorem rdC_ok {T:Tab} {fr:FuncId} {c:NP→Bool} (h:rdC P T fr c=true):∃ p,fnP P fr 3=some ⟨p,[.direct]⟩∧c p=true:=by
 unfold rdC at h
 split at h
 ·rename_i p hp
  exact ⟨p,hp,h⟩
 ·cases h
theorem wrC_ok {fa:FuncId} {c:NP→Bool} (h:wrC P fa c=true):∃ p,fnP P fa 2=some ⟨p,[.direct]⟩∧c p=true:=by
 unfold wrC at h
 split at h
 ·rename_i p hp
  exact ⟨p,hp,h⟩
 ·cases h
end
end Go.Mr

