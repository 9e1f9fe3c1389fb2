import Derived.Test.YtfgihnhoocnmdaaGreatDoorK21
import Derived.Test.YtfgihnhoocnmdaaGreatDoorK11
import Derived.Test.YtfgihnhoocnmdaaGreatDoorK17
import Derived.Test.YtfgihnhoocnmdaaGreatDoorK12
import Derived.Test.YtfgihnhoocnmdaaGreatDoorK20
import Derived.Test.YtfgihnhoocnmdaaGreatDoorK16
import Derived.Test.YtfgihnhoocnmdaaGreatDoorK18
namespace Go.Proofs.YtfgihnhoocnmdaaGreatDoor
set_option linter.all false
set_option maxHeartbeats 9000000
section
open Go.RowKit
set_option maxRecDepth 100000
def hk(l:List HdC):List AV:=(l.map HdC.h).map a6X
def hv(l:List HdC):List AV:=l.map hdK
abbrev mpH(l:List HdC):AV:=.mp (hk l) (hv l) (List.range l.length) l.length
abbrev b3M(c m:Nat)(l:List HdC):List (Nat × List AV):=[(c,[.mapv m]),(m,[mpH l])]
theorem look_none{l:List HdC}{a:Int}(h:stH l a=none):a0S [.i] true (.agg [.int .i64 a]) (hk l)=some none:=by
 refine findM_no [.i] true a6X a9Y a _ fun hm=>?_
 obtain ⟨x,hx,e⟩:=List.mem_map.1 hm
 exact stH_none h x hx e
theorem look_some{l:List HdC}{a:Int}{x:HdC}(h:stH l a=some x):∃ i,i<l.length∧a0S [.i] true (.agg [.int .i64 a]) (hk l)=some (some i)∧(hv l).getD i .undef=.agg x.cs∧l[i]?=some x:=by
 induction l with
 | nil=>simp[stH]at h
 | cons y l ih=>
  have e:=findM_map [.i] true a6X a9Y a ((y::l).map HdC.h)
  by_cases hy:y.h=a
  ·simp[stH,hy]at h
   subst h
   refine ⟨0,by simp, ?_,rfl,rfl⟩
   show a0S _ _ (a6X a) _=_
   rw[hk,e,List.map_cons,List.idxOf?_cons,hy];simp
  ·simp only[stH,List.find?_cons,hy,decide_false]at h
   obtain ⟨i,h1,h2,h3,h4⟩:=ih h
   refine ⟨i+1,by simpa using h1, ?_,by simpa[hv]using h3,by simpa using h4⟩
   have e2:=findM_map [.i] true a6X a9Y a (l.map HdC.h)
   have h2':a0S [.i] true (a6X a) ((l.map HdC.h).map a6X)=some (some i):=h2
   rw[e2]at h2'
   show a0S _ _ (a6X a) _=_
   rw[hk,e,List.map_cons,List.idxOf?_cons]
   have:(y.h==a)=false:=by simp[hy]
   rw[this]
   simp only[Option.some.injEq]at h2'
   simp[h2']
theorem sxClk{A B:Prop}(h:B)(e:A=B:=by (simp (disch:=omega) only[*, ↓Ed,Eu, ↓reduceIte,reduceCtorEq,Nat.reduceAdd,Nat.reduceEqDiff,Nat.reduceLT,Nat.reduceLeDiff,Int.reduceToNat,Int.reduceEq,Int.reduceLT,Int.reduceLE,w64,List.length_append,List.length_map,Nat.mul_one,beq_self_eq_true,HdC.cs,gdH,a0F,a0M,a0J,a3O,a1Q,a0E,a5n,a5u,Int.reduceAdd,a5q,a5t,Option.isSome_some,Option.isSome_none];first|done|rfl)):A:=e▸h
theorem c1V:CT Tryz.prog 25 [] (lk []) (c2k [] [mpH []]):=by
 refine a9f _ _ _ (by simp) ?_
 simp only[a6D];refine sxClk ?_
 repeat' ((first|exact tt|refine na fun b=>?_|refine nb fun b hb=>?_|refine iq ?_|(refine jq ?_ ?_<;>intro h h')|refine Two_intro ?_ ?_|exact wZ|fail)<;>try refine sxClk ?_)
 rename_i m
 exact ro_new2 (o2:=[]) b m (by simp[LeL,lk,hb,a1a,arR,hk,hv]) (by simp[hb]) rfl rfl (fun _ _ h=>by simp[lk]at h)
theorem b5F(c m:Nat)(h1:¬ c=m)(h2:¬ m=c)(l:List HdC)(a:Int):CT Tryz.prog 82 [.ptr c 0,.int .i64 a] (lk (b3M c m l)) (fun r o=>r=.tup [.agg ((stH l a).getD default).cs,.bool (stH l a).isSome]∧o=lk (b3M c m l)):=by
 refine a2S _ _ _ (by simp) ?_
 cases hs:stH l a with
 | none=>
  have hf:=look_none hs
  clear hs
  simp only[a0R];refine sxClk ?_
  repeat' ((first|exact tt|refine na fun b=>?_|refine nb fun b hb=>?_|refine iq ?_|(refine jq ?_ ?_<;>intro h h')|refine Two_intro ?_ ?_|exact wZ|fail)<;>try refine sxClk ?_)
  rename_i B HB
  exact ro_mk (by simp[LeL,lk,h1,h2,hb,HB,r_two,rl_cons,rl_nil,arR,view,l_all,a0J,a0M,al_agg,al_bool]) dom2
 | some x=>
  obtain ⟨i,hi,hf,hg,_⟩:=look_some hs
  clear hs
  simp only[a0R];refine sxClk ?_
  repeat' ((first|exact tt|refine na fun b=>?_|refine nb fun b hb=>?_|refine iq ?_|(refine jq ?_ ?_<;>intro h h')|refine Two_intro ?_ ?_|exact wZ|fail)<;>try refine sxClk ?_)
  rename_i B HB
  exact ro_mk (by simp[LeL,lk,h1,h2,hb,HB,r_two,rl_cons,rl_nil,arR,view,l_all,a0J,a0M,al_agg,al_bool]) dom2
theorem mayH_t{x:HdC}(h:b4L x=true):1≤x.h∧x.h≤1099511627776∧0≤x.t∧x.t≤1099511627776:=of_decide_eq_true h
theorem mayH_f{x:HdC}(h:b4L x=false):¬ (1≤x.h∧x.h≤1099511627776∧0≤x.t∧x.t≤1099511627776):=of_decide_eq_false h
set_option maxHeartbeats 4000000 in
theorem c1i(c m:Nat)(h1:¬ c=m)(h2:¬ m=c)(l told:List HdC)(h:HdC)(gt:AV)(hgt:gt.alias=.sl none 34 (hds told))(hlt:told.length≤1000):
  CT Tryz.prog 81 [.ptr c 0,.agg h.cs,gt] (lk (b3M c m l)) (fun r o=>r=.int .i64 (b0X l h told)∧o=lk (b3M c m l)):=by
 have hS:=b5F c m h1 h2 l h.h
 have hA:=c0N h told (.sl none 34 (hds told)) rfl hlt
 refine a2R _ _ _ (by simp) ?_
 cases hm:b4L h with
 | false=>
  have hc:b0X l h told=1:=by simp[b0X,hm]
  rw[hc]
  have F:a0d (¬ (1≤h.h∧h.h≤1099511627776∧0≤h.t∧h.t≤1099511627776)):=mayH_f hm
  clear hm hc
  simp only[a0o];refine sxClk ?_
  repeat' ((first|exact tt|refine c2 (hS) ?_|refine CallO_pure (hA) ?_|refine na fun b=>?_|refine nb fun b hb=>?_|refine iq ?_|(refine jq ?_ ?_<;>intro h h')|refine Two_intro ?_ ?_|exact wZ|fail)<;>try refine sxClk ?_)
  all_goals (first|(exfalso;simp only[a0d,Hn]at *;omega)|exact ro_mk (by simp[LeL,lk,h1,h2,a1a,arR]) dom2)
 | true=>
 obtain ⟨q1,q2,q3,q4⟩:=mayH_t hm
 have f1:a0d (decide (h.h<1)=false):=fo
 have f2:a0d (decide (1099511627776<h.h)=false):=fo
 have f3:a0d (decide (h.t<0)=false):=fo
 have f4:a0d (decide (1099511627776<h.t)=false):=fo
 by_cases hin:h∈told
 rotate_left
 ·have hc:b0X l h told=9:=by simp[b0X,hm,hin]
  rw[hc]
  rw[decide_eq_false hin]at hA
  clear hm hc hin
  simp only[a0o];refine sxClk ?_
  repeat' ((first|exact tt|refine c2 (hS) ?_|refine CallO_pure (hA) ?_|refine na fun b=>?_|refine nb fun b hb=>?_|refine iq ?_|(refine jq ?_ ?_<;>intro h h')|refine Two_intro ?_ ?_|exact wZ|fail)<;>try refine sxClk ?_)
  all_goals exact ro_mk (by simp[LeL,lk,h1,h2,a1a,arR]) dom2
 rw[decide_eq_true hin]at hA
 cases hs:stH l h.h with
 | none=>
  have hc:b0X l h told=0:=by simp[b0X,hm,hin,hs]
  rw[hc]
  rw[hs]at hS
  clear hm hc hin hs
  simp only[a0o];refine sxClk ?_
  repeat' ((first|exact tt|refine c2 (hS) ?_|refine CallO_pure (hA) ?_|refine na fun b=>?_|refine nb fun b hb=>?_|refine iq ?_|(refine jq ?_ ?_<;>intro h h')|refine Two_intro ?_ ?_|exact wZ|fail)<;>try refine sxClk ?_)
  all_goals exact ro_mk (by simp[LeL,lk,h1,h2,a1a,arR]) dom2
 | some x=>
  have hc:b0X l h told=if x=h then 0 else 8:=by simp[b0X,hm,hin,hs]
  rw[hs]at hS
  cases hxx:decide (x=h) with
  | true=>
   rw[if_pos (of_decide_eq_true hxx)]at hc
   rw[hc]
   clear hm hc hin hs
   simp only[a0o];refine sxClk ?_
   repeat' ((first|exact tt|refine c2 (hS) ?_|refine CallO_pure (hA) ?_|refine na fun b=>?_|refine nb fun b hb=>?_|refine iq ?_|(refine jq ?_ ?_<;>intro h h')|refine Two_intro ?_ ?_|exact wZ|fail)<;>try refine sxClk ?_)
   all_goals exact ro_mk (by simp[LeL,lk,h1,h2,a1a,arR]) dom2
  | false=>
   rw[if_neg (of_decide_eq_false hxx)]at hc
   rw[hc]
   clear hm hc hin hs
   simp only[a0o];refine sxClk ?_
   repeat' ((first|exact tt|refine c2 (hS) ?_|refine CallO_pure (hA) ?_|refine na fun b=>?_|refine nb fun b hb=>?_|refine iq ?_|(refine jq ?_ ?_<;>intro h h')|refine Two_intro ?_ ?_|exact wZ|fail)<;>try refine sxClk ?_)
   all_goals exact ro_mk (by simp[LeL,lk,h1,h2,a1a,arR]) dom2
theorem chk_known{l:List HdC}{h x:HdC}{told:List HdC}(hc:b0X l h told=0)(hs:stH l h.h=some x):x=h:=by
 unfold b0X at hc
 split at hc
 ·cases hc
 ·split at hc
  ·cases hc
  ·rw[hs]at hc
   simp only at hc
   split at hc
   ·assumption
   ·cases hc
def upC(l:List HdC)(h:HdC)(told:List HdC):List HdC × Bool × Int:=if b0X l h told=0 then (if (stH l h.h).isSome then (l,false,0) else (l++[h],true,0)) else (l,false,b0X l h told)
theorem hv_set{l:List HdC}{i:Nat}{x:HdC}(h:l[i]?=some x):(hv l).set i (.agg x.cs)=hv l:=by
 apply List.ext_getElem?
 intro j
 rw[List.getElem?_set]
 split
 ·rename_i e;subst e
  obtain ⟨hi,hx⟩:=List.getElem?_eq_some_iff.1 h
  simp[hv,hi,hx,hdK]
 ·rfl
set_option maxHeartbeats 4000000 in
theorem b3H(c m:Nat)(h1:¬ c=m)(h2:¬ m=c)(l told:List HdC)(h:HdC)(gt:AV)(hgt:gt.alias=.sl none 34 (hds told))(hlt:told.length≤1000)(hl:l.length≤1000):
  CT Tryz.prog 34 [.ptr c 0,.agg h.cs,gt] (lk (b3M c m l)) (fun r o=>r=.tup [.bool (upC l h told).2.1,.int .i64 (upC l h told).2.2]∧o=lk (b3M c m (upC l h told).1)):=by
 have hS:=b5F c m h1 h2 l h.h
 have hC:=c1i c m h1 h2 l told h (.sl none 34 (hds told)) rfl hlt
 refine a2J _ _ _ (by simp) ?_
 by_cases hc:b0X l h told=0
 rotate_left
 ·have hu:upC l h told=(l,false,b0X l h told):=by simp[upC,hc]
  rw[hu]
  have f1:a0d (decide (b0X l h told=0)=false):=decide_eq_false hc
  clear hc hu
  simp only[a0z];refine sxClk ?_
  repeat' ((first|exact tt|refine c2 (hC) ?_|refine na fun b=>?_|refine nb fun b hb=>?_|refine iq ?_|(refine jq ?_ ?_<;>intro h h')|refine Two_intro ?_ ?_|exact wZ|fail)<;>try refine sxClk ?_)
  all_goals exact ro_mk (by simp[LeL,lk,h1,h2,r_two,rl_cons,rl_nil,arR,al_int,al_bool]) dom2
 rw[hc]at hC
 cases hs:stH l h.h with
 | none=>
  have hu:upC l h told=(l++[h],true,0):=by simp[upC,hc,hs]
  rw[hu]
  rw[hs]at hS
  have hf:=look_none hs
  clear hc hu hs
  simp only[a0z];refine sxClk ?_
  repeat' ((first|exact tt|refine c2 (hC) ?_|refine c2 (hS) ?_|refine na fun b=>?_|refine nb fun b hb=>?_|refine iq ?_|(refine jq ?_ ?_<;>intro h h')|refine Two_intro ?_ ?_|exact wZ|fail)<;>try refine sxClk ?_)
  all_goals exact ro_mk (by simp[LeL,lk,h1,h2,r_two,rl_cons,rl_nil,arR,al_int,al_bool,mpH,hk,hv,a6X,hdK,List.range_succ]) dom2
 | some x=>
  have hu:upC l h told=(l,false,0):=by simp[upC,hc,hs]
  rw[hu]
  have hx:=chk_known hc hs
  subst hx
  rw[hs]at hS
  obtain ⟨i,hi,hf,hg,h3⟩:=look_some hs
  have hset:=hv_set h3
  clear hc hu hs h3
  simp only[a0z];refine sxClk ?_
  repeat' ((first|exact tt|refine c2 (hC) ?_|refine c2 (hS) ?_|refine na fun b=>?_|refine nb fun b hb=>?_|refine iq ?_|(refine jq ?_ ?_<;>intro h h')|refine Two_intro ?_ ?_|exact wZ|fail)<;>try refine sxClk ?_)
  all_goals (simp only[HdC.cs]at hset)
  all_goals exact ro_mk (by simp[LeL,lk,h1,h2,r_two,rl_cons,rl_nil,arR,al_int,al_bool,mpH,hset]) dom2
end
section
open Go.RowKit Go.ChangeMaps Go.Sort Go.Shelf
abbrev HdB:={ x:HdC // 0≤x.h∧x.h≤1099511627776 }
instance:Inhabited HdB:=⟨⟨default,by decide⟩⟩
def clH(x:HdB):List Value:=.int .i64 x.1.h :: .int .i64 x.1.t::x.1.r.map (Value.int .u8 ·)
theorem a5W(x:HdB):(clH x).length=34:=by simp[clH,x.1.n]
theorem b1V(x:HdB):∀ u∈clH x,u.oneCell'=true:=by
 intro u hu
 simp only[clH,List.mem_cons,List.mem_map]at hu
 rcases hu with rfl|rfl | ⟨b,_,rfl⟩<;>rfl
def cfH(x y:HdB):Int:=x.1.h - y.1.h
theorem c2f(x y:HdB):ltOf cfH x y=decide (x.1.h<y.1.h):=by
 unfold ltOf cfH
 by_cases h:x.1.h<y.1.h
 ·rw[decide_eq_true h,decide_eq_true (by omega)]
 ·rw[decide_eq_false h,decide_eq_false (by omega)]
theorem c2N:SWO (ltOf cfH) where
 irrefl x:=by rw[c2f];simp
 trans x y z h1 h2:=by
  rw[c2f]at h1 h2 ⊢
  have:=of_decide_eq_true h1;have:=of_decide_eq_true h2
  exact decide_eq_true (by omega)
 ntrans x y z h1 h2:=by
  rw[c2f]at h1 h2 ⊢
  have:=of_decide_eq_false h1;have:=of_decide_eq_false h2
  exact decide_eq_false (by omega)
set_option maxHeartbeats 1000000 in
theorem c2a(x y:HdB)(W:World):Calls Tryz.prog 132 #[.agg (clH x).toArray,.agg (clH y).toArray] W fun e w'=>e=.returned (.int .i64 (cfH x y))∧∃ q os',w'=grow (W.drewN q) os':=by
 obtain ⟨⟨hx,tx,rx,nx⟩,b1,b2⟩:=x
 obtain ⟨⟨hy,ty,ry,ny⟩,c1,c2⟩:=y
 simp only at b1 b2 c1 c2
 have hw:IntKind.i64.wrap (hx - hy)=hx - hy:=w64 (by omega)
 simp only[clH,cfH]
 generalize rx.map (Value.int .u8 ·)=px
 generalize ry.map (Value.int .u8 ·)=py
 go_enter Tryz.func132,Tryz.ntmps132
 go_wp2
 go_ret
 exact ⟨rfl,0,_,by rw[alloc_eq_grow,alloc_eq_grow,grow_grow];rfl⟩
theorem b4a(blk off size:Nat)(w:World):CmpLays Tryz.prog 132 #[] clH 34 cfH blk off size w:=fun _ _ _ _ x y=>c2a x y _
set_option maxHeartbeats 4000000 in
theorem b5R(bx b:Nat)(es:Array MapEntry)(clk:Nat)(l:List HdB)(w:World)(tb:TypeId)(hbx:w.heap[bx]?=some (.cells #[.map (some b)] tb (0,0)))(hb:w.heap[b]?=some (.map es clk))
  (hval:es.toList.map (·.val)=l.map fun x=>.agg (clH x).toArray) (hborn:∀ x∈es.toList,x.born<clk) (hnd:(es.toList.map (·.born)).Nodup) (hl:l.length≤1000000):
  Calls Tryz.prog 130 #[.func (.func 181) #[] #[.pointer (some ⟨bx,0,none⟩)],.func (.func 132) #[] #[]] w fun e W'=>
   ∃ (v:Value) (ds:List HdB),e=.returned v∧ds.Perm l∧(∀ i j,i<j→j<ds.length→(ds.getD i default).1.h≤(ds.getD j default).1.h)∧W'.ownsRow w.heap.size 31 34 v ds.length (ds.flatMap clH)∧Below w.heap.size w W':=by
 have hcol:Calls Tryz.prog 179 #[.func (.func 181) #[] #[.pointer (some ⟨bx,0,none⟩)]] w fun e W'=>
   ∃ (v:Value) (xs:List HdB),e=.returned v∧xs.Perm l∧W'.ownsRow w.heap.size 31 34 v xs.length (xs.flatMap clH)∧Below w.heap.size w W':=by
  have ha:=callsIn_wide.1 (va_app clH a5W b1V Fence.wide 10 trivial trivial rfl (by omega) bx b es clk l w tb hbx hb hval hborn hnd hl)
  go_enter Tryz.func179,Tryz.ntmps179
  go_wp2_with (go_at_call 215;refine ha.mono ?_;rintro e W' ⟨v,xs,rfl,hp,hrow,hbl⟩)
  go_ret
  exact ⟨v,xs,rfl,hp,hrow,hbl⟩
 go_enter Tryz.func130,Tryz.ntmps130
 go_wp2_with (go_at_call 179;refine hcol.mono ?_;rintro e W' ⟨v,xs,rfl,hp,hrow,hbl⟩)
 rcases hrow.2 with ⟨rfl,hz⟩ | ⟨g,cap,cur,rfl,hbase,hgb,r1,r2,r3,r4⟩
 ·have hss:xs=[]:=List.eq_nil_of_length_eq_zero hz
  subst hss
  refine (AnyF.slices_SortFunc_none Tryz.sort180 none 0 _ W').mono ?_
  rintro e W2 ⟨rfl,rfl⟩
  go_wp2
  go_ret
  exact ⟨.slice none 0 0,[],rfl,hp,by simp,by simpa using hrow,hbl⟩
 ·have hH:=holdsK_of_block a5W (by omega) hgb r4
  have hgl:g<W'.heap.size:=(Array.getElem?_eq_some_iff.1 hgb).1
  have hsz:xs.toArray.size<4611686018427387904:=by
   have:=hp.length_eq
   simp;omega
  have cS:=AnyQ.slices_SortFunc Tryz.sort180 34 Tryz.isAgg31 Tryz.sizeOf31 clH a5W b1V cfH c2N 132 #[] g 0 cap xs.toArray W' (enters_of Tryz.func132 (by kernel_rfl) rfl) (b4a _ _ _ _) hH hgl hsz
  refine (show Calls Tryz.prog 180 #[.slice (some ⟨g,0,none⟩) xs.length cap,_] W' _ from cS).mono ?_
  rintro e W2 ⟨rfl,d',nn,os,hperm,hsorted,rfl⟩
  have hpd:d'.toList.Perm xs:=perm_of hperm
  have hown:=ownsRow_sortK (n:=nn) (os:=os) a5W (by omega) (hpd.length_eq) hbase hgb r1 r2 r3
  have hgr:=grown_sortK (cl:=clH) (k:=34) (w:=W') (g:=g) (n:=nn) (os:=os) d'
  simp only[Array.toArray_toList]at hown
  go_wp2
  go_ret
  refine ⟨_,d'.toList,rfl,hpd.trans hp,fun i j hij hj=>?_, ?_,hbl.grown hgr hbl.size (fun k e=>by cases e;exact hbase)⟩
  ·have hj':j<xs.toArray.size:=by rw[List.size_toArray, ← hpd.length_eq];exact hj
   have:=hsorted i j (Nat.zero_le _) hij hj'
   rw[c2f]at this
   have:=of_decide_eq_false this
   have hds:d'.size=d'.toList.length:=by simp
   have e1:d'[i]! = d'.toList.getD i default:=by simp[List.getD,getElem!_pos,show i<d'.size by omega]
   have e2:d'[j]! = d'.toList.getD j default:=by simp[List.getD,getElem!_pos,show j<d'.size by omega]
   rw[← e1, ← e2];omega
  ·rw[hpd.length_eq];exact hown
end
section
open Go.RowKit Go.ChangeMaps Go.Sort Go.Shelf
set_option maxRecDepth 100000
theorem VR.int_inv2{W:World}{U:Nat→Nat→Prop}{v:Value}{k:IntKind}{n:Int}(h:VR W U v (.int k n)):v=.int k n:=by cases h;rfl
theorem VR.hd_inv{W:World}{U:Nat→Nat→Prop}{v:Value}{x:HdB}(h:VR W U v (.agg x.1.cs)):v=.agg (clH x).toArray:=by
 cases h with
 | agg vs cs hl h h1=>
  have hlen:vs.length=34:=by rw[hl];simp[a0M]
  have:vs=clH x:=by
   apply List.ext_getElem?
   intro i
   by_cases hi:i<vs.length
   ·obtain ⟨u,hu⟩:∃ u,vs[i]?=some u:=⟨_,List.getElem?_eq_getElem hi⟩
    rw[hu]
    symm
    match i with
    | 0=>rw[(h 0 u _ hu rfl).int_inv2];rfl
    | 1=>rw[(h 1 u _ hu rfl).int_inv2];rfl
    | i+2=>
     have hr:i<x.1.r.length:=by rw[x.1.n];omega
     have e:x.1.cs[i+2]?=some (.int .u8 (x.1.r[i])):=by simp[HdC.rt,hr]
     rw[(h (i+2) u _ hu e).int_inv2]
     simp[clH,hr]
   ·rw[List.getElem?_eq_none (by omega),List.getElem?_eq_none (by rw[a5W];omega)]
  rw[this]
theorem b6o(x:HdB)(j:Nat)(c:AV)(u:Value)(hc:x.1.cs[j]?=some c)(hu:(clH x)[j]?=some u)(W:World)(U:Nat→Nat→Prop):VR W U u c:=by
 match j with
 | 0=>simp[clH]at hc hu;subst hc;subst hu;exact .int _ _
 | 1=>simp[clH]at hc hu;subst hc;subst hu;exact .int _ _
 | j+2=>
  simp only[clH,HdC.rt,List.getElem?_cons_succ,List.getElem?_map,Option.map_eq_some_iff]at hc hu
  obtain ⟨a,ha,rfl⟩:=hc
  obtain ⟨b,hb,rfl⟩:=hu
  rw[ha]at hb
  cases hb
  exact .int _ _
theorem b9g:∀ (l:List HdC),(∀ x∈l,0≤x.h∧x.h≤1099511627776)→∃ m:List HdB,m.map (·.1)=l
 | [],_=>⟨[],rfl⟩
 | x::l,h=>by
  obtain ⟨m,hm⟩:=b9g l fun y hy=>h y (by simp[hy])
  exact ⟨⟨x,h x (by simp)⟩::m,by simp[hm]⟩
theorem b8n(m:Nat):CT Tryz.prog 131 [.mapv m] (lk []) (fun r o=>∃ b,r=.clo 181 [.ptr b 0]∧o=lk [(b,[.mapv m])]):=by
 refine CT_lays (R:=fun b=>.clo _ [.ptr b 0]) fun W U vs hl hv=>?_
 obtain rfl:vs=[.map (some m)]:=by
  match vs,hl with
  | [v],_=>rw[(hv 0 v _ rfl rfl).map_inv]
 go_enter Tryz.func131,Tryz.ntmps131
 go_wp2
 go_ret
 refine ⟨_,_,_,rfl,rfl,rfl,fun u hu=>(by cases hu),fun j u hj=>?_,fun W2 U2 hc=>?_,by simp⟩
 ·match j with
  | 0=>
   simp at hj;subst hj
   exact ⟨rfl,fun x hx=>by simp at hx;subst hx;exact ⟨.mapv m,by simp⟩⟩
  | j+1=>simp at hj
 ·refine .clo _ [_] [_] rfl fun i v c h1 h2=>?_
  match i with
  | 0=>simp at h1 h2;subst h1;subst h2;exact .ptr _ _ hc
  | i+1=>simp at h1
theorem b8l(bx m:Nat)(h1:¬ bx=m)(l:List HdC)(hb:∀ x∈l,0≤x.h∧x.h≤1099511627776)(ha:Apart l)(hl:l.length≤1000):
  CT Tryz.prog 130 [.clo 181 [.ptr bx 0],.fn 132] (lk [(bx,[.mapv m]),(m,[mpH l])])
   (fun r o=>r=.sl (some 31) 34 (hds (srt l))∧o=lk [(bx,[.mapv m]),(m,[mpH l])]):=by
 refine CT_reads fun W U vs hG hlen hv ho=>?_
 obtain rfl:vs=[.func (.func 181) #[] #[.pointer (some ⟨bx,0,none⟩)],.func (.func 132) #[] #[]]:=by
  match vs,hlen with
  | [v,u],_=>rw[(hv 0 v _ rfl rfl).clo1_inv,(hv 1 u _ rfl rfl).fn_inv]
 obtain ⟨us,ty,q1,q2,q3⟩:ObC W U bx [.mapv m]:=ho bx _ (lk_hd _ _ _)
 obtain ⟨es,g1,g2,g3,g4,g5,g6,g7⟩:ObR W U m [mpH l]:=ho m _ (lk_tl (fun e=>h1 e.symm) (lk_hd _ _ _))
 have hus:us = #[.map (some m)]:=by
  have h0:=(q3 0 _ rfl).1.map_inv
  match us,q2 with
  | ⟨[a]⟩,_=>simp at h0;subst h0;rfl
 subst hus
 obtain ⟨lB,rfl⟩:=b9g l hb
 have hsz:es.size=lB.length:=by rw[g2];simp[hk]
 have hborn:∀ (i:Nat) (e:MapEntry),es[i]?=some e→e.born=i:=by
  intro i e he
  have hi:i<es.size:=(Array.getElem?_eq_some_iff.1 he).1
  exact (g7 i e he).2.2 i (by rw[List.getElem?_range (by simp;omega)])
 have hval:es.toList.map (·.val)=lB.map fun x=>.agg (clH x).toArray:=by
  apply List.ext_getElem?
  intro i
  by_cases hi:i<es.size
  ·have hil:i<lB.length:=by omega
   have he:es[i]?=some es[i]:=Array.getElem?_eq_getElem hi
   have hx:=(g7 i _ he).2.1 (.agg (lB[i]).1.cs) (by show ((lB.map (·.1)).map hdK)[i]?=_;rw[List.getElem?_map,List.getElem?_map,List.getElem?_eq_getElem hil];rfl)
   simp only[List.getElem?_map,Array.getElem?_toList,he,Option.map_some,List.getElem?_eq_getElem hil]
   rw[VR.hd_inv hx]
  ·rw[List.getElem?_eq_none (by simp;omega),List.getElem?_eq_none (by simp;omega)]
 have hb1:∀ x∈es.toList,x.born<(lB.map (·.1)).length:=by
  intro x hx
  obtain ⟨i,hi,rfl⟩:=List.getElem_of_mem hx
  simp at hi
  have:=hborn i es[i] (Array.getElem?_eq_getElem hi)
  simp[this];omega
 have hnd:(es.toList.map (·.born)).Nodup:=by
  have:es.toList.map (·.born)=List.range es.size:=by
   apply List.ext_getElem
   ·simp
   ·intro i h2 h3
    simp at h2
    simp[hborn i es[i] (Array.getElem?_eq_getElem h2)]
  rw[this];exact List.nodup_range
 refine (b5R bx m es _ lB W _ q1 g1 hval hb1 hnd (by simp at hl;omega)).mono ?_
 rintro e W' ⟨v,ds,rfl,hp,hs,hrow,hbl⟩
 have hDS:srt (lB.map (·.1))=ds.map (·.1):=by
  refine a5Q (b2O ha) ?_ ((a7r _).trans (hp.map _).symm)
  refine List.pairwise_iff_getElem.2 fun i j hi hj hij=>?_
  have hi':i<ds.length:=by simpa using hi
  have hj':j<ds.length:=by simpa using hj
  have h2:=hs i j hij hj'
  have hA:Apart (ds.map (·.1)):=by
   refine List.Pairwise.imp_of_mem ?_ (List.Pairwise.perm ha (hp.map _).symm ?_)
   ·intro a b _ _ h;exact h
   ·intro a b h e;exact h e.symm
  have h3:=(List.pairwise_iff_getElem.1 hA) i j hi hj hij
  simp[List.getD,hi',hj']at h2 h3 ⊢
  omega
 rw[hDS]
 obtain ⟨U',r1,r2,r3⟩:=row_VR (U:=U) (e:=31) (k:=34) (els:=hds (ds.map (·.1))) (by omega) hbl hrow (by simp[hds]) (fun l hl=>by
   simp only[hds,List.mem_map]at hl
   obtain ⟨a,_,rfl⟩:=hl
   simp[a0M]) (fun u hu=>by
   obtain ⟨x,_,hx⟩:=List.mem_flatMap.1 hu
   exact b1V x u hx) (fun i j l' c u hl' hc hu W2 U2=>by
   simp only[hds,List.getElem?_map,Option.map_eq_some_iff]at hl'
   obtain ⟨a,⟨x,hx,rfl⟩,rfl⟩:=hl'
   have hj:j<34:=by
    have:=(List.getElem?_eq_some_iff.1 hc).1
    simpa[a0M]using this
   have hi:i<ds.length:=(List.getElem?_eq_some_iff.1 hx).1
   rw[a7N a5W ds i j hi hj,hx]at hu
   exact b6o x j c u hc hu W2 U2)
 exact ⟨v,U',rfl,r1,fun e sz els he=>by cases he;exact r2,r3⟩
theorem sxSvc{A B:Prop}(h:B)(e:A=B:=by (simp (disch:=omega) only[*, ↓Ed,Eu, ↓reduceIte,reduceCtorEq,Nat.reduceAdd,Nat.reduceEqDiff,Nat.reduceLT,Nat.reduceLeDiff,Int.reduceToNat,Int.reduceEq,Int.reduceLT,Int.reduceLE,w64,List.length_append,List.length_map,Nat.mul_one,beq_self_eq_true,HdC.cs,gdH,a0F];first|done|rfl)):A:=e▸h
theorem b8m(c m:Nat)(h1:¬ c=m)(h2:¬ m=c)(l:List HdC)(hB:∀ x∈l,0≤x.h∧x.h≤1099511627776)(ha:Apart l)(hl:l.length≤1000):
  CT Tryz.prog 65 [.ptr c 0] (lk (b3M c m l)) (fun r o=>r=.sl (some 31) 34 (hds (srt l))∧o=lk (b3M c m l)):=by
 have hS:=fun bx (h:¬ bx=m)=>b8l bx m h l hB ha hl
 clear hB ha
 refine a2I _ _ _ (by simp) ?_
 simp only[a1r];refine sxSvc ?_
 repeat' ((first|exact tt|refine CallO_newR (R:=fun b=>.clo _ [.ptr b 0]) (b8n m) ?_|refine na fun b=>?_|refine nb fun b hb=>?_|refine iq ?_|(refine jq ?_ ?_<;>intro h h')|refine Two_intro ?_ ?_|exact wZ|fail)<;>try refine sxSvc ?_)
 have hb':(¬b=c∧¬c=b)∧¬b=m∧¬m=b:=by simpa using hb
 refine CallO_det (hS b hb'.2.1) (lk_sub2 (lk_hd _ _ _) (lk_tl hb'.2.2 (lk_tl h2 (lk_hd _ _ _)))) ?_
 refine sxSvc ?_
 repeat' ((first|exact tt|refine na fun b=>?_|refine nb fun b hb=>?_|refine iq ?_|(refine jq ?_ ?_<;>intro h h')|refine Two_intro ?_ ?_|exact wZ|fail)<;>try refine sxSvc ?_)
 exact ro_mk (by simp[LeL,lk,h1,h2,hb',a1a,arR]) dom2
end
section
structure Good (K:List HdC) (n:Nat):Prop where
 ap:Apart K
 bd:∀ x∈K,1≤x.h∧x.h≤1099511627776
 ln:K.length≤n
theorem Good.bd0{K:List HdC}{n:Nat}(h:Good K n):∀ x∈K,0≤x.h∧x.h≤1099511627776:=fun x hx=>by have:=h.bd x hx;omega
theorem Good.mono{K:List HdC}{n m:Nat}(h:Good K n)(hm:n≤m):Good K m:=⟨h.ap,h.bd,Nat.le_trans h.ln hm⟩
end
section
open Go.RowKit Go.Lib
set_option maxRecDepth 100000
noncomputable def knF (r:List Int) (hr:r.length=32) (tm:Int) (l:List Int):Nat→List HdC
 | 0=>[]
 | i+1=>if b4L ⟨l.getD i 0,tm,r,hr⟩=true∧stH (knF r hr tm l i) (l.getD i 0)=none then b1Y ⟨l.getD i 0,tm,r,hr⟩ (knF r hr tm l i) else knF r hr tm l i
structure KnI (K:List HdC) (n:Nat):Prop where
 asc:Asc K
 may:∀ x∈K,b4L x=true
 len:K.length≤n
theorem c2j(r:List Int)(hr:r.length=32)(tm:Int)(l:List Int):∀ i,KnI (knF r hr tm l i) i
 | 0=>⟨List.Pairwise.nil,by simp[knF],by simp[knF]⟩
 | i+1=>by
  have ih:=c2j r hr tm l i
  unfold knF
  split
  ·rename_i h
   have hp:=a3G ⟨l.getD i 0,tm,r,hr⟩ (knF r hr tm l i)
   refine ⟨insH_asc ih.asc (stH_none h.2),fun x hx=>?_, ?_⟩
   ·rcases List.mem_cons.1 (hp.mem_iff.1 hx) with rfl|hx
    ·exact h.1
    ·exact ih.may x hx
   ·rw[hp.length_eq];simp;exact ih.len
  ·exact ⟨ih.asc,ih.may,by have:=ih.len;omega⟩
theorem up_own{K:List HdC}{n:Nat}(h:KnI K n){i:Nat}(hi:i<K.length):upC (K.take i) (K.getD i default) K=(K.take (i+1),true,0):=by
 have e:K.getD i default=K[i]:=by simp[List.getD,hi]
 have hs:stH (K.take i) (K[i]).h=none:=by
  cases hq:stH (K.take i) (K[i]).h with
  | none=>rfl
  | some x=>
   obtain ⟨h1,h2⟩:=stH_some hq
   obtain ⟨j,hj,rfl⟩:=List.getElem_of_mem h1
   rw[List.length_take]at hj
   rw[List.getElem_take]at h2
   have:=List.pairwise_iff_getElem.1 h.asc j i (by omega) hi (by omega)
   omega
 have hc:b0X (K.take i) K[i] K=0:=by
  unfold b0X
  rw[h.may _ (List.getElem_mem hi),hs]
  simp
 unfold upC
 rw[e,if_pos hc,hs,List.take_succ,List.getElem?_eq_getElem hi]
 simp
theorem kn_srt{K:List HdC}{n:Nat}(h:KnI K n):srt K=K:=a5Q (b2O h.asc.apart) h.asc (a7r K)
theorem kn_good{K:List HdC}{n:Nat}(h:KnI K n):Good K n:=⟨h.asc.apart,fun x hx=>by have:=mayH_t (h.may x hx);omega,h.len⟩
end
section
open Go.RowKit Go.Lib
set_option maxRecDepth 100000
theorem c0E(l:List Int):(ntR l).length=l.length:=by simp
theorem c0D(l:List Int)(i:Nat)(h:i<l.length):(ntR l).getD i []=[.int .i64 (l.getD i 0)]:=by simp[h]
def knO(K:List HdC):Option Nat:=if K=[] then some 31 else none
theorem c0A:knO []=some 31:=rfl
theorem c0z(x:HdC)(K:List HdC):knO (b1Y x K)=none:=by
 unfold knO
 rw[if_neg]
 intro h
 have:=(a3G x K).length_eq
 rw[h]at this;simp at this
theorem b7Y(L:List PrP):hcs (b2J L)=((b2J L).map fun b=>(b.toNat:Int)).map (AV.int .u8 ·):=by
 rw[List.map_map];rfl
theorem nil_B:StB [] 0:=⟨⟨List.Pairwise.nil,fun q hq=>by simp at hq,by simp⟩,by simp⟩
theorem may_sz{k v:List UInt8}(h:a0Z k v=true):k.length≤160∧v.length≤64:=by
 simp only[a0Z,decide_eq_true_eq]at h;omega
theorem B_sz{L:List PrP}{n:Nat}(h:StB L n)(i:Nat)(hi:i<L.length):(L.getD i default).1.length≤160∧(L.getD i default).2.length≤64:=by
 have:=may_sz (h.I.may _ (List.getElem_mem hi))
 simpa[List.getD,hi]using this
theorem sxHse{A B:Prop}(h:B)(e:A=B:=by (simp (disch:=omega) only[*, ↓Ed,Eu, ↓reduceIte,reduceCtorEq,Nat.reduceAdd,Nat.reduceEqDiff,Nat.reduceLT,Nat.reduceLeDiff,Int.reduceToNat,Int.reduceEq,Int.reduceLT,Int.reduceLE,w64,List.length_append,List.length_map,Nat.mul_one,GvC.cs,a0w,HdC.cs,gdH,a0F,a0M,a0J,a3O,a1Q,a0E,a5q,a5t,Int.reduceAdd,c0E,c0D];first|done|rfl)):A:=e▸h
set_option maxHeartbeats 4000000 in
theorem b5d(x:GvC)(hx:a5v x)(r:List Int)(hr:r.length=32)(hrr:r=(b2J (a5N [] x.o x.o.length)).map fun b=>(b.toNat:Int)):CP Tryz.prog 41 [.agg x.cs] (.sl (knO (knF r hr x.a x.n x.n.length)) 34 (hds (knF r hr x.a x.n x.n.length))):=by
 obtain ⟨-, -, -,⟨o1,o2⟩,n1, -⟩:=hx
 obtain ⟨e,k,m,o,n,a,ht,tm⟩:=x
 simp only at o1 o2 n1 hrr ⊢
 have hml:=b1Z [] o o.length
 have hRi:=c1M o (fun i hi=>⟨by have:=(o2 i hi).1;omega,by have:=(o2 i hi).2;omega⟩) (by omega)
 have hRo:=b7c (a5N [] o o.length) (by simp only[List.length_nil]at hml;omega) (fun i hi=>by have:=B_sz (mor_B nil_B o (i:=o.length) (by omega)) i hi;omega)
 obtain ⟨x0,h0⟩:∃ x0:HdC,x0=⟨0,a,r,hr⟩:=⟨_,rfl⟩
 have hc:∀ h:Int,(⟨h,a,r,hr⟩:HdC).cs=.int .i64 h :: .int .i64 a::x0.rt:=fun h=>by subst h0;rfl
 rw[b7Y, ← hrr,show r.map (AV.int .u8 ·)=x0.rt by subst h0;rfl]at hRo
 have hkl:=fun i=>(c2j r hr a n i).len
 have hnx:∀ i,knF r hr a n (i+1)=if b4L ⟨n.getD i 0,a,r,hr⟩=true∧stH (knF r hr a n i) (n.getD i 0)=none then b1Y ⟨n.getD i 0,a,r,hr⟩ (knF r hr a n i) else knF r hr a n i:=fun _=>rfl
 have hz:knF r hr a n 0=[]:=rfl
 clear o1 o2 hml h0 hrr
 generalize a5N [] o o.length=ro at *
 refine a4O _ _ (by simp) ?_
 simp only[a2p];refine sxHse ?_
 repeat' ((first|exact tt|refine CallO_pure (hRi) ?_|refine CallO_pure (hRo) ?_|refine na fun b=>?_|refine nb fun b hb=>?_|refine iq ?_|(refine jq ?_ ?_<;>intro h h')|refine Two_intro ?_ ?_|exact wZ|fail)<;>try refine sxHse ?_)
 rename_i b1
 refine wpx_loop (fun i:Nat=>⟨lk [(1,.ptr b1 0),(3,.sl (knO (knF r hr a n i)) 34 (hds (knF r hr a n i))),(4,.ptr b 0),(5,.int .i64 (i:Int))],lk [(b1,[.sl none 6 (gns e),.sl none 8 (pks k),.sl none 2 (prR m),.sl none 2 (prR o),.sl none 1 (ntR n),.int .i64 a,.int .i64 ht,.int .i64 tm]),(b,x0.rt)]⟩) (fun i=>i≤n.length) (fun i=>n.length - i) 0 (by omega) (Le_lit (by simp[LeL,lk,hz,c0A,hds,hb])) ?_
 intro i hi
 have hki:=hkl i
 by_cases hil:i<n.length
 ·have f1:a0d (decide ((i:Int)<n.length)=true):=fo
  replace hnx:=hnx i
  obtain ⟨h,hgd⟩:∃ h,n.getD i 0=h:=⟨_,rfl⟩
  rw[hgd]at hnx
  generalize hK1:knF r hr a n (i+1)=K' at *
  generalize hK2:knF r hr a n i=K at *
  have hM:=b2E ⟨h,a,r,hr⟩
  have hK:=b4O K (.sl none 34 (hds K)) rfl (by omega) h
  have hU:=b5o K (.sl none 34 (hds K)) rfl (by omega) ⟨h,a,r,hr⟩
  have hc':=hc h
  rw[hc']at hM hU
  clear hkl hz hc hc' hRi hRo hK2
  unfold c2g at hU
  simp only at hU
  obtain ⟨y,hy⟩:∃ y,(stH K h).getD default=y:=⟨_,rfl⟩
  rw[hy]at hK
  by_cases hm:b4L ⟨h,a,r,hr⟩=true
  ·rw[hm]at hM
   cases hs:stH K h with
   | none=>
    rw[hs]at hK hU
    rw[if_pos ⟨hm,hs⟩]at hnx
    have ho:knO K'=none:=by rw[hnx];exact c0z _ _
    rw[if_neg (by simp), ← hnx]at hU
    simp only[Option.isSome_none]at hK
    clear hnx hm hs hy
    generalize knO K=oo at *
    refine sxHse ?_
    repeat' ((first|exact tt|refine CallO_pure (hM) ?_|refine CallO_pure (hK) ?_|refine CallO_pure (hU) ?_|refine na fun b=>?_|refine nb fun b hb=>?_|refine iq ?_|(refine jq ?_ ?_<;>intro h h')|refine Two_intro ?_ ?_|exact wZ|fail)<;>try refine sxHse ?_)
    all_goals exact Round_lit (i+1) ⟨Le_lit (by simp[LeL,lk,ho,hK1, *]),hil,by omega⟩
   | some z=>
    rw[hs]at hK
    rw[if_neg (fun e=>by rw[hs]at e;exact absurd e.2 (by simp))]at hnx
    simp only[Option.isSome_some]at hK
    clear hU hm hs hy
    subst hnx
    generalize hoo:knO K'=oo at *
    refine sxHse ?_
    repeat' ((first|exact tt|refine CallO_pure (hM) ?_|refine CallO_pure (hK) ?_|refine na fun b=>?_|refine nb fun b hb=>?_|refine iq ?_|(refine jq ?_ ?_<;>intro h h')|refine Two_intro ?_ ?_|exact wZ|fail)<;>try refine sxHse ?_)
    all_goals exact Round_lit (i+1) ⟨Le_lit (by simp[LeL,lk,hK1,hoo, *]),hil,by omega⟩
  ·rw[if_neg (fun e=>hm e.1)]at hnx
   rw[show b4L ⟨h,a,r,hr⟩=false by simpa using hm]at hM
   clear hU hm hy
   subst hnx
   generalize hoo:knO K'=oo at *
   generalize (stH K' h).isSome=bb at *
   refine sxHse ?_
   repeat' ((first|exact tt|refine CallO_pure (hM) ?_|refine CallO_pure (hK) ?_|refine na fun b=>?_|refine nb fun b hb=>?_|refine iq ?_|(refine jq ?_ ?_<;>intro h h')|refine Two_intro ?_ ?_|exact wZ|fail)<;>try refine sxHse ?_)
   all_goals exact Round_lit (i+1) ⟨Le_lit (by simp[LeL,lk,hK1,hoo, *]),hil,by omega⟩
 ·obtain rfl:i=n.length:=by omega
  have f1:a0d (decide ((n.length:Int)<n.length)=false):=fo
  clear hkl hz hc hRi hRo hnx hki
  generalize knF r hr a n n.length=K at *
  generalize knO K=oo at *
  cases oo
  all_goals (refine sxHse ?_;try exact tt)
  all_goals repeat' ((first|exact tt|refine na fun b=>?_|refine nb fun b hb=>?_|refine iq ?_|(refine jq ?_ ?_<;>intro h h')|refine Two_intro ?_ ?_|exact wZ|fail)<;>try refine sxHse ?_)
end
section
open Go.RowKit Go.Lib
set_option maxRecDepth 100000
def b2z(x:GnC):Es:=⟨x.q,x.d,x.o,false,0⟩
noncomputable def b1U (L:List PrP) (x:GnC):List PrP:=a2f L (ofP 7 x.p x.c 0) (a4H (b2z x)).1
noncomputable def a3x (L:List PrP) (x:GnC):Nat→List PrP
 | 0=>L
 | m+1=>a2f (a3x L x m) (ofP ((4+m:Nat):Int) x.p x.c 0) (pn x.n)
noncomputable def c2e (L:List PrP) (x:GnC):List PrP:=a3x (b1U L x) x 3
noncomputable def a1P (l:List GnC):Nat→List PrP
 | 0=>[]
 | i+1=>c2e (a1P l i) (l.getD i default)
theorem a9W(L:List PrP)(x:GnC):∀ m,(a3x L x m).length≤L.length+m
 | 0=>Nat.le_refl _
 | m+1=>by
  have:=a9W L x m
  have:=a3m (a3x L x m) (ofP ((4+m:Nat):Int) x.p x.c 0) (pn x.n)
  simp only[a3x];omega
theorem b2W(l:List GnC):∀ i,(a1P l i).length≤4 * i
 | 0=>Nat.le_refl _
 | i+1=>by
  have h1:=b2W l i
  have h2:=a3m (a1P l i) (ofP 7 (l.getD i default).p (l.getD i default).c 0) (a4H (b2z (l.getD i default))).1
  have h3:=a9W (b1U (a1P l i) (l.getD i default)) (l.getD i default) 3
  simp only[a1P,c2e]
  simp only[b1U]at h3 ⊢
  omega
def c0y(i:Nat):Option Nat:=if i=0 then none else some 102
theorem sxInm{A B:Prop}(h:B)(e:A=B:=by (simp (disch:=omega) only[*, ↓Ed,Eu, ↓reduceIte,reduceCtorEq,Nat.reduceAdd,Nat.reduceEqDiff,Nat.reduceLT,Nat.reduceLeDiff,Int.reduceToNat,Int.reduceEq,Int.reduceLT,Int.reduceLE,w64,a1B,a1A,GnC.cs];first|done|rfl)):A:=e▸h
set_option maxHeartbeats 8000000 in
theorem c0U(l:List GnC)(hl:b1x l)(hb:l.length≤20):CP Tryz.prog 36 [.sl none 2 [],.sl none 6 (gns l)] (.sl (c0y l.length) 2 (prR (a1P l l.length))):=by
 have hln:=b2W l
 refine a6Z _ _ (by simp) ?_
 simp only[a3A];refine sxInm ?_
 repeat' ((first|exact tt|refine na fun b=>?_|refine nb fun b hb=>?_|refine iq ?_|(refine jq ?_ ?_<;>intro h h')|refine Two_intro ?_ ?_|exact wZ|fail)<;>try refine sxInm ?_)
 refine wpx_loop (fun i:Nat=>⟨lk [(0,.sl (c0y i) 2 (prR (a1P l i))),(1,.sl none 6 (gns l)),(5,.int .i64 (i:Int))],lk []⟩) (fun i=>i≤l.length) (fun i=>l.length - i) 0 (by omega) (Le_lit (by simp[LeL,lk,c0y,a1P,prR])) ?_
 intro i i1
 have hll:=hln i
 by_cases hil:i<l.length
 ·have f1:a0d (decide ((i:Int)<l.length)=true):=fo
  have hli:=hl i hil
  have hs1:a1P l (i+1)=c2e (a1P l i) (l.getD i default):=rfl
  have ho:c0y (i+1)=some 102:=rfl
  clear hln hl
  obtain ⟨⟨p,c,q,d,o,n⟩,hgd⟩:∃ a,l.getD i default=a:=⟨_,rfl⟩
  rw[hgd]at hli hs1
  obtain ⟨l1,l2⟩:=hli
  simp only at l1 l2
  have hP:=b2F (a1P l i) (by omega) p c (by omega) ⟨q,d,o,false,0⟩ (by simp only;omega)
  have hA:b1U (a1P l i) ⟨p,c,q,d,o,n⟩=a2f (a1P l i) (ofP 7 p c 0) (a4H ⟨q,d,o,false,0⟩).1:=rfl
  rw[← hA]at hP
  unfold c2e at hs1
  have hal:=a3m (a1P l i) (ofP 7 p c 0) (a4H ⟨q,d,o,false,0⟩).1
  rw[← hA]at hal
  clear hA
  generalize hL3:a1P l (i+1)=L3 at *
  generalize c0y i=ow at *
  generalize a1P l i=L0 at *
  generalize b1U L0 ⟨p,c,q,d,o,n⟩=L1 at *
  refine sxInm ?_
  repeat' ((first|exact tt|refine CallW_intro (hP) ?_|refine CallO_pure (hP) ?_|refine na fun b=>?_|refine nb fun b hb=>?_|refine iq ?_|(refine jq ?_ ?_<;>intro h h')|refine Two_intro ?_ ?_|exact wZ|fail)<;>try refine sxInm ?_)
  clear hP
  obtain ⟨x,hx⟩:∃ x:GnC,x=⟨p,c,q,d,o,n⟩:=⟨_,rfl⟩
  rw[← hx]at hs1
  have hxp:x.p=p∧x.c=c∧x.n=n:=by rw[hx];exact ⟨rfl,rfl,rfl⟩
  clear hx
  refine wpx_loop (fun m:Nat=>⟨lk [(0,.sl (some 102) 2 (prR (a3x L1 x m))),(1,.sl none 6 (gns l)),(5,.int .i64 (i:Int)),(6,.int .i64 ((4+m:Nat):Int))],lk []⟩) (fun m=>m≤3) (fun m=>3 - m) 0 (by omega) (Le_lit (by simp[LeL,lk,a3x])) ?_
  intro m hm
  by_cases hm3:m<3
  ·have f2:a0d (decide (((4+m:Nat):Int)≤6)=true):=fo
   have hB:=a9W L1 x m
   have hS:a3x L1 x (m+1)=a2f (a3x L1 x m) (ofP ((4+m:Nat):Int) x.p x.c 0) (pn x.n):=rfl
   have hN:=a9E (a3x L1 x m) (by omega) ((4+m:Nat):Int) p c (by omega) n
   rw[hxp.1,hxp.2.1,hxp.2.2]at hS
   rw[← hS]at hN
   clear hS hxp hs1
   generalize hL4:a3x L1 x (m+1)=L4 at *
   generalize a3x L1 x m=L5 at *
   generalize hk:4+m=kk at *
   refine sxInm ?_
   repeat' ((first|exact tt|refine CallW_intro (hN) ?_|refine CallO_pure (hN) ?_|refine na fun b=>?_|refine nb fun b hb=>?_|refine iq ?_|(refine jq ?_ ?_<;>intro h h')|refine Two_intro ?_ ?_|exact wZ|fail)<;>try refine sxInm ?_)
   all_goals exact Round_lit (m+1) ⟨Le_lit (by simp[LeL,lk,hL4, ← Nat.add_assoc,hk]),hm3,by omega⟩
  ·obtain rfl:m=3:=by omega
   have f2:a0d (decide (((4+3:Nat):Int)≤6)=false):=fo
   rw[← hs1]
   clear hs1 hxp
   refine sxInm ?_
   repeat' ((first|exact tt|refine na fun b=>?_|refine nb fun b hb=>?_|refine iq ?_|(refine jq ?_ ?_<;>intro h h')|refine Two_intro ?_ ?_|exact wZ|fail)<;>try refine sxInm ?_)
   all_goals exact Round_lit (i+1) ⟨Le_lit (by simp[LeL,lk,ho,hL3]),hil,by omega⟩
 ·obtain rfl:i=l.length:=by omega
  have f1:a0d (decide ((l.length:Int)<l.length)=false):=fo
  clear hln
  generalize a1P l l.length=L at *
  unfold c0y
  split
  all_goals
   refine sxInm ?_
   repeat' ((first|exact tt|refine na fun b=>?_|refine nb fun b hb=>?_|refine iq ?_|(refine jq ?_ ?_<;>intro h h')|refine Two_intro ?_ ?_|exact wZ|fail)<;>try refine sxInm ?_)
end
section
open Go.RowKit
set_option maxRecDepth 100000
theorem b4q(n k:Nat)(h:k≤8):(eiC n k).length=8:=by
 simp only[eiC,List.length_map,List.length_append,List.length_replicate,List.length_drop,a1h];omega
theorem b4r(n k:Nat)(hn:n≤72057594037927935)(h:k<8):IntKind.wrap .u8 ((IntKind.wrap .u64 (n:Int)).fdiv (2 ^ (min (8 * (k:Int)).toNat (IntKind.bits .u64))))=((n / 256 ^ k % 256:Nat):Int):=by
 have e1:IntKind.wrap .u64 (n:Int)=(n:Int):=by rw[IntKind.wrap_u64];omega
 have e2:min (8 * (k:Int)).toNat (IntKind.bits .u64)=8 * k:=by
  show min _ 64=_
  omega
 rw[e1,e2]
 have e4:((2:Int) ^ (8 * k))=((256 ^ k:Nat):Int):=by
  rw[show (256:Nat)=2 ^ 8 from rfl, ← Nat.pow_mul];simp
 rw[e4,Int.fdiv_eq_ediv_of_nonneg _ (Int.natCast_nonneg _), ← Int.natCast_ediv]
 generalize n / 256 ^ k=q
 show ((q:Int) % 256)=_
 omega
theorem sxTrb{A B:Prop}(h:B)(e:A=B:=by (simp (disch:=omega) only[*, ↓Ed,Eu, ↓reduceIte,reduceCtorEq,Nat.reduceAdd,Nat.reduceEqDiff,Nat.reduceLT,Nat.reduceLeDiff,Int.reduceToNat,Int.reduceEq,Int.reduceLT,Int.reduceLE,w64,List.length_append,List.length_map,List.length_cons,List.length_nil,Int.reduceAdd,Nat.zero_add,Nat.mul_one,Int.toNat_natCast,b4q];first|done|rfl)):A:=e▸h
theorem b0h(n:Nat)(h:n≤72057594037927935):CP Tryz.prog 174 [.int .i64 (n:Int)] (.str (eight n)):=by
 have hM:=b6q (n:Int)
 rw[decide_eq_true (by omega)]at hM
 refine a8K _ _ (by simp) ?_
 simp only[a6c];refine sxTrb ?_
 repeat' ((first|exact tt|refine CallO_pure (hM) ?_|refine na fun b=>?_|refine nb fun b hb=>?_|refine iq ?_|(refine jq ?_ ?_<;>intro h h')|refine Two_intro ?_ ?_|exact wZ|fail)<;>try refine sxTrb ?_)
 refine wpx_loop (fun k:Nat=>⟨lk [(0,.int .i64 (n:Int)),(3,.ptr b 0),(8,.int .i64 (k:Int))],lk [(b,eiC n k)]⟩) (fun k=>k≤8) (fun k=>8 - k) 0 (by omega) (Le_lit (by simp[LeL,lk,eiC,byC,eight,List.replicate])) ?_
 intro k hk
 by_cases hk8:k<8
 rotate_left
 ·obtain rfl:k=8:=by omega
  have f1:a0d (decide (((8:Nat):Int)<8)=false):=by simp[a0d]
  refine sxTrb ?_
  repeat' ((first|exact tt|refine BytesO_intro (eight n) rfl rfl ?_|refine na fun b=>?_|refine nb fun b hb=>?_|refine iq ?_|(refine jq ?_ ?_<;>intro h h')|refine Two_intro ?_ ?_|exact wZ|fail)<;>try refine sxTrb ?_)
 have f1:a0d (decide ((k:Int)<8)=true):=fo
 have e1:=b4r n k h hk8
 have e3:=b1k n k hk8
 have e5:(7 - (k:Int)).toNat * 1=7 - k:=by omega
 have e6:(7 - (k:Int)).toNat=7 - k:=by omega
 refine sxTrb ?_
 repeat' ((first|exact tt|refine na fun b=>?_|refine nb fun b hb=>?_|refine iq ?_|(refine jq ?_ ?_<;>intro h h')|refine Two_intro ?_ ?_|exact wZ|fail)<;>try refine sxTrb ?_)
 all_goals exact Round_lit (k+1) ⟨Le_lit (by simp[LeL,lk]),by omega,by omega⟩
theorem b4H(p:PktC):a4h ([eight p.th.toNat,eight p.ta.toNat,a4h p.x].flatten)=a1E p:=by unfold a1E;simp
theorem b5f(p:PktC)(h1:p.s.length≤1000000)(h2:p.d.length≤1000000)(h3:p.x.length≤1000000)(hm:a6h p=true):CP Tryz.prog 124 [.agg p.cs] (.agg (hcs (a1E p))):=by
 have hp:=mayK_parts hm
 have hM:=b3l p h1 h2 h3
 rw[hm]at hM
 have hA:=b0h p.th.toNat (by omega)
 have hB:=b0h p.ta.toNat (by omega)
 rw[show ((p.th.toNat:Nat):Int)=p.th by omega]at hA
 rw[show ((p.ta.toNat:Nat):Int)=p.ta by omega]at hB
 have hS:=b3R (.sl none 1 [[.str p.x]]) [p.x] rfl (by simp) (by simp;omega)
 rw[show [p.x].flatten=p.x by simp]at hS
 have hT:=b1N (a4h p.x) (a0U _)
 have hF:=b3R (.sl none 1 [[.str (eight p.th.toNat)],[.str (eight p.ta.toNat)],[.str (a4h p.x)]]) [eight p.th.toNat,eight p.ta.toNat,a4h p.x] rfl (by simp) (by simp[a1h,a0U])
 rw[b4H]at hF
 clear hp hm
 refine a7d _ _ (by simp) ?_
 generalize eight p.th.toNat=A at *
 generalize eight p.ta.toNat=B at *
 obtain ⟨z1,z2,z3,z4⟩:=hz_rules (a2H p)
 obtain ⟨y1,y2,y3,y4⟩:=hz_rules (a0U p.x)
 generalize hcs (a1E p)=Z at *
 generalize hcs (a4h p.x)=Y at *
 generalize a4h p.x=C at *
 simp only[a3D];refine sxTrb ?_
 repeat' ((first|exact tt|refine CallO_pure (hM) ?_|refine CallO_pure (hA) ?_|refine CallW_intro (hA) ?_|refine CallO_pure (hB) ?_|refine CallW_intro (hB) ?_|refine CallO_pure (hS) ?_|refine CallW_intro (hS) ?_|refine CallO_pure (hT) ?_|refine CallW_intro (hT) ?_|refine CallO_pure (hF) ?_|refine CallW_intro (hF) ?_|refine na fun b=>?_|refine nb fun b hb=>?_|refine iq ?_|(refine jq ?_ ?_<;>intro h h')|refine Two_intro ?_ ?_|exact wZ|fail)<;>try refine sxTrb ?_)
theorem c0S(p:PktC)(h1:p.s.length≤1000000)(h2:p.d.length≤1000000)(h3:p.x.length≤1000000)(hm:a6h p=true):CP Tryz.prog 57 [.agg p.cs] (.str (a1E p)):=by
 have hC:=b5f p h1 h2 h3 hm
 have hT:=b1N (a1E p) (a2H p)
 obtain ⟨z1,z2,z3,z4⟩:=hz_rules (a2H p)
 generalize hcs (a1E p)=Z at *
 refine a8P _ _ (by simp) ?_
 simp only[a5a];refine sxTrb ?_
 repeat' ((first|exact tt|refine CallO_pure (hC) ?_|refine CallO_pure (hT) ?_|refine na fun b=>?_|refine nb fun b hb=>?_|refine iq ?_|(refine jq ?_ ?_<;>intro h h')|refine Two_intro ?_ ?_|exact wZ|fail)<;>try refine sxTrb ?_)
theorem b1J(p:PktC)(h1:p.s.length≤1000000)(h2:p.d.length≤1000000)(h3:p.x.length≤1000000)(hm:a6h p=true):CP Tryz.prog 39 [.agg p.cs] (.str (a1E p)):=by
 have hp:=mayK_parts hm
 have hM:=b0Q p h1 h2 h3
 rw[hm]at hM
 have hA:=b0v p.th.toNat (by omega)
 have hB:=b0v p.ta.toNat (by omega)
 rw[show ((p.th.toNat:Nat):Int)=p.th by omega]at hA
 rw[show ((p.ta.toNat:Nat):Int)=p.ta by omega]at hB
 have hS:=b1K p.x (by omega)
 have hT:=a8C (a4h p.x) (a0U _)
 have hF:=b1K (eight p.th.toNat++eight p.ta.toNat++a4h p.x) (by simp[a1h,a0U])
 rw[show a4h (eight p.th.toNat++eight p.ta.toNat++a4h p.x)=a1E p by unfold a1E;rw[List.append_assoc]]at hF
 have hT2:=a8C (a1E p) (a2H _)
 have l1:=a1h p.th.toNat
 have l2:=a1h p.ta.toNat
 have l3:=a0U p.x
 obtain ⟨z1,z2,z3,z4⟩:=hz_rules (a2H p)
 obtain ⟨y1,y2,y3,y4⟩:=hz_rules (a0U p.x)
 generalize hcs (a1E p)=Z at *
 generalize hcs (a4h p.x)=Y at *
 clear hp hm
 refine a6t _ _ (by simp) ?_
 generalize eight p.th.toNat=A at *
 generalize eight p.ta.toNat=B at *
 generalize a4h p.x=C at *
 simp only[a3a];refine sxTrb ?_
 repeat' ((first|exact tt|refine CallO_pure (hM) ?_|refine CallW_intro (hA) ?_|refine CallW_intro (hB) ?_|refine CallW_intro (hS) ?_|refine CallW_intro (hT) ?_|refine CallW_intro (hF) ?_|refine CallW_intro (hT2) ?_|refine na fun b=>?_|refine nb fun b hb=>?_|refine iq ?_|(refine jq ?_ ?_<;>intro h h')|refine Two_intro ?_ ?_|exact wZ|fail)<;>try refine sxTrb ?_)
end
section
open Go.RowKit Go.Lib
set_option maxRecDepth 100000
noncomputable def b6i (e:List GnC):List PrP:=if b1Q e=0 then a1P e e.length else []
noncomputable def c1o (x:GvC):List PrP:=a5N (a9A (b6i x.e) x.k x.k.length) x.m x.m.length
theorem sxHsf{A B:Prop}(h:B)(e:A=B:=by (simp (disch:=omega) only[*, ↓Ed,Eu, ↓reduceIte,reduceCtorEq,Nat.reduceAdd,Nat.reduceEqDiff,Nat.reduceLT,Nat.reduceLeDiff,Int.reduceToNat,Int.reduceEq,Int.reduceLT,Int.reduceLE,w64,List.length_append,List.length_map,Nat.mul_one,GvC.cs,a0w,a1g,b2H,b2G,PktC.cs,Int.reduceAdd,List.length_cons,List.length_nil,Nat.zero_add];first|done|rfl)):A:=e▸h
set_option maxHeartbeats 4000000 in
theorem c2m(x:GvC)(hx:a5v x)(r:List Int)(hr:r.length=32)(hrr:r=(b2J (a5N [] x.o x.o.length)).map fun b=>(b.toNat:Int))(hI:StB (b6i x.e) 40):CP Tryz.prog 13 [.agg x.cs] (.agg [.sl none 2 (prR (c1o x)),.sl none 34 (hds (knF r hr x.a x.n x.n.length)),.int .i64 x.ht,.int .i64 x.tm,.nils 31 34]):=by
 have hH:=b5d x hx r hr hrr
 obtain ⟨⟨e1,e2⟩,k1,⟨m1,m2⟩, -, -,k2⟩:=hx
 obtain ⟨e,k,m,o,n,a,ht,tm⟩:=x
 simp only at e1 e2 k1 k2 m1 m2 hrr hI hH ⊢
 unfold c1o
 simp only
 generalize knF r hr a n n.length=K at *
 generalize knO K=oK at *
 have hl:b1x e:=fun i hi=>⟨by have:=(e2 i hi).1;omega,by have:=(e2 i hi).2;omega⟩
 have hC:=b2B e hl (by omega)
 have hN:=c0U e hl (by omega)
 clear hl e2 hrr
 have hd:b1Q e=0→b6i e=a1P e e.length:=fun h=>by unfold b6i;rw[if_pos h]
 have hd2:b1Q e≠0→b6i e=[]:=fun h=>by unfold b6i;rw[if_neg h]
 generalize b6i e=D at *
 have kB:=fun i (hi:i≤10)=>kep_B hI k (i:=i) (by omega)
 have mB:=fun i (hi:i≤40)=>mor_B (kB k.length k1) m (i:=i) (by omega)
 refine a7Z _ _ (by simp) ?_
 have k0:a9A D k 0=D:=rfl
 have m0:a5N (a9A D k k.length) m 0=a9A D k k.length:=rfl
 have kn:∀ i,a9A D k (i+1)=if a6h (k.getD i default)=true then a2f (a9A D k i) (ofP 1 (k.getD i default).s (k.getD i default).sc (k.getD i default).q) (a1E (k.getD i default)) else a9A D k i:=fun _=>rfl
 have mn:∀ i,a5N (a9A D k k.length) m (i+1)=a7f (a5N (a9A D k k.length) m i) (m.getD i default).1 (m.getD i default).2:=fun _=>rfl
 generalize hKL:a9A D k k.length=KL at *
 have kb:=fun i hi=>(kB i hi).b
 have mb:=fun i hi=>(mB i hi).b
 clear kB mB hI
 unfold a7f at mn
 by_cases hz:b1Q e=0
 rotate_left
 have hD:=hd2 hz
 have hC0:a0d (decide (b1Q e=0)=false):=by simpa[a0d]using hz
 clear hd hd2 hN hz
 rotate_left
 rw[← hd hz]at hN
 rw[hz]at hC
 generalize c0y e.length=io at *
 clear hd hd2 hz
 rcases io with _|io
 all_goals (simp only[a4p];refine sxHsf ?_;try exact tt)
 all_goals repeat' ((first|exact tt|refine CallO_pure (hC) ?_|refine CallO_pure (hN) ?_|refine na fun b=>?_|refine nb fun b hb=>?_|refine iq ?_|(refine jq ?_ ?_<;>intro h h')|refine Two_intro ?_ ?_|exact wZ|fail)<;>try refine sxHsf ?_)
 all_goals rename_i b1
 all_goals first
 | refine wpx_loop (fun q:Nat × Option Nat=>⟨lk [(1,.ptr b1 0),(2,.ptr b 0),(3,.sl q.2 2 (prR (a9A D k q.1))),(4,.int .i64 (q.1:Int))],lk [(b1,[.sl none 6 (gns e),.sl none 8 (pks k),.sl none 2 (prR m),.sl none 2 (prR o),.sl none 1 (ntR n),.int .i64 a,.int .i64 ht,.int .i64 tm]),(b,[.sl (some 102) 2 [],.sl (some 31) 34 [],.int .i64 0,.int .i64 0,.sl (some 31) 34 []])]⟩) (fun q=>q.1≤k.length) (fun q=>k.length - q.1) (0,none) (by simp) (Le_lit (by first|(simp[LeL,lk,k0,hb];done)|(simp[LeL,lk,k0.trans hD,hb,prR];done)|fail)) ?_
 | refine wpx_loop (fun q:Nat × Option Nat=>⟨lk [(1,.ptr b1 0),(2,.ptr b 0),(3,.sl q.2 2 (prR (a9A D k q.1))),(4,.int .i64 (q.1:Int))],lk [(b1,[.sl none 6 (gns e),.sl none 8 (pks k),.sl none 2 (prR m),.sl none 2 (prR o),.sl none 1 (ntR n),.int .i64 a,.int .i64 ht,.int .i64 tm]),(b,[.sl (some 102) 2 [],.sl (some 31) 34 [],.int .i64 0,.int .i64 0,.sl (some 31) 34 []])]⟩) (fun q=>q.1≤k.length) (fun q=>k.length - q.1) (0,some io) (by simp) (Le_lit (by first|(simp[LeL,lk,k0,hb];done)|(simp[LeL,lk,k0.trans hD,hb,prR];done)|fail)) ?_
 | refine wpx_loop (fun q:Nat × Option Nat=>⟨lk [(1,.ptr b1 0),(2,.ptr b 0),(3,.sl q.2 2 (prR (a9A D k q.1))),(4,.int .i64 (q.1:Int))],lk [(b1,[.sl none 6 (gns e),.sl none 8 (pks k),.sl none 2 (prR m),.sl none 2 (prR o),.sl none 1 (ntR n),.int .i64 a,.int .i64 ht,.int .i64 tm]),(b,[.sl (some 102) 2 [],.sl (some 31) 34 [],.int .i64 0,.int .i64 0,.sl (some 31) 34 []])]⟩) (fun q=>q.1≤k.length) (fun q=>k.length - q.1) (0,some 102) (by simp) (Le_lit (by first|(simp[LeL,lk,k0,hb];done)|(simp[LeL,lk,k0.trans hD,hb,prR];done)|fail)) ?_
 all_goals
  rintro ⟨i,oo⟩ hi
  simp only at hi ⊢
  try clear hD
  try clear hN
  have hki:=kb i (by omega)
  by_cases hil:i<k.length
  ·have f1:a0d (decide ((i:Int)<k.length)=true):=fo
   have kn:=kn i
   have ⟨b1',b2',b3'⟩:=k2 i hil
   obtain ⟨p,hgd⟩:∃ p,k.getD i default=p:=⟨_,rfl⟩
   rw[hgd]at kn b1' b2' b3'
   have hM:=b0Q p (by omega) (by omega) (by omega)
   have hO:=b3T 1 p.s p.sc p.q (by omega)
   have hS:=a9D (a9A D k i) (by omega) (ofP 1 p.s p.sc p.q) (a1E p)
   have hq:=fun h=>b1J p (by omega) (by omega) (by omega) h
   clear k0 kb b1' b2' b3' mn m0 mb hKL hH k2 m2
   generalize hK1:a9A D k (i+1)=K1 at *
   generalize hK0:a9A D k i=K0 at *
   unfold prV at hS
   cases hm:a6h p with
   | true=>
    rw[if_pos hm]at kn
    rw[← kn]at hS
    rw[hm]at hM
    have hT:=hq hm
    clear hq hm kn hK0
    generalize ofP 1 p.s p.sc p.q=key at *
    refine sxHsf ?_
    repeat' ((first|exact tt|refine CallO_pure (hM) ?_|refine CallW_intro (hO) ?_|refine CallW_intro (hT) ?_|refine CallW_intro (hS) ?_|refine na fun b=>?_|refine nb fun b hb=>?_|refine iq ?_|(refine jq ?_ ?_<;>intro h h')|refine Two_intro ?_ ?_|exact wZ|fail)<;>try refine sxHsf ?_)
    all_goals exact Round_lit (i+1,some 102) ⟨Le_lit (by simp[LeL,lk,hK1,hb];done),hil,by simp only;omega⟩
   | false=>
    rw[if_neg (by simp[hm])]at kn
    rw[hm]at hM
    clear hq hm hS hO hK0
    subst kn
    refine sxHsf ?_
    repeat' ((first|exact tt|refine CallO_pure (hM) ?_|refine na fun b=>?_|refine nb fun b hb=>?_|refine iq ?_|(refine jq ?_ ?_<;>intro h h')|refine Two_intro ?_ ?_|exact wZ|fail)<;>try refine sxHsf ?_)
    all_goals exact Round_lit (i+1,oo) ⟨Le_lit (by simp[LeL,lk,hK1,hb];done),hil,by simp only;omega⟩
  obtain rfl:i=k.length:=by omega
  have f1:a0d (decide ((k.length:Int)<k.length)=false):=fo
  rw[hKL]
  clear hki k0 kb k2 kn hi hil
  refine sxHsf ?_
  repeat' ((first|exact tt|refine na fun b=>?_|refine nb fun b hb=>?_|refine iq ?_|(refine jq ?_ ?_<;>intro h h')|refine Two_intro ?_ ?_|exact wZ|fail)<;>try refine sxHsf ?_)
  refine wpx_loop (fun q:Nat × Option Nat=>⟨lk [(1,.ptr b1 0),(2,.ptr b 0),(3,.sl q.2 2 (prR (a5N KL m q.1))),(5,.int .i64 (q.1:Int))],lk [(b1,[.sl none 6 (gns e),.sl none 8 (pks k),.sl none 2 (prR m),.sl none 2 (prR o),.sl none 1 (ntR n),.int .i64 a,.int .i64 ht,.int .i64 tm]),(b,[.sl (some 102) 2 [],.sl (some 31) 34 [],.int .i64 0,.int .i64 0,.sl (some 31) 34 []])]⟩) (fun q=>q.1≤m.length) (fun q=>m.length - q.1) (0,oo) (by simp) (Le_lit (by simp[LeL,lk,m0,hb];done)) ?_
  rintro ⟨i,oo⟩ hi
  simp only at hi ⊢
  have hki:=mb i (by omega)
  by_cases hil:i<m.length
  ·have f1:a0d (decide ((i:Int)<m.length)=true):=fo
   have mn:=mn i
   have ⟨b1',b2'⟩:=m2 i hil
   obtain ⟨⟨kk,v⟩,hgd⟩:∃ p,m.getD i default=p:=⟨_,rfl⟩
   rw[hgd]at mn b1' b2'
   simp only at mn b1' b2'
   have hM:=b1H kk v (by omega) (by omega)
   have hS:=a9D (a5N KL m i) (by omega) kk v
   clear m0 mb b1' b2' hKL hH m2
   generalize hK1:a5N KL m (i+1)=K1 at *
   generalize hK0:a5N KL m i=K0 at *
   unfold prV at hS
   cases hm:a0Z kk v with
   | true=>
    rw[if_pos hm]at mn
    rw[← mn]at hS
    rw[hm]at hM
    clear hm mn hK0
    refine sxHsf ?_
    repeat' ((first|exact tt|refine CallO_pure (hM) ?_|refine CallW_intro (hM) ?_|refine CallW_intro (hS) ?_|refine na fun b=>?_|refine nb fun b hb=>?_|refine iq ?_|(refine jq ?_ ?_<;>intro h h')|refine Two_intro ?_ ?_|exact wZ|fail)<;>try refine sxHsf ?_)
    all_goals exact Round_lit (i+1,some 102) ⟨Le_lit (by simp[LeL,lk,hK1,hb];done),hil,by simp only;omega⟩
   | false=>
    rw[if_neg (by simp[hm])]at mn
    rw[hm]at hM
    clear hm hS hK0
    subst mn
    refine sxHsf ?_
    repeat' ((first|exact tt|refine CallO_pure (hM) ?_|refine CallW_intro (hM) ?_|refine na fun b=>?_|refine nb fun b hb=>?_|refine iq ?_|(refine jq ?_ ?_<;>intro h h')|refine Two_intro ?_ ?_|exact wZ|fail)<;>try refine sxHsf ?_)
    all_goals exact Round_lit (i+1,oo) ⟨Le_lit (by simp[LeL,lk,hK1,hb];done),hil,by simp only;omega⟩
  obtain rfl:i=m.length:=by omega
  have f1:a0d (decide ((m.length:Int)<m.length)=false):=fo
  clear hki m0 mb m2 mn hi hil hKL
  generalize a5N KL m m.length=ML at *
  refine sxHsf ?_
  repeat' ((first|exact tt|refine CallO_pure (hH) ?_|refine CallW_intro (hH) ?_|refine na fun b=>?_|refine nb fun b hb=>?_|refine iq ?_|(refine jq ?_ ?_<;>intro h h')|refine Two_intro ?_ ?_|exact wZ|fail)<;>try refine sxHsf ?_)
end
end Go.Proofs.YtfgihnhoocnmdaaGreatDoor
