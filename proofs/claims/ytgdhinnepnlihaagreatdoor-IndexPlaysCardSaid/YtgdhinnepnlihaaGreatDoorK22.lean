import Derived.Test.YtgdhinnepnlihaaGreatDoorK21
import Derived.Test.YtgdhinnepnlihaaGreatDoorK16
import Derived.Test.YtgdhinnepnlihaaGreatDoorK19
import Derived.Test.YtgdhinnepnlihaaGreatDoorK18
import Derived.Test.YtgdhinnepnlihaaGreatDoorK11
import Derived.Shelf.SlGeneric
import Derived.Shelf.SlSortCmp.NoneTotal
import Derived.Ground.SlsfProg
import Derived.Test.YtgdhinnepnlihaaGreatDoorProg
namespace Go.Proofs.YtgdhinnepnlihaaGreatDoor
set_option linter.all false
set_option maxHeartbeats 9000000
section
open Go.RowKit Classical
set_option maxRecDepth 100000
def hcE(cap:Nat)(l:List EntC):List AV:=hc 14 cap (l.map EntC.cs)
theorem entRow:RowT EntC.cs 14 where
 len:=fun _=>rfl
 no:=fun x c h=>by
  simp only[EntC.cs,List.mem_cons,List.not_mem_nil,or_false]at h
  rcases h with rfl|rfl|rfl|rfl|rfl|rfl|rfl|rfl|rfl|rfl|rfl|rfl|rfl|rfl<;>exact ⟨fun _ _ _ e=>(by cases e),fun _ e=>(by cases e)⟩
theorem CallO_ex{P:Program}{d:Option Nat}{s:St}{K:St→Prop}{α:Type}{f:Nat}{vs:List AV}{r:AV}{o1:List (Nat × List AV)}{o2:α→List (Nat × List AV)}{p:α→Prop}
  (h:CT P f vs (lk o1) (fun r' o'=>r'=r∧∃ x,p x∧o'=lk (o2 x))) (hsub:∀ b cs,lk o1 b=some cs→s.o b=some cs)
  (hK:∀ x,p x→(∀ b cs,lk (o2 x) b=some cs→lk o1 b=none→s.o b=none)→KS (St.put ⟨s.t,ovr (o2 x) s.o⟩ d r) K):a7h P f vs d s K:=by
 refine ⟨lk o1,_,hsub,h, ?_⟩
 rintro r' o' ⟨rfl,x,hx,rfl⟩ hf
 exact hK x hx hf
structure Fx where
 k:AV
 c:AV
 g:Nat
 cap:Nat
 X:List AV
def Fx.ok(x:Fx)(b:Nat)(t:Tb):Prop:=x.k.alias=.sl none 4 (kys (dOf t).K)∧x.c.alias=.sl none 2 (ens (dOf t).C)∧(¬ x.g=b∧¬ b=x.g)∧(dOf t).E.length≤x.cap
abbrev Fx.o(x:Fx)(b g:Nat)(t:Tb):List (Nat × List AV):=[(b,[x.k,.hsl x.g 223 14 (dOf t).E.length x.cap,x.c]),(x.g,hcE x.cap (dOf t).E),(g,x.X)]
theorem ro_ex{s:St}{rs:List AR}{o1:List (Nat × List AV)}{r:AV}{α:Type}{o2:α→List (Nat × List AV)}{q:α→Prop}(x:α)(h:a0z s rs r∧LeL (o2 x) s.o)(hq:q x)
  (hd:∀ b cs,lk o1 b=some cs→∃ cs',lk (o2 x) b=some cs'):b4s s rs (lk o1) (fun r' o'=>r'=r∧∃ x,q x∧o'=lk (o2 x)):=
 ⟨_,h.1,lk (o2 x),LeL_ok h.2,hd,rfl,x,hq,rfl⟩
theorem dom_fx{p g g':Nat}{a b c d e:List AV}:∀ b' cs,lk [(p,a),(g,b)] b'=some cs→∃ cs',lk [(p,c),(g',d),(g,e)] b'=some cs':=by
 intro b' cs h
 rw[lk_cons]at h ⊢
 by_cases hb:b'=p
 ·rw[if_pos hb];exact ⟨_,rfl⟩
 rw[if_neg hb]at h ⊢
 rw[lk_cons]at h ⊢
 rw[lk_cons]
 by_cases hb2:b'=g'
 ·rw[if_pos hb2];exact ⟨_,rfl⟩
 rw[if_neg hb2]
 by_cases hb3:b'=g
 ·rw[if_pos hb3];exact ⟨_,rfl⟩
 ·rw[if_neg hb3]at h;cases h
theorem key_in{t:Tb}{k:KeyC}:decide (k∈(dOf t).K)=(a0O t.K k).isSome:=by
 rw[Bool.eq_iff_iff,decide_eq_true_eq];exact mem_keysS
theorem a5k(t:Tb):(dOf t).K.length=t.K.length:=by
 show (srtL a0t (t.K.map (·.1))).length=_
 rw[(srtL_perm _ _).length_eq,List.length_map]
theorem a9a(t:Tb):(dOf t).E.length=(dOf t).K.length:=by
 show ((a0i t).map (a9c t)).length=(a0i t).length
 rw[List.length_map]
theorem b1M(t:Tb):(dOf t).C.length=t.C.length:=(srtL_perm _ _).length_eq
theorem a1w(l:List KeyC)(i:Nat):(kys l).take i=kys (l.take i):=by simp[kys,List.map_take]
theorem a4H(l:List KeyC)(i:Nat):(kys l).drop i=kys (l.drop i):=by simp[kys,List.map_drop]
theorem a9E(l m:List KeyC):kys (l++m)=kys l++kys m:=by simp[kys]
theorem ent_at{t:Tb}(hN:(t.K.map (·.1)).Nodup){k:KeyC}{x:EntC}(hf:a0O t.K k=some x):plL a0t k (dOf t).K<(dOf t).K.length∧(dOf t).E.getD (plL a0t k (dOf t).K) default=x:=by
 obtain ⟨p1,p2⟩:=(pl_mem keySTO (srtL_rise keySTO hN) default).1 (mem_keysS.2 (by rw[hf];rfl):k∈a0i t)
 refine ⟨p1, ?_⟩
 show ((a0i t).map (a9c t)).getD (plL a0t k (a0i t)) default=x
 have h:(a0i t)[plL a0t k (a0i t)]?=some k:=by
  have p1':plL a0t k (a0i t)<(a0i t).length:=p1
  have p2':(a0i t).getD (plL a0t k (a0i t)) default=k:=p2
  rw[List.getElem?_eq_getElem p1']
  simpa[List.getD,p1']using p2'
 simp only[List.getD,List.getElem?_map,h,Option.map_some,Option.getD_some,a9c,hf]
section
variable {d:Option Nat} {s:St} {K:St→Prop}
theorem hapA{e g n cap:Nat}{l:List EntC}(h0:a0a (n=0)→KS (St.put s d (.hnil e 14)) K)
  (h1:0<n→a6K s.o (fun b=>∀ cap',n≤cap'→KS (St.put ⟨s.t,upd s.o b (some (hcE cap' (l.take n)))⟩ d (.hsl b e 14 n cap')) K))
  (hg:s.o g=some (hcE cap l):=by first|((repeat (first|exact lk_hd _ _ _|(refine lk_tl ?_ ?_;(focus (first|assumption|(simp only[*,not_false_eq_true];done))))));done)|fail) (hb:n≤100000:=by omega) (hn:n≤l.length:=by omega):b0i e 14 112 d s K (.hnil e 14) (.hsl g e 14 n cap):=by
 have hl:(l.take n).length=n:=by rw[List.length_take];omega
 refine entRow.hap_nil (m:=l.take n) (entRow.src_pre hg hn) (by rw[hl];exact ⟨by omega,by unfold maxLen;omega⟩) (fun h=>h0 (by rw[hl]at h;exact h)) (fun h=>?_)
 rw[hl]at h ⊢
 exact h1 h
theorem hapB{e:Nat}{own:Option Nat}(x:EntC)(h1:a6K s.o (fun b=>∀ cap',1≤cap'→KS (St.put ⟨s.t,upd s.o b (some (hcE cap' [x]))⟩ d (.hsl b e 14 1 cap')) K)):b0i e 14 112 d s K (.hnil e 14) (.sl own 14 [x.cs]):=
 entRow.hap_nil (m:=[x]) (entRow.src_sl s.o own [x]) ⟨by simp,by simp[maxLen]⟩ (fun h=>by cases h) (fun _=>h1)
theorem hapC{e g n cap:Nat}{own:Option Nat}{l:List EntC}(x:EntC)(h1:a6K (upd s.o g none) (fun b=>∀ cap',n+1≤cap'→KS (St.put ⟨s.t,upd (upd s.o g none) b (some (hcE cap' (l++[x])))⟩ d (.hsl b e 14 (n+1) cap')) K))
  (hb:n≤100000:=by omega) (hcp:n≤cap:=by omega) (hg:s.o g=some (hcE cap l):=by first|((repeat (first|exact lk_hd _ _ _|(refine lk_tl ?_ ?_;(focus (first|assumption|(simp only[*,not_false_eq_true];done))))));done)|fail) (hl:l.length=n:=by first|rfl|((try simp only[List.length_append,List.length_take,List.length_cons,List.length_nil]);omega)|fail):b0i e 14 112 d s K (.hsl g e 14 n cap) (.sl own 14 [x.cs]):=by
 have ht:l.take n=l:=by rw[← hl,List.take_length]
 refine entRow.hap_row (m:=[x]) hg (entRow.src_sl s.o own [x]) ⟨by omega,by omega⟩ ⟨by simp only[List.length_cons,List.length_nil];omega,by simp only[List.length_cons,List.length_nil,maxLen];omega⟩ ?_
 rw[ht];exact h1
theorem hapD'{e g n cap g2 i m cap2:Nat}{l l2:List EntC}(h1:a6K (upd s.o g none) (fun b=>∀ cap',n+m≤cap'→KS (St.put ⟨s.t,upd (upd s.o g none) b (some (hcE cap' (l++l2.drop i)))⟩ d (.hsl b e 14 (n+m) cap')) K))
  (hb:n≤100000∧m≤100000:=by omega) (hcp:n≤cap:=by omega) (hg2:s.o g2=some (hcE cap2 l2):=by first|((repeat (first|exact lk_hd _ _ _|(refine lk_tl ?_ ?_;(focus (first|assumption|(simp only[*,not_false_eq_true];done))))));done)|fail) (hg:s.o g=some (hcE cap l):=by first|((repeat (first|exact lk_hd _ _ _|(refine lk_tl ?_ ?_;(focus (first|assumption|(simp only[*,not_false_eq_true];done))))));done)|fail) (hl:l.length=n:=by first|rfl|((try simp only[List.length_append,List.length_take,List.length_cons,List.length_nil]);omega)|fail) (hm:i+m=l2.length:=by first|rfl|((try simp only[List.length_append,List.length_take,List.length_cons,List.length_nil]);omega)|fail):b0i e 14 112 d s K (.hsl g e 14 n cap) (.hss g2 14 i m):=by
 have ht:l.take n=l:=by rw[← hl,List.take_length]
 have hd:(l2.drop i).take m=l2.drop i:=by rw[List.take_of_length_le];rw[List.length_drop];omega
 have hdl:(l2.drop i).length=m:=by rw[List.length_drop];omega
 refine entRow.hap_row (m:=l2.drop i) hg (by rw[← hd];exact entRow.src_part hg2 (by omega)) ⟨by omega,by omega⟩ ⟨by rw[hdl];omega,by rw[hdl];unfold maxLen;omega⟩ ?_
 rw[ht,hdl];exact h1
end
theorem sxDtb{A B:Prop}(h:B)(e:A=B:=by (simp (disch:=omega) only[*, ↓Ed,Eu, ↓reduceIte,reduceCtorEq,Nat.reduceAdd,Nat.reduceEqDiff,Nat.reduceLT,Nat.reduceLeDiff,Int.reduceToNat,Int.reduceEq,Int.reduceLT,Int.reduceLE,w64,List.length_append,List.length_map,Nat.mul_one,beq_self_eq_true,PktC.cs,EvC.cs,EntC.cs,KeyC.cs,a0h,Int.reduceAdd,a0l,a0u,a1b,a4t];first|done|rfl)):A:=e▸h
set_option maxHeartbeats 8000000 in
theorem b5E(p g:Nat)(hg:¬ g=p∧¬ p=g)(kc cc:AV)(cap:Nat)(t:Tb)(hk:kc.alias=.sl none 4 (kys (dOf t).K))(hcc:cc.alias=.sl none 2 (ens (dOf t).C))(ht:Tgood 90000 t)(hcap:(dOf t).E.length≤cap)
    (e:EvC) (h1:e.p.s.length≤1000000) (h2:e.p.d.length≤1000000) (h3:e.p.x.length≤1000000) (h4:e.e.length≤1000000) (h5:e.a.length≤1000000):
    CT Tryz.prog 145 [.ptr p 0,.agg e.cs] (lk [(p,[kc,.hsl g 223 14 (dOf t).E.length cap,cc]),(g,hcE cap (dOf t).E)])
      (fun r o=>r=.int .i64 (a0T t e).2∧∃ x:Fx,x.ok p (a0T t e).1∧o=lk (x.o p g (a0T t e).1)):=by
  have hO:=b6e e h1 h2 h3 h4 h5
  have hM:=a6F e h1 h2 h3 h4 h5
  have same:Fx.ok ⟨kc,cc,g,cap,hcE cap (dOf t).E⟩ p t:=⟨hk,hcc,hg,hcap⟩
  refine a2f _ _ _ (by simp) ?_
  by_cases hm:a1e e=true
  rotate_left
  · have hm':a1e e=false:=by simpa using hm
    rw[own_no hm']at hO
    rw[fold_no hm']
    rw[hm']at hM
    clear hm hm' ht hcap
    generalize hX:hcE cap (dOf t).E=X at same ⊢
    simp only[a0f];refine sxDtb ?_
    repeat' ((first|exact tt|refine CallO_pure (hM) ?_|refine CallO_pure (hO) ?_|refine na fun b=>?_|refine nb fun b hb=>?_|refine iq ?_|(refine jq ?_ ?_<;>intro h h')|refine Two_intro ?_ ?_|exact wZ|fail)<;>try refine sxDtb ?_)
    all_goals exact ro_ex ⟨kc,cc,g,cap,X⟩ (by simp[LeL,lk,hg,a0z,arR,hX]) same dom_fx
  have hr:=may_range hm
  have hF:=fun k=>b4j p kc (.hsl g 223 14 (dOf t).E.length cap) cc (dOf t).K hk (srtL_rise keySTO ht.k) (by rw[a5k];have:=ht.lk;omega) k
  rcases a8d e.k with ⟨k1,k2,k3,k4,k5,k6,k7,k8,k9,k10,k11,k12⟩ | ⟨k1,k2,k3,k4,k5,k6,k7,k8,k9,k10,k11,k12⟩ | ⟨k1,k2,k3,k4,k5,k6,k7,k8,k9,k10,k11,k12⟩ | ⟨k1,k2,k3,k4,k5,k6,k7,k8,k9,k10,k11,k12⟩ | ⟨k1,k2,k3,k4,k5,k6,k7,k8,k9,k10,k11,k12⟩ | ⟨k1,k2,k3,k4,k5,k6,k7,k8,k9,k10,k11,k12⟩ | ⟨k1,k2,k3,k4,k5,k6,k7,k8,k9,k10,k11,k12⟩ | ⟨k1,k2,k3,k4,k5,k6,k7,k8,k9,k10,k11,k12⟩ | ⟨k1,k2,k3,k4,k5,k6,k7,k8,k9,k10,k11,k12⟩
  rotate_left 5
  · have hS:=b2v p kc (.hsl g 223 14 (dOf t).E.length cap) cc (dOf t).C hcc (srtL_rise endSTO ht.c) (by rw[b1M];have:=ht.lc;omega) (e.e,e.ec)
    rw[fold_cl hm k12]
    rw[hm]at hM
    by_cases hcm:((e.e,e.ec):a1D)∈t.C
    · have hcm':((e.e,e.ec):a1D)∈(dOf t).C:=mem_closS.2 hcm
      rw[if_pos hcm,if_pos hcm]
      rw[if_pos hcm',if_pos hcm']at hS
      clear hm hr k12 ht hcap hF hcm hcm' hO
      generalize hX:hcE cap (dOf t).E=X at same ⊢
      simp only[a0f];refine sxDtb ?_
      repeat' ((first|exact tt|refine CallO_pure (hM) ?_|refine c1 (hS) ?_|refine na fun b=>?_|refine nb fun b hb=>?_|refine iq ?_|(refine jq ?_ ?_<;>intro h h')|refine Two_intro ?_ ?_|exact wZ|fail)<;>try refine sxDtb ?_)
      all_goals exact ro_ex ⟨kc,cc,g,cap,X⟩ (by simp[LeL,lk,hg,a0z,arR,hX]) same dom_fx
    · have hcm':¬ ((e.e,e.ec):a1D)∈(dOf t).C:=fun h=>hcm (mem_closS.1 h)
      rw[if_neg hcm,if_neg hcm]
      rw[if_neg hcm',if_neg hcm']at hS
      have hT:a0a ((dOf ⟨t.K,t.C++[(e.e,e.ec)]⟩).K=(dOf t).K∧(dOf ⟨t.K,t.C++[(e.e,e.ec)]⟩).E=(dOf t).E∧(dOf ⟨t.K,t.C++[(e.e,e.ec)]⟩).C=(dOf t).C.take (plL a0E (e.e,e.ec) (dOf t).C)++[(e.e,e.ec)]++(dOf t).C.drop (plL a0E (e.e,e.ec) (dOf t).C)):=⟨rfl,rfl,clos_new ht.c hcm⟩
      generalize (⟨t.K,t.C++[(e.e,e.ec)]⟩:Tb)=T at hT ⊢
      generalize (dOf t).C.take (plL a0E (e.e,e.ec) (dOf t).C)++[(e.e,e.ec)]++(dOf t).C.drop (plL a0E (e.e,e.ec) (dOf t).C)=C' at hT hS
      clear hm hr k12 ht hF hcm hcm' hO same
      generalize hE:(dOf t).E=E at *
      simp only[a0f];refine sxDtb ?_
      repeat' ((first|exact tt|refine CallO_pure (hM) ?_|refine c1 (hS) ?_|refine na fun b=>?_|refine nb fun b hb=>?_|refine iq ?_|(refine jq ?_ ?_<;>intro h h')|refine Two_intro ?_ ?_|exact wZ|fail)<;>try refine sxDtb ?_)
      all_goals (obtain ⟨t1,t2,t3⟩:=hT)
      all_goals exact ro_ex ⟨kc,.sl (some 56) 2 (ens C'),g,cap,hcE cap E⟩ (by simp[LeL,lk,hg,a0z,arR,t2]) ⟨by rw[t1];exact hk,by rw[t3];rfl,hg,by rw[t2];exact hcap⟩ dom_fx
  · rw[own_up hm k12]at hO
    rw[fold_up hm k12]
    rw[hm]at hM
    clear hm hr k12 ht hcap hF
    generalize hX:hcE cap (dOf t).E=X at same ⊢
    simp only[a0f];refine sxDtb ?_
    repeat' ((first|exact tt|refine CallO_pure (hM) ?_|refine CallO_pure (hO) ?_|refine na fun b=>?_|refine nb fun b hb=>?_|refine iq ?_|(refine jq ?_ ?_<;>intro h h')|refine Two_intro ?_ ?_|exact wZ|fail)<;>try refine sxDtb ?_)
    all_goals exact ro_ex ⟨kc,cc,g,cap,X⟩ (by simp[LeL,lk,hg,a0z,arR,hX]) same dom_fx
  · have:e.k<1:=k12
    omega
  · have:7<e.k:=k12
    omega
  rotate_left
  all_goals
    have hk1:e.k=_:=k12
    have d1:decide (e.k=1)=_:=k1
    have d4:decide (e.k=4)=_:=k4
    have d5:decide (e.k=5)=_:=k5
    have d6:decide (e.k=6)=_:=k6
    have d7:decide (e.k=7)=_:=k7
    have hkk:1≤e.k∧e.k≤5:=by omega
    have hMD:=fun x=>b3X x e
    have hMk:=fun x=>b2h x e.k
    have hokk:(a1B e).2.2.2=true:=by
      first|rw[own_src hm (by omega)]|rw[own_dst hm (by omega)]
    rw[hokk]at hO
    first
    | have hke:a1p e=⟨(a1B e).1,(a1B e).2.1,true,(a1B e).2.2.1⟩:=by unfold a1p;rw[show b0N e.k=true by rw[hk1];rfl]
    | have hke:a1p e=⟨(a1B e).1,(a1B e).2.1,false,(a1B e).2.2.1⟩:=by unfold a1p;rw[show b0N e.k=false by rw[hk1];rfl]
    replace hF:=hF (a1p e)
    rw[key_in]at hF
    cases hf0:a0O t.K (a1p e) with
    | none=>
      rw[fold_new hm hkk hf0]
      have hT:a0a ((dOf ⟨t.K++[(a1p e,a0R (a6X e.p) e)],t.C⟩).K=(dOf t).K.take (plL a0t (a1p e) (dOf t).K)++[a1p e]++(dOf t).K.drop (plL a0t (a1p e) (dOf t).K)∧
          (dOf ⟨t.K++[(a1p e,a0R (a6X e.p) e)],t.C⟩).E=(dOf t).E.take (plL a0t (a1p e) (dOf t).K)++[a0R (a6X e.p) e]++(dOf t).E.drop (plL a0t (a1p e) (dOf t).K)∧
          (dOf ⟨t.K++[(a1p e,a0R (a6X e.p) e)],t.C⟩).C=(dOf t).C):=by
        rw[dOf_new ht.k (x:=a0R (a6X e.p) e) hf0];exact ⟨rfl,rfl,rfl⟩
      generalize (⟨t.K++[(a1p e,a0R (a6X e.p) e)],t.C⟩:Tb)=T at hT ⊢
      rw[hf0]at hF
      rw[hm]at hM
      have hple:=pl_le a0t (a1p e) (dOf t).K
      have hMD0:=hMD (a6X e.p)
      generalize hi:plL a0t (a1p e) (dOf t).K=i at *
      rw[hke]at hF
      simp only[Option.isSome_none]at hF
      clear hMD hMk hm hr k12 hf0 hokk hkk hk1 same
      generalize a1B e=OW at *
      simp only[a0f,hg,hk,a6X, ↓Ed,Eu, ↓reduceIte,reduceCtorEq,Nat.reduceAdd,Nat.reduceEqDiff,Nat.reduceLT,Nat.reduceLeDiff,Int.reduceToNat,Int.reduceEq,Int.reduceLT,Int.reduceLE,w64,List.length_append,List.length_map,Nat.mul_one,beq_self_eq_true,PktC.cs,EvC.cs,EntC.cs,KeyC.cs,a0h,Int.reduceAdd,a0l,a0u,a1b,a4t]
      repeat' ((first|exact tt|refine CallO_pure (hM) ?_|refine CallO_pure (hO) ?_|refine c1 (hF) ?_|refine CallW_intro (hMD0) ?_|refine na fun b=>?_|refine nb fun b hb=>?_|refine iq ?_|(refine jq ?_ ?_<;>intro h h')|refine Two_intro ?_ ?_|exact wZ|fail)<;>try refine sxDtb ?_)
      have hdr:List.take (dOf t).K.length (kys (dOf t).K)=kys (dOf t).K:=by rw[← a0l,List.take_length]
      have hKl:(dOf t).K.length≤90000:=by rw[a5k];exact ht.lk
      have hEl:=a9a t
      simp only[hdr]
      refine ⟨⟨by simp only[a1w,a0l,List.length_take];omega,by simp only[a1w,a0l,List.length_take,maxLen];omega⟩,⟨by simp only[a1w,a0l,List.length_take];omega,by simp only[a1w,a0l,List.length_take,maxLen];omega⟩,Nat.le_refl _,
        ⟨by simp only[a1w,a4H,a0l,List.length_take,List.length_drop];omega,by simp only[a1w,a4H,a0l,List.length_take,List.length_drop,maxLen];omega⟩, ?_⟩
      generalize hKK:List.take i (kys (dOf t).K)=KK
      generalize hKL:List.drop i (kys (dOf t).K)=KL
      clear hdr hF hM hO
      generalize hE:(dOf t).E=E at *
      generalize (dOf t).K.length=N at *
      generalize hY:a0R (a6X e.p) e=y at *
      repeat' ((first|exact tt|refine CallW_intro (hMD0) ?_|((refine hapA (fun h0=>?_) (fun h0=>NewB_intro (fun bA hbA cA hcA=>?_)))<;>(try simp only[ln_cons2,ln_nil,and_true]at hbA))|(refine hapB y (NewB_intro (fun bB hbB cB hcB=>?_));simp only[ln_cons2,ln_nil,and_true]at hbB)|(refine hapC y (NewB_intro (fun bB hbB cB hcB=>?_));simp only[upd_del,del_cons,del_nil, *,if_true,if_false,ln_cons2,ln_nil,and_true]at hbB)|(refine hapD' (NewB_intro (fun bD hbD cD hcD=>?_));simp only[upd_del,del_cons,del_nil, *,if_true,if_false,ln_cons2,ln_nil,and_true]at hbD)|refine na fun b=>?_|refine nb fun b hb=>?_|refine iq ?_|(refine jq ?_ ?_<;>intro h h')|refine Two_intro ?_ ?_|exact wZ|fail)<;>try refine sxDtb ?_)
      all_goals
        obtain ⟨t1,t2,t3⟩:=hT
        have l2:(dOf T).E.length=i+1+(N - i):=by rw[t2];simp only[List.length_append,List.length_take,List.length_drop,List.length_cons,List.length_nil];omega
        refine ro_ex (⟨.sl (some 224) 4 (KK++[(a1p e).cs]++KL),cc,bD,cD,hcE cap E⟩:Fx) ⟨by simp[a0z,arR,lk], ?_⟩ ⟨?_, ?_, ?_, ?_⟩ dom_fx
        rotate_left
        · show AV.sl none 4 _=_
          rw[t1,a9E,a9E, ← a1w, ← a4H,hKK,hKL];rfl
        · rw[t3];exact hcc
        · exact hbD.1
        · show (dOf T).E.length≤cD
          rw[l2]
          first
          | omega
          | (have h0':i=0:=h0
             omega)
        · first
          | (have h0':i=0:=h0
             have t4:(dOf T).E=[y]++E.drop i:=by rw[t2,h0'];rfl
             have l4:(dOf T).E.length=1+(N - i):=by omega
             simp[LeL,lk,hg,hbD,l4,t4,hke]
             try omega)
          | (simp[LeL,lk,hg,hbD,l2,t2,hke]
             try omega)
    | some x=>
      rw[fold_some hm hkk hf0]
      obtain ⟨hil,hix⟩:=ent_at ht.k hf0
      have hset:=fun y=>dOf_set ht.k (y:=y) hf0
      have hpd:=a8v x.p e.p
      have hMD0:=hMD x
      have hMk0:=hMk x
      have hEl:=a9a t
      rw[hf0,hEl]at hF
      rw[hm]at hM
      have hT:a0a ((dOf ⟨a7e t.K (a1p e) (a0R x e),t.C⟩).K=(dOf t).K∧(dOf ⟨a7e t.K (a1p e) (a0R x e),t.C⟩).E=(dOf t).E.set (plL a0t (a1p e) (dOf t).K) (a0R x e)∧(dOf ⟨a7e t.K (a1p e) (a0R x e),t.C⟩).C=(dOf t).C):=by
        rw[hset];exact ⟨rfl,rfl,rfl⟩
      generalize (⟨a7e t.K (a1p e) (a0R x e),t.C⟩:Tb)=T at hT ⊢
      have hla:a4N x e.k=((decide (e.k=4)&&x.t)||(decide (e.k=5)&&x.c)):=rfl
      generalize a4N x e.k=late at hla ⊢
      have hKl:(dOf t).K.length≤90000:=by rw[a5k];exact ht.lk
      have hTk:List.take 14 (List.drop (plL a0t (a1p e) (dOf t).K * 14) (hcE cap (dOf t).E))=x.cs:=by
        rw[← hix];exact entRow.drop_take cap (dOf t).E _ default (by omega)
      have hSt:splice (hcE cap (dOf t).E) (plL a0t (a1p e) (dOf t).K * 14) (a0R x e).cs=hcE cap ((dOf t).E.set (plL a0t (a1p e) (dOf t).K) (a0R x e)):=entRow.sto cap (dOf t).E _ _ (by omega)
      have hLen:(hcE cap (dOf t).E).length=cap * 14:=by
        unfold hcE;rw[entRow.len_hc,Nat.max_eq_left hcap]
      have hL1:14≤(List.drop (plL a0t (a1p e) (dOf t).K * 14) (hcE cap (dOf t).E)).length:=by rw[List.length_drop,hLen];omega
      have hL2:plL a0t (a1p e) (dOf t).K * 14+14≤(hcE cap (dOf t).E).length:=by rw[hLen];omega
      generalize hi:plL a0t (a1p e) (dOf t).K=i at *
      rw[hke]at hF
      simp only[Option.isSome_some]at hF
      clear hMD hMk hm hr hf0 hokk hkk hk1 k12 hix hset
      generalize a1B e=OW at *
      generalize hE:(dOf t).E=E at *
      generalize (dOf t).K.length=N at *
      generalize a0R x e=y at *
      simp only[EntC.cs]at hTk hSt
      by_cases hp:x.p=e.p
      rotate_left
      · rw[decide_eq_false hp]at hpd
        rw[if_pos hp]
        clear hp hla hT
        simp only[a0f];refine sxDtb ?_
        repeat' ((first|exact tt|refine CallO_pure (hM) ?_|refine CallO_pure (hO) ?_|refine c1 (hF) ?_|refine CallO_pure (hMk0) ?_|refine CallW_intro (hMD0) ?_|refine na fun b=>?_|refine nb fun b hb=>?_|refine iq ?_|(refine jq ?_ ?_<;>intro h h')|refine Two_intro ?_ ?_|exact wZ|fail)<;>try refine sxDtb ?_)
        all_goals exact ro_ex ⟨kc,cc,g,cap,hcE cap E⟩ (by simp[LeL,lk,hg,a0z,arR,hE,hEl]) same dom_fx
      rw[decide_eq_true hp]at hpd
      rw[if_neg (fun h=>h hp)]
      clear hp
      cases hmv:marked x e.k with
      | true=>
        rw[hmv]at hMk0
        rw[if_pos rfl]
        clear hla hT
        simp only[a0f];refine sxDtb ?_
        repeat' ((first|exact tt|refine CallO_pure (hM) ?_|refine CallO_pure (hO) ?_|refine c1 (hF) ?_|refine CallO_pure (hMk0) ?_|refine CallW_intro (hMD0) ?_|refine na fun b=>?_|refine nb fun b hb=>?_|refine iq ?_|(refine jq ?_ ?_<;>intro h h')|refine Two_intro ?_ ?_|exact wZ|fail)<;>try refine sxDtb ?_)
        all_goals exact ro_ex ⟨kc,cc,g,cap,hcE cap E⟩ (by simp[LeL,lk,hg,a0z,arR,hE,hEl]) same dom_fx
      | false=>
        rw[hmv]at hMk0
        rw[if_neg (by simp)]
        rw[d4,d5]at hla
        cases hxt:x.t<;>cases hxc:x.c<;>rw[hxt,hxc]at hla<;>subst hla<;>simp only[Bool.and_true,Bool.and_false,Bool.or_false,Bool.or_true,Bool.false_or,Bool.true_or,Bool.true_and,Bool.false_and,if_true,if_false,Bool.false_eq_true]
        all_goals (simp only[EntC.cs,hxt,hxc]at hMk0 hMD0)
        all_goals (simp only[a0f];refine sxDtb ?_;try exact tt)
        all_goals repeat' ((first|exact tt|refine CallO_pure (hM) ?_|refine CallO_pure (hO) ?_|refine c1 (hF) ?_|refine CallO_pure (hMk0) ?_|refine CallW_intro (hMD0) ?_|refine na fun b=>?_|refine nb fun b hb=>?_|refine iq ?_|(refine jq ?_ ?_<;>intro h h')|refine Two_intro ?_ ?_|exact wZ|fail)<;>try refine sxDtb ?_)
        all_goals first
        | exact ro_ex ⟨kc,cc,g,cap,hcE cap E⟩ (by simp[LeL,lk,hg,a0z,arR,hE,hEl]) same dom_fx
        | (obtain ⟨t1,t2,t3⟩:=hT
           exact ro_ex ⟨kc,cc,g,cap,hcE cap (E.set i y)⟩ (by simp[LeL,lk,hg,a0z,arR,t2,hEl,hSt]) ⟨by rw[t1];exact hk,by rw[t3];exact hcc,hg,by rw[t2,List.length_set];exact hcap⟩ dom_fx)
        | trace_state
end
section
open Go.RowKit
theorem b0y:∀ (f n:Nat) (r:List UInt8) (b:Bool),n<128 ^ (f+1)→(b=true∨n≠0)→a2E (f+1) (b1e n++r) b=((n:Int),(b1e n).length,0)
 | f,n,r,b,h,hb=>by
  by_cases hn:n<128
  ·rw[put7_lo hn,List.singleton_append,a2E]
   have e:(UInt8.ofNat n).toNat=n:=by simp;omega
   rw[e,if_pos hn,if_neg (fun h1=>hb.elim (fun hb=>by rw[hb]at h1;cases h1.2) (fun hb=>hb h1.1))]
   rfl
  ·cases f with
   | zero=>simp at h;omega
   | succ f=>
    rw[put7_hi (by omega),List.cons_append,a2E]
    have e:(UInt8.ofNat (n % 128+128)).toNat=n % 128+128:=by simp;omega
    rw[e,if_neg (by omega),b0y f (n / 128) r false (by rw[Nat.pow_succ]at h;omega) (.inr (by omega))]
    simp only[if_true,List.length_cons,Prod.mk.injEq,and_true]
    omega
def Dr(s:List UInt8)(n:Int)(r:List UInt8):Prop:=∃ k:Nat,n=k∧k≤s.length∧s.drop k=r
theorem Dr.init(s:List UInt8):Dr s 0 s:=⟨0,rfl,by simp,by simp⟩
theorem Dr.step{s:List UInt8}{n:Int}{a r:List UInt8}(h:Dr s n (a++r)):Dr s (n+a.length) r:=by
 obtain ⟨k,rfl,hk,hd⟩:=h
 have hl:(s.drop k).length=(a++r).length:=by rw[hd]
 simp at hl
 refine ⟨k+a.length,by omega,by omega, ?_⟩
 rw[← List.drop_drop,hd];simp
theorem nx_pn{s:List UInt8}{n v:Int}{r:List UInt8}(h:Dr s n (pn v++r))(h0:0≤v)(h1:v≤72057594037927935):nx s n=(v,n+(pn v).length,0):=by
 obtain ⟨k,rfl,hk,hd⟩:=h
 rw[nx_in hk,hd]
 have e:pn v=b1e v.toNat:=by rw[pn,if_pos ⟨h0,h1⟩]
 rw[e,b0y 7 v.toNat r true (by simp;omega) (.inl rfl)]
 simp only[b3w,if_true,Prod.mk.injEq,and_true]
 omega
theorem rnum_pn{s:List UInt8}{n v l m:Int}{r:List UInt8}(h:Dr s n (pn v++r))(hl:l≤v)(hm:v≤m)(h0:0≤v)(h1:v≤72057594037927935):a1F s l m (n,0)=(v,n+(pn v).length,0):=by
 have e:=nx_pn h h0 h1
 unfold a1F
 simp only[e]
 rw[if_neg (by simp),if_neg (by simp),if_neg (by omega)]
theorem rcount_pn{s:List UInt8}{n v m:Int}{r:List UInt8}(h:Dr s n (pn v++r))(hm:v≤m)(h0:0≤v)(h1:v≤72057594037927935):a1j s m (n,0)=(v,n+(pn v).length,0):=by
 have e:=nx_pn h h0 h1
 unfold a1j
 simp only[e]
 rw[if_neg (by simp),if_neg (by simp),if_neg (by omega)]
def ptx(t:List UInt8):List UInt8:=pn t.length++t
theorem rtext_pt{s:List UInt8}{n m:Int}{t r:List UInt8}(h:Dr s n (ptx t++r))(hm:(t.length:Int)≤m)(h1:(t.length:Int)≤72057594037927935):a0w s m (n,0)=(t,n+(ptx t).length,0):=by
 rw[ptx,List.append_assoc]at h
 have e:=nx_pn h (by omega) h1
 have h2:=h.step
 obtain ⟨k,hk,hk',hd⟩:=h2
 have hl:(s.drop k).length=(t++r).length:=by rw[hd]
 simp at hl
 unfold a0w
 simp only[e]
 rw[if_neg (by simp),if_neg (by simp),if_neg (by omega),if_neg (by omega)]
 rw[show (n+((pn t.length).length:Int)).toNat=k by omega,show (n+((pn t.length).length:Int)+(t.length:Int)).toNat=k+t.length by omega]
 rw[List.drop_take,hd]
 have hpl:(ptx t).length=(pn t.length).length+t.length:=by simp[ptx]
 rw[hpl]
 simp only[Prod.mk.injEq,and_true]
 refine ⟨by simp,by omega⟩
theorem rend_nil{s:List UInt8}{n:Int}(h:Dr s n []):rend s (n,0)=0:=by
 obtain ⟨k,rfl,hk,hd⟩:=h
 have:s.length≤k:=List.drop_eq_nil_iff.1 hd
 unfold rend
 rw[if_neg (by simp only;omega)]
def b0e(p:PktC):List UInt8:=ptx p.s++pn p.sc++ptx p.d++pn p.dc++pn p.q++ptx p.x++pn p.th++pn p.ta
theorem mayK_to{p:PktC}(h:a7a p=true):p.s.length≤12∧(0≤p.sc∧p.sc≤999)∧p.d.length≤12∧(0≤p.dc∧p.dc≤999)∧(1≤p.q∧p.q≤1099511627776)∧p.x.length≤200∧(0≤p.th∧p.th≤1099511627776)∧(0≤p.ta∧p.ta≤1099511627776):=by
 simp only[a7a,a9I,Bool.and_eq_true,decide_eq_true_eq,nameP_iff,b0B]at h
 obtain ⟨⟨⟨⟨⟨⟨⟨h1,h2⟩,h3⟩,⟨h4,h5⟩,h6⟩,h7⟩,h8⟩,h9⟩,h10⟩:=h
 exact ⟨h1.2.1,⟨h2,h3⟩,h4.2.1,⟨h5,h6⟩,h9,h10,h7,h8⟩
theorem rpkt_enc{s:List UInt8}{n:Int}{r:List UInt8}{p:PktC}(hp:a7a p=true)(h:Dr s n (b0e p++r)):a7y s (n,0)=(p,n+(b0e p).length,0)∧Dr s (n+(b0e p).length) r:=by
 refine ⟨?_,h.step⟩
 obtain ⟨a1,a2,a3,a4,a5,a6,a7,a8⟩:=mayK_to hp
 simp only[b0e,List.append_assoc]at h
 have e1:=rtext_pt (m:=12) h (by omega) (by omega)
 have h:=h.step
 have e2:=rnum_pn (l:=0) (m:=999) h (by omega) (by omega) (by omega) (by omega)
 have h:=h.step
 have e3:=rtext_pt (m:=12) h (by omega) (by omega)
 have h:=h.step
 have e4:=rnum_pn (l:=0) (m:=999) h (by omega) (by omega) (by omega) (by omega)
 have h:=h.step
 have e5:=rnum_pn (l:=1) (m:=mxH) h (by omega) (by simp only[mxH];omega) (by omega) (by omega)
 have h:=h.step
 have e6:=rtext_pt (m:=200) h (by omega) (by omega)
 have h:=h.step
 have e7:=rnum_pn (l:=0) (m:=mxH) h (by omega) (by simp only[mxH];omega) (by omega) (by omega)
 have h:=h.step
 have e8:=rnum_pn (l:=0) (m:=mxH) h (by omega) (by simp only[mxH];omega) (by omega) (by omega)
 simp only[a7y,e1,e2,e3,e4,e5,e6,e7,e8]
 simp only[b0e,List.length_append,Prod.mk.injEq,and_true]
 refine ⟨trivial,by omega⟩
def b0d(e:EvC):List UInt8:=pn e.k++(if e.k=6 then ptx e.e++pn e.ec else if e.k=7 then pn e.h else if e.k=3 then b0e e.p++ptx e.a else b0e e.p)
theorem revent_enc{s:List UInt8}{n:Int}{r:List UInt8}{e:EvC}(he:a1e e=true)(h:Dr s n (b0d e++r)):a1n s (n,0)=(e,n+(b0d e).length,0)∧Dr s (n+(b0d e).length) r:=by
 refine ⟨?_,h.step⟩
 simp only[a1e,Bool.and_eq_true,decide_eq_true_eq]at he
 obtain ⟨⟨hk,hp⟩,hw⟩:=he
 simp only[b0d,List.append_assoc]at h
 have e1:=rnum_pn (l:=1) (m:=7) h hk.1 hk.2 (by omega) (by omega)
 have h:=h.step
 unfold a1n
 simp only[e1]
 unfold b1d at hw
 unfold a2k at hp
 simp only[b0d,List.length_append]
 by_cases h6:e.k=6
 ·rw[if_neg (by omega),if_pos h6]at hw
  rw[if_neg (by omega),if_neg (by omega),if_pos h6]at hp
  rw[if_pos h6,List.append_assoc]at h
  rw[if_pos h6,if_pos h6]
  simp only[a9I,Bool.and_eq_true,decide_eq_true_eq,nameP_iff,b0B]at hw
  have e2:=rtext_pt (m:=12) h (by omega) (by omega)
  have h:=h.step
  have e3:=rnum_pn (l:=0) (m:=999) h hw.1.2 hw.2 hw.1.2 (by omega)
  simp only[e2,e3]
  rw[Prod.mk.injEq]
  refine ⟨hp.symm, ?_⟩
  simp only[List.length_append,Prod.mk.injEq,and_true]
  omega
 rw[if_neg h6]
 rw[if_neg h6]at h
 by_cases h7:e.k=7
 ·rw[if_neg (by omega),if_neg h6,if_pos h7,decide_eq_true_eq]at hw
  rw[if_neg (by omega),if_neg (by omega),if_neg h6,if_pos h7]at hp
  rw[if_pos h7]at h
  rw[if_pos h7,if_neg h6,if_pos h7]
  have e2:=rnum_pn (l:=1) (m:=mxH) h (by omega) (by simp only[mxH];omega) (by omega) (by omega)
  simp only[e2]
  rw[Prod.mk.injEq]
  refine ⟨hp.symm, ?_⟩
  simp only[Prod.mk.injEq,and_true]
  omega
 rw[if_neg h7]
 rw[if_neg h7]at h
 by_cases h3:e.k=3
 ·rw[if_pos h3,Bool.and_eq_true,decide_eq_true_eq]at hw
  rw[if_neg (by omega),if_pos h3]at hp
  rw[if_pos h3,List.append_assoc]at h
  rw[if_pos h3,if_neg h6,if_neg h7,if_pos h3]
  obtain ⟨e2,h⟩:=rpkt_enc hw.1 h
  have e3:=rtext_pt (m:=32) h (by omega) (by omega)
  simp only[e2,e3]
  rw[Prod.mk.injEq]
  refine ⟨hp.symm, ?_⟩
  simp only[List.length_append,Prod.mk.injEq,and_true]
  omega
 rw[if_neg h3,if_neg h6,if_neg h7]at hw
 rw[if_pos (by omega)]at hp
 rw[if_neg h3]at h
 rw[if_neg h3,if_neg h6,if_neg h7,if_neg h3]
 obtain ⟨e2,h⟩:=rpkt_enc hw h
 simp only[e2]
 rw[Prod.mk.injEq]
 refine ⟨hp.symm, ?_⟩
 simp only[Prod.mk.injEq,and_true]
 omega
theorem decE_enc{e:EvC}(he:a1e e=true):a6W (b0d e)=(e,0):=by
 obtain ⟨h1,h2⟩:=revent_enc (s:=b0d e) (n:=0) (r:=[]) he (by rw[List.append_nil];exact Dr.init _)
 unfold a6W
 rw[h1,rend_nil h2]
 rw[if_neg (by simp),if_neg (by simp[he])]
theorem a1N(t:List UInt8):(ptx t).length≤8+t.length:=by have:=a0U t.length;simp[ptx];omega
theorem encP_len{p:PktC}(h:a7a p=true):(b0e p).length≤300:=by
 obtain ⟨a1,a2,a3,a4,a5,a6,a7,a8⟩:=mayK_to h
 have b1:=a1N p.s;have b2:=a0U p.sc;have b3:=a1N p.d;have b4:=a0U p.dc;have b5:=a0U p.q;have b6:=a1N p.x;have b7:=a0U p.th;have b8:=a0U p.ta
 simp only[b0e,List.length_append];omega
theorem encE_len{e:EvC}(he:a1e e=true):(b0d e).length≤400:=by
 simp only[a1e,Bool.and_eq_true,decide_eq_true_eq]at he
 obtain ⟨⟨hk,hp⟩,hw⟩:=he
 have b1:=a0U e.k;have b2:=a1N e.e;have b3:=a0U e.ec;have b4:=a0U e.h;have b5:=a1N e.a
 simp only[b0d,List.length_append]
 unfold b1d at hw
 by_cases h3:e.k=3
 ·rw[if_pos h3,Bool.and_eq_true,decide_eq_true_eq]at hw
  have:=encP_len hw.1
  rw[if_neg (by omega),if_neg (by omega),if_pos h3]
  simp only[List.length_append];omega
 rw[if_neg h3]at hw
 by_cases h6:e.k=6
 ·rw[if_pos h6]at hw ⊢
  simp only[a9I,Bool.and_eq_true,decide_eq_true_eq,nameP_iff,b0B]at hw
  simp only[List.length_append];omega
 rw[if_neg h6]at hw ⊢
 by_cases h7:e.k=7
 ·rw[if_pos h7];omega
 rw[if_neg h7]at hw ⊢
 rw[if_neg h3]
 have:=encP_len hw
 omega
theorem b2r(b:List UInt8):(b0a b).length=4:=by simp[b0a,a6m]
theorem b4V(n:Nat)(h:n≤2147483647):a6x [UInt8.ofNat (n / 16777216),UInt8.ofNat (n / 65536),UInt8.ofNat (n / 256),UInt8.ofNat n]=n:=by
 simp only[a6x,List.foldl_cons,List.foldl_nil,UInt8.toNat_ofNat']
 omega
theorem a9g(b:List UInt8):(b1z b).length=8+b.length∧(b1z b).take 4=[UInt8.ofNat (b.length / 16777216),UInt8.ofNat (b.length / 65536),UInt8.ofNat (b.length / 256),UInt8.ofNat b.length]∧((b1z b).take 8).drop 4=b0a b∧((b1z b).take (8+b.length)).drop 8=b:=by
 have hs:=b2r b
 obtain ⟨q,hq⟩:∃ q,b0a b=q:=⟨_,rfl⟩
 rw[b1z,hq]
 rw[hq]at hs
 obtain ⟨a1,a2,a3,a4,rfl⟩:∃ a1 a2 a3 a4,q=[a1,a2,a3,a4]:=by
  match q,hs with
  | [a1,a2,a3,a4],_=>exact ⟨a1,a2,a3,a4,rfl⟩
 refine ⟨by simp;omega,by simp,by simp, ?_⟩
 rw[show 8+b.length=b.length+8 by omega]
 simp
theorem openF_put{b:List UInt8}(h:b.length≤2147483647):a0F (b1z b)=(b,0):=by
 obtain ⟨h1,h2,h3,h4⟩:=a9g b
 have hn:a4d (b1z b)=(b,((8+b.length:Nat):Int),0):=by
  unfold a4d
  rw[if_neg (by omega),h2,b4V _ h,if_neg (by omega),if_neg (by omega),h4,h3,if_pos rfl]
 unfold a0F
 rw[hn]
 simp only
 rw[if_neg (by simp),if_neg (by omega)]
end
section
open Go.RowKit
set_option maxRecDepth 100000
theorem a5D(s:List UInt8)(hs:s.length≤281474976710656):CP Tryz.prog 112 [.str s] (.str (ptx s)):=b3R s hs
theorem b6B(p:PktC):(b0e p).length≤p.s.length+p.d.length+p.x.length+64:=by
 have b1:=a1N p.s;have b2:=a0U p.sc;have b3:=a1N p.d;have b4:=a0U p.dc;have b5:=a0U p.q;have b6:=a1N p.x;have b7:=a0U p.th;have b8:=a0U p.ta
 simp only[b0e,List.length_append];omega
theorem sxBkd{A B:Prop}(h:B)(e:A=B:=by (simp (disch:=omega) only[*, ↓Ed,Eu, ↓reduceIte,reduceCtorEq,Nat.reduceAdd,Nat.reduceEqDiff,Nat.reduceLT,Nat.reduceLeDiff,Int.reduceToNat,Int.reduceEq,Int.reduceLT,Int.reduceLE,w64,List.length_append,List.length_map,PktC.cs,EvC.cs,Int.reduceAdd,pkz,evz];first|done|rfl)):A:=e▸h
theorem b1v(p:PktC)(h1:p.s.length≤1000000)(h2:p.d.length≤1000000)(h3:p.x.length≤1000000):CP Tryz.prog 178 [.agg p.cs] (.str (b0e p)):=by
 have t1:=a5D p.s (by omega)
 have t2:=a5D p.d (by omega)
 have t3:=a5D p.x (by omega)
 have b1:=a1N p.s;have b2:=a0U p.sc;have b3:=a1N p.d;have b4:=a0U p.dc;have b5:=a0U p.q;have b6:=a1N p.x;have b7:=a0U p.th;have b8:=a0U p.ta
 refine a4S _ _ (by simp) ?_
 simp only[a2P];refine sxBkd ?_
 repeat' ((first|exact tt|refine CallW_intro (t1) ?_|refine CallW_intro (t2) ?_|refine CallW_intro (t3) ?_|refine CallW_intro (a2g _) ?_|refine na fun b=>?_|refine nb fun b hb=>?_|refine iq ?_|(refine jq ?_ ?_<;>intro h h')|refine Two_intro ?_ ?_|exact wZ|fail)<;>try refine sxBkd ?_)
 all_goals simp[b0e,List.append_assoc]
theorem b8B(e:EvC)(h:evS e):CP Tryz.prog 113 [.agg e.cs] (.tup [.str (if a1e e then b0d e else []),.int .i64 (if a1e e then 0 else 1)]):=by
 obtain ⟨h1,h2,h3,h4,h5⟩:=h
 have hM:=a6F e h1 h2 h3 h4 h5
 have hP:=b1v e.p h1 h2 h3
 have t1:=a5D e.e (by omega)
 have t2:=a5D e.a (by omega)
 have b1:=a1N e.e;have b2:=a0U e.k;have b3:=a1N e.a;have b4:=a0U e.ec;have b5:=a0U e.h;have b6:=b6B e.p
 refine a4i _ _ (by simp) ?_
 unfold b0d
 cases hm:a1e e
 ·rw[hm]at hM
  clear hm
  simp only[a0B];refine sxBkd ?_
  repeat' ((first|exact tt|refine CallO_pure (hM) ?_|refine na fun b=>?_|refine nb fun b hb=>?_|refine iq ?_|(refine jq ?_ ?_<;>intro h h')|refine Two_intro ?_ ?_|exact wZ|fail)<;>try refine sxBkd ?_)
  all_goals simp[b0e,List.append_assoc]
 rw[hm]at hM
 clear hm
 by_cases h6:e.k=6
 ·rw[if_pos h6]
  have f6:a0a (decide (e.k=6)=true):=by simp only[a0a,Hn];exact h6
  clear h6
  simp only[a0B];refine sxBkd ?_
  repeat' ((first|exact tt|refine CallO_pure (hM) ?_|refine CallO_pure (a2g _) ?_|refine CallW_intro (t1) ?_|refine CallW_intro (a2g _) ?_|refine na fun b=>?_|refine nb fun b hb=>?_|refine iq ?_|(refine jq ?_ ?_<;>intro h h')|refine Two_intro ?_ ?_|exact wZ|fail)<;>try refine sxBkd ?_)
  all_goals simp[b0e,List.append_assoc]
 rw[if_neg h6]
 have f6:a0a (decide (e.k=6)=false):=by simp only[a0a,Hn];exact h6
 clear h6
 by_cases h7:e.k=7
 ·rw[if_pos h7]
  have f7:a0a (decide (e.k=7)=true):=by simp only[a0a,Hn];exact h7
  clear h7
  simp only[a0B];refine sxBkd ?_
  repeat' ((first|exact tt|refine CallO_pure (hM) ?_|refine CallO_pure (a2g _) ?_|refine CallW_intro (t1) ?_|refine CallW_intro (a2g _) ?_|refine na fun b=>?_|refine nb fun b hb=>?_|refine iq ?_|(refine jq ?_ ?_<;>intro h h')|refine Two_intro ?_ ?_|exact wZ|fail)<;>try refine sxBkd ?_)
  all_goals simp[b0e,List.append_assoc]
 rw[if_neg h7]
 have f7:a0a (decide (e.k=7)=false):=by simp only[a0a,Hn];exact h7
 clear h7
 by_cases h3:e.k=3
 ·rw[if_pos h3]
  have f3:a0a (decide (e.k=3)=true):=by simp only[a0a,Hn];exact h3
  clear h3
  simp only[a0B];refine sxBkd ?_
  repeat' ((first|exact tt|refine CallO_pure (hM) ?_|refine CallO_pure (hP) ?_|refine CallO_pure (a2g _) ?_|refine CallW_intro (t2) ?_|refine CallW_intro (hP) ?_|refine CallW_intro (a2g _) ?_|refine na fun b=>?_|refine nb fun b hb=>?_|refine iq ?_|(refine jq ?_ ?_<;>intro h h')|refine Two_intro ?_ ?_|exact wZ|fail)<;>try refine sxBkd ?_)
  all_goals simp[b0e,List.append_assoc]
 rw[if_neg h3]
 have f3:a0a (decide (e.k=3)=false):=by simp only[a0a,Hn];exact h3
 clear h3
 simp only[a0B];refine sxBkd ?_
 repeat' ((first|exact tt|refine CallO_pure (hM) ?_|refine CallO_pure (hP) ?_|refine CallO_pure (a2g _) ?_|refine CallW_intro (t2) ?_|refine CallW_intro (hP) ?_|refine CallW_intro (a2g _) ?_|refine na fun b=>?_|refine nb fun b hb=>?_|refine iq ?_|(refine jq ?_ ?_<;>intro h h')|refine Two_intro ?_ ?_|exact wZ|fail)<;>try refine sxBkd ?_)
 all_goals simp[b0e,List.append_assoc]
def eight(n:Nat):List UInt8:=[UInt8.ofNat (n / 72057594037927936),UInt8.ofNat (n / 281474976710656),UInt8.ofNat (n / 1099511627776),UInt8.ofNat (n / 4294967296),UInt8.ofNat (n / 16777216),UInt8.ofNat (n / 65536),UInt8.ofNat (n / 256),UInt8.ofNat n]
def eiC(n:Nat)(k:Nat):List AV:=((List.replicate (8 - k) (0:UInt8))++(eight n).drop (8 - k)).map byC
theorem w8m(v:Nat):IntKind.wrap .u8 (Int.tmod (v:Int) 256)=((v % 256:Nat):Int):=by
 rw[Int.tmod_eq_emod_of_nonneg (by omega)]
 show ((v:Int) % 256) % 256=_
 omega
theorem w8d(v:Nat):Int.tdiv (v:Int) 256=((v / 256:Nat):Int):=by
 rw[Int.tdiv_eq_ediv_of_nonneg (by omega)];omega
theorem w8q(v:Nat)(h:v≤72057594037927935):IntKind.wrap .i64 (Int.tdiv (v:Int) 256)=((v / 256:Nat):Int):=by
 rw[w8d]
 exact w64 (by omega)
theorem b6A(n k:Nat)(h:k<8):splice (eiC n k) (7 - k) [.int .u8 ((n / 256 ^ k % 256:Nat):Int)]=eiC n (k+1):=by
 have hc:k=0∨k=1∨k=2∨k=3∨k=4∨k=5∨k=6∨k=7:=by omega
 rcases hc with rfl|rfl|rfl|rfl|rfl|rfl|rfl|rfl
 all_goals simp[eiC,eight,splice,List.replicate,byC]
theorem b6R(n:Nat)(h:n≤72057594037927935):CP Tryz.prog 114 [.int .i64 (n:Int)] (.str (eight n)):=by
 refine a7o _ _ (by simp) ?_
 have f1:a0a (decide ((n:Int)<0)=false):=fo
 have f2:a0a (decide ((72057594037927935:Int)<n)=false):=fo
 simp only[a4q];refine sxBkd ?_
 repeat' ((first|exact tt|refine na fun b=>?_|refine nb fun b hb=>?_|refine iq ?_|(refine jq ?_ ?_<;>intro h h')|refine Two_intro ?_ ?_|exact wZ|fail)<;>try refine sxBkd ?_)
 refine wpx_loop (fun k:Nat=>⟨lk [(0,.int .i64 ((n / 256 ^ k:Nat):Int)),(3,.osl b 0 8),(4,.int .i64 (7 - (k:Int)))],lk [(b,eiC n k)]⟩) (fun k=>k≤8) (fun k=>8 - k) 0 (by omega) (Le_lit (by simp[LeL,lk,eiC,byC,eight,List.replicate])) ?_
 clear f1 f2
 intro k hk
 by_cases hk8:k<8
 rotate_left
 ·obtain rfl:k=8:=by omega
  have f1:a0a (decide ((0:Int)≤7 - ((8:Nat):Int))=false):=by simp[a0a]
  refine sxBkd ?_
  repeat' ((first|exact tt|refine BytesO_intro (eight n) rfl rfl ?_|refine na fun b=>?_|refine nb fun b hb=>?_|refine iq ?_|(refine jq ?_ ?_<;>intro h h')|refine Two_intro ?_ ?_|exact wZ|fail)<;>try refine sxBkd ?_)
 have f1:a0a (decide ((0:Int)≤7 - (k:Int))=true):=fo
 have e0:(7 - (k:Int)).toNat * 1=7 - k:=by omega
 have e1:=w8q (n / 256 ^ k) (Nat.le_trans (Nat.div_le_self _ _) h)
 have e2:n / 256 ^ k / 256=n / 256 ^ (k+1):=by rw[Nat.div_div_eq_div_mul, ← Nat.pow_succ]
 have e3:=b6A n k hk8
 have e4:7 - (k:Int) - 1=7 - ((k+1:Nat):Int):=by omega
 have e5:7 - k+1≤(eiC n k).length:=by simp[eiC,eight]
 refine sxBkd ?_
 repeat' ((first|exact tt|refine na fun b=>?_|refine nb fun b hb=>?_|refine iq ?_|(refine jq ?_ ?_<;>intro h h')|refine Two_intro ?_ ?_|exact wZ|fail)<;>try refine sxBkd ?_)
 rw[w8m,e3]
 exact Round_lit (k+1) ⟨Le_lit (by simp[LeL,lk]),by omega,by omega⟩
theorem b6S(s:List UInt8)(h:s.length≤2147483647):CP Tryz.prog 57 [.str s] (.tup [.str (b1z s),.int .i64 0]):=by
 have hE:=b6R s.length (by omega)
 have hF:=b6c s (by omega)
 have h4:=b2r s
 have e4:(eight s.length).length=8:=rfl
 have f1:a0a (decide ((2147483647:Int)<s.length)=false):=fo
 have h6:(((eight s.length).take 8).drop 4).length=4:=rfl
 have e5:((eight s.length).take 8).drop 4++b0a s++s=b1z s:=by simp[eight,b1z]
 refine a7p _ _ (by simp) ?_
 simp only[a4r];refine sxBkd ?_
 repeat' ((first|exact tt|refine CallW_intro (hE) ?_|refine CallW_intro (hF) ?_|refine na fun b=>?_|refine nb fun b hb=>?_|refine iq ?_|(refine jq ?_ ?_<;>intro h h')|refine Two_intro ?_ ?_|exact wZ|fail)<;>try refine sxBkd ?_)
end
section
open Go.RowKit
set_option maxRecDepth 100000
def a8E(l:List EvC):List UInt8:=(l.map fun e=>ptx (b0d e)).flatten
theorem encL_take{l:List EvC}{k:Nat}(h:k<l.length):a8E (l.take (k+1))=a8E (l.take k)++ptx (b0d (l.getD k default)):=by
 rw[List.take_succ,List.getElem?_eq_getElem h]
 simp only[a8E,Option.toList_some,List.map_append,List.map_cons,List.map_nil,List.flatten_append,List.flatten_cons,List.flatten_nil,List.append_nil]
 simp[List.getD,h]
theorem a9w:∀ {l:List EvC},l.all a1e=true→(a8E l).length≤408 * l.length
 | [],_=>by simp[a8E]
 | e::l,h=>by
  rw[List.all_cons,Bool.and_eq_true]at h
  have h1:=a9w h.2
  have h2:=encE_len h.1
  have h3:=a1N (b0d e)
  simp only[a8E,List.map_cons,List.flatten_cons,List.length_append,List.length_cons]at *
  omega
def a8A(b:BlkC):List UInt8:=ptx b.c++pn b.h++pn b.t++pn b.e.length++a8E b.e
theorem mayB_to{b:BlkC}(h:a3J b=true):a2T b.c=true∧b.c.length≤12∧(1≤b.h∧b.h≤1099511627776)∧(0≤b.t∧b.t≤1099511627776)∧b.e.length≤1073741824∧b.e.all a1e=true:=by
 simp only[a3J,Bool.and_eq_true,decide_eq_true_eq]at h
 obtain ⟨⟨⟨h1,h2⟩,h3⟩,h4,h5⟩:=h
 exact ⟨h1,(nameP_iff.1 h1).2.1,h2,h3,h4,h5⟩
theorem rdEvs_enc{s:List UInt8}:∀ {l:List EvC} {n:Int} {r:List UInt8} (L:List EvC),l.all a1e=true→Dr s n (a8E l++r)→a3n s l.length (n,0) L=(L++l,(n+(a8E l).length,0),0)∧Dr s (n+(a8E l).length) r
 | [],n,r,L,_,h=>by
  refine ⟨?_,h.step⟩
  simp[a3n,a8E]
 | e::l,n,r,L,ha,h=>by
  refine ⟨?_,h.step⟩
  rw[List.all_cons,Bool.and_eq_true]at ha
  have e0:a8E (e::l)=ptx (b0d e)++a8E l:=rfl
  rw[e0,List.append_assoc]at h
  have hl:=encE_len ha.1
  have e1:=rtext_pt (m:=1000) h (by omega) (by omega)
  have h2:=h.step
  rw[List.length_cons,a3n,e1]
  simp only[decE_enc ha.1]
  rw[if_neg (by simp),if_neg (by simp),(rdEvs_enc (L++[e]) ha.2 h2).1,e0]
  simp only[List.length_append,Prod.mk.injEq,and_true]
  refine ⟨by simp,by omega⟩
theorem decB_enc{b:BlkC}(h:a3J b=true):a3z (a8A b)=(b,0):=by
 obtain ⟨h1,h2,h3,h4,h5,h6⟩:=mayB_to h
 have d0:Dr (a8A b) 0 (a8A b):=Dr.init _
 rw[show a8A b=ptx b.c++(pn b.h++(pn b.t++(pn b.e.length++(a8E b.e++[])))) by simp[a8A]]at d0
 rw[show ptx b.c++(pn b.h++(pn b.t++(pn b.e.length++(a8E b.e++[]))))=a8A b by simp[a8A]]at d0
 have d0:Dr (a8A b) 0 (ptx b.c++(pn b.h++(pn b.t++(pn b.e.length++(a8E b.e++[]))))):=by
  have e:ptx b.c++(pn b.h++(pn b.t++(pn b.e.length++(a8E b.e++[]))))=a8A b:=by simp[a8A]
  rw[e];exact Dr.init _
 have e1:=rtext_pt (m:=12) d0 (by omega) (by omega)
 have d1:=d0.step
 have e2:=rnum_pn (l:=1) (m:=mxH) d1 h3.1 h3.2 (by omega) (by omega)
 have d2:=d1.step
 have e3:=rnum_pn (l:=0) (m:=mxH) d2 h4.1 h4.2 (by omega) (by omega)
 have d3:=d2.step
 have e4:=rcount_pn (m:=1073741824) d3 (by omega) (by omega) (by omega)
 have d4:=d3.step
 obtain ⟨e5,d5⟩:=rdEvs_enc [] h6 d4
 unfold a3z
 simp only[e1,e2,e3,e4,Int.toNat_natCast,e5]
 unfold b2U b2J
 simp only[rend_nil d5,List.nil_append]
 rw[if_neg (by simp),if_neg (by simp),if_neg (by simp[h])]
theorem sxBke{A B:Prop}(h:B)(e:A=B:=by (simp (disch:=omega) only[*, ↓Ed,Eu, ↓reduceIte,reduceCtorEq,Nat.reduceAdd,Nat.reduceEqDiff,Nat.reduceLT,Nat.reduceLeDiff,Int.reduceToNat,Int.reduceEq,Int.reduceLT,Int.reduceLE,w64,List.length_append,List.length_map,PktC.cs,EvC.cs,BlkC.cs,Int.reduceAdd,a0D,gdE];first|done|rfl)):A:=e▸h
theorem b8A(q:BlkC)(hc:q.c.length≤1000000)(hE:a8F q.e)(hl:q.e.length≤100000):CP Tryz.prog 56 [.agg q.cs] (.tup [.str (if a3J q then a8A q else []),.int .i64 (if a3J q then 0 else 1)]):=by
 have hM:=b4a q hc hE
 refine a4h _ _ (by simp) ?_
 cases hm:a3J q
 ·rw[hm]at hM
  clear hm
  simp only[a1z];refine sxBke ?_
  repeat' ((first|exact tt|refine CallO_pure (hM) ?_|refine na fun b=>?_|refine nb fun b hb=>?_|refine iq ?_|(refine jq ?_ ?_<;>intro h h')|refine Two_intro ?_ ?_|exact wZ|fail)<;>try refine sxBke ?_)
 obtain ⟨-,h2, -, -, -,h6⟩:=mayB_to hm
 rw[hm]at hM
 clear hm
 rw[if_pos rfl,if_pos rfl]
 have t1:=a5D q.c (by omega)
 have b1:=a1N q.c
 have b2:=a0U q.h
 have b3:=a0U q.t
 have b4:=a0U q.e.length
 simp only[a1z];refine sxBke ?_
 repeat' ((first|exact tt|refine CallO_pure (hM) ?_|refine CallW_intro (t1) ?_|refine CallW_intro (a2g _) ?_|refine na fun b=>?_|refine nb fun b hb=>?_|refine iq ?_|(refine jq ?_ ?_<;>intro h h')|refine Two_intro ?_ ?_|exact wZ|fail)<;>try refine sxBke ?_)
 obtain ⟨pre,hpre⟩:∃ pre,ptx q.c++pn q.h++pn q.t++pn q.e.length=pre:=⟨_,rfl⟩
 have hq:a8A q=pre++a8E q.e:=by rw[← hpre];rfl
 have hpl:pre.length≤100:=by rw[← hpre];simp only[List.length_append];omega
 rw[hpre,hq]
 clear hpre hq t1 b1 b2 b3 b4 hM
 obtain ⟨c,h,t,l⟩:=q
 simp only at hc hE hl h2 h6 ⊢
 refine wpx_loop (fun k:Nat=>⟨lk [(1,.ptr b 0),(4,.str (pre++a8E (l.take k))),(5,.int .i64 (k:Int))],lk [(b,BlkC.cs ⟨c,h,t,l⟩)]⟩) (fun k=>k≤l.length) (fun k=>l.length - k) 0 (by omega) (Le_lit (by simp[LeL,lk,a8E])) ?_
 intro k hk
 by_cases hkl:k<l.length
 rotate_left
 ·obtain rfl:k=l.length:=by omega
  have f1:a0a (decide ((l.length:Int)<l.length)=false):=fo
  rw[List.take_length]
  clear h6 hE
  refine sxBke ?_
  repeat' ((first|exact tt|refine na fun b=>?_|refine nb fun b hb=>?_|refine iq ?_|(refine jq ?_ ?_<;>intro h h')|refine Two_intro ?_ ?_|exact wZ|fail)<;>try refine sxBke ?_)
 have f1:a0a (decide ((k:Int)<l.length)=true):=fo
 have hme:a1e (l.getD k default)=true:=by
  rw[List.all_eq_true]at h6
  exact h6 _ (by simp[List.getD,hkl])
 have hX:=b8B _ (hE.2 k hkl)
 rw[hme,if_pos rfl,if_pos rfl]at hX
 have hxl:=encE_len hme
 have hP:=a5D (b0d (l.getD k default)) (by omega)
 have hpx:=a1N (b0d (l.getD k default))
 have hta:=encL_take hkl
 have htl:(a8E (l.take k)).length≤408 * l.length:=by
  have:(l.take k).all a1e=true:=by
   rw[List.all_eq_true]at h6 ⊢
   exact fun x hx=>h6 x (List.mem_of_mem_take hx)
  have:=a9w this
  simp only[List.length_take]at this
  omega
 clear h6 hE hme
 generalize hx:l.getD k default=x at *
 generalize b0d x=ex at *
 generalize hz:ptx ex=z at *
 refine sxBke ?_
 repeat' ((first|exact tt|refine CallO_pure (hX) ?_|refine CallO_pure (hP) ?_|refine na fun b=>?_|refine nb fun b hb=>?_|refine iq ?_|(refine jq ?_ ?_<;>intro h h')|refine Two_intro ?_ ?_|exact wZ|fail)<;>try refine sxBke ?_)
 all_goals exact Round_lit (k+1) ⟨Le_lit (by simp[LeL,lk,hta]),by omega,by omega⟩
end
section
open Go.RowKit
theorem row_own{w W W':World}{row:Option Nat}{e:TypeId}{size k:Nat}{v:Value}{xs:List Value}(h:W.ownsRow w.heap.size e size v k xs)(hg:W.grownBy W' row)(hr:∀ r,row=some r→∃ o:Obj,W.heap[r]?=some o∧o.isCells=false):W'.ownsRow w.heap.size e size v k xs:=by
 refine h.kept hg ?_
 rcases h.2 with ⟨rfl,_⟩ | ⟨g,cap,cur,rfl,_,hgb,_⟩
 ·exact .inl rfl
 ·refine .inr fun e'=>?_
  obtain ⟨o,ho,hc⟩:=hr g (by simpa[Value.ownBlock]using e'.symm)
  rw[hgb]at ho;cases ho;cases hc
end
end Go.Proofs.YtgdhinnepnlihaaGreatDoor
namespace Go.Proofs
open Go.Shelf
def Tryz.sort106_ren:Go.Shelf.Ren:=⟨fun|6=>106|15=>176|14=>175|28=>222|29=>223|20=>214|21=>215|22=>216|23=>217|24=>218|25=>219|26=>220|27=>221|46=>268|47=>269|48=>270|49=>271|50=>272|57=>299|n=>n,fun|22=>106|24=>56|25=>192|3=>3|39=>236|0=>0|53=>295|55=>235|4=>4|46=>289|45=>288|50=>171|5=>5|9=>9|66=>329|70=>333|76=>355|77=>261|n=>n,fun|n=>n⟩
theorem Tryz.sort106:Go.Proofs.SlLaysF0.n6 Tryz.prog Tryz.sort106_ren:={
 mixed:=by kernel_rfl
 f6:=⟨Tryz.f106.name,by decide,Tryz.func106.trans (congrArg some (by kernel_rfl))⟩
 f14:=⟨Tryz.f175.name,by decide,Tryz.func175.trans (congrArg some (by kernel_rfl))⟩
 f15:=Tryz.func176.trans (congrArg some (by kernel_rfl))
 f20:=⟨Tryz.f214.name,by decide,Tryz.func214.trans (congrArg some (by kernel_rfl))⟩
 f21:=⟨Tryz.f215.name,by decide,Tryz.func215.trans (congrArg some (by kernel_rfl))⟩
 f22:=⟨Tryz.f216.name,by decide,Tryz.func216.trans (congrArg some (by kernel_rfl))⟩
 f23:=⟨Tryz.f217.name,by decide,Tryz.func217.trans (congrArg some (by kernel_rfl))⟩
 f24:=⟨Tryz.f218.name,by decide,Tryz.func218.trans (congrArg some (by kernel_rfl))⟩
 f25:=⟨Tryz.f219.name,by decide,Tryz.func219.trans (congrArg some (by kernel_rfl))⟩
 f26:=⟨Tryz.f220.name,by decide,Tryz.func220.trans (congrArg some (by kernel_rfl))⟩
 f27:=⟨Tryz.f221.name,by decide,Tryz.func221.trans (congrArg some (by kernel_rfl))⟩
 f28:=Tryz.func222.trans (congrArg some (by kernel_rfl))
 f29:=Tryz.func223.trans (congrArg some (by kernel_rfl))
 f46:=⟨Tryz.f268.name,by decide,Tryz.func268.trans (congrArg some (by kernel_rfl))⟩
 f47:=Tryz.func269.trans (congrArg some (by kernel_rfl))
 f48:=Tryz.func270.trans (congrArg some (by kernel_rfl))
 f49:=⟨Tryz.f271.name,by decide,Tryz.func271.trans (congrArg some (by kernel_rfl))⟩
 f50:=⟨Tryz.f272.name,by decide,Tryz.func272.trans (congrArg some (by kernel_rfl))⟩
 f57:=⟨Tryz.f299.name,by decide,Tryz.func299.trans (congrArg some (by kernel_rfl))⟩
 t0:=Tryz.underlying0
 a0:=Tryz.isAgg0
 z0:=Tryz.sizeOf0
 v0:=Tryz.zeroValue0
 t3:=Tryz.underlying3
 a3:=Tryz.isAgg3
 z3:=Tryz.sizeOf3
 v3:=Tryz.zeroValue3
 t4:=Tryz.underlying4
 a4:=Tryz.isAgg4
 z4:=Tryz.sizeOf4
 v4:=Tryz.zeroValue4
 t5:=Tryz.underlying5
 a5:=Tryz.isAgg5
 z5:=Tryz.sizeOf5
 v5:=Tryz.zeroValue5
 t9:=Tryz.underlying9
 a9:=Tryz.isAgg9
 z9:=Tryz.sizeOf9
 v9:=Tryz.zeroValue9
 t22:=Tryz.underlying106
 a22:=Tryz.isAgg106
 z22:=Tryz.sizeOf106
 v22:=Tryz.zeroValue106
 t25:=Tryz.underlying192
 a25:=Tryz.isAgg192
 z25:=Tryz.sizeOf192
 v25:=Tryz.zeroValue192
 t39:=Tryz.underlying236
 a39:=Tryz.isAgg236
 z39:=Tryz.sizeOf236
 v39:=Tryz.zeroValue236
 t45:=Tryz.underlying288
 a45:=Tryz.isAgg288
 z45:=Tryz.sizeOf288
 v45:=Tryz.zeroValue288
 t46:=Tryz.underlying289
 a46:=Tryz.isAgg289
 z46:=Tryz.sizeOf289
 v46:=Tryz.zeroValue289
 t50:=Tryz.underlying171
 a50:=Tryz.isAgg171
 z50:=Tryz.sizeOf171
 v50:=Tryz.zeroValue171
 t53:=Tryz.underlying295
 a53:=Tryz.isAgg295
 z53:=Tryz.sizeOf295
 v53:=Tryz.zeroValue295
 t55:=Tryz.underlying235
 a55:=Tryz.isAgg235
 z55:=Tryz.sizeOf235
 v55:=Tryz.zeroValue235
 t66:=Tryz.underlying329
 a66:=Tryz.isAgg329
 z66:=Tryz.sizeOf329
 v66:=Tryz.zeroValue329
 t70:=Tryz.underlying333
 a70:=Tryz.isAgg333
 z70:=Tryz.sizeOf333
 v70:=Tryz.zeroValue333
 t76:=Tryz.underlying355
 a76:=Tryz.isAgg355
 z76:=Tryz.sizeOf355
 v76:=Tryz.zeroValue355
 t77:=Tryz.underlying261
 a77:=Tryz.isAgg261
 z77:=Tryz.sizeOf261
 v77:=Tryz.zeroValue261 }
def Tryz.sort139_ren:Go.Shelf.Ren:=⟨fun|6=>139|15=>176|14=>194|28=>222|29=>223|20=>241|21=>242|22=>243|23=>244|24=>245|25=>246|26=>247|27=>248|46=>284|47=>269|48=>270|49=>285|50=>286|57=>308|n=>n,fun|22=>53|24=>64|25=>151|3=>3|39=>236|0=>0|53=>295|55=>235|4=>4|46=>289|45=>288|50=>171|5=>5|9=>9|66=>329|70=>333|76=>355|77=>261|n=>n,fun|n=>n⟩
theorem Tryz.sort139:Go.Proofs.SlLaysF0.n6 Tryz.prog Tryz.sort139_ren:={
 mixed:=by kernel_rfl
 f6:=⟨Tryz.f139.name,by decide,Tryz.func139.trans (congrArg some (by kernel_rfl))⟩
 f14:=⟨Tryz.f194.name,by decide,Tryz.func194.trans (congrArg some (by kernel_rfl))⟩
 f15:=Tryz.func176.trans (congrArg some (by kernel_rfl))
 f20:=⟨Tryz.f241.name,by decide,Tryz.func241.trans (congrArg some (by kernel_rfl))⟩
 f21:=⟨Tryz.f242.name,by decide,Tryz.func242.trans (congrArg some (by kernel_rfl))⟩
 f22:=⟨Tryz.f243.name,by decide,Tryz.func243.trans (congrArg some (by kernel_rfl))⟩
 f23:=⟨Tryz.f244.name,by decide,Tryz.func244.trans (congrArg some (by kernel_rfl))⟩
 f24:=⟨Tryz.f245.name,by decide,Tryz.func245.trans (congrArg some (by kernel_rfl))⟩
 f25:=⟨Tryz.f246.name,by decide,Tryz.func246.trans (congrArg some (by kernel_rfl))⟩
 f26:=⟨Tryz.f247.name,by decide,Tryz.func247.trans (congrArg some (by kernel_rfl))⟩
 f27:=⟨Tryz.f248.name,by decide,Tryz.func248.trans (congrArg some (by kernel_rfl))⟩
 f28:=Tryz.func222.trans (congrArg some (by kernel_rfl))
 f29:=Tryz.func223.trans (congrArg some (by kernel_rfl))
 f46:=⟨Tryz.f284.name,by decide,Tryz.func284.trans (congrArg some (by kernel_rfl))⟩
 f47:=Tryz.func269.trans (congrArg some (by kernel_rfl))
 f48:=Tryz.func270.trans (congrArg some (by kernel_rfl))
 f49:=⟨Tryz.f285.name,by decide,Tryz.func285.trans (congrArg some (by kernel_rfl))⟩
 f50:=⟨Tryz.f286.name,by decide,Tryz.func286.trans (congrArg some (by kernel_rfl))⟩
 f57:=⟨Tryz.f308.name,by decide,Tryz.func308.trans (congrArg some (by kernel_rfl))⟩
 t0:=Tryz.underlying0
 a0:=Tryz.isAgg0
 z0:=Tryz.sizeOf0
 v0:=Tryz.zeroValue0
 t3:=Tryz.underlying3
 a3:=Tryz.isAgg3
 z3:=Tryz.sizeOf3
 v3:=Tryz.zeroValue3
 t4:=Tryz.underlying4
 a4:=Tryz.isAgg4
 z4:=Tryz.sizeOf4
 v4:=Tryz.zeroValue4
 t5:=Tryz.underlying5
 a5:=Tryz.isAgg5
 z5:=Tryz.sizeOf5
 v5:=Tryz.zeroValue5
 t9:=Tryz.underlying9
 a9:=Tryz.isAgg9
 z9:=Tryz.sizeOf9
 v9:=Tryz.zeroValue9
 t22:=Tryz.underlying53
 a22:=Tryz.isAgg53
 z22:=Tryz.sizeOf53
 v22:=Tryz.zeroValue53
 t25:=Tryz.underlying151
 a25:=Tryz.isAgg151
 z25:=Tryz.sizeOf151
 v25:=Tryz.zeroValue151
 t39:=Tryz.underlying236
 a39:=Tryz.isAgg236
 z39:=Tryz.sizeOf236
 v39:=Tryz.zeroValue236
 t45:=Tryz.underlying288
 a45:=Tryz.isAgg288
 z45:=Tryz.sizeOf288
 v45:=Tryz.zeroValue288
 t46:=Tryz.underlying289
 a46:=Tryz.isAgg289
 z46:=Tryz.sizeOf289
 v46:=Tryz.zeroValue289
 t50:=Tryz.underlying171
 a50:=Tryz.isAgg171
 z50:=Tryz.sizeOf171
 v50:=Tryz.zeroValue171
 t53:=Tryz.underlying295
 a53:=Tryz.isAgg295
 z53:=Tryz.sizeOf295
 v53:=Tryz.zeroValue295
 t55:=Tryz.underlying235
 a55:=Tryz.isAgg235
 z55:=Tryz.sizeOf235
 v55:=Tryz.zeroValue235
 t66:=Tryz.underlying329
 a66:=Tryz.isAgg329
 z66:=Tryz.sizeOf329
 v66:=Tryz.zeroValue329
 t70:=Tryz.underlying333
 a70:=Tryz.isAgg333
 z70:=Tryz.sizeOf333
 v70:=Tryz.zeroValue333
 t76:=Tryz.underlying355
 a76:=Tryz.isAgg355
 z76:=Tryz.sizeOf355
 v76:=Tryz.zeroValue355
 t77:=Tryz.underlying261
 a77:=Tryz.isAgg261
 z77:=Tryz.sizeOf261
 v77:=Tryz.zeroValue261 }
end Go.Proofs
