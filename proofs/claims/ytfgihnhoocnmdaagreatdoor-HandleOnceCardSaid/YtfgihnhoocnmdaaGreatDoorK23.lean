import Derived.Test.YtfgihnhoocnmdaaGreatDoorK22
namespace Go.Proofs.YtfgihnhoocnmdaaGreatDoor
set_option linter.all false
set_option maxHeartbeats 64000000
set_option maxRecDepth 100000
open Go.RowKit
section
open Go.RowKit Go.Lib
def Hy(l:List PktC):List (List AV):=l.map PktC.cs
theorem Tu(l:List PktC):(Hy l).length=l.length:=by simp[Hy]
theorem Tt(l:List PktC)(i:Nat)(h:i<l.length):(Hy l).getD i []=(l.getD i default).cs:=by simp[Hy,h]
abbrev IQ(l:List Int):List (List AV):=l.map fun v=>[.int .i64 v]
structure GvC where
 e:List GnC
 k:List PktC
 m:List PrP
 o:List PrP
 n:List Int
 a:Int
 ht:Int
 tm:Int
abbrev GvC.cs(x:GvC):List AV:=[.sl none 6 (CL x.e),.sl none 8 (Hy x.k),.sl none 2 (AX x.m),.sl none 2 (AX x.o),.sl none 1 (IQ x.n),.int .i64 x.a,.int .i64 x.ht,.int .i64 x.tm]
def GK(l:List PrP):Prop:=l.length≤40∧∀ i,i<l.length→(l.getD i default).1.length≤300∧(l.getD i default).2.length≤200
def HX(p:PktC):Prop:=p.s.length≤60∧p.d.length≤60∧p.x.length≤600
def HY(x:GvC):Prop:=Ku x.e∧x.k.length≤10∧GK x.m∧GK x.o∧x.n.length≤10∧∀ i,i<x.k.length→HX (x.k.getD i default)
theorem FX{A B:Prop}(h:B)(e:A=B:=by (simp (disch:=omega) only[*, ↓Ed,Eu, ↓reduceIte,reduceCtorEq,Nat.reduceAdd,Nat.reduceEqDiff,Nat.reduceLT,Nat.reduceLeDiff,Int.reduceToNat,Int.reduceEq,Int.reduceLT,Int.reduceLE,Ap,Gd,Gc,GnC.cs,Df,Dw,Tu,Tt,PktC.cs,GvC.cs];first|done|rfl)):A:=e▸h
open Classical in
theorem Zh(p:PktC):CP Tryz.prog 29 [.agg p.cs] (.bool (decide (HX p))):=by
 refine a6b _ _ (by simp) ?_
 by_cases h:HX p
 ·rw[AO h]
  obtain ⟨h1,h2,h3⟩:=h
  simp only[Ra];refine FX ?_
  repeat' ((first|exact tt|refine na fun b=>?_|refine nb fun b hb=>?_|refine iq ?_|(refine jq ?_ ?_<;>intro h h')|exact wZ|refine Aa ?_ ?_)<;>try refine FX ?_)
  all_goals (simp only[Ac,Hn]at *;omega)
 ·rw[A0 h]
  have h':¬ (p.s.length≤60∧p.d.length≤60∧p.x.length≤600):=h
  clear h
  simp only[Ra];refine FX ?_
  repeat' ((first|exact tt|refine na fun b=>?_|refine nb fun b hb=>?_|refine iq ?_|(refine jq ?_ ?_<;>intro h h')|exact wZ|refine Aa ?_ ?_)<;>try refine FX ?_)
  all_goals (simp only[Ac,Hn]at *;omega)
open Classical in
theorem Zi(l:List PrP):CP Tryz.prog 28 [.sl none 2 (AX l)] (.bool (decide (GK l))):=by
 refine a6c _ _ (by simp) ?_
 by_cases h10:l.length≤40
 ·simp only[Rb];refine FX ?_
  repeat' ((first|exact tt|refine na fun b=>?_|refine nb fun b hb=>?_|refine iq ?_|(refine jq ?_ ?_<;>intro h h')|exact wZ|refine Aa ?_ ?_)<;>try refine FX ?_)
  refine A2 (fun i:Nat=>⟨lk [(0,.sl none 2 (AX l)),(3,.int .i64 (i:Int))],lk []⟩) (fun i=>i≤l.length∧Ac (∀ j,j<i→(l.getD j default).1.length≤300∧(l.getD j default).2.length≤200)) (fun i=>l.length - i) 0 ⟨by omega,fun j hj=>by omega⟩ (An Mc) ?_
  intro i ⟨i1,i2⟩
  by_cases hil:i<l.length
  ·have f1:Ac (decide ((i:Int)<l.length)=true):=fo
   by_cases hq:(l.getD i default).1.length≤300∧(l.getD i default).2.length≤200
   ·have i3:Ac (∀ j,j<i+1→(l.getD j default).1.length≤300∧(l.getD j default).2.length≤200):=fun j hj=>by
     by_cases e:j<i
     ·exact i2 j e
     ·obtain rfl:j=i:=by omega
      exact hq
    obtain ⟨⟨k,v⟩,hgd⟩:∃ a,l.getD i default=a:=⟨_,rfl⟩
    rw[hgd]at hq
    obtain ⟨q1,q2⟩:=hq
    simp only at q1 q2
    clear i2
    generalize decide (GK l)=res at *
    refine FX ?_
    repeat' ((first|exact tt|refine na fun b=>?_|refine nb fun b hb=>?_|refine iq ?_|(refine jq ?_ ?_<;>intro h h')|exact wZ|refine Aa ?_ ?_)<;>try refine FX ?_)
    all_goals exact AC (i+1) ⟨An Mc,⟨hil,i3⟩,by omega⟩
   ·rw[A0 (fun h=>hq (h.2 i hil))]
    obtain ⟨⟨k,v⟩,hgd⟩:∃ a,l.getD i default=a:=⟨_,rfl⟩
    rw[hgd]at hq
    simp only at hq
    clear i2
    refine FX ?_
    repeat' ((first|exact tt|refine na fun b=>?_|refine nb fun b hb=>?_|refine iq ?_|(refine jq ?_ ?_<;>intro h h')|exact wZ|refine Aa ?_ ?_)<;>try refine FX ?_)
    all_goals (simp only[Ac,Hn]at *;omega)
  ·obtain rfl:i=l.length:=by omega
   have f1:Ac (decide ((l.length:Int)<l.length)=false):=fo
   have hls:GK l:=⟨h10,i2⟩
   rw[AO hls]
   clear hls
   clear i2
   refine FX ?_
   repeat' ((first|exact tt|refine na fun b=>?_|refine nb fun b hb=>?_|refine iq ?_|(refine jq ?_ ?_<;>intro h h')|exact wZ|refine Aa ?_ ?_)<;>try refine FX ?_)
 ·rw[A0 (fun h=>h10 h.1)]
  simp only[Rb];refine FX ?_
  repeat' ((first|exact tt|refine na fun b=>?_|refine nb fun b hb=>?_|refine iq ?_|(refine jq ?_ ?_<;>intro h h')|exact wZ|refine Aa ?_ ?_)<;>try refine FX ?_)
end
section
open Go.RowKit Go.Lib
theorem Ie{A B:Prop}(h:B)(e:A=B:=by (simp (disch:=omega) only[*, ↓Ed,Eu, ↓reduceIte,reduceCtorEq,Nat.reduceAdd,Nat.reduceEqDiff,Nat.reduceLT,Nat.reduceLeDiff,Int.reduceToNat,Int.reduceEq,Int.reduceLT,Int.reduceLE,Ap,Gd,Gc,GnC.cs,Df,Dw,Tu,Tt,PktC.cs,GvC.cs,Ax];first|done|rfl)):A:=e▸h
open Classical in
theorem a8L(x:GvC):CP Tryz.prog 9 [.agg x.cs] (.bool (decide (HY x))):=by
 have hL:=a8N x.e
 have hM:=Zi x.m
 have hO:=Zi x.o
 refine a6j _ _ (by simp) ?_
 by_cases h:Ku x.e∧x.k.length≤10∧GK x.m∧GK x.o∧x.n.length≤10
 ·obtain ⟨h1,h2,h3,h4,h5⟩:=h
  rw[AO h1]at hL
  rw[AO h3]at hM
  rw[AO h4]at hO
  obtain ⟨e,k,m,o,n,a,ht,tm⟩:=x
  simp only at h1 h2 h3 h4 h5 hL hM hO
  have hV:∀ P:Prop,(P↔∀ i,i<k.length→HX (k.getD i default))→(HY ⟨e,k,m,o,n,a,ht,tm⟩↔P):=fun P hp=>by
   rw[hp];exact ⟨fun h=>h.2.2.2.2.2,fun h=>⟨h1,h2,h3,h4,h5,h⟩⟩
  clear h1 h3 h4
  simp only[Rf];refine Ie ?_
  repeat' ((first|exact tt|refine Ab hL ?_|refine Ab hM ?_|refine Ab hO ?_|refine na fun b=>?_|refine nb fun b hb=>?_|refine iq ?_|(refine jq ?_ ?_<;>intro h h')|exact wZ|refine Aa ?_ ?_)<;>try refine Ie ?_)
  rename Nat=>b
  refine A2 (fun i:Nat=>⟨lk [(1,.ptr b 0),(3,.int .i64 (i:Int))],lk [(b,[.sl none 6 (CL e),.sl none 8 (Hy k),.sl none 2 (AX m),.sl none 2 (AX o),.sl none 1 (IQ n),.int .i64 a,.int .i64 ht,.int .i64 tm])]⟩) (fun i=>i≤k.length∧Ac (∀ j,j<i→HX (k.getD j default))) (fun i=>k.length - i) 0 ⟨by omega,fun j hj=>by omega⟩ (An Mc) ?_
  intro i ⟨i1,i2⟩
  by_cases hil:i<k.length
  ·have f1:Ac (decide ((i:Int)<k.length)=true):=fo
   have hK:=Zh (k.getD i default)
   by_cases hq:HX (k.getD i default)
   ·rw[AO hq]at hK
    have i3:Ac (∀ j,j<i+1→HX (k.getD j default)):=fun j hj=>by
     by_cases e:j<i
     ·exact i2 j e
     ·obtain rfl:j=i:=by omega
      exact hq
    obtain ⟨p,hgd⟩:∃ p,k.getD i default=p:=⟨_,rfl⟩
    rw[hgd]at hK
    clear i2 hq hV
    generalize decide (HY ⟨e,k,m,o,n,a,ht,tm⟩)=res at *
    refine Ie ?_
    repeat' ((first|exact tt|refine Ab hK ?_|refine na fun b=>?_|refine nb fun b hb=>?_|refine iq ?_|(refine jq ?_ ?_<;>intro h h')|exact wZ|refine Aa ?_ ?_)<;>try refine Ie ?_)
    all_goals exact AC (i+1) ⟨An Mc,⟨hil,i3⟩,by omega⟩
   ·rw[A0 hq]at hK
    rw[A0 (fun h=>hq (h.2.2.2.2.2 i hil))]
    obtain ⟨p,hgd⟩:∃ p,k.getD i default=p:=⟨_,rfl⟩
    rw[hgd]at hK
    clear i2 hq hV
    refine Ie ?_
    repeat' ((first|exact tt|refine Ab hK ?_|refine na fun b=>?_|refine nb fun b hb=>?_|refine iq ?_|(refine jq ?_ ?_<;>intro h h')|exact wZ|refine Aa ?_ ?_)<;>try refine Ie ?_)
  ·obtain rfl:i=k.length:=by omega
   have f1:Ac (decide ((k.length:Int)<k.length)=false):=fo
   rw[AO ((hV True ⟨fun _=>i2,fun _=>trivial⟩).2 trivial)]
   clear i2 hV
   refine Ie ?_
   repeat' ((first|exact tt|refine na fun b=>?_|refine nb fun b hb=>?_|refine iq ?_|(refine jq ?_ ?_<;>intro h h')|exact wZ|refine Aa ?_ ?_)<;>try refine Ie ?_)
 ·rw[A0 (fun g=>h ⟨g.1,g.2.1,g.2.2.1,g.2.2.2.1,g.2.2.2.2.1⟩)]
  have h':¬ (decide (Ku x.e)=true∧x.k.length≤10∧decide (GK x.m)=true∧decide (GK x.o)=true∧x.n.length≤10):=by simpa using h
  clear h
  generalize decide (Ku x.e)=A at *
  generalize decide (GK x.m)=B at *
  generalize decide (GK x.o)=C at *
  obtain ⟨e,k,m,o,n,a,ht,tm⟩:=x
  simp only at h' hL hM hO
  cases A<;>cases B<;>cases C
  all_goals simp only[true_and,Bc,false_and,and_false,D3,Ct]at h'
  all_goals (simp only[Rf];refine Ie ?_;try exact tt)
  all_goals repeat' ((first|exact tt|refine Ab hL ?_|refine Ab hM ?_|refine Ab hO ?_|refine na fun b=>?_|refine nb fun b hb=>?_|refine iq ?_|(refine jq ?_ ?_<;>intro h h')|exact wZ|refine Aa ?_ ?_)<;>try refine Ie ?_)
  all_goals (exfalso;simp only[Ac,Hn]at *;omega)
end
theorem KT{A B:Prop}(h:B)(e:A=B:=by (simp (disch:=omega) only[*, ↓Ed,Eu, ↓reduceIte,reduceCtorEq,Nat.reduceAdd,Nat.reduceEqDiff,Nat.reduceLT,Nat.reduceLeDiff,Int.reduceToNat,Int.reduceEq,Int.reduceLT,Int.reduceLE,Ap,Ao,Ax,AN,beq_self_eq_true,HdC.cs,Ey,DW,BF,Cw,Co,C6,Dc,HS,HU,Int.reduceAdd];first|done|rfl)):A:=e▸h
theorem a9e(h:HdC)(l:List HdC)(g:AV)(hg:g.alias=.sl none 34 (Bn l))(hl:l.length≤1000):CP Tryz.prog 150 [.agg h.cs,g] (.bool (decide (h∈l))):=by
 refine a5J _ _ (by simp) ?_
 simp only[UV,Cz.z1];refine KT ?_
 repeat' ((first|exact tt|refine na fun b=>?_|refine nb fun b hb=>?_|refine iq ?_|(refine jq ?_ ?_<;>intro h h')|exact wZ|refine Aa ?_ ?_)<;>try refine KT ?_)
 rename_i m
 have hb0:=hb
 refine A2 (fun x:Nat × List HdC × List Int=>⟨lk [(2,.ptr m 0),(5,.mapv b),(9,.sl none 34 (Bn l)),(10,.int .i64 l.length),(11,.int .i64 (x.1:Int))],lk [(b,[.mp (x.2.1.map Ep) (x.2.2.map (AV.int .i64 ·)) (List.range x.2.1.length) x.2.1.length]),(m,h.cs)]⟩)
  (fun x=>x.1≤l.length∧x.2.2.length=x.2.1.length∧(∀ y,y∈x.2.1↔y∈l.take x.1)∧∀ i,i<x.2.2.length→1≤x.2.2.getD i 0∧x.2.2.getD i 0≤x.1) (fun x=>l.length - x.1) (0,[],[]) ⟨by simp,rfl,by simp,by simp⟩ (An (by simp[Am,lk,hb])) ?_
 rintro ⟨k,d,cn⟩ ⟨g1,g2,g3,g4⟩
 simp only at g1 g2 g3 g4
 by_cases hk:k<l.length
 ·have f5:Ac (decide ((k:Int)<l.length)=true):=fo
  have hx:l[k]?=some (l.getD k default):=by simp[List.getD,hk]
  have hmem:∀ y,y∈l.take (k+1)↔y∈l.take k∨y=l.getD k default:=by
   intro y;rw[List.take_add_one,hx,Bv];simp
  by_cases hin:(l.getD k default)∈d
  ·obtain ⟨i,hi,hil⟩:=XP hin
   have hf:B2 HL true (.agg (l.getD k default).cs) (d.map Ep)=some (some i):=by
    have:=Jt HL true Ep Nr (l.getD k default) d
    rw[hi]at this;exact this
   have hv:=XX cn i (by omega)
   have hB:=a3C d.length i hil
   have hr:=b0C d.length i hil
   have hc:=g4 i (by omega)
   have hn:∀ j,j<(cn.set i (cn.getD i 0+1)).length→1≤(cn.set i (cn.getD i 0+1)).getD j 0∧(cn.set i (cn.getD i 0+1)).getD j 0≤((k+1:Nat):Int):=by
    intro j hj
    rw[List.length_set]at hj
    have:=g4 j hj
    by_cases e:i=j
    ·subst e;simp[List.getD,hj]at this ⊢;omega
    ·simp[List.getD,hj,List.getElem_set,e]at this ⊢;omega
   have hN:(cn.set i (cn.getD i 0+1)).length=d.length∧(∀ y,y∈d↔y∈l.take (k+1))∧∀ j,j<(cn.set i (cn.getD i 0+1)).length→1≤(cn.set i (cn.getD i 0+1)).getD j 0∧(cn.set i (cn.getD i 0+1)).getD j 0≤((k+1:Nat):Int):=by
    refine ⟨by simp[g2],fun y=>?_,hn⟩
    rw[hmem,g3]
    constructor
    ·exact .inl
    ·rintro (h1|rfl)
     ·exact h1
     ·exact (g3 _).1 hin
   clear hn hmem hx hi g3 g4
   generalize hw:cn.getD i 0=c at *
   obtain ⟨hN1,hN2,hN3⟩:=hN
   simp (disch:=omega) only[hf,hv,hB,hr,ints_set, ↓Ed,Eu, ↓reduceIte,reduceCtorEq,Nat.reduceAdd,Nat.reduceEqDiff,Nat.reduceLT,Nat.reduceLeDiff,Int.reduceToNat,Int.reduceEq,Int.reduceLT,Int.reduceLE,Ap,Ao,Ax,AN,beq_self_eq_true,HdC.cs,Ey,DW,BF,Cw,Co,C6,Dc,HS,HU,Int.reduceAdd]
   repeat' ((first|exact tt|refine na fun b=>?_|refine nb fun b hb=>?_|refine iq ?_|(refine jq ?_ ?_<;>intro h h')|exact wZ|refine Aa ?_ ?_)<;>try refine KT ?_)
   exact AC (k+1,d,cn.set i (c+1)) ⟨An (by simp[Am,lk,hb,hb0]),⟨by simp only;omega,hN1,hN2,hN3⟩,by simp only;omega⟩
  ·have hf:B2 HL true (.agg (l.getD k default).cs) (d.map Ep)=some none:=O3 HL true Ep Nr _ _ hin
   have hf2:B2 HL true (.agg (l.getD k default).cs) (d.map Ep++[.agg (l.getD k default).cs])=some (some d.length):=Xl HL true Ep Nr _ _ hin
   have hv:(cn.map (AV.int .i64 ·)++[AV.int .i64 0]).getD d.length .undef=AV.int .i64 0:=a0t _ _ _ _ (by simp[g2])
   have hs:(cn.map (AV.int .i64 ·)++[AV.int .i64 0]).set d.length (.int .i64 1)=(cn++[1]).map (AV.int .i64 ·):=by rw[a0u _ _ _ _ (by simp[g2])];simp
   have hB:=R7 d.length 0
   have hN:(cn++[1]).length=(d++[l.getD k default]).length∧(∀ y,y∈d++[l.getD k default]↔y∈l.take (k+1))∧∀ j,j<(cn++[1]).length→1≤(cn++[1]).getD j 0∧(cn++[1]).getD j 0≤((k+1:Nat):Int):=by
    refine ⟨by simp[g2],fun y=>?_,fun j hj=>?_⟩
    ·rw[hmem,Bv,g3,G6]
    ·by_cases e:j<cn.length
     ·have:=g4 j e
      simp[List.getD,CB e,e]at this ⊢;omega
     ·have:j=cn.length:=by simp at hj;omega
      subst this;simp[List.getD];omega
   obtain ⟨hN1,hN2,hN3⟩:=hN
   clear hmem hx g3 g4
   simp (disch:=omega) only[hf,hf2,hv,hs,hB, ↓Ed,Eu, ↓reduceIte,reduceCtorEq,Nat.reduceAdd,Nat.reduceEqDiff,Nat.reduceLT,Nat.reduceLeDiff,Int.reduceToNat,Int.reduceEq,Int.reduceLT,Int.reduceLE,Ap,Ao,Ax,AN,beq_self_eq_true,HdC.cs,Ey,DW,BF,Cw,Co,C6,Dc,HS,HU,Int.reduceAdd]
   repeat' ((first|exact tt|refine na fun b=>?_|refine nb fun b hb=>?_|refine iq ?_|(refine jq ?_ ?_<;>intro h h')|exact wZ|refine Aa ?_ ?_)<;>try refine KT ?_)
   exact AC (k+1,d++[l.getD k default],cn++[1]) ⟨An (by simp[Am,lk,Ep,List.range_succ,hb,hb0]),⟨by simp only;omega,hN1,hN2,hN3⟩,by simp only;omega⟩
 have f5:Ac (decide ((k:Int)<l.length)=false):=fo
 have hd:∀ y,y∈d↔y∈l:=by intro y;rw[g3,B0 (by omega)]
 by_cases hin:h∈d
 ·obtain ⟨i,hi,hil⟩:=XP hin
  have hf:B2 HL true (.agg h.cs) (d.map Ep)=some (some i):=by
   have:=Jt HL true Ep Nr h d
   rw[hi]at this;exact this
  have hv:=XX cn i (by omega)
  have hc:=g4 i (by omega)
  have f6:Ac (decide (0<cn.getD i 0)=true):=fo
  rw[AO ((hd h).1 hin)]
  clear hd hi g3 g4
  simp (disch:=omega) only[hf,hv, ↓Ed,Eu, ↓reduceIte,reduceCtorEq,Nat.reduceAdd,Nat.reduceEqDiff,Nat.reduceLT,Nat.reduceLeDiff,Int.reduceToNat,Int.reduceEq,Int.reduceLT,Int.reduceLE,Ap,Ao,Ax,AN,beq_self_eq_true,HdC.cs,Ey,DW,BF,Cw,Co,C6,Dc,HS,HU,Int.reduceAdd]
  repeat' ((first|exact tt|refine na fun b=>?_|refine nb fun b hb=>?_|refine iq ?_|(refine jq ?_ ?_<;>intro h h')|exact wZ|refine Aa ?_ ?_)<;>try refine KT ?_)
  exact f6
 ·have hf:B2 HL true (.agg h.cs) (d.map Ep)=some none:=O3 HL true Ep Nr _ _ hin
  rw[A0 (fun e=>hin ((hd h).2 e))]
  clear hd g3 g4
  refine KT ?_
  repeat' ((first|exact tt|refine na fun b=>?_|refine nb fun b hb=>?_|refine iq ?_|(refine jq ?_ ?_<;>intro h h')|exact wZ|refine Aa ?_ ?_)<;>try refine KT ?_)
def Hq(x:HdC):Bool:=decide (1≤x.h∧x.h≤1099511627776∧0≤x.t∧x.t≤1099511627776)
theorem Cx{A B:Prop}(h:B)(e:A=B:=by (simp (disch:=omega) only[*, ↓Ed,Eu, ↓reduceIte,reduceCtorEq,Nat.reduceAdd,Nat.reduceEqDiff,Nat.reduceLT,Nat.reduceLeDiff,Int.reduceToNat,Int.reduceEq,Int.reduceLT,Int.reduceLE,Ap,Ao,Ax,AN,beq_self_eq_true,HdC.cs,Ey,DW,BF,Cw,Co,C6,Dc,HS,HU,Int.reduceAdd,BL,Cc,FQ,FS,EH,E0];first|done|rfl)):A:=e▸h
theorem a8P(x:HdC):CP Tryz.prog 90 [.agg x.cs] (.bool (Hq x)):=by
 refine a6G _ _ (by simp) ?_
 unfold Hq
 by_cases h:1≤x.h∧x.h≤1099511627776∧0≤x.t∧x.t≤1099511627776
 ·rw[AO h]
  have f1:Ac (decide (1≤x.h)=true):=fo
  have f2:Ac (decide (x.h≤1099511627776)=true):=fo
  have f3:Ac (decide (0≤x.t)=true):=fo
  have f4:Ac (decide (x.t≤1099511627776)=true):=fo
  clear h
  simp only[Rm];refine Cx ?_
  repeat' ((first|exact tt|refine na fun b=>?_|refine nb fun b hb=>?_|refine iq ?_|(refine jq ?_ ?_<;>intro h h')|exact wZ|refine Aa ?_ ?_)<;>try refine Cx ?_)
  all_goals (simp only[Ac,Hn]at *;omega)
 ·rw[A0 h]
  have F:Ac (¬ (1≤x.h∧x.h≤1099511627776∧0≤x.t∧x.t≤1099511627776)):=h
  clear h
  simp only[Rm];refine Cx ?_
  repeat' ((first|exact tt|refine na fun b=>?_|refine nb fun b hb=>?_|refine iq ?_|(refine jq ?_ ?_<;>intro h h')|exact wZ|refine Aa ?_ ?_)<;>try refine Cx ?_)
  all_goals (simp only[Ac,Hn]at *;omega)
theorem b2q{m:List HdC}{a:Int}{k:Nat}(hk:k<m.length)(h1:∀ i,i<k→(m.getD i default).h≠a)(h2:(m.getD k default).h=a):BC m a=some (m.getD k default):=by
 induction m generalizing k with
 | nil=>simp at hk
 | cons x m ih=>
  cases k with
  | zero=>simp at h2;simp[BC,h2]
  | succ k=>
   have h0:=h1 0 (by omega)
   simp at h0
   have:=ih (k:=k) (by simpa using hk) (fun i hi=>by simpa using h1 (i+1) (by omega)) (by simpa using h2)
   simp only[BC,List.find?_cons,h0,decide_false]
   simpa[BC]using this
theorem b2p{m:List HdC}{a:Int}(h1:∀ i,i<m.length→(m.getD i default).h≠a):BC m a=none:=by
 unfold BC
 rw[List.find?_eq_none]
 intro x hx
 obtain ⟨i,hi,rfl⟩:=Do hx
 have:=h1 i hi
 simpa[List.getD,hi]using this
theorem Zg(m:List HdC)(g:AV)(hg:g.alias=.sl none 34 (Bn m))(hl:m.length≤1000)(a:Int):CP Tryz.prog 89 [g,.int .i64 a] (.tup [.agg ((BC m a).getD default).cs,.bool (BC m a).isSome]):=by
 refine a6q _ _ (by simp) ?_
 simp only[Vp,Cz.z1];refine Cx ?_
 repeat' ((first|exact tt|refine na fun b=>?_|refine nb fun b hb=>?_|refine iq ?_|(refine jq ?_ ?_<;>intro h h')|exact wZ|refine Aa ?_ ?_)<;>try refine Cx ?_)
 refine A2 (fun k:Nat=>⟨lk [(0,.sl none 34 (Bn m)),(1,.int .i64 a),(4,.ptr b 0),(5,.bool false),(6,.int .i64 (k:Int))],lk [(b,(default:HdC).cs)]⟩) (fun k=>k≤m.length∧Ac (∀ i,i<k→(m.getD i default).h≠a)) (fun k=>m.length - k) 0 ⟨by omega,by intro i h;omega⟩ (An (by simp[Am,lk,FQ,FS])) ?_
 rintro k ⟨g1,g2⟩
 by_cases hk:k<m.length
 ·have f5:Ac (decide ((k:Int)<m.length)=true):=fo
  by_cases he:(m.getD k default).h=a
  ·have hs:=b2q hk g2 he
   have f6:Ac (decide ((m.getD k default).h=a)=true):=AO he
   rw[hs]
   clear he hs g2
   simp (disch:=omega) only[EH, ↓Ed,Eu, ↓reduceIte,reduceCtorEq,Nat.reduceAdd,Nat.reduceEqDiff,Nat.reduceLT,Nat.reduceLeDiff,Int.reduceToNat,Int.reduceEq,Int.reduceLT,Int.reduceLE,Ap,Ao,Ax,AN,beq_self_eq_true,HdC.cs,Ey,DW,BF,Cw,Co,C6,Dc,HS,HU,Int.reduceAdd,BL,Cc,FQ,FS,EH,E0]
   repeat' ((first|exact tt|refine na fun b=>?_|refine nb fun b hb=>?_|refine iq ?_|(refine jq ?_ ?_<;>intro h h')|exact wZ|refine Aa ?_ ?_)<;>try refine Cx ?_)
   all_goals omega
  ·have f6:Ac (decide ((m.getD k default).h=a)=false):=A0 he
   have hN:Ac (∀ i,i<k+1→(m.getD i default).h≠a):=by
    intro i hi
    by_cases e:i=k
    ·subst e;exact he
    ·exact g2 i (by omega)
   clear he g2
   refine Cx ?_
   repeat' ((first|exact tt|refine na fun b=>?_|refine nb fun b hb=>?_|refine iq ?_|(refine jq ?_ ?_<;>intro h h')|exact wZ|refine Aa ?_ ?_)<;>try refine Cx ?_)
   exact AC (k+1) ⟨An Mc,⟨by omega,hN⟩,by omega⟩
 ·have f5:Ac (decide ((k:Int)<m.length)=false):=fo
  have hs:=b2p (m:=m) (a:=a) (fun i hi=>g2 i (by omega))
  rw[hs]
  clear hs g2
  simp (disch:=omega) only[E0, ↓Ed,Eu, ↓reduceIte,reduceCtorEq,Nat.reduceAdd,Nat.reduceEqDiff,Nat.reduceLT,Nat.reduceLeDiff,Int.reduceToNat,Int.reduceEq,Int.reduceLT,Int.reduceLE,Ap,Ao,Ax,AN,beq_self_eq_true,HdC.cs,Ey,DW,BF,Cw,Co,C6,Dc,HS,HU,Int.reduceAdd,BL,Cc,FQ,FS,EH,E0]
  repeat' ((first|exact tt|refine na fun b=>?_|refine nb fun b hb=>?_|refine iq ?_|(refine jq ?_ ?_<;>intro h h')|exact wZ|refine Aa ?_ ?_)<;>try refine Cx ?_)
def D4(m:List HdC)(h:HdC)(told:List HdC):Int:=if Hq h=false then 1 else if h ∉ told then 9 else match BC m h.h with
 | some x=>if x=h then 0 else 8
 | none=>0
theorem XU{x:HdC}:∀ {m:List HdC} {k:Nat},k≤m.length→(∀ i,i<k→(m.getD i default).h<x.h)→(k<m.length→¬ (m.getD k default).h<x.h)→Ft x m=m.take k++[x]++m.drop k
 | [],k,h,_,_=>by simp at h;subst h;rfl
 | y::m,0,_,_,h2=>by
  have:=h2 (by simp)
  simp at this
  unfold Ft
  rw[Ad (by omega)];rfl
 | y::m,k+1,h,h1,h2=>by
  have h0:=h1 0 (by omega)
  simp at h0
  unfold Ft
  rw[Af h0,XU (m:=m) (k:=k) (by simpa using h) (fun i hi=>by simpa using h1 (i+1) (by omega)) (fun hk=>by simpa using h2 (by simpa using hk))]
  simp
def Qz(m:List HdC)(x:HdC):List HdC × Bool:=if (BC m x.h).isSome then (m,false) else (Ft x m,true)
theorem a9Z(m:List HdC)(g:AV)(hg:g.alias=.sl none 34 (Bn m))(hl:m.length≤1000)(x:HdC):
  CP Tryz.prog 68 [g,.agg x.cs] (.tup [.sl none 34 (Bn (Qz m x).1),.bool (Qz m x).2]):=by
 have hm:maxLen=9223372036854775807:=rfl
 have hK:=Zg m (.sl none 34 (Bn m)) rfl hl x.h
 refine a6w _ _ (by simp) ?_
 unfold Qz
 cases hs:(BC m x.h).isSome with
 | true=>
  rw[hs]at hK
  rw[Af rfl]
  clear hs
  simp only[Rl,Cz.z1];refine Cx ?_
  repeat' ((first|exact tt|refine Ab hK ?_|refine na fun b=>?_|refine nb fun b hb=>?_|refine iq ?_|(refine jq ?_ ?_<;>intro h h')|exact wZ|refine Aa ?_ ?_)<;>try refine Cx ?_)
 | false=>
 rw[hs]at hK
 rw[Ad (by simp)]
 clear hs
 simp only[Rl,Cz.z1];refine Cx ?_
 repeat' ((first|exact tt|refine Ab hK ?_|refine na fun b=>?_|refine nb fun b hb=>?_|refine iq ?_|(refine jq ?_ ?_<;>intro h h')|exact wZ|refine Aa ?_ ?_)<;>try refine Cx ?_)
 rename_i b1
 refine A2 (fun k:Nat=>⟨lk [(0,.sl none 34 (Bn m)),(3,.ptr b1 0),(8,.int .i64 (k:Int))],lk [(b1,x.cs)]⟩) (fun k=>k≤m.length∧Ac (∀ i,i<k→(m.getD i default).h<x.h)) (fun k=>m.length - k) 0 ⟨by omega,by intro i h;omega⟩ (An (by simp[Am,lk,hb])) ?_
 rintro k ⟨g1,g2⟩
 have hI:(¬ k<m.length∨¬ (m.getD k default).h<x.h)→(Bn m).take k++[x.cs]++(Bn m).drop k=Bn (Ft x m):=by
  intro he
  rw[XU g1 g2 (fun hk=>he.resolve_left (fun h=>h hk))]
  simp[Bn]
 by_cases hk:k<m.length
 ·have f5:Ac (decide ((k:Int)<m.length)=true):=fo
  by_cases he:(m.getD k default).h<x.h
  ·have f6:Ac (decide ((m.getD k default).h<x.h)=true):=AO he
   have hN:Ac (∀ i,i<k+1→(m.getD i default).h<x.h):=by
    intro i hi
    by_cases e:i=k
    ·subst e;exact he
    ·exact g2 i (by omega)
   clear he g2 hI
   refine Cx ?_
   repeat' ((first|exact tt|refine na fun b=>?_|refine nb fun b hb=>?_|refine iq ?_|(refine jq ?_ ?_<;>intro h h')|exact wZ|refine Aa ?_ ?_)<;>try refine Cx ?_)
   exact AC (k+1) ⟨An Mc,⟨by omega,hN⟩,by omega⟩
  ·have f6:Ac (decide ((m.getD k default).h<x.h)=false):=A0 he
   have hI':=hI (.inr he)
   rw[← hI']
   clear he g2 hI hI'
   refine Cx ?_
   repeat' ((first|exact tt|refine na fun b=>?_|refine nb fun b hb=>?_|refine iq ?_|(refine jq ?_ ?_<;>intro h h')|exact wZ|refine Aa ?_ ?_)<;>try refine Cx ?_)
   all_goals (rw[B0 (i:=m.length) (l:=Bn m) (by rw[DW];omega)])
 ·have f5:Ac (decide ((k:Int)<m.length)=false):=fo
  have hI':=hI (.inl hk)
  rw[← hI']
  clear g2 hI hI'
  refine Cx ?_
  repeat' ((first|exact tt|refine na fun b=>?_|refine nb fun b hb=>?_|refine iq ?_|(refine jq ?_ ?_<;>intro h h')|exact wZ|refine Aa ?_ ?_)<;>try refine Cx ?_)
  all_goals (rw[B0 (i:=m.length) (l:=Bn m) (by rw[DW];omega)])
theorem a8J(a b:List HdC)(ga gb:AV)(ha:ga.alias=.sl none 34 (Bn a))(hb':gb.alias=.sl none 34 (Bn b))(hl:a.length≤1000)(hl2:b.length≤1000):CP Tryz.prog 64 [ga,gb] (.bool (decide (a=b))):=by
 refine a5Z _ _ (by simp) ?_
 by_cases hn:a.length=b.length
 rotate_left
 ·have f1:Ac (decide ((a.length:Int)=b.length)=false):=fo
  rw[A0 (fun e=>hn (by rw[e]))]
  clear hn
  simp only[Q9];refine Cx ?_
  repeat' ((first|exact tt|refine na fun b=>?_|refine nb fun b hb=>?_|refine iq ?_|(refine jq ?_ ?_<;>intro h h')|exact wZ|refine Aa ?_ ?_)<;>try refine Cx ?_)
 have f1:Ac (decide ((a.length:Int)=b.length)=true):=fo
 simp only[Q9];refine Cx ?_
 repeat' ((first|exact tt|refine na fun b=>?_|refine nb fun b hb=>?_|refine iq ?_|(refine jq ?_ ?_<;>intro h h')|exact wZ|refine Aa ?_ ?_)<;>try refine Cx ?_)
 refine A2 (fun k:Nat=>⟨lk [(0,.sl none 34 (Bn a)),(1,.sl none 34 (Bn b)),(5,.int .i64 (k:Int))],lk []⟩) (fun k=>k≤a.length∧Ac (a.take k=b.take k)) (fun k=>a.length - k) 0 ⟨by omega,rfl⟩ (An Mc) ?_
 rintro k ⟨g1,g2⟩
 by_cases hk:k<a.length
 ·have f5:Ac (decide ((k:Int)<a.length)=true):=fo
  have e1:a[k]?=some (a.getD k default):=by simp[List.getD,hk]
  have e2:b[k]?=some (b.getD k default):=by simp[List.getD,show k<b.length by omega]
  cases he:decide (a.getD k default=b.getD k default) with
  | true=>
   have hN:Ac (a.take (k+1)=b.take (k+1)):=by
    show _=_
    rw[List.take_add_one,List.take_add_one,e1,e2,show a.take k=b.take k from g2,of_decide_eq_true he]
   clear g2 e1 e2
   refine Cx ?_
   repeat' ((first|exact tt|refine na fun b=>?_|refine nb fun b hb=>?_|refine iq ?_|(refine jq ?_ ?_<;>intro h h')|exact wZ|refine Aa ?_ ?_)<;>try refine Cx ?_)
   exact AC (k+1) ⟨An Mc,⟨by omega,hN⟩,by omega⟩
  | false=>
   rw[A0 (fun e=>of_decide_eq_false he (by rw[e]))]
   clear g2 e1 e2
   refine Cx ?_
   repeat' ((first|exact tt|refine na fun b=>?_|refine nb fun b hb=>?_|refine iq ?_|(refine jq ?_ ?_<;>intro h h')|exact wZ|refine Aa ?_ ?_)<;>try refine Cx ?_)
   all_goals omega
 ·have f5:Ac (decide ((k:Int)<a.length)=false):=fo
  have:a=b:=by
   have:=show a.take k=b.take k from g2
   rwa [B0 (by omega),B0 (by omega)]at this
  rw[AO this]
  clear g2 this
  refine Cx ?_
  repeat' ((first|exact tt|refine na fun b=>?_|refine nb fun b hb=>?_|refine iq ?_|(refine jq ?_ ?_<;>intro h h')|exact wZ|refine Aa ?_ ?_)<;>try refine Cx ?_)
theorem Z9{w W W':World}{row:Option Nat}{e:TypeId}{size k:Nat}{v:Value}{xs:List Value}(h:W.ownsRow w.heap.size e size v k xs)(hg:W.grownBy W' row)(hr:∀ r,row=some r→∃ o:Obj,W.heap[r]?=some o∧o.isCells=false):W'.ownsRow w.heap.size e size v k xs:=by
 refine h.kept hg ?_
 rcases h.2 with ⟨rfl,_⟩ | ⟨g,cap,cur,rfl,_,hgb,_⟩
 ·exact .inl rfl
 ·refine .inr fun e'=>?_
  obtain ⟨o,ho,hc⟩:=hr g (by simpa[Value.ownBlock]using e'.symm)
  rw[hgb]at ho;cases ho;cases hc
section
open Go.RowKit Go.ChangeMaps Go.Sort Go.Shelf
set_option maxRecDepth 100000 in
theorem b3K{α:Type}[Inhabited α](cl:α→List Value)(hcl:∀ x,(cl x).length=34)(h1:∀ x, ∀ u∈cl x,u.oneCell'=true)(F:Fence)(n:Nat)(hf:F.fn 181)(hro:F.round=none)(hn:1≤n)
  (bx b:Nat) (es:Array MapEntry) (clk:Nat) (l:List α) (w:World) (tb:TypeId) (hbx:w.heap[bx]?=some (.cells #[.map (some b)] tb (0,0))) (hb:w.heap[b]?=some (.map es clk))
  (hval:es.toList.map (·.val)=l.map fun x=>.agg (cl x).toArray) (hborn:∀ x∈es.toList,x.born<clk) (hnd:(es.toList.map (·.born)).Nodup):
  SeqStops F n Tryz.prog 181 #[.pointer (some ⟨bx,0,none⟩)] (fun x=>.agg (cl x).toArray) (fun xs=>xs.Perm l) (fun _=>True) l.length w:=by
 intro lp J Jx W hW hJ hJx hY h0
 have hbxl:bx<w.heap.size:=(BH.1 hbx).1
 have hbl:b<w.heap.size:=(BH.1 hb).1
 have hbx1:W.heap[bx]?=some (.cells #[.map (some b)] tb (0,0)):=(hW.block bx hbxl).trans hbx
 have hb1:W.heap[b]?=some (.map es clk):=(hW.block b hbl).trans hb
 have hc1:W.cell? ⟨bx,0,none⟩=some (.map (some b)):=by simp[World.cell?,hbx1]
 have hsz:=hW.size
 refine callsIn_of_wp Tryz.func181 rfl hf ?_ hro
 simp only[Tryz.ntmps181,Ck,AJ,AY,Nat.reduceAdd,Nat.reduceSub,Array.replicate_succ,Array.replicate_zero,List.push_toArray,List.append_toArray,Bj,Bi]
 gi_wp2_with (first
  | (gi_at_range;refine b3R _ rfl _ _ rfl _ _ Tryz.underlying138 b es clk rfl hb1 ?_)
  | gi_in)
 gi_loopw [4] (fun _ wr=>∃ (seen:Array Nat) (is:List Nat),wr.heap[W.heap.size]?=some (.mapIter (some b) clk seen clk)∧wr.heap[b]?=some (.map es clk)∧W.heap.size≤wr.heap.size∧Came es seen is∧J (is.map fun i=>l.getD i default) wr)
  (fun _ wr=>es.size - NX wr W.heap.size)
 case atStart=>
  refine ⟨#[],[],World.alloc_heap_new W _,(Below.heap_alloc _ _ b (by omega)).trans hb1,by simp,Came.nil es, ?_⟩
  exact hJ [] W _ none h0 (World.grownBy_alloc W _ none) (fun r e=>by cases e)
 case round=>
  obtain ⟨seen,is,hr1,hr2,hr3,hC,hJs⟩:=hrel
  gi_wp2_with (first
   | (gi_at_next;refine b3Q _ rfl _ rfl W.heap.size b clk es seen rfl hr1 hr2 hborn ?_ ?_)
   | gi_in)
  ·intro hl0
   gi_wp2
   go_end0
   refine ⟨⟨_,rfl⟩,.inl ⟨_, ?_,hJs⟩⟩
   have hp:=hC.all hnd hl0
   have hlen:es.size=l.length:=by have:=congrArg List.length hval;simpa using this
   rw[hlen]at hp
   have:=hp.map fun i=>l.getD i default
   rwa [b0D]at this
  ·intro e w2 he hst
   obtain ⟨i,hi,hC2⟩:=hC.step hnd he
   have hil:i<es.size:=(BH.1 hi).1
   have hlen:es.size=l.length:=by have:=congrArg List.length hval;simpa using this
   have hv:e.val=.agg (cl (l.getD i default)).toArray:=by
    have:=congrArg (fun q=>q[i]?) hval
    simp only[B7,Em,hi,BE]at this
    rw[Aw (by omega)]at this
    simpa[List.getD,show i<l.length by omega]using this
   have hmem:e∈es.toList:=by
    rw[Iq]
    exact ⟨i,by rw[Em];exact hi⟩
   have hne:b≠W.heap.size:=by omega
   have hb2:w2.heap[b]?=some (.map es clk):=(hst.grown.block b (by omega) (by simpa using hne)).trans hr2
   have hJ2:=hJ _ _ w2 _ hJs hst.grown (fun r e=>by cases e;exact ⟨A8 _,_,hr1,rfl⟩)
   have hs2:=hst.size
   have hWr:W.heap.size<wr.heap.size:=(BH.1 hr1).1
   have hr2':=hst.at_
   obtain ⟨x,hx⟩:∃ x,l.getD i default=x:=⟨_,rfl⟩
   rw[hx]at hv
   have hJ3:J (is.map fun i=>l.getD i default) (w2.alloc (.cells (cl x).toArray 31)):=hJ _ _ _ none hJ2 (World.grownBy_alloc w2 _ none) (fun r e=>by cases e)
   have hlt:(is.map fun i=>l.getD i default).length<l.length:=by
    have:=S2 _ _ hC2.nd hC2.lt
    simp at this ⊢;omega
   obtain ⟨fn,tmps,assign,body,hy,hR⟩:=hY _ x _ hJ3 hlt
   have Ae:(cl x).toArray.size=34:=by simp[hcl]
   have hone:∀ u∈(cl x).toArray.toList,u.oneCell'=true:=by simpa using h1 x
   have hso:∀ w,(Go.sizeOf 31).run Tryz.prog w=.ok (cl x).toArray.size w:=fun w=>by rw[Ae];exact Tryz.sizeOf31 w
   generalize (cl x).toArray=c at hv hy hR Ae hone hso
   clear hJ3 hJ2 hJs h1 hcl
   gi_wp2_with (first
    | (refine b3P _ rfl _ rfl W.heap.size b clk es seen e rfl hr2' hb2 hmem hnd ?_)
    | (refine a1A _ rfl rfl _ _ 31 rfl 34 (by kernel_rfl) wr.heap.size _ c 31 rfl (alloc_at hs2 _) rfl rfl Ae hone ?_;rw[Uy hs2])
    | (refine a1z _ rfl _ 31 rfl wr.heap.size c 31 Tryz.isAgg31 hso rfl (alloc_at hs2 _) ?_)
    | gi_in)
   refine hR.mono ?_
   rintro e2 W3 (⟨rfl,hJ4,hk3⟩ | ⟨rfl,hJx4⟩)
   ·gi_wp2
    have ha:(w2.alloc (.cells c 31)).heap[W.heap.size]?=some (.mapIter (some b) clk (seen.push e.born) clk):=(Below.heap_alloc _ _ _ (by omega)).trans hr2'
    have hb3:(w2.alloc (.cells c 31)).heap[b]?=some (.map es clk):=(Below.heap_alloc _ _ _ (by omega)).trans hb2
    have ha3:=hk3.same _ _ ha rfl
    go_roundw
    case rel=>
     refine ⟨_,is++[i],ha3,hk3.same _ _ hb3 rfl, ?_,hC2, ?_⟩
     ·have:=hk3.size;simp at this;omega
     ·rw[FI,List.map_singleton,hx];exact hJ4
    case measure=>
     have q1:NX W3 W.heap.size=seen.size+1:=by simp[NX,ha3]
     have q2:NX wr W.heap.size=seen.size:=by simp[NX,hr1]
     have q3:=hC2.size
     have q4:=S2 _ _ hC2.nd hC2.lt
     simp only[Array.size_push,Ao,List.length_singleton]at q3 q4
     rw[q1,q2];omega
   ·gi_wp2
    (try simp only[Exit.inBlock,Exit.then]);refine bodyPost_ret (results_none rfl _ _ _) rfl ?_
    exact ⟨⟨_,rfl⟩,.inr ⟨_,trivial,hJx4⟩⟩

structure ApI {α:Type} (cl:α→List Value) (w:World) (xs:List α) (W:World):Prop where
 box:∃ v,W.heap[w.heap.size]?=some (.cells #[v] 47 (0,0))∧W.ownsRow w.heap.size 31 34 v xs.length (xs.flatMap cl)
 below:Below w.heap.size w W
theorem ApI.own{α:Type}(cl:α→List Value)(w:World)(B:Nat)(hB:w.heap.size≤B):OwnFrom B (ApI cl w):=by
 intro xs W W' row h hg hr
 obtain ⟨v,hv,hrow⟩:=h.box
 refine ⟨⟨v,(grownBy_keeps_cells hg (fun r e=>(hr r e).2) hv rfl).trans hv,Z9 hrow hg fun r e=>(hr r e).2⟩,h.below.grown hg h.below.size fun k e=>En hB (hr k e).1⟩
set_option maxRecDepth 100000 in
theorem b3H{α:Type}[Inhabited α](cl:α→List Value)(hcl:∀ x,(cl x).length=34)(h1:∀ x, ∀ u∈cl x,u.oneCell'=true)(F:Fence)(n:Nat)(hf:F.fn 181)
    (hf2:F.fn 215) (hro:F.round=none) (hn:3≤n)
    (bx b:Nat) (es:Array MapEntry) (clk:Nat) (l:List α) (w:World) (tb:TypeId) (hbx:w.heap[bx]?=some (.cells #[.map (some b)] tb (0,0))) (hb:w.heap[b]?=some (.map es clk))
    (hval:es.toList.map (·.val)=l.map fun x=>.agg (cl x).toArray) (hborn:∀ x∈es.toList,x.born<clk) (hnd:(es.toList.map (·.born)).Nodup) (hl:l.length≤1000000):
    CallsIn F n Tryz.prog 215 #[.slice none 0 0,.func (.func 181) #[] #[.pointer (some ⟨bx,0,none⟩)]] w fun e W'=>
      ∃ (v:Value) (xs:List α),e=.returned v∧xs.Perm l∧W'.ownsRow w.heap.size 31 34 v xs.length (xs.flatMap cl)∧Below w.heap.size w W':=by
  have hbxl:bx<w.heap.size:=(BH.1 hbx).1
  have hbl:b<w.heap.size:=(BH.1 hb).1
  have hmx:maxLen=9223372036854775807:=rfl
  refine callsIn_of_wp_marks Tryz.func215 rfl hf2 ?_ hro
  simp only[Tryz.ntmps215,Ck,AJ,AY,Nat.reduceAdd,Nat.reduceSub,Array.replicate_succ,Array.replicate_zero,List.push_toArray,List.append_toArray,Bj,Bi]
  gi_wp2
  obtain ⟨W0,hW0⟩:∃ W0,w.alloc (.cells #[.slice none 0 0] 47)=W0:=⟨_,rfl⟩
  rw[hW0]
  have hs0:W0.heap.size=w.heap.size+1:=by rw[← hW0];simp
  have hv0:W0.heap[w.heap.size]?=some (.cells #[.slice none 0 0] 47 (0,0)):=by rw[← hW0];exact World.alloc_heap_new w _
  have hB0:Below w.heap.size w W0:=by rw[← hW0];exact (Below.refl _ w).alloc (A8 _) _
  have hbx0:W0.heap[bx]?=some (.cells #[.map (some b)] tb (0,0)):=(hB0.block bx hbxl).trans hbx
  have hb0:W0.heap[b]?=some (.map es clk):=(hB0.block b hbl).trans hb
  obtain ⟨i0,hi,hz0,hz1,hz2⟩:=info_parts (P:=Tryz.prog) (e:=31) (z:=.agg (Array.mk ([.int .i64 0,.int .i64 0]++List.replicate 32 (.int .u8 0)))) (size:=34) (bytes:=48) (by kernel_rfl)
  refine b3S (pt:=7) hro (by omega) (gf:=181) (lb := #[.pointer (some ⟨bx,0,none⟩)]) rfl hf (enters_of Tryz.func181 (by kernel_rfl) rfl)
    (b3K cl hcl h1 F (n - 1) hf hro (by omega) bx b es clk l W0 tb hbx0 hb0 hval hborn hnd) (ApI cl w) (ApI.own cl w _ (by omega)) ⟨⟨_,hv0,⟨rfl,.inl ⟨rfl,rfl⟩⟩⟩,hB0⟩
    (fun x=>.cells (cl x).toArray 31 (0,0)) (fun _=>rfl)
    (fun x p=>{ tmps := #[.slice none 0 0,.func (.func 181) #[] #[.pointer (some ⟨bx,0,none⟩)],.pointer (some ⟨w.heap.size,0,none⟩),undef,.slice none 0 0,.pointer (some ⟨p,0,none⟩),.func (.func 181) #[] #[.pointer (some ⟨bx,0,none⟩)],.agg (cl x).toArray,undef,undef,undef,undef,undef],defers:=[] }) ?_ ?_ ?_
  · intro lp x W K hK
    have Ae:(cl x).toArray.size=34:=by simp[hcl]
    have hone:∀ u∈(cl x).toArray.toList,u.oneCell'=true:=by simpa using h1 x
    generalize (cl x).toArray=c at hK Ae hone
    gi_wp2_with (first
      | (refine a1A _ rfl rfl _ _ 31 rfl 34 (by kernel_rfl) W.heap.size _ c 31 rfl (alloc_at rfl _) rfl rfl Ae hone ?_;rw[Uy rfl])
      | (rw[Oper.semAt_eq _ _ _ (fun c h=>by cases h)];go_simp;try go_bits))
    exact hK
  · intro lp pre x W p hI hlen hp hwp
    obtain ⟨⟨v,hv,hrow⟩,hbel⟩:=hI
    have hcv:W.cell? ⟨w.heap.size,0,none⟩=some v:=by simp[World.cell?,hv]
    have hfv:W.frozen? ⟨w.heap.size,0,none⟩=false:=by simp[World.frozen?,hv]
    have hBlt:w.heap.size<W.heap.size:=(BH.1 hv).1
    have Ae:(cl x).toArray.size=34:=by simp[hcl]
    have hso:∀ w,(Go.sizeOf 31).run Tryz.prog w=.ok (cl x).toArray.size w:=fun w=>by rw[Ae];exact Tryz.sizeOf31 w
    have hcell:∀ j u,(cl x)[j]?=some u→(W.alloc (.cells (cl x).toArray 31)).cell? ((⟨W.heap.size,0,none⟩:Addr).add j)=some u:=by
      intro j u hj
      rw[C0,cell_of_row _ _ _ _ _ _ (World.alloc_heap_new W _)]
      simpa using hj
    have hlcl:=hcl x
    have hfm:(pre++[x]).flatMap cl=pre.flatMap cl++cl x:=by simp
    have hone:=h1 x
    have hne:some w.heap.size≠v.ownBlock:=by
      rcases hrow.2 with ⟨rfl,_⟩ | ⟨g,cap,cur,rfl,_,hgb,_⟩
      · simp[Value.ownBlock]
      · intro e
        have e':w.heap.size=g:=by simpa[Value.ownBlock]using e
        subst e'
        rw[hv]at hgb
        cases hgb
    gi_wp2_with (first
      | (refine a1z _ rfl _ 31 rfl p (cl x).toArray 31 Tryz.isAgg31 hso rfl hp ?_)
      | (refine b3O _ rfl _ 47 31 rfl i0 Tryz.underlying47 hi _ hz0 34 hz1 rfl (by omega) (by omega) (cl x).toArray rfl Ae ?_)
      | (gi_at_builtin;refine wpListIn_append_own _ rfl _ _ 47 rfl w.heap.size 31 i0 _ 34 48 Tryz.underlying47 hi hz0 hz1 hz2 rfl (by decide) _ _ _ rfl (hrow.alloc _) ⟨W.heap.size,0,none⟩ 1 1 (cl x) rfl (by rw[hlcl]) hcell hone (by omega) (by omega) (by simp;omega) ?_;intro v' w3 hown' hg3 hnil3
         have hv3:w3.heap[w.heap.size]?=some (.cells #[v] 47 (0,0)):=(hg3.block w.heap.size (by simp;omega) hne).trans ((Below.heap_alloc _ _ _ hBlt).trans hv)
         have hcv3:w3.cell? ⟨w.heap.size,0,none⟩=some v:=by simp[World.cell?,hv3]
         have hfv3:w3.frozen? ⟨w.heap.size,0,none⟩=false:=by simp[World.frozen?,hv3]
         obtain ⟨g',cap',cur',rfl,hg'⟩:∃ g' cap' cur',v'=.slice (some ⟨g',0,none⟩) (pre.length+1) cap'∧w3.heap[g']?=some (.cells cur' 31 (0,0)):=by
           rcases hown'.2 with ⟨_,h0⟩ | ⟨g',cap',cur',e,_,q,_⟩
           · exact absurd h0 (by omega)
           · exact ⟨g',cap',cur',e,q⟩)
      | (rw[Oper.semAt_eq _ _ _ (fun c h=>by cases h)];go_simp;try go_bits))
    have hgs:=a3U w3 w.heap.size (.slice (some ⟨g',0,none⟩) (pre.length+1) cap')
    have hne2:(Value.slice (some ⟨g',0,none⟩) (pre.length+1) cap').ownBlock≠some w.heap.size:=by
      intro e
      have e':g'=w.heap.size:=by simpa[Value.ownBlock]using e
      subst e'
      rw[hv3]at hg'
      cases hg'
    have hrc:∀ (j:Nat) (o:Obj),v.ownBlock=some j→(W.alloc (.cells (cl x).toArray 31)).heap[j]?=some o→o.isCells=true:=by
      intro j o hj ho
      rcases (hrow.alloc (.cells (cl x).toArray 31)).2 with ⟨rfl,_⟩ | ⟨g,cap,cur,rfl,_,hgb,_⟩
      · simp[Value.ownBlock]at hj
      · have:g=j:=by simpa[Value.ownBlock]using hj
        subst this;rw[hgb]at ho;cases ho;rfl
    have hb3:Below w.heap.size w w3:=(hbel.alloc hbel.size _).grown hg3 (by have:=hbel.size;simp;omega) (fun k e=>(hrow.lt k e).1)
    refine ⟨((KeepsOthers.alloc W _).trans (KeepsOthers.of_grownBy hg3 hrc)).trans (KeepsOthers.setCell _ _ _),⟨⟨_,a4s _ hv3, ?_⟩,hb3.grown hgs hb3.size (fun k e=>by cases e;exact A8 _)⟩⟩
    rw[hfm,Ao,List.length_singleton]
    exact hown'.kept hgs (.inr hne2)
  · intro D xs W hD hS hI hK
    obtain ⟨⟨v,hv,hrow⟩,hbel⟩:=hI
    have hcv:W.cell? ⟨w.heap.size,0,none⟩=some v:=by simp[World.cell?,hv]
    gi_wp2
    refine ⟨by simp,.inl ⟨_,_,rfl,run_takeDeferred hK, ?_⟩⟩
    have hgp:=grownBy_putObj' W D (.deferred none)
    exact ⟨_,results_tmp rfl _ _ _,v,xs,rfl,hS,Z9 hrow hgp (fun r e=>by cases e;exact ⟨_,hK,rfl⟩),hbel.grown hgp hbel.size (fun k e=>by cases e;omega)⟩
end
def hk(l:List HdC):List AV:=(l.map HdC.h).map GL
def hv(l:List HdC):List AV:=l.map Ep
abbrev EA(l:List HdC):AV:=.mp (hk l) (hv l) (List.range l.length) l.length
abbrev BI(c m:Nat)(l:List HdC):List (Nat × List AV):=[(c,[.mapv m]),(m,[EA l])]
theorem Yk{l:List HdC}{a:Int}(h:BC l a=none):B2 [.i] true (.agg [.int .i64 a]) (hk l)=some none:=by
 refine O3 [.i] true GL SE a _ fun hm=>?_
 obtain ⟨x,hx,e⟩:=Dp.1 hm
 exact a0z h x hx e
theorem Yl{l:List HdC}{a:Int}{x:HdC}(h:BC l a=some x):∃ i,i<l.length∧B2 [.i] true (.agg [.int .i64 a]) (hk l)=some (some i)∧(hv l).getD i .undef=.agg x.cs∧l[i]?=some x:=by
 induction l with
 | nil=>simp[BC]at h
 | cons y l ih=>
  have e:=Jt [.i] true GL SE a ((y::l).map HdC.h)
  by_cases hy:y.h=a
  ·simp[BC,hy]at h
   subst h
   refine ⟨0,by simp, ?_,rfl,rfl⟩
   show B2 _ _ (GL a) _=_
   rw[hk,e,CX,List.idxOf?_cons,hy];simp
  ·simp only[BC,List.find?_cons,hy,decide_false]at h
   obtain ⟨i,h1,h2,h3,h4⟩:=ih h
   refine ⟨i+1,by simpa using h1, ?_,by simpa[hv]using h3,by simpa using h4⟩
   have e2:=Jt [.i] true GL SE a (l.map HdC.h)
   have h2':B2 [.i] true (GL a) ((l.map HdC.h).map GL)=some (some i):=h2
   rw[e2]at h2'
   show B2 _ _ (GL a) _=_
   rw[hk,e,CX,List.idxOf?_cons]
   have:(y.h==a)=false:=by simp[hy]
   rw[this]
   simp only[Az]at h2'
   simp[h2']
theorem DK{A B:Prop}(h:B)(e:A=B:=by (simp (disch:=omega) only[*, ↓Ed,Eu, ↓reduceIte,reduceCtorEq,Nat.reduceAdd,Nat.reduceEqDiff,Nat.reduceLT,Nat.reduceLeDiff,Int.reduceToNat,Int.reduceEq,Int.reduceLT,Int.reduceLE,Ap,Ao,Ax,AN,beq_self_eq_true,HdC.cs,Ey,DW,BF,Cw,Co,C6,Dc,HS,HU,Int.reduceAdd,FQ,FS,EH,E0];first|done|rfl)):A:=e▸h
theorem a0W:CT Tryz.prog 25 [] (lk []) (S1 [] [EA []]):=by
 refine a7N _ _ _ (by simp) ?_
 simp only[UU];refine DK ?_
 repeat' ((first|exact tt|refine na fun b=>?_|refine nb fun b hb=>?_|refine iq ?_|(refine jq ?_ ?_<;>intro h h')|exact wZ|refine Aa ?_ ?_)<;>try refine DK ?_)
 rename_i m
 exact b0K (o2:=[]) b m (by simp[Am,lk,hb,BR,Br,hk,hv]) (by simp[hb]) rfl rfl (fun _ _ h=>by simp[lk]at h)
theorem Io(c m:Nat)(h1:¬ c=m)(h2:¬ m=c)(l:List HdC)(a:Int):CT Tryz.prog 82 [.ptr c 0,.int .i64 a] (lk (BI c m l)) (fun r o=>r=.tup [.agg ((BC l a).getD default).cs,.bool (BC l a).isSome]∧o=lk (BI c m l)):=by
 refine a7K _ _ _ (by simp) ?_
 cases hs:BC l a with
 | none=>
  have hf:=Yk hs
  clear hs
  simp only[Q4,Cz.z1];refine DK ?_
  repeat' ((first|exact tt|refine na fun b=>?_|refine nb fun b hb=>?_|refine iq ?_|(refine jq ?_ ?_<;>intro h h')|exact wZ|refine Aa ?_ ?_)<;>try refine DK ?_)
  rename_i B HB
  exact AG (by simp[Am,lk,h1,h2,hb,HB,r_two,rl_cons,rl_nil,Br,view,l_all,Cw,BF,al_agg,al_bool]) Hh
 | some x=>
  obtain ⟨i,hi,hf,hg,_⟩:=Yl hs
  clear hs
  simp only[Q4,Cz.z1];refine DK ?_
  repeat' ((first|exact tt|refine na fun b=>?_|refine nb fun b hb=>?_|refine iq ?_|(refine jq ?_ ?_<;>intro h h')|exact wZ|refine Aa ?_ ?_)<;>try refine DK ?_)
  rename_i B HB
  exact AG (by simp[Am,lk,h1,h2,hb,HB,r_two,rl_cons,rl_nil,Br,view,l_all,Cw,BF,al_agg,al_bool]) Hh
theorem Yp{x:HdC}(h:Hq x=true):1≤x.h∧x.h≤1099511627776∧0≤x.t∧x.t≤1099511627776:=of_decide_eq_true h
theorem a5g{x:HdC}(h:Hq x=false):¬ (1≤x.h∧x.h≤1099511627776∧0≤x.t∧x.t≤1099511627776):=of_decide_eq_false h
theorem b2D(c m:Nat)(h1:¬ c=m)(h2:¬ m=c)(l told:List HdC)(h:HdC)(gt:AV)(hgt:gt.alias=.sl none 34 (Bn told))(hlt:told.length≤1000):
  CT Tryz.prog 81 [.ptr c 0,.agg h.cs,gt] (lk (BI c m l)) (fun r o=>r=.int .i64 (D4 l h told)∧o=lk (BI c m l)):=by
 have hS:=Io c m h1 h2 l h.h
 have hA:=a9e h told (.sl none 34 (Bn told)) rfl hlt
 refine a7J _ _ _ (by simp) ?_
 cases hm:Hq h with
 | false=>
  have hc:D4 l h told=1:=by simp[D4,hm]
  rw[hc]
  have F:Ac (¬ (1≤h.h∧h.h≤1099511627776∧0≤h.t∧h.t≤1099511627776)):=a5g hm
  clear hm hc
  simp only[Ld,Cz.z1];refine DK ?_
  repeat' ((first|exact tt|refine c2 hS ?_|refine Ab hA ?_|refine na fun b=>?_|refine nb fun b hb=>?_|refine iq ?_|(refine jq ?_ ?_<;>intro h h')|exact wZ|refine Aa ?_ ?_)<;>try refine DK ?_)
  all_goals (first|(exfalso;simp only[Ac,Hn]at *;omega)|exact AG (by simp[Am,lk,h1,h2,BR,Br]) Hh)
 | true=>
 obtain ⟨q1,q2,q3,q4⟩:=Yp hm
 have f1:Ac (decide (h.h<1)=false):=fo
 have f2:Ac (decide (1099511627776<h.h)=false):=fo
 have f3:Ac (decide (h.t<0)=false):=fo
 have f4:Ac (decide (1099511627776<h.t)=false):=fo
 by_cases hin:h∈told
 rotate_left
 ·have hc:D4 l h told=9:=by simp[D4,hm,hin]
  rw[hc]
  rw[A0 hin]at hA
  clear hm hc hin
  simp only[Ld,Cz.z1];refine DK ?_
  repeat' ((first|exact tt|refine c2 hS ?_|refine Ab hA ?_|refine na fun b=>?_|refine nb fun b hb=>?_|refine iq ?_|(refine jq ?_ ?_<;>intro h h')|exact wZ|refine Aa ?_ ?_)<;>try refine DK ?_)
  all_goals exact AG (by simp[Am,lk,h1,h2,BR,Br]) Hh
 rw[AO hin]at hA
 cases hs:BC l h.h with
 | none=>
  have hc:D4 l h told=0:=by simp[D4,hm,hin,hs]
  rw[hc]
  rw[hs]at hS
  clear hm hc hin hs
  simp only[Ld,Cz.z1];refine DK ?_
  repeat' ((first|exact tt|refine c2 hS ?_|refine Ab hA ?_|refine na fun b=>?_|refine nb fun b hb=>?_|refine iq ?_|(refine jq ?_ ?_<;>intro h h')|exact wZ|refine Aa ?_ ?_)<;>try refine DK ?_)
  all_goals exact AG (by simp[Am,lk,h1,h2,BR,Br]) Hh
 | some x=>
  have hc:D4 l h told=if x=h then 0 else 8:=by simp[D4,hm,hin,hs]
  rw[hs]at hS
  cases hxx:decide (x=h) with
  | true=>
   rw[Af (of_decide_eq_true hxx)]at hc
   rw[hc]
   clear hm hc hin hs
   simp only[Ld,Cz.z1];refine DK ?_
   repeat' ((first|exact tt|refine c2 hS ?_|refine Ab hA ?_|refine na fun b=>?_|refine nb fun b hb=>?_|refine iq ?_|(refine jq ?_ ?_<;>intro h h')|exact wZ|refine Aa ?_ ?_)<;>try refine DK ?_)
   all_goals exact AG (by simp[Am,lk,h1,h2,BR,Br]) Hh
  | false=>
   rw[Ad (of_decide_eq_false hxx)]at hc
   rw[hc]
   clear hm hc hin hs
   simp only[Ld,Cz.z1];refine DK ?_
   repeat' ((first|exact tt|refine c2 hS ?_|refine Ab hA ?_|refine na fun b=>?_|refine nb fun b hb=>?_|refine iq ?_|(refine jq ?_ ?_<;>intro h h')|exact wZ|refine Aa ?_ ?_)<;>try refine DK ?_)
   all_goals exact AG (by simp[Am,lk,h1,h2,BR,Br]) Hh
theorem a2N{l:List HdC}{h x:HdC}{told:List HdC}(hc:D4 l h told=0)(hs:BC l h.h=some x):x=h:=by
 unfold D4 at hc
 split at hc
 ·cases hc
 ·split at hc
  ·cases hc
  ·rw[hs]at hc
   simp only at hc
   split at hc
   ·assumption
   ·cases hc
def CV(l:List HdC)(h:HdC)(told:List HdC):List HdC × Bool × Int:=if D4 l h told=0 then (if (BC l h.h).isSome then (l,false,0) else (l++[h],true,0)) else (l,false,D4 l h told)
theorem a4u{l:List HdC}{i:Nat}{x:HdC}(h:l[i]?=some x):(hv l).set i (.agg x.cs)=hv l:=by
 apply F5
 intro j
 rw[List.getElem?_set]
 split
 ·rename_i e;subst e
  obtain ⟨hi,hx⟩:=AM.1 h
  simp[hv,hi,hx,Ep]
 ·rfl
theorem TT(c m:Nat)(h1:¬ c=m)(h2:¬ m=c)(l told:List HdC)(h:HdC)(gt:AV)(hgt:gt.alias=.sl none 34 (Bn told))(hlt:told.length≤1000)(hl:l.length≤1000):
  CT Tryz.prog 34 [.ptr c 0,.agg h.cs,gt] (lk (BI c m l)) (fun r o=>r=.tup [.bool (CV l h told).2.1,.int .i64 (CV l h told).2.2]∧o=lk (BI c m (CV l h told).1)):=by
 have hS:=Io c m h1 h2 l h.h
 have hC:=b2D c m h1 h2 l told h (.sl none 34 (Bn told)) rfl hlt
 refine a7M _ _ _ (by simp) ?_
 by_cases hc:D4 l h told=0
 rotate_left
 ·have hu:CV l h told=(l,false,D4 l h told):=by simp[CV,hc]
  rw[hu]
  have f1:Ac (decide (D4 l h told=0)=false):=A0 hc
  clear hc hu
  simp only[OD,Cz.z1];refine DK ?_
  repeat' ((first|exact tt|refine c2 hC ?_|refine na fun b=>?_|refine nb fun b hb=>?_|refine iq ?_|(refine jq ?_ ?_<;>intro h h')|exact wZ|refine Aa ?_ ?_)<;>try refine DK ?_)
  all_goals exact AG (by simp[Am,lk,h1,h2,r_two,rl_cons,rl_nil,Br,al_int,al_bool]) Hh
 rw[hc]at hC
 cases hs:BC l h.h with
 | none=>
  have hu:CV l h told=(l++[h],true,0):=by simp[CV,hc,hs]
  rw[hu]
  rw[hs]at hS
  have hf:=Yk hs
  clear hc hu hs
  simp only[OD,Cz.z1];refine DK ?_
  repeat' ((first|exact tt|refine c2 hC ?_|refine c2 hS ?_|refine na fun b=>?_|refine nb fun b hb=>?_|refine iq ?_|(refine jq ?_ ?_<;>intro h h')|exact wZ|refine Aa ?_ ?_)<;>try refine DK ?_)
  all_goals exact AG (by simp[Am,lk,h1,h2,r_two,rl_cons,rl_nil,Br,al_int,al_bool,EA,hk,hv,GL,Ep,List.range_succ]) Hh
 | some x=>
  have hu:CV l h told=(l,false,0):=by simp[CV,hc,hs]
  rw[hu]
  have hx:=a2N hc hs
  subst hx
  rw[hs]at hS
  obtain ⟨i,hi,hf,hg,h3⟩:=Yl hs
  have hset:=a4u h3
  clear hc hu hs h3
  simp only[OD,Cz.z1];refine DK ?_
  repeat' ((first|exact tt|refine c2 hC ?_|refine c2 hS ?_|refine na fun b=>?_|refine nb fun b hb=>?_|refine iq ?_|(refine jq ?_ ?_<;>intro h h')|exact wZ|refine Aa ?_ ?_)<;>try refine DK ?_)
  all_goals (simp only[HdC.cs]at hset)
  all_goals exact AG (by simp[Am,lk,h1,h2,r_two,rl_cons,rl_nil,Br,al_int,al_bool,EA,hset]) Hh
section
open Go.RowKit Go.ChangeMaps Go.Sort Go.Shelf
abbrev F4:={ x:HdC // 0≤x.h∧x.h≤1099511627776 }
instance:Inhabited F4:=⟨⟨default,by decide⟩⟩
def DD(x:F4):List Value:=.int .i64 x.1.h :: .int .i64 x.1.t::x.1.r.map (Value.int .u8 ·)
theorem Lq(x:F4):(DD x).length=34:=by simp[DD,x.1.n]
theorem RG(x:F4):∀ u∈DD x,u.oneCell'=true:=by
 intro u hu
 simp only[DD,AZ,Dp]at hu
 rcases hu with rfl|rfl | ⟨b,_,rfl⟩<;>rfl
def Kh(x y:F4):Int:=x.1.h - y.1.h
theorem Ps(x y:F4):ltOf Kh x y=decide (x.1.h<y.1.h):=by
 unfold ltOf Kh
 by_cases h:x.1.h<y.1.h
 ·rw[AO h,AO (by omega)]
 ·rw[A0 h,A0 (by omega)]
theorem b2A:SWO (ltOf Kh) where
 irrefl x:=by rw[Ps];simp
 trans x y z h1 h2:=by
  rw[Ps]at h1 h2 ⊢
  have:=of_decide_eq_true h1;have:=of_decide_eq_true h2
  exact AO (by omega)
 ntrans x y z h1 h2:=by
  rw[Ps]at h1 h2 ⊢
  have:=of_decide_eq_false h1;have:=of_decide_eq_false h2
  exact A0 (by omega)
theorem b3I(x y:F4)(W:World):Calls Tryz.prog 132 #[.agg (DD x).toArray,.agg (DD y).toArray] W fun e w'=>e=.returned (.int .i64 (Kh x y))∧∃ q os',w'=grow (W.drewN q) os':=by
 obtain ⟨⟨hx,tx,rx,nx⟩,b1,b2⟩:=x
 obtain ⟨⟨hy,ty,ry,ny⟩,c1,c2⟩:=y
 simp only at b1 b2 c1 c2
 have hw:IntKind.i64.wrap (hx - hy)=hx - hy:=Ap (by omega)
 simp only[DD,Kh]
 generalize rx.map (Value.int .u8 ·)=px
 generalize ry.map (Value.int .u8 ·)=py
 go_enter Tryz.func132,Tryz.ntmps132
 go_wp2
 go_ret
 exact ⟨rfl,0,_,by rw[alloc_eq_grow,alloc_eq_grow,grow_grow];rfl⟩
theorem b3J(blk off size:Nat)(w:World):CmpLays Tryz.prog 132 #[] DD 34 Kh blk off size w:=fun _ _ _ _ x y=>b3I x y _
theorem b3L(bx b:Nat)(es:Array MapEntry)(clk:Nat)(l:List F4)(w:World)(tb:TypeId)(hbx:w.heap[bx]?=some (.cells #[.map (some b)] tb (0,0)))(hb:w.heap[b]?=some (.map es clk))
  (hval:es.toList.map (·.val)=l.map fun x=>.agg (DD x).toArray) (hborn:∀ x∈es.toList,x.born<clk) (hnd:(es.toList.map (·.born)).Nodup) (hl:l.length≤1000000):
  Calls Tryz.prog 130 #[.func (.func 181) #[] #[.pointer (some ⟨bx,0,none⟩)],.func (.func 132) #[] #[]] w fun e W'=>
   ∃ (v:Value) (ds:List F4),e=.returned v∧ds.Perm l∧(∀ i j,i<j→j<ds.length→(ds.getD i default).1.h≤(ds.getD j default).1.h)∧W'.ownsRow w.heap.size 31 34 v ds.length (ds.flatMap DD)∧Below w.heap.size w W':=by
 have hcol:Calls Tryz.prog 179 #[.func (.func 181) #[] #[.pointer (some ⟨bx,0,none⟩)]] w fun e W'=>
   ∃ (v:Value) (xs:List F4),e=.returned v∧xs.Perm l∧W'.ownsRow w.heap.size 31 34 v xs.length (xs.flatMap DD)∧Below w.heap.size w W':=by
  have ha:=callsIn_wide.1 (b3H DD Lq RG Fence.wide 10 trivial trivial rfl (by omega) bx b es clk l w tb hbx hb hval hborn hnd hl)
  go_enter Tryz.func179,Tryz.ntmps179
  go_wp2_with (go_at_call 215;refine ha.mono ?_;rintro e W' ⟨v,xs,rfl,hp,hrow,hbl⟩)
  go_ret
  exact ⟨v,xs,rfl,hp,hrow,hbl⟩
 go_enter Tryz.func130,Tryz.ntmps130
 go_wp2_with (go_at_call 179;refine hcol.mono ?_;rintro e W' ⟨v,xs,rfl,hp,hrow,hbl⟩)
 rcases hrow.2 with ⟨rfl,hz⟩ | ⟨g,cap,cur,rfl,hbase,hgb,r1,r2,r3,r4⟩
 ·have hss:xs=[]:=Dn hz
  subst hss
  refine (AnyF.slices_SortFunc_none Tryz.sort180 none 0 _ W').mono ?_
  rintro e W2 ⟨rfl,rfl⟩
  go_wp2
  go_ret
  exact ⟨.slice none 0 0,[],rfl,hp,by simp,by simpa using hrow,hbl⟩
 ·have hH:=a4t Lq (by omega) hgb r4
  have hgl:g<W'.heap.size:=(BH.1 hgb).1
  have hsz:xs.toArray.size<4611686018427387904:=by
   have:=hp.length_eq
   simp;omega
  have cS:=AnyQ.slices_SortFunc Tryz.sort180 34 Tryz.isAgg31 Tryz.sizeOf31 DD Lq RG Kh b2A 132 #[] g 0 cap xs.toArray W' (enters_of Tryz.func132 (by kernel_rfl) rfl) (b3J _ _ _ _) hH hgl hsz
  refine (show Calls Tryz.prog 180 #[.slice (some ⟨g,0,none⟩) xs.length cap,_] W' _ from cS).mono ?_
  rintro e W2 ⟨rfl,d',nn,os,hperm,hsorted,rfl⟩
  have hpd:d'.toList.Perm xs:=b0j hperm
  have hown:=a8x (n:=nn) (os:=os) Lq (by omega) (hpd.length_eq) hbase hgb r1 r2 r3
  have hgr:=a3V (cl:=DD) (k:=34) (w:=W') (g:=g) (n:=nn) (os:=os) d'
  simp only[Array.toArray_toList]at hown
  go_wp2
  go_ret
  refine ⟨_,d'.toList,rfl,hpd.trans hp,fun i j hij hj=>?_, ?_,hbl.grown hgr hbl.size (fun k e=>by cases e;exact hbase)⟩
  ·have hj':j<xs.toArray.size:=by rw[Ck, ← hpd.length_eq];exact hj
   have:=hsorted i j (Nat.zero_le _) hij hj'
   rw[Ps]at this
   have:=of_decide_eq_false this
   have Bn:d'.size=d'.toList.length:=by simp
   have e1:d'[i]! = d'.toList.getD i default:=by simp[List.getD,getElem!_pos,show i<d'.size by omega]
   have e2:d'[j]! = d'.toList.getD j default:=by simp[List.getD,getElem!_pos,show j<d'.size by omega]
   rw[← e1, ← e2];omega
  ·rw[hpd.length_eq];exact hown
end
end Go.Proofs.YtfgihnhoocnmdaaGreatDoor
