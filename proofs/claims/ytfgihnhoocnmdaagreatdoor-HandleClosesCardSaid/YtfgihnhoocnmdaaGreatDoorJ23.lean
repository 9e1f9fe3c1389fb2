import Derived.Test.YtfgihnhoocnmdaaGreatDoorJ22
namespace Go.Proofs.YtfgihnhoocnmdaaGreatDoor
set_option linter.all false
set_option maxHeartbeats 64000000
set_option maxRecDepth 100000
section
open Go.RowKit
def hk(l:List HdC):List AV:=(l.map HdC.h).map GL
def hv(l:List HdC):List AV:=l.map Ep
abbrev EA(l:List HdC):AV:=.mp (hk l) (hv l) (List.range l.length) l.length
abbrev BI(c m:Nat)(l:List HdC):List (Nat × List AV):=[(c,[.mapv m]),(m,[EA l])]
theorem Yk{l:List HdC}{a:Int}(h:BC l a=none):B2 [.i] true (.agg [.int .i64 a]) (hk l)=some none:=by
 refine O3 [.i] true GL SE a _ fun hm=>?_
 obtain ⟨x,hx,e⟩:=Dp.1 hm
 exact a0z h x hx e
theorem Yl{l:List HdC}{a:Int}{x:HdC}(h:BC l a=some x):∃ i,i<l.length∧B2 [.i] true (.agg [.int .i64 a]) (hk l)=some (some i)∧(hv l).getD i .undef=.agg x.cs∧l[i]?=some x:=by
 induction l with
 | nil=>simp[BC]at h
 | cons y l ih=>
  have e:=Jt [.i] true GL SE a ((y::l).map HdC.h)
  by_cases hy:y.h=a
  ·simp[BC,hy]at h
   subst h
   refine ⟨0,by simp, ?_,rfl,rfl⟩
   show B2 _ _ (GL a) _=_
   rw[hk,e,CX,List.idxOf?_cons,hy];simp
  ·simp only[BC,List.find?_cons,hy,decide_false]at h
   obtain ⟨i,h1,h2,h3,h4⟩:=ih h
   refine ⟨i+1,by simpa using h1, ?_,by simpa[hv]using h3,by simpa using h4⟩
   have e2:=Jt [.i] true GL SE a (l.map HdC.h)
   have h2':B2 [.i] true (GL a) ((l.map HdC.h).map GL)=some (some i):=h2
   rw[e2]at h2'
   show B2 _ _ (GL a) _=_
   rw[hk,e,CX,List.idxOf?_cons]
   have:(y.h==a)=false:=by simp[hy]
   rw[this]
   simp only[Az]at h2'
   simp[h2']
theorem DK{A B:Prop}(h:B)(e:A=B:=by (simp (disch:=omega) only[*, ↓Ed,Eu, ↓reduceIte,reduceCtorEq,Nat.reduceAdd,Nat.reduceEqDiff,Nat.reduceLT,Nat.reduceLeDiff,Int.reduceToNat,Int.reduceEq,Int.reduceLT,Int.reduceLE,Ap,Ao,Ax,AN,beq_self_eq_true,HdC.cs,Ey,DW,BF,Cw,Co,C6,Dc,HS,HU,Int.reduceAdd,FQ,FS,EH,J3];first|done|rfl)):A:=e▸h
theorem a0W:CT Tryz.prog 25 [] (lk []) (S1 [] [EA []]):=by
 refine a7N _ _ _ (by simp) ?_
 simp only[UU];refine DK ?_
 repeat' ((first|exact tt|refine na fun b=>?_|refine nb fun b hb=>?_|refine iq ?_|(refine jq ?_ ?_<;>intro h h')|exact wZ|refine Aa ?_ ?_)<;>try refine DK ?_)
 rename_i m
 exact b0K (o2:=[]) b m (by simp[Am,lk,hb,BR,Br,hk,hv]) (by simp[hb]) rfl rfl (fun _ _ h=>by simp[lk]at h)
theorem Io(c m:Nat)(h1:¬ c=m)(h2:¬ m=c)(l:List HdC)(a:Int):CT Tryz.prog 82 [.ptr c 0,.int .i64 a] (lk (BI c m l)) (fun r o=>r=.tup [.agg ((BC l a).getD default).cs,.bool (BC l a).isSome]∧o=lk (BI c m l)):=by
 refine a7K _ _ _ (by simp) ?_
 cases hs:BC l a with
 | none=>
  have hf:=Yk hs
  clear hs
  simp only[Q4,Cz.z1];refine DK ?_
  repeat' ((first|exact tt|refine na fun b=>?_|refine nb fun b hb=>?_|refine iq ?_|(refine jq ?_ ?_<;>intro h h')|exact wZ|refine Aa ?_ ?_)<;>try refine DK ?_)
  rename_i B HB
  exact AG (by simp[Am,lk,h1,h2,hb,HB,r_two,rl_cons,rl_nil,Br,view,l_all,Cw,BF,al_agg,al_bool]) Hh
 | some x=>
  obtain ⟨i,hi,hf,hg,_⟩:=Yl hs
  clear hs
  simp only[Q4,Cz.z1];refine DK ?_
  repeat' ((first|exact tt|refine na fun b=>?_|refine nb fun b hb=>?_|refine iq ?_|(refine jq ?_ ?_<;>intro h h')|exact wZ|refine Aa ?_ ?_)<;>try refine DK ?_)
  rename_i B HB
  exact AG (by simp[Am,lk,h1,h2,hb,HB,r_two,rl_cons,rl_nil,Br,view,l_all,Cw,BF,al_agg,al_bool]) Hh
theorem Yp{x:HdC}(h:Hq x=true):1≤x.h∧x.h≤1099511627776∧0≤x.t∧x.t≤1099511627776:=of_decide_eq_true h
theorem a5g{x:HdC}(h:Hq x=false):¬ (1≤x.h∧x.h≤1099511627776∧0≤x.t∧x.t≤1099511627776):=of_decide_eq_false h
theorem b2D(c m:Nat)(h1:¬ c=m)(h2:¬ m=c)(l told:List HdC)(h:HdC)(gt:AV)(hgt:gt.alias=.sl none 34 (Bn told))(hlt:told.length≤1000):
  CT Tryz.prog 81 [.ptr c 0,.agg h.cs,gt] (lk (BI c m l)) (fun r o=>r=.int .i64 (D4 l h told)∧o=lk (BI c m l)):=by
 have hS:=Io c m h1 h2 l h.h
 have hA:=a9e h told (.sl none 34 (Bn told)) rfl hlt
 refine a7J _ _ _ (by simp) ?_
 cases hm:Hq h with
 | false=>
  have hc:D4 l h told=1:=by simp[D4,hm]
  rw[hc]
  have F:Ac (¬ (1≤h.h∧h.h≤1099511627776∧0≤h.t∧h.t≤1099511627776)):=a5g hm
  clear hm hc
  simp only[Ld,Cz.z1];refine DK ?_
  repeat' ((first|exact tt|refine c2 hS ?_|refine Ab hA ?_|refine na fun b=>?_|refine nb fun b hb=>?_|refine iq ?_|(refine jq ?_ ?_<;>intro h h')|exact wZ|refine Aa ?_ ?_)<;>try refine DK ?_)
  all_goals (first|(exfalso;simp only[Ac,Hn]at *;omega)|exact AG (by simp[Am,lk,h1,h2,BR,Br]) Hh)
 | true=>
 obtain ⟨q1,q2,q3,q4⟩:=Yp hm
 have f1:Ac (decide (h.h<1)=false):=fo
 have f2:Ac (decide (1099511627776<h.h)=false):=fo
 have f3:Ac (decide (h.t<0)=false):=fo
 have f4:Ac (decide (1099511627776<h.t)=false):=fo
 by_cases hin:h∈told
 rotate_left
 ·have hc:D4 l h told=9:=by simp[D4,hm,hin]
  rw[hc]
  rw[A0 hin]at hA
  clear hm hc hin
  simp only[Ld,Cz.z1];refine DK ?_
  repeat' ((first|exact tt|refine c2 hS ?_|refine Ab hA ?_|refine na fun b=>?_|refine nb fun b hb=>?_|refine iq ?_|(refine jq ?_ ?_<;>intro h h')|exact wZ|refine Aa ?_ ?_)<;>try refine DK ?_)
  all_goals exact AG (by simp[Am,lk,h1,h2,BR,Br]) Hh
 rw[AO hin]at hA
 cases hs:BC l h.h with
 | none=>
  have hc:D4 l h told=0:=by simp[D4,hm,hin,hs]
  rw[hc]
  rw[hs]at hS
  clear hm hc hin hs
  simp only[Ld,Cz.z1];refine DK ?_
  repeat' ((first|exact tt|refine c2 hS ?_|refine Ab hA ?_|refine na fun b=>?_|refine nb fun b hb=>?_|refine iq ?_|(refine jq ?_ ?_<;>intro h h')|exact wZ|refine Aa ?_ ?_)<;>try refine DK ?_)
  all_goals exact AG (by simp[Am,lk,h1,h2,BR,Br]) Hh
 | some x=>
  have hc:D4 l h told=if x=h then 0 else 8:=by simp[D4,hm,hin,hs]
  rw[hs]at hS
  cases hxx:decide (x=h) with
  | true=>
   rw[Af (of_decide_eq_true hxx)]at hc
   rw[hc]
   clear hm hc hin hs
   simp only[Ld,Cz.z1];refine DK ?_
   repeat' ((first|exact tt|refine c2 hS ?_|refine Ab hA ?_|refine na fun b=>?_|refine nb fun b hb=>?_|refine iq ?_|(refine jq ?_ ?_<;>intro h h')|exact wZ|refine Aa ?_ ?_)<;>try refine DK ?_)
   all_goals exact AG (by simp[Am,lk,h1,h2,BR,Br]) Hh
  | false=>
   rw[Ad (of_decide_eq_false hxx)]at hc
   rw[hc]
   clear hm hc hin hs
   simp only[Ld,Cz.z1];refine DK ?_
   repeat' ((first|exact tt|refine c2 hS ?_|refine Ab hA ?_|refine na fun b=>?_|refine nb fun b hb=>?_|refine iq ?_|(refine jq ?_ ?_<;>intro h h')|exact wZ|refine Aa ?_ ?_)<;>try refine DK ?_)
   all_goals exact AG (by simp[Am,lk,h1,h2,BR,Br]) Hh
theorem a2N{l:List HdC}{h x:HdC}{told:List HdC}(hc:D4 l h told=0)(hs:BC l h.h=some x):x=h:=by
 unfold D4 at hc
 split at hc
 ·cases hc
 ·split at hc
  ·cases hc
  ·rw[hs]at hc
   simp only at hc
   split at hc
   ·assumption
   ·cases hc
def CV(l:List HdC)(h:HdC)(told:List HdC):List HdC × Bool × Int:=if D4 l h told=0 then (if (BC l h.h).isSome then (l,false,0) else (l++[h],true,0)) else (l,false,D4 l h told)
theorem a4u{l:List HdC}{i:Nat}{x:HdC}(h:l[i]?=some x):(hv l).set i (.agg x.cs)=hv l:=by
 apply F5
 intro j
 rw[List.getElem?_set]
 split
 ·rename_i e;subst e
  obtain ⟨hi,hx⟩:=AM.1 h
  simp[hv,hi,hx,Ep]
 ·rfl
theorem TT(c m:Nat)(h1:¬ c=m)(h2:¬ m=c)(l told:List HdC)(h:HdC)(gt:AV)(hgt:gt.alias=.sl none 34 (Bn told))(hlt:told.length≤1000)(hl:l.length≤1000):
  CT Tryz.prog 34 [.ptr c 0,.agg h.cs,gt] (lk (BI c m l)) (fun r o=>r=.tup [.bool (CV l h told).2.1,.int .i64 (CV l h told).2.2]∧o=lk (BI c m (CV l h told).1)):=by
 have hS:=Io c m h1 h2 l h.h
 have hC:=b2D c m h1 h2 l told h (.sl none 34 (Bn told)) rfl hlt
 refine a7M _ _ _ (by simp) ?_
 by_cases hc:D4 l h told=0
 rotate_left
 ·have hu:CV l h told=(l,false,D4 l h told):=by simp[CV,hc]
  rw[hu]
  have f1:Ac (decide (D4 l h told=0)=false):=A0 hc
  clear hc hu
  simp only[OD,Cz.z1];refine DK ?_
  repeat' ((first|exact tt|refine c2 hC ?_|refine na fun b=>?_|refine nb fun b hb=>?_|refine iq ?_|(refine jq ?_ ?_<;>intro h h')|exact wZ|refine Aa ?_ ?_)<;>try refine DK ?_)
  all_goals exact AG (by simp[Am,lk,h1,h2,r_two,rl_cons,rl_nil,Br,al_int,al_bool]) Hh
 rw[hc]at hC
 cases hs:BC l h.h with
 | none=>
  have hu:CV l h told=(l++[h],true,0):=by simp[CV,hc,hs]
  rw[hu]
  rw[hs]at hS
  have hf:=Yk hs
  clear hc hu hs
  simp only[OD,Cz.z1];refine DK ?_
  repeat' ((first|exact tt|refine c2 hC ?_|refine c2 hS ?_|refine na fun b=>?_|refine nb fun b hb=>?_|refine iq ?_|(refine jq ?_ ?_<;>intro h h')|exact wZ|refine Aa ?_ ?_)<;>try refine DK ?_)
  all_goals exact AG (by simp[Am,lk,h1,h2,r_two,rl_cons,rl_nil,Br,al_int,al_bool,EA,hk,hv,GL,Ep,List.range_succ]) Hh
 | some x=>
  have hu:CV l h told=(l,false,0):=by simp[CV,hc,hs]
  rw[hu]
  have hx:=a2N hc hs
  subst hx
  rw[hs]at hS
  obtain ⟨i,hi,hf,hg,h3⟩:=Yl hs
  have hset:=a4u h3
  clear hc hu hs h3
  simp only[OD,Cz.z1];refine DK ?_
  repeat' ((first|exact tt|refine c2 hC ?_|refine c2 hS ?_|refine na fun b=>?_|refine nb fun b hb=>?_|refine iq ?_|(refine jq ?_ ?_<;>intro h h')|exact wZ|refine Aa ?_ ?_)<;>try refine DK ?_)
  all_goals (simp only[HdC.cs]at hset)
  all_goals exact AG (by simp[Am,lk,h1,h2,r_two,rl_cons,rl_nil,Br,al_int,al_bool,EA,hset]) Hh
end
section
open Go.RowKit Go.ChangeMaps Go.Sort Go.Shelf
abbrev F4:={ x:HdC // 0≤x.h∧x.h≤1099511627776 }
instance:Inhabited F4:=⟨⟨default,by decide⟩⟩
end
section
open Go.RowKit Go.ChangeMaps Go.Sort Go.Shelf
set_option maxRecDepth 100000
end
section
structure Good (K:List HdC) (n:Nat):Prop where
 ap:Apart K
 bd:∀ x∈K,1≤x.h∧x.h≤1099511627776
 ln:K.length≤n
theorem Good.mono{K:List HdC}{n m:Nat}(h:Good K n)(hm:n≤m):Good K m:=⟨h.ap,h.bd,En h.ln hm⟩
end
section
open Go.RowKit Go.Lib
noncomputable def Du (r:List Int) (hr:r.length=32) (tm:Int) (l:List Int):Nat→List HdC
 | 0=>[]
 | i+1=>if Hq ⟨l.getD i 0,tm,r,hr⟩=true∧BC (Du r hr tm l i) (l.getD i 0)=none then Ft ⟨l.getD i 0,tm,r,hr⟩ (Du r hr tm l i) else Du r hr tm l i
structure KnI (K:List HdC) (n:Nat):Prop where
 asc:Asc K
 may:∀ x∈K,Hq x=true
 len:K.length≤n
theorem So(r:List Int)(hr:r.length=32)(tm:Int)(l:List Int):∀ i,KnI (Du r hr tm l i) i
 | 0=>⟨List.Pairwise.nil,by simp[Du],by simp[Du]⟩
 | i+1=>by
  have ih:=So r hr tm l i
  unfold Du
  split
  ·rename_i h
   have hp:=Ns ⟨l.getD i 0,tm,r,hr⟩ (Du r hr tm l i)
   refine ⟨Si ih.asc (a0z h.2),fun x hx=>?_, ?_⟩
   ·rcases AZ.1 (hp.mem_iff.1 hx) with rfl|hx
    ·exact h.1
    ·exact ih.may x hx
   ·rw[hp.length_eq];simp;exact ih.len
  ·exact ⟨ih.asc,ih.may,by have:=ih.len;omega⟩
theorem a1v{K:List HdC}{n:Nat}(h:KnI K n){i:Nat}(hi:i<K.length):CV (K.take i) (K.getD i default) K=(K.take (i+1),true,0):=by
 have e:K.getD i default=K[i]:=by simp[List.getD,hi]
 have hs:BC (K.take i) (K[i]).h=none:=by
  cases hq:BC (K.take i) (K[i]).h with
  | none=>rfl
  | some x=>
   obtain ⟨h1,h2⟩:=b2r hq
   obtain ⟨j,hj,rfl⟩:=Do h1
   rw[BL]at hj
   rw[List.getElem_take]at h2
   have:=J6.1 h.asc j i (by omega) hi (by omega)
   omega
 have hc:D4 (K.take i) K[i] K=0:=by
  unfold D4
  rw[h.may _ (Di hi),hs]
  simp
 unfold CV
 rw[e,Af hc,hs,List.take_succ,Aw hi]
 simp
end
section
open Go.RowKit Go.Lib
theorem a5B(l:List Int):(IQ l).length=l.length:=by simp
theorem a5A(l:List Int)(i:Nat)(h:i<l.length):(IQ l).getD i []=[.int .i64 (l.getD i 0)]:=by simp[h]
def Ho(K:List HdC):Option Nat:=if K=[] then some 31 else none
theorem a4J:Ho []=some 31:=rfl
theorem a4I(x:HdC)(K:List HdC):Ho (Ft x K)=none:=by
 unfold Ho
 rw[Ad]
 intro h
 have:=(Ns x K).length_eq
 rw[h]at this;simp at this
theorem b0L(L:List PrP):Ae (KN L)=((KN L).map fun b=>(b.toNat:Int)).map (AV.int .u8 ·):=by
 rw[EX];rfl
theorem nil_B:StB [] 0:=⟨⟨List.Pairwise.nil,fun q hq=>by simp at hq,by simp⟩,by simp⟩
theorem a5o{k v:List UInt8}(h:B3 k v=true):k.length≤160∧v.length≤64:=by
 simp only[B3,Bs]at h;omega
theorem QK{L:List PrP}{n:Nat}(h:StB L n)(i:Nat)(hi:i<L.length):(L.getD i default).1.length≤160∧(L.getD i default).2.length≤64:=by
 have:=a5o (h.I.may _ (Di hi))
 simpa[List.getD,hi]using this
theorem Ig{A B:Prop}(h:B)(e:A=B:=by (simp (disch:=omega) only[*, ↓Ed,Eu, ↓reduceIte,reduceCtorEq,Nat.reduceAdd,Nat.reduceEqDiff,Nat.reduceLT,Nat.reduceLeDiff,Int.reduceToNat,Int.reduceEq,Int.reduceLT,Int.reduceLE,Ap,Ao,Ax,AN,GvC.cs,Df,HdC.cs,Ey,DW,BF,Cw,Co,C6,Dc,FQ,FS,Int.reduceAdd,a5B,a5A];first|done|rfl)):A:=e▸h
theorem a9v(x:GvC)(hx:HY x)(r:List Int)(hr:r.length=32)(hrr:r=(KN (Cn [] x.o x.o.length)).map fun b=>(b.toNat:Int)):CP Tryz.prog 41 [.agg x.cs] (.sl (Ho (Du r hr x.a x.n x.n.length)) 34 (Bn (Du r hr x.a x.n x.n.length))):=by
 obtain ⟨-, -, -,⟨o1,o2⟩,n1, -⟩:=hx
 obtain ⟨e,k,m,o,n,a,ht,tm⟩:=x
 simp only at o1 o2 n1 hrr ⊢
 have hml:=SQ [] o o.length
 have hRi:=Zm o (fun i hi=>⟨by have:=(o2 i hi).1;omega,by have:=(o2 i hi).2;omega⟩) (by omega)
 have hRo:=a8Z (Cn [] o o.length) (by simp only[AY]at hml;omega) (fun i hi=>by have:=QK (NA nil_B o (i:=o.length) (by omega)) i hi;omega)
 obtain ⟨x0,h0⟩:∃ x0:HdC,x0=⟨0,a,r,hr⟩:=⟨_,rfl⟩
 have hc:∀ h:Int,(⟨h,a,r,hr⟩:HdC).cs=.int .i64 h :: .int .i64 a::x0.rt:=fun h=>by subst h0;rfl
 rw[b0L, ← hrr,show r.map (AV.int .u8 ·)=x0.rt by subst h0;rfl]at hRo
 have hkl:=fun i=>(So r hr a n i).len
 have hnx:∀ i,Du r hr a n (i+1)=if Hq ⟨n.getD i 0,a,r,hr⟩=true∧BC (Du r hr a n i) (n.getD i 0)=none then Ft ⟨n.getD i 0,a,r,hr⟩ (Du r hr a n i) else Du r hr a n i:=fun _=>rfl
 have hz:Du r hr a n 0=[]:=rfl
 clear o1 o2 hml h0 hrr
 generalize Cn [] o o.length=ro at *
 refine a6m _ _ (by simp) ?_
 simp only[Vm,Cz.z1,Cz.z2];refine Ig ?_
 repeat' ((first|exact tt|refine Ab hRi ?_|refine Ab hRo ?_|refine na fun b=>?_|refine nb fun b hb=>?_|refine iq ?_|(refine jq ?_ ?_<;>intro h h')|exact wZ|refine Aa ?_ ?_)<;>try refine Ig ?_)
 rename_i b1
 refine A2 (fun i:Nat=>⟨lk [(1,.ptr b1 0),(3,.sl (Ho (Du r hr a n i)) 34 (Bn (Du r hr a n i))),(4,.ptr b 0),(5,.int .i64 (i:Int))],lk [(b1,[.sl none 6 (CL e),.sl none 8 (Hy k),.sl none 2 (AX m),.sl none 2 (AX o),.sl none 1 (IQ n),.int .i64 a,.int .i64 ht,.int .i64 tm]),(b,x0.rt)]⟩) (fun i=>i≤n.length) (fun i=>n.length - i) 0 (by omega) (An (by simp[Am,lk,hz,a4J,Bn,hb])) ?_
 intro i hi
 have hki:=hkl i
 by_cases hil:i<n.length
 ·have f1:Ac (decide ((i:Int)<n.length)=true):=fo
  replace hnx:=hnx i
  obtain ⟨h,hgd⟩:∃ h,n.getD i 0=h:=⟨_,rfl⟩
  rw[hgd]at hnx
  generalize hK1:Du r hr a n (i+1)=K' at *
  generalize hK2:Du r hr a n i=K at *
  have hM:=a8P ⟨h,a,r,hr⟩
  have hK:=Zg K (.sl none 34 (Bn K)) rfl (by omega) h
  have hU:=a9Z K (.sl none 34 (Bn K)) rfl (by omega) ⟨h,a,r,hr⟩
  have hc':=hc h
  rw[hc']at hM hU
  clear hkl hz hc hc' hRi hRo hK2
  unfold Qz at hU
  simp only at hU
  obtain ⟨y,hy⟩:∃ y,(BC K h).getD default=y:=⟨_,rfl⟩
  rw[hy]at hK
  by_cases hm:Hq ⟨h,a,r,hr⟩=true
  ·rw[hm]at hM
   cases hs:BC K h with
   | none=>
    rw[hs]at hK hU
    rw[Af ⟨hm,hs⟩]at hnx
    have ho:Ho K'=none:=by rw[hnx];exact a4I _ _
    rw[Ad (by simp), ← hnx]at hU
    simp only[J3]at hK
    clear hnx hm hs hy
    generalize Ho K=oo at *
    refine Ig ?_
    repeat' ((first|exact tt|refine Ab hM ?_|refine Ab hK ?_|refine Ab hU ?_|refine na fun b=>?_|refine nb fun b hb=>?_|refine iq ?_|(refine jq ?_ ?_<;>intro h h')|exact wZ|refine Aa ?_ ?_)<;>try refine Ig ?_)
    all_goals exact AC (i+1) ⟨An (by simp[Am,lk,ho,hK1, *]),hil,by omega⟩
   | some z=>
    rw[hs]at hK
    rw[Ad (fun e=>by rw[hs]at e;exact absurd e.2 (by simp))]at hnx
    simp only[EH]at hK
    clear hU hm hs hy
    subst hnx
    generalize hoo:Ho K'=oo at *
    refine Ig ?_
    repeat' ((first|exact tt|refine Ab hM ?_|refine Ab hK ?_|refine na fun b=>?_|refine nb fun b hb=>?_|refine iq ?_|(refine jq ?_ ?_<;>intro h h')|exact wZ|refine Aa ?_ ?_)<;>try refine Ig ?_)
    all_goals exact AC (i+1) ⟨An (by simp[Am,lk,hK1,hoo, *]),hil,by omega⟩
  ·rw[Ad (fun e=>hm e.1)]at hnx
   rw[show Hq ⟨h,a,r,hr⟩=false by simpa using hm]at hM
   clear hU hm hy
   subst hnx
   generalize hoo:Ho K'=oo at *
   generalize (BC K' h).isSome=bb at *
   refine Ig ?_
   repeat' ((first|exact tt|refine Ab hM ?_|refine Ab hK ?_|refine na fun b=>?_|refine nb fun b hb=>?_|refine iq ?_|(refine jq ?_ ?_<;>intro h h')|exact wZ|refine Aa ?_ ?_)<;>try refine Ig ?_)
   all_goals exact AC (i+1) ⟨An (by simp[Am,lk,hK1,hoo, *]),hil,by omega⟩
 ·obtain rfl:i=n.length:=by omega
  have f1:Ac (decide ((n.length:Int)<n.length)=false):=fo
  clear hkl hz hc hRi hRo hnx hki
  generalize Du r hr a n n.length=K at *
  generalize Ho K=oo at *
  cases oo
  all_goals (refine Ig ?_;try exact tt)
  all_goals repeat' ((first|exact tt|refine na fun b=>?_|refine nb fun b hb=>?_|refine iq ?_|(refine jq ?_ ?_<;>intro h h')|exact wZ|refine Aa ?_ ?_)<;>try refine Ig ?_)
end
section
open Go.RowKit Go.Lib
def Fy(x:GnC):Es:=⟨x.q,x.d,x.o,false,0⟩
noncomputable def E8 (L:List PrP) (x:GnC):List PrP:=A7 L (Ah 7 x.p x.c 0) (Cd (Fy x)).1
noncomputable def Cf (L:List PrP) (x:GnC):Nat→List PrP
 | 0=>L
 | m+1=>A7 (Cf L x m) (Ah ((4+m:Nat):Int) x.p x.c 0) (pn x.n)
noncomputable def Pb (L:List PrP) (x:GnC):List PrP:=Cf (E8 L x) x 3
noncomputable def Bm (l:List GnC):Nat→List PrP
 | 0=>[]
 | i+1=>Pb (Bm l i) (l.getD i default)
theorem Sf(L:List PrP)(x:GnC):∀ m,(Cf L x m).length≤L.length+m
 | 0=>A8 _
 | m+1=>by
  have:=Sf L x m
  have:=NZ (Cf L x m) (Ah ((4+m:Nat):Int) x.p x.c 0) (pn x.n)
  simp only[Cf];omega
theorem XS(l:List GnC):∀ i,(Bm l i).length≤4 * i
 | 0=>A8 _
 | i+1=>by
  have h1:=XS l i
  have h2:=NZ (Bm l i) (Ah 7 (l.getD i default).p (l.getD i default).c 0) (Cd (Fy (l.getD i default))).1
  have h3:=Sf (E8 (Bm l i) (l.getD i default)) (l.getD i default) 3
  simp only[Bm,Pb]
  simp only[E8]at h3 ⊢
  omega
def Kp(i:Nat):Option Nat:=if i=0 then none else some 102
theorem Ii{A B:Prop}(h:B)(e:A=B:=by (simp (disch:=omega) only[*, ↓Ed,Eu, ↓reduceIte,reduceCtorEq,Nat.reduceAdd,Nat.reduceEqDiff,Nat.reduceLT,Nat.reduceLeDiff,Int.reduceToNat,Int.reduceEq,Int.reduceLT,Int.reduceLE,Ap,Gd,Gc,GnC.cs];first|done|rfl)):A:=e▸h
theorem a9B(l:List GnC)(hl:Nw l)(hb:l.length≤20):CP Tryz.prog 36 [.sl none 2 [],.sl none 6 (CL l)] (.sl (Kp l.length) 2 (AX (Bm l l.length))):=by
 have hln:=XS l
 refine a6p _ _ (by simp) ?_
 simp only[Vo];refine Ii ?_
 repeat' ((first|exact tt|refine na fun b=>?_|refine nb fun b hb=>?_|refine iq ?_|(refine jq ?_ ?_<;>intro h h')|exact wZ|refine Aa ?_ ?_)<;>try refine Ii ?_)
 refine A2 (fun i:Nat=>⟨lk [(0,.sl (Kp i) 2 (AX (Bm l i))),(1,.sl none 6 (CL l)),(5,.int .i64 (i:Int))],lk []⟩) (fun i=>i≤l.length) (fun i=>l.length - i) 0 (by omega) (An (by simp[Am,lk,Kp,Bm,AX])) ?_
 intro i i1
 have hll:=hln i
 by_cases hil:i<l.length
 ·have f1:Ac (decide ((i:Int)<l.length)=true):=fo
  have hli:=hl i hil
  have hs1:Bm l (i+1)=Pb (Bm l i) (l.getD i default):=rfl
  have ho:Kp (i+1)=some 102:=rfl
  clear hln hl
  obtain ⟨⟨p,c,q,d,o,n⟩,hgd⟩:∃ a,l.getD i default=a:=⟨_,rfl⟩
  rw[hgd]at hli hs1
  obtain ⟨l1,l2⟩:=hli
  simp only at l1 l2
  have hP:=a9C (Bm l i) (by omega) p c (by omega) ⟨q,d,o,false,0⟩ (by simp only;omega)
  have hA:E8 (Bm l i) ⟨p,c,q,d,o,n⟩=A7 (Bm l i) (Ah 7 p c 0) (Cd ⟨q,d,o,false,0⟩).1:=rfl
  rw[← hA]at hP
  unfold Pb at hs1
  have Ca:=NZ (Bm l i) (Ah 7 p c 0) (Cd ⟨q,d,o,false,0⟩).1
  rw[← hA]at Ca
  clear hA
  generalize hL3:Bm l (i+1)=L3 at *
  generalize Kp i=ow at *
  generalize Bm l i=L0 at *
  generalize E8 L0 ⟨p,c,q,d,o,n⟩=L1 at *
  refine Ii ?_
  repeat' ((first|exact tt|refine Ag hP ?_|refine Ab hP ?_|refine na fun b=>?_|refine nb fun b hb=>?_|refine iq ?_|(refine jq ?_ ?_<;>intro h h')|exact wZ|refine Aa ?_ ?_)<;>try refine Ii ?_)
  clear hP
  obtain ⟨x,hx⟩:∃ x:GnC,x=⟨p,c,q,d,o,n⟩:=⟨_,rfl⟩
  rw[← hx]at hs1
  have hxp:x.p=p∧x.c=c∧x.n=n:=by rw[hx];exact ⟨rfl,rfl,rfl⟩
  clear hx
  refine A2 (fun m:Nat=>⟨lk [(0,.sl (some 102) 2 (AX (Cf L1 x m))),(1,.sl none 6 (CL l)),(5,.int .i64 (i:Int)),(6,.int .i64 ((4+m:Nat):Int))],lk []⟩) (fun m=>m≤3) (fun m=>3 - m) 0 (by omega) (An (by simp[Am,lk,Cf])) ?_
  intro m hm
  by_cases hm3:m<3
  ·have f2:Ac (decide (((4+m:Nat):Int)≤6)=true):=fo
   have hB:=Sf L1 x m
   have hS:Cf L1 x (m+1)=A7 (Cf L1 x m) (Ah ((4+m:Nat):Int) x.p x.c 0) (pn x.n):=rfl
   have hN:=a9D (Cf L1 x m) (by omega) ((4+m:Nat):Int) p c (by omega) n
   rw[hxp.1,hxp.2.1,hxp.2.2]at hS
   rw[← hS]at hN
   clear hS hxp hs1
   generalize hL4:Cf L1 x (m+1)=L4 at *
   generalize Cf L1 x m=L5 at *
   generalize hk:4+m=kk at *
   refine Ii ?_
   repeat' ((first|exact tt|refine Ag hN ?_|refine Ab hN ?_|refine na fun b=>?_|refine nb fun b hb=>?_|refine iq ?_|(refine jq ?_ ?_<;>intro h h')|exact wZ|refine Aa ?_ ?_)<;>try refine Ii ?_)
   all_goals exact AC (m+1) ⟨An (by simp[Am,lk,hL4, ← Nat.add_assoc,hk]),hm3,by omega⟩
  ·obtain rfl:m=3:=by omega
   have f2:Ac (decide (((4+3:Nat):Int)≤6)=false):=fo
   rw[← hs1]
   clear hs1 hxp
   refine Ii ?_
   repeat' ((first|exact tt|refine na fun b=>?_|refine nb fun b hb=>?_|refine iq ?_|(refine jq ?_ ?_<;>intro h h')|exact wZ|refine Aa ?_ ?_)<;>try refine Ii ?_)
   all_goals exact AC (i+1) ⟨An (by simp[Am,lk,ho,hL3]),hil,by omega⟩
 ·obtain rfl:i=l.length:=by omega
  have f1:Ac (decide ((l.length:Int)<l.length)=false):=fo
  clear hln
  generalize Bm l l.length=L at *
  unfold Kp
  split
  all_goals
   refine Ii ?_
   repeat' ((first|exact tt|refine na fun b=>?_|refine nb fun b hb=>?_|refine iq ?_|(refine jq ?_ ?_<;>intro h h')|exact wZ|refine Aa ?_ ?_)<;>try refine Ii ?_)
theorem P1{A:Prop}(h:A:=by first|(simp[Am,lk,AA,Cf, *];done)|fail):A:=h
end
section
open Go.RowKit Go.Lib
noncomputable def ID (e:List GnC):List PrP:=if E5 e=0 then Bm e e.length else []
noncomputable def Nh (x:GvC):List PrP:=Cn (D6 (ID x.e) x.k x.k.length) x.m x.m.length
theorem FY{A B:Prop}(h:B)(e:A=B:=by (simp (disch:=omega) only[*, ↓Ed,Eu, ↓reduceIte,reduceCtorEq,Nat.reduceAdd,Nat.reduceEqDiff,Nat.reduceLT,Nat.reduceLeDiff,Int.reduceToNat,Int.reduceEq,Int.reduceLT,Int.reduceLE,Ap,Ao,Ax,AN,GvC.cs,Df,Dw,Tu,Tt,PktC.cs,Int.reduceAdd,AJ,AY,AH];first|done|rfl)):A:=e▸h
theorem a8D(x:GvC)(hx:HY x)(r:List Int)(hr:r.length=32)(hrr:r=(KN (Cn [] x.o x.o.length)).map fun b=>(b.toNat:Int))(hI:StB (ID x.e) 40):CP Tryz.prog 13 [.agg x.cs] (.agg [.sl none 2 (AX (Nh x)),.sl none 34 (Bn (Du r hr x.a x.n x.n.length)),.int .i64 x.ht,.int .i64 x.tm,.nils 31 34]):=by
 have hH:=a9v x hx r hr hrr
 obtain ⟨⟨e1,e2⟩,k1,⟨m1,m2⟩, -, -,k2⟩:=hx
 obtain ⟨e,k,m,o,n,a,ht,tm⟩:=x
 simp only at e1 e2 k1 k2 m1 m2 hrr hI hH ⊢
 unfold Nh
 simp only
 generalize Du r hr a n n.length=K at *
 generalize Ho K=oK at *
 have hl:Nw e:=fun i hi=>⟨by have:=(e2 i hi).1;omega,by have:=(e2 i hi).2;omega⟩
 have hC:=a8A e hl (by omega)
 have hN:=a9B e hl (by omega)
 clear hl e2 hrr
 have hd:E5 e=0→ID e=Bm e e.length:=fun h=>by unfold ID;rw[Af h]
 have hd2:E5 e≠0→ID e=[]:=fun h=>by unfold ID;rw[Ad h]
 generalize ID e=D at *
 have kB:=fun i (hi:i≤10)=>Sm hI k (i:=i) (by omega)
 have mB:=fun i (hi:i≤40)=>NA (kB k.length k1) m (i:=i) (by omega)
 refine a6h _ _ (by simp) ?_
 have k0:D6 D k 0=D:=rfl
 have m0:Cn (D6 D k k.length) m 0=D6 D k k.length:=rfl
 have kn:∀ i,D6 D k (i+1)=if BO (k.getD i default)=true then A7 (D6 D k i) (Ah 1 (k.getD i default).s (k.getD i default).sc (k.getD i default).q) (Cg (k.getD i default)) else D6 D k i:=fun _=>rfl
 have mn:∀ i,Cn (D6 D k k.length) m (i+1)=CQ (Cn (D6 D k k.length) m i) (m.getD i default).1 (m.getD i default).2:=fun _=>rfl
 generalize hKL:D6 D k k.length=KL at *
 have kb:=fun i hi=>(kB i hi).b
 have mb:=fun i hi=>(mB i hi).b
 clear kB mB hI
 unfold CQ at mn
 by_cases hz:E5 e=0
 rotate_left
 have hD:=hd2 hz
 have hC0:Ac (decide (E5 e=0)=false):=by simpa[Ac]using hz
 clear hd hd2 hN hz
 rotate_left
 rw[← hd hz]at hN
 rw[hz]at hC
 generalize Kp e.length=io at *
 clear hd hd2 hz
 rcases io with _|io
 all_goals (simp only[Vj];refine FY ?_;try exact tt)
 all_goals repeat' ((first|exact tt|refine Ab hC ?_|refine Ab hN ?_|refine na fun b=>?_|refine nb fun b hb=>?_|refine iq ?_|(refine jq ?_ ?_<;>intro h h')|exact wZ|refine Aa ?_ ?_)<;>try refine FY ?_)
 all_goals rename_i b1
 all_goals first
 | refine A2 (fun q:Nat × Option Nat=>⟨lk [(1,.ptr b1 0),(2,.ptr b 0),(3,.sl q.2 2 (AX (D6 D k q.1))),(4,.int .i64 (q.1:Int))],lk [(b1,[.sl none 6 (CL e),.sl none 8 (Hy k),.sl none 2 (AX m),.sl none 2 (AX o),.sl none 1 (IQ n),.int .i64 a,.int .i64 ht,.int .i64 tm]),(b,[.sl (some 102) 2 [],.sl (some 31) 34 [],.int .i64 0,.int .i64 0,.sl (some 31) 34 []])]⟩) (fun q=>q.1≤k.length) (fun q=>k.length - q.1) (0,none) (by simp) (An (by first|(simp[Am,lk,k0,hb];done)|(simp[Am,lk,k0.trans hD,hb,AX];done)|fail)) ?_
 | refine A2 (fun q:Nat × Option Nat=>⟨lk [(1,.ptr b1 0),(2,.ptr b 0),(3,.sl q.2 2 (AX (D6 D k q.1))),(4,.int .i64 (q.1:Int))],lk [(b1,[.sl none 6 (CL e),.sl none 8 (Hy k),.sl none 2 (AX m),.sl none 2 (AX o),.sl none 1 (IQ n),.int .i64 a,.int .i64 ht,.int .i64 tm]),(b,[.sl (some 102) 2 [],.sl (some 31) 34 [],.int .i64 0,.int .i64 0,.sl (some 31) 34 []])]⟩) (fun q=>q.1≤k.length) (fun q=>k.length - q.1) (0,some io) (by simp) (An (by first|(simp[Am,lk,k0,hb];done)|(simp[Am,lk,k0.trans hD,hb,AX];done)|fail)) ?_
 | refine A2 (fun q:Nat × Option Nat=>⟨lk [(1,.ptr b1 0),(2,.ptr b 0),(3,.sl q.2 2 (AX (D6 D k q.1))),(4,.int .i64 (q.1:Int))],lk [(b1,[.sl none 6 (CL e),.sl none 8 (Hy k),.sl none 2 (AX m),.sl none 2 (AX o),.sl none 1 (IQ n),.int .i64 a,.int .i64 ht,.int .i64 tm]),(b,[.sl (some 102) 2 [],.sl (some 31) 34 [],.int .i64 0,.int .i64 0,.sl (some 31) 34 []])]⟩) (fun q=>q.1≤k.length) (fun q=>k.length - q.1) (0,some 102) (by simp) (An (by first|(simp[Am,lk,k0,hb];done)|(simp[Am,lk,k0.trans hD,hb,AX];done)|fail)) ?_
 all_goals
  rintro ⟨i,oo⟩ hi
  simp only at hi ⊢
  try clear hD
  try clear hN
  have hki:=kb i (by omega)
  by_cases hil:i<k.length
  ·have f1:Ac (decide ((i:Int)<k.length)=true):=fo
   have kn:=kn i
   have ⟨b1',b2',b3'⟩:=k2 i hil
   obtain ⟨p,hgd⟩:∃ p,k.getD i default=p:=⟨_,rfl⟩
   rw[hgd]at kn b1' b2' b3'
   have hM:=ZE p (by omega) (by omega) (by omega)
   have hO:=JD 1 p.s p.sc p.q (by omega)
   have hS:=NI (D6 D k i) (by omega) (Ah 1 p.s p.sc p.q) (Cg p)
   have hq:=fun h=>a9T p (by omega) (by omega) (by omega) h
   clear k0 kb b1' b2' b3' mn m0 mb hKL hH k2 m2
   generalize hK1:D6 D k (i+1)=K1 at *
   generalize hK0:D6 D k i=K0 at *
   unfold Hz at hS
   cases hm:BO p with
   | true=>
    rw[Af hm]at kn
    rw[← kn]at hS
    rw[hm]at hM
    have hT:=hq hm
    clear hq hm kn hK0
    generalize Ah 1 p.s p.sc p.q=key at *
    refine FY ?_
    repeat' ((first|exact tt|refine Ab hM ?_|refine Ag hO ?_|refine Ag hT ?_|refine Ag hS ?_|refine na fun b=>?_|refine nb fun b hb=>?_|refine iq ?_|(refine jq ?_ ?_<;>intro h h')|exact wZ|refine Aa ?_ ?_)<;>try refine FY ?_)
    all_goals exact AC (i+1,some 102) ⟨An (by simp[Am,lk,hK1,hb];done),hil,by simp only;omega⟩
   | false=>
    rw[Ad (by simp[hm])]at kn
    rw[hm]at hM
    clear hq hm hS hO hK0
    subst kn
    refine FY ?_
    repeat' ((first|exact tt|refine Ab hM ?_|refine na fun b=>?_|refine nb fun b hb=>?_|refine iq ?_|(refine jq ?_ ?_<;>intro h h')|exact wZ|refine Aa ?_ ?_)<;>try refine FY ?_)
    all_goals exact AC (i+1,oo) ⟨An (by simp[Am,lk,hK1,hb];done),hil,by simp only;omega⟩
  obtain rfl:i=k.length:=by omega
  have f1:Ac (decide ((k.length:Int)<k.length)=false):=fo
  rw[hKL]
  clear hki k0 kb k2 kn hi hil
  refine FY ?_
  repeat' ((first|exact tt|refine na fun b=>?_|refine nb fun b hb=>?_|refine iq ?_|(refine jq ?_ ?_<;>intro h h')|exact wZ|refine Aa ?_ ?_)<;>try refine FY ?_)
  refine A2 (fun q:Nat × Option Nat=>⟨lk [(1,.ptr b1 0),(2,.ptr b 0),(3,.sl q.2 2 (AX (Cn KL m q.1))),(5,.int .i64 (q.1:Int))],lk [(b1,[.sl none 6 (CL e),.sl none 8 (Hy k),.sl none 2 (AX m),.sl none 2 (AX o),.sl none 1 (IQ n),.int .i64 a,.int .i64 ht,.int .i64 tm]),(b,[.sl (some 102) 2 [],.sl (some 31) 34 [],.int .i64 0,.int .i64 0,.sl (some 31) 34 []])]⟩) (fun q=>q.1≤m.length) (fun q=>m.length - q.1) (0,oo) (by simp) (An (by simp[Am,lk,m0,hb];done)) ?_
  rintro ⟨i,oo⟩ hi
  simp only at hi ⊢
  have hki:=mb i (by omega)
  by_cases hil:i<m.length
  ·have f1:Ac (decide ((i:Int)<m.length)=true):=fo
   have mn:=mn i
   have ⟨b1',b2'⟩:=m2 i hil
   obtain ⟨⟨kk,v⟩,hgd⟩:∃ p,m.getD i default=p:=⟨_,rfl⟩
   rw[hgd]at mn b1' b2'
   simp only at mn b1' b2'
   have hM:=Zk kk v (by omega) (by omega)
   have hS:=NI (Cn KL m i) (by omega) kk v
   clear m0 mb b1' b2' hKL hH m2
   generalize hK1:Cn KL m (i+1)=K1 at *
   generalize hK0:Cn KL m i=K0 at *
   unfold Hz at hS
   cases hm:B3 kk v with
   | true=>
    rw[Af hm]at mn
    rw[← mn]at hS
    rw[hm]at hM
    clear hm mn hK0
    refine FY ?_
    repeat' ((first|exact tt|refine Ab hM ?_|refine Ag hM ?_|refine Ag hS ?_|refine na fun b=>?_|refine nb fun b hb=>?_|refine iq ?_|(refine jq ?_ ?_<;>intro h h')|exact wZ|refine Aa ?_ ?_)<;>try refine FY ?_)
    all_goals exact AC (i+1,some 102) ⟨An (by simp[Am,lk,hK1,hb];done),hil,by simp only;omega⟩
   | false=>
    rw[Ad (by simp[hm])]at mn
    rw[hm]at hM
    clear hm hS hK0
    subst mn
    refine FY ?_
    repeat' ((first|exact tt|refine Ab hM ?_|refine Ag hM ?_|refine na fun b=>?_|refine nb fun b hb=>?_|refine iq ?_|(refine jq ?_ ?_<;>intro h h')|exact wZ|refine Aa ?_ ?_)<;>try refine FY ?_)
    all_goals exact AC (i+1,oo) ⟨An (by simp[Am,lk,hK1,hb];done),hil,by simp only;omega⟩
  obtain rfl:i=m.length:=by omega
  have f1:Ac (decide ((m.length:Int)<m.length)=false):=fo
  clear hki m0 mb m2 mn hi hil hKL
  generalize Cn KL m m.length=ML at *
  refine FY ?_
  repeat' ((first|exact tt|refine Ab hH ?_|refine Ag hH ?_|refine na fun b=>?_|refine nb fun b hb=>?_|refine iq ?_|(refine jq ?_ ?_<;>intro h h')|exact wZ|refine Aa ?_ ?_)<;>try refine FY ?_)
end
section
open Go.RowKit Go.Lib
def Bf(l:List Nat):Bl→Prop
 | none=>True
 | some (g,_)=>∀ b∈l, ¬ g=b∧¬ b=g
theorem YJ(l:List Nat):Bf l none:=trivial
theorem S3{l:List Nat}{g cap:Nat}(h:∀ b∈l, ¬ g=b∧¬ b=g):Bf l (some (g,cap)):=h
abbrev PN(L:List PrP)(K:List HdC)(ht tm:Int):AV→(Nat→Option (List AV))→Prop:=fun r o=>∃ s c m x,(stOk s L x∧Bf [c,m] x∧(¬ c=s∧¬ s=c)∧(¬ m=s∧¬ s=m)∧(¬ c=m∧¬ m=c))∧r=.tup [.agg [.ptr s 0,.ptr c 0,.int .i64 ht,.int .i64 tm,.sl none 34 []],.bool true]∧o=lk (AF s L x++BI c m K)
theorem Z6{st:St}{rs:List AR}{L:List PrP}{K:List HdC}{ht tm:Int}(s c m:Nat)(x:Bl)(hy:stOk s L x∧Bf [c,m] x∧(¬ c=s∧¬ s=c)∧(¬ m=s∧¬ s=m)∧(¬ c=m∧¬ m=c))
  (h:BR st rs (.tup [.agg [.ptr s 0,.ptr c 0,.int .i64 ht,.int .i64 tm,.sl none 34 []],.bool true])) (ho:Am (AF s L x++BI c m K) st.o):Ga st rs (lk []) (PN L K ht tm):=
 ⟨_,h,_,Gu ho,fun b cs hb=>by simp[lk]at hb,s,c,m,x,hy,rfl,rfl⟩
theorem I6{A B:Prop}(h:B)(e:A=B:=by (simp (disch:=omega) only[*, ↓Ed,Eu, ↓reduceIte,reduceCtorEq,Nat.reduceAdd,Nat.reduceEqDiff,Nat.reduceLT,Nat.reduceLeDiff,Int.reduceToNat,Int.reduceEq,Int.reduceLT,Int.reduceLE,Ap,Ao,Ax,AN,Df,Dw,HdC.cs,Ey,DW,BF,Cw,Co,C6,Dc,FQ,FS,Int.reduceAdd];first|done|rfl)):A:=e▸h
theorem b2I(L:List PrP)(K:List HdC)(ht tm:Int)(hL:StB L 400){n:Nat}(hK:KnI K n)(hn:n≤100):CT Tryz.prog 12 [.agg [.sl none 2 (AX L),.sl none 34 (Bn K),.int .i64 ht,.int .i64 tm,.nils 31 34]] (lk []) (PN L K ht tm):=by
 refine a7Y _ _ _ (by simp) ?_
 simp only[Vk];refine I6 ?_
 repeat' ((first|exact tt|refine Oi a1e ?_|(refine' Ui (o1:=[]) (o2:=[]) (a0W) (fun _ _ h=>by simp[lk]at h) (fun _ _=>rfl) (Uq (fun c m hc hm hcm hmc=>?_));simp only[Bt,Bu,Bc]at hc hm)|refine na fun b=>?_|refine nb fun b hb=>?_|refine iq ?_|(refine jq ?_ ?_<;>intro h h')|exact wZ|refine Aa ?_ ?_)<;>try refine I6 ?_)
 rename_i b1 br hbr
 have hLn:=hL.b
 have tl:∀ i,i≤L.length→(L.take i).length=i:=fun i h=>by rw[BL];omega
 refine A2 (fun q:Nat × Bl=>⟨lk [(1,.ptr b1 0),(2,.ptr br 0),(4,.ptr b 0),(5,.ptr c 0),(6,.int .i64 (q.1:Int))],lk ((b1,[.sl none 2 (AX L),.sl none 34 (Bn K),.int .i64 ht,.int .i64 tm,.nils 31 34])::(br,[.nilT 49,.nilp,.int .i64 0,.int .i64 0,.sl (some 31) 34 []])::AF b (L.take q.1) q.2++[(c,[.mapv m]),(m,[EA []])])⟩) (fun q=>q.1≤L.length∧stOk b (L.take q.1) q.2∧Bf [c,m,b1,br] q.2) (fun q=>L.length - q.1) (0,none) ⟨by simp,by simp[stOk],trivial⟩ (An (by simp[Am,lk,Ce, *];done)) ?_
 rintro ⟨i,x⟩ ⟨hi,hx,ho⟩
 simp only at hi hx ho ⊢
 by_cases hil:i<L.length
 ·have f1:Ac (decide ((i:Int)<L.length)=true):=fo
  have hz:=QK hL i hil
  have hp:=b0z hL.I hil
  have he:FA (L.getD i default).1 (L.getD i default).2=0:=by
   have hm:B3 (L.getD i default).1 (L.getD i default).2=true:=by
    have:=hL.I.may _ (Di hil)
    simpa[List.getD,hil]using this
   unfold FA;rw[Af hm]
  have hS:=MG b (L.take i) (b3q hL.I i).rise (by rw[tl i hi];omega) (L.getD i default).1 (L.getD i default).2 (by omega) (by omega) x hx
  rw[hp,he]at hS
  have tne:¬ L.take (i+1)=[]:=fun h=>by have:=tl (i+1) (by omega);rw[h]at this;simp at this
  clear hz hp he hL tl hK
  obtain ⟨⟨kk,v⟩,hgd⟩:∃ p,L.getD i default=p:=⟨_,rfl⟩
  rw[hgd]at hS
  simp only at hS
  generalize hT1:L.take (i+1)=T1 at *
  generalize hT0:L.take i=T0 at *
  rcases x with _ | ⟨g,cap⟩
  ·simp only[Ce]at hS ⊢
   simp (disch:=omega) only[hgd,Bi,Bj, ↓Ed,Eu, ↓reduceIte,reduceCtorEq,Nat.reduceAdd,Nat.reduceEqDiff,Nat.reduceLT,Nat.reduceLeDiff,Int.reduceToNat,Int.reduceEq,Int.reduceLT,Int.reduceLE,Ap,Ao,Ax,AN,Df,Dw,HdC.cs,Ey,DW,BF,Cw,Co,C6,Dc,FQ,FS,Int.reduceAdd]
   repeat' ((first|exact tt|((refine Iz hS (fun h0=>?_) (fun gb gc hn h2 hc=>?_))<;>(try simp only[Bt,Bu,Bc]at hn))|refine na fun b=>?_|refine nb fun b hb=>?_|refine iq ?_|(refine jq ?_ ?_<;>intro h h')|exact wZ|refine Aa ?_ ?_)<;>try refine I6 ?_)
   all_goals first
   | exact absurd h0 tne
   | exact AC (i+1,some (gb,gc)) ⟨An (by simp[Am,lk,AA,hT1, *];done),⟨hil,by simp only[hT1];exact ⟨h2,hc⟩,by simp[Bf, *];done⟩,by simp only;omega⟩
  ·have hgs:=hx.1
   simp only[Bf,AZ,B8,Cb,Cs,Cr]at ho
   simp only[AA]at hS ⊢
   simp (disch:=omega) only[hgd,Bi,Bj, ↓Ed,Eu, ↓reduceIte,reduceCtorEq,Nat.reduceAdd,Nat.reduceEqDiff,Nat.reduceLT,Nat.reduceLeDiff,Int.reduceToNat,Int.reduceEq,Int.reduceLT,Int.reduceLE,Ap,Ao,Ax,AN,Df,Dw,HdC.cs,Ey,DW,BF,Cw,Co,C6,Dc,FQ,FS,Int.reduceAdd]
   repeat' ((first|exact tt|((refine Ex hS (fun gc hc=>?_) (fun gb gc hn h2 hc=>?_))<;>(try simp only[Bt,Bu,Bc]at hn))|refine na fun b=>?_|refine nb fun b hb=>?_|refine iq ?_|(refine jq ?_ ?_<;>intro h h')|exact wZ|refine Aa ?_ ?_)<;>try refine I6 ?_)
   all_goals first
   | exact AC (i+1,some (gb,gc)) ⟨An (by simp[Am,lk,AA,hT1, *];done),⟨hil,by simp only[hT1];exact ⟨h2,hc⟩,by simp[Bf, *];done⟩,by simp only;omega⟩
   | exact AC (i+1,some (g,gc)) ⟨An (by simp[Am,lk,AA,hT1, *];done),⟨hil,by simp only[hT1];exact ⟨hgs,hc⟩,by simp[Bf, *];done⟩,by simp only;omega⟩
 obtain rfl:i=L.length:=by omega
 have f1:Ac (decide ((L.length:Int)<L.length)=false):=fo
 rw[B0 (A8 _)]at hx ⊢
 have kl:=hK.len
 have tk:∀ i,i≤K.length→(K.take i).length=i:=fun i h=>by rw[BL];omega
 clear hLn tl hL hi hil
 rcases x with _ | ⟨g,cap⟩
 rotate_left
 have hgs:=hx.1
 simp only[Bf,AZ,B8,Cb,Cs,Cr]at ho
 rotate_left
 all_goals simp only[Ce,AA]
 all_goals simp (disch:=omega) only[Bi,Bj, ↓Ed,Eu, ↓reduceIte,reduceCtorEq,Nat.reduceAdd,Nat.reduceEqDiff,Nat.reduceLT,Nat.reduceLeDiff,Int.reduceToNat,Int.reduceEq,Int.reduceLT,Int.reduceLE,Ap,Ao,Ax,AN,Df,Dw,HdC.cs,Ey,DW,BF,Cw,Co,C6,Dc,FQ,FS,Int.reduceAdd]
 all_goals repeat' ((first|exact tt|refine na fun b=>?_|refine nb fun b hb=>?_|refine iq ?_|(refine jq ?_ ?_<;>intro h h')|exact wZ|refine Aa ?_ ?_)<;>try refine I6 ?_)
 ·refine A2 (fun i:Nat=>⟨lk [(1,.ptr b1 0),(2,.ptr br 0),(4,.ptr b 0),(5,.ptr c 0),(7,.int .i64 (i:Int))],lk ((b1,[.sl none 2 (AX L),.sl none 34 (Bn K),.int .i64 ht,.int .i64 tm,.nils 31 34])::(br,[.nilT 49,.nilp,.int .i64 0,.int .i64 0,.sl (some 31) 34 []])::[(b,[.nils 115 2])]++[(c,[.mapv m]),(m,[EA (K.take i)])])⟩) (fun i=>i≤K.length) (fun i=>K.length - i) 0 (by omega) (An qd) ?_
  intro i hi
  by_cases hil:i<K.length
  ·have f2:Ac (decide ((i:Int)<K.length)=true):=fo
   have hU:=TT c m hcm hmc (K.take i) K (K.getD i default) (.sl none 34 (Bn K)) rfl (by omega) (by rw[tk i hi];omega)
   rw[a1v hK hil]at hU
   simp only at hU
   clear tk hK
   obtain ⟨y,hgd⟩:∃ p,K.getD i default=p:=⟨_,rfl⟩
   rw[hgd]at hU
   generalize hT1:K.take (i+1)=T1 at *
   generalize hT0:K.take i=T0 at *
   simp (disch:=omega) only[hgd,Bi,Bj, ↓Ed,Eu, ↓reduceIte,reduceCtorEq,Nat.reduceAdd,Nat.reduceEqDiff,Nat.reduceLT,Nat.reduceLeDiff,Int.reduceToNat,Int.reduceEq,Int.reduceLT,Int.reduceLE,Ap,Ao,Ax,AN,Df,Dw,HdC.cs,Ey,DW,BF,Cw,Co,C6,Dc,FQ,FS,Int.reduceAdd]
   repeat' ((first|exact tt|refine c2 hU ?_|refine na fun b=>?_|refine nb fun b hb=>?_|refine iq ?_|(refine jq ?_ ?_<;>intro h h')|exact wZ|refine Aa ?_ ?_)<;>try refine I6 ?_)
   all_goals exact AC (i+1) ⟨An (by simp[Am,lk,hT1, *];done),hil,by omega⟩
  obtain rfl:i=K.length:=by omega
  have f2:Ac (decide ((K.length:Int)<K.length)=false):=fo
  rw[B0 (A8 _)]
  clear tk hK
  simp (disch:=omega) only[Bi,Bj, ↓Ed,Eu, ↓reduceIte,reduceCtorEq,Nat.reduceAdd,Nat.reduceEqDiff,Nat.reduceLT,Nat.reduceLeDiff,Int.reduceToNat,Int.reduceEq,Int.reduceLT,Int.reduceLE,Ap,Ao,Ax,AN,Df,Dw,HdC.cs,Ey,DW,BF,Cw,Co,C6,Dc,FQ,FS,Int.reduceAdd]
  repeat' ((first|exact tt|refine na fun b=>?_|refine nb fun b hb=>?_|refine iq ?_|(refine jq ?_ ?_<;>intro h h')|exact wZ|refine Aa ?_ ?_)<;>try refine I6 ?_)
  all_goals exact Z6 b c m none ⟨hx,trivial,hc.1,hm.1,hcm,hmc⟩ ZV (by simp[*,Am,lk,Ce,AA];done)
 ·refine A2 (fun i:Nat=>⟨lk [(1,.ptr b1 0),(2,.ptr br 0),(4,.ptr b 0),(5,.ptr c 0),(7,.int .i64 (i:Int))],lk ((b1,[.sl none 2 (AX L),.sl none 34 (Bn K),.int .i64 ht,.int .i64 tm,.nils 31 34])::(br,[.nilT 49,.nilp,.int .i64 0,.int .i64 0,.sl (some 31) 34 []])::[(b,[.hsl g 115 2 L.length cap]),(g,Aq cap L)]++[(c,[.mapv m]),(m,[EA (K.take i)])])⟩) (fun i=>i≤K.length) (fun i=>K.length - i) 0 (by omega) (An qd) ?_
  intro i hi
  by_cases hil:i<K.length
  ·have f2:Ac (decide ((i:Int)<K.length)=true):=fo
   have hU:=TT c m hcm hmc (K.take i) K (K.getD i default) (.sl none 34 (Bn K)) rfl (by omega) (by rw[tk i hi];omega)
   rw[a1v hK hil]at hU
   simp only at hU
   clear tk hK
   obtain ⟨y,hgd⟩:∃ p,K.getD i default=p:=⟨_,rfl⟩
   rw[hgd]at hU
   generalize hT1:K.take (i+1)=T1 at *
   generalize hT0:K.take i=T0 at *
   simp (disch:=omega) only[hgd,Bi,Bj, ↓Ed,Eu, ↓reduceIte,reduceCtorEq,Nat.reduceAdd,Nat.reduceEqDiff,Nat.reduceLT,Nat.reduceLeDiff,Int.reduceToNat,Int.reduceEq,Int.reduceLT,Int.reduceLE,Ap,Ao,Ax,AN,Df,Dw,HdC.cs,Ey,DW,BF,Cw,Co,C6,Dc,FQ,FS,Int.reduceAdd]
   repeat' ((first|exact tt|refine c2 hU ?_|refine na fun b=>?_|refine nb fun b hb=>?_|refine iq ?_|(refine jq ?_ ?_<;>intro h h')|exact wZ|refine Aa ?_ ?_)<;>try refine I6 ?_)
   all_goals exact AC (i+1) ⟨An (by simp[Am,lk,hT1, *];done),hil,by omega⟩
  obtain rfl:i=K.length:=by omega
  have f2:Ac (decide ((K.length:Int)<K.length)=false):=fo
  rw[B0 (A8 _)]
  clear tk hK
  simp (disch:=omega) only[Bi,Bj, ↓Ed,Eu, ↓reduceIte,reduceCtorEq,Nat.reduceAdd,Nat.reduceEqDiff,Nat.reduceLT,Nat.reduceLeDiff,Int.reduceToNat,Int.reduceEq,Int.reduceLT,Int.reduceLE,Ap,Ao,Ax,AN,Df,Dw,HdC.cs,Ey,DW,BF,Cw,Co,C6,Dc,FQ,FS,Int.reduceAdd]
  repeat' ((first|exact tt|refine na fun b=>?_|refine nb fun b hb=>?_|refine iq ?_|(refine jq ?_ ?_<;>intro h h')|exact wZ|refine Aa ?_ ?_)<;>try refine I6 ?_)
  all_goals exact Z6 b c m (some (g,cap)) ⟨hx,(by simp[Bf, *];done),hc.1,hm.1,hcm,hmc⟩ ZV (by simp[*,Am,lk,Ce,AA];done)
theorem Dx{A:Prop}(h:A:=by first|(simp[Bf, *];done)|fail):A:=h
end
section
open Go.RowKit Go.Lib
section
variable {P:Program} {s:St}
end
abbrev RV(L:List PrP)(K:List HdC)(ht tm:Int):List AV:=[.sl none 2 (AX L),.sl none 34 (Bn K),.int .i64 ht,.int .i64 tm,.nils 31 34]
end
section
open Go.RowKit Go.Lib
set_option maxRecDepth 100000
end
section
open Go.RowKit Go.Lib
theorem Sc{L:List PrP}{p:List UInt8}{c:Int}(h:(Av L p c).2=true):(Av L p c).1.p.length≤12:=by
 have:=Sb h
 simp only[Es.may,AP]at this
 exact (Px this.1).1
abbrev Ds(s c:Nat)(ht tm:Int)(told:List HdC):AV:=.agg [.ptr s 0,.ptr c 0,.int .i64 ht,.int .i64 tm,.sl none 34 (Bn told)]
theorem Mt{A B:Prop}(h:B)(e:A=B:=by (simp (disch:=omega) only[*, ↓Ed,Eu, ↓reduceIte,reduceCtorEq,Nat.reduceAdd,Nat.reduceEqDiff,Nat.reduceLT,Nat.reduceLeDiff,Int.reduceToNat,Int.reduceEq,Int.reduceLT,Int.reduceLE,Ap,PktC.cs];first|done|rfl)):A:=e▸h
theorem a2P(s cl:Nat)(L:List PrP)(hI:StI L)(p:List UInt8)(c:Int)(d:List UInt8)(th ta ht tm:Int)(told:List HdC)(hp:p.length≤1000)(hd:d.length≤100000)(x:Bl)(hx:stOk s L x)(E:Int)(hE:NY L p c d th ta=E)(h0:E≠0):
  CT Tryz.prog 19 [Ds s cl ht tm told,.agg [.str p,.int .i64 c],.str d,.int .i64 th,.int .i64 ta] (lk (AF s L x)) (fun r o=>r=.tup [.agg (default:PktC).cs,.sl none 13 [],.int .i64 E]∧o=lk (AF s L x)):=by
 have hG:=N4 s L hI p c (by omega) x hx
 have hN:=Qs s L hI 4 p c (by omega) x hx
 have hM:=fun (h:(Av L p c).2=true)=>PR (Dj L p c d th ta) (by simp only[Dj];omega) (by simp only[Dj];have:=Sc h;omega) (by simp only[Dj];omega)
 have hgs:=hx.d
 unfold NY at hE
 unfold Dj at hE hM
 clear hI hx
 generalize Fg L 4 p c=nn at *
 generalize Av L p c=G at *
 obtain ⟨⟨g1,g2,g3,g4,g5⟩,g6⟩:=G
 simp only at hE hM hG
 refine a7X _ _ _ (by simp) ?_
 have hdk:(default:PktC)=⟨[],0,[],0,0,[],0,0⟩:=rfl
 rw[hdk]
 cases g6 with
 | false=>
  rw[Af rfl]at hE
  subst hE
  clear hM hdk h0
  rcases x with _ | ⟨g,cap⟩
  all_goals
   simp only[B4,Bq,Ce,AA]at hgs hG hN ⊢
   simp only[U7];refine Mt ?_
   repeat' ((first|exact tt|refine c1 hG ?_|refine c2 hG ?_|refine c1 hN ?_|refine c2 hN ?_|refine na fun b=>?_|refine nb fun b hb=>?_|refine iq ?_|(refine jq ?_ ?_<;>intro h h')|exact wZ|refine Aa ?_ ?_)<;>try refine Mt ?_)
   all_goals exact AG ZU (A6 _)
 | true=>
  rw[Ad (by simp)]at hE
  have hM:=hM rfl
  cases g4 with
  | true=>
   rw[Af rfl]at hE
   subst hE
   clear hM hdk h0
   rcases x with _ | ⟨g,cap⟩
   all_goals
    simp only[B4,Bq,Ce,AA]at hgs hG hN ⊢
    simp only[U7];refine Mt ?_
    repeat' ((first|exact tt|refine c1 hG ?_|refine c2 hG ?_|refine c1 hN ?_|refine c2 hN ?_|refine Ab hM ?_|refine na fun b=>?_|refine nb fun b hb=>?_|refine iq ?_|(refine jq ?_ ?_<;>intro h h')|exact wZ|refine Aa ?_ ?_)<;>try refine Mt ?_)
    all_goals exact AG ZU (A6 _)
  | false=>
   rw[Ad (by simp)]at hE
   by_cases hn:1099511627776<nn
   ·rw[Af hn]at hE
    subst hE
    have f1:Ac (decide (1099511627776<nn)=true):=by simp only[Ac,Hn];exact hn
    clear hM hdk h0 hn
    rcases x with _ | ⟨g,cap⟩
    all_goals
     simp only[B4,Bq,Ce,AA]at hgs hG hN ⊢
     simp only[U7];refine Mt ?_
     repeat' ((first|exact tt|refine c1 hG ?_|refine c2 hG ?_|refine c1 hN ?_|refine c2 hN ?_|refine Ab hM ?_|refine na fun b=>?_|refine nb fun b hb=>?_|refine iq ?_|(refine jq ?_ ?_<;>intro h h')|exact wZ|refine Aa ?_ ?_)<;>try refine Mt ?_)
     all_goals exact AG ZU (A6 _)
   ·rw[Ad hn]at hE
    have f1:Ac (decide (1099511627776<nn)=false):=fo
    generalize BO ⟨p,c,g1,g2,nn,d,th,ta⟩=mk at *
    cases mk with
    | true=>
     rw[Ad (by simp)]at hE
     exact absurd hE.symm h0
    | false=>
     rw[Af rfl]at hE
     subst hE
     clear hdk h0 hn
     rcases x with _ | ⟨g,cap⟩
     all_goals
      simp only[B4,Bq,Ce,AA]at hgs hG hN ⊢
      simp only[U7];refine Mt ?_
      repeat' ((first|exact tt|refine c1 hG ?_|refine c2 hG ?_|refine c1 hN ?_|refine c2 hN ?_|refine Ab hM ?_|refine na fun b=>?_|refine nb fun b hb=>?_|refine iq ?_|(refine jq ?_ ?_<;>intro h h')|exact wZ|refine Aa ?_ ?_)<;>try refine Mt ?_)
      all_goals exact AG ZU (A6 _)
end
section
open Go.RowKit Go.Lib
theorem b1Y{L:List PrP}{q:PktC}(hq:BO q=true):JL L 4 q.s q.sc (q.q+1)=A7 L (Ah 4 q.s q.sc 0) (pn (q.q+1))∧KQ 4 q.s q.sc (q.q+1)=0:=by
 have hp:=Gh hq
 have ho:(Ba q.s q.sc&&EO 4 (q.q+1))=true:=by
  rw[hp.1,Gt]
  simp only[EO,EC,AP,Bs];omega
 exact ⟨by rw[Mn.2,Af ho],(Mn (L:=L)).1.2 ho⟩
theorem b1X{L:List PrP}{q:PktC}(hq:BO q=true):CQ L (Ah 1 q.s q.sc q.q) (Cg q)=A7 L (Ah 1 q.s q.sc q.q) (Cg q)∧FA (Ah 1 q.s q.sc q.q) (Cg q)=0:=by
 have hp:=Gh hq
 have hm:=(MI (k:=1) (by omega) hp.1 hp.2.2.1).may (Qe (eight q.th.toNat++(eight q.ta.toNat++BB q.x)))
 have hm:B3 (Ah 1 q.s q.sc q.q) (Cg q)=true:=hm
 exact ⟨by unfold CQ;rw[Af hm],by unfold FA;rw[Af hm]⟩
theorem Qk{A B:Prop}(h:B)(e:A=B:=by (simp (disch:=omega) only[*, ↓Ed,Eu, ↓reduceIte,reduceCtorEq,Nat.reduceAdd,Nat.reduceEqDiff,Nat.reduceLT,Nat.reduceLeDiff,Int.reduceToNat,Int.reduceEq,Int.reduceLT,Int.reduceLE,Ap,PktC.cs];first|done|rfl)):A:=e▸h
theorem NG(k:Int)(q:PktC):CP Tryz.prog 58 [.int .i64 k,.agg q.cs] (.agg [.int .i64 k,.str q.s,.int .i64 q.sc,.str q.d,.int .i64 q.dc,.int .i64 q.q,.str q.x,.int .i64 q.th,.int .i64 q.ta,.str [],.str [],.int .i64 0,.int .i64 0]):=by
 refine a5U _ _ (by simp) ?_
 simp only[Va];refine Qk ?_
 repeat' ((first|exact tt|refine na fun b=>?_|refine nb fun b hb=>?_|refine iq ?_|(refine jq ?_ ?_<;>intro h h')|exact wZ|refine Aa ?_ ?_)<;>try refine Qk ?_)
def HV(x:Bl)(cs:List AV):List (Nat × List AV):=match x with
 | none=>[]
 | some (g,_)=>[(g,cs)]
abbrev setW(s:Nat)(L':List PrP)(x:Bl)(v:AV):AV→(Nat→Option (List AV))→Prop:=fun r o=>∃ y cs,(stOk s L' y∧(y=none→x=none))∧r=v∧o=lk (ov (AF s L' y) (HV x cs))
theorem GI(g c:Nat)(cs:List AV):HV (some (g,c)) cs=[(g,cs)]:=rfl
theorem JI{st:St}{rs:List AR}{s:Nat}{L L':List PrP}{x:Bl}{v:AV}(y:Bl)(cs:List AV)(hy:stOk s L' y∧(y=none→x=none))(h:BR st rs v)(ho:Am (ov (AF s L' y) (HV x cs)) st.o):
  Ga st rs (lk (AF s L x)) (setW s L' x v):=
 ⟨_,h,_,Gu ho,fun b cs' hb=>by
  rw[← ovr_lk]
  have h0:b=s∨∃ g c,x=some (g,c)∧b=g:=by
   cases x with
   | none=>
    by_cases e:b=s
    ·exact .inl e
    ·simp[AF,JN,lk,e]at hb
   | some q=>
    by_cases e:b=s
    ·exact .inl e
    ·by_cases e2:b=q.1
     ·exact .inr ⟨q.1,q.2,rfl,e2⟩
     ·simp[AF,JN,lk,e,e2]at hb
  simp only[BG]
  cases hq:lk (AF s L' y) b with
  | some z=>exact ⟨_,rfl⟩
  | none=>
   rcases h0 with rfl | ⟨g,c,rfl,rfl⟩
   ·cases y<;>simp[AF,JN,lk]at hq
   ·exact ⟨cs,by simp[HV,lk]⟩,y,cs,hy,rfl,rfl⟩
theorem b3e(s cl:Nat)(L:List PrP)(n:Nat)(hB:StB L n)(hn:n≤900)(p:List UInt8)(c:Int)(d:List UInt8)(th ta ht tm:Int)(told:List HdC)(hp:p.length≤1000)(hd:d.length≤100000)(x:Bl)(hx:stOk s L x)(hE:NY L p c d th ta=0):
  CT Tryz.prog 19 [Ds s cl ht tm told,.agg [.str p,.int .i64 c],.str d,.int .i64 th,.int .i64 ta] (lk (AF s L x)) (setW s (IX L (Dj L p c d th ta)) x (.tup [.agg (Dj L p c d th ta).cs,.sl none 13 [(EN 1 (Dj L p c d th ta)).cs],.int .i64 0])):=by
 obtain ⟨e1,e2,e3⟩:=b0n hE
 have hI:=hB.I
 have hG:=N4 s L hI p c (by omega) x hx
 have hN:=Qs s L hI 4 p c (by omega) x hx
 have hsh:=Sc e1
 have hM:=PR (Dj L p c d th ta) (by simp only[Dj];omega) (by simp only[Dj];omega) (by simp only[Dj];omega)
 have hK:=PP (Dj L p c d th ta) (by simp only[Dj];omega) (by simp only[Dj];omega) (by simp only[Dj];omega) e3
 have hss:=b1Y (L:=L) e3
 have hp3:=Gh e3
 have hB1:StB (A7 L (Ah 4 p c 0) (pn ((Dj L p c d th ta).q+1))) (n+1):=hB.set (by omega) ((MH (by omega) hp3.1).may (Tv _ (by omega)))
 have hS1:=fun x hx=>N5 s L hI 4 p c (by omega) ((Dj L p c d th ta).q+1) x hx
 have hO:=D8 1 p c (Dj L p c d th ta).q (by omega)
 have hS2:=fun x hx=>MG s _ hB1.I.rise (by have:=hB1.I.len;omega) (Ah 1 p c (Dj L p c d th ta).q) (Cg (Dj L p c d th ta)) (by have:=Ky 1 p c (Dj L p c d th ta).q;omega) (by rw[LM];omega) x hx
 have hsp:=b1X (L:=A7 L (Ah 4 p c 0) (pn ((Dj L p c d th ta).q+1))) e3
 have hss1:=hss.1
 have hss2:=hss.2
 have hsp1:=hsp.1
 have hsp2:=hsp.2
 have hgs:=hx.d
 obtain ⟨g,cap,rfl⟩:∃ g cap,x=some (g,cap):=by
  unfold Av at e1
  simp only[AP]at e1
  exact Fj e1.1 hx
 have hS:=hS1 (some (g,cap)) hx
 unfold IX
 unfold Dj at hM hK hss1 hss2 hsp1 hsp2 hS hS2 hO e3 ⊢
 clear hsp hss hS1 hB1 hp3 hE hB hI hsh hx
 generalize Fg L 4 p c=nn at *
 generalize Av L p c=G at *
 obtain ⟨⟨g1,g2,g3,g4,g5⟩,g6⟩:=G
 simp only at hM hK hss1 hss2 hsp1 hsp2 hS hS2 hO e3 hG e1 e2 ⊢
 subst e1 e2
 rw[hss1,hss2]at hS
 rw[hsp1,hsp2]at hS2
 rw[e3]at hM
 have hmx:=Gh e3
 have hn2:=hmx.2.2.1
 simp only at hn2
 have f1:Ac (decide (1099511627776<nn)=false):=fo
 clear hss1 hss2 hsp1 hsp2 e3 hmx
 generalize A7 L (Ah 4 p c 0) (pn (nn+1))=L1 at *
 generalize A7 L1 (Ah 1 p c nn) (Cg ⟨p,c,g1,g2,nn,d,th,ta⟩)=L2 at *
 generalize Cg ⟨p,c,g1,g2,nn,d,th,ta⟩=kv at *
 generalize Ah 1 p c nn=key at *
 have hOf:=NG 1 ⟨p,c,g1,g2,nn,d,th,ta⟩
 have hS2:=fun g' c' (h1:¬ g'=s∧¬ s=g') (h2:L1.length≤c')=>hS2 (some (g',c')) ⟨h1,h2⟩
 simp only[AA]at hS2
 refine a7X _ _ _ (by simp) ?_
 simp only[Bq,AA]at hgs hG hN hS ⊢
 simp only[U7];refine Qk ?_
 repeat' ((first|exact tt|refine c2 hG ?_|refine c2 hN ?_|refine Ab hM ?_|refine Ab hO ?_|refine Ab hK ?_|refine Ab hOf ?_|refine Ag hOf ?_|((refine Iz hS (fun h0=>?_) (fun gb gc hn h2 hc=>?_))<;>(try simp only[Bt,Bu,Bc]at hn))|((refine Ex hS (fun gc hc=>?_) (fun gb gc hn h2 hc=>?_))<;>(try simp only[Bt,Bu,Bc]at hn))|((refine Ex (hS2 _ _ hgs hc) (fun gd hd=>?_) (fun gx gd hm h3 hd=>?_))<;>(try simp only[Bt,Bu,Bc]at hm))|((refine Ex (hS2 _ _ h2 hc) (fun gd hd=>?_) (fun gx gd hm h3 hd=>?_))<;>(try simp only[Bt,Bu,Bc]at hm))|refine na fun b=>?_|refine nb fun b hb=>?_|refine iq ?_|(refine jq ?_ ?_<;>intro h h')|exact wZ|refine Aa ?_ ?_)<;>try refine Qk ?_)
 all_goals first
 | exact JI (L:=L) (x:=some (g,cap)) (some (gx,gd)) (Aq cap L) ⟨⟨h3,hd⟩,fun h=>by cases h⟩ JH (by first|(simp[*,Am,lk,AA,GI,ov_cons,ov_nil,del_cons,del_nil];done)|fail)
 | exact JI (L:=L) (x:=some (g,cap)) (some (gx,gd)) (Aq gc L1) ⟨⟨h3,hd⟩,fun h=>by cases h⟩ JH (by first|(simp[*,Am,lk,AA,GI,ov_cons,ov_nil,del_cons,del_nil];done)|fail)
 | exact JI (L:=L) (x:=some (g,cap)) (some (gb,gd)) (Aq cap L) ⟨⟨h2,hd⟩,fun h=>by cases h⟩ JH (by first|(simp[*,Am,lk,AA,GI,ov_cons,ov_nil,del_cons,del_nil];done)|fail)
 | exact JI (L:=L) (x:=some (g,cap)) (some (g,gd)) [] ⟨⟨hgs,hd⟩,fun h=>by cases h⟩ JH (by first|(simp[*,Am,lk,AA,GI,ov_cons,ov_nil,del_cons,del_nil];done)|fail)
theorem CR{A:Prop}(h:A:=by first|(simp[*,Am,lk,AA,GI,ov_cons,ov_nil,del_cons,del_nil];done)|fail):A:=h
end
section
open Go.RowKit Go.Lib
set_option maxRecDepth 100000
end
section
open Go.RowKit Go.Lib
section
variable {d:Option Nat} {st:St} {KK:St→Prop}
theorem OI{f:Nat}{vs:List AV}{L:List PrP}{K:List HdC}{ht tm:Int}(h:CT Tryz.prog f vs (lk []) (PN L K ht tm))
  (k0:∀ s c m,stOk s L none→(¬ c=s∧¬ s=c)→(¬ m=s∧¬ s=m)→(¬ c=m∧¬ m=c)→st.o s=none→st.o c=none→st.o m=none→
   KS (St.put ⟨st.t,BG [(s,[.nils 115 2]),(c,[.mapv m]),(m,[EA K])] st.o⟩ d (.tup [.agg [.ptr s 0,.ptr c 0,.int .i64 ht,.int .i64 tm,.sl none 34 []],.bool true])) KK)
  (k1:∀ s c m g cap,stOk s L (some (g,cap))→((¬ g=c∧¬ c=g)∧(¬ g=m∧¬ m=g))→(¬ c=s∧¬ s=c)→(¬ m=s∧¬ s=m)→(¬ c=m∧¬ m=c)→st.o s=none→st.o c=none→st.o m=none→st.o g=none→
   KS (St.put ⟨st.t,BG [(s,[.hsl g 115 2 L.length cap]),(g,Aq cap L),(c,[.mapv m]),(m,[EA K])] st.o⟩ d (.tup [.agg [.ptr s 0,.ptr c 0,.int .i64 ht,.int .i64 tm,.sl none 34 []],.bool true])) KK):
  Dg Tryz.prog f vs d st KK:=by
 refine ⟨_,_,fun b cs hb=>by simp[lk]at hb,h, ?_⟩
 rintro r o2 ⟨s,c,m,x,⟨hx,ho,h1,h2,h3⟩,rfl,rfl⟩ hf
 have hf':∀ b,(∃ cs,lk (AF s L x++BI c m K) b=some cs)→st.o b=none:=fun b ⟨cs,hb⟩=>hf b cs hb rfl
 rcases x with _ | ⟨g,cap⟩
 ·exact k0 s c m hx h1 h2 h3 (hf' s ⟨_,by simp[Ce,lk];rfl⟩) (hf' c ⟨_,by simp[Ce,lk,h1];rfl⟩) (hf' m ⟨_,by simp[Ce,lk,h2,h3];rfl⟩)
 ·simp only[Bf,AZ,B8,Cb,Cs,Cr]at ho
  have hg:=hx.1
  exact k1 s c m g cap hx ho h1 h2 h3 (hf' s ⟨_,by simp[AA,lk];rfl⟩) (hf' c ⟨_,by simp[AA,lk,h1,ho];rfl⟩) (hf' m ⟨_,by simp[AA,lk,h2,h3,ho];rfl⟩) (hf' g ⟨_,by simp[AA,lk,hg];rfl⟩)
theorem Rw{f s g cap:Nat}{vs:List AV}{L L':List PrP}{v:AV}(h:CT Tryz.prog f vs (lk [(s,[.hsl g 115 2 L.length cap]),(g,Aq cap L)]) (setW s L' (some (g,cap)) v))
  (k1:∀ c,L'.length≤c→KS (St.put ⟨st.t,BG [(s,[.hsl g 115 2 L'.length c]),(g,Aq c L')] st.o⟩ d v) KK)
  (k2:∀ b c cs,st.o b=none→(¬ b=s∧¬ s=b)→(¬ b=g∧¬ g=b)→L'.length≤c→KS (St.put ⟨st.t,BG [(s,[.hsl b 115 2 L'.length c]),(b,Aq c L'),(g,cs)] st.o⟩ d v) KK)
  (q0:¬ g=s∧¬ s=g)
  (q1:st.o s=some [.hsl g 115 2 L.length cap]:=by first|((repeat (first|exact CH _ _ _|(refine CN ?_ ?_;(focus (first|assumption|(simp only[*,Ct];done))))));done)|fail) (q2:st.o g=some (Aq cap L):=by first|((repeat (first|exact CH _ _ _|(refine CN ?_ ?_;(focus (first|assumption|(simp only[*,Ct];done))))));done)|fail):Dg Tryz.prog f vs d st KK:=by
 refine ⟨_,_,Kv q1 q2,h, ?_⟩
 rintro r o2 ⟨y,cs,⟨hy,hyx⟩,rfl,rfl⟩ hf
 rcases y with _ | ⟨b,c⟩
 ·cases hyx rfl
 have hb:=hy.1
 by_cases e:b=g
 ·subst e
  have e2:(fun b'=>(lk (ov (AF s L' (some (b,c))) (HV (some (b,cap)) cs)) b').or (st.o b'))=BG [(s,[.hsl b 115 2 L'.length c]),(b,Aq c L')] st.o:=by
   funext q
   simp only[GI,AA,ov_cons,ov_nil,del_cons,del_nil,BG,hb,BV,Bo]
  rw[e2]
  exact k1 c hy.2
 ·have e':¬ g=b:=fun h=>e h.symm
  have e2:(fun b'=>(lk (ov (AF s L' (some (b,c))) (HV (some (g,cap)) cs)) b').or (st.o b'))=BG [(s,[.hsl b 115 2 L'.length c]),(b,Aq c L'),(g,cs)] st.o:=by
   funext q
   simp only[GI,AA,ov_cons,ov_nil,del_cons,del_nil,BG,q0,e,e',BV]
  rw[e2]
  refine k2 b c cs (hf b (Aq c L') ?_ ?_) hb ⟨e,e'⟩ hy.2
  ·simp[GI,AA,ov_cons,ov_nil,del_cons,del_nil,lk,hb,e]
  ·simp[lk,hb,e]
end
end
end Go.Proofs.YtfgihnhoocnmdaaGreatDoor
