import Derived.Test.YtfgihnhoocnmdaaGreatDoorJ21
namespace Go.Proofs.YtfgihnhoocnmdaaGreatDoor
set_option linter.all false
set_option maxHeartbeats 64000000
set_option maxRecDepth 100000
open Go.RowKit
def Nj(a b:MsgC):Bool:=decide (a.k=b.k)&&(decide (a.h=b.h)&&(decide (a.a=b.a)&&(decide (a.nx=b.nx)&&(decide (a.ht=b.ht)&&(decide (a.p=b.p)&&(decide (a.pr.c=b.pr.c∧a.pr.l=b.pr.l)&&decide (a.cl.c=b.cl.c∧a.cl.l=b.cl.l)))))))
theorem Dm{A B:Prop}(h:B)(e:A=B:=by (simp (disch:=omega) only[*, ↓Ed,Eu, ↓reduceIte,reduceCtorEq,Nat.reduceAdd,Nat.reduceEqDiff,Nat.reduceLT,Nat.reduceLeDiff,Int.reduceToNat,Int.reduceEq,Int.reduceLT,Int.reduceLE,Ap,Ao,Ax,AH,AN,Ca,HdC.cs,BF,Cw,Co,HS,HU, ↓Ht, ↓H0, ↓Zy, ↓mg2, ↓SK, ↓Gi, ↓Gj, ↓GM, ↓SL, ↓SN, ↓Ff, ↓Gk, ↓Gl, ↓Py, ↓Ez, ↓EL,DZ,C4,PktC.cs,PfC.cs];first|done|rfl)):A:=e▸h
theorem a9O(a b:MsgC)(h1:Bw a.pr)(h2:Bw a.cl)(h3:Bw b.pr)(h4:Bw b.cl):CP Tryz.prog 92 [.agg (AD a),.agg (AD b)] (.bool (Nj a b)):=by
 have hP:=a9a a.p b.p
 have hF:=Zq none none a.pr b.pr h1 h3
 have hG:=Zq none none a.cl b.cl h2 h4
 simp only[← Nu]at hF hG
 unfold Nj
 refine YM _ _ (by simp) ?_
 clear h1 h2 h3 h4
 generalize decide (a.p=b.p)=P at *
 generalize decide (a.pr.c=b.pr.c∧a.pr.l=b.pr.l)=F at *
 generalize decide (a.cl.c=b.cl.c∧a.cl.l=b.cl.l)=G at *
 cases g1:decide (a.k=b.k)
 ·simp only[Jm];refine Dm ?_
  repeat' ((first|exact tt|refine na fun b=>?_|refine nb fun b hb=>?_|refine iq ?_|(refine jq ?_ ?_<;>intro h h')|exact wZ|refine Aa ?_ ?_)<;>try refine Dm ?_)
  all_goals rfl
 cases g2:decide (a.h=b.h)
 ·simp only[Jm];refine Dm ?_
  repeat' ((first|exact tt|refine na fun b=>?_|refine nb fun b hb=>?_|refine iq ?_|(refine jq ?_ ?_<;>intro h h')|exact wZ|refine Aa ?_ ?_)<;>try refine Dm ?_)
  all_goals rfl
 cases g3:decide (a.a=b.a)
 ·simp only[Jm];refine Dm ?_
  repeat' ((first|exact tt|refine na fun b=>?_|refine nb fun b hb=>?_|refine iq ?_|(refine jq ?_ ?_<;>intro h h')|exact wZ|refine Aa ?_ ?_)<;>try refine Dm ?_)
  all_goals rfl
 cases g4:decide (a.nx=b.nx)
 ·simp only[Jm];refine Dm ?_
  repeat' ((first|exact tt|refine na fun b=>?_|refine nb fun b hb=>?_|refine iq ?_|(refine jq ?_ ?_<;>intro h h')|exact wZ|refine Aa ?_ ?_)<;>try refine Dm ?_)
  all_goals rfl
 cases g5:decide (a.ht=b.ht)
 ·simp only[Jm];refine Dm ?_
  repeat' ((first|exact tt|refine na fun b=>?_|refine nb fun b hb=>?_|refine iq ?_|(refine jq ?_ ?_<;>intro h h')|exact wZ|refine Aa ?_ ?_)<;>try refine Dm ?_)
  all_goals rfl
 simp only[Jm];refine Dm ?_;try exact tt
 cases P
 ·repeat' ((first|exact tt|refine Ab hP ?_|refine Ag hP ?_|refine na fun b=>?_|refine nb fun b hb=>?_|refine iq ?_|(refine jq ?_ ?_<;>intro h h')|exact wZ|refine Aa ?_ ?_)<;>try refine Dm ?_)
  all_goals rfl
 cases F
 ·repeat' ((first|exact tt|refine Ab hP ?_|refine Ag hP ?_|refine Ab hF ?_|refine Ag hF ?_|refine na fun b=>?_|refine nb fun b hb=>?_|refine iq ?_|(refine jq ?_ ?_<;>intro h h')|exact wZ|refine Aa ?_ ?_)<;>try refine Dm ?_)
  all_goals rfl
 repeat' ((first|exact tt|refine Ab hP ?_|refine Ag hP ?_|refine Ab hF ?_|refine Ag hF ?_|refine Ab hG ?_|refine Ag hG ?_|refine na fun b=>?_|refine nb fun b hb=>?_|refine iq ?_|(refine jq ?_ ?_<;>intro h h')|exact wZ|refine Aa ?_ ?_)<;>try refine Dm ?_)
 all_goals rfl
theorem b0l(q:PfC):q=zeroF↔(q.c=0∧q.l=[]):=by
 obtain ⟨c,l⟩:=q
 simp[zeroF]
theorem a3v(m:MsgC)(hk:1≤m.k∧m.k≤5):Nj m (FW m)=true↔KE m:=by
 obtain ⟨k,h,p,a,nx,ht,pr,cl⟩:=m
 simp only at hk
 have h5:k=1∨k=2∨k=3∨k=4∨k=5:=by omega
 have hz:zeroF.c=0∧zeroF.l=[]:=⟨rfl,rfl⟩
 rcases h5 with rfl|rfl|rfl|rfl|rfl
 all_goals simp[Nj,FW,KE,b0l,hz]
 ·constructor
  ·rintro ⟨a1,a2,a3,a4,⟨a5,a6⟩,a7,a8⟩;exact ⟨⟨a4,a3,a5,a6⟩,a1,a2,a7,a8⟩
  ·rintro ⟨⟨a4,a3,a5,a6⟩,a1,a2,a7,a8⟩;exact ⟨a1,a2,a3,a4,⟨a5,a6⟩,a7,a8⟩
theorem Nv:Bw zeroF:=⟨by simp[zeroF],fun i hi=>by simp[zeroF]at hi⟩
theorem Ya{m:MsgC}(hp:Bw m.pr)(hc:Bw m.cl):Bw (FW m).pr∧Bw (FW m).cl:=by
 unfold FW
 split
 ·split
  ·exact ⟨Nv,Nv⟩
  ·refine ⟨hp, ?_⟩
   simp only
   split
   ·exact hc
   ·exact Nv
 ·exact ⟨Nv,Nv⟩
open Classical in
theorem a5m{m:MsgC}(h:¬ (1≤m.k∧m.k≤5)):decide (Eq m)=false:=A0 fun e=>h e.1
open Classical in
theorem a5n{m:MsgC}(h:¬ KE m):decide (Eq m)=false:=A0 fun e=>h e.2.1
open Classical in
theorem a5j{m:MsgC}(hk:m.k=1)(h:KE m):decide (Eq m)=(decide (1≤m.h.h∧m.h.h≤1099511627776)&&decide (0≤m.h.t∧m.h.t≤1099511627776)):=by
 rw[FE]
 simp only[Bs,AP]
 constructor
 ·rintro ⟨_,_,a,_⟩
  obtain ⟨a1,a2,a3,a4⟩:=a hk
  exact ⟨⟨a1,a2⟩,a3,a4⟩
 ·rintro ⟨⟨a1,a2⟩,a3,a4⟩
  exact ⟨by omega,h,fun _=>⟨a1,a2,a3,a4⟩,fun e=>by omega,fun e=>absurd hk e⟩
noncomputable def Mf (m:MsgC):Bool:=decide (0≤m.nx∧m.nx≤1099511627777)&&(decide (1≤m.ht∧m.ht≤1099511627776)&&(BO m.p&&(D7 m.pr&&D7 m.cl)))
theorem ZZ(m:MsgC):Mf m=true↔(BO m.p=true∧(0≤m.nx∧m.nx≤1099511627777)∧(1≤m.ht∧m.ht≤1099511627776)∧D7 m.pr=true∧D7 m.cl=true):=by
 simp only[Mf,AP,Bs]
 constructor
 ·rintro ⟨a1,a2,a3,a4,a5⟩;exact ⟨a3,a1,a2,a4,a5⟩
 ·rintro ⟨a3,a1,a2,a4,a5⟩;exact ⟨a1,a2,a3,a4,a5⟩
open Classical in
theorem a5k{m:MsgC}(hk:m.k=3)(h:KE m):decide (Eq m)=(decide (1≤(m.a.length:Int)∧(m.a.length:Int)≤32)&&Mf m):=by
 rw[FE]
 simp only[Bs,AP,ZZ]
 constructor
 ·rintro ⟨_,_,_,a,b⟩
  have:=a hk
  exact ⟨by omega,b (by omega)⟩
 ·rintro ⟨a,b⟩
  exact ⟨by omega,h,fun e=>by omega,fun _=>by omega,fun _=>b⟩
open Classical in
theorem a5l{m:MsgC}(hk:1≤m.k∧m.k≤5)(h1:¬ m.k=1)(h3:¬ m.k=3)(h:KE m):decide (Eq m)=Mf m:=by
 rw[FE]
 simp only[Bs,ZZ]
 constructor
 ·rintro ⟨_,_,_,_,b⟩
  exact b h1
 ·intro b
  exact ⟨hk,h,fun e=>absurd e h1,fun e=>absurd e h3,fun _=>b⟩
open Classical in
theorem Tq(m:MsgC)(hp:Bw m.pr)(hc:Bw m.cl)(hs:m.p.s.length≤1000000)(hd:m.p.d.length≤1000000)(hx:m.p.x.length≤1000000):CP Tryz.prog 42 [.agg (AD m)] (.bool (decide (Eq m))):=by
 have hK:=IU m.k
 by_cases hk:1≤m.k∧m.k≤5
 rotate_left
 ·rw[a5m hk]
  rw[A0 hk]at hK
  clear hp hc hs hd hx
  refine LY _ _ (by simp) ?_
  simp only[Kg];refine Dm ?_
  repeat' ((first|exact tt|refine Ab hK ?_|refine Ag hK ?_|refine na fun b=>?_|refine nb fun b hb=>?_|refine iq ?_|(refine jq ?_ ?_<;>intro h h')|exact wZ|refine Aa ?_ ?_)<;>try refine Dm ?_)
 rw[AO hk]at hK
 have hP:=a9H m hp hc
 have hS:=a9O m (FW m) hp hc (Ya hp hc).1 (Ya hp hc).2
 have hpl:=a3v m hk
 cases hE:Nj m (FW m)
 ·rw[a5n (fun h=>by rw[hpl.2 h]at hE;cases hE)]
  rw[hE]at hS
  clear hp hc hs hd hx hE hpl
  refine LY _ _ (by simp) ?_
  simp only[Kg];refine Dm ?_
  repeat' ((first|exact tt|refine Ab hK ?_|refine Ag hK ?_|refine Ab hP ?_|refine Ag hP ?_|refine Ab hS ?_|refine Ag hS ?_|refine na fun b=>?_|refine nb fun b hb=>?_|refine iq ?_|(refine jq ?_ ?_<;>intro h h')|exact wZ|refine Aa ?_ ?_)<;>try refine Dm ?_)
 have hpm:=hpl.1 hE
 rw[hE]at hS
 clear hpl hE
 by_cases k1:m.k=1
 ·rw[a5j k1 hpm]
  have b1:=JC m.h.h 1 1099511627776
  have b2:=JC m.h.t 0 1099511627776
  have f1:Ac (decide (m.k=1)=true):=AO k1
  clear hp hc hs hd hx hpm k1 hk
  generalize decide (1≤m.h.h∧m.h.h≤1099511627776)=A at *
  generalize decide (0≤m.h.t∧m.h.t≤1099511627776)=B at *
  refine LY _ _ (by simp) ?_
  simp only[Kg];refine Dm ?_;try exact tt
  cases A
  all_goals repeat' ((first|exact tt|refine Ab hK ?_|refine Ag hK ?_|refine Ab hP ?_|refine Ag hP ?_|refine Ab hS ?_|refine Ag hS ?_|refine Ab b1 ?_|refine Ab b2 ?_|refine na fun b=>?_|refine nb fun b hb=>?_|refine iq ?_|(refine jq ?_ ?_<;>intro h h')|exact wZ|refine Aa ?_ ?_)<;>try refine Dm ?_)
  all_goals rfl
 have b1:=JC m.nx 0 1099511627777
 have b2:=JC m.ht 1 1099511627776
 have b3:=PR m.p hs hd hx
 have b4:=PS m.pr hp
 have b5:=PS m.cl hc
 have b6:=JC (m.a.length:Int) 1 32
 have f1:Ac (decide (m.k=1)=false):=A0 k1
 by_cases k3:m.k=3
 ·rw[a5k k3 hpm]
  have f3:Ac (decide (m.k=3)=true):=AO k3
  unfold Mf
  clear hp hc hs hd hx hpm k1 hk k3
  generalize decide (1≤(m.a.length:Int)∧(m.a.length:Int)≤32)=Z at *
  generalize decide (0≤m.nx∧m.nx≤1099511627777)=A at *
  generalize decide (1≤m.ht∧m.ht≤1099511627776)=B at *
  generalize BO m.p=C at *
  generalize D7 m.pr=D at *
  generalize D7 m.cl=E at *
  refine LY _ _ (by simp) ?_
  simp only[Kg];refine Dm ?_;try exact tt
  cases Z<;>cases A<;>cases B<;>cases C<;>cases D
  all_goals repeat' ((first|exact tt|refine Ab hK ?_|refine Ag hK ?_|refine Ab hP ?_|refine Ag hP ?_|refine Ab hS ?_|refine Ag hS ?_|refine Ab b1 ?_|refine Ab b2 ?_|refine Ab b3 ?_|refine Ab b4 ?_|refine Ab b5 ?_|refine Ab b6 ?_|refine na fun b=>?_|refine nb fun b hb=>?_|refine iq ?_|(refine jq ?_ ?_<;>intro h h')|exact wZ|refine Aa ?_ ?_)<;>try refine Dm ?_)
  all_goals rfl
 ·rw[a5l hk k1 k3 hpm]
  have f3:Ac (decide (m.k=3)=false):=A0 k3
  unfold Mf
  clear hp hc hs hd hx hpm k1 hk k3 b6
  generalize decide (0≤m.nx∧m.nx≤1099511627777)=A at *
  generalize decide (1≤m.ht∧m.ht≤1099511627776)=B at *
  generalize BO m.p=C at *
  generalize D7 m.pr=D at *
  generalize D7 m.cl=E at *
  refine LY _ _ (by simp) ?_
  simp only[Kg];refine Dm ?_;try exact tt
  cases A<;>cases B<;>cases C<;>cases D
  all_goals repeat' ((first|exact tt|refine Ab hK ?_|refine Ag hK ?_|refine Ab hP ?_|refine Ag hP ?_|refine Ab hS ?_|refine Ag hS ?_|refine Ab b1 ?_|refine Ab b2 ?_|refine Ab b3 ?_|refine Ab b4 ?_|refine Ab b5 ?_|refine na fun b=>?_|refine nb fun b hb=>?_|refine iq ?_|(refine jq ?_ ?_<;>intro h h')|exact wZ|refine Aa ?_ ?_)<;>try refine Dm ?_)
  all_goals rfl
def Sz(l:List PrP):Prop:=∀ i,i<l.length→(l.getD i default).1.length≤400∧(l.getD i default).2.length≤400
theorem SQ(L l:List PrP):∀ i,(Cn L l i).length≤L.length+i
 | 0=>A8 _
 | i+1=>by
  have h1:=SQ L l i
  have h2:=Tz (Cn L l i) (l.getD i default).1 (l.getD i default).2
  simp only[Cn];omega
theorem JX{A B:Prop}(h:B)(e:A=B:=by (simp (disch:=omega) only[*, ↓Ed,Eu, ↓reduceIte,reduceCtorEq,Nat.reduceAdd,Nat.reduceEqDiff,Nat.reduceLT,Nat.reduceLeDiff,Int.reduceToNat,Int.reduceEq,Int.reduceLT,Int.reduceLE,Ap,Ao,Ax,AJ,AY,Int.reduceAdd,AH,AN,Df,Dw];first|done|rfl)):A:=e▸h
theorem Zm(l:List PrP)(hl:Sz l)(hb:l.length≤100):CP Tryz.prog 31 [.sl none 2 (AX l)] (.sl (some 102) 2 (AX (Cn [] l l.length))):=by
 refine a6g _ _ (by simp) ?_
 simp only[Vi];refine JX ?_
 repeat' ((first|exact tt|refine na fun b=>?_|refine nb fun b hb=>?_|refine iq ?_|(refine jq ?_ ?_<;>intro h h')|exact wZ|refine Aa ?_ ?_)<;>try refine JX ?_)
 refine A2 (fun q:Nat=>⟨lk [(0,.sl none 2 (AX l)),(3,.sl (some 102) 2 (AX (Cn [] l q))),(4,.int .i64 (q:Int))],lk []⟩) (fun q=>q≤l.length) (fun q=>l.length - q) 0 (by omega) (An (by simp[Am,lk,Cn,AX])) ?_
 intro i hi
 have hml:=SQ [] l i
 by_cases hlt:i<l.length
 ·have f1:Ac (decide ((i:Int)<l.length)=true):=fo
  obtain ⟨s1,s2⟩:=hl i hlt
  have hM:=Zk (l.getD i default).1 (l.getD i default).2 (by omega) (by omega)
  have hS:=NI (Cn [] l i) (by simp only[AY]at hml;omega) (l.getD i default).1 (l.getD i default).2
  have hn:Cn [] l (i+1)=CQ (Cn [] l i) (l.getD i default).1 (l.getD i default).2:=rfl
  unfold CQ at hn
  clear hl
  obtain ⟨⟨k,v⟩,hgd⟩:∃ a,l.getD i default=a:=⟨_,rfl⟩
  rw[hgd]at hM hS hn s1 s2
  generalize hX':Cn [] l (i+1)=X' at *
  generalize Cn [] l i=X at *
  cases hm:B3 k v with
  | true=>
   rw[show B3 (k,v).1 (k,v).2=true from hm]at hM hn
   rw[Af rfl]at hn
   rw[← hn]at hS
   clear hm hn hml
   refine JX ?_
   repeat' ((first|exact tt|refine Ag hM ?_|refine Ag hS ?_|refine na fun b=>?_|refine nb fun b hb=>?_|refine iq ?_|(refine jq ?_ ?_<;>intro h h')|exact wZ|refine Aa ?_ ?_)<;>try refine JX ?_)
   all_goals exact AC (i+1) ⟨An (by simp[Am,lk,hX']),hlt,by omega⟩
  | false=>
   rw[show B3 (k,v).1 (k,v).2=false from hm]at hM hn
   rw[Ad (by simp)]at hn
   clear hm hS hml
   refine JX ?_
   repeat' ((first|exact tt|refine Ag hM ?_|refine na fun b=>?_|refine nb fun b hb=>?_|refine iq ?_|(refine jq ?_ ?_<;>intro h h')|exact wZ|refine Aa ?_ ?_)<;>try refine JX ?_)
   all_goals exact AC (i+1) ⟨An (by simp[Am,lk,hX',hn]),hlt,by omega⟩
 ·obtain rfl:i=l.length:=by omega
  have f1:Ac (decide ((l.length:Int)<l.length)=false):=fo
  clear hml
  generalize Cn [] l l.length=X at *
  refine JX ?_
  repeat' ((first|exact tt|refine na fun b=>?_|refine nb fun b hb=>?_|refine iq ?_|(refine jq ?_ ?_<;>intro h h')|exact wZ|refine Aa ?_ ?_)<;>try refine JX ?_)
section
open Go.RowKit Go.Lib
def E7(e x:FF):Bool:=decide (x.1=e.1)&&decide (x.2=e.2)
theorem XM(e x:FF):E7 e x=true↔x=e:=by
 obtain ⟨a,b⟩:=e;obtain ⟨c,d⟩:=x
 simp[E7]
end
section
open Go.RowKit Go.Lib
structure GnC where
 p:List UInt8
 c:Int
 q:List UInt8
 d:Int
 o:Bool
 n:Int
 deriving Inhabited
abbrev GnC.cs(x:GnC):List AV:=[.str x.p,.int .i64 x.c,.str x.q,.int .i64 x.d,.bool x.o,.int .i64 x.n]
def CL(l:List GnC):List (List AV):=l.map GnC.cs
theorem Gd(l:List GnC):(CL l).length=l.length:=by simp[CL]
theorem Gc(l:List GnC)(i:Nat)(h:i<l.length):(CL l).getD i []=(l.getD i default).cs:=by simp[CL,h]
noncomputable def Dv (x:GnC):Bool:=Ba x.p x.c&&Ba x.q x.d&&(decide (1≤x.n)&&decide (x.n≤1099511627777))
def BP(x:GnC):FF:=(x.p,x.c)
noncomputable def Dr:List FF→List GnC→Int
 | _,[]=>0
 | s,x::r=>if Dv x=false then 1 else if s.any (E7 (BP x))=true then 8 else Dr (s++[BP x]) r
noncomputable def E5 (l:List GnC):Int:=if 6<l.length then 22 else Dr [] l
theorem WH{l:List GnC}{i:Nat}(h:i<l.length):Dr ((l.take i).map BP) (l.drop i)=if Dv (l.getD i default)=false then 1 else if ((l.take i).map BP).any (E7 (BP (l.getD i default)))=true then 8 else Dr ((l.take (i+1)).map BP) (l.drop (i+1)):=by
 rw[Jc h,Dr]
 have e:l[i]=l.getD i default:=by simp[List.getD,h]
 rw[e,a1h h,FI];rfl
def Nw(l:List GnC):Prop:=∀ i,i<l.length→(l.getD i default).p.length≤1000∧(l.getD i default).q.length≤1000
theorem a2e{l:List GnC}{i k:Nat}{e:FF}(hk:k<i)(hi:i≤l.length)(h:E7 e (BP (l.getD k default))=true):((l.take i).map BP).any (E7 e)=true:=by
 rw[List.any_eq_true]
 have h1:k<(l.take i).length:=by rw[BL];omega
 refine ⟨BP (l.getD k default),Dp.2 ⟨l.getD k default, ?_,rfl⟩,h⟩
 have e1:l.getD k default=(l.take i)[k]:=by simp[List.getD,show k<l.length by omega]
 rw[e1];exact Di h1
theorem a2d{l:List GnC}{i:Nat}{e:FF}(hi:i≤l.length)(h:∀ j,j<i→E7 e (BP (l.getD j default))=false):((l.take i).map BP).any (E7 e)=false:=by
 rw[List.any_eq_false]
 intro x hx
 obtain ⟨y,hy,rfl⟩:=Dp.1 hx
 obtain ⟨j,hj,rfl⟩:=Do hy
 have hj':j<i∧j<l.length:=by rw[BL]at hj;omega
 have:=h j hj'.1
 simp only[List.getD,Aw hj'.2,Cp]at this
 rw[List.getElem_take,this];simp
theorem Eh{A B:Prop}(h:B)(e:A=B:=by (simp (disch:=omega) only[*, ↓Ed,Eu, ↓reduceIte,reduceCtorEq,Nat.reduceAdd,Nat.reduceEqDiff,Nat.reduceLT,Nat.reduceLeDiff,Int.reduceToNat,Int.reduceEq,Int.reduceLT,Int.reduceLE,Ap,Gd,Gc,GnC.cs];first|done|rfl)):A:=e▸h
theorem a8A(l:List GnC)(hl:Nw l)(hb:l.length≤1000):CP Tryz.prog 35 [.sl none 6 (CL l)] (.int .i64 (E5 l)):=by
 refine a6n _ _ (by simp) ?_
 by_cases h6:6<l.length
 ·have f0:Ac (decide ((6:Int)<l.length)=true):=fo
  unfold E5
  rw[Af h6]
  simp only[Ri];refine Eh ?_
  repeat' ((first|exact tt|refine na fun b=>?_|refine nb fun b hb=>?_|refine iq ?_|(refine jq ?_ ?_<;>intro h h')|exact wZ|refine Aa ?_ ?_)<;>try refine Eh ?_)
 have f0:Ac (decide ((6:Int)<l.length)=false):=fo
 unfold E5
 rw[Ad h6]
 simp only[Ri];refine Eh ?_
 repeat' ((first|exact tt|refine na fun b=>?_|refine nb fun b hb=>?_|refine iq ?_|(refine jq ?_ ?_<;>intro h h')|exact wZ|refine Aa ?_ ?_)<;>try refine Eh ?_)
 refine A2 (fun i:Nat=>⟨lk [(0,.sl none 6 (CL l)),(3,.int .i64 (i:Int))],lk []⟩) (fun i=>i≤l.length∧Ac (Dr [] l=Dr ((l.take i).map BP) (l.drop i))) (fun i=>l.length - i) 0 ⟨by omega,rfl⟩ (An BA) ?_
 intro i ⟨i1,i2⟩
 have i2:Dr [] l=Dr ((l.take i).map BP) (l.drop i):=i2
 rw[i2]
 by_cases hil:i<l.length
 ·have f1:Ac (decide ((i:Int)<l.length)=true):=fo
  have hst:=WH hil
  have hli:=hl i hil
  obtain ⟨⟨p,c,q,d,o,n⟩,hgd⟩:∃ a,l.getD i default=a:=⟨_,rfl⟩
  rw[hgd]at hst hli
  have hM1:=KC p c (by have:=hli.1;simp only at this;omega)
  have hM2:=KC q d (by have:=hli.2;simp only at this;omega)
  clear hli hl
  by_cases hn:1≤n∧n≤1099511627777
  ·have hok:Dv ⟨p,c,q,d,o,n⟩=(Ba p c&&Ba q d):=by
    unfold Dv
    simp only[AO hn.1,AO hn.2,Bool.and_true]
   rw[hok]at hst
   clear hok
   cases ha:Ba p c with
   | false=>
    rw[ha,Bool.false_and,Af rfl]at hst
    rw[ha]at hM1
    rw[hst]
    clear hst i2
    refine Eh ?_
    repeat' ((first|exact tt|refine Ab hM1 ?_|refine na fun b=>?_|refine nb fun b hb=>?_|refine iq ?_|(refine jq ?_ ?_<;>intro h h')|exact wZ|refine Aa ?_ ?_)<;>try refine Eh ?_)
   | true=>
    rw[ha]at hM1
    cases hb':Ba q d with
    | false=>
     rw[ha,hb',Gt,Af rfl]at hst
     rw[hb']at hM2
     rw[hst]
     clear hst i2
     refine Eh ?_
     repeat' ((first|exact tt|refine Ab hM1 ?_|refine Ab hM2 ?_|refine na fun b=>?_|refine nb fun b hb=>?_|refine iq ?_|(refine jq ?_ ?_<;>intro h h')|exact wZ|refine Aa ?_ ?_)<;>try refine Eh ?_)
    | true=>
     rw[ha,hb',Gt,Ad (by simp)]at hst
     rw[hb']at hM2
     have hi0:=i2
     rw[hst]at i2 ⊢
     clear ha hb'
     have hgo:BP ⟨p,c,q,d,o,n⟩=(p,c):=rfl
     rw[hgo]at hst i2 ⊢
     refine Eh ?_
     repeat' ((first|exact tt|refine Ab hM1 ?_|refine Ab hM2 ?_|refine na fun b=>?_|refine nb fun b hb=>?_|refine iq ?_|(refine jq ?_ ?_<;>intro h h')|exact wZ|refine Aa ?_ ?_)<;>try refine Eh ?_)
     refine A2 (fun k:Nat=>⟨lk [(0,.sl none 6 (CL l)),(3,.int .i64 (i:Int)),(4,.int .i64 (k:Int))],lk []⟩) (fun k=>k≤i∧Ac (∀ j,j<k→E7 (p,c) (BP (l.getD j default))=false)) (fun k=>i - k) 0 ⟨by omega,fun j hj=>by omega⟩ (An BA) ?_
     intro k ⟨k1,k2⟩
     have k2:∀ j,j<k→E7 (p,c) (BP (l.getD j default))=false:=k2
     by_cases hki:k<i
     ·have f3:Ac (decide ((k:Int)<i)=true):=fo
      obtain ⟨⟨p',c',q',d',o',n'⟩,hgk⟩:∃ a,l.getD k default=a:=⟨_,rfl⟩
      cases hq:E7 (p,c) (p',c') with
      | true=>
       have hA:=a2e (l:=l) (e:=(p,c)) hki (by omega) (by rw[hgk];exact hq)
       rw[Af hA]
       clear hst i2 hi0 hA k2
       unfold E7 at hq
       refine Eh ?_
       repeat' ((first|exact tt|refine na fun b=>?_|refine nb fun b hb=>?_|refine iq ?_|(refine jq ?_ ?_<;>intro h h')|exact wZ|refine Aa ?_ ?_)<;>try refine Eh ?_)
      | false=>
       have hk':∀ j,j<k+1→E7 (p,c) (BP (l.getD j default))=false:=fun j hj=>by
        by_cases e:j<k
        ·exact k2 j e
        ·obtain rfl:j=k:=by omega
         rw[hgk];exact hq
       clear hst i2 hi0 k2
       unfold E7 at hq
       simp only at hq
       generalize (if ((l.take i).map BP).any (E7 (p,c))=true then (8:Int) else Dr ((l.take (i+1)).map BP) (l.drop (i+1)))=res at *
       refine Eh ?_
       repeat' ((first|exact tt|refine na fun b=>?_|refine nb fun b hb=>?_|refine iq ?_|(refine jq ?_ ?_<;>intro h h')|exact wZ|refine Aa ?_ ?_)<;>try refine Eh ?_)
       all_goals exact AC (k+1) ⟨An BA,⟨hki,hk'⟩,by omega⟩
     ·obtain rfl:k=i:=by omega
      have f3:Ac (decide ((k:Int)<k)=false):=fo
      have hA:=a2d (l:=l) (e:=(p,c)) i1 k2
      rw[Ad (by rw[hA];simp)]at i2 ⊢
      rw[← i2]
      clear hst hi0 k2 hA
      have i3:Ac (Dr [] l=Dr ((l.take (k+1)).map BP) (l.drop (k+1))):=i2
      clear i2
      refine Eh ?_
      repeat' ((first|exact tt|refine na fun b=>?_|refine nb fun b hb=>?_|refine iq ?_|(refine jq ?_ ?_<;>intro h h')|exact wZ|refine Aa ?_ ?_)<;>try refine Eh ?_)
      all_goals exact AC (k+1) ⟨An BA,⟨hil,i3⟩,by omega⟩
  ·have hok:Dv ⟨p,c,q,d,o,n⟩=false:=by
    unfold Dv
    cases Ba p c<;>cases Ba q d<;>simp<;>omega
   rw[hok,Af rfl]at hst
   rw[hst]
   clear hst hok i2
   generalize Ba p c=a1 at *
   generalize Ba q d=a2 at *
   cases a1<;>cases a2
   all_goals
    refine Eh ?_
    repeat' ((first|exact tt|refine Ab hM1 ?_|refine Ab hM2 ?_|refine na fun b=>?_|refine nb fun b hb=>?_|refine iq ?_|(refine jq ?_ ?_<;>intro h h')|exact wZ|refine Aa ?_ ?_)<;>try refine Eh ?_)
   all_goals first|skip;done|(exfalso;omega)
 ·obtain rfl:i=l.length:=by omega
  have f1:Ac (decide ((l.length:Int)<l.length)=false):=fo
  rw[List.drop_length,Dr]
  clear i2
  refine Eh ?_
  repeat' ((first|exact tt|refine na fun b=>?_|refine nb fun b hb=>?_|refine iq ?_|(refine jq ?_ ?_<;>intro h h')|exact wZ|refine Aa ?_ ?_)<;>try refine Eh ?_)
end
section
open Go.RowKit Go.Lib
theorem YZ(k:Nat):(List.replicate k (AV.int .i64 1)++[AV.int .i64 0]).set k (.int .i64 1)=List.replicate (k+1) (.int .i64 1):=by
 rw[a0u _ _ _ _ (by simp),List.replicate_succ']
theorem YY(k:Nat):(List.replicate k (AV.int .i64 1)++[AV.int .i64 0]).getD k .undef=AV.int .i64 0:=a0t _ _ _ _ (by simp)
theorem UB(e:FF)(l:List FF):l.any (E7 e)=decide (e∈l):=by
 rw[FE,List.any_eq_true,Bs]
 constructor
 ·rintro ⟨x,hx,h⟩
  rw[XM]at h
  rw[← h];exact hx
 ·intro h
  exact ⟨e,h,(XM e e).2 rfl⟩
theorem a4y{α:Type}[DecidableEq α]{a:α}{l:List α}(h:a∈l):∃ j,l.idxOf? a=some j∧j<l.length:=by
 cases hj:l.idxOf? a with
 | none=>rw[List.idxOf?_eq_none_iff]at hj;exact absurd h hj
 | some j=>
  obtain ⟨h1,_⟩:=List.idxOf?_eq_some_iff.1 hj
  exact ⟨j,rfl,h1⟩
theorem b3p{l:List GnC}{k:Nat}(hk:k<l.length):((l.take (k+1)).map BP).map FN=((l.take k).map BP).map FN++[FN (BP (l.getD k default))]:=by
 rw[a1h hk];simp
theorem FC{A B:Prop}(h:B)(e:A=B:=by (simp (disch:=omega) only[*, ↓Ed,Eu, ↓reduceIte,reduceCtorEq,Nat.reduceAdd,Nat.reduceEqDiff,Nat.reduceLT,Nat.reduceLeDiff,Int.reduceToNat,Int.reduceEq,Int.reduceLT,Int.reduceLE,Ap,Gd,Gc,GnC.cs,Ao,Ax,AN,beq_self_eq_true,R7,YZ,YY,Int.reduceAdd];first|done|rfl)):A:=e▸h
theorem a9n(l:List GnC)(hl:Nw l)(hb:l.length≤1000):CP Tryz.prog 72 [.sl none 6 (CL l)] (.int .i64 (E5 l)):=by
 refine a5K _ _ (by simp) ?_
 by_cases h6:6<l.length
 ·have f0:Ac (decide ((6:Int)<l.length)=true):=fo
  unfold E5
  rw[Af h6]
  simp only[Q5];refine FC ?_
  repeat' ((first|exact tt|refine na fun b=>?_|refine nb fun b hb=>?_|refine iq ?_|(refine jq ?_ ?_<;>intro h h')|exact wZ|refine Aa ?_ ?_)<;>try refine FC ?_)
 have f0:Ac (decide ((6:Int)<l.length)=false):=fo
 unfold E5
 rw[Ad h6]
 simp only[Q5];refine FC ?_
 repeat' ((first|exact tt|refine na fun b=>?_|refine nb fun b hb=>?_|refine iq ?_|(refine jq ?_ ?_<;>intro h h')|exact wZ|refine Aa ?_ ?_)<;>try refine FC ?_)
 refine A2 (fun k:Nat=>⟨lk [(3,.mapv b),(10,.sl none 6 (CL l)),(11,.int .i64 l.length),(12,.int .i64 (k:Int))],lk [(b,[.mp (((l.take k).map BP).map FN) (List.replicate k (.int .i64 1)) (List.range k) k])]⟩) (fun k=>k≤l.length∧Ac (Dr [] l=Dr ((l.take k).map BP) (l.drop k))) (fun k=>l.length - k) 0 ⟨by omega,rfl⟩ (An BA) ?_
 intro k ⟨i1,i2⟩
 have i2:Dr [] l=Dr ((l.take k).map BP) (l.drop k):=i2
 rw[i2]
 by_cases hk:k<l.length
 ·have f5:Ac (decide ((k:Int)<l.length)=true):=fo
  have hst:=WH hk
  have hli:=hl k hk
  have htk:=b3p hk
  have hlk:((l.take k).map BP).length=k:=by simp;omega
  obtain ⟨⟨p,c,q,d,o,n⟩,hgd⟩:∃ a,l.getD k default=a:=⟨_,rfl⟩
  rw[hgd]at hst hli htk
  have hA:=KD p c (by have:=hli.1;simp only at this;omega)
  have hB:=KD q d (by have:=hli.2;simp only at this;omega)
  have hC:=Tj n
  rw[UB]at hst
  clear hli hl
  have hok:Dv ⟨p,c,q,d,o,n⟩=(Ba p c&&Ba q d&&(decide (1≤n)&&decide (n≤1099511627777))):=rfl
  rw[hok]at hst
  clear hok
  generalize Ba p c=a1 at *
  generalize Ba q d=a2 at *
  generalize (decide (1≤n)&&decide (n≤1099511627777))=a3 at *
  have hgo:BP ⟨p,c,q,d,o,n⟩=(p,c):=rfl
  rw[hgo]at hst htk
  cases a1 with
  | false=>
   rw[Bool.false_and,Bool.false_and,Af rfl]at hst
   rw[hst]
   clear hst i2 htk
   refine FC ?_
   repeat' ((first|exact tt|refine Ab hA ?_|refine Ab hB ?_|refine Ab hC ?_|refine na fun b=>?_|refine nb fun b hb=>?_|refine iq ?_|(refine jq ?_ ?_<;>intro h h')|exact wZ|refine Aa ?_ ?_)<;>try refine FC ?_)
  | true=>
   cases a2 with
   | false=>
    rw[Gt,Bool.false_and,Af rfl]at hst
    rw[hst]
    clear hst i2 htk
    refine FC ?_
    repeat' ((first|exact tt|refine Ab hA ?_|refine Ab hB ?_|refine Ab hC ?_|refine na fun b=>?_|refine nb fun b hb=>?_|refine iq ?_|(refine jq ?_ ?_<;>intro h h')|exact wZ|refine Aa ?_ ?_)<;>try refine FC ?_)
   | true=>
    cases a3 with
    | false=>
     rw[Bool.and_false,Af rfl]at hst
     rw[hst]
     clear hst i2 htk
     refine FC ?_
     repeat' ((first|exact tt|refine Ab hA ?_|refine Ab hB ?_|refine Ab hC ?_|refine na fun b=>?_|refine nb fun b hb=>?_|refine iq ?_|(refine jq ?_ ?_<;>intro h h')|exact wZ|refine Aa ?_ ?_)<;>try refine FC ?_)
    | true=>
     rw[Bool.and_self,Bool.and_self,Ad (by simp)]at hst
     by_cases hm:(p,c)∈(l.take k).map BP
     ·rw[Af (AO hm)]at hst
      rw[hst]
      have hf:=Jt [.s,.i] true FN R2 (p,c) ((l.take k).map BP)
      obtain ⟨j,hj,hjl⟩:=a4y hm
      rw[hj]at hf
      have hjk:j<k:=by rw[hlk]at hjl;exact hjl
      have hv:(List.replicate k (AV.int .i64 1)).getD j .undef=.int .i64 1:=by simp[List.getD,hjk]
      have hf':B2 [.s,.i] true (.agg [.str p,.int .i64 c]) (((l.take k).map BP).map FN)=some (some j):=hf
      clear hst i2 htk hf hj hjl hlk
      simp (disch:=omega) only[hgd,hf',hv, ↓Ed,Eu, ↓reduceIte,reduceCtorEq,Nat.reduceAdd,Nat.reduceEqDiff,Nat.reduceLT,Nat.reduceLeDiff,Int.reduceToNat,Int.reduceEq,Int.reduceLT,Int.reduceLE,Ap,Gd,Gc,GnC.cs,Ao,Ax,AN,beq_self_eq_true,R7,YZ,YY,Int.reduceAdd]
      repeat' ((first|exact tt|refine Ab hA ?_|refine Ab hB ?_|refine Ab hC ?_|refine na fun b=>?_|refine nb fun b hb=>?_|refine iq ?_|(refine jq ?_ ?_<;>intro h h')|exact wZ|refine Aa ?_ ?_)<;>try refine FC ?_)
     ·rw[Ad (by rw[A0 hm];simp)]at hst
      rw[hst]at i2 ⊢
      rw[← i2]
      have i3:Ac (Dr [] l=Dr ((l.take (k+1)).map BP) (l.drop (k+1))):=i2
      have hf:B2 [.s,.i] true (.agg [.str p,.int .i64 c]) (((l.take k).map BP).map FN)=some none:=O3 _ _ FN R2 _ _ hm
      have hf2:B2 [.s,.i] true (.agg [.str p,.int .i64 c]) (((l.take k).map BP).map FN++[.agg [.str p,.int .i64 c]])=some (some k):=by
       have:=Xl [.s,.i] true FN R2 _ _ hm
       rwa [hlk]at this
      clear hst i2 hlk
      refine FC ?_
      repeat' ((first|exact tt|refine Ab hA ?_|refine Ab hB ?_|refine Ab hC ?_|refine na fun b=>?_|refine nb fun b hb=>?_|refine iq ?_|(refine jq ?_ ?_<;>intro h h')|exact wZ|refine Aa ?_ ?_)<;>try refine FC ?_)
      all_goals exact AC (k+1) ⟨An (by simp[-List.map_take, -List.map_map,Am,lk,htk,FN,List.range_succ]),⟨hk,i3⟩,by omega⟩
 ·obtain rfl:k=l.length:=by omega
  have f5:Ac (decide ((l.length:Int)<l.length)=false):=fo
  rw[List.drop_length,Dr]
  clear i2
  refine FC ?_
  repeat' ((first|exact tt|refine na fun b=>?_|refine nb fun b hb=>?_|refine iq ?_|(refine jq ?_ ?_<;>intro h h')|exact wZ|refine Aa ?_ ?_)<;>try refine FC ?_)
end
section
open Go.RowKit Go.Lib
def Ku(l:List GnC):Prop:=l.length≤10∧∀ i,i<l.length→(l.getD i default).p.length≤60∧(l.getD i default).q.length≤60
theorem Ih{A B:Prop}(h:B)(e:A=B:=by (simp (disch:=omega) only[*, ↓Ed,Eu, ↓reduceIte,reduceCtorEq,Nat.reduceAdd,Nat.reduceEqDiff,Nat.reduceLT,Nat.reduceLeDiff,Int.reduceToNat,Int.reduceEq,Int.reduceLT,Int.reduceLE,Ap,Gd,Gc,GnC.cs];first|done|rfl)):A:=e▸h
open Classical in
theorem a8N(l:List GnC):CP Tryz.prog 27 [.agg [.str [],.int .i64 0,.int .i64 0,.int .i64 0,.sl none 6 (CL l)]] (.bool (decide (Ku l))):=by
 refine a6e _ _ (by simp) ?_
 by_cases h10:l.length≤10
 ·simp only[Re];refine Ih ?_
  repeat' ((first|exact tt|refine na fun b=>?_|refine nb fun b hb=>?_|refine iq ?_|(refine jq ?_ ?_<;>intro h h')|exact wZ|refine Aa ?_ ?_)<;>try refine Ih ?_)
  refine A2 (fun i:Nat=>⟨lk [(1,.ptr b 0),(3,.int .i64 (i:Int))],lk [(b,[.str [],.int .i64 0,.int .i64 0,.int .i64 0,.sl none 6 (CL l)])]⟩) (fun i=>i≤l.length∧Ac (∀ j,j<i→(l.getD j default).p.length≤60∧(l.getD j default).q.length≤60)) (fun i=>l.length - i) 0 ⟨by omega,fun j hj=>by omega⟩ (An BA) ?_
  intro i ⟨i1,i2⟩
  by_cases hil:i<l.length
  ·have f1:Ac (decide ((i:Int)<l.length)=true):=fo
   by_cases hq:(l.getD i default).p.length≤60∧(l.getD i default).q.length≤60
   ·have i3:Ac (∀ j,j<i+1→(l.getD j default).p.length≤60∧(l.getD j default).q.length≤60):=fun j hj=>by
     by_cases e:j<i
     ·exact i2 j e
     ·obtain rfl:j=i:=by omega
      exact hq
    obtain ⟨⟨p,c,q,d,o,n⟩,hgd⟩:∃ a,l.getD i default=a:=⟨_,rfl⟩
    rw[hgd]at hq
    obtain ⟨q1,q2⟩:=hq
    simp only at q1 q2
    clear i2
    generalize decide (Ku l)=res at *
    refine Ih ?_
    repeat' ((first|exact tt|refine na fun b=>?_|refine nb fun b hb=>?_|refine iq ?_|(refine jq ?_ ?_<;>intro h h')|exact wZ|refine Aa ?_ ?_)<;>try refine Ih ?_)
    all_goals exact AC (i+1) ⟨An BA,⟨hil,i3⟩,by omega⟩
   ·rw[A0 (fun h=>hq (h.2 i hil))]
    obtain ⟨⟨p,c,q,d,o,n⟩,hgd⟩:∃ a,l.getD i default=a:=⟨_,rfl⟩
    rw[hgd]at hq
    simp only at hq
    clear i2
    refine Ih ?_
    repeat' ((first|exact tt|refine na fun b=>?_|refine nb fun b hb=>?_|refine iq ?_|(refine jq ?_ ?_<;>intro h h')|exact wZ|refine Aa ?_ ?_)<;>try refine Ih ?_)
  ·obtain rfl:i=l.length:=by omega
   have f1:Ac (decide ((l.length:Int)<l.length)=false):=fo
   have hls:Ku l:=⟨h10,i2⟩
   rw[AO hls]
   clear hls
   clear i2
   refine Ih ?_
   repeat' ((first|exact tt|refine na fun b=>?_|refine nb fun b hb=>?_|refine iq ?_|(refine jq ?_ ?_<;>intro h h')|exact wZ|refine Aa ?_ ?_)<;>try refine Ih ?_)
 ·rw[A0 (fun h=>h10 h.1)]
  simp only[Re];refine Ih ?_
  repeat' ((first|exact tt|refine na fun b=>?_|refine nb fun b hb=>?_|refine iq ?_|(refine jq ?_ ?_<;>intro h h')|exact wZ|refine Aa ?_ ?_)<;>try refine Ih ?_)
end
section
open Go.RowKit Go.Lib
def Hy(l:List PktC):List (List AV):=l.map PktC.cs
theorem Tu(l:List PktC):(Hy l).length=l.length:=by simp[Hy]
theorem Tt(l:List PktC)(i:Nat)(h:i<l.length):(Hy l).getD i []=(l.getD i default).cs:=by simp[Hy,h]
abbrev IQ(l:List Int):List (List AV):=l.map fun v=>[.int .i64 v]
structure GvC where
 e:List GnC
 k:List PktC
 m:List PrP
 o:List PrP
 n:List Int
 a:Int
 ht:Int
 tm:Int
abbrev GvC.cs(x:GvC):List AV:=[.sl none 6 (CL x.e),.sl none 8 (Hy x.k),.sl none 2 (AX x.m),.sl none 2 (AX x.o),.sl none 1 (IQ x.n),.int .i64 x.a,.int .i64 x.ht,.int .i64 x.tm]
def GK(l:List PrP):Prop:=l.length≤40∧∀ i,i<l.length→(l.getD i default).1.length≤300∧(l.getD i default).2.length≤200
def HX(p:PktC):Prop:=p.s.length≤60∧p.d.length≤60∧p.x.length≤600
def HY(x:GvC):Prop:=Ku x.e∧x.k.length≤10∧GK x.m∧GK x.o∧x.n.length≤10∧∀ i,i<x.k.length→HX (x.k.getD i default)
theorem FX{A B:Prop}(h:B)(e:A=B:=by (simp (disch:=omega) only[*, ↓Ed,Eu, ↓reduceIte,reduceCtorEq,Nat.reduceAdd,Nat.reduceEqDiff,Nat.reduceLT,Nat.reduceLeDiff,Int.reduceToNat,Int.reduceEq,Int.reduceLT,Int.reduceLE,Ap,Gd,Gc,GnC.cs,Df,Dw,Tu,Tt,PktC.cs,GvC.cs];first|done|rfl)):A:=e▸h
open Classical in
theorem Zh(p:PktC):CP Tryz.prog 29 [.agg p.cs] (.bool (decide (HX p))):=by
 refine a6b _ _ (by simp) ?_
 by_cases h:HX p
 ·rw[AO h]
  obtain ⟨h1,h2,h3⟩:=h
  simp only[Ra];refine FX ?_
  repeat' ((first|exact tt|refine na fun b=>?_|refine nb fun b hb=>?_|refine iq ?_|(refine jq ?_ ?_<;>intro h h')|exact wZ|refine Aa ?_ ?_)<;>try refine FX ?_)
  all_goals (simp only[Ac,Hn]at *;omega)
 ·rw[A0 h]
  have h':¬ (p.s.length≤60∧p.d.length≤60∧p.x.length≤600):=h
  clear h
  simp only[Ra];refine FX ?_
  repeat' ((first|exact tt|refine na fun b=>?_|refine nb fun b hb=>?_|refine iq ?_|(refine jq ?_ ?_<;>intro h h')|exact wZ|refine Aa ?_ ?_)<;>try refine FX ?_)
  all_goals (simp only[Ac,Hn]at *;omega)
open Classical in
theorem Zi(l:List PrP):CP Tryz.prog 28 [.sl none 2 (AX l)] (.bool (decide (GK l))):=by
 refine a6c _ _ (by simp) ?_
 by_cases h10:l.length≤40
 ·simp only[Rb];refine FX ?_
  repeat' ((first|exact tt|refine na fun b=>?_|refine nb fun b hb=>?_|refine iq ?_|(refine jq ?_ ?_<;>intro h h')|exact wZ|refine Aa ?_ ?_)<;>try refine FX ?_)
  refine A2 (fun i:Nat=>⟨lk [(0,.sl none 2 (AX l)),(3,.int .i64 (i:Int))],lk []⟩) (fun i=>i≤l.length∧Ac (∀ j,j<i→(l.getD j default).1.length≤300∧(l.getD j default).2.length≤200)) (fun i=>l.length - i) 0 ⟨by omega,fun j hj=>by omega⟩ (An BA) ?_
  intro i ⟨i1,i2⟩
  by_cases hil:i<l.length
  ·have f1:Ac (decide ((i:Int)<l.length)=true):=fo
   by_cases hq:(l.getD i default).1.length≤300∧(l.getD i default).2.length≤200
   ·have i3:Ac (∀ j,j<i+1→(l.getD j default).1.length≤300∧(l.getD j default).2.length≤200):=fun j hj=>by
     by_cases e:j<i
     ·exact i2 j e
     ·obtain rfl:j=i:=by omega
      exact hq
    obtain ⟨⟨k,v⟩,hgd⟩:∃ a,l.getD i default=a:=⟨_,rfl⟩
    rw[hgd]at hq
    obtain ⟨q1,q2⟩:=hq
    simp only at q1 q2
    clear i2
    generalize decide (GK l)=res at *
    refine FX ?_
    repeat' ((first|exact tt|refine na fun b=>?_|refine nb fun b hb=>?_|refine iq ?_|(refine jq ?_ ?_<;>intro h h')|exact wZ|refine Aa ?_ ?_)<;>try refine FX ?_)
    all_goals exact AC (i+1) ⟨An BA,⟨hil,i3⟩,by omega⟩
   ·rw[A0 (fun h=>hq (h.2 i hil))]
    obtain ⟨⟨k,v⟩,hgd⟩:∃ a,l.getD i default=a:=⟨_,rfl⟩
    rw[hgd]at hq
    simp only at hq
    clear i2
    refine FX ?_
    repeat' ((first|exact tt|refine na fun b=>?_|refine nb fun b hb=>?_|refine iq ?_|(refine jq ?_ ?_<;>intro h h')|exact wZ|refine Aa ?_ ?_)<;>try refine FX ?_)
    all_goals (simp only[Ac,Hn]at *;omega)
  ·obtain rfl:i=l.length:=by omega
   have f1:Ac (decide ((l.length:Int)<l.length)=false):=fo
   have hls:GK l:=⟨h10,i2⟩
   rw[AO hls]
   clear hls
   clear i2
   refine FX ?_
   repeat' ((first|exact tt|refine na fun b=>?_|refine nb fun b hb=>?_|refine iq ?_|(refine jq ?_ ?_<;>intro h h')|exact wZ|refine Aa ?_ ?_)<;>try refine FX ?_)
 ·rw[A0 (fun h=>h10 h.1)]
  simp only[Rb];refine FX ?_
  repeat' ((first|exact tt|refine na fun b=>?_|refine nb fun b hb=>?_|refine iq ?_|(refine jq ?_ ?_<;>intro h h')|exact wZ|refine Aa ?_ ?_)<;>try refine FX ?_)
end
section
open Go.RowKit Go.Lib
theorem Ie{A B:Prop}(h:B)(e:A=B:=by (simp (disch:=omega) only[*, ↓Ed,Eu, ↓reduceIte,reduceCtorEq,Nat.reduceAdd,Nat.reduceEqDiff,Nat.reduceLT,Nat.reduceLeDiff,Int.reduceToNat,Int.reduceEq,Int.reduceLT,Int.reduceLE,Ap,Gd,Gc,GnC.cs,Df,Dw,Tu,Tt,PktC.cs,GvC.cs,Ax];first|done|rfl)):A:=e▸h
open Classical in
theorem a8L(x:GvC):CP Tryz.prog 9 [.agg x.cs] (.bool (decide (HY x))):=by
 have hL:=a8N x.e
 have hM:=Zi x.m
 have hO:=Zi x.o
 refine a6j _ _ (by simp) ?_
 by_cases h:Ku x.e∧x.k.length≤10∧GK x.m∧GK x.o∧x.n.length≤10
 ·obtain ⟨h1,h2,h3,h4,h5⟩:=h
  rw[AO h1]at hL
  rw[AO h3]at hM
  rw[AO h4]at hO
  obtain ⟨e,k,m,o,n,a,ht,tm⟩:=x
  simp only at h1 h2 h3 h4 h5 hL hM hO
  have hV:∀ P:Prop,(P↔∀ i,i<k.length→HX (k.getD i default))→(HY ⟨e,k,m,o,n,a,ht,tm⟩↔P):=fun P hp=>by
   rw[hp];exact ⟨fun h=>h.2.2.2.2.2,fun h=>⟨h1,h2,h3,h4,h5,h⟩⟩
  clear h1 h3 h4
  simp only[Rf];refine Ie ?_
  repeat' ((first|exact tt|refine Ab hL ?_|refine Ab hM ?_|refine Ab hO ?_|refine na fun b=>?_|refine nb fun b hb=>?_|refine iq ?_|(refine jq ?_ ?_<;>intro h h')|exact wZ|refine Aa ?_ ?_)<;>try refine Ie ?_)
  rename Nat=>b
  refine A2 (fun i:Nat=>⟨lk [(1,.ptr b 0),(3,.int .i64 (i:Int))],lk [(b,[.sl none 6 (CL e),.sl none 8 (Hy k),.sl none 2 (AX m),.sl none 2 (AX o),.sl none 1 (IQ n),.int .i64 a,.int .i64 ht,.int .i64 tm])]⟩) (fun i=>i≤k.length∧Ac (∀ j,j<i→HX (k.getD j default))) (fun i=>k.length - i) 0 ⟨by omega,fun j hj=>by omega⟩ (An BA) ?_
  intro i ⟨i1,i2⟩
  by_cases hil:i<k.length
  ·have f1:Ac (decide ((i:Int)<k.length)=true):=fo
   have hK:=Zh (k.getD i default)
   by_cases hq:HX (k.getD i default)
   ·rw[AO hq]at hK
    have i3:Ac (∀ j,j<i+1→HX (k.getD j default)):=fun j hj=>by
     by_cases e:j<i
     ·exact i2 j e
     ·obtain rfl:j=i:=by omega
      exact hq
    obtain ⟨p,hgd⟩:∃ p,k.getD i default=p:=⟨_,rfl⟩
    rw[hgd]at hK
    clear i2 hq hV
    generalize decide (HY ⟨e,k,m,o,n,a,ht,tm⟩)=res at *
    refine Ie ?_
    repeat' ((first|exact tt|refine Ab hK ?_|refine na fun b=>?_|refine nb fun b hb=>?_|refine iq ?_|(refine jq ?_ ?_<;>intro h h')|exact wZ|refine Aa ?_ ?_)<;>try refine Ie ?_)
    all_goals exact AC (i+1) ⟨An BA,⟨hil,i3⟩,by omega⟩
   ·rw[A0 hq]at hK
    rw[A0 (fun h=>hq (h.2.2.2.2.2 i hil))]
    obtain ⟨p,hgd⟩:∃ p,k.getD i default=p:=⟨_,rfl⟩
    rw[hgd]at hK
    clear i2 hq hV
    refine Ie ?_
    repeat' ((first|exact tt|refine Ab hK ?_|refine na fun b=>?_|refine nb fun b hb=>?_|refine iq ?_|(refine jq ?_ ?_<;>intro h h')|exact wZ|refine Aa ?_ ?_)<;>try refine Ie ?_)
  ·obtain rfl:i=k.length:=by omega
   have f1:Ac (decide ((k.length:Int)<k.length)=false):=fo
   rw[AO ((hV True ⟨fun _=>i2,fun _=>trivial⟩).2 trivial)]
   clear i2 hV
   refine Ie ?_
   repeat' ((first|exact tt|refine na fun b=>?_|refine nb fun b hb=>?_|refine iq ?_|(refine jq ?_ ?_<;>intro h h')|exact wZ|refine Aa ?_ ?_)<;>try refine Ie ?_)
 ·rw[A0 (fun g=>h ⟨g.1,g.2.1,g.2.2.1,g.2.2.2.1,g.2.2.2.2.1⟩)]
  have h':¬ (decide (Ku x.e)=true∧x.k.length≤10∧decide (GK x.m)=true∧decide (GK x.o)=true∧x.n.length≤10):=by simpa using h
  clear h
  generalize decide (Ku x.e)=A at *
  generalize decide (GK x.m)=B at *
  generalize decide (GK x.o)=C at *
  obtain ⟨e,k,m,o,n,a,ht,tm⟩:=x
  simp only at h' hL hM hO
  cases A<;>cases B<;>cases C
  all_goals simp only[true_and,Bc,false_and,and_false,D3,Ct]at h'
  all_goals (simp only[Rf];refine Ie ?_;try exact tt)
  all_goals repeat' ((first|exact tt|refine Ab hL ?_|refine Ab hM ?_|refine Ab hO ?_|refine na fun b=>?_|refine nb fun b hb=>?_|refine iq ?_|(refine jq ?_ ?_<;>intro h h')|exact wZ|refine Aa ?_ ?_)<;>try refine Ie ?_)
  all_goals (exfalso;simp only[Ac,Hn]at *;omega)
end
theorem KT{A B:Prop}(h:B)(e:A=B:=by (simp (disch:=omega) only[*, ↓Ed,Eu, ↓reduceIte,reduceCtorEq,Nat.reduceAdd,Nat.reduceEqDiff,Nat.reduceLT,Nat.reduceLeDiff,Int.reduceToNat,Int.reduceEq,Int.reduceLT,Int.reduceLE,Ap,Ao,Ax,AN,beq_self_eq_true,HdC.cs,Ey,DW,BF,Cw,Co,C6,Dc,HS,HU,Int.reduceAdd];first|done|rfl)):A:=e▸h
theorem a9e(h:HdC)(l:List HdC)(g:AV)(hg:g.alias=.sl none 34 (Bn l))(hl:l.length≤1000):CP Tryz.prog 150 [.agg h.cs,g] (.bool (decide (h∈l))):=by
 refine a5J _ _ (by simp) ?_
 simp only[UV,Cz.z1];refine KT ?_
 repeat' ((first|exact tt|refine na fun b=>?_|refine nb fun b hb=>?_|refine iq ?_|(refine jq ?_ ?_<;>intro h h')|exact wZ|refine Aa ?_ ?_)<;>try refine KT ?_)
 rename_i m
 have hb0:=hb
 refine A2 (fun x:Nat × List HdC × List Int=>⟨lk [(2,.ptr m 0),(5,.mapv b),(9,.sl none 34 (Bn l)),(10,.int .i64 l.length),(11,.int .i64 (x.1:Int))],lk [(b,[.mp (x.2.1.map Ep) (x.2.2.map (AV.int .i64 ·)) (List.range x.2.1.length) x.2.1.length]),(m,h.cs)]⟩)
  (fun x=>x.1≤l.length∧x.2.2.length=x.2.1.length∧(∀ y,y∈x.2.1↔y∈l.take x.1)∧∀ i,i<x.2.2.length→1≤x.2.2.getD i 0∧x.2.2.getD i 0≤x.1) (fun x=>l.length - x.1) (0,[],[]) ⟨by simp,rfl,by simp,by simp⟩ (An (by simp[Am,lk,hb])) ?_
 rintro ⟨k,d,cn⟩ ⟨g1,g2,g3,g4⟩
 simp only at g1 g2 g3 g4
 by_cases hk:k<l.length
 ·have f5:Ac (decide ((k:Int)<l.length)=true):=fo
  have hx:l[k]?=some (l.getD k default):=by simp[List.getD,hk]
  have hmem:∀ y,y∈l.take (k+1)↔y∈l.take k∨y=l.getD k default:=by
   intro y;rw[List.take_add_one,hx,Bv];simp
  by_cases hin:(l.getD k default)∈d
  ·obtain ⟨i,hi,hil⟩:=XP hin
   have hf:B2 HL true (.agg (l.getD k default).cs) (d.map Ep)=some (some i):=by
    have:=Jt HL true Ep Nr (l.getD k default) d
    rw[hi]at this;exact this
   have hv:=XX cn i (by omega)
   have hB:=a3C d.length i hil
   have hr:=b0C d.length i hil
   have hc:=g4 i (by omega)
   have hn:∀ j,j<(cn.set i (cn.getD i 0+1)).length→1≤(cn.set i (cn.getD i 0+1)).getD j 0∧(cn.set i (cn.getD i 0+1)).getD j 0≤((k+1:Nat):Int):=by
    intro j hj
    rw[List.length_set]at hj
    have:=g4 j hj
    by_cases e:i=j
    ·subst e;simp[List.getD,hj]at this ⊢;omega
    ·simp[List.getD,hj,List.getElem_set,e]at this ⊢;omega
   have hN:(cn.set i (cn.getD i 0+1)).length=d.length∧(∀ y,y∈d↔y∈l.take (k+1))∧∀ j,j<(cn.set i (cn.getD i 0+1)).length→1≤(cn.set i (cn.getD i 0+1)).getD j 0∧(cn.set i (cn.getD i 0+1)).getD j 0≤((k+1:Nat):Int):=by
    refine ⟨by simp[g2],fun y=>?_,hn⟩
    rw[hmem,g3]
    constructor
    ·exact .inl
    ·rintro (h1|rfl)
     ·exact h1
     ·exact (g3 _).1 hin
   clear hn hmem hx hi g3 g4
   generalize hw:cn.getD i 0=c at *
   obtain ⟨hN1,hN2,hN3⟩:=hN
   simp (disch:=omega) only[hf,hv,hB,hr,ints_set, ↓Ed,Eu, ↓reduceIte,reduceCtorEq,Nat.reduceAdd,Nat.reduceEqDiff,Nat.reduceLT,Nat.reduceLeDiff,Int.reduceToNat,Int.reduceEq,Int.reduceLT,Int.reduceLE,Ap,Ao,Ax,AN,beq_self_eq_true,HdC.cs,Ey,DW,BF,Cw,Co,C6,Dc,HS,HU,Int.reduceAdd]
   repeat' ((first|exact tt|refine na fun b=>?_|refine nb fun b hb=>?_|refine iq ?_|(refine jq ?_ ?_<;>intro h h')|exact wZ|refine Aa ?_ ?_)<;>try refine KT ?_)
   exact AC (k+1,d,cn.set i (c+1)) ⟨An (by simp[Am,lk,hb,hb0]),⟨by simp only;omega,hN1,hN2,hN3⟩,by simp only;omega⟩
  ·have hf:B2 HL true (.agg (l.getD k default).cs) (d.map Ep)=some none:=O3 HL true Ep Nr _ _ hin
   have hf2:B2 HL true (.agg (l.getD k default).cs) (d.map Ep++[.agg (l.getD k default).cs])=some (some d.length):=Xl HL true Ep Nr _ _ hin
   have hv:(cn.map (AV.int .i64 ·)++[AV.int .i64 0]).getD d.length .undef=AV.int .i64 0:=a0t _ _ _ _ (by simp[g2])
   have hs:(cn.map (AV.int .i64 ·)++[AV.int .i64 0]).set d.length (.int .i64 1)=(cn++[1]).map (AV.int .i64 ·):=by rw[a0u _ _ _ _ (by simp[g2])];simp
   have hB:=R7 d.length 0
   have hN:(cn++[1]).length=(d++[l.getD k default]).length∧(∀ y,y∈d++[l.getD k default]↔y∈l.take (k+1))∧∀ j,j<(cn++[1]).length→1≤(cn++[1]).getD j 0∧(cn++[1]).getD j 0≤((k+1:Nat):Int):=by
    refine ⟨by simp[g2],fun y=>?_,fun j hj=>?_⟩
    ·rw[hmem,Bv,g3,G6]
    ·by_cases e:j<cn.length
     ·have:=g4 j e
      simp[List.getD,CB e,e]at this ⊢;omega
     ·have:j=cn.length:=by simp at hj;omega
      subst this;simp[List.getD];omega
   obtain ⟨hN1,hN2,hN3⟩:=hN
   clear hmem hx g3 g4
   simp (disch:=omega) only[hf,hf2,hv,hs,hB, ↓Ed,Eu, ↓reduceIte,reduceCtorEq,Nat.reduceAdd,Nat.reduceEqDiff,Nat.reduceLT,Nat.reduceLeDiff,Int.reduceToNat,Int.reduceEq,Int.reduceLT,Int.reduceLE,Ap,Ao,Ax,AN,beq_self_eq_true,HdC.cs,Ey,DW,BF,Cw,Co,C6,Dc,HS,HU,Int.reduceAdd]
   repeat' ((first|exact tt|refine na fun b=>?_|refine nb fun b hb=>?_|refine iq ?_|(refine jq ?_ ?_<;>intro h h')|exact wZ|refine Aa ?_ ?_)<;>try refine KT ?_)
   exact AC (k+1,d++[l.getD k default],cn++[1]) ⟨An (by simp[Am,lk,Ep,List.range_succ,hb,hb0]),⟨by simp only;omega,hN1,hN2,hN3⟩,by simp only;omega⟩
 have f5:Ac (decide ((k:Int)<l.length)=false):=fo
 have hd:∀ y,y∈d↔y∈l:=by intro y;rw[g3,B0 (by omega)]
 by_cases hin:h∈d
 ·obtain ⟨i,hi,hil⟩:=XP hin
  have hf:B2 HL true (.agg h.cs) (d.map Ep)=some (some i):=by
   have:=Jt HL true Ep Nr h d
   rw[hi]at this;exact this
  have hv:=XX cn i (by omega)
  have hc:=g4 i (by omega)
  have f6:Ac (decide (0<cn.getD i 0)=true):=fo
  rw[AO ((hd h).1 hin)]
  clear hd hi g3 g4
  simp (disch:=omega) only[hf,hv, ↓Ed,Eu, ↓reduceIte,reduceCtorEq,Nat.reduceAdd,Nat.reduceEqDiff,Nat.reduceLT,Nat.reduceLeDiff,Int.reduceToNat,Int.reduceEq,Int.reduceLT,Int.reduceLE,Ap,Ao,Ax,AN,beq_self_eq_true,HdC.cs,Ey,DW,BF,Cw,Co,C6,Dc,HS,HU,Int.reduceAdd]
  repeat' ((first|exact tt|refine na fun b=>?_|refine nb fun b hb=>?_|refine iq ?_|(refine jq ?_ ?_<;>intro h h')|exact wZ|refine Aa ?_ ?_)<;>try refine KT ?_)
  exact f6
 ·have hf:B2 HL true (.agg h.cs) (d.map Ep)=some none:=O3 HL true Ep Nr _ _ hin
  rw[A0 (fun e=>hin ((hd h).2 e))]
  clear hd g3 g4
  refine KT ?_
  repeat' ((first|exact tt|refine na fun b=>?_|refine nb fun b hb=>?_|refine iq ?_|(refine jq ?_ ?_<;>intro h h')|exact wZ|refine Aa ?_ ?_)<;>try refine KT ?_)
def Hq(x:HdC):Bool:=decide (1≤x.h∧x.h≤1099511627776∧0≤x.t∧x.t≤1099511627776)
theorem Cx{A B:Prop}(h:B)(e:A=B:=by (simp (disch:=omega) only[*, ↓Ed,Eu, ↓reduceIte,reduceCtorEq,Nat.reduceAdd,Nat.reduceEqDiff,Nat.reduceLT,Nat.reduceLeDiff,Int.reduceToNat,Int.reduceEq,Int.reduceLT,Int.reduceLE,Ap,Ao,Ax,AN,beq_self_eq_true,HdC.cs,Ey,DW,BF,Cw,Co,C6,Dc,HS,HU,Int.reduceAdd,BL,Cc,FQ,FS,EH,J3];first|done|rfl)):A:=e▸h
theorem a8P(x:HdC):CP Tryz.prog 90 [.agg x.cs] (.bool (Hq x)):=by
 refine a6G _ _ (by simp) ?_
 unfold Hq
 by_cases h:1≤x.h∧x.h≤1099511627776∧0≤x.t∧x.t≤1099511627776
 ·rw[AO h]
  have f1:Ac (decide (1≤x.h)=true):=fo
  have f2:Ac (decide (x.h≤1099511627776)=true):=fo
  have f3:Ac (decide (0≤x.t)=true):=fo
  have f4:Ac (decide (x.t≤1099511627776)=true):=fo
  clear h
  simp only[Rm];refine Cx ?_
  repeat' ((first|exact tt|refine na fun b=>?_|refine nb fun b hb=>?_|refine iq ?_|(refine jq ?_ ?_<;>intro h h')|exact wZ|refine Aa ?_ ?_)<;>try refine Cx ?_)
  all_goals (simp only[Ac,Hn]at *;omega)
 ·rw[A0 h]
  have F:Ac (¬ (1≤x.h∧x.h≤1099511627776∧0≤x.t∧x.t≤1099511627776)):=h
  clear h
  simp only[Rm];refine Cx ?_
  repeat' ((first|exact tt|refine na fun b=>?_|refine nb fun b hb=>?_|refine iq ?_|(refine jq ?_ ?_<;>intro h h')|exact wZ|refine Aa ?_ ?_)<;>try refine Cx ?_)
  all_goals (simp only[Ac,Hn]at *;omega)
theorem b2q{m:List HdC}{a:Int}{k:Nat}(hk:k<m.length)(h1:∀ i,i<k→(m.getD i default).h≠a)(h2:(m.getD k default).h=a):BC m a=some (m.getD k default):=by
 induction m generalizing k with
 | nil=>simp at hk
 | cons x m ih=>
  cases k with
  | zero=>simp at h2;simp[BC,h2]
  | succ k=>
   have h0:=h1 0 (by omega)
   simp at h0
   have:=ih (k:=k) (by simpa using hk) (fun i hi=>by simpa using h1 (i+1) (by omega)) (by simpa using h2)
   simp only[BC,List.find?_cons,h0,decide_false]
   simpa[BC]using this
theorem b2p{m:List HdC}{a:Int}(h1:∀ i,i<m.length→(m.getD i default).h≠a):BC m a=none:=by
 unfold BC
 rw[List.find?_eq_none]
 intro x hx
 obtain ⟨i,hi,rfl⟩:=Do hx
 have:=h1 i hi
 simpa[List.getD,hi]using this
theorem Zg(m:List HdC)(g:AV)(hg:g.alias=.sl none 34 (Bn m))(hl:m.length≤1000)(a:Int):CP Tryz.prog 89 [g,.int .i64 a] (.tup [.agg ((BC m a).getD default).cs,.bool (BC m a).isSome]):=by
 refine a6q _ _ (by simp) ?_
 simp only[Vp,Cz.z1];refine Cx ?_
 repeat' ((first|exact tt|refine na fun b=>?_|refine nb fun b hb=>?_|refine iq ?_|(refine jq ?_ ?_<;>intro h h')|exact wZ|refine Aa ?_ ?_)<;>try refine Cx ?_)
 refine A2 (fun k:Nat=>⟨lk [(0,.sl none 34 (Bn m)),(1,.int .i64 a),(4,.ptr b 0),(5,.bool false),(6,.int .i64 (k:Int))],lk [(b,(default:HdC).cs)]⟩) (fun k=>k≤m.length∧Ac (∀ i,i<k→(m.getD i default).h≠a)) (fun k=>m.length - k) 0 ⟨by omega,by intro i h;omega⟩ (An (by simp[Am,lk,FQ,FS])) ?_
 rintro k ⟨g1,g2⟩
 by_cases hk:k<m.length
 ·have f5:Ac (decide ((k:Int)<m.length)=true):=fo
  by_cases he:(m.getD k default).h=a
  ·have hs:=b2q hk g2 he
   have f6:Ac (decide ((m.getD k default).h=a)=true):=AO he
   rw[hs]
   clear he hs g2
   simp (disch:=omega) only[EH, ↓Ed,Eu, ↓reduceIte,reduceCtorEq,Nat.reduceAdd,Nat.reduceEqDiff,Nat.reduceLT,Nat.reduceLeDiff,Int.reduceToNat,Int.reduceEq,Int.reduceLT,Int.reduceLE,Ap,Ao,Ax,AN,beq_self_eq_true,HdC.cs,Ey,DW,BF,Cw,Co,C6,Dc,HS,HU,Int.reduceAdd,BL,Cc,FQ,FS,EH,J3]
   repeat' ((first|exact tt|refine na fun b=>?_|refine nb fun b hb=>?_|refine iq ?_|(refine jq ?_ ?_<;>intro h h')|exact wZ|refine Aa ?_ ?_)<;>try refine Cx ?_)
   all_goals omega
  ·have f6:Ac (decide ((m.getD k default).h=a)=false):=A0 he
   have hN:Ac (∀ i,i<k+1→(m.getD i default).h≠a):=by
    intro i hi
    by_cases e:i=k
    ·subst e;exact he
    ·exact g2 i (by omega)
   clear he g2
   refine Cx ?_
   repeat' ((first|exact tt|refine na fun b=>?_|refine nb fun b hb=>?_|refine iq ?_|(refine jq ?_ ?_<;>intro h h')|exact wZ|refine Aa ?_ ?_)<;>try refine Cx ?_)
   exact AC (k+1) ⟨An BA,⟨by omega,hN⟩,by omega⟩
 ·have f5:Ac (decide ((k:Int)<m.length)=false):=fo
  have hs:=b2p (m:=m) (a:=a) (fun i hi=>g2 i (by omega))
  rw[hs]
  clear hs g2
  simp (disch:=omega) only[J3, ↓Ed,Eu, ↓reduceIte,reduceCtorEq,Nat.reduceAdd,Nat.reduceEqDiff,Nat.reduceLT,Nat.reduceLeDiff,Int.reduceToNat,Int.reduceEq,Int.reduceLT,Int.reduceLE,Ap,Ao,Ax,AN,beq_self_eq_true,HdC.cs,Ey,DW,BF,Cw,Co,C6,Dc,HS,HU,Int.reduceAdd,BL,Cc,FQ,FS,EH,J3]
  repeat' ((first|exact tt|refine na fun b=>?_|refine nb fun b hb=>?_|refine iq ?_|(refine jq ?_ ?_<;>intro h h')|exact wZ|refine Aa ?_ ?_)<;>try refine Cx ?_)
def D4(m:List HdC)(h:HdC)(told:List HdC):Int:=if Hq h=false then 1 else if h ∉ told then 9 else match BC m h.h with
 | some x=>if x=h then 0 else 8
 | none=>0
theorem XU{x:HdC}:∀ {m:List HdC} {k:Nat},k≤m.length→(∀ i,i<k→(m.getD i default).h<x.h)→(k<m.length→¬ (m.getD k default).h<x.h)→Ft x m=m.take k++[x]++m.drop k
 | [],k,h,_,_=>by simp at h;subst h;rfl
 | y::m,0,_,_,h2=>by
  have:=h2 (by simp)
  simp at this
  unfold Ft
  rw[Ad (by omega)];rfl
 | y::m,k+1,h,h1,h2=>by
  have h0:=h1 0 (by omega)
  simp at h0
  unfold Ft
  rw[Af h0,XU (m:=m) (k:=k) (by simpa using h) (fun i hi=>by simpa using h1 (i+1) (by omega)) (fun hk=>by simpa using h2 (by simpa using hk))]
  simp
def Qz(m:List HdC)(x:HdC):List HdC × Bool:=if (BC m x.h).isSome then (m,false) else (Ft x m,true)
theorem a9Z(m:List HdC)(g:AV)(hg:g.alias=.sl none 34 (Bn m))(hl:m.length≤1000)(x:HdC):
  CP Tryz.prog 68 [g,.agg x.cs] (.tup [.sl none 34 (Bn (Qz m x).1),.bool (Qz m x).2]):=by
 have hm:maxLen=9223372036854775807:=rfl
 have hK:=Zg m (.sl none 34 (Bn m)) rfl hl x.h
 refine a6w _ _ (by simp) ?_
 unfold Qz
 cases hs:(BC m x.h).isSome with
 | true=>
  rw[hs]at hK
  rw[Af rfl]
  clear hs
  simp only[Rl,Cz.z1];refine Cx ?_
  repeat' ((first|exact tt|refine Ab hK ?_|refine na fun b=>?_|refine nb fun b hb=>?_|refine iq ?_|(refine jq ?_ ?_<;>intro h h')|exact wZ|refine Aa ?_ ?_)<;>try refine Cx ?_)
 | false=>
 rw[hs]at hK
 rw[Ad (by simp)]
 clear hs
 simp only[Rl,Cz.z1];refine Cx ?_
 repeat' ((first|exact tt|refine Ab hK ?_|refine na fun b=>?_|refine nb fun b hb=>?_|refine iq ?_|(refine jq ?_ ?_<;>intro h h')|exact wZ|refine Aa ?_ ?_)<;>try refine Cx ?_)
 rename_i b1
 refine A2 (fun k:Nat=>⟨lk [(0,.sl none 34 (Bn m)),(3,.ptr b1 0),(8,.int .i64 (k:Int))],lk [(b1,x.cs)]⟩) (fun k=>k≤m.length∧Ac (∀ i,i<k→(m.getD i default).h<x.h)) (fun k=>m.length - k) 0 ⟨by omega,by intro i h;omega⟩ (An (by simp[Am,lk,hb])) ?_
 rintro k ⟨g1,g2⟩
 have hI:(¬ k<m.length∨¬ (m.getD k default).h<x.h)→(Bn m).take k++[x.cs]++(Bn m).drop k=Bn (Ft x m):=by
  intro he
  rw[XU g1 g2 (fun hk=>he.resolve_left (fun h=>h hk))]
  simp[Bn]
 by_cases hk:k<m.length
 ·have f5:Ac (decide ((k:Int)<m.length)=true):=fo
  by_cases he:(m.getD k default).h<x.h
  ·have f6:Ac (decide ((m.getD k default).h<x.h)=true):=AO he
   have hN:Ac (∀ i,i<k+1→(m.getD i default).h<x.h):=by
    intro i hi
    by_cases e:i=k
    ·subst e;exact he
    ·exact g2 i (by omega)
   clear he g2 hI
   refine Cx ?_
   repeat' ((first|exact tt|refine na fun b=>?_|refine nb fun b hb=>?_|refine iq ?_|(refine jq ?_ ?_<;>intro h h')|exact wZ|refine Aa ?_ ?_)<;>try refine Cx ?_)
   exact AC (k+1) ⟨An BA,⟨by omega,hN⟩,by omega⟩
  ·have f6:Ac (decide ((m.getD k default).h<x.h)=false):=A0 he
   have hI':=hI (.inr he)
   rw[← hI']
   clear he g2 hI hI'
   refine Cx ?_
   repeat' ((first|exact tt|refine na fun b=>?_|refine nb fun b hb=>?_|refine iq ?_|(refine jq ?_ ?_<;>intro h h')|exact wZ|refine Aa ?_ ?_)<;>try refine Cx ?_)
   all_goals (rw[B0 (i:=m.length) (l:=Bn m) (by rw[DW];omega)])
 ·have f5:Ac (decide ((k:Int)<m.length)=false):=fo
  have hI':=hI (.inl hk)
  rw[← hI']
  clear g2 hI hI'
  refine Cx ?_
  repeat' ((first|exact tt|refine na fun b=>?_|refine nb fun b hb=>?_|refine iq ?_|(refine jq ?_ ?_<;>intro h h')|exact wZ|refine Aa ?_ ?_)<;>try refine Cx ?_)
  all_goals (rw[B0 (i:=m.length) (l:=Bn m) (by rw[DW];omega)])
theorem Z9{w W W':World}{row:Option Nat}{e:TypeId}{size k:Nat}{v:Value}{xs:List Value}(h:W.ownsRow w.heap.size e size v k xs)(hg:W.grownBy W' row)(hr:∀ r,row=some r→∃ o:Obj,W.heap[r]?=some o∧o.isCells=false):W'.ownsRow w.heap.size e size v k xs:=by
 refine h.kept hg ?_
 rcases h.2 with ⟨rfl,_⟩ | ⟨g,cap,cur,rfl,_,hgb,_⟩
 ·exact .inl rfl
 ·refine .inr fun e'=>?_
  obtain ⟨o,ho,hc⟩:=hr g (by simpa[Value.ownBlock]using e'.symm)
  rw[hgb]at ho;cases ho;cases hc
section
open Go.RowKit Go.ChangeMaps Go.Sort Go.Shelf
structure ApI {α:Type} (cl:α→List Value) (w:World) (xs:List α) (W:World):Prop where
 box:∃ v,W.heap[w.heap.size]?=some (.cells #[v] 47 (0,0))∧W.ownsRow w.heap.size 31 34 v xs.length (xs.flatMap cl)
 below:Below w.heap.size w W
theorem ApI.own{α:Type}(cl:α→List Value)(w:World)(B:Nat)(hB:w.heap.size≤B):OwnFrom B (ApI cl w):=by
 intro xs W W' row h hg hr
 obtain ⟨v,hv,hrow⟩:=h.box
 refine ⟨⟨v,(grownBy_keeps_cells hg (fun r e=>(hr r e).2) hv rfl).trans hv,Z9 hrow hg fun r e=>(hr r e).2⟩,h.below.grown hg h.below.size fun k e=>En hB (hr k e).1⟩
end
end Go.Proofs.YtfgihnhoocnmdaaGreatDoor
