import Derived.Test.YtfgihnhoocnmdaaGreatDoorJ23
namespace Go.Proofs.YtfgihnhoocnmdaaGreatDoor
set_option linter.all false
set_option maxHeartbeats 64000000
set_option maxRecDepth 100000
open Go.RowKit
section
open Go.RowKit Go.Lib
theorem set_perm{L:List PrP}{k:List UInt8}(h:A9 L k=false)(v:List UInt8):(A7 L k v).Perm ((k,v)::L):=by
 rw[Qb h]
 unfold Dt
 have h1:(L.take (AE L k)++[(k,v)]++L.drop (AE L k)).Perm ((k,v)::(L.take (AE L k)++L.drop (AE L k))):=by
  rw[DC];exact List.perm_middle
 rwa [HN]at h1
theorem X1{w:Int}{p:List UInt8}{c:Int}(hk:4≤w∧w≤7)(hm:Ba p c=true):OfQ (Ah w p c 0) w p c 0:=by
 rcases @ofP_q w p c 0 with h|h
 ·exact absurd h (YI hk hm)
 ·exact h
theorem key_inj{w w':Int}{p p':List UInt8}{c c':Int}(hk:4≤w∧w≤7)(hk':4≤w'∧w'≤7)(hm:Ba p c=true)(hm':Ba p' c'=true)(e:Ah w p c 0=Ah w' p' c' 0):w=w'∧p=p'∧c=c':=by
 have a:=X1 hk hm
 rw[e]at a
 have:=a.inj (X1 hk' hm')
 exact ⟨this.1,this.2.1,this.2.2.1⟩
theorem H4{x:GnC}(h:Dv x=true):Ba x.p x.c=true∧Ba x.q x.d=true∧1≤x.n∧x.n≤1099511627777:=by
 simp only[Dv,AP,Bs]at h
 exact ⟨h.1.1,h.1.2,h.2.1,h.2.2⟩
theorem LZ{x:GnC}(h:Dv x=true):(Fy x).may=true:=by
 have:=H4 h
 simp[Es.may,Fy,this.2.1]
theorem WG:∀ (l:List GnC) (s:List FF),Dr s l=0→(∀ x∈l,Dv x=true∧BP x ∉ s)∧(l.map BP).Nodup
 | [],s,_=>⟨(fun x h=>by cases h),List.nodup_nil⟩
 | x::r,s,h=>by
  rw[Dr]at h
  by_cases h1:Dv x=false
  ·rw[Af h1]at h;cases h
  rw[Ad h1,UB]at h
  by_cases h2:BP x∈s
  ·rw[Af (AO h2)]at h;cases h
  rw[Ad (by simp[h2])]at h
  have ih:=WG r _ h
  refine ⟨fun y hy=>?_, ?_⟩
  ·rcases AZ.1 hy with rfl|hy
   ·exact ⟨by simpa using h1,h2⟩
   ·exact ⟨(ih.1 y hy).1,fun hs=>(ih.1 y hy).2 (List.mem_append_left _ hs)⟩
  ·rw[CX,List.nodup_cons]
   refine ⟨fun hx=>?_,ih.2⟩
   obtain ⟨y,hy,e⟩:=Dp.1 hx
   exact (ih.1 y hy).2 (by rw[e];simp)
structure GoodG (l:List GnC):Prop where
 len:l.length≤6
 ok:∀ i,i<l.length→Dv (l.getD i default)=true
 apart:∀ i j,i<j→j<l.length→BP (l.getD i default)≠BP (l.getD j default)
theorem Sd{l:List GnC}(h:E5 l=0):GoodG l:=by
 unfold E5 at h
 by_cases h6:6<l.length
 ·rw[Af h6]at h;cases h
 rw[Ad h6]at h
 have hz:=WG l [] h
 refine ⟨by omega,fun i hi=>?_,fun i j hij hj=>?_⟩
 ·have e:l.getD i default=l[i]:=by simp[List.getD,hi]
  rw[e];exact (hz.1 _ (Di hi)).1
 ·have e1:l.getD i default=l[i]:=by simp[List.getD,show i<l.length by omega]
  have e2:l.getD j default=l[j]:=by simp[List.getD,hj]
  rw[e1,e2]
  have:=J6.1 hz.2 i j (by simp;omega) (by simpa using hj) hij
  simpa using this
def HJ(x:GnC)(w:Nat):List UInt8:=if w=7 then (Fy x).enc else pn x.n
noncomputable def Lz (x:GnC) (w:Nat):PrP:=(Ah (w:Int) x.p x.c 0,HJ x w)
noncomputable def Jr (l:List GnC):Nat→List PrP
 | 0=>[]
 | i+1=>Lz (l.getD i default) 6::Lz (l.getD i default) 5::Lz (l.getD i default) 4::Lz (l.getD i default) 7::Jr l i
theorem OZ{l:List GnC}{q:PrP}:∀ {i:Nat},q∈Jr l i↔∃ j w,j<i∧(4≤w∧w≤7)∧q=Lz (l.getD j default) w
 | 0=>by simp[Jr]
 | i+1=>by
  simp only[Jr,AZ,OZ (i:=i)]
  constructor
  ·rintro (h|h|h|h | ⟨j,w,h1,h2,h3⟩)
   ·exact ⟨i,6,by omega,by omega,h⟩
   ·exact ⟨i,5,by omega,by omega,h⟩
   ·exact ⟨i,4,by omega,by omega,h⟩
   ·exact ⟨i,7,by omega,by omega,h⟩
   ·exact ⟨j,w,by omega,h2,h3⟩
  ·rintro ⟨j,w,h1,h2,h3⟩
   by_cases e:j=i
   ·subst e
    obtain rfl|rfl|rfl|rfl:w=4∨w=5∨w=6∨w=7:=by omega
    ·exact .inr (.inr (.inl h3))
    ·exact .inr (.inl h3)
    ·exact .inl h3
    ·exact .inr (.inr (.inr (.inl h3)))
   ·exact .inr (.inr (.inr (.inr ⟨j,w,by omega,h2,h3⟩)))
theorem W9{x:GnC}(h:Dv x=true):Cd (Fy x)=((Fy x).enc,0):=by simp[Cd,LZ h]
theorem Pn{L S:List PrP}(hr:DT L)(hp:L.Perm S){k v:List UInt8}(hk:∀ q∈S,q.1≠k):DT (A7 L k v)∧(A7 L k v).Perm ((k,v)::S):=by
 have hh:A9 L k=false:=by
  cases h:A9 L k with
  | false=>rfl
  | true=>exact absurd rfl (hk _ (hp.mem_iff.1 (Sa h)))
 exact ⟨Qc hr k v,(set_perm hh v).trans (hp.cons _)⟩
theorem Pe{l:List GnC}(g:GoodG l):∀ {i:Nat},i≤l.length→DT (Bm l i)∧(Bm l i).Perm (Jr l i)
 | 0,_=>⟨Z2,List.Perm.refl _⟩
 | i+1,hi=>by
  obtain ⟨h1,h2⟩:=Pe g (i:=i) (by omega)
  have hok:=H4 (g.ok i (by omega))
  have hold:∀ w:Nat,4≤w∧w≤7→∀ q∈Jr l i,q.1≠Ah (w:Int) (l.getD i default).p (l.getD i default).c 0:=by
   rintro w hw q hq e
   obtain ⟨j,w',hj,hw',rfl⟩:=OZ.1 hq
   have:=key_inj (by omega) (by omega) (H4 (g.ok j (by omega))).1 hok.1 e
   exact g.apart j i hj (by omega) (by simp only[BP];rw[this.2.1,this.2.2])
  have hnew:∀ w w':Nat,4≤w∧w≤7→4≤w'∧w'≤7→w≠w'→(Lz (l.getD i default) w).1≠Ah (w':Int) (l.getD i default).p (l.getD i default).c 0:=by
   rintro w w' hw hw' hne e
   have:=key_inj (by omega) (by omega) hok.1 hok.1 e
   omega
  have e7:E8 (Bm l i) (l.getD i default)=A7 (Bm l i) (Ah ((7:Nat):Int) (l.getD i default).p (l.getD i default).c 0) (HJ (l.getD i default) 7):=by
   unfold E8 HJ;rw[W9 (g.ok i (by omega)),Af rfl];rfl
  have s7:=Pn h1 h2 (v:=HJ (l.getD i default) 7) (hold 7 (by omega))
  rw[← e7]at s7
  have s4:=Pn s7.1 s7.2 (k:=Ah ((4:Nat):Int) (l.getD i default).p (l.getD i default).c 0) (v:=pn (l.getD i default).n) (fun q hq=>by
   rcases AZ.1 hq with rfl|hq
   ·exact hnew 7 4 (by omega) (by omega) (by omega)
   ·exact hold 4 (by omega) q hq)
  have s5:=Pn s4.1 s4.2 (k:=Ah ((5:Nat):Int) (l.getD i default).p (l.getD i default).c 0) (v:=pn (l.getD i default).n) (fun q hq=>by
   rcases AZ.1 hq with rfl|hq
   ·exact hnew 4 5 (by omega) (by omega) (by omega)
   rcases AZ.1 hq with rfl|hq
   ·exact hnew 7 5 (by omega) (by omega) (by omega)
   ·exact hold 5 (by omega) q hq)
  have s6:=Pn s5.1 s5.2 (k:=Ah ((6:Nat):Int) (l.getD i default).p (l.getD i default).c 0) (v:=pn (l.getD i default).n) (fun q hq=>by
   rcases AZ.1 hq with rfl|hq
   ·exact hnew 5 6 (by omega) (by omega) (by omega)
   rcases AZ.1 hq with rfl|hq
   ·exact hnew 4 6 (by omega) (by omega) (by omega)
   rcases AZ.1 hq with rfl|hq
   ·exact hnew 7 6 (by omega) (by omega) (by omega)
   ·exact hold 6 (by omega) q hq)
  exact s6
theorem R3(l:List GnC):∀ i,(Jr l i).length=4 * i
 | 0=>rfl
 | i+1=>by simp only[Jr,AJ,R3 l i];omega
theorem Sg{l:List GnC}(g:GoodG l){i:Nat}(hi:i≤l.length):StI (Bm l i):=by
 obtain ⟨h1,h2⟩:=Pe g hi
 refine ⟨h1,fun q hq=>?_, ?_⟩
 ·obtain ⟨j,w,hj,hw,rfl⟩:=OZ.1 (h2.mem_iff.1 hq)
  have ho:=g.ok j (by omega)
  have hp:=H4 ho
  show B3 (Ah (w:Int) (l.getD j default).p (l.getD j default).c 0) (HJ (l.getD j default) w)=true
  rw[SG (by omega),hp.1]
  unfold HJ
  split
  ·exact ⟨R1 (LZ ho),R0 (LZ ho)⟩
  ·exact ⟨PX _ (by omega),by have:=C5 (l.getD j default).n;omega⟩
 ·have:=h2.length_eq
  rw[R3]at this
  have:=g.len
  omega
theorem Pd{l:List GnC}(g:GoodG l){i:Nat}(hi:i≤l.length):(Bm l i).length=4 * i:=by
 rw[(Pe g hi).2.length_eq,R3]
theorem XT{l:List GnC}(g:GoodG l){i j:Nat}(hi:i≤l.length)(hj:j<i){w:Nat}(hw:4≤w∧w≤7):
  A9 (Bm l i) (Ah (w:Int) (l.getD j default).p (l.getD j default).c 0)=true∧C2 (Bm l i) (Ah (w:Int) (l.getD j default).p (l.getD j default).c 0)=HJ (l.getD j default) w:=by
 obtain ⟨h1,h2⟩:=Pe g hi
 exact SJ h1 (h2.mem_iff.2 (OZ.2 ⟨j,w,hj,hw,rfl⟩))
theorem a4A{l:List GnC}(g:GoodG l){i j:Nat}(hi:i≤l.length)(hj:j<i):Av (Bm l i) (l.getD j default).p (l.getD j default).c=(Fy (l.getD j default),true):=by
 have h:=XT g hi hj (w:=7) (by omega)
 have e:((7:Nat):Int)=7:=rfl
 rw[e]at h
 unfold Av
 rw[h.1,h.2]
 have:HJ (l.getD j default) 7=(Fy (l.getD j default)).enc:=by unfold HJ;rw[Af rfl]
 rw[this,a2V (LZ (g.ok j (by omega)))]
 simp
theorem a4B{l:List GnC}(g:GoodG l){i j:Nat}(hi:i≤l.length)(hj:j<i){w:Nat}(hw:4≤w∧w≤6):Fg (Bm l i) (w:Int) (l.getD j default).p (l.getD j default).c=(l.getD j default).n:=by
 have h:=XT g hi hj (w:=w) (by omega)
 have hn:=H4 (g.ok j (by omega))
 have hx:=PF [] [] (l.getD j default).n (by omega)
 simp only[Bj,Jb,AY]at hx
 have hv:HJ (l.getD j default) w=pn (l.getD j default).n:=by unfold HJ;rw[Ad (by omega)]
 have hx':nx (pn (l.getD j default).n) 0=((l.getD j default).n,((pn (l.getD j default).n).length:Int),0):=hx
 unfold Fg
 rw[h.2,hv,hx',Af]
 refine ⟨?_,rfl,by simp⟩
 simp only[EC,AP,Bs];omega
end
section
open Go.RowKit Go.Lib
theorem WW(e:List GnC)(h:e.length≤10):StB (ID e) 40:=by
 unfold ID
 split
 ·rename_i hz
  have g:=Sd hz
  exact ⟨Sg g (A8 _),by rw[Pd g (A8 _)];omega⟩
 ·exact nil_B.mono (by omega)
theorem a3g{x:GvC}(hx:HY x):StB (Nh x) 90:=by
 obtain ⟨⟨e1, -⟩,k1,⟨m1, -⟩, -⟩:=hx
 unfold Nh
 have h1:=Sm (WW x.e e1) x.k (i:=x.k.length) (by omega)
 exact (NA h1 x.m (i:=x.m.length) (by omega)).mono (by omega)
structure EdC where
 p:List UInt8
 c:Int
 deriving Inhabited
section
variable {P:Program} {d:Option Nat} {s:St} {K:St→Prop}
theorem c4{f:Nat}{vs:List AV}{r:AV}{b c e g:Nat}{x y z w:List AV}{o2:List (Nat × List AV)}(h:CT P f vs (lk [(b,x),(c,y),(e,z),(g,w)]) (fun r' o'=>r'=r∧o'=lk o2))(hK:KS (St.put ⟨s.t,BG o2 s.o⟩ d r) K)(h1:s.o b=some x∧s.o c=some y∧s.o e=some z∧s.o g=some w):Dg P f vs d s K:=
 KY h (fun q cs hq=>by
  rw[lk_cons]at hq
  by_cases hb:q=b
  ·subst hb;rw[Af rfl]at hq;rw[h1.1,hq]
  ·rw[Ad hb]at hq;exact Pr h1.2.1 h1.2.2.1 h1.2.2.2 q cs hq) hK
end
end
theorem B5{A B:Prop}(h:B)(e:A=B:=by (simp (disch:=omega) only[*, ↓Ed,Eu, ↓reduceIte,reduceCtorEq,Nat.reduceAdd,Nat.reduceEqDiff,Nat.reduceLT,Nat.reduceLeDiff,Int.reduceToNat,Int.reduceEq,Int.reduceLT,Int.reduceLE,Ap,Ao,Ax,AJ,AY,Int.reduceAdd,AH,AN,PktC.cs,Es.cs, ↓H1, ↓Gj,DZ,C4,eqC_i,eqC_s,eqC_nil,oand_some];first|done|rfl)):A:=e▸h
theorem PT(m:MsgC)(e:Es):CP Tryz.prog 103 [.agg (AD m),.agg e.cs] (.int .i64 (IL m e.o)):=by
 obtain ⟨e1,e2,e3,e4,e5⟩:=e
 refine a5T _ _ (by simp) ?_
 unfold IL
 cases e3
 ·cases h1:decide (m.nx=0)
  ·rw[Af rfl]
   simp only[Li];refine B5 ?_
   repeat' ((first|exact tt|refine na fun b=>?_|refine nb fun b hb=>?_|refine iq ?_|(refine jq ?_ ?_<;>intro h h')|exact wZ|refine Aa ?_ ?_)<;>try refine B5 ?_)
  ·rw[Ad (by simp),Ad (by simp)]
   simp only[Li];refine B5 ?_
   repeat' ((first|exact tt|refine na fun b=>?_|refine nb fun b hb=>?_|refine iq ?_|(refine jq ?_ ?_<;>intro h h')|exact wZ|refine Aa ?_ ?_)<;>try refine B5 ?_)
 ·cases h1:decide (m.nx=0)
  ·rw[Ad (by simp)]
   by_cases h2:m.p.q<m.nx
   ·have f2:Ac (decide (m.p.q<m.nx)=true):=AO h2
    rw[Af ⟨rfl,h2⟩]
    simp only[Li];refine B5 ?_
    repeat' ((first|exact tt|refine na fun b=>?_|refine nb fun b hb=>?_|refine iq ?_|(refine jq ?_ ?_<;>intro h h')|exact wZ|refine Aa ?_ ?_)<;>try refine B5 ?_)
   ·have f2:Ac (decide (m.p.q<m.nx)=false):=A0 h2
    rw[Ad (fun h=>h2 h.2)]
    simp only[Li];refine B5 ?_
    repeat' ((first|exact tt|refine na fun b=>?_|refine nb fun b hb=>?_|refine iq ?_|(refine jq ?_ ?_<;>intro h h')|exact wZ|refine Aa ?_ ?_)<;>try refine B5 ?_)
  ·rw[Af rfl]
   simp only[Li];refine B5 ?_
   repeat' ((first|exact tt|refine na fun b=>?_|refine nb fun b hb=>?_|refine iq ?_|(refine jq ?_ ?_<;>intro h h')|exact wZ|refine Aa ?_ ?_)<;>try refine B5 ?_)
theorem a8y(d:List UInt8)(hd:d.length≤1000000):CP Tryz.prog 99 [.str d] (.str (E2 d)):=by
 refine a5H _ _ (by simp) ?_
 cases d with
 | nil=>
  have f1:Ac (decide (([]:List UInt8)=[])=true):=rfl
  unfold E2
  simp only[OC];refine B5 ?_
  repeat' ((first|exact tt|refine na fun b=>?_|refine nb fun b hb=>?_|refine iq ?_|(refine jq ?_ ?_<;>intro h h')|exact wZ|refine Aa ?_ ?_)<;>try refine B5 ?_)
 | cons c r=>
  have f1:Ac (decide ((c::r)=[])=false):=rfl
  have hH:=a8I (c::r) [33]
  have e:Lib.hasPrefix (c::r) [33]=decide (c=33):=by
   rw[FE]
   simp[Lib.hasPrefix,List.isPrefixOf]
   exact eq_comm
  rw[e]at hH
  clear e
  rw[show E2 (c::r)=if c=33 then [110,111] else [111,107,58]++(c::r).take 29 from rfl]
  by_cases hc:c=33
  ·rw[Af hc]
   rw[AO hc]at hH
   subst hc
   simp only[OC];refine B5 ?_
   repeat' ((first|exact tt|refine Ab hH ?_|refine na fun b=>?_|refine nb fun b hb=>?_|refine iq ?_|(refine jq ?_ ?_<;>intro h h')|exact wZ|refine Aa ?_ ?_)<;>try refine B5 ?_)
  ·rw[Ad hc]
   rw[A0 hc]at hH
   have f2:Ac (0≤min ((c::r).length:Int) 29∧min ((c::r).length:Int) 29≤(c::r).length):=by simp only[Ac,AJ];omega
   have e2:(c::r).take (min ((c::r).length:Int) 29).toNat=(c::r).take 29:=by
    rw[List.take_eq_take_iff,AJ];omega
   generalize (c::r)=q at *
   simp only[OC];refine B5 ?_
   repeat' ((first|exact tt|refine Ab hH ?_|refine na fun b=>?_|refine nb fun b hb=>?_|refine iq ?_|(refine jq ?_ ?_<;>intro h h')|exact wZ|refine Aa ?_ ?_)<;>try refine B5 ?_)
   have e3:(if (29:Int)<(q.length:Int) then 29 else (q.length:Int)).toNat=min 29 q.length:=by split<;>omega
   rw[e3]
   refine ⟨by rw[BL];omega, ?_⟩
   congr 1
   rw[List.take_eq_take_iff];omega
theorem a1d(s cl:Nat)(L:List PrP)(hI:StI L)(p:PktC)(e:Es)(ht tm:Int)(told:List HdC)(hp:p.d.length≤1000000)(x:Bl)(hx:stOk s L x):
  CT Tryz.prog 97 [Ds s cl ht tm told,.agg p.cs,.agg e.cs] (lk (AF s L x)) (fun r o=>r=.int .i64 (LE L p e.o)∧o=lk (AF s L x)):=by
 have hN:=Qs s L hI 5 p.d p.dc hp x hx
 have hO:=D8 2 p.d p.dc p.q hp
 have hG:=Qt s L hI.rise (by have:=hI.len;omega) (Ah 2 p.d p.dc p.q) x hx
 have hgs:=hx.d
 clear hI hx hp
 obtain ⟨e1,e2,e3,e4,e5⟩:=e
 refine a7U _ _ _ (by simp) ?_
 unfold LE
 generalize Fg L 5 p.d p.dc=nn at *
 generalize Ah 2 p.d p.dc p.q=key at *
 generalize C2 L key=kv at *
 generalize A9 L key=hh at *
 cases e3
 ·rw[Ad (by simp)]
  cases hh
  all_goals rcases x with _ | ⟨g,cap⟩
  all_goals simp only[B4,Bq,Ce,AA]at hgs hG ⊢
  all_goals (simp only[Na];refine B5 ?_;try exact tt)
  all_goals repeat' ((first|exact tt|refine Ab hO ?_|refine c1 hG ?_|refine c2 hG ?_|refine na fun b=>?_|refine nb fun b hb=>?_|refine iq ?_|(refine jq ?_ ?_<;>intro h h')|exact wZ|refine Aa ?_ ?_)<;>try refine B5 ?_)
  all_goals exact AG KI (A6 _)
 ·rw[Af rfl]
  rcases Int.lt_trichotomy p.q nn with h1|h1|h1
  ·rw[Af h1]
   have f1:Ac (decide (p.q<nn)=true):=AO h1
   all_goals rcases x with _ | ⟨g,cap⟩
   all_goals simp only[B4,Bq,Ce,AA]at hgs hN ⊢
   all_goals (simp only[Na];refine B5 ?_;try exact tt)
   all_goals repeat' ((first|exact tt|refine c1 hN ?_|refine c2 hN ?_|refine na fun b=>?_|refine nb fun b hb=>?_|refine iq ?_|(refine jq ?_ ?_<;>intro h h')|exact wZ|refine Aa ?_ ?_)<;>try refine B5 ?_)
   all_goals exact AG KI (A6 _)
  ·rw[Ad (by omega),Ad (by omega)]
   have f1:Ac (decide (p.q<nn)=false):=A0 (by omega)
   have f2:Ac (decide (nn<p.q)=false):=A0 (by omega)
   all_goals rcases x with _ | ⟨g,cap⟩
   all_goals simp only[B4,Bq,Ce,AA]at hgs hN ⊢
   all_goals (simp only[Na];refine B5 ?_;try exact tt)
   all_goals repeat' ((first|exact tt|refine c1 hN ?_|refine c2 hN ?_|refine na fun b=>?_|refine nb fun b hb=>?_|refine iq ?_|(refine jq ?_ ?_<;>intro h h')|exact wZ|refine Aa ?_ ?_)<;>try refine B5 ?_)
   all_goals exact AG KI (A6 _)
  ·rw[Ad (by omega),Af h1]
   have f1:Ac (decide (p.q<nn)=false):=A0 (by omega)
   have f2:Ac (decide (nn<p.q)=true):=AO h1
   all_goals rcases x with _ | ⟨g,cap⟩
   all_goals simp only[B4,Bq,Ce,AA]at hgs hN ⊢
   all_goals (simp only[Na];refine B5 ?_;try exact tt)
   all_goals repeat' ((first|exact tt|refine c1 hN ?_|refine c2 hN ?_|refine na fun b=>?_|refine nb fun b hb=>?_|refine iq ?_|(refine jq ?_ ?_<;>intro h h')|exact wZ|refine Aa ?_ ?_)<;>try refine B5 ?_)
   all_goals exact AG KI (A6 _)
theorem a1c(s cl:Nat)(L:List PrP)(hI:StI L)(p:PktC)(ht tm:Int)(told:List HdC)(hp:p.s.length≤1000000)(x:Bl)(hx:stOk s L x):
  CT Tryz.prog 102 [Ds s cl ht tm told,.agg p.cs] (lk (AF s L x)) (fun r o=>r=.tup []∧o=lk (AF s (DF L (Ah 1 p.s p.sc p.q)) x)):=by
 have hO:=D8 1 p.s p.sc p.q hp
 have hD:=b3i s L hI (Ah 1 p.s p.sc p.q) x hx
 have hgs:=hx.d
 clear hI hx hp
 generalize Ah 1 p.s p.sc p.q=key at *
 generalize A9 L key=hh at *
 generalize DF L key=L2 at *
 refine a7T _ _ _ (by simp) ?_
 rcases x with _ | ⟨g,cap⟩
 all_goals simp only[B4,Bq,Ce,AA]at hgs hD ⊢
 all_goals (simp only[U6];refine B5 ?_;try exact tt)
 all_goals repeat' ((first|exact tt|refine Ab hO ?_|refine c1 hD ?_|refine c2 hD ?_|refine na fun b=>?_|refine nb fun b hb=>?_|refine iq ?_|(refine jq ?_ ?_<;>intro h h')|exact wZ|refine Aa ?_ ?_)<;>try refine B5 ?_)
 all_goals
  refine AG ?_ (Lv rfl)
  simp[Am,lk,BR,Br, *]
def zE:Es:=⟨[],0,false,false,0⟩
noncomputable def EK (L:List PrP) (p:PktC):Es:=if DX L p=0 then (Av L p.s p.sc).1 else zE
theorem MF(s cl:Nat)(L:List PrP)(hI:StI L)(p:PktC)(ht tm:Int)(told:List HdC)(hm:BO p=true)(h1:p.s.length≤1000000)(h2:p.d.length≤1000000)(h3:p.x.length≤1000000)(x:Bl)(hx:stOk s L x):
  CT Tryz.prog 101 [Ds s cl ht tm told,.agg p.cs] (lk (AF s L x)) (fun r o=>r=.tup [.agg (EK L p).cs,.int .i64 (DX L p)]∧o=lk (AF s L x)):=by
 have hE:=N4 s L hI p.s p.sc h1 x hx
 have hO:=D8 1 p.s p.sc p.q h1
 have hG:=Qt s L hI.rise (by have:=hI.len;omega) (Ah 1 p.s p.sc p.q) x hx
 have hK:=PP p h1 h2 h3 hm
 have hgs:=hx.d
 clear hI hx h1 h2 h3 hm
 unfold EK
 obtain ⟨H,hH⟩:∃ H,H=DX L p:=⟨_,rfl⟩
 rw[← hH]
 unfold DX at hH
 generalize Cg p=kp at *
 generalize Ah 1 p.s p.sc p.q=key at *
 generalize C2 L key=kv at *
 generalize A9 L key=hh at *
 generalize Av L p.s p.sc=G at *
 obtain ⟨⟨g1,g2,g3,g4,g5⟩,g6⟩:=G
 simp only at hE hH ⊢
 refine a7V _ _ _ (by simp) ?_
 have f0:zE.cs=[.str [],.int .i64 0,.bool false,.bool false,.int .i64 0]:=rfl
 cases g6
 ·obtain rfl:H=11:=by rw[hH];simp
  clear hH
  rw[Ad (by omega),f0]
  rcases x with _ | ⟨g,cap⟩
  all_goals simp only[B4,Bq,Ce,AA]at hgs hE ⊢
  all_goals (simp only[Lh];refine B5 ?_;try exact tt)
  all_goals repeat' ((first|exact tt|refine c1 hE ?_|refine c2 hE ?_|refine na fun b=>?_|refine nb fun b hb=>?_|refine iq ?_|(refine jq ?_ ?_<;>intro h h')|exact wZ|refine Aa ?_ ?_)<;>try refine B5 ?_)
  all_goals exact AG qa (A6 _)
 by_cases hd:g1=p.d∧g2=p.dc
 rotate_left
 ·obtain rfl:H=11:=by rw[hH,Af (.inr hd)]
  clear hH
  rw[Ad (by omega),f0]
  have hq:(decide (g1=p.d)&&decide (g2=p.dc))=false:=by simpa using hd
  clear hd
  rcases x with _ | ⟨g,cap⟩
  all_goals simp only[B4,Bq,Ce,AA]at hgs hE ⊢
  all_goals (simp only[Lh];refine B5 ?_;try exact tt)
  all_goals repeat' ((first|exact tt|refine c1 hE ?_|refine c2 hE ?_|refine na fun b=>?_|refine nb fun b hb=>?_|refine iq ?_|(refine jq ?_ ?_<;>intro h h')|exact wZ|refine Aa ?_ ?_)<;>try refine B5 ?_)
  all_goals exact AG qa (A6 _)
 obtain ⟨rfl,rfl⟩:=hd
 rw[Ad (by simp)]at hH
 cases hh
 ·obtain rfl:H=17:=by rw[hH];simp
  clear hH
  rw[Ad (by omega),f0]
  rcases x with _ | ⟨g,cap⟩
  all_goals simp only[B4,Bq,Ce,AA]at hgs hE hG ⊢
  all_goals (simp only[Lh];refine B5 ?_;try exact tt)
  all_goals repeat' ((first|exact tt|refine c1 hE ?_|refine c2 hE ?_|refine c1 hG ?_|refine c2 hG ?_|refine Ab hO ?_|refine na fun b=>?_|refine nb fun b hb=>?_|refine iq ?_|(refine jq ?_ ?_<;>intro h h')|exact wZ|refine Aa ?_ ?_)<;>try refine B5 ?_)
  all_goals exact AG qa (A6 _)
 by_cases hk:kv=kp
 ·obtain rfl:H=0:=by rw[hH,Ad (by simp[hk])]
  clear hH
  rw[Af rfl]
  have f1:Ac (decide (kv=kp)=true):=AO hk
  clear hk
  rcases x with _ | ⟨g,cap⟩
  all_goals simp only[B4,Bq,Ce,AA]at hgs hE hG ⊢
  all_goals (simp only[Lh];refine B5 ?_;try exact tt)
  all_goals repeat' ((first|exact tt|refine c1 hE ?_|refine c2 hE ?_|refine c1 hG ?_|refine c2 hG ?_|refine Ab hO ?_|refine Ab hK ?_|refine na fun b=>?_|refine nb fun b hb=>?_|refine iq ?_|(refine jq ?_ ?_<;>intro h h')|exact wZ|refine Aa ?_ ?_)<;>try refine B5 ?_)
  all_goals exact AG qa (A6 _)
 ·obtain rfl:H=17:=by rw[hH,Af (.inr hk)]
  clear hH
  rw[Ad (by omega),f0]
  have f1:Ac (decide (kv=kp)=false):=A0 hk
  clear hk
  rcases x with _ | ⟨g,cap⟩
  all_goals simp only[B4,Bq,Ce,AA]at hgs hE hG ⊢
  all_goals (simp only[Lh];refine B5 ?_;try exact tt)
  all_goals repeat' ((first|exact tt|refine c1 hE ?_|refine c2 hE ?_|refine c1 hG ?_|refine c2 hG ?_|refine Ab hO ?_|refine Ab hK ?_|refine na fun b=>?_|refine nb fun b hb=>?_|refine iq ?_|(refine jq ?_ ?_<;>intro h h')|exact wZ|refine Aa ?_ ?_)<;>try refine B5 ?_)
  all_goals exact AG qa (A6 _)
theorem Pw{p:PfC}(h:D7 p=true):(0≤p.c∧p.c≤1073741824∧p.l.length≤2)∧∀ i,i<p.l.length→(ET (p.l.getD i default).k (p.l.getD i default).v=true∧0≤(p.l.getD i default).i∧(p.l.getD i default).i<p.c∧(p.l.getD i default).p.length=BU p.c.toNat (p.l.getD i default).i.toNat):=by
 simp only[D7,AP,Bs,Ew]at h
 refine ⟨h.1,fun i hi=>?_⟩
 have:=h.2 (p.l.getD i default) (by rw[List.getD,Aw hi];exact Di hi)
 simp only[Hr,AP,Bs]at this
 exact ⟨this.1,this.2.1.1,this.2.1.2,this.2.2⟩
theorem JS{A B:Prop}(h:B)(e:A=B:=by (simp (disch:=omega) only[*, ↓Ed,Eu, ↓reduceIte,reduceCtorEq,Nat.reduceAdd,Nat.reduceEqDiff,Nat.reduceLT,Nat.reduceLeDiff,Int.reduceToNat,Int.reduceEq,Int.reduceLT,Int.reduceLE,Ap,Ao,Ax,AJ,AY,Int.reduceAdd,AH,AN,Cm,Fc,Fv,Ca,BZ];first|done|rfl)):A:=e▸h
theorem ZI(r:List Int)(hr:r.length=32)(p:PfC)(hp:Bw p)(hm:D7 p=true):CP Tryz.prog 166 [.agg (rI r),.agg p.cs] (.bool (p.l.all (ED r p.c))):=by
 obtain ⟨⟨h0,h1,h2⟩,hl⟩:=Pw hm
 obtain ⟨c,l⟩:=p
 obtain ⟨hl0,hs⟩:=hp
 simp only at h0 h1 h2 hl hl0 hs ⊢
 clear hm
 obtain ⟨n,rfl⟩:∃ n:Nat,c=(n:Int):=⟨c.toNat,by omega⟩
 refine a7n _ _ (by simp) ?_
 rw[show (PfC.mk (n:Int) l).cs=[.int .i64 (n:Int),.sl none 4 (BW none l)] from rfl]
 obtain ⟨y1,y2,y3,y4⟩:=P3 hr
 have hEq:=fun (a:Hs) (ha:a.length=32)=>Xd a r ha hr
 change ∀ (a:Hs),a.length=32→Bb Om (Ae a) (rI r)=_ at hEq
 generalize hRR:rI r=RR at *
 simp only[V2,Cz.z2];refine JS ?_
 repeat' ((first|exact tt|refine na fun b=>?_|refine nb fun b hb=>?_|refine iq ?_|(refine jq ?_ ?_<;>intro h h')|exact wZ|refine Aa ?_ ?_)<;>try refine JS ?_)
 rename_i b1
 refine A2 (fun k:Nat=>⟨lk [(2,.ptr b1 0),(3,.ptr b 0),(10,.sl none 4 (BW none l)),(11,.int .i64 (l.length:Int)),(12,.int .i64 (k:Int))],lk [(b,[.int .i64 (n:Int),.sl none 4 (BW none l)]),(b1,RR)]⟩) (fun k=>k≤l.length∧Ac ((l.take k).all (ED r n)=true)) (fun k=>l.length - k) 0 ⟨by omega,rfl⟩ (An qd) ?_
 rintro k ⟨g1,g2⟩
 by_cases hk:k<l.length
 rotate_left
 ·have f5:Ac (decide ((k:Int)<l.length)=false):=fo
  have:l.all (ED r n)=true:=by
   have:=show (l.take k).all (ED r n)=true from g2
   rwa [B0 (by omega)]at this
  rw[this]
  clear g2 this hs hl hEq
  refine JS ?_
  repeat' ((first|exact tt|refine na fun b=>?_|refine nb fun b hb=>?_|refine iq ?_|(refine jq ?_ ?_<;>intro h h')|exact wZ|refine Aa ?_ ?_)<;>try refine JS ?_)
 have f5:Ac (decide ((k:Int)<l.length)=true):=fo
 obtain ⟨s1,s2,s3⟩:=hs k hk
 obtain ⟨t1,t2,t3,t4⟩:=hl k hk
 have hN:ED r n (l.getD k default)=true→Ac ((l.take (k+1)).all (ED r n)=true):=fun h=>by
  show _=_
  rw[Ux _ hk,show (l.take k).all (ED r n)=true from g2,h];rfl
 have hF:ED r n (l.getD k default)=false→l.all (ED r n)=false:=fun h=>Uw hk h
 clear g2 hs hl
 obtain ⟨⟨xk,xv,xi,xp,x32⟩,hx⟩:∃ x,l.getD k default=x:=⟨_,rfl⟩
 rw[hx]at hN hF s1 s2 s3 t1 t2 t3 t4
 simp only at s1 s2 s3 t1 t2 t3 t4
 obtain ⟨i,rfl⟩:∃ i:Nat,xi=(i:Int):=⟨xi.toNat,by omega⟩
 rw[Dh,Dh]at t4
 have hL:=a9y xk xv (by omega) (by omega)
 have hFo:=a9x n i (DG xk xv) xp (by omega) (by omega) t4 (Ks _ _) x32
 have hfl:=O4 (way:=xp) (Ks xk xv) xp.length n i
 have hRo:=Zw n (Cl xp (DG xk xv) xp.length n i) hfl (by omega)
 have hE:=hEq (DJ n (Cl xp (DG xk xv) xp.length n i)) (JJ _ _)
 rw[show ED r (n:Int) ⟨xk,xv,(i:Int),xp,x32⟩=decide (hI (DJ n (Cl xp (DG xk xv) xp.length n i))=r) by simp only[ED,Dh]]at hN hF
 obtain ⟨v1,v2,v3,v4⟩:=BN (Ks xk xv)
 obtain ⟨u1,u2,u3,u4⟩:=BN hfl
 obtain ⟨w1,w2,w3,w4⟩:=BN (JJ n (Cl xp (DG xk xv) xp.length n i))
 clear hEq hfl
 generalize decide (hI (DJ n (Cl xp (DG xk xv) xp.length n i))=r)=D at *
 generalize Ae (DJ n (Cl xp (DG xk xv) xp.length n i))=A at *
 generalize Ae (Cl xp (DG xk xv) xp.length n i)=B at *
 generalize Ae (DG xk xv)=Z at *
 have hlp:=Cm xp
 generalize hX:AL xp=X at *
 cases D with
 | true=>
  have hN1:=hN rfl
  clear hN hF
  refine JS ?_
  repeat' ((first|exact tt|refine Ab hL ?_|refine Ag hL ?_|refine Ab hFo ?_|refine Ag hFo ?_|refine Ab hRo ?_|refine Ag hRo ?_|refine na fun b=>?_|refine nb fun b hb=>?_|refine iq ?_|(refine jq ?_ ?_<;>intro h h')|exact wZ|refine Aa ?_ ?_)<;>try refine JS ?_)
  all_goals exact AC (k+1) ⟨An qd,⟨by omega,hN1⟩,by omega⟩
 | false=>
  have hF1:=hF rfl
  rw[hF1]
  clear hN hF
  refine JS ?_
  repeat' ((first|exact tt|refine Ab hL ?_|refine Ag hL ?_|refine Ab hFo ?_|refine Ag hFo ?_|refine Ab hRo ?_|refine Ag hRo ?_|refine na fun b=>?_|refine nb fun b hb=>?_|refine iq ?_|(refine jq ?_ ?_<;>intro h h')|exact wZ|refine Aa ?_ ?_)<;>try refine JS ?_)
theorem ES{A B:Prop}(h:B)(e:A=B:=by (simp (disch:=omega) only[*, ↓Ed,Eu, ↓reduceIte,reduceCtorEq,Nat.reduceAdd,Nat.reduceEqDiff,Nat.reduceLT,Nat.reduceLeDiff,Int.reduceToNat,Int.reduceEq,Int.reduceLT,Int.reduceLE,Ap,Ao,Ax,AJ,AY,Int.reduceAdd,AH,AN,Cm,Fc,Fv,Ca,BZ];first|done|rfl)):A:=e▸h
theorem Tn(r:List Int)(hr:r.length=32)(p:PfC)(hp:Bw p)(key:List UInt8):CP Tryz.prog 105 [.agg (rI r),.agg p.cs,.str key] (.tup [.str ((DO r p key).getD []),.bool (DO r p key).isSome]):=by
 have hM:=PS p hp
 obtain ⟨y1,y2,y3,y4⟩:=P3 hr
 refine a7k _ _ (by simp) ?_
 cases hm:D7 p with
 | false=>
  rw[hm]at hM
  rw[show DO r p key=none by simp[DO,hm]]
  rw[show p.cs=[.int .i64 p.c,.sl none 4 (BW none p.l)] from rfl]at hM ⊢
  generalize rI r=RR at *
  simp (disch:=omega) only[Lo,G8,J3, ↓Ed,Eu, ↓reduceIte,reduceCtorEq,Nat.reduceAdd,Nat.reduceEqDiff,Nat.reduceLT,Nat.reduceLeDiff,Int.reduceToNat,Int.reduceEq,Int.reduceLT,Int.reduceLE,Ap,Ao,Ax,AJ,AY,Int.reduceAdd,AH,AN,Cm,Fc,Fv,Ca,BZ]
  repeat' ((first|exact tt|refine Ab hM ?_|refine na fun b=>?_|refine nb fun b hb=>?_|refine iq ?_|(refine jq ?_ ?_<;>intro h h')|exact wZ|refine Aa ?_ ?_)<;>try refine ES ?_)
 | true=>
  rw[hm]at hM
  have hU:=ZI r hr p hp hm
  obtain ⟨⟨a1,a2,a3⟩, -⟩:=Pw hm
  have hv:DO r p key=if p.l.length=1∧(p.l.getD 0 default).k=key∧ED r p.c (p.l.getD 0 default)=true then some (p.l.getD 0 default).v else none:=by simp[DO,hm]
  rw[hv]
  obtain ⟨c,l⟩:=p
  rw[show (PfC.mk c l).cs=[.int .i64 c,.sl none 4 (BW none l)] from rfl]at *
  simp only at a1 a2 a3 hU ⊢
  clear hv hm hp
  by_cases h1:l.length=1
  rotate_left
  ·rw[Ad (fun h=>h1 h.1)]
   have f1:Ac (decide ((l.length:Int)=1)=false):=fo
   clear hU
   generalize rI r=RR at *
   simp (disch:=omega) only[Lo,G8,J3, ↓Ed,Eu, ↓reduceIte,reduceCtorEq,Nat.reduceAdd,Nat.reduceEqDiff,Nat.reduceLT,Nat.reduceLeDiff,Int.reduceToNat,Int.reduceEq,Int.reduceLT,Int.reduceLE,Ap,Ao,Ax,AJ,AY,Int.reduceAdd,AH,AN,Cm,Fc,Fv,Ca,BZ]
   repeat' ((first|exact tt|refine Ab hM ?_|refine na fun b=>?_|refine nb fun b hb=>?_|refine iq ?_|(refine jq ?_ ?_<;>intro h h')|exact wZ|refine Aa ?_ ?_)<;>try refine ES ?_)
  have f1:Ac (decide ((l.length:Int)=1)=true):=fo
  have hall:l.all (ED r c)=ED r c (l.getD 0 default):=by
   match l,h1 with
   | [x],_=>simp
  rw[hall]at hU
  clear hall
  obtain ⟨⟨xk,xv,xi,xp,x32⟩,hx⟩:∃ x,l.getD 0 default=x:=⟨_,rfl⟩
  rw[hx]at hU ⊢
  simp only
  generalize ED r c ⟨xk,xv,xi,xp,x32⟩=D at *
  have e0:((0:Nat):Int).toNat=0:=rfl
  cases h2:decide (xk=key) with
  | false=>
   rw[Ad (fun h=>of_decide_eq_false h2 h.2.1)]
   clear hU
   generalize rI r=RR at *
   simp (disch:=omega) only[Lo,hx,h2,G8,J3, ↓Ed,Eu, ↓reduceIte,reduceCtorEq,Nat.reduceAdd,Nat.reduceEqDiff,Nat.reduceLT,Nat.reduceLeDiff,Int.reduceToNat,Int.reduceEq,Int.reduceLT,Int.reduceLE,Ap,Ao,Ax,AJ,AY,Int.reduceAdd,AH,AN,Cm,Fc,Fv,Ca,BZ]
   repeat' ((first|exact tt|refine Ab hM ?_|refine na fun b=>?_|refine nb fun b hb=>?_|refine iq ?_|(refine jq ?_ ?_<;>intro h h')|exact wZ|refine Aa ?_ ?_)<;>try refine ES ?_)
  | true=>
   cases D with
   | false=>
    rw[Ad (fun h=>by have:=h.2.2;cases this)]
    generalize rI r=RR at *
    simp (disch:=omega) only[Lo,hx,h2,G8,J3, ↓Ed,Eu, ↓reduceIte,reduceCtorEq,Nat.reduceAdd,Nat.reduceEqDiff,Nat.reduceLT,Nat.reduceLeDiff,Int.reduceToNat,Int.reduceEq,Int.reduceLT,Int.reduceLE,Ap,Ao,Ax,AJ,AY,Int.reduceAdd,AH,AN,Cm,Fc,Fv,Ca,BZ]
    repeat' ((first|exact tt|refine Ab hM ?_|refine Ab hU ?_|refine na fun b=>?_|refine nb fun b hb=>?_|refine iq ?_|(refine jq ?_ ?_<;>intro h h')|exact wZ|refine Aa ?_ ?_)<;>try refine ES ?_)
   | true=>
    rw[Af ⟨h1,of_decide_eq_true h2,rfl⟩]
    generalize rI r=RR at *
    simp (disch:=omega) only[Lo,hx,h2,Cp,EH, ↓Ed,Eu, ↓reduceIte,reduceCtorEq,Nat.reduceAdd,Nat.reduceEqDiff,Nat.reduceLT,Nat.reduceLeDiff,Int.reduceToNat,Int.reduceEq,Int.reduceLT,Int.reduceLE,Ap,Ao,Ax,AJ,AY,Int.reduceAdd,AH,AN,Cm,Fc,Fv,Ca,BZ]
    repeat' ((first|exact tt|refine Ab hM ?_|refine Ab hU ?_|refine na fun b=>?_|refine nb fun b hb=>?_|refine iq ?_|(refine jq ?_ ?_<;>intro h h')|exact wZ|refine Aa ?_ ?_)<;>try refine ES ?_)
    all_goals (exfalso;simp only[Ac,Hn]at *;omega)
theorem L6(r:List Int)(hr:r.length=32)(p:PfC)(hp:Bw p)(key val:List UInt8):CP Tryz.prog 98 [.agg (rI r),.agg p.cs,.str key,.str val] (.bool (IH r p key val)):=by
 have hV:=Tn r hr p hp key
 obtain ⟨y1,y2,y3,y4⟩:=P3 hr
 refine a7i _ _ (by simp) ?_
 unfold IH
 rw[show p.cs=[.int .i64 p.c,.sl none 4 (BW none p.l)] from rfl]at *
 generalize rI r=RR at *
 cases hv:DO r p key with
 | none=>
  rw[hv]at hV
  simp only[G8,J3]at hV
  simp only[Rv];refine ES ?_
  repeat' ((first|exact tt|refine Ab hV ?_|refine na fun b=>?_|refine nb fun b hb=>?_|refine iq ?_|(refine jq ?_ ?_<;>intro h h')|exact wZ|refine Aa ?_ ?_)<;>try refine ES ?_)
  all_goals simp
 | some v=>
  rw[hv]at hV
  simp only[Cp,EH]at hV
  have e:decide (some v=some val)=decide (v=val):=by simp
  rw[e]
  simp only[Rv];refine ES ?_
  repeat' ((first|exact tt|refine Ab hV ?_|refine na fun b=>?_|refine nb fun b hb=>?_|refine iq ?_|(refine jq ?_ ?_<;>intro h h')|exact wZ|refine Aa ?_ ?_)<;>try refine ES ?_)
theorem a5i{p:PfC}(h:D7 p=true){i:Nat}(hi:i<p.l.length):0≤(p.l.getD i default).i∧(p.l.getD i default).i<p.c∧p.c≤1073741824:=by
 obtain ⟨h1,h2⟩:=Pw h
 have:=h2 i hi
 exact ⟨this.2.1,this.2.2.1,h1.2.1⟩
theorem a3W(a b:List UInt8):(!(Op.bytesLess a b||decide (a=b)))=Op.bytesLess b a:=by
 have hl:∀ a b:List UInt8,Op.bytesLess a b=BX a b:=fun _ _=>rfl
 rw[hl,hl]
 cases h1:BX a b
 ·cases h2:BX b a
  ·simp[strSTO.tot _ _ h1 h2]
  ·have:a≠b:=fun e=>by rw[e,strSTO.irr]at h2;cases h2
   simp[this]
 ·rw[strSTO.asym h1];rfl
theorem XB(a b:List UInt8):(Op.bytesLess a b||decide (a=b)) = !Op.bytesLess b a:=by rw[← a3W a b,Bool.not_not]
theorem Zu(r:List Int)(hr:r.length=32)(p:PfC)(hp:Bw p)(key:List UInt8):CP Tryz.prog 165 [.agg (rI r),.agg p.cs,.str key] (.bool (Sq r p key)):=by
 have hM:=PS p hp
 obtain ⟨y1,y2,y3,y4⟩:=P3 hr
 have hR:=Zw 0 F3 rfl (by omega)
 have hq:Bb Om (rI r) (Ae (DJ 0 F3))=some (decide (r=hI (DJ 0 F3))):=by
  have:=O0 r (hI (DJ 0 F3)) (by rw[O9,hr,JJ])
  rw[hr]at this
  rw[← this,hI,EX];rfl
 rw[show Ae F3=Ip from rfl]at hR
 obtain ⟨z1,z2,z3,z4⟩:=BN (JJ 0 F3)
 refine a7j _ _ (by simp) ?_
 unfold Sq
 cases hm:D7 p with
 | false=>
  rw[hm]at hM
  rw[show p.cs=[.int .i64 p.c,.sl none 4 (BW none p.l)] from rfl]at hM ⊢
  clear hR hq
  generalize rI r=RR at *
  simp (disch:=omega) only[Ln,Bool.false_and, ↓Ed,Eu, ↓reduceIte,reduceCtorEq,Nat.reduceAdd,Nat.reduceEqDiff,Nat.reduceLT,Nat.reduceLeDiff,Int.reduceToNat,Int.reduceEq,Int.reduceLT,Int.reduceLE,Ap,Ao,Ax,AJ,AY,Int.reduceAdd,AH,AN,Cm,Fc,Fv,Ca,BZ]
  repeat' ((first|exact tt|refine Ab hM ?_|refine na fun b=>?_|refine nb fun b hb=>?_|refine iq ?_|(refine jq ?_ ?_<;>intro h h')|exact wZ|refine Aa ?_ ?_)<;>try refine ES ?_)
 | true=>
  rw[hm]at hM
  have hU:=ZI r hr p hp hm
  have hix:=fun i hi=>a5i (i:=i) hm hi
  obtain ⟨c,l⟩:=p
  rw[show (PfC.mk c l).cs=[.int .i64 c,.sl none 4 (BW none l)] from rfl]at *
  simp only at hix hU ⊢
  rw[Gt]
  clear hm hp
  cases hD:l.all (ED r c) with
  | false=>
   rw[hD]at hU
   clear hR hq hD
   generalize rI r=RR at *
   simp (disch:=omega) only[Ln,Bool.false_and, ↓Ed,Eu, ↓reduceIte,reduceCtorEq,Nat.reduceAdd,Nat.reduceEqDiff,Nat.reduceLT,Nat.reduceLeDiff,Int.reduceToNat,Int.reduceEq,Int.reduceLT,Int.reduceLE,Ap,Ao,Ax,AJ,AY,Int.reduceAdd,AH,AN,Cm,Fc,Fv,Ca,BZ]
   repeat' ((first|exact tt|refine Ab hM ?_|refine Ab hU ?_|refine na fun b=>?_|refine nb fun b hb=>?_|refine iq ?_|(refine jq ?_ ?_<;>intro h h')|exact wZ|refine Aa ?_ ?_)<;>try refine ES ?_)
  | true=>
   rw[hD]at hU
   rw[Gt]
   clear hD
   generalize rI r=RR at *
   generalize Ae (DJ 0 F3)=Z at *
   generalize decide (r=hI (DJ 0 F3))=E at *
   match l,hM,hU,hix with
   | [],hM,hU,hix=>
    have f0:Ac (decide (((0:Nat):Int)=0)=true):=rfl
    simp only
    cases h1:decide (c=0)
    all_goals (simp only[Ln];refine ES ?_;try exact tt)
    all_goals repeat' ((first|exact tt|refine Ab hM ?_|refine Ab hU ?_|refine Ab hR ?_|refine Ag hR ?_|refine na fun b=>?_|refine nb fun b hb=>?_|refine iq ?_|(refine jq ?_ ?_<;>intro h h')|exact wZ|refine Aa ?_ ?_)<;>try refine ES ?_)
    all_goals rfl
   | [x],hM,hU,hix=>
    obtain ⟨i1,i2,i3⟩:=hix 0 (by simp)
    simp only[List.getD_cons_zero]at i1 i2 i3
    clear hix
    obtain ⟨xk,xv,xi,xp,x32⟩:=x
    have f0:Ac (decide (((1:Nat):Int)=0)=false):=rfl
    have f1:Ac (decide (((1:Nat):Int)=1)=true):=rfl
    have hgd:(BW none [⟨xk,xv,xi,xp,x32⟩]).getD 0 []=BZ none ⟨xk,xv,xi,xp,x32⟩:=rfl
    simp only[DY]at i1 i2 i3 ⊢
    cases h1:decide (xi=0)<;>cases h2:decide (xi=c - 1)
    all_goals (simp only[Ln];refine ES ?_;try exact tt)
    all_goals repeat' ((first|exact tt|refine Ab hM ?_|refine Ab hU ?_|refine na fun b=>?_|refine nb fun b hb=>?_|refine iq ?_|(refine jq ?_ ?_<;>intro h h')|exact wZ|refine Aa ?_ ?_)<;>try refine ES ?_)
    all_goals (simp only[Ac,XB]at *;simp_all)
   | x::y::t,hM,hU,hix=>
    obtain ⟨i1,i2,i3⟩:=hix 0 (by simp)
    obtain ⟨j1,j2,j3⟩:=hix 1 (by simp)
    simp only[List.getD_cons_zero,List.getD_cons_succ]at i1 i2 i3 j1 j2 j3
    clear hix
    obtain ⟨xk,xv,xi,xp,x32⟩:=x
    obtain ⟨yk,yv,yi,yp,y32⟩:=y
    have f0:Ac (decide (((t.length+1+1:Nat):Int)=0)=false):=fo
    have f1:Ac (decide (((t.length+1+1:Nat):Int)=1)=false):=fo
    have hgd:(BW none (⟨xk,xv,xi,xp,x32⟩::⟨yk,yv,yi,yp,y32⟩::t)).getD 0 []=BZ none ⟨xk,xv,xi,xp,x32⟩:=rfl
    have hge:(BW none (⟨xk,xv,xi,xp,x32⟩::⟨yk,yv,yi,yp,y32⟩::t)).getD 1 []=BZ none ⟨yk,yv,yi,yp,y32⟩:=rfl
    simp only[DY]at i1 i2 i3 j1 j2 j3 ⊢
    have he:decide (yi=xi+1)=decide (yi - xi=1):=by rw[FE];simp only[Bs];omega
    rw[he]
    clear he
    cases h1:decide (yi - xi=1)
    all_goals (simp only[Ln];refine ES ?_;try exact tt)
    all_goals repeat' ((first|exact tt|refine Ab hM ?_|refine Ab hU ?_|refine na fun b=>?_|refine nb fun b hb=>?_|refine iq ?_|(refine jq ?_ ?_<;>intro h h')|exact wZ|refine Aa ?_ ?_)<;>try refine ES ?_)
    all_goals (simp only[Ac,XB]at *;simp_all)
theorem JP{A B:Prop}(h:B)(e:A=B:=by (simp (disch:=omega) only[*, ↓Ed,Eu, ↓reduceIte,reduceCtorEq,Nat.reduceAdd,Nat.reduceEqDiff,Nat.reduceLT,Nat.reduceLeDiff,Int.reduceToNat,Int.reduceEq,Int.reduceLT,Int.reduceLE,Ap,Ao,Ax,AJ,AY,Int.reduceAdd,AH,AN,PktC.cs,Es.cs];first|done|rfl)):A:=e▸h
theorem ZB(b v:Int):CP Tryz.prog 161 [.int .i64 b,.int .i64 v] (.bool (decide (0<b)&&decide (b≤v))):=by
 refine a7e _ _ (by simp) ?_
 cases h1:decide (0<b)<;>cases h2:decide (b≤v)
 all_goals (simp only[VW];refine JP ?_;try exact tt)
 all_goals repeat' ((first|exact tt|refine na fun b=>?_|refine nb fun b hb=>?_|refine iq ?_|(refine jq ?_ ?_<;>intro h h')|exact wZ|refine Aa ?_ ?_)<;>try refine JP ?_)
 all_goals rfl
theorem NH(p:PktC)(h t:Int):CP Tryz.prog 96 [.agg p.cs,.int .i64 h,.int .i64 t] (.bool (H5 p h t)):=by
 have h1:=ZB p.th h
 have h2:=ZB p.ta t
 unfold H5
 refine a7c _ _ (by simp) ?_
 generalize (decide (0<p.th)&&decide (p.th≤h))=A at *
 generalize (decide (0<p.ta)&&decide (p.ta≤t))=B at *
 cases A
 all_goals (simp only[VV];refine JP ?_;try exact tt)
 all_goals repeat' ((first|exact tt|refine Ab h1 ?_|refine Ab h2 ?_|refine na fun b=>?_|refine nb fun b hb=>?_|refine iq ?_|(refine jq ?_ ?_<;>intro h h')|exact wZ|refine Aa ?_ ?_)<;>try refine JP ?_)
 all_goals rfl
theorem FZ{A B:Prop}(h:B)(e:A=B:=by (simp (disch:=omega) only[*, ↓Ed,Eu, ↓reduceIte,reduceCtorEq,Nat.reduceAdd,Nat.reduceEqDiff,Nat.reduceLT,Nat.reduceLeDiff,Int.reduceToNat,Int.reduceEq,Int.reduceLT,Int.reduceLE,Ap,Ao,Ax,AJ,AY,Int.reduceAdd,AH,AN,PktC.cs,Es.cs,PfC.cs,HdC.cs,BF,Cw,Co,C6,Dc, ↓H1, ↓Gi, ↓Gj, ↓GM, ↓Ff, ↓Gk, ↓Gl,DZ,C4,eqC_i,eqC_s,eqC_nil,oand_some];first|done|rfl)):A:=e▸h
theorem b3c(s c m:Nat)(L:List PrP)(hI:StI L)(K:List HdC)(M:MsgC)(ht tm:Int)(told:List HdC)(hp:BO M.p=true)(l1:M.p.s.length≤1000000)(l2:M.p.d.length≤1000000)(l3:M.p.x.length≤1000000)(hf:Bw M.pr)
  (x:Bl) (hx:stOk s L x) (ho:Bf [c,m] x) (Ae:¬ c=s∧¬ s=c) (hms:¬ m=s∧¬ s=m) (hcm:¬ c=m∧¬ m=c) (E:Int) (hE:(H7 L K ht tm M).2.1=E) (h0:E≠0):
  CT Tryz.prog 44 [Ds s c ht tm told,.agg (AD M)] (lk (AF s L x++BI c m K)) (fun r o=>r=.tup [.sl none 13 [],.int .i64 E]∧o=lk (AF s L x++BI c m K)):=by
 have hG:=N4 s L hI M.p.d M.p.dc l2 x hx
 have hO:=NH M.p ht tm
 have hFr:=a1d s c L hI M.p (Av L M.p.d M.p.dc).1 ht tm told l2 x hx
 have hSt:=Io c m hcm.1 hcm.2 K M.ht
 have hPO:=D8 1 M.p.s M.p.sc M.p.q l1
 have hKp:=PP M.p l1 l2 l3 hp
 have hHas:=fun (h:HdC)=>L6 h.r h.n M.pr hf (Ah 1 M.p.s M.p.sc M.p.q) (Cg M.p)
 change ∀ h:HdC,CP _ _ [.agg h.rt,_,_,_] _ at hHas
 have hgs:=hx.d
 unfold H7 at hE
 clear hI hx hp l1 l2 l3 hf
 generalize H5 M.p ht tm=OV at *
 generalize Cg M.p=kp at *
 generalize Ah 1 M.p.s M.p.sc M.p.q=key at *
 generalize Av L M.p.d M.p.dc=G at *
 obtain ⟨⟨g1,g2,g3,g4,g5⟩,g6⟩:=G
 simp only at hE hG hFr
 generalize LE L M.p g3=FR at *
 refine S9 _ _ _ (by simp) ?_
 cases g6
 ·simp only[true_or,Bo]at hE
  subst hE
  clear hO hFr hSt hPO hKp hHas
  rcases x with _ | ⟨g,cap⟩
  all_goals simp only[B4,Bq,Ce,AA,Bi,Bj,Bf,AZ,B8,Cb,Cs,Cr]at hgs hG ho ⊢
  all_goals (simp only[Hb,Cz.z1];refine FZ ?_;try exact tt)
  all_goals repeat' ((first|exact tt|refine c1 hG ?_|refine c2 hG ?_|refine na fun b=>?_|refine nb fun b hb=>?_|refine iq ?_|(refine jq ?_ ?_<;>intro h h')|exact wZ|refine Aa ?_ ?_)<;>try refine FZ ?_)
  all_goals exact AG qa (A6 _)
 by_cases hd:g1=M.p.s∧g2=M.p.sc
 rotate_left
 ·rw[Af (.inr hd)]at hE
  subst hE
  have hq:(decide (g1=M.p.s)&&decide (g2=M.p.sc))=false:=by simpa using hd
  clear hO hFr hSt hPO hKp hHas hd
  rcases x with _ | ⟨g,cap⟩
  all_goals simp only[B4,Bq,Ce,AA,Bi,Bj,Bf,AZ,B8,Cb,Cs,Cr]at hgs hG ho ⊢
  all_goals (simp only[Hb,Cz.z1];refine FZ ?_;try exact tt)
  all_goals repeat' ((first|exact tt|refine c1 hG ?_|refine c2 hG ?_|refine na fun b=>?_|refine nb fun b hb=>?_|refine iq ?_|(refine jq ?_ ?_<;>intro h h')|exact wZ|refine Aa ?_ ?_)<;>try refine FZ ?_)
  all_goals exact AG qa (A6 _)
 obtain ⟨rfl,rfl⟩:=hd
 rw[Ad (by simp)]at hE
 cases g4
 rotate_left
 ·rw[Af rfl]at hE
  subst hE
  clear hO hFr hSt hPO hKp hHas
  rcases x with _ | ⟨g,cap⟩
  all_goals simp only[B4,Bq,Ce,AA,Bi,Bj,Bf,AZ,B8,Cb,Cs,Cr]at hgs hG ho ⊢
  all_goals (simp only[Hb,Cz.z1];refine FZ ?_;try exact tt)
  all_goals repeat' ((first|exact tt|refine c1 hG ?_|refine c2 hG ?_|refine na fun b=>?_|refine nb fun b hb=>?_|refine iq ?_|(refine jq ?_ ?_<;>intro h h')|exact wZ|refine Aa ?_ ?_)<;>try refine FZ ?_)
  all_goals exact AG qa (A6 _)
 rw[Ad (by simp)]at hE
 cases OV
 rotate_left
 ·rw[Af rfl]at hE
  subst hE
  clear hFr hSt hPO hKp hHas
  rcases x with _ | ⟨g,cap⟩
  all_goals simp only[B4,Bq,Ce,AA,Bi,Bj,Bf,AZ,B8,Cb,Cs,Cr]at hgs hG ho ⊢
  all_goals (simp only[Hb,Cz.z1];refine FZ ?_;try exact tt)
  all_goals repeat' ((first|exact tt|refine c1 hG ?_|refine c2 hG ?_|refine Ab hO ?_|refine na fun b=>?_|refine nb fun b hb=>?_|refine iq ?_|(refine jq ?_ ?_<;>intro h h')|exact wZ|refine Aa ?_ ?_)<;>try refine FZ ?_)
  all_goals exact AG qa (A6 _)
 rw[Ad (by simp)]at hE
 by_cases hfr:FR=0
 rotate_left
 ·rw[Af hfr]at hE
  simp only at hE
  subst hE
  have f1:Ac (decide (FR=0)=false):=A0 hfr
  clear hSt hPO hKp hHas hfr h0
  rcases x with _ | ⟨g,cap⟩
  all_goals simp only[B4,Bq,Ce,AA,Bi,Bj,Bf,AZ,B8,Cb,Cs,Cr]at hgs hG hFr ho ⊢
  all_goals (simp only[Hb,Cz.z1];refine FZ ?_;try exact tt)
  all_goals repeat' ((first|exact tt|refine c1 hG ?_|refine c2 hG ?_|refine Ab hO ?_|refine c1 hFr ?_|refine c2 hFr ?_|refine na fun b=>?_|refine nb fun b hb=>?_|refine iq ?_|(refine jq ?_ ?_<;>intro h h')|exact wZ|refine Aa ?_ ?_)<;>try refine FZ ?_)
  all_goals exact AG qa (A6 _)
 rw[Ad (by simp[hfr])]at hE
 subst hfr
 have f0:Ac (decide ((0:Int)=0)=true):=rfl
 cases hst:BC K M.ht with
 | none=>
  rw[hst]at hE hSt
  simp only[G8,J3]at hE hSt
  subst hE
  clear hPO hKp hHas h0 hst
  rcases x with _ | ⟨g,cap⟩
  all_goals simp only[B4,Bq,Ce,AA,Bi,Bj,Bf,AZ,B8,Cb,Cs,Cr]at hgs hG hFr ho ⊢
  all_goals (simp only[Hb,Cz.z1];refine FZ ?_;try exact tt)
  all_goals repeat' ((first|exact tt|refine c1 hG ?_|refine c2 hG ?_|refine Ab hO ?_|refine c1 hFr ?_|refine c2 hFr ?_|refine c2 hSt ?_|refine na fun b=>?_|refine nb fun b hb=>?_|refine iq ?_|(refine jq ?_ ?_<;>intro h h')|exact wZ|refine Aa ?_ ?_)<;>try refine FZ ?_)
  all_goals exact AG qa (A6 _)
 | some h=>
  rw[hst]at hE hSt
  simp only[Cp,EH]at hE hSt
  have hH:=hHas h
  clear hHas hst
  cases hhf:IH h.r M.pr key kp
  rotate_left
  ·rw[hhf]at hE
   simp at hE
   exact absurd hE.symm h0
  rw[hhf,Af rfl]at hE
  subst hE
  rw[hhf]at hH
  clear h0 hhf
  rcases x with _ | ⟨g,cap⟩
  all_goals simp only[B4,Bq,Ce,AA,Bi,Bj,Bf,AZ,B8,Cb,Cs,Cr]at hgs hG hFr ho ⊢
  all_goals (simp only[Hb,Cz.z1];refine FZ ?_;try exact tt)
  all_goals repeat' ((first|exact tt|refine c1 hG ?_|refine c2 hG ?_|refine Ab hO ?_|refine c1 hFr ?_|refine c2 hFr ?_|refine c2 hSt ?_|refine Ag hPO ?_|refine Ag hKp ?_|refine Ag hH ?_|refine Ab hPO ?_|refine Ab hKp ?_|refine Ab hH ?_|refine na fun b=>?_|refine nb fun b hb=>?_|refine iq ?_|(refine jq ?_ ?_<;>intro h h')|exact wZ|refine Aa ?_ ?_)<;>try refine FZ ?_)
  all_goals exact AG qa (A6 _)
theorem GU{A B:Prop}(h:B)(e:A=B:=by (simp (disch:=omega) only[*, ↓Ed,Eu, ↓reduceIte,reduceCtorEq,Nat.reduceAdd,Nat.reduceEqDiff,Nat.reduceLT,Nat.reduceLeDiff,Int.reduceToNat,Int.reduceEq,Int.reduceLT,Int.reduceLE,Ap,Ao,Ax,AJ,AY,Int.reduceAdd,AH,AN,PktC.cs,Es.cs,PfC.cs,HdC.cs,BF,Cw,Co,C6,Dc, ↓H1, ↓Gi, ↓Gj, ↓GM, ↓Ff, ↓Gk, ↓Gl,DZ,C4,eqC_i,eqC_s,eqC_nil,oand_some];first|done|rfl)):A:=e▸h
theorem b2S(s c m:Nat)(L:List PrP)(hI:StI L)(K:List HdC)(M:MsgC)(ht tm:Int)(told:List HdC)(hp:BO M.p=true)(l1:M.p.s.length≤1000000)(l2:M.p.d.length≤1000000)(l3:M.p.x.length≤1000000)(hf:Bw M.pr)
  (hAn:CP Tryz.prog 100 [.str M.a] (.str (BB M.a)))
  (x:Bl) (hx:stOk s L x) (ho:Bf [c,m] x) (Ae:¬ c=s∧¬ s=c) (hms:¬ m=s∧¬ s=m) (hcm:¬ c=m∧¬ m=c) (E:Int) (hE:(HO L K M).2.1=E) (h0:E≠0):
  CT Tryz.prog 45 [Ds s c ht tm told,.agg (AD M)] (lk (AF s L x++BI c m K)) (fun r o=>r=.tup [.sl none 13 [],.int .i64 E]∧o=lk (AF s L x++BI c m K)):=by
 have hH:=MF s c L hI M.p ht tm told hp l1 l2 l3 x hx
 have hN:=Qs s L hI 6 M.p.s M.p.sc l1 x hx
 have hSt:=Io c m hcm.1 hcm.2 K M.ht
 have hPO:=D8 3 M.p.d M.p.dc M.p.q l2
 have hHas:=fun (h:HdC)=>L6 h.r h.n M.pr hf (Ah 3 M.p.d M.p.dc M.p.q) (BB M.a)
 change ∀ h:HdC,CP _ _ [.agg h.rt,_,_,_] _ at hHas
 have hgs:=hx.d
 unfold HO at hE
 by_cases hh:DX L M.p=0
 rotate_left
 ·rw[Af hh]at hE
  simp only at hE
  subst hE
  unfold EK at hH
  rw[Ad hh,show zE.cs=[.str [],.int .i64 0,.bool false,.bool false,.int .i64 0] from rfl]at hH
  have f1:Ac (decide (DX L M.p=0)=false):=A0 hh
  clear hN hSt hPO hHas hAn hI hx hp l1 l2 l3 hf h0 hh
  generalize DX L M.p=E at *
  refine S6 _ _ _ (by simp) ?_
  rcases x with _ | ⟨g,cap⟩
  all_goals simp only[B4,Bq,Ce,AA,Bi,Bj,Bf,AZ,B8,Cb,Cs,Cr]at hgs hH ho ⊢
  all_goals (simp only[Ix,Cz.z1];refine GU ?_;try exact tt)
  all_goals repeat' ((first|exact tt|refine c1 hH ?_|refine c2 hH ?_|refine na fun b=>?_|refine nb fun b hb=>?_|refine iq ?_|(refine jq ?_ ?_<;>intro h h')|exact wZ|refine Aa ?_ ?_)<;>try refine GU ?_)
  all_goals exact AG qa (A6 _)
 obtain ⟨g,cap,rfl⟩:=Fj (FT hh).2.2.1 hx
 rw[Ad (by simp[hh])]at hE
 have hHE:EK L M.p=(Av L M.p.s M.p.sc).1:=by unfold EK;rw[Af hh]
 rw[hHE,hh]at hH
 clear hHE hh hI hx hp l1 l2 l3 hf
 have f0:Ac (decide ((0:Int)=0)=true):=rfl
 generalize BB M.a=av at *
 generalize Ah 3 M.p.d M.p.dc M.p.q=key at *
 generalize Fg L 6 M.p.s M.p.sc=nn at *
 generalize (Av L M.p.s M.p.sc).1=G at *
 obtain ⟨g1,g2,g3,g4,g5⟩:=G
 simp only at hE hH
 refine S6 _ _ _ (by simp) ?_
 simp only[Bq,AA,Bi,Bj,Bf,AZ,B8,Cb,Cs,Cr]at hgs hH hN ho ⊢
 by_cases hq:g3=true∧¬ M.p.q=nn
 ·rw[Af hq]at hE
  subst hE
  obtain ⟨rfl,hq⟩:=hq
  have f1:Ac (decide (M.p.q=nn)=false):=A0 hq
  clear hSt hPO hHas hAn h0 hq
  simp only[Ix,Cz.z1];refine GU ?_
  repeat' ((first|exact tt|refine c2 hH ?_|refine r2 hN ?_|refine na fun b=>?_|refine nb fun b hb=>?_|refine iq ?_|(refine jq ?_ ?_<;>intro h h')|exact wZ|refine Aa ?_ ?_)<;>try refine GU ?_)
  all_goals exact AG qa (A6 _)
 rw[Ad hq]at hE
 have hq':g3=false∨(g3=true∧M.p.q=nn):=by
  cases g3
  ·exact .inl rfl
  ·exact .inr ⟨rfl,Classical.byContradiction fun h=>hq ⟨rfl,h⟩⟩
 clear hq
 cases hst:BC K M.ht with
 | none=>
  rw[hst]at hE hSt
  simp only[G8,J3]at hE hSt
  subst hE
  clear hPO hHas hAn h0 hst
  rcases hq' with rfl | ⟨rfl,hq⟩
  ·simp only[Ix,Cz.z1];refine GU ?_
   repeat' ((first|exact tt|refine c2 hH ?_|refine c2 hSt ?_|refine na fun b=>?_|refine nb fun b hb=>?_|refine iq ?_|(refine jq ?_ ?_<;>intro h h')|exact wZ|refine Aa ?_ ?_)<;>try refine GU ?_)
   all_goals exact AG qa (A6 _)
  ·have f1:Ac (decide (M.p.q=nn)=true):=AO hq
   clear hq
   simp only[Ix,Cz.z1];refine GU ?_
   repeat' ((first|exact tt|refine c2 hH ?_|refine r2 hN ?_|refine c2 hSt ?_|refine na fun b=>?_|refine nb fun b hb=>?_|refine iq ?_|(refine jq ?_ ?_<;>intro h h')|exact wZ|refine Aa ?_ ?_)<;>try refine GU ?_)
   all_goals exact AG qa (A6 _)
 | some h=>
  rw[hst]at hE hSt
  simp only[Cp,EH]at hE hSt
  have hF:=hHas h
  clear hHas hst
  cases hhf:IH h.r M.pr key av
  rotate_left
  ·rw[hhf]at hE
   simp at hE
   exact absurd hE.symm h0
  rw[hhf,Af rfl]at hE
  subst hE
  rw[hhf]at hF
  clear h0 hhf
  rcases hq' with rfl | ⟨rfl,hq⟩
  ·simp only[Ix,Cz.z1];refine GU ?_
   repeat' ((first|exact tt|refine c2 hH ?_|refine c2 hSt ?_|refine Ag hPO ?_|refine Ag hAn ?_|refine Ag hF ?_|refine na fun b=>?_|refine nb fun b hb=>?_|refine iq ?_|(refine jq ?_ ?_<;>intro h h')|exact wZ|refine Aa ?_ ?_)<;>try refine GU ?_)
   all_goals exact AG qa (A6 _)
  ·have f1:Ac (decide (M.p.q=nn)=true):=AO hq
   clear hq
   simp only[Ix,Cz.z1];refine GU ?_
   repeat' ((first|exact tt|refine c2 hH ?_|refine r2 hN ?_|refine c2 hSt ?_|refine Ag hPO ?_|refine Ag hAn ?_|refine Ag hF ?_|refine na fun b=>?_|refine nb fun b hb=>?_|refine iq ?_|(refine jq ?_ ?_<;>intro h h')|exact wZ|refine Aa ?_ ?_)<;>try refine GU ?_)
   all_goals exact AG qa (A6 _)
theorem DL{A B:Prop}(h:B)(e:A=B:=by (simp (disch:=omega) only[*, ↓Ed,Eu, ↓reduceIte,reduceCtorEq,Nat.reduceAdd,Nat.reduceEqDiff,Nat.reduceLT,Nat.reduceLeDiff,Int.reduceToNat,Int.reduceEq,Int.reduceLT,Int.reduceLE,Ap,Ao,Ax,AJ,AY,Int.reduceAdd,AH,AN,PktC.cs,Es.cs,PfC.cs,HdC.cs,BF,Cw,Co,C6,Dc, ↓H1, ↓Gi, ↓Gj, ↓GM, ↓Ff, ↓Gk, ↓Gl, ↓Ez, ↓EL,DZ,C4,eqC_i,eqC_s,eqC_nil,oand_some];first|done|rfl)):A:=e▸h
theorem a0Z(s c:Nat)(L:List PrP)(M:MsgC)(e:Es)(h:HdC)(ht tm:Int)(told:List HdC)(l2:M.p.d.length≤1000000)(hf:Bw M.pr)(hs:Ia h.r M e.o=false)(g cap:Nat)(hgs:¬ g=s∧¬ s=g):
  CT Tryz.prog 104 [Ds s c ht tm told,.agg (AD M),.agg e.cs,.agg h.rt] (lk (AF s L (some (g,cap)))) (fun r o=>r=.tup [.sl none 13 [],.int .i64 18]∧o=lk (AF s L (some (g,cap)))):=by
 have hPA:=D8 5 M.p.d M.p.dc 0 l2
 have hPB:=D8 2 M.p.d M.p.dc M.p.q l2
 have hA:=L6 h.r h.n M.pr hf (Ah 5 M.p.d M.p.dc 0) (pn M.nx)
 have hB:=Zu h.r h.n M.pr hf (Ah 2 M.p.d M.p.dc M.p.q)
 have hP:=ND M.nx
 change CP _ _ [.agg h.rt,_,_,_] _ at hA
 change CP _ _ [.agg h.rt,_,_] _ at hB
 unfold Ia at hs
 clear l2 hf
 generalize pn M.nx=nv at *
 generalize Ah 5 M.p.d M.p.dc 0=ka at *
 generalize Ah 2 M.p.d M.p.dc M.p.q=kb at *
 obtain ⟨e1,e2,e3,e4,e5⟩:=e
 simp only at hs
 simp only[AA]
 refine YU _ _ _ (by simp) ?_
 cases e3
 ·rw[Ad (by simp)]at hs
  rw[hs]at hB
  clear hA hs
  simp only[Lg];refine DL ?_
  repeat' ((first|exact tt|refine Ag hPB ?_|refine Ag hB ?_|refine na fun b=>?_|refine nb fun b hb=>?_|refine iq ?_|(refine jq ?_ ?_<;>intro h h')|exact wZ|refine Aa ?_ ?_)<;>try refine DL ?_)
  all_goals exact AG qa (A6 _)
 ·rw[Af rfl]at hs
  rw[hs]at hA
  clear hB hs
  simp only[Lg];refine DL ?_
  repeat' ((first|exact tt|refine Ag hPA ?_|refine Ag hP ?_|refine Ag hA ?_|refine na fun b=>?_|refine nb fun b hb=>?_|refine iq ?_|(refine jq ?_ ?_<;>intro h h')|exact wZ|refine Aa ?_ ?_)<;>try refine DL ?_)
  all_goals exact AG qa (A6 _)
theorem b3f(s c m:Nat)(L:List PrP)(hI:StI L)(K:List HdC)(M:MsgC)(ht tm:Int)(told:List HdC)(hp:BO M.p=true)(l1:M.p.s.length≤1000000)(l2:M.p.d.length≤1000000)(l3:M.p.x.length≤1000000)(hf:Bw M.pr)(hk:M.k=4)
  (x:Bl) (hx:stOk s L x) (ho:Bf [c,m] x) (Ae:¬ c=s∧¬ s=c) (hms:¬ m=s∧¬ s=m) (hcm:¬ c=m∧¬ m=c) (E:Int) (hE:(Gn L K M).2.1=E) (h0:E≠0):
  CT Tryz.prog 46 [Ds s c ht tm told,.agg (AD M)] (lk (AF s L x++BI c m K)) (fun r o=>r=.tup [.sl none 13 [],.int .i64 E]∧o=lk (AF s L x++BI c m K)):=by
 have hH:=MF s c L hI M.p ht tm told hp l1 l2 l3 x hx
 have hSt:=Io c m hcm.1 hcm.2 K M.ht
 have hO:=fun (h:HdC)=>NH M.p h.h h.t
 have hLt:=PT M (Av L M.p.s M.p.sc).1
 have hgs:=hx.d
 have hBk:=fun (h:HdC) (hs:Ia h.r M (Av L M.p.s M.p.sc).1.o=false) (g cap:Nat) hgs=>a0Z s c L M (Av L M.p.s M.p.sc).1 h ht tm told l2 hf hs g cap hgs
 unfold Gn at hE
 by_cases hh:DX L M.p=0
 rotate_left
 ·rw[Af hh]at hE
  simp only at hE
  subst hE
  unfold EK at hH
  rw[Ad hh,show zE.cs=[.str [],.int .i64 0,.bool false,.bool false,.int .i64 0] from rfl]at hH
  have f1:Ac (decide (DX L M.p=0)=false):=A0 hh
  clear hSt hO hLt hBk hI hx hp l1 l2 l3 hf h0 hh
  generalize DX L M.p=E at *
  refine Ta _ _ _ (by simp) ?_
  rcases x with _ | ⟨g,cap⟩
  all_goals simp only[B4,Bq,Ce,AA,Bi,Bj,Bf,AZ,B8,Cb,Cs,Cr]at hgs hH ho ⊢
  all_goals (simp only[Hc,Cz.z1];refine DL ?_;try exact tt)
  all_goals repeat' ((first|exact tt|refine c1 hH ?_|refine c2 hH ?_|refine na fun b=>?_|refine nb fun b hb=>?_|refine iq ?_|(refine jq ?_ ?_<;>intro h h')|exact wZ|refine Aa ?_ ?_)<;>try refine DL ?_)
  all_goals exact AG qa (A6 _)
 obtain ⟨g,cap,rfl⟩:=Fj (FT hh).2.2.1 hx
 rw[Ad (by simp[hh])]at hE
 have hHE:EK L M.p=(Av L M.p.s M.p.sc).1:=by unfold EK;rw[Af hh]
 rw[hHE,hh]at hH
 clear hHE hh hI hx hp l1 l2 l3 hf
 have f0:Ac (decide ((0:Int)=0)=true):=rfl
 simp only[hk,true_and,not_true_eq_false,false_and,BV]at hE
 generalize (Av L M.p.s M.p.sc).1=G at *
 obtain ⟨g1,g2,g3,g4,g5⟩:=G
 simp only at hE hH hLt hBk
 refine Ta _ _ _ (by simp) ?_
 simp only[Bq,AA,Bi,Bj,Bf,AZ,B8,Cb,Cs,Cr]at hgs hH hBk ho ⊢
 cases hst:BC K M.ht with
 | none=>
  rw[hst]at hE hSt
  simp only[G8,J3]at hE hSt
  subst hE
  clear hO hLt hBk h0 hst
  simp only[Hc,Cz.z1];refine DL ?_
  repeat' ((first|exact tt|refine c2 hH ?_|refine c2 hSt ?_|refine na fun b=>?_|refine nb fun b hb=>?_|refine iq ?_|(refine jq ?_ ?_<;>intro h h')|exact wZ|refine Aa ?_ ?_)<;>try refine DL ?_)
  all_goals exact AG qa (A6 _)
 | some h=>
  rw[hst]at hE hSt
  simp only[Cp,EH]at hE hSt
  have hO:=hO h
  have hBk:=fun hs=>hBk h hs g cap hgs
  clear hst
  generalize H5 M.p h.h h.t=OV at *
  generalize IL M g3=LT at *
  by_cases h1:g4=false∧OV=false
  ·rw[Af h1]at hE
   subst hE
   obtain ⟨rfl,rfl⟩:=h1
   clear hLt hBk h0
   simp only[Hc,Cz.z1];refine DL ?_
   repeat' ((first|exact tt|refine c2 hH ?_|refine c2 hSt ?_|refine Ab hO ?_|refine na fun b=>?_|refine nb fun b hb=>?_|refine iq ?_|(refine jq ?_ ?_<;>intro h h')|exact wZ|refine Aa ?_ ?_)<;>try refine DL ?_)
   all_goals exact AG qa (A6 _)
  rw[Ad h1]at hE
  have h1':g4=true∨(g4=false∧OV=true):=by cases g4<;>cases OV<;>simp_all
  clear h1
  by_cases h2:LT=0
  rotate_left
  ·rw[Af h2]at hE
   simp only at hE
   subst hE
   have f2:Ac (decide (LT=0)=false):=A0 h2
   clear hBk h0 h2
   rcases h1' with rfl | ⟨rfl,rfl⟩
   all_goals (simp only[Hc,Cz.z1];refine DL ?_;try exact tt)
   all_goals repeat' ((first|exact tt|refine c2 hH ?_|refine c2 hSt ?_|refine Ab hO ?_|refine Ab hLt ?_|refine na fun b=>?_|refine nb fun b hb=>?_|refine iq ?_|(refine jq ?_ ?_<;>intro h h')|exact wZ|refine Aa ?_ ?_)<;>try refine DL ?_)
   all_goals exact AG qa (A6 _)
  rw[Ad (by simp[h2])]at hE
  subst h2
  by_cases h3:g3=true∧((g4=true∧M.nx<g5)∨(g4=false∧¬ M.nx=M.p.q))
  ·rw[Af h3]at hE
   subst hE
   obtain ⟨rfl,h3⟩:=h3
   clear hBk h0
   rcases h1' with rfl | ⟨rfl,rfl⟩
   ·have f2:Ac (decide (M.nx<g5)=true):=AO (by simpa using h3)
    clear h3
    simp only[Hc,Cz.z1];refine DL ?_
    repeat' ((first|exact tt|refine c2 hH ?_|refine c2 hSt ?_|refine Ab hO ?_|refine Ab hLt ?_|refine na fun b=>?_|refine nb fun b hb=>?_|refine iq ?_|(refine jq ?_ ?_<;>intro h h')|exact wZ|refine Aa ?_ ?_)<;>try refine DL ?_)
    all_goals exact AG qa (A6 _)
   ·have f2:Ac (decide (M.nx=M.p.q)=false):=A0 (by simpa using h3)
    clear h3
    simp only[Hc,Cz.z1];refine DL ?_
    repeat' ((first|exact tt|refine c2 hH ?_|refine c2 hSt ?_|refine Ab hO ?_|refine Ab hLt ?_|refine na fun b=>?_|refine nb fun b hb=>?_|refine iq ?_|(refine jq ?_ ?_<;>intro h h')|exact wZ|refine Aa ?_ ?_)<;>try refine DL ?_)
    all_goals exact AG qa (A6 _)
  rw[Ad h3]at hE
  cases hsh:Ia h.r M g3
  rotate_left
  ·rw[hsh]at hE
   simp at hE
   exact absurd hE.symm h0
  rw[hsh,Af rfl]at hE
  subst hE
  have hBk:=hBk hsh
  clear h0 hsh
  cases g3
  ·clear h3
   rcases h1' with rfl | ⟨rfl,rfl⟩
   all_goals (simp only[Hc,Cz.z1];refine DL ?_;try exact tt)
   all_goals repeat' ((first|exact tt|refine c2 hH ?_|refine c2 hSt ?_|refine Ab hO ?_|refine Ab hLt ?_|refine c2 hBk ?_|refine na fun b=>?_|refine nb fun b hb=>?_|refine iq ?_|(refine jq ?_ ?_<;>intro h h')|exact wZ|refine Aa ?_ ?_)<;>try refine DL ?_)
   all_goals exact AG qa (A6 _)
  ·simp only[true_and]at h3
   rcases h1' with rfl | ⟨rfl,rfl⟩
   ·have f2:Ac (decide (M.nx<g5)=false):=A0 (by simpa using h3)
    clear h3
    simp only[Hc,Cz.z1];refine DL ?_
    repeat' ((first|exact tt|refine c2 hH ?_|refine c2 hSt ?_|refine Ab hO ?_|refine Ab hLt ?_|refine c2 hBk ?_|refine na fun b=>?_|refine nb fun b hb=>?_|refine iq ?_|(refine jq ?_ ?_<;>intro h h')|exact wZ|refine Aa ?_ ?_)<;>try refine DL ?_)
    all_goals exact AG qa (A6 _)
   ·have f2:Ac (decide (M.nx=M.p.q)=true):=AO (by simpa using h3)
    clear h3
    simp only[Hc,Cz.z1];refine DL ?_
    repeat' ((first|exact tt|refine c2 hH ?_|refine c2 hSt ?_|refine Ab hO ?_|refine Ab hLt ?_|refine c2 hBk ?_|refine na fun b=>?_|refine nb fun b hb=>?_|refine iq ?_|(refine jq ?_ ?_<;>intro h h')|exact wZ|refine Aa ?_ ?_)<;>try refine DL ?_)
    all_goals exact AG qa (A6 _)
end Go.Proofs.YtfgihnhoocnmdaaGreatDoor
