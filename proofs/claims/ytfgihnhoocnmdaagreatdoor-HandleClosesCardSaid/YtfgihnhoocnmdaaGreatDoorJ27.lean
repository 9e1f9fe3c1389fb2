import Derived.Test.YtfgihnhoocnmdaaGreatDoorJ26
import Derived.Carry
import Derived.ChangeSame
import Derived.Deep.Slices
import Derived.Below
import Derived.OpenShut
import Derived.Test.YtfgihnhoocnmdaaGreatDoorRows
import Derived.Handed
import Derived.HandedShaped
import Derived.LaidMore
import Derived.MakeChecks
import Derived.Stop.LaidErr
import Derived.Shelf.Vars
namespace Go.Proofs.YtfgihnhoocnmdaaGreatDoor
set_option linter.all false
set_option maxHeartbeats 64000000
set_option maxRecDepth 100000
section
open Go.RowKit Go.Lib
theorem R8{A B:Prop}(h:B)(e:A=B:=by (simp (disch:=omega) only[*, ↓Ed,Eu, ↓reduceIte,reduceCtorEq,Nat.reduceAdd,Nat.reduceEqDiff,Nat.reduceLT,Nat.reduceLeDiff,Int.reduceToNat,Int.reduceEq,Int.reduceLT,Int.reduceLE,Ap,GvC.cs,EvC.cs,Es.cs,Ax,DZ,C4, ↓Ht, ↓H0, ↓H1, ↓b4A, ↓Oj, ↓Ez, ↓EL,b2j,Qg,Ps,Np,MB,SI];first|done|rfl)):A:=e▸h
theorem TP(x:GvC)(M:MsgC)(th:List MsgC)(data:List UInt8)(hL:CP Tryz.prog 9 [.agg x.cs] (.bool true))(hG:CP Tryz.prog 10 [.agg (AD M)] (.bool true))(hGs:CP Tryz.prog 17 [.sl none 50 (Je th)] (.bool true))
  (q6:Ac (decide (6<(th.length:Int))=false)) (q7:Ac (decide (600<(data.length:Int))=false)) (M1:MsgC) (hP:CP Tryz.prog 11 [.agg (AD M),.sl none 2 (AX x.o),.bool true] (.agg (AD M1))) (hl1:LgM M1) (L:List PrP) (K:List HdC) (hB:StB L 90) (hKl:K.length≤1000)
  (hD:CP Tryz.prog 13 [.agg x.cs] (.agg (RV L K x.ht x.tm))) (hO:CT Tryz.prog 12 [.agg (RV L K x.ht x.tm)] (lk []) (PN L K x.ht x.tm)) (hE:(Eo L K x.ht x.tm M1).2.1≠0):CP Tryz.prog 4 [.agg x.cs,.agg (AD M),.sl none 50 (Je th),.str data] (.bool true):=by
 have hF:=a9t
 refine Qr _ _ (by simp) ?_
 obtain ⟨e',k,m',o,n,a,ht,tm⟩:=x
 simp only at hL hD hO hP hE
 have hDo0:=fun s c m (hs:stOk s L none) Ae hms hcm=>a1b s c m L hB.I K hKl M1 ht tm hl1 none hs (YJ _) Ae hms hcm _ rfl hE
 have hDo1:=fun s c m g cap (hs:stOk s L (some (g,cap))) (hg:(¬ g=c∧¬ c=g)∧(¬ g=m∧¬ m=g)) Ae hms hcm=>a1b s c m L hB.I K hKl M1 ht tm hl1 (some (g,cap)) hs (S3 (by simp[hg])) Ae hms hcm _ rfl hE
 simp only[AA,Ce,Bi,Bj]at hDo0 hDo1
 have q9:Ac (decide ((Eo L K ht tm M1).2.1=0)=false):=A0 hE
 clear hl1 hB hKl hE
 generalize (Eo L K ht tm M1).2.1=E at *
 simp only[J5,Cz.z0];refine R8 ?_
 repeat' ((first|exact tt|refine Ab hF ?_|refine Ab hL ?_|refine Ab hG ?_|refine Ab hGs ?_|refine Ab hD ?_|refine Ab hP ?_|((refine OI hO (fun s c m hs Ae hms hcm f1 f2 f3=>?_) (fun s c m g cap hs hg Ae hms hcm f1 f2 f3 f4=>(fun (hgs:¬ g=s∧¬ s=g)=>?_) hs.1))<;>(try simp only[Bt,Bu,Bc]at f1 f2 f3)<;>(try simp only[Bt,Bu,Bc]at f4))|refine c3 ((hDo0 s c m hs Ae hms hcm)) ?_|(refine c4 (hDo1 s c m g cap hs hg Ae hms hcm) ?_ qc)|refine na fun b=>?_|refine nb fun b hb=>?_|refine iq ?_|(refine jq ?_ ?_<;>intro h h')|exact wZ|refine Aa ?_ ?_)<;>try refine R8 ?_)
end
section
open Go.RowKit Go.Lib
theorem Lj{A B:Prop}(h:B)(e:A=B:=by (simp (disch:=omega) only[*, ↓Ed,Eu, ↓reduceIte,reduceCtorEq,Nat.reduceAdd,Nat.reduceEqDiff,Nat.reduceLT,Nat.reduceLeDiff,Int.reduceToNat,Int.reduceEq,Int.reduceLT,Int.reduceLE,Ap,GvC.cs,EvC.cs,Es.cs,Ax,DZ,C4, ↓Ht, ↓H0, ↓H1, ↓b4A, ↓Oj, ↓Ez, ↓EL,b2j,Qg,Ps,Np,MB,SI];first|done|rfl)):A:=e▸h
open Classical in
theorem S2(x:GvC)(M:MsgC)(th:List MsgC)(data:List UInt8)(h:¬ (HY x∧Kt M∧th.length≤6∧NX th∧data.length≤600)):CP Tryz.prog 4 [.agg x.cs,.agg (AD M),.sl none 50 (Je th),.str data] (.bool true):=by
 have hF:=a9t
 have hL:=a8L x
 have hG:=a8M M
 have hGs:=RG th
 refine Qr _ _ (by simp) ?_
 by_cases a1:HY x
 rotate_left
 ·rw[A0 a1]at hL
  clear hG hGs h a1
  obtain ⟨e',k,m,o,n,a,ht,tm⟩:=x
  simp only[J5,Cz.z0];refine Lj ?_
  repeat' ((first|exact tt|refine Ab hF ?_|refine Ab hL ?_|refine na fun b=>?_|refine nb fun b hb=>?_|refine iq ?_|(refine jq ?_ ?_<;>intro h h')|exact wZ|refine Aa ?_ ?_)<;>try refine Lj ?_)
 rw[AO a1]at hL
 by_cases a2:Kt M
 rotate_left
 ·rw[A0 a2]at hG
  clear hGs h a1 a2
  obtain ⟨e',k,m,o,n,a,ht,tm⟩:=x
  simp only[J5,Cz.z0];refine Lj ?_
  repeat' ((first|exact tt|refine Ab hF ?_|refine Ab hL ?_|refine Ab hG ?_|refine na fun b=>?_|refine nb fun b hb=>?_|refine iq ?_|(refine jq ?_ ?_<;>intro h h')|exact wZ|refine Aa ?_ ?_)<;>try refine Lj ?_)
 rw[AO a2]at hG
 by_cases a3:th.length≤6
 rotate_left
 ·have q6:Ac (decide (6<(th.length:Int))=true):=fo
  clear hGs h a1 a2 a3
  obtain ⟨e',k,m,o,n,a,ht,tm⟩:=x
  simp only[J5,Cz.z0];refine Lj ?_
  repeat' ((first|exact tt|refine Ab hF ?_|refine Ab hL ?_|refine Ab hG ?_|refine na fun b=>?_|refine nb fun b hb=>?_|refine iq ?_|(refine jq ?_ ?_<;>intro h h')|exact wZ|refine Aa ?_ ?_)<;>try refine Lj ?_)
 have q6:Ac (decide (6<(th.length:Int))=false):=fo
 by_cases a4:NX th
 rotate_left
 ·rw[A0 a4]at hGs
  clear h a1 a2 a3 a4
  obtain ⟨e',k,m,o,n,a,ht,tm⟩:=x
  simp only[J5,Cz.z0];refine Lj ?_
  repeat' ((first|exact tt|refine Ab hF ?_|refine Ab hL ?_|refine Ab hG ?_|refine Ab hGs ?_|refine na fun b=>?_|refine nb fun b hb=>?_|refine iq ?_|(refine jq ?_ ?_<;>intro h h')|exact wZ|refine Aa ?_ ?_)<;>try refine Lj ?_)
 rw[AO a4]at hGs
 have a5:¬ data.length≤600:=fun a5=>h ⟨a1,a2,a3,a4,a5⟩
 have q7:Ac (decide (600<(data.length:Int))=true):=fo
 clear h a1 a2 a3 a4 a5
 obtain ⟨e',k,m,o,n,a,ht,tm⟩:=x
 simp only[J5,Cz.z0];refine Lj ?_
 repeat' ((first|exact tt|refine Ab hF ?_|refine Ab hL ?_|refine Ab hG ?_|refine Ab hGs ?_|refine na fun b=>?_|refine nb fun b hb=>?_|refine iq ?_|(refine jq ?_ ?_<;>intro h h')|exact wZ|refine Aa ?_ ?_)<;>try refine Lj ?_)
end
section
open Go.RowKit Go.Lib
theorem DD{A B:Prop}(h:B)(e:A=B:=by (simp (disch:=omega) only[*, ↓Ed,Eu, ↓reduceIte,reduceCtorEq,Nat.reduceAdd,Nat.reduceEqDiff,Nat.reduceLT,Nat.reduceLeDiff,Int.reduceToNat,Int.reduceEq,Int.reduceLT,Int.reduceLE,Ap,List.getD_cons_zero,List.getD_cons_succ,GvC.cs,EvC.cs,Es.cs,Ax,DZ,C4, ↓Ht, ↓H0, ↓H1, ↓b4A, ↓Oj, ↓Ez, ↓EL,b2j,Qg,Ps,Np,MB,SI];first|done|rfl)):A:=e▸h
theorem UT(x:GvC)(M:MsgC)(th:List MsgC)(data:List UInt8)(hL:CP Tryz.prog 9 [.agg x.cs] (.bool true))(hG:CP Tryz.prog 10 [.agg (AD M)] (.bool true))(hGs:CP Tryz.prog 17 [.sl none 50 (Je th)] (.bool true))
  (q6:Ac (decide (6<(th.length:Int))=false)) (q7:Ac (decide (600<(data.length:Int))=false)) (M1:MsgC) (hP:CP Tryz.prog 11 [.agg (AD M),.sl none 2 (AX x.o),.bool true] (.agg (AD M1))) (hl1:LgM M1) (L:List PrP) (K:List HdC) (hB:StB L 90) (hKl:K.length≤1000)
  (hD:CP Tryz.prog 13 [.agg x.cs] (.agg (RV L K x.ht x.tm))) (hO:CT Tryz.prog 12 [.agg (RV L K x.ht x.tm)] (lk []) (PN L K x.ht x.tm))
  (lo:List PrP) (ht6:th.length≤6) (hda:data.length≤600) (hPn:∀ i,i<th.length→CP Tryz.prog 11 [.agg (AD (th.getD i Jx)),.sl none 2 (AX x.o),.bool true] (.agg (AD (Et lo true (th.getD i Jx))))∧LgM (Et lo true (th.getD i Jx)))
  (hE:(Eo L K x.ht x.tm M1).2.1=0) (e0 e1:EvC) (h2:(Eo L K x.ht x.tm M1).1=[e0,e1]) (h6:e1.k=6) (hps:M1.p.s.length≤1000):CP Tryz.prog 4 [.agg x.cs,.agg (AD M),.sl none 50 (Je th),.str data] (.bool true):=by
 have hF:=a9t
 refine Qr _ _ (by simp) ?_
 obtain ⟨e',k,m',o,n,a,ht,tm⟩:=x
 simp only at hL hD hO hP hE h2 hPn
 have hno0:=fun s (hs:stOk s L none)=>a3i (K:=K) (ht:=ht) (tm:=tm) (M:=M1) hs hE
 have hB2:=b4i (K:=K) (ht:=ht) (tm:=tm) (M:=M1) hB (by omega)
 have hDo:=fun s c m g cap (hs:stOk s L (some (g,cap))) (hg:(¬ g=c∧¬ c=g)∧(¬ g=m∧¬ m=g)) Ae hms hcm=>b3a s c m L 90 hB (by omega) K M1 ht tm hl1 (some (g,cap)) hs (S3 (by simp[hg])) Ae hms hcm hE
 simp only[AA,Bi,Bj]at hDo
 obtain ⟨S,g1,g2,hsh,g4,g5,g6⟩:=W8 hB hE h2 h6
 rw[h2]at hDo
 simp only[CX,List.map_nil]at hDo
 clear hl1 hB hE h2
 generalize (Eo L K ht tm M1).2.2=L2 at *
 obtain ⟨ek,ep,ea,ee,eec,eh⟩:=e1
 simp only at h6 g1 g2
 subst h6;subst g1;subst g2
 obtain ⟨sp,sc,so,scl,sst⟩:=S
 obtain ⟨gE,gcl,gp⟩:=hsh
 simp only at g4 g5 g6 gcl
 subst g4;subst gcl
 have q8:Ac (decide (sst<1)=false):=fo
 have q9:Ac (decide (M1.p.q<sst)=false):=fo
 have hsh:Shut L2 M1.p.s M1.p.sc ⟨sp,sc,true,true,sst⟩:=⟨gE,rfl,gp⟩
 have hGe:=fun s g cap (hs:stOk s L2 (some (g,cap)))=>N4 s L2 hB2.I M1.p.s M1.p.sc (by omega) (some (g,cap)) hs
 rw[gE]at hGe
 simp only[AA]at hGe
 have hsp:=b2i
 unfold Rh at hsp
 clear gE gp g5 g6
 simp only[J5,Cz.z0];refine DD ?_
 repeat' ((first|exact tt|refine Ab hF ?_|refine Ab hL ?_|refine Ab hG ?_|refine Ab hGs ?_|refine Ab hD ?_|refine Ab hP ?_|((refine OI hO (fun s c m hs Ae hms hcm f1 f2 f3=>absurd hs (hno0 s)) (fun s c m g cap hs hg Ae hms hcm f1 f2 f3 f4=>(fun (hgs:¬ g=s∧¬ s=g)=>?_) hs.1))<;>(try simp only[Bt,Bu,Bc]at f1 f2 f3 f4))|((refine Lf (hDo s c m g cap hs hg Ae hms hcm) (fun k0 e2=>?_) (fun ge k0 cs f5 f6 f7 f8 f9 e2=>?_) hs.1 hg.1 hg.2 qc)<;>(try simp only[Bt,Bu,Bc]at f5))|refine c2 ((hGe s ge k0 ⟨f6,e2⟩)) ?_|refine c2 ((hGe s g k0 ⟨hs.1,e2⟩)) ?_|refine na fun b=>?_|refine nb fun b hb=>?_|refine iq ?_|(refine jq ?_ ?_<;>intro h h')|exact wZ|refine Aa ?_ ?_)<;>try refine DD ?_)
 all_goals rename_i b4 b5 hb5 b9 hb9 b13 hb13
 all_goals obtain ⟨b14,rfl⟩:∃ y,y=b:=⟨_,rfl⟩
 all_goals clear hF hL hG hGs hD hP hO hDo hGe hno0 q6 q7 q8 q9
 all_goals first
  | refine A2 (fun q:Nat × List PrP × Nat × Nat=>⟨lk [(2,.sl none 50 (Je th)),(3,.str data),(4,.ptr b4 0),(9,.ptr b9 0),(13,.ptr b13 0),(14,.ptr b14 0),(16,.int .i64 (q.1:Int))],lk [(b4,[.sl none 6 (CL e'),.sl none 8 (Hy k),.sl none 2 (AX m'),.sl none 2 (AX o),.sl none 1 (IQ n),.int .i64 a,.int .i64 ht,.int .i64 tm]),(b9,[.ptr s 0,.ptr c 0,.int .i64 ht,.int .i64 tm,.sl none 34 []]),(b13,[.str M1.p.s,.int .i64 M1.p.sc]),(b14,[.str sp,.int .i64 sc,.bool true,.bool true,.int .i64 sst]),(s,[.hsl q.2.2.1 115 2 q.2.1.length q.2.2.2]),(q.2.2.1,Aq q.2.2.2 q.2.1),(c,[.mapv m]),(m,[EA K])]⟩) (fun q=>q.1≤th.length∧StB q.2.1 (92+2 * q.1)∧Shut q.2.1 M1.p.s M1.p.sc ⟨sp,sc,true,true,sst⟩∧q.2.1.length≤q.2.2.2∧(¬ q.2.2.1=s∧¬ s=q.2.2.1)∧(¬ q.2.2.1=c∧¬ c=q.2.2.1)∧(¬ q.2.2.1=m∧¬ m=q.2.2.1)∧(¬ q.2.2.1=b4∧¬ b4=q.2.2.1)∧(¬ q.2.2.1=b9∧¬ b9=q.2.2.1)∧(¬ q.2.2.1=b13∧¬ b13=q.2.2.1)∧(¬ q.2.2.1=b14∧¬ b14=q.2.2.1)) (fun q=>th.length - q.1) (0,L2,ge,k0) ⟨Nat.zero_le _,hB2,hsh,e2,f6,f8,f9,by first|(simp only[*,Ct,and_self];done)|fail,by first|(simp only[*,Ct,and_self];done)|fail,by first|(simp only[*,Ct,and_self];done)|fail,by first|(simp only[*,Ct,and_self];done)|fail⟩ (An qd) ?_
  | refine A2 (fun q:Nat × List PrP × Nat × Nat=>⟨lk [(2,.sl none 50 (Je th)),(3,.str data),(4,.ptr b4 0),(9,.ptr b9 0),(13,.ptr b13 0),(14,.ptr b14 0),(16,.int .i64 (q.1:Int))],lk [(b4,[.sl none 6 (CL e'),.sl none 8 (Hy k),.sl none 2 (AX m'),.sl none 2 (AX o),.sl none 1 (IQ n),.int .i64 a,.int .i64 ht,.int .i64 tm]),(b9,[.ptr s 0,.ptr c 0,.int .i64 ht,.int .i64 tm,.sl none 34 []]),(b13,[.str M1.p.s,.int .i64 M1.p.sc]),(b14,[.str sp,.int .i64 sc,.bool true,.bool true,.int .i64 sst]),(s,[.hsl q.2.2.1 115 2 q.2.1.length q.2.2.2]),(q.2.2.1,Aq q.2.2.2 q.2.1),(c,[.mapv m]),(m,[EA K])]⟩) (fun q=>q.1≤th.length∧StB q.2.1 (92+2 * q.1)∧Shut q.2.1 M1.p.s M1.p.sc ⟨sp,sc,true,true,sst⟩∧q.2.1.length≤q.2.2.2∧(¬ q.2.2.1=s∧¬ s=q.2.2.1)∧(¬ q.2.2.1=c∧¬ c=q.2.2.1)∧(¬ q.2.2.1=m∧¬ m=q.2.2.1)∧(¬ q.2.2.1=b4∧¬ b4=q.2.2.1)∧(¬ q.2.2.1=b9∧¬ b9=q.2.2.1)∧(¬ q.2.2.1=b13∧¬ b13=q.2.2.1)∧(¬ q.2.2.1=b14∧¬ b14=q.2.2.1)) (fun q=>th.length - q.1) (0,L2,g,k0) ⟨Nat.zero_le _,hB2,hsh,e2,hgs,hg.1,hg.2,by first|(simp only[*,Ct,and_self];done)|fail,by first|(simp only[*,Ct,and_self];done)|fail,by first|(simp only[*,Ct,and_self];done)|fail,by first|(simp only[*,Ct,and_self];done)|fail⟩ (An qd) ?_
 all_goals clear hsh hB2
 all_goals
  rintro ⟨i,L1,g1,cap1⟩ ⟨hi,hB1,hS1,hc1,d1,d2,d3,d4,d5,d6,d7⟩
  simp only at hi hB1 hS1 hc1 d1 d2 d3 d4 d5 d6 d7 ⊢
  try clear hs hg hgs e2
  by_cases hil:i<th.length
  rotate_left
  ·obtain rfl:i=th.length:=by omega
   have y1:Ac (decide ((th.length:Int)<th.length)=false):=fo
   have hG1:=N4 s L1 hB1.I M1.p.s M1.p.sc (by omega) (some (g1,cap1)) ⟨d1,hc1⟩
   rw[hS1.1]at hG1
   have hSn:=a2P s c L1 hB1.I M1.p.s M1.p.sc data 0 0 ht tm [] hps (by omega) (some (g1,cap1)) ⟨d1,hc1⟩ 12 (a1P hS1 data 0 0) (by decide)
   have hdk:(default:PktC)=⟨[],0,[],0,0,[],0,0⟩:=rfl
   rw[hdk]at hSn
   simp only[AA]at hG1 hSn
   clear hB1 hS1 hdk hPn
   refine DD ?_
   repeat' ((first|exact tt|refine c2 hG1 ?_|refine c2 hSn ?_|refine na fun b=>?_|refine nb fun b hb=>?_|refine iq ?_|(refine jq ?_ ?_<;>intro h h')|exact wZ|refine Aa ?_ ?_)<;>try refine DD ?_)
   all_goals rfl
  have y1:Ac (decide ((i:Int)<th.length)=true):=fo
  obtain ⟨hPi,hlN⟩:=hPn i hil
  obtain ⟨M0,hgm⟩:∃ y,th.getD i Jx=y:=⟨_,rfl⟩
  rw[hgm]at hPi hlN
  obtain ⟨N,hN⟩:∃ y,Et lo true M0=y:=⟨_,rfl⟩
  rw[hN]at hPi hlN
  obtain ⟨hS2,hEv,hRv⟩:=W7 (K:=K) (ht:=ht) (tm:=tm) (M:=N) hB1 hS1
  have hB2:=b4i (K:=K) (ht:=ht) (tm:=tm) (M:=N) hB1 (by omega)
  have hB3:StB (Eo L1 K ht tm N).2.2 (92+2 * (i+1)):=hB2.mono (by omega)
  clear hB2 hS1 hN hPn
  by_cases hE1:(Eo L1 K ht tm N).2.1=0
  rotate_left
  ·have hDE:=a1b s c m L1 hB1.I K hKl N ht tm hlN (some (g1,cap1)) ⟨d1,hc1⟩ (S3 (by simp[d2,d3])) Ae hms hcm _ rfl hE1
   have y2:Ac (decide ((Eo L1 K ht tm N).2.1=0)=false):=A0 hE1
   rw[(W3 hE1).2]at hS2 hB3
   simp only[AA,Bi,Bj]at hDE
   clear hEv hRv hlN hE1 hB1
   generalize (Eo L1 K ht tm N).2.1=E1 at *
   have zz:Ac (decide (((0:Nat):Int)<((0:Nat):Int))=false):=rfl
   cases hk2:decide (N.k=2)
   ·have y3:Ac (decide (N.k=2)=false):=hk2
    clear hk2
    refine DD ?_
    repeat' ((first|exact tt|refine Ag hPi ?_|(refine c4 hDE ?_ qc)|refine na fun b=>?_|refine nb fun b hb=>?_|refine iq ?_|(refine jq ?_ ?_<;>intro h h')|exact wZ|refine Aa ?_ ?_)<;>try refine DD ?_)
    all_goals
     refine A2 (fun j:Nat=>⟨lk [(2,.sl none 50 (Je th)),(3,.str data),(4,.ptr b4 0),(9,.ptr b9 0),(13,.ptr b13 0),(14,.ptr b14 0),(16,.int .i64 (i:Int)),(18,.sl none 13 ([])),(20,.int .i64 (j:Int))],lk [(b4,[.sl none 6 (CL e'),.sl none 8 (Hy k),.sl none 2 (AX m'),.sl none 2 (AX o),.sl none 1 (IQ n),.int .i64 a,.int .i64 ht,.int .i64 tm]),(b9,[.ptr s 0,.ptr c 0,.int .i64 ht,.int .i64 tm,.sl none 34 []]),(b13,[.str M1.p.s,.int .i64 M1.p.sc]),(b14,[.str sp,.int .i64 sc,.bool true,.bool true,.int .i64 sst]),(s,[.hsl g1 115 2 L1.length cap1]),(g1,Aq cap1 L1),(c,[.mapv m]),(m,[EA K])]⟩) (fun j=>j=0) (fun _=>0) 0 rfl (An qd) ?_
     rintro j rfl
     refine DD ?_
     repeat' ((first|exact tt|refine na fun b=>?_|refine nb fun b hb=>?_|refine iq ?_|(refine jq ?_ ?_<;>intro h h')|exact wZ|refine Aa ?_ ?_)<;>try refine DD ?_)
    all_goals exact AC (i+1,L1,g1,cap1) ⟨An qd,⟨hil,hB3,hS2,hc1,d1,d2,d3,d4,d5,d6,d7⟩,by simp only;omega⟩
   ·have y3:Ac (decide (N.k=2)=true):=hk2
    clear hk2
    generalize hA3:(decide (N.p.d=M1.p.s)&&decide (N.p.dc=M1.p.sc))=A3
    cases A3
    all_goals (refine DD ?_;try exact tt)
    all_goals repeat' ((first|exact tt|refine Ag hPi ?_|(refine c4 hDE ?_ qc)|refine na fun b=>?_|refine nb fun b hb=>?_|refine iq ?_|(refine jq ?_ ?_<;>intro h h')|exact wZ|refine Aa ?_ ?_)<;>try refine DD ?_)
    all_goals
     refine A2 (fun j:Nat=>⟨lk [(2,.sl none 50 (Je th)),(3,.str data),(4,.ptr b4 0),(9,.ptr b9 0),(13,.ptr b13 0),(14,.ptr b14 0),(16,.int .i64 (i:Int)),(18,.sl none 13 ([])),(20,.int .i64 (j:Int))],lk [(b4,[.sl none 6 (CL e'),.sl none 8 (Hy k),.sl none 2 (AX m'),.sl none 2 (AX o),.sl none 1 (IQ n),.int .i64 a,.int .i64 ht,.int .i64 tm]),(b9,[.ptr s 0,.ptr c 0,.int .i64 ht,.int .i64 tm,.sl none 34 []]),(b13,[.str M1.p.s,.int .i64 M1.p.sc]),(b14,[.str sp,.int .i64 sc,.bool true,.bool true,.int .i64 sst]),(s,[.hsl g1 115 2 L1.length cap1]),(g1,Aq cap1 L1),(c,[.mapv m]),(m,[EA K])]⟩) (fun j=>j=0) (fun _=>0) 0 rfl (An qd) ?_
     rintro j rfl
     refine DD ?_
     repeat' ((first|exact tt|refine na fun b=>?_|refine nb fun b hb=>?_|refine iq ?_|(refine jq ?_ ?_<;>intro h h')|exact wZ|refine Aa ?_ ?_)<;>try refine DD ?_)
    all_goals exact AC (i+1,L1,g1,cap1) ⟨An qd,⟨hil,hB3,hS2,hc1,d1,d2,d3,d4,d5,d6,d7⟩,by simp only;omega⟩
  have hDO:=b3a s c m L1 (92+2 * i) hB1 (by omega) K N ht tm hlN (some (g1,cap1)) ⟨d1,hc1⟩ (S3 (by simp[d2,d3])) Ae hms hcm hE1
  change CT _ _ _ _ (HE s c m (Eo L1 K ht tm N).2.2 K _ (.tup [.sl none 13 (Lq (Eo L1 K ht tm N).1),.int .i64 0])) at hDO
  simp only[AA,Bi,Bj]at hDO
  have hA:decide (N.k=2)=false∨(decide (N.k=2)=true∧(decide (N.p.d=M1.p.s)&&decide (N.p.dc=M1.p.sc))=false):=by
   cases hk2:decide (N.k=2)
   ·exact .inl rfl
   ·refine .inr ⟨rfl, ?_⟩
    have hh:=hRv (of_decide_eq_true hk2)
    cases h8:(decide (N.p.d=M1.p.s)&&decide (N.p.dc=M1.p.sc))
    ·rfl
    ·simp only[AP,Bs]at h8
     exact absurd hE1 (hh h8.1 h8.2)
  have hevl:=W4 hE1
  clear hRv hlN hE1 hB1
  generalize (Eo L1 K ht tm N).2.2=L3 at *
  generalize (Eo L1 K ht tm N).1=evs at *
  rcases hA with y3 | ⟨y3,y4⟩
  all_goals have y3:=(show Ac _ from y3)
  all_goals simp (disch:=omega) only[hgm,hsp, *, ↓Ed,Eu, ↓reduceIte,reduceCtorEq,Nat.reduceAdd,Nat.reduceEqDiff,Nat.reduceLT,Nat.reduceLeDiff,Int.reduceToNat,Int.reduceEq,Int.reduceLT,Int.reduceLE,Ap,List.getD_cons_zero,List.getD_cons_succ,GvC.cs,EvC.cs,Es.cs,Ax,DZ,C4, ↓Ht, ↓H0, ↓H1, ↓b4A, ↓Oj, ↓Ez, ↓EL,b2j,Qg,Ps,Np,MB,SI]
  all_goals repeat' ((first|exact tt|refine Ag hPi ?_|((refine Lf hDO (fun k0 e2=>?_) (fun ge k0 cs f5 f6 f7 f8 f9 e2=>?_) d1 d2 d3 qc)<;>(try simp only[Bt,Bu,Bc]at f5))|refine na fun b=>?_|refine nb fun b hb=>?_|refine iq ?_|(refine jq ?_ ?_<;>intro h h')|exact wZ|refine Aa ?_ ?_)<;>try refine DD ?_)
  ·refine A2 (fun j:Nat=>⟨lk [(2,.sl none 50 (Je th)),(3,.str data),(4,.ptr b4 0),(9,.ptr b9 0),(13,.ptr b13 0),(14,.ptr b14 0),(16,.int .i64 (i:Int)),(18,.sl none 13 (Lq evs)),(20,.int .i64 (j:Int))],lk [(b4,[.sl none 6 (CL e'),.sl none 8 (Hy k),.sl none 2 (AX m'),.sl none 2 (AX o),.sl none 1 (IQ n),.int .i64 a,.int .i64 ht,.int .i64 tm]),(b9,[.ptr s 0,.ptr c 0,.int .i64 ht,.int .i64 tm,.sl none 34 []]),(b13,[.str M1.p.s,.int .i64 M1.p.sc]),(b14,[.str sp,.int .i64 sc,.bool true,.bool true,.int .i64 sst]),(s,[.hsl g1 115 2 L3.length k0]),(g1,Aq k0 L3),(c,[.mapv m]),(m,[EA K])]⟩) (fun j=>j≤evs.length) (fun j=>evs.length - j) 0 (Nat.zero_le _) (An qd) ?_
   intro j hj
   by_cases hjl:j<evs.length
   rotate_left
   ·obtain rfl:j=evs.length:=by omega
    have z1:Ac (decide ((evs.length:Int)<evs.length)=false):=fo
    refine DD ?_
    repeat' ((first|exact tt|refine na fun b=>?_|refine nb fun b hb=>?_|refine iq ?_|(refine jq ?_ ?_<;>intro h h')|exact wZ|refine Aa ?_ ?_)<;>try refine DD ?_)
    all_goals exact AC (i+1,L3,g1,k0) ⟨An qd,⟨hil,hB3,hS2,e2,d1,d2,d3,d4,d5,d6,d7⟩,by simp only;omega⟩
   have z1:Ac (decide ((j:Int)<evs.length)=true):=fo
   have z2:=hEv (evs.getD j default) (by rw[List.getD,Aw hjl];exact Di hjl)
   obtain ⟨E0,hgd⟩:∃ y,evs.getD j default=y:=⟨_,rfl⟩
   rw[hgd]at z2
   by_cases hk6:E0.k=6
   ·have z3:Ac (decide (E0.k=6)=true):=AO hk6
    have z4:(decide (E0.e=M1.p.s)&&decide (E0.ec=M1.p.sc))=false:=by
     have:=z2 hk6
     simpa using this
    clear z2 hk6
    refine DD ?_
    repeat' ((first|exact tt|refine na fun b=>?_|refine nb fun b hb=>?_|refine iq ?_|(refine jq ?_ ?_<;>intro h h')|exact wZ|refine Aa ?_ ?_)<;>try refine DD ?_)
    all_goals exact AC (j+1) ⟨An qd,hjl,by omega⟩
   ·have z3:Ac (decide (E0.k=6)=false):=A0 hk6
    clear z2 hk6
    refine DD ?_
    repeat' ((first|exact tt|refine na fun b=>?_|refine nb fun b hb=>?_|refine iq ?_|(refine jq ?_ ?_<;>intro h h')|exact wZ|refine Aa ?_ ?_)<;>try refine DD ?_)
    all_goals exact AC (j+1) ⟨An qd,hjl,by omega⟩
  ·refine A2 (fun j:Nat=>⟨lk [(2,.sl none 50 (Je th)),(3,.str data),(4,.ptr b4 0),(9,.ptr b9 0),(13,.ptr b13 0),(14,.ptr b14 0),(16,.int .i64 (i:Int)),(18,.sl none 13 (Lq evs)),(20,.int .i64 (j:Int))],lk [(b4,[.sl none 6 (CL e'),.sl none 8 (Hy k),.sl none 2 (AX m'),.sl none 2 (AX o),.sl none 1 (IQ n),.int .i64 a,.int .i64 ht,.int .i64 tm]),(b9,[.ptr s 0,.ptr c 0,.int .i64 ht,.int .i64 tm,.sl none 34 []]),(b13,[.str M1.p.s,.int .i64 M1.p.sc]),(b14,[.str sp,.int .i64 sc,.bool true,.bool true,.int .i64 sst]),(s,[.hsl ge 115 2 L3.length k0]),(ge,Aq k0 L3),(c,[.mapv m]),(m,[EA K])]⟩) (fun j=>j≤evs.length) (fun j=>evs.length - j) 0 (Nat.zero_le _) (An qd) ?_
   intro j hj
   by_cases hjl:j<evs.length
   rotate_left
   ·obtain rfl:j=evs.length:=by omega
    have z1:Ac (decide ((evs.length:Int)<evs.length)=false):=fo
    refine DD ?_
    repeat' ((first|exact tt|refine na fun b=>?_|refine nb fun b hb=>?_|refine iq ?_|(refine jq ?_ ?_<;>intro h h')|exact wZ|refine Aa ?_ ?_)<;>try refine DD ?_)
    all_goals exact AC (i+1,L3,ge,k0) ⟨An qd,⟨hil,hB3,hS2,e2,f6,f8,f9,by first|(simp only[*,Ct,and_self];done)|fail,by first|(simp only[*,Ct,and_self];done)|fail,by first|(simp only[*,Ct,and_self];done)|fail,by first|(simp only[*,Ct,and_self];done)|fail⟩,by simp only;omega⟩
   have z1:Ac (decide ((j:Int)<evs.length)=true):=fo
   have z2:=hEv (evs.getD j default) (by rw[List.getD,Aw hjl];exact Di hjl)
   obtain ⟨E0,hgd⟩:∃ y,evs.getD j default=y:=⟨_,rfl⟩
   rw[hgd]at z2
   by_cases hk6:E0.k=6
   ·have z3:Ac (decide (E0.k=6)=true):=AO hk6
    have z4:(decide (E0.e=M1.p.s)&&decide (E0.ec=M1.p.sc))=false:=by
     have:=z2 hk6
     simpa using this
    clear z2 hk6
    refine DD ?_
    repeat' ((first|exact tt|refine na fun b=>?_|refine nb fun b hb=>?_|refine iq ?_|(refine jq ?_ ?_<;>intro h h')|exact wZ|refine Aa ?_ ?_)<;>try refine DD ?_)
    all_goals exact AC (j+1) ⟨An qd,hjl,by omega⟩
   ·have z3:Ac (decide (E0.k=6)=false):=A0 hk6
    clear z2 hk6
    refine DD ?_
    repeat' ((first|exact tt|refine na fun b=>?_|refine nb fun b hb=>?_|refine iq ?_|(refine jq ?_ ?_<;>intro h h')|exact wZ|refine Aa ?_ ?_)<;>try refine DD ?_)
    all_goals exact AC (j+1) ⟨An qd,hjl,by omega⟩
  ·refine A2 (fun j:Nat=>⟨lk [(2,.sl none 50 (Je th)),(3,.str data),(4,.ptr b4 0),(9,.ptr b9 0),(13,.ptr b13 0),(14,.ptr b14 0),(16,.int .i64 (i:Int)),(18,.sl none 13 (Lq evs)),(20,.int .i64 (j:Int))],lk [(b4,[.sl none 6 (CL e'),.sl none 8 (Hy k),.sl none 2 (AX m'),.sl none 2 (AX o),.sl none 1 (IQ n),.int .i64 a,.int .i64 ht,.int .i64 tm]),(b9,[.ptr s 0,.ptr c 0,.int .i64 ht,.int .i64 tm,.sl none 34 []]),(b13,[.str M1.p.s,.int .i64 M1.p.sc]),(b14,[.str sp,.int .i64 sc,.bool true,.bool true,.int .i64 sst]),(s,[.hsl g1 115 2 L3.length k0]),(g1,Aq k0 L3),(c,[.mapv m]),(m,[EA K])]⟩) (fun j=>j≤evs.length) (fun j=>evs.length - j) 0 (Nat.zero_le _) (An qd) ?_
   intro j hj
   by_cases hjl:j<evs.length
   rotate_left
   ·obtain rfl:j=evs.length:=by omega
    have z1:Ac (decide ((evs.length:Int)<evs.length)=false):=fo
    refine DD ?_
    repeat' ((first|exact tt|refine na fun b=>?_|refine nb fun b hb=>?_|refine iq ?_|(refine jq ?_ ?_<;>intro h h')|exact wZ|refine Aa ?_ ?_)<;>try refine DD ?_)
    all_goals exact AC (i+1,L3,g1,k0) ⟨An qd,⟨hil,hB3,hS2,e2,d1,d2,d3,d4,d5,d6,d7⟩,by simp only;omega⟩
   have z1:Ac (decide ((j:Int)<evs.length)=true):=fo
   have z2:=hEv (evs.getD j default) (by rw[List.getD,Aw hjl];exact Di hjl)
   obtain ⟨E0,hgd⟩:∃ y,evs.getD j default=y:=⟨_,rfl⟩
   rw[hgd]at z2
   by_cases hk6:E0.k=6
   ·have z3:Ac (decide (E0.k=6)=true):=AO hk6
    have z4:(decide (E0.e=M1.p.s)&&decide (E0.ec=M1.p.sc))=false:=by
     have:=z2 hk6
     simpa using this
    clear z2 hk6
    refine DD ?_
    repeat' ((first|exact tt|refine na fun b=>?_|refine nb fun b hb=>?_|refine iq ?_|(refine jq ?_ ?_<;>intro h h')|exact wZ|refine Aa ?_ ?_)<;>try refine DD ?_)
    all_goals exact AC (j+1) ⟨An qd,hjl,by omega⟩
   ·have z3:Ac (decide (E0.k=6)=false):=A0 hk6
    clear z2 hk6
    refine DD ?_
    repeat' ((first|exact tt|refine na fun b=>?_|refine nb fun b hb=>?_|refine iq ?_|(refine jq ?_ ?_<;>intro h h')|exact wZ|refine Aa ?_ ?_)<;>try refine DD ?_)
    all_goals exact AC (j+1) ⟨An qd,hjl,by omega⟩
  ·refine A2 (fun j:Nat=>⟨lk [(2,.sl none 50 (Je th)),(3,.str data),(4,.ptr b4 0),(9,.ptr b9 0),(13,.ptr b13 0),(14,.ptr b14 0),(16,.int .i64 (i:Int)),(18,.sl none 13 (Lq evs)),(20,.int .i64 (j:Int))],lk [(b4,[.sl none 6 (CL e'),.sl none 8 (Hy k),.sl none 2 (AX m'),.sl none 2 (AX o),.sl none 1 (IQ n),.int .i64 a,.int .i64 ht,.int .i64 tm]),(b9,[.ptr s 0,.ptr c 0,.int .i64 ht,.int .i64 tm,.sl none 34 []]),(b13,[.str M1.p.s,.int .i64 M1.p.sc]),(b14,[.str sp,.int .i64 sc,.bool true,.bool true,.int .i64 sst]),(s,[.hsl ge 115 2 L3.length k0]),(ge,Aq k0 L3),(c,[.mapv m]),(m,[EA K])]⟩) (fun j=>j≤evs.length) (fun j=>evs.length - j) 0 (Nat.zero_le _) (An qd) ?_
   intro j hj
   by_cases hjl:j<evs.length
   rotate_left
   ·obtain rfl:j=evs.length:=by omega
    have z1:Ac (decide ((evs.length:Int)<evs.length)=false):=fo
    refine DD ?_
    repeat' ((first|exact tt|refine na fun b=>?_|refine nb fun b hb=>?_|refine iq ?_|(refine jq ?_ ?_<;>intro h h')|exact wZ|refine Aa ?_ ?_)<;>try refine DD ?_)
    all_goals exact AC (i+1,L3,ge,k0) ⟨An qd,⟨hil,hB3,hS2,e2,f6,f8,f9,by first|(simp only[*,Ct,and_self];done)|fail,by first|(simp only[*,Ct,and_self];done)|fail,by first|(simp only[*,Ct,and_self];done)|fail,by first|(simp only[*,Ct,and_self];done)|fail⟩,by simp only;omega⟩
   have z1:Ac (decide ((j:Int)<evs.length)=true):=fo
   have z2:=hEv (evs.getD j default) (by rw[List.getD,Aw hjl];exact Di hjl)
   obtain ⟨E0,hgd⟩:∃ y,evs.getD j default=y:=⟨_,rfl⟩
   rw[hgd]at z2
   by_cases hk6:E0.k=6
   ·have z3:Ac (decide (E0.k=6)=true):=AO hk6
    have z4:(decide (E0.e=M1.p.s)&&decide (E0.ec=M1.p.sc))=false:=by
     have:=z2 hk6
     simpa using this
    clear z2 hk6
    refine DD ?_
    repeat' ((first|exact tt|refine na fun b=>?_|refine nb fun b hb=>?_|refine iq ?_|(refine jq ?_ ?_<;>intro h h')|exact wZ|refine Aa ?_ ?_)<;>try refine DD ?_)
    all_goals exact AC (j+1) ⟨An qd,hjl,by omega⟩
   ·have z3:Ac (decide (E0.k=6)=false):=A0 hk6
    clear z2 hk6
    refine DD ?_
    repeat' ((first|exact tt|refine na fun b=>?_|refine nb fun b hb=>?_|refine iq ?_|(refine jq ?_ ?_<;>intro h h')|exact wZ|refine Aa ?_ ?_)<;>try refine DD ?_)
    all_goals exact AC (j+1) ⟨An qd,hjl,by omega⟩
end
section
open Go.RowKit Go.Lib
open Classical in
theorem a1N(x:GvC)(M:MsgC)(th:List MsgC)(data:List UInt8):CP Tryz.prog 4 [.agg x.cs,.agg (AD M),.sl none 50 (Je th),.str data] (.bool true):=by
 by_cases h:HY x∧Kt M∧th.length≤6∧NX th∧data.length≤600
 rotate_left
 ·exact S2 x M th data h
 have hL:=a8L x
 have hG:=a8M M
 have hGs:=RG th
 obtain ⟨hx,hm,ht6,hms,hda⟩:=h
 rw[AO hx]at hL
 rw[AO hm]at hG
 rw[AO hms]at hGs
 have hlm:=a4W hm
 obtain ⟨o1,o2⟩:=b0v hx.2.2.2.1
 have hoB:=(Z1 x.o o2).b
 have q6:Ac (decide (6<(th.length:Int))=false):=fo
 have q7:Ac (decide (600<(data.length:Int))=false):=fo
 have hPn:=fun i (hi:i<th.length)=>(fun (hl:LgM (th.getD i Jx))=>(show CP Tryz.prog 11 [.agg (AD (th.getD i Jx)),.sl none 2 (AX x.o),.bool true] (.agg (AD (Et (Cn [] x.o x.o.length) true (th.getD i Jx))))∧LgM (Et (Cn [] x.o x.o.length) true (th.getD i Jx)) from ⟨a8U _ x.o o1 o2 hl.s hl.d true,b0u (by omega) true hl⟩)) (a4W (hms.2 i hi))
 have hP:=a8U M x.o o1 o2 hlm.s hlm.d true
 have hl1:=b0u (l:=Cn [] x.o x.o.length) (by omega) true hlm
 have hps:(Et (Cn [] x.o x.o.length) true M).p.s.length≤1000:=by rw[(b0t _ _ _).2.1];have:=hm.1.1;omega
 obtain ⟨L,K,hB,hK,hnl,hD,hO⟩:=b3G hx
 have hKl:K.length≤1000:=by have:=hK.len;omega
 by_cases hE:(Eo L K x.ht x.tm (Et (Cn [] x.o x.o.length) true M)).2.1=0
 rotate_left
 ·exact TP x M th data hL hG hGs q6 q7 _ hP hl1 L K hB hKl hD hO hE
 by_cases h2:∃ e0 e1,(Eo L K x.ht x.tm (Et (Cn [] x.o x.o.length) true M)).1=[e0,e1]∧e1.k=6
 rotate_left
 ·exact Uy x M th data hL hG hGs q6 q7 _ hP hl1 L K hB hKl hD hO hE h2
 obtain ⟨e0,e1,h2,h6⟩:=h2
 exact UT x M th data hL hG hGs q6 q7 _ hP hl1 L K hB hKl hD hO _ ht6 hda hPn hE e0 e1 h2 h6 hps
end
section
open Go.RowKit Go.WideShapes Go.ChangeShapes

def chainB(P:Program):Nat→List Field→Option Nat
 | a,[]=>some a
 | a,f::fs=>if f.offset=a then chainB P (a+P.cellsOf f.type) fs else none
def Hk(P:Program):Nat→TypeId→Bool
 | 0,_=>false
 | n+1,t=>match P.underlying t with
  | some .bool=>true
  | some (.int _)=>true
  | some .string=>true
  | some (.struct fs)=>decide (chainB P 0 fs.toList=some (P.cellsOf t))&&fs.toList.all fun f=>Hk P n f.type
  | some (.slice e)=>decide (0<P.cellsOf e)&&Hk P n e
  | some (.array m e)=>decide (P.cellsOf t=m * P.cellsOf e)&&Hk P n e
  | _=>false
def Ir(R:TypeId→List AV→Prop):List Field→List AV→Prop
 | [],l=>l=[]
 | f::fs,l=>∃ p q,R f.type p∧Ir R fs q∧l=p++q
def TV(P:Program):Nat→TypeId→List AV→Prop
 | 0,_,_=>False
 | n+1,t,l=>match P.underlying t with
  | some .bool=>∃ b,l=[.bool b]
  | some (.int k)=>∃ m,l=[.int k m]∧(Lit.int k m).wf=true
  | some .string=>∃ s,l=[.str s]∧s.length≤maxLen
  | some (.struct fs)=>Ir (TV P n) fs.toList l
  | some (.slice e)=>∃ els,l=[.sl none (P.cellsOf e) els]∧els.length≤maxLen∧∀ c∈els,TV P n e c
  | some (.array m e)=>∃ els:List (List AV),l=els.flatten∧els.length=m∧∀ c∈els,TV P n e c
  | _=>False
def TA(P:Program)(n:Nat)(t:TypeId)(a:AV):Prop:=match P.underlying t with
 | some (.struct _)=>∃ l,a=.agg l∧TV P n t l
 | some (.array _ _)=>∃ l,a=.agg l∧TV P n t l
 | _=>TV P n t [a]
def QT(P:Program)(n:Nat):List TypeId→List AV→Prop
 | [],l=>l=[]
 | t::ts,l=>∃ a q,TA P n t a∧QT P n ts q∧l=a::q

structure VRs (W:World) (U:Nat→Nat→Prop) (cs:List Value) (l:List AV):Prop where
 len:cs.length=l.length
 vr:∀ (i:Nat) (v:Value) (c:AV),cs[i]?=some v→l[i]?=some c→VR W U v c
 one:∀ v∈cs,v.oneCell'=true
section
variable {W:World} {U:Nat→Nat→Prop}
theorem VRs.nil:VRs W U [] []:=⟨rfl,fun i v c h=>by simp at h,fun v h=>by simp at h⟩
theorem VRs.one1{v:Value}{c:AV}(h:VR W U v c)(h1:v.oneCell'=true):VRs W U [v] [c]:=
 ⟨rfl,fun i v' c' hv hc=>by
  cases i with
  | zero=>simp at hv hc;subst hv;subst hc;exact h
  | succ i=>simp at hv,fun v' hv=>by simp at hv;subst hv;exact h1⟩
theorem VRs.append{a b:List Value}{l m:List AV}(h:VRs W U a l)(g:VRs W U b m):VRs W U (a++b) (l++m):=by
 refine ⟨by simp[h.len,g.len],fun i v c hv hc=>?_,fun v hv=>?_⟩
 ·by_cases hi:i<a.length
  ·rw[CB hi]at hv
   rw[CB (by have:=h.len;omega)]at hc
   exact h.vr i v c hv hc
  ·rw[Cj (by omega)]at hv
   rw[Cj (by have:=h.len;omega), ← h.len]at hc
   exact g.vr _ v c hv hc
 ·rcases Bv.1 hv with hv|hv
  ·exact h.one v hv
  ·exact g.one v hv
end

theorem SA{α:Type}{R:Nat→α→Prop}:∀ (n:Nat),(∀ i,i<n→∃ a,R i a)→∃ l:List α,l.length=n∧∀ i a,l[i]?=some a→R i a
 | 0,_=>⟨[],rfl,fun i a h=>by simp at h⟩
 | n+1,h=>by
  obtain ⟨l,hl,hr⟩:=SA n (fun i hi=>h i (by omega))
  obtain ⟨a,ha⟩:=h n (by omega)
  refine ⟨l++[a],by simp[hl],fun i b hb=>?_⟩
  by_cases hi:i<n
  ·rw[CB (by omega)]at hb;exact hr i b hb
  ·rw[Cj (by omega)]at hb
   have hin:i=n:=by
    by_cases h0:i - l.length=0
    ·omega
    ·have:(i - l.length)=(i - l.length - 1)+1:=by omega
     rw[this]at hb;simp at hb
   subst hin
   simp[hl]at hb
   exact hb▸ha

section
variable {H:Type} {enc:TypeId × Value→H} {P:Program} {W:World} {base:Nat} {spare:Nat→Bool} {held:Bool} {U:Nat→Nat→Prop}

theorem Y5{R:TypeId→List AV→Prop}(cs:List Value):
  ∀ (fs:List Field) (a tot:Nat),chainB P a fs=some tot→cs.length=tot→(∀ f∈fs, ∃ p,R f.type p∧VRs W U ((cs.drop f.offset).take (P.cellsOf f.type)) p )→
   ∃ l,Ir R fs l∧VRs W U (cs.drop a) l
 | [],a,tot,h,hl,_=>by
  simp only[chainB,Az]at h
  subst h
  exact ⟨[],rfl,by rw[Jd (by omega)];exact VRs.nil⟩
 | f::fs,a,tot,h,hl,hf=>by
  simp only[chainB]at h
  split at h
  ·rename_i ha
   obtain ⟨p,h1,h2⟩:=hf f (by simp)
   obtain ⟨q,g1,g2⟩:=Y5 cs fs _ tot h hl (fun g hg=>hf g (by simp[hg]))
   refine ⟨p++q,⟨p,q,h1,g1,rfl⟩, ?_⟩
   have e:cs.drop a=(cs.drop a).take (P.cellsOf f.type)++cs.drop (a+P.cellsOf f.type):=by
    rw[← List.drop_drop,HN]
   rw[e]
   rw[ha]at h2
   exact h2.append g2
  ·cases h

theorem Y4{ce:Nat}:∀ (els:List (List AV)) (cs:List Value),cs.length=els.length * ce→(∀ (i:Nat) (l:List AV),els[i]?=some l→VRs W U ((cs.drop (i * ce)).take ce) l)→VRs W U cs els.flatten
 | [],cs,hl,_=>by
  have:cs=[]:=K4.1 (by simpa using hl)
  subst this;exact VRs.nil
 | e::els,cs,hl,h=>by
  have h0:=h 0 e rfl
  simp only[Nat.zero_mul,List.drop_zero]at h0
  have hr:=Y4 (ce:=ce) els (cs.drop ce) (by simp only[AJ,Bp]at hl;simp;omega) fun i l hi=>by
   have:=h (i+1) l (by simpa using hi)
   rw[Bp,F7,Nat.add_comm, ← List.drop_drop]at this
   exact this
  have:=h0.append hr
  rwa [HN]at this

theorem PK(hU:∀ b o, ¬ U b o):∀ (n:Nat) (t:TypeId) (cs:List Value) (fuel:Nat) (x:DataW H × List MemPlace),Hk P n t=true→DataW.trod enc P W base spare held fuel t cs=some x→
  ∃ l,TV P n t l∧VRs W U cs l
 | 0,t,cs,fuel,x,hf,h=>by simp[Hk]at hf
 | n+1,t,cs,fuel,x,hf,h=>by
  unfold Hk at hf
  unfold TV
  split at hf
  ·rename_i ht
   obtain ⟨b,rfl,_⟩:=DataW.trod_bool ht h
   exact ⟨_,⟨b,rfl⟩,VRs.one1 (.bool b) rfl⟩
  ·rename_i k ht
   obtain ⟨m,rfl,_,hw⟩:=DataW.trod_int ht h
   exact ⟨_,⟨m,rfl,hw⟩,VRs.one1 (.int k m) rfl⟩
  ·rename_i ht
   obtain ⟨s,rfl,_,hs⟩:=DataW.trod_string ht h
   obtain ⟨⟨l⟩⟩:=s
   exact ⟨_,⟨l,rfl,hs⟩,VRs.one1 (.str l) rfl⟩
  ·rename_i fs ht
   simp only[AP,Bs,Ew]at hf
   obtain ⟨hch,hall⟩:=hf
   obtain ⟨xs,m,_,_,hlen,hxl,hfi⟩:=DataW.trod_struct ht h
   have:=Y5 (W:=W) (U:=U) (R:=TV P n) cs fs.toList 0 _ hch hlen (fun f hfm=>?_)
   ·simpa using this
   obtain ⟨i,hi,hfe⟩:=Do hfm
   have hfi':=hfi i f (by rw[← hfe];simp at hi;simp[hi])
   have hxi:xs[i]?=some (xs[i]'(by simp at hi;omega)):=Aw _
   rw[hxi]at hfi'
   obtain ⟨p,h1,h2⟩:=PK hU n f.type _ _ _ (hall f hfm) hfi'
   exact ⟨p,h1,h2⟩
  ·rename_i e ht
   simp only[AP,Bs]at hf
   obtain ⟨hpos,hfe⟩:=hf
   rcases Go.Deep.open_slice ht h with ⟨rfl,_⟩ | ⟨a,len,cap,m,n',D,Pl,rfl,_,hl,hm,hmm,_,hi⟩
   ·refine ⟨_,⟨[],rfl,by simp,by simp⟩,VRs.one1 ?_ rfl⟩
    exact .sl none 0 none [] 0 0 (P.cellsOf e) (fun _ _=>undef) (by simp) (by simp) (by simp) (by simp) (by simp) (by simp)
   ·have hlm:len≤m:=by rw[hmm];split<;>omega
    obtain ⟨els,hel,hr⟩:=SA (R:=fun i l=>TV P n e l∧∃ cs',W.cells? base (a.add (i * P.cellsOf e)) (P.cellsOf e)=some cs'∧VRs W U cs' l) len (fun i hil=>by
     obtain ⟨cs',hc,ht'⟩:=hi i (by omega)
     obtain ⟨l,h1,h2⟩:=PK hU n e _ _ _ hfe ht'
     exact ⟨l,h1,cs',hc,h2⟩)
    refine ⟨_,⟨els,rfl,by omega,fun c hc=>?_⟩,VRs.one1 ?_ rfl⟩
    ·obtain ⟨i,hi',rfl⟩:=Do hc
     exact (hr i _ (Aw hi')).1
    ·obtain ⟨b,o,spot⟩:=a
     have hcell:∀ i j,i<els.length→j<P.cellsOf e→∃ v,W.cell? ⟨b,o+i * P.cellsOf e+j,none⟩=some v∧v.oneCell'=true∧(∀ c,(els[i]?.bind (·[j]?))=some c→VR W U v c)∧(0<len→spot=none):=by
      intro i j hi' hj
      obtain ⟨_,cs',hc,hv⟩:=hr i _ (Aw hi')
      obtain ⟨_,hcl,hat⟩:=World.cells?_some hc
      have hcj:=hat j hj
      have hjl:cs'[j]?=some (cs'[j]'(by omega)):=Aw _
      rw[hjl]at hcj
      have hsp:0<len→spot=none:=fun h0=>by
       obtain ⟨cs0,hc0,_⟩:=hi 0 (by omega)
       obtain ⟨_,hcl0,hat0⟩:=World.cells?_some hc0
       have:=hat0 0 hpos
       rw[show cs0[0]?=some (cs0[0]'(by omega)) from Aw _]at this
       have:=World.cell?_spot this
       simpa[Addr.add]using this
      have hs0:=hsp (by omega)
      subst hs0
      have ea:((⟨b,o,none⟩:Addr).add (i * P.cellsOf e)).add j=⟨b,o+i * P.cellsOf e+j,none⟩:=by
       rw[Go.Deep.add_add]
       unfold Addr.add
       split
       ·rename_i h0;first|(simp;done)|(simp;omega)
       ·simp[Nat.add_assoc]
      rw[ea]at hcj
      refine ⟨_,hcj,hv.one _ (Di _),fun c hc'=>?_,hsp⟩
      rw[Aw hi']at hc'
      exact hv.vr j _ c hjl hc'
     rw[← hel]at hl ⊢
     have hsz:∀ l∈els,l.length=P.cellsOf e:=fun l hl'=>by
      obtain ⟨i,hi',rfl⟩:=Do hl'
      obtain ⟨_,cs',hc,hv⟩:=hr i _ (Aw hi')
      rw[← hv.len]
      exact (World.cells?_some hc).2.1
     refine .sl _ cap none els b o (P.cellsOf e) (fun i j=>(W.cell? ⟨b,o+i * P.cellsOf e+j,none⟩).getD undef) hl hm (fun h0=>?_) hsz (fun i j hi' hj=>?_) (fun i l j c hl' hc=>?_)
     ·obtain ⟨v,_,_,_,hs⟩:=hcell 0 0 h0 hpos
      rw[hs (by omega)]
     ·obtain ⟨v,h1,h2,_⟩:=hcell i j hi' hj
      rw[h1]
      exact ⟨rfl,h2,hU _ _⟩
     ·have hi':i<els.length:=(AM.1 hl').1
      have hj:j<P.cellsOf e:=by rw[← hsz l (Dd hl')];exact (AM.1 hc).1
      obtain ⟨v,h1,_,h3,_⟩:=hcell i j hi' hj
      rw[h1]
      exact h3 c (by rw[hl'];exact hc)
  ·rename_i m e ht
   simp only[AP,Bs]at hf
   obtain ⟨hsz,hfe⟩:=hf
   obtain ⟨xs,m',_,_,hlen,hxl,hfi⟩:=DataW.trod_array ht h
   obtain ⟨els,hel,hr⟩:=SA (R:=fun i l=>TV P n e l∧VRs W U ((cs.drop (i * P.cellsOf e)).take (P.cellsOf e)) l) m (fun i hi=>by
    have h1:=hfi i hi
    rw[show xs[i]?=some (xs[i]'(by omega)) from Aw _]at h1
    exact PK hU n e _ _ _ hfe h1)
   refine ⟨_,⟨els,rfl,hel,fun c hc=>?_⟩,Y4 els cs (by rw[hlen,hsz,hel]) fun i l hi=>(hr i l hi).2⟩
   obtain ⟨i,hi',rfl⟩:=Do hc
   exact (hr i _ (Aw hi')).1
  ·cases hf

theorem a5G{r:Reach}{b0 m:Nat}{t e:TypeId}{v:Value}(ht:P.underlying t=some (.array m e))(h:Value.okWide P W r b0 t v):∃ cs,v=.agg cs∧cs.size=P.cellsOf t:=by
 unfold Value.okWide at h
 rw[ht]at h
 obtain ⟨cs,h1,h2,_⟩:=h
 exact ⟨cs,h1,h2⟩
theorem a8t(hU:∀ b o, ¬ U b o){r:Reach}{b0 n:Nat}{t:TypeId}{v:Value}{d:DataW H}{ps:List MemPlace}(hf:Hk P n t=true)(hval:Value.okWide P W r b0 t v)(hd:DataW.Trod enc P W base spare held t v d ps):
  ∃ a,TA P n t a∧VR W U v a:=by
 obtain ⟨fuel,hd⟩:=hd
 obtain ⟨l,h1,h2⟩:=PK (U:=U) hU n t _ _ _ hf hd
 cases n with
 | zero=>simp[Hk]at hf
 | succ n=>
  have key:∀ w:Value,w.cells.toList=[w]→v=w→∀ a,l=[a]→VR W U v a:=fun w hw hv a ha=>by
   subst hv;subst ha
   exact h2.vr 0 v a (by rw[hw];rfl) rfl
  unfold TA
  unfold Hk at hf
  have h1':=h1
  unfold TV at h1
  split at hf
  ·rename_i ht
   rw[ht]at h1 ⊢
   obtain ⟨b,rfl⟩:=h1
   obtain ⟨b',rfl⟩:∃ b',v=.bool b':=by
    simp only[Value.okWide,ht,Cell.okWide]at hval
    cases v<;>simp_all [Cell.ok]
   exact ⟨_,h1',key _ rfl rfl _ rfl⟩
  ·rename_i k ht
   rw[ht]at h1 ⊢
   obtain ⟨m,rfl,_⟩:=h1
   obtain ⟨m',rfl⟩:=okWide_int ht hval
   exact ⟨_,h1',key _ rfl rfl _ rfl⟩
  ·rename_i ht
   rw[ht]at h1 ⊢
   obtain ⟨s,rfl,_⟩:=h1
   obtain ⟨s',rfl⟩:=okWide_string ht hval
   exact ⟨_,h1',key _ rfl rfl _ rfl⟩
  ·rename_i fs ht
   rw[ht]
   obtain ⟨cs,rfl,_⟩:=okWide_struct ht hval
   refine ⟨_,⟨l,rfl,h1'⟩, ?_⟩
   obtain ⟨cs⟩:=cs
   exact .agg cs l h2.len h2.vr h2.one
  ·rename_i e ht
   rw[ht]at h1 ⊢
   obtain ⟨els,rfl,_⟩:=h1
   obtain ⟨a,len,cap,rfl⟩:=okWide_slice ht hval
   exact ⟨_,h1',key _ rfl rfl _ rfl⟩
  ·rename_i m e ht
   rw[ht]
   obtain ⟨cs,rfl,_⟩:=a5G ht hval
   refine ⟨_,⟨l,rfl,h1'⟩, ?_⟩
   obtain ⟨cs⟩:=cs
   exact .agg cs l h2.len h2.vr h2.one
  ·cases hf

theorem Y3(hU:∀ b o, ¬ U b o){r:Reach}{b0 n:Nat}:∀ {ts:List TypeId} {vs:List Value} {ds:List (DataW H)} {ps:List MemPlace},(∀ t∈ts,Hk P n t=true)→
  (∀ (j:Nat) t v,ts[j]?=some t→vs[j]?=some v→Value.okWide P W r b0 t v)→DataW.TrodAll enc P W base spare held ts vs ds ps→
  ∃ l,QT P n ts l∧vs.length=l.length∧∀ (i:Nat) (v:Value) (c:AV),vs[i]?=some v→l[i]?=some c→VR W U v c
 | [],vs,ds,ps,_,_,h=>by
  cases vs with
  | nil=>exact ⟨[],rfl,rfl,fun i v c h=>by simp at h⟩
  | cons v vs=>cases ds<;>exact h.elim
 | t::ts,vs,ds,ps,hf,hval,h=>by
  cases vs with
  | nil=>cases ds<;>exact h.elim
  | cons v vs=>
   cases ds with
   | nil=>exact h.elim
   | cons d ds=>
    obtain ⟨p,q,h1,h2,_⟩:=h
    obtain ⟨a,ha,hv⟩:=a8t (U:=U) hU (hf t (by simp)) (hval 0 t v rfl rfl) h1
    obtain ⟨l,hl,hlen,hvr⟩:=Y3 hU (fun t' ht'=>hf t' (by simp[ht'])) (fun j t' v' h3 h4=>hval (j+1) t' v' h3 h4) h2
    refine ⟨a::l,⟨a,l,ha,hl,rfl⟩,by simp[hlen],fun i w c h3 h4=>?_⟩
    cases i with
    | zero=>simp at h3 h4;subst h3;subst h4;exact hv
    | succ i=>exact hvr i w c h3 h4

theorem UE(hl:laidOutB P=true){W':World}(hb:Below W.heap.size W W'){sp':Nat→Bool}:∀ {ts:List TypeId} {vs:List Value} {ds:List (DataW H)} {ps:List MemPlace},(∀ t∈ts,P.readableRec t=true∧t<P.types.size)→
  DataW.TrodAll enc P W 0 (fun _=>true) true ts vs ds ps→(∀ x∈ps,x.block<W.heap.size)→(∀ x∈ps,sp' x.block=true)→DataW.TrodAll enc P W' 0 sp' true ts vs ds ps
 | [],vs,ds,ps,_,h,_,_=>by cases vs<;>cases ds<;>exact h
 | t::ts,vs,ds,ps,ht,h,hlt,hsp=>by
  cases vs with
  | nil=>cases ds<;>exact h.elim
  | cons v vs=>
   cases ds with
   | nil=>exact h.elim
   | cons d ds=>
    obtain ⟨p,q,h1,h2,rfl⟩:=h
    refine ⟨p,q, ?_,UE hl hb (fun t' ht'=>ht t' (by simp[ht'])) h2 (fun x hx=>hlt x (by simp[hx])) (fun x hx=>hsp x (by simp[hx])),rfl⟩
    exact WideElems.Trod_stays hl (ht t (by simp)).1 (ht t (by simp)).2 h1 (fun x hx=>hb.same (hlt x (by simp[hx]))) (fun x hx=>hsp x (by simp[hx]))

theorem b0q{f:Func}{s:ChangeSpec}{apart fresh handsOn again:Bool}{W W':World}{args:Array Value}{v:Value}{ds gs:List (DataW H)}{before pa pv:List MemPlace}
  (hW:DataW.Whole enc P f.params.toList s.vars apart W args.toList ds gs before)
  (hres:∀ (b:Nat) (sp:Nat→Bool) (hd:Bool),DataW.TrodAll enc P W' b sp hd f.resultTypes.toList (v.resultList f.resultTypes.size) (s.fn H (ds++gs)).results [])
  (hargs:∀ sp:Nat→Bool,(∀ p∈before,sp p.block=true)→DataW.TrodAll enc P W' 0 sp true f.params.toList args.toList (s.fn H (ds++gs)).args pa)
  (hvars:∀ sp:Nat→Bool,(∀ p∈before,sp p.block=true)→DataW.TrodVars enc P W' sp s.vars (s.fn H (ds++gs)).vars pv)
  (hps:before=pa++pv) (hb:Below W.heap.size W W')
  (hok:∀ (j:Nat) (t:TypeId) (r:Value),f.resultTypes[j]?=some t→(v.resultList f.resultTypes.size)[j]?=some r→Value.okWide P W' .any 0 t r):
  s.post enc P f apart fresh handsOn again W args v W':=by
 have hlt:∀ p∈before,p.block<W.heap.size:=fun p hp=>hW.lt p hp
 have hold:∀ p∈before,(fun b=>decide (b<W.heap.size)) p.block=true:=fun p hp=>by simpa using hlt p hp
 refine ⟨ds,gs,before,[],pa,pv,hW,hres _ _ _,hargs _ hold,hvars _ hold,World.keptBut_mono (fun p hp=>⟨hp, ?_⟩) (hb.frame (· ∈ before)),fun _=>?_⟩
 ·rw[hps,Bv]at hp
  exact Or.inr hp
 ·obtain ⟨_,_,_,_,_,hz,hn⟩:=hW
  refine ⟨hok,_,_,([]++pa)++pv,⟨[]++pa,pv,trodAll_append (hargs _ (fun _ _=>rfl)) (hres _ _ _),hvars _ (fun _ _=>rfl),rfl, ?_, ?_⟩, ?_⟩
  ·intro b off hp
   have hin:MemPlace.cell b off∈before:=by rw[hps];simpa using hp
   rw[hb.frozen (hlt _ hin)]
   exact hz b off hin
  ·intro ha
   have:=hn ha
   rw[hps]at this
   simpa using this
  ·intro p hp _
   rw[hps]
   simpa using hp
theorem b0N{f:Func}{N n tb:Nat}{s:ChangeSpec}{args:Array Value}{ds gs:List (DataW H)}{before:List MemPlace}(hl:laidOutB P=true)
  (hread:f.params.toList.all (fun t=>P.readableRec t&&decide (t<P.types.size)&&Hk P n t)=true) (hrt:f.resultTypes = #[tb]) (htb:P.underlying tb=some .bool) (hvars:s.vars=[])
  (hfn:gs=[]→ds.length=f.params.size→(s.fn H (ds++gs)).results=[.lit (.bool true)]∧(s.fn H (ds++gs)).args=ds∧(s.fn H (ds++gs)).vars=[])
  (hval:∀ (j:Nat) t v,f.params[j]?=some t→args[j]?=some v→Value.okWide P W .any base t v)
  (hW:DataW.Whole enc P f.params.toList s.vars false W args.toList ds gs before)
  (hG:Glob W fun _ _=>False) (hCP:∀ l,QT P n f.params.toList l→CP P N l (.bool true)):
  Calls P N args W fun e W'=>∃ v,e=.returned v∧s.post enc P f false true false false W args v W':=by
 have hW':=hW
 obtain ⟨p,q,hA,hV,rfl,hfz,hnd⟩:=hW
 simp only[Ew,AP,Bs]at hread
 have hgs:gs=[]∧q=[]:=by
  rw[hvars]at hV
  cases gs with
  | nil=>exact ⟨rfl,hV⟩
  | cons g gs=>exact hV.elim
 obtain ⟨rfl,rfl⟩:=hgs
 obtain ⟨l,hl1,hl2,hl3⟩:=Y3 (U:=fun _ _=>False) (fun _ _ h=>h) (fun t ht=>(hread t ht).2) (fun j t v h1 h2=>hval j t v (by simpa using h1) (by simpa using h2)) hA
 have Bn:ds.length=f.params.size:=by
  have:∀ {ts:List TypeId} {vs:List Value} {ds:List (DataW H)} {ps:List MemPlace},DataW.TrodAll enc P W 0 (fun _=>true) true ts vs ds ps→ds.length=ts.length:=by
   intro ts
   induction ts with
   | nil=>intro vs ds ps h;cases vs<;>cases ds<;>first|rfl|exact h.elim
   | cons t ts ih=>
    intro vs ds ps h
    cases vs<;>cases ds<;>first|exact h.elim|skip
    obtain ⟨p,q,_,h2,_⟩:=h
    simp[ih h2]
  simpa using this hA
 obtain ⟨f1,f2,f3⟩:=hfn rfl Bn
 have hc:=hCP l hl1 W (fun _ _=>False) args.toList hG hl2 hl3
 have ea:args.toList.toArray=args:=by simp
 rw[ea]at hc
 refine Calls.mono hc fun e W'=>?_
 rintro ⟨v,U',rfl,hv,_,hx⟩
 cases hv
 refine ⟨_,rfl,b0q hW' (pa:=p) (pv:=[]) (fun _ _ _=>?_) (fun sp hsp=>?_) (fun _ _=>?_) rfl hx.b ?_⟩
 ·rw[hrt,f1]
  exact trodAll_mk1 (shut_bool htb true)
 ·rw[f2]
  exact UE hl hx.b (fun t ht=>(hread t ht).1) hA (fun x hx=>hW'.lt x (by simpa using hx)) (fun x hx=>hsp x (by simpa using hx))
 ·rw[hvars,f3];rfl
 ·exact ok_one hrt rfl (okWide_bool_mk htb _)
end
end
section
open Go.RowKit
theorem TY:∀ {els:List (List AV)},(∀ c∈els, ∃ m,c=[AV.int .u8 m]∧(Lit.int .u8 m).wf=true)→∃ x:List UInt8,x.length=els.length∧els.flatten=Ae x
 | [],_=>⟨[],rfl,rfl⟩
 | c::l,h=>by
  obtain ⟨m,rfl,hm⟩:=h c (by simp)
  obtain ⟨x,h1,h2⟩:=TY (els:=l) (fun d hd=>h d (by simp[hd]))
  have h3:0≤m∧m≤255:=by
   simp only[Lit.wf,AP,Bs]at hm
   exact hm
  refine ⟨UInt8.ofNat m.toNat::x,by simp[h1], ?_⟩
  have e:((UInt8.ofNat m.toNat).toNat:Int)=m:=by
   rw[UInt8.toNat_ofNat']
   have:m.toNat<256:=by omega
   rw[Nat.mod_eq_of_lt (by simpa using this)]
   omega
  rw[List.flatten_cons,h2]
  show [AV.int .u8 m]++Ae x=AV.int .u8 ((UInt8.ofNat m.toNat).toNat:Int)::Ae x
  rw[e]
  rfl
theorem b3w{n:Nat}{l:List AV}(h:TV Tryz.prog (n+2) 29 l):∃ x:List UInt8,x.length=32∧l=Ae x:=by
 simp only[TV,Tryz.underlying29,Tryz.underlying5]at h
 obtain ⟨els,rfl,hl,he⟩:=h
 obtain ⟨x,h1,h2⟩:=TY he
 exact ⟨x,by rw[h1,hl],h2⟩
theorem Yc:∀ (l:List (List AV)),(∀ c∈l, ∃ x:List UInt8,x.length=32∧c=Ae x)→∃ xs:List Hs,(∀ x∈xs,x.length=32)∧l=xs.map Ae
 | [],_=>⟨[],by simp,rfl⟩
 | c::l,h=>by
  obtain ⟨x,hx,rfl⟩:=h c (by simp)
  obtain ⟨xs,h1,rfl⟩:=Yc l (fun d hd=>h d (by simp[hd]))
  exact ⟨x::xs,fun y hy=>by
   rcases AZ.1 hy with rfl|hy
   ·exact hx
   ·exact h1 y hy,rfl⟩
theorem a1r{n:Nat}{l:List AV}(h:TV Tryz.prog (n+4) 145 l):∃ p:LfC,l=p.cs:=by
 simp only[TV,Ir,Tryz.underlying145,Tryz.underlying143,Tryz.underlying3,Tryz.underlying9]at h
 obtain ⟨_,_,⟨a1,rfl, -⟩,⟨_,_,⟨a2,rfl, -⟩,⟨_,_,⟨a3,rfl, -⟩,⟨_,_,⟨a4,rfl, -,ha⟩,rfl,rfl⟩,rfl⟩,rfl⟩,rfl⟩:=h
 obtain ⟨x4,hx,rfl⟩:=Yc a4 (fun c hc=>b3w (n:=n) (ha c hc))
 exact ⟨⟨a1,a2,a3,x4,hx⟩,rfl⟩
theorem Sx:∀ (l:List (List AV)),(∀ c∈l, ∃ p:LfC,c=p.cs)→∃ ps:List LfC,l=Fe ps
 | [],_=>⟨[],rfl⟩
 | c::l,h=>by
  obtain ⟨p,rfl⟩:=h c (by simp)
  obtain ⟨ps,rfl⟩:=Sx l (fun d hd=>h d (by simp[hd]))
  exact ⟨p::ps,rfl⟩
theorem b3z{els:List (List AV)}(h:∀ c∈els, ∃ m,c=[AV.int .u8 m]∧(Lit.int .u8 m).wf=true):∃ r:List Int,r.length=els.length∧els.flatten=r.map (AV.int .u8 ·):=by
 obtain ⟨x,h1,h2⟩:=TY h
 exact ⟨x.map fun u=>(u.toNat:Int),by rw[Ax,h1],by rw[h2,EX];rfl⟩
abbrev MsgC.cs(m:MsgC):List AV:=AD m
theorem b3x{n:Nat}{l:List AV}(h:TV Tryz.prog (n+7) 40 l):∃ p:MsgC,l=p.cs:=by
 simp only[TV,Ir,Tryz.underlying40,Tryz.underlying31,Tryz.underlying29,Tryz.underlying5,Tryz.underlying35,Tryz.underlying33,Tryz.underlying38,Tryz.underlying36,Tryz.underlying3,Tryz.underlying9]at h
 obtain ⟨_,_,⟨k,rfl, -⟩,⟨_,_,⟨_,_,⟨hh,rfl, -⟩,⟨_,_,⟨ht,rfl, -⟩,⟨_,_,⟨els,rfl,hl,he⟩,rfl,rfl⟩,rfl⟩,rfl⟩,⟨_,_,⟨_,_,⟨_,_,⟨p1,rfl, -⟩,⟨_,_,⟨p2,rfl, -⟩,rfl,rfl⟩,rfl⟩,⟨_,_,⟨_,_,⟨p3,rfl, -⟩,⟨_,_,⟨p4,rfl, -⟩,rfl,rfl⟩,rfl⟩,⟨_,_,⟨p5,rfl, -⟩,⟨_,_,⟨p6,rfl, -⟩,⟨_,_,⟨p7,rfl, -⟩,⟨_,_,⟨p8,rfl, -⟩,rfl,rfl⟩,rfl⟩,rfl⟩,rfl⟩,rfl⟩,rfl⟩,⟨_,_,⟨a,rfl, -⟩,⟨_,_,⟨nx,rfl, -⟩,⟨_,_,⟨mh,rfl, -⟩,⟨_,_,⟨_,_,⟨c1,rfl, -⟩,⟨_,_,⟨l1,rfl, -,g1⟩,rfl,rfl⟩,rfl⟩,⟨_,_,⟨_,_,⟨c2,rfl, -⟩,⟨_,_,⟨l2,rfl, -,g2⟩,rfl,rfl⟩,rfl⟩,rfl,rfl⟩,rfl⟩,rfl⟩,rfl⟩,rfl⟩,rfl⟩,rfl⟩,rfl⟩:=h
 obtain ⟨r,hr,e⟩:=b3z he
 obtain ⟨x1,rfl⟩:=Sx l1 (fun c hc=>a1r (n:=n) (g1 c hc))
 obtain ⟨x2,rfl⟩:=Sx l2 (fun c hc=>a1r (n:=n) (g2 c hc))
 refine ⟨⟨k,⟨hh,ht,r,by rw[hr,hl]⟩,⟨p1,p2,p3,p4,p5,p6,p7,p8⟩,a,nx,mh,⟨c1,x1⟩,⟨c2,x2⟩⟩, ?_⟩
 rw[e]
 simp only[AD,Gg,C3,HdC.cs,HdC.rt,PktC.cs,Jb,Bj,Bi,DC]
 rfl
end
section
abbrev EdC.cs(x:EdC):List AV:=[.str x.p,.int .i64 x.c]
abbrev PrP.cs(x:PrP):List AV:=[.str x.1,.str x.2]
end
section
set_option linter.all false
end
section
open Go Go.RowKit
section
variable {H:Type} {enc:TypeId × Value→H}
theorem a3Z{a:Assume}{C:Checked}{os:Os}{f:FuncId}{fn:Func}{s:ChangeSpec}{conds:List PathCond}{apart fresh handsOn again:Bool}{X:World→Array Value→Prop}
  (hX:∀ (w w':World) (args:Array Value),w.heap=w'.heap→X w args→X w' args)
  (own:ownKnob C.prog.godebug=none) (started:os.Started) (noInit:C.prog.inits.idxOf? f=none) (hfn:C.prog.funcs[f]?=some fn)
  (witness:∃ (w:World) (tape:Tape) (i:Input),w.os=os∧(w.forCall tape i).Shaped C.prog∧i.vars=[]∧Input.okWide C.prog (w.forCall tape i) .any w.heap.size f i∧
   ((s.pre enc C.prog fn conds apart (w.forCall tape i).memory i.args∧X (w.forCall tape i).memory i.args)∧sizedMet enc C.prog fn (OpenSpec.ofChange s) apart (w.forCall tape i).memory i.args)∧a.holds C.prog (lone (Frame.enter C.prog f i.args .normal) [] (w.forCall tape i)))
  (contract:∀ (W:World) (base:Nat) (args:Array Value) (ds gs:List (DataW H)) (before:List MemPlace),
   (∀ (j:Nat) t v,fn.params[j]?=some t→args[j]?=some v→Value.okWide C.prog W .any base t v)→
   DataW.Whole enc C.prog fn.params.toList s.vars apart W args.toList ds gs before→
   conds.all (PathCond.test C.prog ⟨fn.params.toList,ds,s.plain.varTypes C.prog,gs⟩)=true→
   (DataW.weightsEach C.prog (fn.params.toList++s.plain.varTypes C.prog) (ds++gs)).all (· ≤ reachBytes)=true→X W args→W.ShapedOpen C.prog→
   a.holds C.prog (lone (Frame.enter C.prog f args .normal) [] W)→
   Calls C.prog f args W fun e W'=>∃ v,e=.returned v∧s.post enc C.prog fn apart fresh handsOn again W args v W'):
  ReturnsInHanded a C os f .any (fun w args=>(s.pre enc C.prog fn conds apart w args∧X w args)∧sizedMet enc C.prog fn (OpenSpec.ofChange s) apart w args) (s.post enc C.prog fn apart fresh handsOn again):=by
 refine returnsInHanded_of_calls own started noInit witness ?_
 intro w tape i _ hsh _ hok hpre hholds
 obtain ⟨_,_,_,fn',hfn',_,_,_,_,hval⟩:=hok
 have e:fn'=fn:=Fp (hfn'.symm.trans hfn)
 subst e
 obtain ⟨⟨⟨ds,gs,before,hw,hc⟩,hx⟩,hz⟩:=hpre
 have hw':=DataW.Whole.of_heap (w':=w.forCall tape i) (by rfl) hw
 refine (contract (w.forCall tape i) w.heap.size i.args ds gs before hval hw' hc (hz.weights hw) (hX _ _ _ (by rfl) hx) hsh hholds).mono fun e W' ⟨v,he,hp⟩=>?_
 subst he
 exact ChangeSpec.post_blind hp
end
theorem a3R{W:World}(h:laidMetH Tryz.prog Rows.handleSendsRow.laid W)(hsh:W.ShapedOpen Tryz.prog):Glob W fun _ _=>False:=by
 rw[MakeChecks.laidMetH_plain _ _ _ (by kernel_rfl)]at h
 have h3:laidMet Tryz.prog (("internal/strconv.uint64pow10", Lib.tabData .u64 Lib.pow10Tab)::_) W:=h.tail.tail
 have h4:laidMet Tryz.prog (("lighterman/sha.steps", Lib.tabData .u32 (tabInts.getD 0 default).2.2)::_) W:=h.tail.tail.tail
 have hp:=Lib.tabIs_of_head (g:=2) (t:=303) (e:=210) (n:=20) (by kernel_rfl) (by kernel_rfl) (by kernel_rfl) (by kernel_rfl) (by kernel_rfl) (by kernel_rfl) h3
 have hq:=Lib.tabIs_of_head (g:=1) (t:=213) (e:=211) (n:=64) (by kernel_rfl) (by kernel_rfl) (by kernel_rfl) (by kernel_rfl) (by kernel_rfl) (by kernel_rfl) h4
 intro x hx
 refine ⟨?_,fun _ h=>h⟩
 unfold Kn at hx
 rcases Bv.1 hx with hx|hx
 ·obtain ⟨y,hy,rfl⟩:∃ y∈tabInts,(fun x:Nat × IntKind × List Int=>(x.1,fun cs:Array Value=>cs=(x.2.2.map fun z=>Value.int x.2.1 z).toArray)) y=x:=Dp.1 hx
  obtain rfl:y=tabInts.getD 0 default:=G6.1 hy
  have hg:Tryz.prog.globalNamed "lighterman/sha.steps" = some 1:=by kernel_rfl
  simp only[Lib.TabIs,World.var?,hg,CY]at hq
  split at hq
  ·rename_i cs ty fr e
   exact ⟨cs,ty,fr,e,Fp hq⟩
  ·cases hq
 simp only[AZ,B8,Cb]at hx
 rcases hx with rfl|rfl
 ·have hg:Tryz.prog.globalNamed "internal/strconv.uint64pow10" = some 2:=by kernel_rfl
  simp only[Lib.TabIs,World.var?,hg,CY]at hp
  split at hp
  ·rename_i cs ty fr e
   exact ⟨cs,ty,fr,e,Fp hp⟩
  ·cases hp
 ·obtain ⟨m,hm⟩:=Go.Proofs.cell_of_shapedOpen_int (g:=0) (zero := #[.int .i64 0]) (t:=3) hsh (of_decide_eq_true (by kernel_rfl)) (by kernel_rfl) rfl (by kernel_rfl) (by kernel_rfl) Tryz.underlying3
  unfold World.cell? at hm
  split at hm
  ·rename_i cs ty fr e
   exact ⟨cs,ty,fr,e,m,by simpa using hm⟩
  ·cases hm
end
end Go.Proofs.YtfgihnhoocnmdaaGreatDoor
