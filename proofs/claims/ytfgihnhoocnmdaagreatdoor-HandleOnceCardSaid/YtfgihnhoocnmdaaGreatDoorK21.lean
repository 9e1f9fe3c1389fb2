import Derived.Test.YtfgihnhoocnmdaaGreatDoorK20
import Derived.Lib.BitFns
namespace Go.Proofs.YtfgihnhoocnmdaaGreatDoor
set_option linter.all false
set_option maxHeartbeats 64000000
set_option maxRecDepth 100000
section
open Go.RowKit
theorem GT{A B:Prop}(h:B)(e:A=B:=by (simp (disch:=omega) only[*, ↓Ed,Eu, ↓reduceIte,reduceCtorEq,Nat.reduceAdd,Nat.reduceEqDiff,Nat.reduceLT,Nat.reduceLeDiff,Int.reduceToNat,Int.reduceEq,Int.reduceLT,Int.reduceLE,Ap,Ao,Ax,AN,beq_self_eq_true,PktC.cs,EvC.cs,b0m,a3w,JO];first|done|rfl)):A:=e▸h
theorem Ti(v a b:Int):CP Tryz.prog 120 [.int .i64 v,.int .i64 a,.int .i64 b] (.bool (decide (a≤v∧v≤b))):=by
 refine a7d _ _ (by simp) ?_
 by_cases h:a≤v∧v≤b
 ·have f1:Ac (decide (a≤v)=true):=fo
  have f2:Ac (decide (v≤b)=true):=fo
  rw[AO h]
  clear h
  simp only[Rs];refine GT ?_
  repeat' ((first|exact tt|refine na fun b=>?_|refine nb fun b hb=>?_|refine iq ?_|(refine jq ?_ ?_<;>intro h h')|exact wZ|refine Aa ?_ ?_)<;>try refine GT ?_)
  all_goals (simp only[Ac,Hn]at *;omega)
 ·have F:Ac (¬ (a≤v∧v≤b)):=h
  rw[A0 h]
  clear h
  simp only[Rs];refine GT ?_
  repeat' ((first|exact tt|refine na fun b=>?_|refine nb fun b hb=>?_|refine iq ?_|(refine jq ?_ ?_<;>intro h h')|exact wZ|refine Aa ?_ ?_)<;>try refine GT ?_)
  all_goals (simp only[Ac,Hn]at *;omega)
theorem a9a(a b:PktC):CP Tryz.prog 156 [.agg a.cs,.agg b.cs] (.bool (decide (a=b))):=by
 refine YP _ _ (by simp) ?_
 simp only[Rr];refine GT ?_
 repeat' ((first|exact tt|refine na fun b=>?_|refine nb fun b hb=>?_|refine iq ?_|(refine jq ?_ ?_<;>intro h h')|exact wZ|refine Aa ?_ ?_)<;>try refine GT ?_)
theorem PR(p:PktC)(h1:p.s.length≤1000000)(h2:p.d.length≤1000000)(h3:p.x.length≤1000000):CP Tryz.prog 55 [.agg p.cs] (.bool (BO p)):=by
 have a1:=KD p.s p.sc (by omega)
 have a2:=KD p.d p.dc (by omega)
 have a3:=Ti p.th 0 1099511627776
 have a4:=Ti p.ta 0 1099511627776
 have a5:=Ti p.q 1 1099511627776
 unfold BO
 generalize Ba p.s p.sc=A at *
 generalize Ba p.d p.dc=B at *
 generalize decide (0≤p.th∧p.th≤1099511627776)=C at *
 generalize decide (0≤p.ta∧p.ta≤1099511627776)=D at *
 generalize decide (1≤p.q∧p.q≤1099511627776)=E at *
 refine a7b _ _ (by simp) ?_
 cases A<;>cases B<;>cases C<;>cases D<;>cases E
 all_goals (simp only[VU];refine GT ?_;try exact tt)
 all_goals repeat' ((first|exact tt|refine Ab a1 ?_|refine Ab a2 ?_|refine Ab a3 ?_|refine Ab a4 ?_|refine Ab a5 ?_|refine na fun b=>?_|refine nb fun b hb=>?_|refine iq ?_|(refine jq ?_ ?_<;>intro h h')|exact wZ|refine Aa ?_ ?_)<;>try refine GT ?_)
 all_goals (try simp)
 all_goals (try omega)
theorem ZE(p:PktC)(h1:p.s.length≤1000000)(h2:p.d.length≤1000000)(h3:p.x.length≤1000000):CP Tryz.prog 37 [.agg p.cs] (.bool (BO p)):=by
 have a1:=KC p.s p.sc (by omega)
 have a2:=KC p.d p.dc (by omega)
 refine a6H _ _ (by simp) ?_
 by_cases H:BO p=true
 ·rw[H]
  simp only[BO,AP,Bs]at H
  obtain ⟨⟨⟨⟨⟨g1,g2⟩,g3,g4⟩,g5,g6⟩,g7,g8⟩,g9⟩:=H
  rw[g1]at a1
  rw[g2]at a2
  have e1:Ac (decide (1≤p.q)=true):=fo
  have e2:Ac (decide (p.q≤1099511627776)=true):=fo
  have e3:Ac (decide ((p.x.length:Int)≤200)=true):=fo
  have e4:Ac (decide (0≤p.th)=true):=fo
  have e5:Ac (decide (p.th≤1099511627776)=true):=fo
  have e6:Ac (decide (0≤p.ta)=true):=fo
  have e7:Ac (decide (p.ta≤1099511627776)=true):=fo
  clear g1 g2 g3 g4 g5 g6 g7 g8 g9
  simp only[Rn];refine GT ?_
  repeat' ((first|exact tt|refine Ab a1 ?_|refine Ab a2 ?_|refine na fun b=>?_|refine nb fun b hb=>?_|refine iq ?_|(refine jq ?_ ?_<;>intro h h')|exact wZ|refine Aa ?_ ?_)<;>try refine GT ?_)
  all_goals (simp only[Ac,Hn]at *;omega)
 ·have H':BO p=false:=by simpa using H
  rw[H']
  have F:Ac (Ba p.s p.sc=true→Ba p.d p.dc=true→¬ ((0≤p.th∧p.th≤1099511627776)∧(0≤p.ta∧p.ta≤1099511627776)∧(1≤p.q∧p.q≤1099511627776)∧p.x.length≤200)):=by
   intro b1 b2 ⟨b3,b4,b5,b6⟩
   exact H (by simp only[BO,b1,b2,AO b3,AO b4,AO b5,AO b6];rfl)
  clear H H'
  cases hA:Ba p.s p.sc<;>cases hB:Ba p.d p.dc
  all_goals rw[hA]at a1
  all_goals rw[hB]at a2
  all_goals rw[hA,hB]at F
  all_goals clear hA hB
  all_goals (simp only[Rn];refine GT ?_;try exact tt)
  all_goals repeat' ((first|exact tt|refine Ab a1 ?_|refine Ab a2 ?_|refine na fun b=>?_|refine nb fun b hb=>?_|refine iq ?_|(refine jq ?_ ?_<;>intro h h')|exact wZ|refine Aa ?_ ?_)<;>try refine GT ?_)
  all_goals (simp only[Ac,Hn]at *;first|omega|(have F':=F trivial trivial;omega))
end
section
open Go.RowKit
theorem a3n(n k:Nat)(h:k≤8):(Hi n k).length=8:=by
 simp only[Hi,Ax,Ao,List.length_replicate,Cc,Hj];omega
theorem a3o(n k:Nat)(hn:n≤72057594037927935)(h:k<8):IntKind.wrap .u8 ((IntKind.wrap .u64 (n:Int)).fdiv (2 ^ (min (8 * (k:Int)).toNat (IntKind.bits .u64))))=((n / 256 ^ k % 256:Nat):Int):=by
 have e1:IntKind.wrap .u64 (n:Int)=(n:Int):=by rw[IntKind.wrap_u64];omega
 have e2:min (8 * (k:Int)).toNat (IntKind.bits .u64)=8 * k:=by
  show min _ 64=_
  omega
 rw[e1,e2]
 have e4:((2:Int) ^ (8 * k))=((256 ^ k:Nat):Int):=by
  rw[show (256:Nat)=2 ^ 8 from rfl, ← Nat.pow_mul];simp
 rw[e4,Int.fdiv_eq_ediv_of_nonneg _ (Int.natCast_nonneg _), ← Int.natCast_ediv]
 generalize n / 256 ^ k=q
 show ((q:Int) % 256)=_
 omega
theorem GZ{A B:Prop}(h:B)(e:A=B:=by (simp (disch:=omega) only[*, ↓Ed,Eu, ↓reduceIte,reduceCtorEq,Nat.reduceAdd,Nat.reduceEqDiff,Nat.reduceLT,Nat.reduceLeDiff,Int.reduceToNat,Int.reduceEq,Int.reduceLT,Int.reduceLE,Ap,Ao,Ax,AJ,AY,Int.reduceAdd,AH,AN,Dh,a3n];first|done|rfl)):A:=e▸h
theorem PQ(n:Nat)(h:n≤72057594037927935):CP Tryz.prog 174 [.int .i64 (n:Int)] (.str (eight n)):=by
 have hM:=Zz (n:Int)
 rw[AO (by omega)]at hM
 refine a5V _ _ (by simp) ?_
 simp only[Vb];refine GZ ?_
 repeat' ((first|exact tt|refine Ab hM ?_|refine na fun b=>?_|refine nb fun b hb=>?_|refine iq ?_|(refine jq ?_ ?_<;>intro h h')|exact wZ|refine Aa ?_ ?_)<;>try refine GZ ?_)
 refine A2 (fun k:Nat=>⟨lk [(0,.int .i64 (n:Int)),(3,.ptr b 0),(8,.int .i64 (k:Int))],lk [(b,Hi n k)]⟩) (fun k=>k≤8) (fun k=>8 - k) 0 (by omega) (An (by simp[Am,lk,Hi,Bg,eight,List.replicate])) ?_
 intro k hk
 by_cases hk8:k<8
 rotate_left
 ·obtain rfl:k=8:=by omega
  have f1:Ac (decide (((8:Nat):Int)<8)=false):=by simp[Ac]
  refine GZ ?_
  repeat' ((first|exact tt|refine MO (eight n) rfl rfl ?_|refine na fun b=>?_|refine nb fun b hb=>?_|refine iq ?_|(refine jq ?_ ?_<;>intro h h')|exact wZ|refine Aa ?_ ?_)<;>try refine GZ ?_)
 have f1:Ac (decide ((k:Int)<8)=true):=fo
 have e1:=a3o n k h hk8
 have e3:=WY n k hk8
 have e5:(7 - (k:Int)).toNat * 1=7 - k:=by omega
 have e6:(7 - (k:Int)).toNat=7 - k:=by omega
 refine GZ ?_
 repeat' ((first|exact tt|refine na fun b=>?_|refine nb fun b hb=>?_|refine iq ?_|(refine jq ?_ ?_<;>intro h h')|exact wZ|refine Aa ?_ ?_)<;>try refine GZ ?_)
 all_goals exact AC (k+1) ⟨An Mc,by omega,by omega⟩
theorem a4H(p:PktC):BB ([eight p.th.toNat,eight p.ta.toNat,BB p.x].flatten)=Cg p:=by unfold Cg;simp
theorem a9w(p:PktC)(h1:p.s.length≤1000000)(h2:p.d.length≤1000000)(h3:p.x.length≤1000000)(hm:BO p=true):CP Tryz.prog 124 [.agg p.cs] (.agg (Ae (Cg p))):=by
 have hp:=Gh hm
 have hM:=PR p h1 h2 h3
 rw[hm]at hM
 have hA:=PQ p.th.toNat (by omega)
 have hB:=PQ p.ta.toNat (by omega)
 rw[show ((p.th.toNat:Nat):Int)=p.th by omega]at hA
 rw[show ((p.ta.toNat:Nat):Int)=p.ta by omega]at hB
 have hS:=L8 (.sl none 1 [[.str p.x]]) [p.x] rfl (by simp) (by simp;omega)
 rw[show [p.x].flatten=p.x by simp]at hS
 have hT:=L9 (BB p.x) (FB _)
 have hF:=L8 (.sl none 1 [[.str (eight p.th.toNat)],[.str (eight p.ta.toNat)],[.str (BB p.x)]]) [eight p.th.toNat,eight p.ta.toNat,BB p.x] rfl (by simp) (by simp[Hj,FB])
 rw[a4H]at hF
 clear hp hm
 refine a7a _ _ (by simp) ?_
 generalize eight p.th.toNat=A at *
 generalize eight p.ta.toNat=B at *
 obtain ⟨z1,z2,z3,z4⟩:=BN (LM p)
 obtain ⟨y1,y2,y3,y4⟩:=BN (FB p.x)
 generalize Ae (Cg p)=Z at *
 generalize Ae (BB p.x)=Y at *
 generalize BB p.x=C at *
 simp only[VT,Cz.z2];refine GZ ?_
 repeat' ((first|exact tt|refine Ab hM ?_|refine Ab hA ?_|refine Ag hA ?_|refine Ab hB ?_|refine Ag hB ?_|refine Ab hS ?_|refine Ag hS ?_|refine Ab hT ?_|refine Ag hT ?_|refine Ab hF ?_|refine Ag hF ?_|refine na fun b=>?_|refine nb fun b hb=>?_|refine iq ?_|(refine jq ?_ ?_<;>intro h h')|exact wZ|refine Aa ?_ ?_)<;>try refine GZ ?_)
theorem PP(p:PktC)(h1:p.s.length≤1000000)(h2:p.d.length≤1000000)(h3:p.x.length≤1000000)(hm:BO p=true):CP Tryz.prog 57 [.agg p.cs] (.str (Cg p)):=by
 have hC:=a9w p h1 h2 h3 hm
 have hT:=L9 (Cg p) (LM p)
 obtain ⟨z1,z2,z3,z4⟩:=BN (LM p)
 generalize Ae (Cg p)=Z at *
 refine a5S _ _ (by simp) ?_
 simp only[U9];refine GZ ?_
 repeat' ((first|exact tt|refine Ab hC ?_|refine Ab hT ?_|refine na fun b=>?_|refine nb fun b hb=>?_|refine iq ?_|(refine jq ?_ ?_<;>intro h h')|exact wZ|refine Aa ?_ ?_)<;>try refine GZ ?_)
theorem a9T(p:PktC)(h1:p.s.length≤1000000)(h2:p.d.length≤1000000)(h3:p.x.length≤1000000)(hm:BO p=true):CP Tryz.prog 39 [.agg p.cs] (.str (Cg p)):=by
 have hp:=Gh hm
 have hM:=ZE p h1 h2 h3
 rw[hm]at hM
 have hA:=PO p.th.toNat (by omega)
 have hB:=PO p.ta.toNat (by omega)
 rw[show ((p.th.toNat:Nat):Int)=p.th by omega]at hA
 rw[show ((p.ta.toNat:Nat):Int)=p.ta by omega]at hB
 have hS:=NJ p.x (by omega)
 have hT:=NK (BB p.x) (FB _)
 have hF:=NJ (eight p.th.toNat++eight p.ta.toNat++BB p.x) (by simp[Hj,FB])
 rw[show BB (eight p.th.toNat++eight p.ta.toNat++BB p.x)=Cg p by unfold Cg;rw[DC]]at hF
 have hT2:=NK (Cg p) (LM _)
 have l1:=Hj p.th.toNat
 have l2:=Hj p.ta.toNat
 have l3:=FB p.x
 obtain ⟨z1,z2,z3,z4⟩:=BN (LM p)
 obtain ⟨y1,y2,y3,y4⟩:=BN (FB p.x)
 generalize Ae (Cg p)=Z at *
 generalize Ae (BB p.x)=Y at *
 clear hp hm
 refine a6z _ _ (by simp) ?_
 generalize eight p.th.toNat=A at *
 generalize eight p.ta.toNat=B at *
 generalize BB p.x=C at *
 simp only[Vv];refine GZ ?_
 repeat' ((first|exact tt|refine Ab hM ?_|refine Ag hA ?_|refine Ag hB ?_|refine Ag hS ?_|refine Ag hT ?_|refine Ag hF ?_|refine Ag hT2 ?_|refine na fun b=>?_|refine nb fun b hb=>?_|refine iq ?_|(refine jq ?_ ?_<;>intro h h')|exact wZ|refine Aa ?_ ?_)<;>try refine GZ ?_)
end
section
open Go.RowKit
theorem ME{A B:Prop}(h:B)(e:A=B:=by (simp (disch:=omega) only[*, ↓Ed,Eu, ↓reduceIte,reduceCtorEq,Nat.reduceAdd,Nat.reduceEqDiff,Nat.reduceLT,Nat.reduceLeDiff,Int.reduceToNat,Int.reduceEq,Int.reduceLT,Int.reduceLE,Ap,Ao,Ax,AJ,AY,Int.reduceAdd,AH,AN];first|done|rfl)):A:=e▸h
theorem a9y(k v:List UInt8)(hk:k.length≤1000000)(hv:v.length≤1000000):CP Tryz.prog 212 [.str k,.str v] (.agg (Ae (DG k v))):=by
 have hE:=PQ k.length (by omega)
 have hS:=L8 (.sl none 1 [[.str [0]],[.str (eight k.length)],[.str k],[.str v]]) [[0],eight k.length,k,v] rfl (by simp) (by simp[Hj];omega)
 rw[show BB [[0],eight k.length,k,v].flatten=DG k v by unfold DG;simp]at hS
 refine a7C _ _ (by simp) ?_
 obtain ⟨z1,z2,z3,z4⟩:=BN (Ks k v)
 generalize eight k.length=e at *
 generalize Ae (DG k v)=Z at *
 simp only[Wl,Cz.z2];refine ME ?_
 repeat' ((first|exact tt|refine Ab hE ?_|refine Ag hE ?_|refine Ab hS ?_|refine Ag hS ?_|refine na fun b=>?_|refine nb fun b hb=>?_|refine iq ?_|(refine jq ?_ ?_<;>intro h h')|exact wZ|refine Aa ?_ ?_)<;>try refine ME ?_)
theorem Zv(a b:Hs)(ha:a.length=32)(hb:b.length=32):CP Tryz.prog 251 [.agg (Ae a),.agg (Ae b)] (.agg (Ae (EM a b))):=by
 have h1:=L9 a ha
 have h2:=L9 b hb
 have hS:=L8 (.sl none 1 [[.str [1]],[.str a],[.str b]]) [[1],a,b] rfl (by simp) (by simp;omega)
 rw[show BB [[1],a,b].flatten=EM a b by unfold EM;simp]at hS
 obtain ⟨z1,z2,z3,z4⟩:=BN (LX a b)
 obtain ⟨y1,y2,y3,y4⟩:=BN ha
 obtain ⟨x1,x2,x3,x4⟩:=BN hb
 generalize Ae (EM a b)=Z at *
 generalize Ae a=Y at *
 generalize Ae b=X at *
 refine a7D _ _ (by simp) ?_
 simp only[Wm,Cz.z2];refine ME ?_
 repeat' ((first|exact tt|refine Ab h1 ?_|refine Ag h1 ?_|refine Ab h2 ?_|refine Ag h2 ?_|refine Ab hS ?_|refine Ag hS ?_|refine na fun b=>?_|refine nb fun b hb=>?_|refine iq ?_|(refine jq ?_ ?_<;>intro h h')|exact wZ|refine Aa ?_ ?_)<;>try refine ME ?_)
theorem Zw(n:Nat)(t:Hs)(ht:t.length=32)(hn:n≤1073741824):CP Tryz.prog 210 [.int .i64 (n:Int),.agg (Ae t)] (.agg (Ae (DJ n t))):=by
 have hE:=PQ n (by omega)
 have h1:=L9 t ht
 have hS:=L8 (.sl none 1 [[.str [2]],[.str (eight n)],[.str t]]) [[2],eight n,t] rfl (by simp) (by simp[Hj];omega)
 rw[show BB [[2],eight n,t].flatten=DJ n t by unfold DJ;simp]at hS
 refine a7E _ _ (by simp) ?_
 obtain ⟨z1,z2,z3,z4⟩:=BN (JJ n t)
 obtain ⟨y1,y2,y3,y4⟩:=BN ht
 generalize eight n=e at *
 generalize Ae (DJ n t)=Z at *
 generalize Ae t=Y at *
 simp only[Wn,Cz.z2];refine ME ?_
 repeat' ((first|exact tt|refine Ab hE ?_|refine Ag hE ?_|refine Ab h1 ?_|refine Ag h1 ?_|refine Ab hS ?_|refine Ag hS ?_|refine na fun b=>?_|refine nb fun b hb=>?_|refine iq ?_|(refine jq ?_ ?_<;>intro h h')|exact wZ|refine Aa ?_ ?_)<;>try refine ME ?_)
end
section
open Go.RowKit
set_option maxRecDepth 100000
end
section
open Go.RowKit
theorem UL:∀ (f x:Nat),x<2 ^ f→1≤x→Lib.bitLenAux f x=Nat.log2 x+1
 | 0,x,h,h1=>by simp at h;omega
 | f+1,x,h,h1=>by
  rw[Lib.bitLenAux,Ad (by omega)]
  by_cases hx:x=1
  ·subst hx
   have e:Lib.bitLenAux f (1 / 2)=0:=by cases f<;>rfl
   have e2:Nat.log2 1=0:=by decide
   rw[e,e2]
  ·rw[F8]at h
   have ih:=UL f (x / 2) (by omega) (by omega)
   have k1:=Nat.log2_self_le (n:=x / 2) (by omega)
   have k2:=Nat.lt_log2_self (n:=x / 2)
   rw[ih]
   have:Nat.log2 x=Nat.log2 (x / 2)+1:=by
    rw[Nat.log2_eq_iff (by omega)]
    rw[F8]at k2
    rw[F8,F8,F8]
    omega
   rw[this];omega
theorem a9f(x:Nat)(h1:1≤x)(h:x≤1073741824):CP Tryz.prog 217 [.int .u64 (x:Int)] (.int .i64 ((Nat.log2 x+1:Nat):Int)):=
 MQ (vs:=[.int .u64 (x:Int)]) (v:=.int .i64 ((Nat.log2 x+1:Nat):Int)) rfl (by simp) rfl fun W=>(Tryz.bits_Len (x:Int) W (by omega) (by omega)).mono fun e W' ⟨h2,h3⟩=>by
  subst h3
  refine ⟨?_,Below.refl _ _⟩
  rw[h2]
  have:Lib.bitLen x=Nat.log2 x+1:=UL 64 x (by omega) h1
  simp[this]
theorem D2{A B:Prop}(h:B)(e:A=B:=by (simp (disch:=omega) only[*, ↓Ed,Eu, ↓reduceIte,reduceCtorEq,Nat.reduceAdd,Nat.reduceEqDiff,Nat.reduceLT,Nat.reduceLeDiff,Int.reduceToNat,Int.reduceEq,Int.reduceLT,Int.reduceLE,Ap,Ao,Ax,AJ,AY,Int.reduceAdd,AH,AN];first|done|rfl)):A:=e▸h
theorem Zs(n:Nat)(h1:1<n)(h2:n≤1073741824):CP Tryz.prog 202 [.int .i64 (n:Int)] (.int .i64 (Ar n:Int)):=by
 have hL:=a9f (n - 1) (by omega) (by omega)
 have hlog:Nat.log2 (n - 1)<30:=by rw[Nat.log2_lt (by omega)];omega
 have e1:(n:Int) - 1=((n - 1:Nat):Int):=by omega
 have f1:Ac (decide ((n:Int)<2)=false):=fo
 have f2:Ac (decide (1073741824<(n:Int))=false):=fo
 have e2:IntKind.wrap .u64 ((n - 1:Nat):Int)=((n - 1:Nat):Int):=by rw[IntKind.wrap_u64];omega
 have e3:(1:Int) * 2 ^ (min (Nat.log2 (n - 1)) (IntKind.bits .i64))=(Ar n:Int):=by
  have:min (Nat.log2 (n - 1)) (IntKind.bits .i64)=Nat.log2 (n - 1):=by
   show min _ 64=_
   omega
  rw[this];unfold Ar;simp
 have hh:=HT h1
 refine a7B _ _ (by simp) ?_
 generalize Ar n=H at *
 generalize Nat.log2 (n - 1)=q at *
 have e4:((q+1:Nat):Int) - 1=(q:Int):=by omega
 simp (disch:=omega) only[Wj,Dh, ↓Ed,Eu, ↓reduceIte,reduceCtorEq,Nat.reduceAdd,Nat.reduceEqDiff,Nat.reduceLT,Nat.reduceLeDiff,Int.reduceToNat,Int.reduceEq,Int.reduceLT,Int.reduceLE,Ap,Ao,Ax,AJ,AY,Int.reduceAdd,AH,AN]
 repeat' ((first|exact tt|refine Ab hL ?_|refine Ag hL ?_|refine na fun b=>?_|refine nb fun b hb=>?_|refine iq ?_|(refine jq ?_ ?_<;>intro h h')|exact wZ|refine Aa ?_ ?_)<;>try refine D2 ?_)
theorem Zt(n i:Int):CP Tryz.prog 201 [.int .i64 n,.int .i64 i] (.bool (decide (n≤1073741824∧0≤i∧i<n))):=by
 refine a7G _ _ (by simp) ?_
 by_cases h:n≤1073741824∧0≤i∧i<n
 ·rw[AO h]
  have f1:Ac (decide (n≤1073741824)=true):=fo
  have f2:Ac (decide (0≤i)=true):=fo
  have f3:Ac (decide (i<n)=true):=fo
  clear h
  simp only[RB];refine D2 ?_
  repeat' ((first|exact tt|refine na fun b=>?_|refine nb fun b hb=>?_|refine iq ?_|(refine jq ?_ ?_<;>intro h h')|exact wZ|refine Aa ?_ ?_)<;>try refine D2 ?_)
  all_goals (simp only[Ac,Hn]at *;omega)
 ·rw[A0 h]
  have f1:Ac (¬ (n≤1073741824∧0≤i∧i<n)):=h
  clear h
  simp only[RB];refine D2 ?_
  repeat' ((first|exact tt|refine na fun b=>?_|refine nb fun b hb=>?_|refine iq ?_|(refine jq ?_ ?_<;>intro h h')|exact wZ|refine Aa ?_ ?_)<;>try refine D2 ?_)
  all_goals (simp only[Ac,Hn]at *;omega)
theorem Zr(n i:Nat)(hi:i<n)(hn:n≤1073741824):CP Tryz.prog 160 [.int .i64 (n:Int),.int .i64 (i:Int)] (.int .i64 (BU n i:Int)):=by
 refine a7z _ _ (by simp) ?_
 simp only[Wh];refine D2 ?_
 repeat' ((first|exact tt|refine na fun b=>?_|refine nb fun b hb=>?_|refine iq ?_|(refine jq ?_ ?_<;>intro h h')|exact wZ|refine Aa ?_ ?_)<;>try refine D2 ?_)
 refine A2 (fun q:Nat × Nat × Nat=>⟨lk [(0,.int .i64 (q.1:Int)),(1,.int .i64 (q.2.1:Int)),(5,.int .i64 (q.2.2:Int))],lk []⟩) (fun q=>q.2.1<q.1∧q.1≤n∧q.2.2≤n - q.1∧Ac (q.2.2+BU q.1 q.2.1=BU n i)) (fun q=>q.1) (n,i,0) ⟨hi,A8 _,by simp,by simp[Ac]⟩ (An Mc) ?_
 rintro ⟨m,j,d⟩ ⟨h1,h2,h3,h4⟩
 simp only at h1 h2 h3 h4
 have hI:=Zt m j
 rw[AO (by omega)]at hI
 by_cases hm:1<m
 rotate_left
 ·have f1:Ac (decide ((1:Int)<(m:Int))=false):=fo
  have e:d=BU n i:=by rw[← h4,Lu (by omega)];rfl
  subst e
  clear h4
  refine D2 ?_
  repeat' ((first|exact tt|refine Ab hI ?_|refine Ag hI ?_|refine na fun b=>?_|refine nb fun b hb=>?_|refine iq ?_|(refine jq ?_ ?_<;>intro h h')|exact wZ|refine Aa ?_ ?_)<;>try refine D2 ?_)
 have f1:Ac (decide ((1:Int)<(m:Int))=true):=fo
 have hH:=Zs m hm (by omega)
 have k1:=IG m
 have k2:=HT hm
 by_cases hj:j<Ar m
 ·rw[OS hm hj]at h4
  have h5:Ac (d+1+BU (Ar m) j=BU n i):=by show _=_;rw[← show d+(BU (Ar m) j+1)=BU n i from h4];omega
  have f2:Ac (decide ((j:Int)<(Ar m:Int))=true):=fo
  clear h4
  generalize Ar m=H at *
  refine D2 ?_
  repeat' ((first|exact tt|refine Ab hI ?_|refine Ag hI ?_|refine Ab hH ?_|refine na fun b=>?_|refine nb fun b hb=>?_|refine iq ?_|(refine jq ?_ ?_<;>intro h h')|exact wZ|refine Aa ?_ ?_)<;>try refine D2 ?_)
  all_goals exact AC (H,j,d+1) ⟨An Mc,⟨hj,by simp only;omega,by simp only;omega,h5⟩,by simp only;omega⟩
 ·rw[OR hm hj]at h4
  have h5:Ac (d+1+BU (m - Ar m) (j - Ar m)=BU n i):=by show _=_;rw[← show d+(BU (m - Ar m) (j - Ar m)+1)=BU n i from h4];omega
  have f2:Ac (decide ((j:Int)<(Ar m:Int))=false):=fo
  have e1:(m:Int) - (Ar m:Int)=((m - Ar m:Nat):Int):=by omega
  have e2:(j:Int) - (Ar m:Int)=((j - Ar m:Nat):Int):=by omega
  clear h4
  generalize Ar m=H at *
  refine D2 ?_
  repeat' ((first|exact tt|refine Ab hI ?_|refine Ag hI ?_|refine Ab hH ?_|refine na fun b=>?_|refine nb fun b hb=>?_|refine iq ?_|(refine jq ?_ ?_<;>intro h h')|exact wZ|refine Aa ?_ ?_)<;>try refine D2 ?_)
  all_goals exact AC (m - H,j - H,d+1) ⟨An (by simp[Am,lk,e1,e2]),⟨by simp only;omega,by simp only;omega,by simp only;omega,h5⟩,by simp only;omega⟩
theorem To:∀ (m n i:Nat) (lf:Hs) (w:List Hs),w.length=m→i<n→n≤1073741824→BU n i=m→lf.length=32→(∀ x∈w,x.length=32)→CP Tryz.prog 229 [.int .i64 (n:Int),.int .i64 (i:Int),.agg (Ae lf),.sl none 32 (AL w)] (.agg (Ae (Cl w lf m n i)))
 | m,n,i,lf,w,hm,hi,hn,hd,hl,hw=>by
  have hlw:=Cm w
  refine a7F _ _ (by simp) ?_
  rw[hm]at hlw
  obtain ⟨z1,z2,z3,z4⟩:=BN hl
  by_cases h0:m=0
  ·subst h0
   show BK _ _ (KJ _ (.agg (Ae lf))) _
   clear hw
   have f6:Ac (decide (((0:Nat):Int)=0)=true):=by simp[Ac]
   generalize Ae lf=Z at *
   generalize AL w=X at *
   simp only[OO,Cz.z2];refine D2 ?_
   repeat' ((first|exact tt|refine na fun b=>?_|refine nb fun b hb=>?_|refine iq ?_|(refine jq ?_ ?_<;>intro h h')|exact wZ|refine Aa ?_ ?_)<;>try refine D2 ?_)
  obtain ⟨m',rfl⟩:∃ m',m=m'+1:=⟨m - 1,by omega⟩
  have hmb:m'+1≤30:=by have:=Lt 30 n i (by omega);omega
  have h1:1<n:=by
   rcases FJ 1 n with h|h
   ·exact h
   ·rw[Lu h]at hd;omega
  have f6:Ac (decide (((m'+1:Nat):Int)=0)=false):=fo
  have hH:=Zs n h1 hn
  have k1:=IG n
  have k2:=HT h1
  have hwt:∀ x∈w.take m',x.length=32:=fun x hx=>hw x (EZ hx)
  have hlast:(w.getD m' []).length=32:=hw _ (by rw[List.getD,Aw (by omega)];exact Di _)
  have hg:(AL w).getD m' []=Ae (w.getD m' []):=by simp[List.getD,show m'<w.length by omega]
  have htk:AL (w.take m')=(AL w).take m':=by rw[AL,List.map_take]
  obtain ⟨y1,y2,y3,y4⟩:=BN hlast
  have e0:((m'+1:Nat):Int) - 1=(m':Int):=by omega
  by_cases hj:i<Ar n
  ·have hd':BU (Ar n) i=m':=by rw[OS h1 hj]at hd;omega
   have ih:=To m' (Ar n) i lf (w.take m') (by rw[BL];omega) hj (by omega) hd' hl hwt
   rw[O5 m' m' _ _ (A8 _)]at ih
   have hfl:=O4 (way:=w) hl m' (Ar n) i
   have hN:=Zv (Cl w lf m' (Ar n) i) (w.getD m' []) hfl hlast
   have e3:Cl w lf (m'+1) n i=EM (Cl w lf m' (Ar n) i) (w.getD m' []):=by rw[Cl,Af hj]
   rw[e3]
   obtain ⟨x1,x2,x3,x4⟩:=BN hfl
   obtain ⟨v1,v2,v3,v4⟩:=BN (LX (Cl w lf m' (Ar n) i) (w.getD m' []))
   have f7:Ac (decide ((i:Int)<(Ar n:Int))=true):=fo
   rw[htk]at ih
   clear hw hwt hd hd' e3 hfl hlast htk
   generalize Ae (EM (Cl w lf m' (Ar n) i) (w.getD m' []))=V at *
   generalize Ae (Cl w lf m' (Ar n) i)=A at *
   generalize Ae (w.getD m' [])=B at *
   generalize Ae lf=Z at *
   generalize Ar n=H at *
   generalize AL w=X at *
   simp only[OO,Cz.z2];refine D2 ?_
   repeat' ((first|exact tt|refine Ab hH ?_|refine Ag hH ?_|refine Ab ih ?_|refine Ag ih ?_|refine Ab hN ?_|refine Ag hN ?_|refine na fun b=>?_|refine nb fun b hb=>?_|refine iq ?_|(refine jq ?_ ?_<;>intro h h')|exact wZ|refine Aa ?_ ?_)<;>try refine D2 ?_)
  ·have hd':BU (n - Ar n) (i - Ar n)=m':=by rw[OR h1 hj]at hd;omega
   have ih:=To m' (n - Ar n) (i - Ar n) lf (w.take m') (by rw[BL];omega) (by omega) (by omega) hd' hl hwt
   rw[O5 m' m' _ _ (A8 _)]at ih
   have hfl:=O4 (way:=w) hl m' (n - Ar n) (i - Ar n)
   have hN:=Zv (w.getD m' []) (Cl w lf m' (n - Ar n) (i - Ar n)) hlast hfl
   have e3:Cl w lf (m'+1) n i=EM (w.getD m' []) (Cl w lf m' (n - Ar n) (i - Ar n)):=by rw[Cl,Ad hj]
   rw[e3]
   obtain ⟨x1,x2,x3,x4⟩:=BN hfl
   obtain ⟨v1,v2,v3,v4⟩:=BN (LX (w.getD m' []) (Cl w lf m' (n - Ar n) (i - Ar n)))
   have f7:Ac (decide ((i:Int)<(Ar n:Int))=false):=fo
   have e1:(n:Int) - (Ar n:Int)=((n - Ar n:Nat):Int):=by omega
   have e2:(i:Int) - (Ar n:Int)=((i - Ar n:Nat):Int):=by omega
   rw[htk, ← e1, ← e2]at ih
   clear hw hwt hd hd' e3 hfl hlast htk e1 e2
   generalize Ae (EM (w.getD m' []) (Cl w lf m' (n - Ar n) (i - Ar n)))=V at *
   generalize Ae (Cl w lf m' (n - Ar n) (i - Ar n))=A at *
   generalize Ae (w.getD m' [])=B at *
   generalize Ae lf=Z at *
   generalize Ar n=H at *
   generalize AL w=X at *
   simp only[OO,Cz.z2];refine D2 ?_
   repeat' ((first|exact tt|refine Ab hH ?_|refine Ag hH ?_|refine Ab ih ?_|refine Ag ih ?_|refine Ab hN ?_|refine Ag hN ?_|refine na fun b=>?_|refine nb fun b hb=>?_|refine iq ?_|(refine jq ?_ ?_<;>intro h h')|exact wZ|refine Aa ?_ ?_)<;>try refine D2 ?_)
theorem a9x(n i:Nat)(lf:Hs)(w:List Hs)(hi:i<n)(hn:n≤1073741824)(hd:w.length=BU n i)(hl:lf.length=32)(hw:∀ x∈w,x.length=32):
  CP Tryz.prog 211 [.int .i64 (n:Int),.int .i64 (i:Int),.agg (Ae lf),.sl none 32 (AL w)] (.tup [.agg (Ae (Cl w lf w.length n i)),.bool true]):=by
 have hI:=Zt n i
 rw[AO (by omega)]at hI
 have hD:=Zr n i hi hn
 have hF:=To w.length n i lf w rfl hi hn hd.symm hl hw
 have hlw:=Cm w
 have f1:Ac (decide ((w.length:Int)=(BU n i:Int))=true):=fo
 obtain ⟨z1,z2,z3,z4⟩:=BN hl
 obtain ⟨y1,y2,y3,y4⟩:=BN (O4 (way:=w) hl w.length n i)
 clear hw
 refine a7A _ _ (by simp) ?_
 generalize Ae (Cl w lf w.length n i)=A at *
 generalize Ae lf=Z at *
 generalize BU n i=dd at *
 generalize AL w=X at *
 simp only[Wi,Cz.z2];refine D2 ?_
 repeat' ((first|exact tt|refine Ab hI ?_|refine Ag hI ?_|refine Ab hD ?_|refine Ag hD ?_|refine Ab hF ?_|refine Ag hF ?_|refine na fun b=>?_|refine nb fun b hb=>?_|refine iq ?_|(refine jq ?_ ?_<;>intro h h')|exact wZ|refine Aa ?_ ?_)<;>try refine D2 ?_)
end
section
open Go.RowKit
abbrev LfC.cs(x:LfC):List AV:=[.str x.k,.str x.v,.int .i64 x.i,.sl none 32 (x.p.map Ae)]
def Fe(l:List LfC):List (List AV):=l.map LfC.cs
abbrev PfC.cs(p:PfC):List AV:=[.int .i64 p.c,.sl none 4 (Fe p.l)]
def Gg(m:MsgC):List AV:=.int .i64 m.k::m.h.cs
def C3(m:MsgC):List AV:=[.str m.p.s,.int .i64 m.p.sc,.str m.p.d,.int .i64 m.p.dc,.int .i64 m.p.q,.str m.p.x,.int .i64 m.p.th,.int .i64 m.p.ta,.str m.a,.int .i64 m.nx,.int .i64 m.ht,.int .i64 m.pr.c,.sl none 4 (Fe m.pr.l),.int .i64 m.cl.c,.sl none 4 (Fe m.cl.l)]
def AD(m:MsgC):List AV:=Gg m++C3 m
theorem Pt(m:MsgC):(Gg m).length=35:=by simp[Gg,BF]
theorem C4(m:MsgC):(AD m).length=50:=by simp[AD,Pt,C3]
theorem HZ(m:MsgC)(i:Nat):(AD m).drop (35+i)=(C3 m).drop i:=by
 rw[AD,List.drop_append,Pt,Jd (by rw[Pt];omega),Bj];congr 1;omega
theorem HW{c:AV}{l r:List AV}(h:l=c::r)(K:AV→Prop):RK (A5 none l) K=K c.alias:=by subst h;simp[RK,A5]
theorem LQ{n:Nat}{cs l r:List AV}(h:l=cs++r)(hn:cs.length=n)(K:AV→Prop):RK (A5 (some n) l) K=K (.agg cs):=by
 subst h;subst hn;simp[RK,A5]
theorem SK(m:MsgC)(K:AV→Prop):RK (A5 none ((AD m).drop 35)) K=K (.str (m.p.s)):=HW (l:=(AD m).drop 35) (c:=.str (m.p.s)) (r:=(C3 m).drop 1) (by rw[show 35=35+0 from rfl,HZ];rfl) K
theorem H1(m:MsgC)(K:AV→Prop):RK (A5 none ((AD m).drop 39)) K=K (.int .i64 (m.p.q)):=HW (l:=(AD m).drop 39) (c:=.int .i64 (m.p.q)) (r:=(C3 m).drop 5) (by rw[show 39=35+4 from rfl,HZ];rfl) K
theorem Gi(m:MsgC)(K:AV→Prop):RK (A5 none ((AD m).drop 43)) K=K (.str (m.a)):=HW (l:=(AD m).drop 43) (c:=.str (m.a)) (r:=(C3 m).drop 9) (by rw[show 43=35+8 from rfl,HZ];rfl) K
theorem Gj(m:MsgC)(K:AV→Prop):RK (A5 none ((AD m).drop 44)) K=K (.int .i64 (m.nx)):=HW (l:=(AD m).drop 44) (c:=.int .i64 (m.nx)) (r:=(C3 m).drop 10) (by rw[show 44=35+9 from rfl,HZ];rfl) K
theorem GM(m:MsgC)(K:AV→Prop):RK (A5 none ((AD m).drop 45)) K=K (.int .i64 (m.ht)):=HW (l:=(AD m).drop 45) (c:=.int .i64 (m.ht)) (r:=(C3 m).drop 11) (by rw[show 45=35+10 from rfl,HZ];rfl) K
theorem SL(m:MsgC)(K:AV→Prop):RK (A5 none ((AD m).drop 46)) K=K (.int .i64 (m.pr.c)):=HW (l:=(AD m).drop 46) (c:=.int .i64 (m.pr.c)) (r:=(C3 m).drop 12) (by rw[show 46=35+11 from rfl,HZ];rfl) K
theorem SN(m:MsgC)(K:AV→Prop):RK (A5 none ((AD m).drop 48)) K=K (.int .i64 (m.cl.c)):=HW (l:=(AD m).drop 48) (c:=.int .i64 (m.cl.c)) (r:=(C3 m).drop 14) (by rw[show 48=35+13 from rfl,HZ];rfl) K
theorem Ff(m:MsgC)(K:AV→Prop):RK (A5 (some 8) ((AD m).drop 35)) K=K (.agg (m.p.cs)):=LQ (l:=(AD m).drop 35) (cs:=m.p.cs) (r:=(C3 m).drop 8) (by rw[show 35=35+0 from rfl,HZ];rfl) rfl K
theorem b4A(m:MsgC)(K:AV→Prop):RK (A5 (some 2) ((AD m).drop 35)) K=K (.agg ([.str m.p.s,.int .i64 m.p.sc])):=LQ (l:=(AD m).drop 35) (cs:=[.str m.p.s,.int .i64 m.p.sc]) (r:=(C3 m).drop 2) (by rw[show 35=35+0 from rfl,HZ];rfl) rfl K
theorem Gk(m:MsgC)(K:AV→Prop):RK (A5 (some 2) ((AD m).drop 46)) K=K (.agg (m.pr.cs)):=LQ (l:=(AD m).drop 46) (cs:=m.pr.cs) (r:=(C3 m).drop 13) (by rw[show 46=35+11 from rfl,HZ];rfl) rfl K
theorem Gl(m:MsgC)(K:AV→Prop):RK (A5 (some 2) ((AD m).drop 48)) K=K (.agg (m.cl.cs)):=LQ (l:=(AD m).drop 48) (cs:=m.cl.cs) (r:=(C3 m).drop 15) (by rw[show 48=35+13 from rfl,HZ];rfl) rfl K
theorem Ht(m:MsgC)(K:AV→Prop):RK (A5 none (AD m)) K=K (.int .i64 m.k):=HW (l:=AD m) (c:=.int .i64 m.k) (r:=m.h.cs++C3 m) rfl K
theorem H0(m:MsgC)(K:AV→Prop):RK (A5 none ((AD m).drop 0)) K=K (.int .i64 m.k):=Ht m K
theorem Zy(m:MsgC)(K:AV→Prop):RK (A5 none ((AD m).drop 1)) K=K (.int .i64 m.h.h):=HW (l:=(AD m).drop 1) (c:=.int .i64 m.h.h) (r:=.int .i64 m.h.t::m.h.rt++C3 m) rfl K
theorem mg2(m:MsgC)(K:AV→Prop):RK (A5 none ((AD m).drop 2)) K=K (.int .i64 m.h.t):=HW (l:=(AD m).drop 2) (c:=.int .i64 m.h.t) (r:=m.h.rt++C3 m) rfl K
theorem Py(m:MsgC)(K:AV→Prop):RK (A5 (some 34) ((AD m).drop 1)) K=K (.agg m.h.cs):=LQ (l:=(AD m).drop 1) (cs:=m.h.cs) (r:=C3 m) rfl (by simp[BF]) K
theorem Ez(m:MsgC)(K:AV→Prop):RK (A5 (some 50) (AD m)) K=K (.agg (AD m)):=LQ (l:=AD m) (cs:=AD m) (r:=[]) (by simp) (C4 m) K
theorem EL(m:MsgC)(K:AV→Prop):RK (A5 (some 50) ((AD m).drop 0)) K=K (.agg (AD m)):=Ez m K
theorem DZ(m:MsgC):(AD m).map AV.store=AD m:=by
 rw[AD,FI]
 congr 1
 rw[Gg,CX,HdC.cs,CX,CX,Co];rfl
theorem a0v:∀ (a b vs:List AV) (i:Nat),splice (a++b) (a.length+i) vs=a++splice b i vs
 | [],b,vs,i=>by simp
 | c::a,b,vs,i=>by
  rw[AJ,show a.length+1+i=(a.length+i)+1 by omega,Bi,sp_s,a0v a b vs i,Bi]
theorem Yr(m:MsgC)(i:Nat)(vs:List AV):splice (AD m) (35+i) vs=Gg m++splice (C3 m) i vs:=by
 have:=a0v (Gg m) (C3 m) vs i
 rwa [Pt]at this
theorem SZ(m:MsgC)(q:PfC):splice (AD m) 46 q.cs=AD { m with pr:=q }:=by
 rw[show 46=35+11 from rfl,Yr];rfl
theorem S0(m:MsgC)(q:PfC):splice (AD m) 48 q.cs=AD { m with cl:=q }:=by
 rw[show 48=35+13 from rfl,Yr];rfl
theorem a0w:∀ (a b vs:List AV),a.length=vs.length→splice (a++b) 0 vs=vs++b
 | [],b,[],_=>by simp[sp_0n]
 | c::a,b,v::vs,h=>by
  rw[Bi,sp_0,a0w a b vs (by simpa using h),Bi]
end
section
open Go.RowKit
theorem a3X{a b:Hs}:hI a=hI b↔a=b:=by
 constructor
 ·intro h
  have:∀ {a b:Hs},hI a=hI b→a=b:=by
   intro a
   induction a with
   | nil=>intro b h;cases b with
    | nil=>rfl
    | cons=>simp[hI]at h
   | cons x a ih=>
    intro b h
    cases b with
    | nil=>simp[hI]at h
    | cons y b=>
     simp only[hI,CX,List.cons.injEq]at h
     rw[ih h.2,UInt8.toNat_inj.1 (by omega:x.toNat=y.toNat)]
  exact this h
 ·rintro rfl;rfl
abbrev Om:List Kd:=[.i,.i,.i,.i,.i,.i,.i,.i,.i,.i,.i,.i,.i,.i,.i,.i,.i,.i,.i,.i,.i,.i,.i,.i,.i,.i,.i,.i,.i,.i,.i,.i]
theorem Xd(a:Hs)(r:List Int)(ha:a.length=32)(hr:r.length=32):Bb Om (Ae a) (r.map (AV.int .u8 ·))=some (decide (hI a=r)):=by
 have:=O0 (hI a) r (by rw[O9,ha,hr])
 rw[O9,ha]at this
 rw[← this,hI,EX];rfl
theorem a3u(a b:Hs)(ha:a.length=32)(hb:b.length=32):Bb Om (Ae a) (Ae b)=some (decide (a=b)):=by
 have e:Ae b=(hI b).map (AV.int .u8 ·):=by rw[hI,EX];rfl
 rw[e,Xd a (hI b) ha (by rw[O9,hb])]
 congr 1
 exact decide_eq_decide.2 a3X
def BZ(o:Option Nat)(x:LfC):List AV:=[.str x.k,.str x.v,.int .i64 x.i,.sl o 32 (AL x.p)]
def BW(o:Option Nat)(l:List LfC):List (List AV):=l.map (BZ o)
theorem Fc(o:Option Nat)(l:List LfC):(BW o l).length=l.length:=by simp[BW]
theorem Fv(o:Option Nat)(l:List LfC)(i:Nat)(h:i<l.length):(BW o l).getD i []=BZ o (l.getD i default):=by simp[BW,h]
theorem Nu(l:List LfC):Fe l=BW none l:=rfl
instance:DecidableEq LfC:=fun a b=>decidable_of_iff (a.k=b.k∧a.v=b.v∧a.i=b.i∧a.p=b.p) ⟨fun ⟨h1,h2,h3,h4⟩=>LfC.ext4 h1 h2 h3 h4,fun h=>by subst h;exact ⟨rfl,rfl,rfl,rfl⟩⟩
theorem a4T(a b:LfC):(decide (a.k=b.k)&&(decide (a.v=b.v)&&(decide (a.i=b.i)&&decide (a.p=b.p))))=decide (a=b):=by
 rw[FE]
 simp only[AP,Bs]
 exact ⟨fun ⟨h1,h2,h3,h4⟩=>LfC.ext4 h1 h2 h3 h4,fun h=>by subst h;exact ⟨rfl,rfl,rfl,rfl⟩⟩
theorem XO(a:List Hs)(i:Nat)(h:i<a.length):(AL a).getD i []=Ae (a.getD i []):=by simp[List.getD,h]
theorem XF{a:List Hs}(h:∀ x∈a,x.length=32){i:Nat}(hi:i<a.length):(a.getD i []).length=32:=h _ (by rw[List.getD,Aw hi];exact Di _)
theorem Cy{A B:Prop}(h:B)(e:A=B:=by (simp (disch:=omega) only[*, ↓Ed,Eu, ↓reduceIte,reduceCtorEq,Nat.reduceAdd,Nat.reduceEqDiff,Nat.reduceLT,Nat.reduceLeDiff,Int.reduceToNat,Int.reduceEq,Int.reduceLT,Int.reduceLE,Ap,Ao,Ax,AJ,AY,Int.reduceAdd,AH,AN,Cm,Fc,Fv,Ca,BZ];first|done|rfl)):A:=e▸h
theorem a9u(a b:List Hs)(ha:∀ x∈a,x.length=32)(hb':∀ x∈b,x.length=32)(hl:a.length≤1000)(hl2:b.length≤1000):CP Tryz.prog 221 [.sl none 32 (AL a),.sl none 32 (AL b)] (.bool (decide (a=b))):=by
 refine a7w _ _ (by simp) ?_
 by_cases hn:a.length=b.length
 rotate_left
 ·have f1:Ac (decide ((a.length:Int)=b.length)=false):=fo
  rw[A0 (fun e=>hn (by rw[e]))]
  clear hn ha hb'
  have l1:=Cm a
  have l2:=Cm b
  generalize AL a=A at *
  generalize AL b=B at *
  simp only[Ry];refine Cy ?_
  repeat' ((first|exact tt|refine na fun b=>?_|refine nb fun b hb=>?_|refine iq ?_|(refine jq ?_ ?_<;>intro h h')|exact wZ|refine Aa ?_ ?_)<;>try refine Cy ?_)
 have f1:Ac (decide ((a.length:Int)=b.length)=true):=fo
 have l1:=Cm a
 have l2:=Cm b
 have hga:=XO a
 have hgb:=XO b
 have h3a:=fun i h=>XF (i:=i) ha h
 have h3b:=fun i h=>XF (i:=i) hb' h
 clear ha hb'
 generalize AL a=A at *
 generalize AL b=B at *
 simp only[Ry];refine Cy ?_
 repeat' ((first|exact tt|refine na fun b=>?_|refine nb fun b hb=>?_|refine iq ?_|(refine jq ?_ ?_<;>intro h h')|exact wZ|refine Aa ?_ ?_)<;>try refine Cy ?_)
 refine A2 (fun k:Nat=>⟨lk [(0,.sl none 32 A),(1,.sl none 32 B),(12,.int .i64 (a.length:Int)),(13,.int .i64 (k:Int))],lk []⟩) (fun k=>k≤a.length∧Ac (a.take k=b.take k)) (fun k=>a.length - k) 0 ⟨by omega,rfl⟩ (An qd) ?_
 rintro k ⟨g1,g2⟩
 by_cases hk:k<a.length
 ·have f5:Ac (decide ((k:Int)<a.length)=true):=fo
  have e1:a[k]?=some (a.getD k []):=by simp[List.getD,hk]
  have e2:b[k]?=some (b.getD k []):=by simp[List.getD,show k<b.length by omega]
  have q1:=hga k hk
  have q2:=hgb k (by omega)
  have hE:=a3u _ _ (h3a k hk) (h3b k (by omega))
  obtain ⟨z1,z2,z3,z4⟩:=BN (h3a k hk)
  obtain ⟨y1,y2,y3,y4⟩:=BN (h3b k (by omega))
  have hN:decide (a.getD k []=b.getD k [])=true→Ac (a.take (k+1)=b.take (k+1)):=fun h=>by
   show _=_
   rw[List.take_add_one,List.take_add_one,e1,e2,show a.take k=b.take k from g2,of_decide_eq_true h]
  have hF:decide (a.getD k []=b.getD k [])=false→decide (a=b)=false:=fun h=>A0 (fun e=>of_decide_eq_false h (by rw[e]))
  clear g2 e1 e2 hga hgb h3a h3b
  generalize decide (a.getD k []=b.getD k [])=D at *
  generalize Ae (a.getD k [])=X at *
  generalize Ae (b.getD k [])=Y at *
  cases D with
  | true=>
   have hN:=hN rfl
   clear hF
   refine Cy ?_
   repeat' ((first|exact tt|refine na fun b=>?_|refine nb fun b hb=>?_|refine iq ?_|(refine jq ?_ ?_<;>intro h h')|exact wZ|refine Aa ?_ ?_)<;>try refine Cy ?_)
   all_goals exact AC (k+1) ⟨An Mc,⟨by omega,hN⟩,by omega⟩
  | false=>
   have hF:=hF rfl
   rw[hF]
   clear hN hF
   refine Cy ?_
   repeat' ((first|exact tt|refine na fun b=>?_|refine nb fun b hb=>?_|refine iq ?_|(refine jq ?_ ?_<;>intro h h')|exact wZ|refine Aa ?_ ?_)<;>try refine Cy ?_)
 ·have f5:Ac (decide ((k:Int)<a.length)=false):=fo
  have:a=b:=by
   have:=show a.take k=b.take k from g2
   rwa [B0 (by omega),B0 (by omega)]at this
  rw[AO this]
  clear g2 this hga hgb h3a h3b
  refine Cy ?_
  repeat' ((first|exact tt|refine na fun b=>?_|refine nb fun b hb=>?_|refine iq ?_|(refine jq ?_ ?_<;>intro h h')|exact wZ|refine Aa ?_ ?_)<;>try refine Cy ?_)
def Bw(p:PfC):Prop:=p.l.length≤1000∧∀ i,i<p.l.length→(p.l.getD i default).k.length≤100000∧(p.l.getD i default).v.length≤100000∧(p.l.getD i default).p.length≤1000
theorem Zo(o1 o2:Option Nat)(a b:LfC)(ha:a.p.length≤1000)(hb':b.p.length≤1000):CP Tryz.prog 198 [.agg (BZ o1 a),.agg (BZ o2 b)] (.bool (decide (a=b))):=by
 have hE:=a9u a.p b.p a.h b.h ha hb'
 rw[← a4T a b]
 refine a7l _ _ (by simp) ?_
 unfold BZ
 generalize decide (a.p=b.p)=D at *
 generalize AL a.p=X at *
 generalize AL b.p=Y at *
 cases h1:decide (a.k=b.k)
 ·simp only[Nc];refine Cy ?_
  repeat' ((first|exact tt|refine na fun b=>?_|refine nb fun b hb=>?_|refine iq ?_|(refine jq ?_ ?_<;>intro h h')|exact wZ|refine Aa ?_ ?_)<;>try refine Cy ?_)
  all_goals rfl
 cases h2:decide (a.v=b.v)
 ·simp only[Nc];refine Cy ?_
  repeat' ((first|exact tt|refine na fun b=>?_|refine nb fun b hb=>?_|refine iq ?_|(refine jq ?_ ?_<;>intro h h')|exact wZ|refine Aa ?_ ?_)<;>try refine Cy ?_)
  all_goals rfl
 cases h3:decide (a.i=b.i)
 ·simp only[Nc];refine Cy ?_
  repeat' ((first|exact tt|refine na fun b=>?_|refine nb fun b hb=>?_|refine iq ?_|(refine jq ?_ ?_<;>intro h h')|exact wZ|refine Aa ?_ ?_)<;>try refine Cy ?_)
  all_goals rfl
 simp only[Nc];refine Cy ?_
 repeat' ((first|exact tt|refine Ab hE ?_|refine Ag hE ?_|refine na fun b=>?_|refine nb fun b hb=>?_|refine iq ?_|(refine jq ?_ ?_<;>intro h h')|exact wZ|refine Aa ?_ ?_)<;>try refine Cy ?_)
 all_goals simp
theorem a9o(o1 o2:Option Nat)(a b:List LfC)(ha:∀ i,i<a.length→(a.getD i default).p.length≤1000)(hb':∀ i,i<b.length→(b.getD i default).p.length≤1000)(hl:a.length≤1000)(hl2:b.length≤1000):
  CP Tryz.prog 197 [.sl none 4 (BW o1 a),.sl none 4 (BW o2 b),.fn 198] (.bool (decide (a=b))):=by
 have hbd:K9 Tryz.prog 198=true:=by kernel_rfl
 refine YT _ _ (by simp) ?_
 by_cases hn:a.length=b.length
 rotate_left
 ·have f1:Ac (decide ((a.length:Int)=b.length)=false):=fo
  rw[A0 (fun e=>hn (by rw[e]))]
  clear hn ha hb'
  simp only[OK];refine Cy ?_
  repeat' ((first|exact tt|refine na fun b=>?_|refine nb fun b hb=>?_|refine iq ?_|(refine jq ?_ ?_<;>intro h h')|exact wZ|refine Aa ?_ ?_)<;>try refine Cy ?_)
 have f1:Ac (decide ((a.length:Int)=b.length)=true):=fo
 simp only[OK];refine Cy ?_
 repeat' ((first|exact tt|refine na fun b=>?_|refine nb fun b hb=>?_|refine iq ?_|(refine jq ?_ ?_<;>intro h h')|exact wZ|refine Aa ?_ ?_)<;>try refine Cy ?_)
 refine A2 (fun k:Nat=>⟨lk [(0,.sl none 4 (BW o1 a)),(1,.sl none 4 (BW o2 b)),(2,.fn 198),(15,.sl none 4 (BW o1 a)),(16,.int .i64 (a.length:Int)),(17,.int .i64 (k:Int))],lk []⟩) (fun k=>k≤a.length∧Ac (a.take k=b.take k)) (fun k=>a.length - k) 0 ⟨by omega,rfl⟩ (An qd) ?_
 rintro k ⟨g1,g2⟩
 by_cases hk:k<a.length
 ·have f5:Ac (decide ((k:Int)<a.length)=true):=fo
  have e1:a[k]?=some (a.getD k default):=by simp[List.getD,hk]
  have e2:b[k]?=some (b.getD k default):=by simp[List.getD,show k<b.length by omega]
  have hA:=Zo o1 o2 (a.getD k default) (b.getD k default) (ha k hk) (hb' k (by omega))
  have hA':=Zo none none (a.getD k default) (b.getD k default) (ha k hk) (hb' k (by omega))
  have hN:decide (a.getD k default=b.getD k default)=true→Ac (a.take (k+1)=b.take (k+1)):=fun h=>by
   show _=_
   rw[List.take_add_one,List.take_add_one,e1,e2,show a.take k=b.take k from g2,of_decide_eq_true h]
  have hF:decide (a.getD k default=b.getD k default)=false→decide (a=b)=false:=fun h=>A0 (fun e=>of_decide_eq_false h (by rw[e]))
  clear g2 e1 e2 ha hb'
  generalize decide (a.getD k default=b.getD k default)=D at *
  obtain ⟨⟨x1,x2,x3,x4,x5⟩,hx⟩:∃ x,a.getD k default=x:=⟨_,rfl⟩
  obtain ⟨⟨y1,y2,y3,y4,y5⟩,hy⟩:∃ x,b.getD k default=x:=⟨_,rfl⟩
  rw[hx,hy]at hA hA'
  simp only[BZ]at hA hA'
  cases D with
  | true=>
   have hN:=hN rfl
   clear hF
   simp (disch:=omega) only[hx,hy,BZ, ↓Ed,Eu, ↓reduceIte,reduceCtorEq,Nat.reduceAdd,Nat.reduceEqDiff,Nat.reduceLT,Nat.reduceLeDiff,Int.reduceToNat,Int.reduceEq,Int.reduceLT,Int.reduceLE,Ap,Ao,Ax,AJ,AY,Int.reduceAdd,AH,AN,Cm,Fc,Fv,Ca,BZ]
   repeat' ((first|exact tt|refine And.intro hbd ?_|refine Ab hA ?_|refine Ab hA' ?_|refine na fun b=>?_|refine nb fun b hb=>?_|refine iq ?_|(refine jq ?_ ?_<;>intro h h')|exact wZ|refine Aa ?_ ?_)<;>try refine Cy ?_)
   all_goals exact AC (k+1) ⟨An Mc,⟨by omega,hN⟩,by omega⟩
  | false=>
   have hF:=hF rfl
   rw[hF]
   clear hN hF
   simp (disch:=omega) only[hx,hy,BZ, ↓Ed,Eu, ↓reduceIte,reduceCtorEq,Nat.reduceAdd,Nat.reduceEqDiff,Nat.reduceLT,Nat.reduceLeDiff,Int.reduceToNat,Int.reduceEq,Int.reduceLT,Int.reduceLE,Ap,Ao,Ax,AJ,AY,Int.reduceAdd,AH,AN,Cm,Fc,Fv,Ca,BZ]
   repeat' ((first|exact tt|refine And.intro hbd ?_|refine Ab hA ?_|refine Ab hA' ?_|refine na fun b=>?_|refine nb fun b hb=>?_|refine iq ?_|(refine jq ?_ ?_<;>intro h h')|exact wZ|refine Aa ?_ ?_)<;>try refine Cy ?_)
 ·have f5:Ac (decide ((k:Int)<a.length)=false):=fo
  have:a=b:=by
   have:=show a.take k=b.take k from g2
   rwa [B0 (by omega),B0 (by omega)]at this
  rw[AO this]
  clear g2 this ha hb'
  refine Cy ?_
  repeat' ((first|exact tt|refine na fun b=>?_|refine nb fun b hb=>?_|refine iq ?_|(refine jq ?_ ?_<;>intro h h')|exact wZ|refine Aa ?_ ?_)<;>try refine Cy ?_)
theorem Zq(o1 o2:Option Nat)(p q:PfC)(hp:Bw p)(hq:Bw q):CP Tryz.prog 157 [.agg [.int .i64 p.c,.sl none 4 (BW o1 p.l)],.agg [.int .i64 q.c,.sl none 4 (BW o2 q.l)]] (.bool (decide (p.c=q.c∧p.l=q.l))):=by
 have hE:=a9o o1 o2 p.l q.l (fun i hi=>(hp.2 i hi).2.2) (fun i hi=>(hq.2 i hi).2.2) hp.1 hq.1
 have e:decide (p.c=q.c∧p.l=q.l)=(decide (p.c=q.c)&&decide (p.l=q.l)):=by simp
 rw[e]
 refine S5 _ _ (by simp) ?_
 clear e hp hq
 generalize decide (p.l=q.l)=D at *
 cases h1:decide (p.c=q.c)
 ·simp only[Nb];refine Cy ?_
  repeat' ((first|exact tt|refine na fun b=>?_|refine nb fun b hb=>?_|refine iq ?_|(refine jq ?_ ?_<;>intro h h')|exact wZ|refine Aa ?_ ?_)<;>try refine Cy ?_)
  all_goals rfl
 simp only[Nb];refine Cy ?_
 repeat' ((first|exact tt|refine Ab hE ?_|refine Ag hE ?_|refine na fun b=>?_|refine nb fun b hb=>?_|refine iq ?_|(refine jq ?_ ?_<;>intro h h')|exact wZ|refine Aa ?_ ?_)<;>try refine Cy ?_)
 all_goals simp
end
section
open Go.Shelf Go.RowKit Go.Lib
abbrev zLf:Value:=.agg #[.string ⟨#[]⟩,.string ⟨#[]⟩,.int .i64 0,.slice none 0 0]
theorem lfRow:RowT (BZ none) 4 where
 len:=fun _=>rfl
 no:=fun x c h=>by
  simp only[BZ,AZ,B8,Cb]at h
  rcases h with rfl|rfl|rfl|rfl<;>exact ⟨fun _ _ _ e=>(by cases e),fun _ e=>(by cases e)⟩
def CF(cap:Nat)(l:List LfC):List AV:=hc 4 cap (l.map (BZ none))
theorem a2O(b off n c:Nat)(cs:List Value)(w:World)(hn:0<n)(hbig:n≤1000000)(hcl:cs.length=n * 4)(Ae:∀ j v,cs[j]?=some v→w.cell? ⟨b,off+j,none⟩=some v):
  Calls Tryz.prog 199 #[.slice (some ⟨b,off,none⟩) n c] w fun e w'=>
   e=.returned (.slice (some ⟨w.heap.size+1,0,none⟩) n (grownCap (w.alloc (.cells #[] 145)) n 0 145))∧
   w'=(w.alloc (.cells #[] 145)).drew.alloc (.cells (cs.toArray++Builtin.zeroCells zLf.cells (grownCap (w.alloc (.cells #[] 145)) n 0 145 - n)) 145):=by
 obtain ⟨i0,hi0,hz0,hzs,hzb⟩:=info_parts (P:=Tryz.prog) (e:=145) (z:=zLf) (size:=4) (bytes:=64) (by kernel_rfl)
 have u:=Tryz.underlying36
 have q22:∀ (w:World) (a:Option Addr) (n c n' c':Nat),(binOp .eql 36 (.slice a n c) (.slice none n' c')).run Tryz.prog w=.ok (.bool a.isNone) w:=fun w a n c n' c'=>Lib.run_eql_slice_nil w _ _ a n c n' c' u
 have hrun:∀ ty,(Builtin.append_ #[36,36] ty #[.slice (some ⟨w.heap.size,0,none⟩) 0 0,.slice (some ⟨b,off,none⟩) n c]).run Tryz.prog (w.alloc (.cells #[] 145))=_:=fun ty=>
  run_append_grow (w:=w.alloc (.cells #[] 145)) 36 ty 145 i0 _ u hi0 hz0 ⟨w.heap.size,0,none⟩ 0 0 [] (by simp) (fun j v h=>by simp at h) ⟨b,off,none⟩ n c cs (by rw[hzs];exact hcl) (fun j v h=>by
   rw[Addr.add_lit];exact Lib.cell?_alloc_some _ (Ae j v h)) (by omega) (by omega) (by rw[hzb];exact growslice_fits (by omega) (by omega))
 have hA:Hid (∀ ty,(Builtin.append_ #[36,36] ty #[.slice (some ⟨w.heap.size,0,none⟩) 0 0,.slice (some ⟨b,off,none⟩) n c]).run Tryz.prog (w.alloc (.cells #[] 145))=_):=hrun
 clear hrun Ae
 go_enter Tryz.func199,Tryz.ntmps199
 go_wp2_with (at_builtin;refine Lib.wpList_append_run _ rfl _ _ _ _ rfl _ _ rfl rfl _ _ (hA.out _) ?_)
 go_ret
 exact ⟨rfl,rfl⟩
theorem b2P(l:List LfC)(hn:0<l.length)(hb:l.length≤1000000):
  CT Tryz.prog 199 [.sl none 4 (BW none l)] (lk [])
   (fun r o=>∃ b c,l.length≤c∧r=.hsl b 145 4 l.length c∧o=lk [(b,CF c l)]):=by
 intro W U vs hlen hv hI
 obtain ⟨v0,rfl⟩:∃ v0,vs=[v0]:=by
  match vs,hlen with
  | [v0],_=>exact ⟨v0,rfl⟩
 have h0:=hv 0 v0 _ rfl rfl
 have hll:(BW none l).length=l.length:=Fc _ _
 cases h0 with
 | sl A cap own _ sb so _ f hcap hmax hA _ hc hvv=>
 rw[hll]at *
 obtain rfl:=hA hn
 obtain ⟨cs,Ae⟩:∃ cs:List Value,cs=(List.range (l.length * 4)).map fun t=>f (t / 4) (t % 4):=⟨_,rfl⟩
 have hcl:cs.length=l.length * 4:=by rw[Ae];simp
 have hce:∀ t,t<l.length * 4→cs[t]?=some (f (t / 4) (t % 4)):=fun t ht=>by rw[Ae,B7,List.getElem?_range ht];rfl
 have hat:∀ t,t<l.length * 4→t / 4<l.length∧t % 4<4∧t / 4 * 4+t % 4=t:=fun t ht=>by omega
 have hcell:∀ j v,cs[j]?=some v→W.cell? ⟨sb,so+j,none⟩=some v∧v.oneCell'=true:=fun j v h=>by
  have hj:=(AM.1 h).1
  rw[hce j (by omega)]at h
  obtain ⟨q1,q2,q3⟩:=hat j (by omega)
  obtain ⟨c1,c2,c3⟩:=hc (j / 4) (j % 4) q1 q2
  rw[show so+j=so+j / 4 * 4+j % 4 by omega,c1]
  exact ⟨h,Fp h▸c2⟩
 refine (a2O sb so l.length cap cs W hn hb hcl (fun j v h=>(hcell j v h).1)).mono ?_
 rintro e W' ⟨rfl,rfl⟩
 have hge:=grownCap_ge (W.alloc (.cells #[] 145)) l.length 0 145
 have hcm:=grownCap_le_maxLen (W.alloc (.cells #[] 145)) l.length 0 145 (by unfold maxLen;omega)
 generalize grownCap (W.alloc (.cells #[] 145)) l.length 0 145=G at *
 obtain ⟨A,hAd⟩:∃ A:Array Value,A=cs.toArray++Builtin.zeroCells zLf.cells (G - l.length):=⟨_,rfl⟩
 rw[← hAd]
 have hAs:A.size=G * 4:=by
  rw[hAd,G2,size_zeroCells,Ck,hcl]
  show _+(_ - _) * 4=_;omega
 have hA:∀ j,j<l.length * 4→A[j]?=cs[j]?:=fun j hj=>by
  rw[hAd,HK (by rw[Ck];omega),EW]
 have h1A:∀ v∈A,v.oneCell'=true:=fun v hv'=>by
  rw[hAd]at hv'
  rcases Array.mem_append.1 hv' with h|h
  ·obtain ⟨j,hj,rfl⟩:=Do (show v∈cs by simpa using h)
   exact (hcell j _ (Aw hj)).2
  ·have:=Nz h
   have h9:v=.string ⟨#[]⟩∨v=.int .i64 0∨v=.slice none 0 0:=by simpa[zLf,Value.cells]using this
   rcases h9 with h9|h9|h9<;>rw[h9]<;>rfl
 have hread:∀ j c,(CF G l)[j]?=some c→VR W U (A.getD j undef) c:=fun j c hc'=>by
  rcases II (sz:=4) (by omega) (lfRow.all l) hc' with ⟨e,q1,q2⟩ | ⟨rfl,_⟩
  ·have hk:j / 4<l.length:=by simpa using (AM.1 q1).1
   have h5:=hvv (j / 4) e (j % 4) c q1 q2
   rw[Cu,hA j (by omega),hce j (by omega)]
   exact h5
  ·exact .any _
 have hno:∀ (j t k:Nat) (l':List (List AV)),(CF G l)[j]?≠some (.sl (some t) k l'):=fun j t k l' h=>(Fh (by omega) (lfRow.all _) (lfRow.noOwn _) h).1 t k l' rfl
 have hhd:∀ (u:Nat),CG (CF G l)≠some u:=fun u=>Jw (fun c hc=>(Fh (by omega) (lfRow.all _) (lfRow.noOwn _) hc).2) u
 have hE0:=Ext.alloc W U (.cells #[] 145) (fun _=>False)
 have hE:=hE0.drew
 have hlc':(CF G l).length=G * 4:=by rw[CF,lfRow.len_hc];congr 1;omega
 have h6:=(hI.ext hE).newo (vs:=A) (cs:=CF G l) (ty:=145) (by rw[hlc',hAs]) (fun u hu=>absurd hu (hhd u)) (fun j u hu=>⟨h1A u (Array.mem_of_getElem? hu),fun z hz=>⟨by
  have:=(hread j z hz).keep hE.keeps
  rwa [Cu,hu,Cp]at this,fun e k l' hz'=>absurd (hz'▸hz) (hno j e k l')⟩⟩)
 have hsz:((W.alloc (.cells #[] 145)).drew).heap.size=W.heap.size+1:=by simp
 rw[hsz,SB]at h6
 refine ⟨_,_,_,_,rfl,⟨W.heap.size+1,G,by omega,rfl,rfl⟩,(fun b cs' h=>by cases h),h6.res1 (.hsl _ _ _ _ _ (by omega) hcm ⟨_,_,by
  have:=heap_alloc_new ((W.alloc (.cells #[] 145)).drew) (.cells A 145)
  rw[hsz]at this
  exact this⟩) (Sole.plain fun _ _ _ e=>by cases e)⟩
theorem a2J{d:Option Nat}{s:St}{K:St→Prop}{f:Nat}{vs:List AV}{l:List LfC}(h:CT Tryz.prog f vs (lk []) (fun r o=>∃ b c,l.length≤c∧r=.hsl b 145 4 l.length c∧o=lk [(b,CF c l)]))
  (h1:∀ b c,s.o b=none→l.length≤c→KS (St.put ⟨s.t,BG [(b,CF c l)] s.o⟩ d (.hsl b 145 4 l.length c)) K):Dg Tryz.prog f vs d s K:=by
 refine ⟨lk [],_,fun b cs h=>(by cases h),h, ?_⟩
 rintro r o2 ⟨b,c,hc,rfl,rfl⟩ hf
 exact h1 b c (hf b (CF c l) (by simp[lk]) (by simp[lk])) hc
end
section
open Go.RowKit
def Wk(a a':AV):Prop:=∀ (W:World) (U:Nat→Nat→Prop) (v:Value),VR W U v a→VR W U v a'
theorem Wk.rfl{a:AV}:Wk a a:=fun _ _ _ h=>h
theorem QD(e sz:Nat):Wk (.nils e sz) (.sl none sz []):=fun _ _ _ h=>h.alias
theorem T7(o:Option Nat)(sz:Nat)(els:List (List AV)):Wk (.sl o sz els) (.sl none sz els):=fun _ _ _ h=>h.alias
def K5:List AV→List AV→Prop
 | [],[]=>True
 | a::l,a'::l'=>Wk a a'∧K5 l l'
 | _,_=>False
theorem T8:∀ {l l':List AV},K5 l l'→l.length=l'.length∧∀ (i:Nat) (c d:AV),l[i]?=some c→l'[i]?=some d→Wk c d
 | [],[],_=>⟨by simp,fun i c d h=>by simp at h⟩
 | a::l,a'::l',h=>by
  obtain ⟨h1,h2⟩:=T8 h.2
  refine ⟨by simp[h1],fun i c d hc hd=>?_⟩
  cases i with
  | zero=>simp at hc hd;subst hc hd;exact h.1
  | succ i=>exact h2 i c d (by simpa using hc) (by simpa using hd)
 | [],_::_,h=>h.elim
 | _::_,[],h=>h.elim
theorem QC{cs ds:List AV}(h:K5 cs ds):Wk (.agg cs) (.agg ds):=by
 obtain ⟨h1,h2⟩:=T8 h
 intro W U v hv
 cases hv with
 | agg vs _ hl h' h3=>
  refine .agg vs ds (by omega) (fun i u d hu hd=>?_) h3
  have hi:i<cs.length:=by have:=(AM.1 hd).1;omega
  exact h2 i _ d (Aw hi) hd W U u (h' i u _ hu (Aw hi))
def XY:AV→Prop
 | .sl (some _) _ _=>False
 | _=>True
theorem a8w{W:World}{U:Nat→Nat→Prop}{B:Nat→Prop}{v:Value}{r:AV}(h:XY r):Own1 W U B v r:=by
 unfold Own1
 split
 ·exact h.elim
 ·trivial
theorem G4{P:Program}{f:Nat}{xs:List AV}{r r':AV}(h:Wk r r')(hn:XY r')(hc:CP P f xs r):CP P f xs r':=by
 intro W U vs hG hl hv
 refine (hc W U vs hG hl hv).mono fun e W' ⟨v,U',e1,e2,e3,e4⟩=>⟨v,U',e1,h W' U' v e2,a8w hn,e4⟩
theorem Yj:lk []=(fun _=>none:Nat→Option (List AV)):=funext fun _=>rfl
theorem Uf{P:Program}{ac:ACode}{rs:List AR}{f n:Nat}{xs:List AV}{r:AV}(h:MY P ac rs f n)(hl:xs.length≤n)(hw:BK P ac (Mh rs (lk []) (fun r' _=>r'=r)) ⟨lk (num 0 (xs.map AV.alias)),lk []⟩):CP P f xs r:=
 a1J (h _ _ _ hl (by rw[Yj]at hw;exact hw))
end
section
open Go.RowKit Go.Lib
theorem Qm{A B:Prop}(h:B)(e:A=B:=by (simp (disch:=omega) only[*, ↓Ed,Eu, ↓reduceIte,reduceCtorEq,Nat.reduceAdd,Nat.reduceEqDiff,Nat.reduceLT,Nat.reduceLeDiff,Int.reduceToNat,Int.reduceEq,Int.reduceLT,Int.reduceLE,Ap];first|done|rfl)):A:=e▸h
theorem JC(a lo hi:Int):CP Tryz.prog 94 [.int .i64 a,.int .i64 lo,.int .i64 hi] (.bool (decide (lo≤a∧a≤hi))):=by
 refine a6Y _ _ (by simp) ?_
 by_cases h1:lo≤a<;>by_cases h2:a≤hi
 ·rw[AO ⟨h1,h2⟩]
  simp only[Rp];refine Qm ?_
  repeat' ((first|exact tt|refine na fun b=>?_|refine nb fun b hb=>?_|refine iq ?_|(refine jq ?_ ?_<;>intro h h')|exact wZ|refine Aa ?_ ?_)<;>try refine Qm ?_)
  all_goals (exfalso;simp only[Ac,Hn]at *;omega)
 all_goals rw[A0 (fun h=>by omega)]
 all_goals (simp only[Rp];refine Qm ?_;try exact tt)
 all_goals repeat' ((first|exact tt|refine na fun b=>?_|refine nb fun b hb=>?_|refine iq ?_|(refine jq ?_ ?_<;>intro h h')|exact wZ|refine Aa ?_ ?_)<;>try refine Qm ?_)
 all_goals (exfalso;simp only[Ac,Hn]at *;omega)
end
section
open Go.RowKit Go.Shelf
theorem CK{A B:Prop}(h:B)(e:A=B:=by (simp (disch:=omega) only[*, ↓Ed,Eu, ↓reduceIte,reduceCtorEq,Nat.reduceAdd,Nat.reduceEqDiff,Nat.reduceLT,Nat.reduceLeDiff,Int.reduceToNat,Int.reduceEq,Int.reduceLT,Int.reduceLE,Ap,Ao,Ax,AJ,AY,Int.reduceAdd,AH,AN,Ca,decide_true,Gt,eqC_i,eqC_s,eqC_nil,oand_some];first|done|rfl)):A:=e▸h
theorem IU(k:Int):CP Tryz.prog 91 [.int .i64 k] (.bool (decide (1≤k∧k≤5))):=by
 have h:=JC k 1 5
 refine a6Z _ _ (by simp) ?_
 simp only[VQ];refine CK ?_
 repeat' ((first|exact tt|refine Ab h ?_|refine na fun b=>?_|refine nb fun b hb=>?_|refine iq ?_|(refine jq ?_ ?_<;>intro h h')|exact wZ|refine Aa ?_ ?_)<;>try refine CK ?_)
abbrev Ny:AV:=.agg [.int .i64 2,.int .i64 0,.int .i64 0,.int .u8 0,.int .u8 0,.int .u8 0,.int .u8 0,.int .u8 0,.int .u8 0,.int .u8 0,.int .u8 0,.int .u8 0,.int .u8 0,.int .u8 0,.int .u8 0,.int .u8 0,.int .u8 0,.int .u8 0,.int .u8 0,.int .u8 0,.int .u8 0,.int .u8 0,.int .u8 0,.int .u8 0,.int .u8 0,.int .u8 0,.int .u8 0,.int .u8 0,.int .u8 0,.int .u8 0,.int .u8 0,.int .u8 0,.int .u8 0,.int .u8 0,.int .u8 0,.str [113],.int .i64 1,.str [112],.int .i64 0,.int .i64 1,.str [],.int .i64 1,.int .i64 0,.str [],.int .i64 0,.int .i64 1,.int .i64 0,.nils 145 4,.int .i64 0,.nils 145 4]
abbrev p0:PktC:=⟨[113],1,[112],0,1,[],1,0⟩
theorem Yz{c:UInt8}(h:97≤c.toNat∧c.toNat≤122):Gm [c]=true:=by
 refine a5u ⟨by simp,by simp,fun k hk=>?_⟩
 obtain rfl:k=0:=by simpa using hk
 exact .inl (by simpa using h)
theorem LU:Ba [112] 0=true:=by simp[Ba,Yz]
theorem SR:Ba [113] 1=true:=by simp[Ba,Yz]
theorem a5h:BO p0=true:=by simp[BO,LU,SR]
end
end Go.Proofs.YtfgihnhoocnmdaaGreatDoor
