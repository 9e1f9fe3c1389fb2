import Derived.Test.YtfgihnhoocnmdaaGreatDoorK18
import Derived.Lib.Join
namespace Go.Proofs.YtfgihnhoocnmdaaGreatDoor
set_option linter.all false
set_option maxHeartbeats 64000000
set_option maxRecDepth 100000
section
open Go.RowKit Go.Lib
abbrev Hz(L:List PrP):AV:=.sl none 2 (AX L)
theorem a4m{L:List PrP}{k:List UInt8}(h:AE L k<L.length):A9 L k=decide ((L.getD (AE L k) default).1=k):=by simp[A9,h]
theorem Fl{A B:Prop}(h:B)(e:A=B:=by (simp (disch:=omega) only[*, ↓Ed,Eu, ↓reduceIte,reduceCtorEq,Nat.reduceAdd,Nat.reduceEqDiff,Nat.reduceLT,Nat.reduceLeDiff,Int.reduceToNat,Int.reduceEq,Int.reduceLT,Int.reduceLE,Ap,Df,Dw];first|done|rfl)):A:=e▸h
theorem a9R(L:List PrP)(hb:L.length≤100000)(k:List UInt8):CP Tryz.prog 84 [Hz L,.str k] (.tup [.int .i64 (AE L k:Nat),.bool (A9 L k)]):=by
 have hp:=IV L k
 have hpb:=PZ k L
 have hpa:=PY k L
 refine a6y _ _ (by simp) ?_
 simp only[Vu];refine Fl ?_
 repeat' ((first|exact tt|refine na fun b=>?_|refine nb fun b hb=>?_|refine iq ?_|(refine jq ?_ ?_<;>intro h h')|exact wZ|refine Aa ?_ ?_)<;>try refine Fl ?_)
 refine A2 (fun i:Nat=>⟨lk [(0,Hz L),(1,.str k),(6,.int .i64 (i:Int))],lk []⟩) (fun i=>i≤AE L k) (fun i=>AE L k - i) 0 (by omega) (An Mc) ?_
 intro i hi
 by_cases hlt:i<AE L k
 ·have f1:Ac (decide ((i:Int)<L.length)=true):=fo
  have f2:Ac (Op.bytesLess (L.getD i default).1 k=true):=hpb i hlt
  clear hpb hpa
  refine Fl ?_
  repeat' ((first|exact tt|refine na fun b=>?_|refine nb fun b hb=>?_|refine iq ?_|(refine jq ?_ ?_<;>intro h h')|exact wZ|refine Aa ?_ ?_)<;>try refine Fl ?_)
  all_goals exact AC (i+1) ⟨An Mc,hlt,by omega⟩
 ·obtain rfl:i=AE L k:=by omega
  by_cases hl:AE L k<L.length
  ·have f1:Ac (decide (((AE L k:Nat):Int)<L.length)=true):=fo
   have f2:Ac (Op.bytesLess (L.getD (AE L k) default).1 k=false):=hpa hl
   rw[a4m hl]
   clear hpb hpa hlt
   generalize AE L k=i at *
   refine Fl ?_
   repeat' ((first|exact tt|refine na fun b=>?_|refine nb fun b hb=>?_|refine iq ?_|(refine jq ?_ ?_<;>intro h h')|exact wZ|refine Aa ?_ ?_)<;>try refine Fl ?_)
  ·have f1:Ac (decide (((AE L k:Nat):Int)<L.length)=false):=fo
   rw[XI hl]
   clear hpb hpa hlt
   generalize AE L k=i at *
   refine Fl ?_
   repeat' ((first|exact tt|refine na fun b=>?_|refine nb fun b hb=>?_|refine iq ?_|(refine jq ?_ ?_<;>intro h h')|exact wZ|refine Aa ?_ ?_)<;>try refine Fl ?_)
theorem b0s(L:List PrP)(k v:List UInt8):((AX L).take (AE L k)++[[.str k,.str v]])++(AX L).drop (if A9 L k=true then AE L k+1 else AE L k)=AX (A7 L k v):=by
 simp only[AX,A7,FI,List.map_take,List.map_drop,CX,List.map_nil]
theorem NI(L:List PrP)(hb:L.length≤100000)(k v:List UInt8):CP Tryz.prog 38 [Hz L,.str k,.str v] (.sl (some 102) 2 (AX (A7 L k v))):=by
 have hP:=a9R L hb k
 have hp:=IV L k
 have hl:=Df L
 have hS:=b0s L k v
 have hmx:=Pu
 have e1:(AX L).take L.length=AX L:=by rw[← hl];exact List.take_length
 refine a6u _ _ (by simp) ?_
 cases hh:A9 L k with
 | false=>
  rw[hh]at hP hS
  rw[Ad (by simp)]at hS
  rw[← hS]
  generalize AE L k=i at *
  clear hh hS
  simp only[Rk];refine Fl ?_
  repeat' ((first|exact tt|refine Ab hP ?_|refine na fun b=>?_|refine nb fun b hb=>?_|refine iq ?_|(refine jq ?_ ?_<;>intro h h')|exact wZ|refine Aa ?_ ?_)<;>try refine Fl ?_)
  all_goals ((try rw[show ((i:Int)+1).toNat=i+1 by omega]);simp only[e1,BL,Cc,Ao,AJ,AY,hl,Bc];omega)
 | true=>
  have hlt:=Jv hh
  rw[hh]at hP hS
  rw[Af rfl]at hS
  rw[← hS]
  generalize AE L k=i at *
  clear hh hS
  simp only[Rk];refine Fl ?_
  repeat' ((first|exact tt|refine Ab hP ?_|refine na fun b=>?_|refine nb fun b hb=>?_|refine iq ?_|(refine jq ?_ ?_<;>intro h h')|exact wZ|refine Aa ?_ ?_)<;>try refine Fl ?_)
  all_goals ((try rw[show ((i:Int)+1).toNat=i+1 by omega]);simp only[e1,BL,Cc,Ao,AJ,AY,hl,Bc];omega)
theorem Zk(k v:List UInt8)(hk:k.length≤1000000)(hv:v.length≤1000000):CP Tryz.prog 40 [.str k,.str v] (.bool (B3 k v)):=by
 refine a6r _ _ (by simp) ?_
 unfold B3
 by_cases h:1≤k.length∧k.length≤160∧1≤v.length∧v.length≤64
 ·rw[AO h]
  simp only[Rj];refine Fl ?_
  repeat' ((first|exact tt|refine na fun b=>?_|refine nb fun b hb=>?_|refine iq ?_|(refine jq ?_ ?_<;>intro h h')|exact wZ|refine Aa ?_ ?_)<;>try refine Fl ?_)
  all_goals (simp only[Ac,Hn]at *;omega)
 ·rw[A0 h]
  simp only[Rj];refine Fl ?_
  repeat' ((first|exact tt|refine na fun b=>?_|refine nb fun b hb=>?_|refine iq ?_|(refine jq ?_ ?_<;>intro h h')|exact wZ|refine Aa ?_ ?_)<;>try refine Fl ?_)
  all_goals (simp only[Ac,Hn]at *;omega)
end
section
open Go.RowKit Go.Lib
theorem a5D:(nx [] 0).2.2≠0:=by decide
theorem Qj{A B:Prop}(h:B)(e:A=B:=by (simp (disch:=omega) only[*, ↓Ed,Eu, ↓reduceIte,reduceCtorEq,Nat.reduceAdd,Nat.reduceEqDiff,Nat.reduceLT,Nat.reduceLeDiff,Int.reduceToNat,Int.reduceEq,Int.reduceLT,Int.reduceLE,Ap,Df,Dw];first|done|rfl)):A:=e▸h
theorem a9C(L:List PrP)(hb:L.length≤1000)(p:List UInt8)(c:Int)(hp:p.length≤1000000)(e:Es)(he:e.p.length≤100000):CP Tryz.prog 83 [Hz L,.agg [.str p,.int .i64 c],.agg e.cs] (.sl (some 102) 2 (AX (A7 L (Ah 7 p c 0) (Cd e).1))):=by
 have hS:=NI L (by omega) (Ah 7 p c 0) (Cd e).1
 have hO:=JD 7 p c 0 hp
 have hE:=a8F e he
 refine a6t _ _ (by simp) ?_
 simp only[Vr];refine Qj ?_
 repeat' ((first|exact tt|refine Ab hO ?_|refine Ab hS ?_|refine Ab hE ?_|refine na fun b=>?_|refine nb fun b hb=>?_|refine iq ?_|(refine jq ?_ ?_<;>intro h h')|exact wZ|refine Aa ?_ ?_)<;>try refine Qj ?_)
theorem a9D(L:List PrP)(hb:L.length≤1000)(k:Int)(p:List UInt8)(c:Int)(hp:p.length≤1000000)(n:Int):CP Tryz.prog 61 [Hz L,.int .i64 k,.agg [.str p,.int .i64 c],.int .i64 n] (.sl (some 102) 2 (AX (A7 L (Ah k p c 0) (pn n)))):=by
 have hS:=NI L (by omega) (Ah k p c 0) (pn n)
 have hO:=JD k p c 0 hp
 have hE:=Tf n
 refine a6v _ _ (by simp) ?_
 simp only[Vs];refine Qj ?_
 repeat' ((first|exact tt|refine Ab hO ?_|refine Ab hS ?_|refine Ab hE ?_|refine na fun b=>?_|refine nb fun b hb=>?_|refine iq ?_|(refine jq ?_ ?_<;>intro h h')|exact wZ|refine Aa ?_ ?_)<;>try refine Qj ?_)
end
section
open Go.RowKit Go.Lib
theorem Z2:DT []:=List.Pairwise.nil
structure StN (L:List PrP) (i:Nat):Prop where
 rise:DT L
 may:∀ q∈L,B3 q.1 q.2=true
 len:L.length≤i
theorem StN.I{L:List PrP}{i:Nat}(h:StN L i)(hi:i≤1000):StI L:=⟨h.rise,h.may,by have:=h.len;omega⟩
theorem StN.nil:StN [] 0:=⟨Z2,(fun q h=>by cases h),A8 _⟩
theorem StN.mono{L:List PrP}{i:Nat}(h:StN L i):StN L (i+1):=⟨h.rise,h.may,by have:=h.len;omega⟩
theorem a0o{L:List PrP}{k v:List UInt8}{q:PrP}(h:q∈A7 L k v):q=(k,v)∨q∈L:=by
 unfold A7 at h
 rcases Bv.1 h with h|h
 ·rcases Bv.1 h with h|h
  ·exact .inr (EZ h)
  ·exact .inl (by simpa using h)
 ·exact .inr (EY h)
theorem NZ(L:List PrP)(k v:List UInt8):(A7 L k v).length≤L.length+1:=by
 have hp:=IV L k
 unfold A7
 split<;>simp<;>omega
theorem StN.set{L:List PrP}{i:Nat}(h:StN L i){k v:List UInt8}(hm:B3 k v=true):StN (A7 L k v) (i+1):=
 ⟨Qc h.rise k v,(fun q hq=>by
  rcases a0o hq with rfl|hq
  ·exact hm
  ·exact h.may q hq),by have:=h.len;have:=NZ L k v;omega⟩
theorem StN.put{L:List PrP}{i:Nat}(h:StN L i)(k v:List UInt8):StN (CQ L k v) (i+1):=by
 unfold CQ
 split
 ·rename_i hm;exact h.set hm
 ·exact h.mono
theorem a5E{k:Int}{p:List UInt8}{c q:Int}(h:Ba p c=false):Ah k p c q=[]:=by
 unfold Ah;rw[Af (.inr (by simp[h]))]
theorem YI{k:Int}{p:List UInt8}{c:Int}(hk:4≤k∧k≤7)(h:Ba p c=true):Ah k p c 0≠[]:=by
 unfold Ah
 rw[Ad (by rintro (h1|h1);exact a1D (by omega) h1;exact h1 h),Ad (by omega),Af rfl]
 simp[Iu]
theorem SG{k:Int}{p:List UInt8}{c:Int}{v:List UInt8}(hk:4≤k∧k≤7)(hv:1≤v.length∧v.length≤64):B3 (Ah k p c 0) v=Ba p c:=by
 have hl:=Ky k p c 0
 cases h:Ba p c with
 | false=>rw[a5E h];simp[B3]
 | true=>
  have:=List.length_pos_iff.2 (YI hk h)
  unfold B3
  rw[AO (by omega)]
theorem PX(v:Int)(h:0≤v∧v≤72057594037927935):1≤(pn v).length:=by
 rcases Gv (pn v).length with h0|h0
 ·have e:=Dn h0
  have:=PF [] [] v h
  rw[e]at this
  have h2:nx [] 0=(v,0,0):=by simpa using this
  have:=a5D
  rw[h2]at this
  exact absurd rfl this
 ·exact h0
theorem R1{e:Es}(h:e.may=true):1≤e.enc.length:=by
 have h1:=PX (B1 e.cl) (by unfold B1;split<;>omega)
 simp only[Es.enc,Ao];omega
theorem ZS{L:List PrP}{p:List UInt8}{c:Int}{e:Es}:(KH p c e=0↔(Ba p c&&e.may)=true)∧JE L p c e=if (Ba p c&&e.may)=true then A7 L (Ah 7 p c 0) (Cd e).1 else L:=by
 unfold KH JE
 cases hm:e.may with
 | false=>
  have he:Cd e=([],1):=by simp only[Cd,hm,D3,BV]
  rw[he];simp
 | true=>
  have he:Cd e=(e.enc,0):=by simp only[Cd,hm,Bo]
  rw[he]
  have hk:=SG (k:=7) (p:=p) (c:=c) (v:=e.enc) (by omega) ⟨R1 hm,R0 hm⟩
  simp only[Bo,FA,CQ,hk,Bool.and_true]
  cases Ba p c<;>simp
theorem Mn{L:List PrP}{k:Int}{p:List UInt8}{c n:Int}:(KQ k p c n=0↔(Ba p c&&EO k n)=true)∧JL L k p c n=if (Ba p c&&EO k n)=true then A7 L (Ah k p c 0) (pn n) else L:=by
 unfold KQ JL
 cases ho:EO k n with
 | false=>simp
 | true=>
  have h1:4≤k∧k≤6∧1≤n∧n≤1099511627777:=by
   simp only[EO,EC,AP,Bs]at ho;omega
  have hk:=SG (k:=k) (p:=p) (c:=c) (v:=pn n) (by omega) ⟨PX n (by omega),by have:=C5 n;omega⟩
  simp only[Bo,FA,CQ,hk,Bool.and_true]
  cases Ba p c<;>simp
end
section
open Go.RowKit Go.Sort Go.Shelf
theorem b0p(y:PrP)(r:List PrP)(k:List UInt8):AE (y::r) k=if BX y.1 k=true then AE r k+1 else 0:=by
 unfold AE
 rw[List.takeWhile_cons]
 split<;>simp
end
section
theorem SJ{L:List PrP}(h:DT L){k v:List UInt8}(hm:(k,v)∈L):A9 L k=true∧C2 L k=v:=by
 obtain ⟨i,hi,he⟩:=Do hm
 have hg:L.getD i default=(k,v):=by simp[List.getD,hi,he]
 have hp:AE L k=i:=ZN h k i (by omega) (fun j hj=>by
  have:=KM h hj hi
  rwa [hg]at this) (fun j h1 h2=>by
  by_cases e:j=i
  ·subst e;rw[hg];exact strSTO.irr k
  ·have h3:=KM h (i:=i) (j:=j) (by omega) h2
   rw[hg]at h3
   cases hq:BX (L.getD j default).1 k with
   | false=>rfl
   | true=>have:=strSTO.tr _ _ _ h3 hq;rw[strSTO.irr]at this;cases this)
 have hh:A9 L k=true:=by simp only[A9,hp,hg,hi,decide_true,Bool.and_self]
 exact ⟨hh,by rw[O8 hh,hp,hg]⟩
theorem Sa{L:List PrP}{k:List UInt8}(hh:A9 L k=true):(k,C2 L k)∈L:=by
 have hl:=Jv hh
 have hk:(L.getD (AE L k) default).1=k:=by
  simp only[A9,AP,Bs]at hh;exact hh.2
 have:(k,C2 L k)=L.getD (AE L k) default:=by
  rw[O8 hh];exact Prod.ext hk.symm rfl
 rw[this,List.getD,Aw hl,Cp]
 exact Di hl
theorem b2e(L:List PrP)(k v:List UInt8):(k,v)∈A7 L k v:=by simp[A7]
theorem b2f{L:List PrP}{k v k' v':List UInt8}(hm:(k',v')∈L)(hk:k'≠k):(k',v')∈A7 L k v:=by
 have hp:=IV L k
 cases hh:A9 L k with
 | false=>rw[Qb hh];unfold Dt;rw[← HN (AE L k) L]at hm;rcases Bv.1 hm with h|h<;>simp[h]
 | true=>
  have hl:=Jv hh
  have hkk:(L.getD (AE L k) default).1=k:=by
   simp only[A9,AP,Bs]at hh;exact hh.2
  rw[A7,Af hh]
  rw[← HN (AE L k) L,Jc hl]at hm
  rcases Bv.1 hm with h|h
  ·simp[h]
  ·rcases AZ.1 h with h|h
   ·have e:L[AE L k]=L.getD (AE L k) default:=by simp[List.getD,hl]
    rw[e]at h
    rw[← h]at hkk
    exact absurd hkk hk
   ·simp[h]
theorem a9l{L:List PrP}(h:DT L)(k v:List UInt8):A9 (A7 L k v) k=true∧C2 (A7 L k v) k=v:=SJ (Qc h k v) (b2e L k v)
theorem a3Q{L:List PrP}(h:DT L){k v k':List UInt8}(hk:k'≠k):A9 (A7 L k v) k'=A9 L k'∧C2 (A7 L k v) k'=C2 L k':=by
 cases hh:A9 L k' with
 | true=>exact SJ (Qc h k v) (b2f (Sa hh) hk)
 | false=>
  have h2:A9 (A7 L k v) k'=false:=by
   cases h3:A9 (A7 L k v) k' with
   | false=>rfl
   | true=>
    rcases a0o (Sa h3) with e|e
    ·exact absurd (congrArg Prod.fst e) hk
    ·rw[(SJ h e).1]at hh;cases hh
  exact ⟨h2,by rw[O7 h2,O7 hh]⟩
end
section
open Go.RowKit
theorem a3D{α:Type}[DecidableEq α](ks:List Kd)(ag:Bool)(κ:α→AV)(h:∀ a b,Fa ks ag (κ a) (κ b)=some (decide (a=b)))(a:α)(l:List α):∀ i,Js ks ag (κ a) (l.map κ) i=some ((l.idxOf? a).map (· + i)):=by
 induction l with
 | nil=>intro i;rfl
 | cons x r ih=>
  intro i
  simp only[CX,Js,h,List.idxOf?_cons]
  by_cases hx:a=x
  ·subst hx;simp
  ·have hx2:(x==a)=false:=by simp[Ne.symm hx]
   simp only[hx,decide_false,ih,hx2]
   cases r.idxOf? a<;>simp<;>omega
theorem Jt{α:Type}[DecidableEq α](ks:List Kd)(ag:Bool)(κ:α→AV)(h:∀ a b,Fa ks ag (κ a) (κ b)=some (decide (a=b)))(a:α)(l:List α):B2 ks ag (κ a) (l.map κ)=some (l.idxOf? a):=by
 simp only[B2,h,CY,a3D ks ag κ h]
 cases l.idxOf? a<;>simp
theorem O3{α:Type}[DecidableEq α](ks:List Kd)(ag:Bool)(κ:α→AV)(h:∀ a b,Fa ks ag (κ a) (κ b)=some (decide (a=b)))(a:α)(l:List α)(hn:a ∉ l):B2 ks ag (κ a) (l.map κ)=some none:=by
 rw[Jt ks ag κ h,List.idxOf?_eq_none_iff.2 hn]
theorem Xl{α:Type}[DecidableEq α](ks:List Kd)(ag:Bool)(κ:α→AV)(h:∀ a b,Fa ks ag (κ a) (κ b)=some (decide (a=b)))(a:α)(l:List α)(hn:a ∉ l):B2 ks ag (κ a) (l.map κ++[κ a])=some (some l.length):=by
 have:=Jt ks ag κ h a (l++[a])
 rw[FI,List.map_singleton]at this
 rw[this]
 congr 1
 induction l with
 | nil=>simp[List.idxOf?_cons]
 | cons x r ih=>
  simp only[AZ,not_or]at hn
  have hx:(x==a)=false:=by simp[Ne.symm hn.1]
  have ih':=ih hn.2 (by rw[Jt ks ag κ h a (r++[a]) |>.symm];simp)
  simp only[Bi,List.idxOf?_cons,hx,ih',AJ]
  simp
theorem a0u{α:Type}(l:List α)(z v:α)(k:Nat)(h:l.length=k):(l++[z]).set k v=l++[v]:=by
 rw[List.set_append_right _ _ (by omega)];simp[h]
theorem a0t{α:Type}(l:List α)(z d:α)(k:Nat)(h:l.length=k):(l++[z]).getD k d=z:=by
 simp[List.getD, ← h]
theorem a3B(bs:List Nat)(n:Nat)(hn:n ∉ bs):∀ i,GB (n:Int) (bs++[n]) i=some (bs.length+i):=by
 induction bs with
 | nil=>intro i;simp[GB]
 | cons b r ih=>
  intro i
  simp only[AZ,not_or]at hn
  have hb:¬ (b:Int)=n:=by omega
  simp only[Bi,GB,hb,BV,ih hn.2,AJ]
  congr 1;omega
theorem R7(k i:Nat):GB (k:Int) (List.range k++[k]) i=some (k+i):=by
 have:=a3B (List.range k) k (by simp) i
 simpa using this
def FN(e:List UInt8 × Int):AV:=.agg [.str e.1,.int .i64 e.2]
theorem R2(a b:List UInt8 × Int):Fa [.s,.i] true (FN a) (FN b)=some (decide (a=b)):=by
 obtain ⟨x,y⟩:=a;obtain ⟨z,w⟩:=b
 simp[FN,Fa,Bb,DV,Prod.ext_iff]
end
section
open Go.RowKit
structure HdC where
 h:Int
 t:Int
 r:List Int
 n:r.length=32
 deriving DecidableEq
instance:Inhabited HdC:=⟨⟨0,0,List.replicate 32 0,by simp⟩⟩
theorem HdC.ext3{a b:HdC}(h1:a.h=b.h)(h2:a.t=b.t)(h3:a.r=b.r):a=b:=by
 obtain ⟨a1,a2,a3,a4⟩:=a;obtain ⟨b1,b2,b3,b4⟩:=b
 simp only at h1 h2 h3
 subst h1;subst h2;subst h3;rfl
def HdC.rt(x:HdC):List AV:=x.r.map (.int .u8 ·)
abbrev HdC.cs(x:HdC):List AV:=.int .i64 x.h :: .int .i64 x.t::x.rt
theorem BF(x:HdC):x.rt.length=32:=by simp[HdC.rt,x.n]
theorem Cw(x:HdC):x.rt.take 32=x.rt:=by rw[B0];rw[BF];omega
theorem Co(x:HdC):x.rt.map AV.store=x.rt:=by simp[HdC.rt,AV.store,AV.alias]
theorem TO:∀ (l m:List AV),l.length=m.length→splice l 0 m=m
 | [],[],_=>rfl
 | c::l,d::m,h=>by rw[sp_0,TO l m (by simpa using h)]
theorem b0O(l:List AV)(x:HdC)(h:l.length=32):splice l 0 x.rt=x.rt:=TO l _ (by rw[h,BF])
theorem Mi:(default:HdC).rt=List.replicate 32 (.int .u8 0):=by simp[HdC.rt,default,instInhabitedHdC]
theorem FQ:(default:HdC).h=0:=rfl
theorem FS:(default:HdC).t=0:=rfl
theorem Dc:[AV.int .u8 0,.int .u8 0,.int .u8 0,.int .u8 0,.int .u8 0,.int .u8 0,.int .u8 0,.int .u8 0,.int .u8 0,.int .u8 0,.int .u8 0,.int .u8 0,.int .u8 0,.int .u8 0,.int .u8 0,.int .u8 0,.int .u8 0,.int .u8 0,.int .u8 0,.int .u8 0,.int .u8 0,.int .u8 0,.int .u8 0,.int .u8 0,.int .u8 0,.int .u8 0,.int .u8 0,.int .u8 0,.int .u8 0,.int .u8 0,.int .u8 0,.int .u8 0]=(default:HdC).rt:=by rw[Mi];rfl
theorem O0:∀ (a b:List Int),a.length=b.length→Bb (List.replicate a.length .i) (a.map (AV.int .u8 ·)) (b.map (AV.int .u8 ·))=some (decide (a=b))
 | [],[],_=>rfl
 | x::a,y::b,h=>by
  rw[AJ,J7,CX,CX,eqC_i,O0 a b (by simpa using h),oand_some]
  simp
theorem HS(x y:HdC):Bb [.i,.i,.i,.i,.i,.i,.i,.i,.i,.i,.i,.i,.i,.i,.i,.i,.i,.i,.i,.i,.i,.i,.i,.i,.i,.i,.i,.i,.i,.i,.i,.i] x.rt y.rt=some (decide (x.r=y.r)):=by
 have:=O0 x.r y.r (by rw[x.n,y.n])
 rw[x.n]at this
 exact this
theorem HU(a b:HdC):(decide (a.h=b.h)&&(decide (a.t=b.t)&&decide (a.r=b.r)))=decide (a=b):=by
 rw[FE]
 simp only[AP,Bs]
 exact ⟨fun ⟨h1,h2,h3⟩=>HdC.ext3 h1 h2 h3,fun h=>by subst h;exact ⟨rfl,rfl,rfl⟩⟩
def Bn(l:List HdC):List (List AV):=l.map HdC.cs
theorem Ey(l:List HdC)(i:Nat)(h:i<l.length):(Bn l).getD i []=(l.getD i default).cs:=by
 simp[Bn,List.getD,h]
theorem DW(l:List HdC):(Bn l).length=l.length:=by simp[Bn]
def Ep(x:HdC):AV:=.agg x.cs
theorem Nr(a b:HdC):Fa [.i,.i,.i,.i,.i,.i,.i,.i,.i,.i,.i,.i,.i,.i,.i,.i,.i,.i,.i,.i,.i,.i,.i,.i,.i,.i,.i,.i,.i,.i,.i,.i,.i,.i] true (Ep a) (Ep b)=some (decide (a=b)):=by
 simp only[Ep,Fa,eqC_i,HS,oand_some,HU]
def GL(a:Int):AV:=.agg [.int .i64 a]
theorem SE(a b:Int):Fa [.i] true (GL a) (GL b)=some (decide (a=b)):=by
 simp only[GL,Fa,eqC_i,eqC_nil,oand_some,Bool.and_true]
theorem C6(x y:HdC):splice x.rt 0 y.rt=y.rt:=b0O _ y (BF x)
abbrev HL:List Kd:=[.i,.i,.i,.i,.i,.i,.i,.i,.i,.i,.i,.i,.i,.i,.i,.i,.i,.i,.i,.i,.i,.i,.i,.i,.i,.i,.i,.i,.i,.i,.i,.i,.i,.i]
theorem XQ{α:Type}[DecidableEq α]:∀ {l:List α} {a:α} {i:Nat},l.idxOf? a=some i→l[i]?=some a
 | [],_,_,h=>by simp at h
 | x::l,a,i,h=>by
  rw[List.idxOf?_cons]at h
  by_cases hx:x=a
  ·subst hx;simp at h;subst h;rfl
  ·have hx2:(x==a)=false:=by simp[hx]
   rw[hx2]at h
   simp only[D3,BV,BM]at h
   obtain ⟨j,hj,rfl⟩:=h
   simpa using XQ hj
theorem XP{α:Type}[DecidableEq α]{l:List α}{a:α}(h:a∈l):∃ i,l.idxOf? a=some i∧i<l.length:=by
 cases hi:l.idxOf? a with
 | none=>exact absurd h (List.idxOf?_eq_none_iff.1 hi)
 | some i=>exact ⟨i,rfl,(AM.1 (XQ hi)).1⟩
theorem b0C(n i:Nat)(h:i<n):(List.range n).getD i 0=i:=by simp[List.getD,h]
theorem Xj:∀ (n s i j:Nat),i<n→GB ((s+i:Nat):Int) (List.range' s n) j=some (i+j)
 | 0,s,i,j,h=>by omega
 | n+1,s,i,j,h=>by
  rw[List.range'_succ,GB]
  by_cases hi:i=0
  ·subst hi;simp
  ·rw[Ad (by omega)]
   have:=Xj n (s+1) (i - 1) (j+1) (by omega)
   rw[show s+1+(i - 1)=s+i by omega]at this
   rw[this];congr 1;omega
theorem a3C(n i:Nat)(h:i<n):GB (i:Int) (List.range n) 0=some i:=by
 have:=Xj n 0 i 0 h
 rw[List.range_eq_range']
 simpa using this
theorem XX(l:List Int)(i:Nat)(h:i<l.length):(l.map (AV.int .i64 ·)).getD i .undef=.int .i64 (l.getD i 0):=by simp[List.getD,h]
theorem ints_set(l:List Int)(i:Nat)(v:Int):(l.map (AV.int .i64 ·)).set i (.int .i64 v)=(l.set i v).map (AV.int .i64 ·):=by simp[List.map_set]
end
section
def BC(l:List HdC)(a:Int):Option HdC:=l.find? (fun x=>decide (x.h=a))
def Ft(h:HdC):List HdC→List HdC
 | []=>[h]
 | x::r=>if x.h<h.h then x::Ft h r else h::x::r
def Asc(l:List HdC):Prop:=l.Pairwise fun x y=>x.h<y.h
theorem b2r{l:List HdC}{a:Int}{x:HdC}(h:BC l a=some x):x∈l∧x.h=a:=by
 unfold BC at h
 exact ⟨List.mem_of_find?_eq_some h,by simpa using List.find?_some h⟩
theorem a0z{l:List HdC}{a:Int}(h:BC l a=none):∀ x∈l,x.h≠a:=by
 unfold BC at h
 intro x hx e
 have:=List.find?_eq_none.1 h x hx
 simp[e]at this
def Apart(l:List HdC):Prop:=l.Pairwise fun x y=>x.h≠y.h
theorem Apart.one{l:List HdC}(h:Apart l){x y:HdC}(hx:x∈l)(hy:y∈l)(e:x.h=y.h):x=y:=by
 induction l with
 | nil=>cases hx
 | cons z r ih=>
  obtain ⟨h1,h2⟩:=J5.1 h
  rcases AZ.1 hx with hx'|hx'<;>rcases AZ.1 hy with hy'|hy'
  ·rw[hx',hy']
  ·subst hx';exact absurd e (h1 _ hy')
  ·subst hy';exact absurd e.symm (h1 _ hx')
  ·exact ih h2 hx' hy'
theorem Asc.apart{l:List HdC}(h:Asc l):Apart l:=List.Pairwise.imp (fun h=>by omega) h
theorem Ns(h:HdC):∀ l:List HdC,(Ft h l).Perm (h::l)
 | []=>.refl _
 | x::r=>by
  unfold Ft
  split
  ·exact ((Ns h r).cons x).trans (.swap h x r)
  ·exact .refl _
theorem Si{h:HdC}:∀ {l:List HdC},Asc l→(∀ x∈l,x.h≠h.h)→Asc (Ft h l)
 | [],_,_=>by simp[Ft,Asc]
 | x::r,ha,hn=>by
  obtain ⟨h1,h2⟩:=J5.1 ha
  unfold Ft
  split
  ·rename_i hlt
   refine J5.2 ⟨fun y hy=>?_,Si h2 fun y hy=>hn y (by simp[hy])⟩
   rcases AZ.1 ((Ns h r).mem_iff.1 hy) with rfl|hy
   ·exact hlt
   ·exact h1 _ hy
  ·have hx:=hn x (by simp)
   refine J5.2 ⟨fun y hy=>?_,ha⟩
   rcases AZ.1 hy with rfl|hy
   ·omega
   ·have:=h1 _ hy;omega
theorem Q0:∀ {l m:List HdC},Asc l→Asc m→l.Perm m→l=m
 | [],m,_,_,hp=>(List.nil_perm.1 hp).symm
 | x::l,[],_,_,hp=>by simpa using hp.length_eq
 | x::l,y::m,h1,h2,hp=>by
  obtain ⟨a1,a2⟩:=J5.1 h1
  obtain ⟨b1,b2⟩:=J5.1 h2
  have e:x=y:=by
   rcases AZ.1 (hp.mem_iff.1 (List.mem_cons_self ..)) with e|hx
   ·exact e
   ·rcases AZ.1 (hp.mem_iff.2 (List.mem_cons_self ..)) with e|hy
    ·exact e.symm
    ·have:=a1 _ hy;have:=b1 _ hx;omega
  subst e
  rw[Q0 a2 b2 (List.Perm.cons_inv hp)]
def Mt(l:List HdC):List HdC:=l.foldr Ft []
theorem Qg:∀ l:List HdC,(Mt l).Perm l
 | []=>.refl _
 | x::r=>(Ns x _).trans ((Qg r).cons x)
theorem TP:∀ {l:List HdC},Apart l→Asc (Mt l)
 | [],_=>List.Pairwise.nil
 | x::r,h=>by
  obtain ⟨h1,h2⟩:=J5.1 h
  exact Si (TP h2) fun y hy=>(h1 y ((Qg r).mem_iff.1 hy)).symm
end
section
open Go.RowKit Go.Lib
structure MsgC where
 k:Int
 h:HdC
 p:PktC
 a:List UInt8
 nx:Int
 ht:Int
 pr:PfC
 cl:PfC
def zeroF:PfC:=⟨0,[]⟩
def KE(m:MsgC):Prop:=
 (m.k=1∨m.h=default)∧(m.k=1→m.p=default∧m.ht=0∧m.pr=zeroF)∧(m.k=3∨m.a=[])∧(m.k=4∨m.k=5∨m.nx=0)∧(m.k=5∨m.cl=zeroF)
def okH(x:HdC):Prop:=1≤x.h∧x.h≤1099511627776∧0≤x.t∧x.t≤1099511627776
noncomputable def Eq (m:MsgC):Prop:=
 (1≤m.k∧m.k≤5)∧KE m∧(m.k=1→okH m.h)∧(m.k=3→1≤m.a.length∧m.a.length≤32)∧
  (m.k≠1→BO m.p=true∧(0≤m.nx∧m.nx≤1099511627777)∧(1≤m.ht∧m.ht≤1099511627776)∧D7 m.pr=true∧D7 m.cl=true)
def H5(p:PktC)(ht tm:Int):Bool:=(decide (0<p.th)&&decide (p.th≤ht))||(decide (0<p.ta)&&decide (p.ta≤tm))
def Cg(p:PktC):List UInt8:=BB (eight p.th.toNat++(eight p.ta.toNat++BB p.x))
theorem LM(p:PktC):(Cg p).length=32:=FB _
def E2(d:List UInt8):List UInt8:=match d with
 | []=>[110,111]
 | c::r=>if c=33 then [110,111] else [111,107,58]++(c::r).take 29
def EN(k:Int)(p:PktC):EvC:=⟨k,p,[],[],0,0⟩
def DF(L:List PrP)(k:List UInt8):List PrP:=if A9 L k=true then L.take (AE L k)++L.drop (AE L k+1) else L
theorem a9r{L:List PrP}{k:List UInt8}(h:A9 L k=true):L.Perm ((k,C2 L k)::DF L k):=by
 have hl:=Jv h
 have hk:(L.getD (AE L k) default).1=k:=by simp only[A9,AP,Bs]at h;exact h.2
 have e:L[AE L k]=(k,C2 L k):=by
  have e1:L.getD (AE L k) default=L[AE L k]:=by simp[List.getD,hl]
  rw[e1]at hk
  rw[O8 h,e1]
  exact Prod.ext hk rfl
 unfold DF
 rw[Af h]
 have h2:L=L.take (AE L k)++L[AE L k]::L.drop (AE L k+1):=by
  rw[← Jc hl,HN]
 rw[e]at h2
 have h3 := @List.perm_middle PrP (k,C2 L k) (L.take (AE L k)) (L.drop (AE L k+1))
 rwa [← h2]at h3
theorem Lx(L:List PrP)(k:List UInt8):(DF L k).Sublist L:=by
 unfold DF
 split
 ·have:=List.Sublist.append (List.Sublist.refl (L.take (AE L k))) (List.drop_sublist_drop_left L (Nat.le_succ (AE L k)))
  rwa [HN]at this
 ·exact List.Sublist.refl _
theorem a3m{L:List PrP}(h:DT L)(k:List UInt8):DT (DF L k):=List.Pairwise.sublist (Lx L k) h
theorem b4k{L:List PrP}(h:DT L)(k v:List UInt8):(k,v) ∉ DF L k:=by
 cases hh:A9 L k with
 | false=>
  intro hm
  have:=(SJ h ((Lx L k).subset hm)).1
  rw[hh]at this;cases this
 | true=>
  intro hm
  have hp:=a9r hh
  have hr:((k,C2 L k)::DF L k).Pairwise fun p q=>p.1≠q.1:=by
   have hn:L.Pairwise fun p q=>p.1≠q.1:=h.imp fun {a b} h e=>by rw[e,strSTO.irr]at h;cases h
   exact (hp.pairwise_iff (fun {a b} h=>h.symm)).1 hn
  exact (J5.1 hr).1 _ hm rfl
theorem b4z{L:List PrP}(h:DT L)(k:List UInt8):A9 (DF L k) k=false:=by
 cases hh:A9 (DF L k) k with
 | false=>rfl
 | true=>exact absurd (Sa hh) (b4k h k _)
theorem b4l{L:List PrP}{k k' v:List UInt8}(hk:k'≠k)(hm:(k',v)∈L):(k',v)∈DF L k:=by
 cases hh:A9 L k with
 | false=>unfold DF;rw[Ad (by simp[hh])];exact hm
 | true=>
  rcases AZ.1 ((a9r hh).mem_iff.1 hm) with e|e
  ·exact absurd (congrArg Prod.fst e) hk
  ·exact e
theorem b4o{L:List PrP}(h:DT L){k k':List UInt8}(hk:k'≠k):A9 (DF L k) k'=A9 L k'∧C2 (DF L k) k'=C2 L k':=by
 cases hh:A9 L k' with
 | true=>exact SJ (a3m h k) (b4l hk (Sa hh))
 | false=>
  have h2:A9 (DF L k) k'=false:=by
   cases h3:A9 (DF L k) k' with
   | false=>rfl
   | true=>
    have:=(SJ h ((Lx L k).subset (Sa h3))).1
    rw[hh]at this;cases this
  exact ⟨h2,by rw[O7 h2,O7 hh]⟩
theorem a3l{L:List PrP}(h:StI L)(k:List UInt8):StI (DF L k):=
 ⟨a3m h.rise k,fun q hq=>h.may q ((Lx L k).subset hq),En (Lx L k).length_le h.len⟩
theorem b2b{L:List PrP}(h:StI L){k v:List UInt8}(hm:B3 k v=true)(hl:L.length≤999):StI (A7 L k v):=by
 have:=StN.set (i:=999) ⟨h.rise,h.may,hl⟩ hm
 exact ⟨this.rise,this.may,this.len⟩
noncomputable def LE (L:List PrP) (p:PktC) (o:Bool):Int:=
 if o=true then (if p.q<Fg L 5 p.d p.dc then 15 else if Fg L 5 p.d p.dc<p.q then 16 else 0) else if A9 L (Ah 2 p.d p.dc p.q)=true then 15 else 0
noncomputable def Me (L:List PrP) (p:PktC) (o:Bool):List PrP:=
 A7 (if o=true then A7 L (Ah 5 p.d p.dc 0) (pn (p.q+1)) else A7 L (Ah 2 p.d p.dc p.q) [1]) (Ah 3 p.d p.dc p.q) (BB (E2 p.x))
noncomputable def H7 (L:List PrP) (K:List HdC) (ht tm:Int) (m:MsgC):List EvC × Int × List PrP:=
 if (Av L m.p.d m.p.dc).2=false∨¬ ((Av L m.p.d m.p.dc).1.p=m.p.s∧(Av L m.p.d m.p.dc).1.c=m.p.sc) then ([],11,L)
 else if (Av L m.p.d m.p.dc).1.cl=true then ([],12,L)
 else if H5 m.p ht tm=true then ([],13,L)
 else if LE L m.p (Av L m.p.d m.p.dc).1.o≠0 then ([],LE L m.p (Av L m.p.d m.p.dc).1.o,L)
 else match BC K m.ht with
  | none=>([],10,L)
  | some h=>if IH h.r m.pr (Ah 1 m.p.s m.p.sc m.p.q) (Cg m.p)=false then ([],18,L)
   else ([EN 2 m.p, { EN 3 m.p with a:=E2 m.p.x }],0,Me L m.p (Av L m.p.d m.p.dc).1.o)
noncomputable def DX (L:List PrP) (p:PktC):Int:=
 if (Av L p.s p.sc).2=false∨¬ ((Av L p.s p.sc).1.p=p.d∧(Av L p.s p.sc).1.c=p.dc) then 11
 else if A9 L (Ah 1 p.s p.sc p.q)=false∨¬ C2 L (Ah 1 p.s p.sc p.q)=Cg p then 17 else 0
noncomputable def K6 (L:List PrP) (p:PktC) (o:Bool):List PrP:=
 if o=true then A7 (DF L (Ah 1 p.s p.sc p.q)) (Ah 6 p.s p.sc 0) (pn (p.q+1)) else DF L (Ah 1 p.s p.sc p.q)
noncomputable def HO (L:List PrP) (K:List HdC) (m:MsgC):List EvC × Int × List PrP:=
 if DX L m.p≠0 then ([],DX L m.p,L)
 else if (Av L m.p.s m.p.sc).1.o=true∧¬ m.p.q=Fg L 6 m.p.s m.p.sc then ([],16,L)
 else match BC K m.ht with
  | none=>([],10,L)
  | some h=>if IH h.r m.pr (Ah 3 m.p.d m.p.dc m.p.q) (BB m.a)=false then ([],18,L)
   else ([EN 4 m.p],0,K6 L m.p (Av L m.p.s m.p.sc).1.o)
noncomputable def Ia (r:List Int) (m:MsgC) (o:Bool):Bool:=
 if o=true then IH r m.pr (Ah 5 m.p.d m.p.dc 0) (pn m.nx) else Sq r m.pr (Ah 2 m.p.d m.p.dc m.p.q)
noncomputable def KR (r:List Int) (m:MsgC):Bool:=match DO r m.cl (Ah 7 m.p.d m.p.dc 0) with
 | none=>false
 | some v=>decide ((C1 v).2=0)&&((C1 v).1.cl&&(decide ((C1 v).1.p=m.p.s)&&decide ((C1 v).1.c=m.p.sc)))
def IL(m:MsgC)(o:Bool):Int:=if o=decide (m.nx=0) then 1 else if o=true∧m.p.q<m.nx then 15 else 0
noncomputable def I0 (s:Es) (n:Int):Es:=⟨s.p,s.c,s.o,true,n⟩
noncomputable def Ha (L:List PrP) (m:MsgC) (s:Es):List PrP:=
 if s.o=true∧s.cl=false then A7 (DF L (Ah 1 m.p.s m.p.sc m.p.q)) (Ah 7 m.p.s m.p.sc 0) (I0 s m.nx).enc else DF L (Ah 1 m.p.s m.p.sc m.p.q)
def K8(m:MsgC)(s:Es):List EvC:=EN 5 m.p::(if s.o=true∧s.cl=false then [⟨6,default,[],m.p.s,m.p.sc,0⟩] else [])
noncomputable def Gn (L:List PrP) (K:List HdC) (m:MsgC):List EvC × Int × List PrP:=
 if DX L m.p≠0 then ([],DX L m.p,L)
 else match BC K m.ht with
  | none=>([],10,L)
  | some h=>
   if m.k=4∧(Av L m.p.s m.p.sc).1.cl=false∧H5 m.p h.h h.t=false then ([],14,L)
   else if ¬ m.k=4∧KR h.r m=false then ([],18,L)
   else if IL m (Av L m.p.s m.p.sc).1.o≠0 then ([],IL m (Av L m.p.s m.p.sc).1.o,L)
   else if m.k=4∧(Av L m.p.s m.p.sc).1.o=true∧(((Av L m.p.s m.p.sc).1.cl=true∧m.nx<(Av L m.p.s m.p.sc).1.st)∨((Av L m.p.s m.p.sc).1.cl=false∧¬ m.nx=m.p.q)) then ([],16,L)
   else if Ia h.r m (Av L m.p.s m.p.sc).1.o=false then ([],18,L)
   else (K8 m (Av L m.p.s m.p.sc).1,0,Ha L m (Av L m.p.s m.p.sc).1)
open Classical in
noncomputable def EJ (L:List PrP) (K:List HdC) (ht tm:Int) (m:MsgC):List EvC × Int × List PrP:=
 if ¬ Eq m then ([],1,L) else if m.k=2 then H7 L K ht tm m else if m.k=3 then HO L K m else Gn L K m
noncomputable def Dj (L:List PrP) (p:List UInt8) (c:Int) (d:List UInt8) (th ta:Int):PktC:=⟨p,c,(Av L p c).1.p,(Av L p c).1.c,Fg L 4 p c,d,th,ta⟩
noncomputable def NY (L:List PrP) (p:List UInt8) (c:Int) (d:List UInt8) (th ta:Int):Int:=
 if (Av L p c).2=false then 11 else if (Av L p c).1.cl=true then 12 else if 1099511627776<Fg L 4 p c then 19 else if BO (Dj L p c d th ta)=false then 1 else 0
noncomputable def IX (L:List PrP) (q:PktC):List PrP:=A7 (A7 L (Ah 4 q.s q.sc 0) (pn (q.q+1))) (Ah 1 q.s q.sc q.q) (Cg q)
theorem JH{A:Prop}(h:A:=by first|(simp[Br,lk,r_two,rl_cons,rl_nil,al_agg,al_bool,AV.alias,EN,view,l_all, *];done)|fail):A:=h
end
section
open Go.RowKit Go.Lib
def E6(L:List PrP)(i:Nat):List PrP:=L.take i++L.drop (i+1)
theorem WS(L:List PrP)(i:Nat)(h:i<L.length):(E6 L i).length=L.length - 1:=by simp[E6];omega
theorem b2E(g cap i:Nat)(L:List PrP)(hi:i<L.length):
  CT Tryz.prog 209 [.hsl g 115 2 L.length cap,.int .i64 (i:Int),.int .i64 ((i:Int)+1)] (lk [(g,Aq cap L)])
   (fun r o=>r=.hsl g 115 2 (L.length - 1) cap∧o=lk [(g,Aq cap (E6 L i))]):=by
 intro W U vs hlen hv hI
 obtain ⟨v0,v1,v2,rfl⟩:∃ v0 v1 v2,vs=[v0,v1,v2]:=by
  match vs,hlen with
  | [v0,v1,v2],_=>exact ⟨v0,v1,v2,rfl⟩
 have h0:=hv 0 v0 _ rfl rfl
 have h1:=hv 1 v1 _ rfl rfl
 have h2:=hv 2 v2 _ rfl rfl
 cases h0 with
 | hsl _ _ _ _ _ n1 n2 hm=>
 cases h1
 cases h2
 obtain ⟨_,_,c3⟩:=hm
 obtain ⟨cur,ty,g1,g2,g3,g4,g5⟩:=hI.obc (b:=g) (cs:=Aq cap L) (by simp[lk]) ⟨_,_,_,c3⟩
 have hty:ty.1=115:=by
  have h:=c3.symm.trans g1
  simp only[Az,Obj.cells.injEq]at h
  exact h.2.1.symm
 rw[hty]at g1
 have s1:cur.size=cap * 2:=by rw[g2,Aq,prRow.len_hc];congr 1;omega
 obtain ⟨cs,Ae⟩:∃ cs:List Value,cs=cur.toList.take (L.length * 2):=⟨_,rfl⟩
 have hlc:cur.toList.length=cur.size:=EU
 have hcl:cs.length=L.length * 2:=by rw[Ae,BL];omega
 have hce:∀ j v,cs[j]?=some v→cur[j]?=some v∧j<L.length * 2:=fun j v h=>by
  have hj:=(AM.1 h).1
  rw[Ae,CW (by omega)]at h
  exact ⟨by simpa using h,by omega⟩
 have hcell:∀ j v,cs[j]?=some v→W.cell? ⟨g,j,none⟩=some v:=fun j v h=>by rw[cell_of_row W g j cur _ (0,0) g1];exact (hce j v h).1
 have one:∀ (j:Nat) (v:Value),cur[j]?=some v→v.oneCell'=true:=fun j v h=>by
  have hj:=(BH.1 h).1
  have:=(g3 j _ (Aw (l:=Aq cap L) (by omega))).2
  rwa [Cu,h,Cp]at this
 have h1c:∀ v∈cs,v.oneCell'=true:=fun v h=>by
  obtain ⟨j,hj,rfl⟩:=Do h
  exact one j _ (hce j _ (Aw hj)).1
 have e0:(Value.int .i64 ((i:Int)+1))=.int .i64 ((i+1:Nat):Int):=by simp
 rw[e0]
 refine (a2Y g L.length cap i (i+1) cs W rfl hi n1 (by unfold maxLen at n2;omega) hcl hcell (fun j hj=>by simp[World.frozen?,g1]) h1c).mono ?_
 rintro e W' ⟨rfl,rfl⟩
 have hz2:zPr.cells.toList.length=2:=rfl
 have hdl:(cs.drop ((i+1) * 2)).length=(L.length - (i+1)) * 2:=by rw[Cc,hcl];omega
 obtain ⟨D,hD⟩:∃ D,D=cs.drop ((i+1) * 2):=⟨_,rfl⟩
 rw[← hD]at hdl ⊢
 have hg1:W.drew.heap[g]?=some (.cells cur 115 (0,0)):=g1
 rw[H9 g 115 (0,0) D _ cur W.drew hg1 (by omega)]
 rw[H9 g 115 (0,0) zPr.cells.toList _ _ _ (setRow_heap W.drew g cur _ _ (0,0) hg1) (by rw[Ck];simp only[Ao,BL,Cc];omega),setRow_setRow]
 have htk:(cur.toList.take (i * 2)).length=i * 2:=by rw[BL];omega
 have hA:((cur.toList.take (i * 2)++D++cur.toList.drop (i * 2+D.length)).toArray.toList.take ((L.length - 1) * 2)++zPr.cells.toList++(cur.toList.take (i * 2)++D++cur.toList.drop (i * 2+D.length)).toArray.toList.drop ((L.length - 1) * 2+zPr.cells.toList.length))=
   cur.toList.take (i * 2)++D++zPr.cells.toList++cur.toList.drop (L.length * 2):=by
  rw[hz2]
  simp only[]
  rw[List.take_append_of_le_length (by rw[Ao,htk,hdl];omega),B0 (by rw[Ao,htk,hdl];omega)]
  rw[List.drop_append,List.drop_of_length_le (by rw[Ao,htk,hdl];omega),Bj,List.drop_drop,Ao,htk,hdl]
  congr 2;omega
 rw[hA]
 obtain ⟨A,hAd⟩:∃ A,A=(cur.toList.take (i * 2)++D++zPr.cells.toList++cur.toList.drop (L.length * 2)).toArray:=⟨_,rfl⟩
 rw[← hAd]
 have hAs:A.size=cur.size:=by
  rw[hAd,Ck]
  simp only[Ao,htk,hdl,hz2,Cc]
  omega
 have hlo:∀ j,j<i * 2→A[j]?=cur[j]?:=fun j hj=>by
  rw[hAd,EW,DC,DC,CB (by omega),CW hj];simp
 have hmi:∀ j,i * 2≤j→j<(L.length - 1) * 2→A[j]?=cur[j+2]?:=fun j hj hj2=>by
  rw[hAd,EW,DC,DC,Cj (by omega),CB (by omega),hD,CC,Ae,CW (by omega),htk,show (i+1) * 2+(j - i * 2)=j+2 by omega];simp
 have hone:∀ v∈A,v.oneCell'=true:=fun v hv'=>by
  rw[hAd]at hv'
  have hcm:∀ v∈cur.toList,v.oneCell'=true:=fun v h=>by
   obtain ⟨j,hj,rfl⟩:=Do h
   exact one j _ (by rw[← Em];exact Aw hj)
  rcases Bv.1 (by simpa only[List.mem_toArray]using hv') with h|h
  ·rcases Bv.1 h with h|h
   ·rcases Bv.1 h with h|h
    ·exact hcm v (EZ h)
    ·rw[hD]at h;exact h1c v (EY h)
   ·have h9:v=.string ⟨#[]⟩:=by simpa[zPr,Value.cells]using h
    rw[h9];rfl
  ·exact hcm v (EY h)
 have hdn:=WS L i hi
 have hread:∀ j c,(Aq cap (E6 L i))[j]?=some c→VR W U (A.getD j undef) c:=fun j c hc=>by
  rcases II (sz:=2) (by omega) (prRow.all (E6 L i)) hc with ⟨e,q1,q2⟩ | ⟨rfl,_⟩
  ·have hk:j / 2<L.length - 1:=by
    have:=(AM.1 q1).1
    rwa [Ax,hdn]at this
   obtain ⟨y,hy,rfl⟩:∃ y,(E6 L i)[j / 2]?=some y∧D9 y=e:=by rw[B7]at q1;exact BM.1 q1
   have hold:∀ k,L[k]?=some y→VR W U (cur.getD (k * 2+j % 2) undef) c:=fun k hk'=>by
    have h5:=Ge (sz:=2) (cap:=cap) (prRow.all L) (i:=k) (j:=j % 2) (e:=D9 y) (by rw[B7,hk'];rfl) (by omega)
    exact (g3 (k * 2+j % 2) c (by rw[Aq,h5];exact q2)).1
   unfold E6 at hy
   have htl:(L.take i).length=i:=by rw[BL];omega
   by_cases hji:j<i * 2
   ·rw[CB (by omega),CW (by omega)]at hy
    have:=hold _ hy
    rw[show j / 2 * 2+j % 2=j by omega]at this
    rwa [Cu,hlo j hji, ← Cu]
   ·rw[Cj (by omega),htl,CC]at hy
    have:=hold _ hy
    rw[show (i+1+(j / 2 - i)) * 2+j % 2=j+2 by omega]at this
    rwa [Cu,hmi j (by omega) (by omega), ← Cu]
  ·exact .any _
 have hno:∀ (j t k:Nat) (l:List (List AV)),(Aq cap (E6 L i))[j]?≠some (.sl (some t) k l):=fun j t k l h=>(Fh (by omega) (prRow.all _) (prRow.noOwn _) h).1 t k l rfl
 have hhd:∀ (u:Nat),CG (Aq cap (E6 L i))≠some u:=fun u=>Jw (fun c hc=>(Fh (by omega) (prRow.all _) (prRow.noOwn _) hc).2) u
 have hlc':(Aq cap (E6 L i)).length=cap * 2:=by rw[Aq,prRow.len_hc,hdn];congr 1;omega
 have hE:Ext W U W.drew U:=(Ext.refl W U).drew
 have h6:=(hI.ext hE).seto (b:=g) (cs:=Aq cap L) (cs':=Aq cap (E6 L i)) (vs':=A) (by simp[lk]) hg1 (by rw[hlc', ← s1,g2]) hAs
  (fun j c hc=>⟨(hread j c hc).keep hE.keeps,by
   have:=(AM.1 hc).1
   rw[Cu,Dz (by omega)]
   exact hone _ (Array.getElem_mem _)⟩) (fun u hu=>absurd hu (hhd u)) (fun j t k l hj=>absurd hj (hno j t k l))
 have ho:upd (lk [(g,Aq cap L)]) g (some (Aq cap (E6 L i)))=lk [(g,Aq cap (E6 L i))]:=by
  funext b;simp only[upd,lk];split<;>rfl
 simp only[ho]at h6
 refine ⟨_,U,_,_,rfl,⟨rfl,rfl⟩,fun b cs' h=>?_,h6.res1 (.hsl _ _ _ _ _ (by omega) n2 ⟨_,_,setRow_heap W.drew g cur A _ (0,0) hg1⟩) (Sole.plain fun _ _ _ e=>by cases e)⟩
 simp only[lk_cons]at h ⊢
 by_cases q1:b=g
 ·rw[Af q1];exact ⟨_,rfl⟩
 ·rw[Ad q1]at h;cases h
theorem a3k{L:List PrP}{k:List UInt8}(h:A9 L k=true):DF L k=E6 L (AE L k):=by unfold DF E6;rw[Af h]
theorem a3j{L:List PrP}{k:List UInt8}(h:A9 L k=false):DF L k=L:=by unfold DF;rw[Ad (by simp[h])]
theorem My{A B:Prop}(h:B)(e:A=B:=by (simp (disch:=omega) only[*, ↓Ed,Eu, ↓reduceIte,reduceCtorEq,Nat.reduceAdd,Nat.reduceEqDiff,Nat.reduceLT,Nat.reduceLeDiff,Int.reduceToNat,Int.reduceEq,Int.reduceLT,Int.reduceLE,Ap, ↓Eb, ↓Ec, ↓Ee];first|done|rfl)):A:=e▸h
theorem b3i(s:Nat)(L:List PrP)(hI:StI L)(k:List UInt8)(x:Bl)(hx:stOk s L x):
  CT Tryz.prog 164 [.ptr s 0,.str k] (lk (AF s L x)) (fun r o=>r=.bool (A9 L k)∧o=lk (AF s (DF L k) x)):=by
 have hF:=TU s L hI.rise (by have:=hI.len;omega) k x hx
 cases hh:A9 L k
 ·rw[a3j hh]
  rw[hh]at hF
  refine YV _ _ _ (by simp) ?_
  rcases x with _ | ⟨g,cap⟩
  ·clear hI hx hh
   simp only[A3]at hF ⊢
   simp only[OL];refine My ?_
   repeat' ((first|exact tt|refine c1 hF ?_|refine na fun b=>?_|refine nb fun b hb=>?_|refine iq ?_|(refine jq ?_ ?_<;>intro h h')|exact wZ|refine Aa ?_ ?_)<;>try refine My ?_)
   all_goals exact AG KI (A6 _)
  ·have hgs:=hx.1
   clear hI hx hh
   simp only[AA]at hF ⊢
   simp only[OL];refine My ?_
   repeat' ((first|exact tt|refine c2 hF ?_|refine na fun b=>?_|refine nb fun b hb=>?_|refine iq ?_|(refine jq ?_ ?_<;>intro h h')|exact wZ|refine Aa ?_ ?_)<;>try refine My ?_)
   all_goals exact AG P0 (A6 _)
 rw[hh]at hF
 have hp:=Jv hh
 rw[a3k hh]
 have hdl:=WS L _ hp
 rcases x with _ | ⟨g,cap⟩
 ·obtain rfl:L=[]:=hx
  simp at hp
 have hgs:=hx.1
 have hib:AE L k≤1000000:=by have:=hI.len;omega
 have hD:=b2E g cap (AE L k) L hp
 rw[← hdl]at hD
 simp only[AA]at hF ⊢
 generalize AE L k=i at *
 generalize E6 L i=L2 at *
 clear hI hx hh hp hdl
 refine YV _ _ _ (by simp) ?_
 simp only[OL];refine My ?_
 repeat' ((first|exact tt|refine c2 hF ?_|refine c1 hD ?_|refine na fun b=>?_|refine nb fun b hb=>?_|refine iq ?_|(refine jq ?_ ?_<;>intro h h')|exact wZ|refine Aa ?_ ?_)<;>try refine My ?_)
 all_goals
  refine AG ?_ (Lv rfl)
  simp[Am,lk,BR,Br, *]
end
section
open Go.RowKit
theorem a8K(own:Option Nat)(z:List UInt8)(l:List (List UInt8))(hn:l.length≤140737488355328)(hl:(Lib.join l z).length≤140737488355328):CP Tryz.prog 204 [.sl own 1 (l.map fun p=>[AV.str p]),.str z] (.str (Lib.join l z)):=by
 intro W U us hG hlen hu
 match us,hlen with
 | [v,w],_=>
  have hw:=(hu 1 w _ rfl rfl).str_inv
  subst hw
  have hv:=hu 0 v _ rfl rfl
  generalize hels:(l.map fun p=>[AV.str p])=els at hv
  cases hv with
  | sl A cap _ _ b o _ f hcap hmax hA hs hc hvv=>
   by_cases h0:l=[]
   ·subst h0
    simp at hels
    subst hels
    refine (Tryz.strings_Join_none A cap ⟨z.toArray⟩ W).mono ?_
    rintro e W' ⟨rfl,rfl⟩
    exact ⟨_,U,rfl,.str [],trivial,Ext.refl _ _⟩
   ·have hll:els.length=l.length:=by simp[← hels]
    have hlt:0<els.length:=by rw[hll];exact List.length_pos_iff.2 h0
    obtain rfl:=hA hlt
    have hx:els.length=(l.map fun p=>(⟨p.toArray⟩:ByteArray)).length:=by simp[hll]
    have hj:((l.map fun p=>(⟨p.toArray⟩:ByteArray)).map (·.data.toList))=l:=by simp[EX,Function.comp_def]
    have hbk:b<W.heap.size:=World.block_lt_of_cell? W ⟨b,o+0 * 1+0,none⟩ (hc 0 0 hlt (by omega)).1
    have:=Tryz.strings_Join b o cap (l.map fun p=>(⟨p.toArray⟩:ByteArray)) ⟨z.toArray⟩ W (fun j x hx=>by
     simp only[B7,BM]at hx
     obtain ⟨p,hp,rfl⟩:=hx
     have hjl:j<els.length:=by rw[hll];exact (AM.1 hp).1
     have h1:=(hc j 0 hjl (by omega)).1
     have h2:=hvv j [AV.str p] 0 (.str p) (by rw[← hels];simp[hp]) rfl
     rw[show o+j * 1+0=o+j by omega]at h1
     rw[h1]
     generalize f j 0=y at h2
     cases h2
     rfl) hbk (by rw[← hx,hll];exact hn) (by rw[← hx];exact hcap) (by rw[hj];exact hl)
    rw[hj, ← hx]at this
    refine this.mono ?_
    rintro e W' ⟨rfl,hB⟩
    exact ⟨_,U,rfl,.str _,trivial,⟨hB,fun _ _ _=>Iff.rfl⟩⟩
theorem Pi:∀ l:List (List UInt8),Lib.join l []=l.flatten
 | []=>rfl
 | [x]=>by simp[Lib.join,List.intercalate]
 | x::y::l=>by
  have:=Pi (y::l)
  simp only[Lib.join,List.intercalate]at this ⊢
  simp[List.intersperse,this]
theorem ZX:∀ n,Lib.repeatL [0] n=List.replicate n 0
 | 0=>rfl
 | n+1=>by rw[Lib.repeatL,ZX n,J7];rfl
theorem a8Y(n:Nat)(hn:n≤1000000):CP Tryz.prog 205 [.str [0],.int .i64 (n:Int)] (.str (List.replicate n 0)):=
 MQ (vs:=[.string ⟨#[0]⟩,.int .i64 (n:Int)]) (v:=.string ⟨(List.replicate n (0:UInt8)).toArray⟩) rfl (by simp) rfl fun W=>
  (Tryz.strings_Repeat ⟨#[0]⟩ n W (by omega) (by have:(⟨#[0]⟩:ByteArray).size=1:=rfl;rw[this];omega)).mono fun e w' ⟨h1,h2⟩=>⟨by rw[h1, ← ZX],h2⟩
theorem b0I:∀ a:Fin 32,1≤a.val→IntKind.wrap .u64 ((BitVec.ofInt 64 (IntKind.wrap .u64 (0 - (a.val:Int))) &&& BitVec.ofInt 64 31).toNat:Int)=((32 - a.val:Nat):Int):=by decide
theorem rl1(a:Nat)(h:1≤a∧a≤31):IntKind.wrap .u64 ((BitVec.ofInt (IntKind.bits .u64) (IntKind.wrap .u64 (0 - (a:Int))) &&& BitVec.ofInt (IntKind.bits .u64) 31).toNat:Int)=((32 - a:Nat):Int):=b0I ⟨a,by omega⟩ h.1
theorem rl2(a:Nat)(h:1≤a∧a≤31):IntKind.wrap .u64 (32 - ((32 - a:Nat):Int))=(a:Int):=by
 show (32 - ((32 - a:Nat):Int)) % 18446744073709551616=a
 omega
theorem nn(n:Nat):(0≤(n:Int))=True:=by simp
theorem Z8(x:Wd)(a:Nat):(x <<< (32 - a)) ||| (x >>> a)=Cv x a:=rfl
theorem b2B{A B:Prop}(h:B)(e:A=B:=by (simp (disch:=omega) only[*, ↓Ed,Eu, ↓reduceIte,reduceCtorEq,Nat.reduceAdd,Nat.reduceEqDiff,Nat.reduceLT,Nat.reduceLeDiff,Int.reduceToNat,Int.reduceEq,Int.reduceLT,Int.reduceLE,Ap,Ao,Ax,J1,J2,G0,Dh,nn,Z8];first|done|rfl)):A:=e▸h
theorem NE(x:Wd)(a:Nat)(h:1≤a∧a≤31):CP Tryz.prog 250 [aW x,.int .i64 (0 - (a:Int))] (aW (Cv x a)):=by
 refine a5I _ _ (by simp) ?_
 simp only[US,rl1 a h,rl2 a h,J1,J2,G0,Dh,nn, ↓Ed,Eu, ↓reduceIte,reduceCtorEq,Nat.reduceAdd,Nat.reduceEqDiff,Nat.reduceLT,Nat.reduceLeDiff,Int.reduceToNat,Int.reduceEq,Int.reduceLT,Int.reduceLE,Ap,Ao,Ax,J1,J2,G0,Dh,nn,Z8]
 repeat' ((first|exact tt|refine na fun b=>?_|refine nb fun b hb=>?_|refine iq ?_|(refine jq ?_ ?_<;>intro h h')|exact wZ|refine Aa ?_ ?_)<;>try refine b2B ?_)
end
section
open Go.RowKit
abbrev QI:List AV:=[.int .u32 0,.int .u32 0,.int .u32 0,.int .u32 0,.int .u32 0,.int .u32 0,.int .u32 0,.int .u32 0,.int .u32 0,.int .u32 0,.int .u32 0,.int .u32 0,.int .u32 0,.int .u32 0,.int .u32 0,.int .u32 0,.int .u32 0,.int .u32 0,.int .u32 0,.int .u32 0,.int .u32 0,.int .u32 0,.int .u32 0,.int .u32 0,.int .u32 0,.int .u32 0,.int .u32 0,.int .u32 0,.int .u32 0,.int .u32 0,.int .u32 0,.int .u32 0,.int .u32 0,.int .u32 0,.int .u32 0,.int .u32 0,.int .u32 0,.int .u32 0,.int .u32 0,.int .u32 0,.int .u32 0,.int .u32 0,.int .u32 0,.int .u32 0,.int .u32 0,.int .u32 0,.int .u32 0,.int .u32 0,.int .u32 0,.int .u32 0,.int .u32 0,.int .u32 0,.int .u32 0,.int .u32 0,.int .u32 0,.int .u32 0,.int .u32 0,.int .u32 0,.int .u32 0,.int .u32 0,.int .u32 0,.int .u32 0,.int .u32 0,.int .u32 0]
theorem a1F(s:List UInt8):(Dl s 0).map aW=QI:=rfl
theorem a0I:([.int .u32 1116352408,.int .u32 1899447441,.int .u32 3049323471,.int .u32 3921009573,.int .u32 961987163,.int .u32 1508970993,.int .u32 2453635748,.int .u32 2870763221,.int .u32 3624381080,.int .u32 310598401,.int .u32 607225278,.int .u32 1426881987,.int .u32 1925078388,.int .u32 2162078206,.int .u32 2614888103,.int .u32 3248222580,.int .u32 3835390401,.int .u32 4022224774,.int .u32 264347078,.int .u32 604807628,.int .u32 770255983,.int .u32 1249150122,.int .u32 1555081692,.int .u32 1996064986,.int .u32 2554220882,.int .u32 2821834349,.int .u32 2952996808,.int .u32 3210313671,.int .u32 3336571891,.int .u32 3584528711,.int .u32 113926993,.int .u32 338241895,.int .u32 666307205,.int .u32 773529912,.int .u32 1294757372,.int .u32 1396182291,.int .u32 1695183700,.int .u32 1986661051,.int .u32 2177026350,.int .u32 2456956037,.int .u32 2730485921,.int .u32 2820302411,.int .u32 3259730800,.int .u32 3345764771,.int .u32 3516065817,.int .u32 3600352804,.int .u32 4094571909,.int .u32 275423344,.int .u32 430227734,.int .u32 506948616,.int .u32 659060556,.int .u32 883997877,.int .u32 958139571,.int .u32 1322822218,.int .u32 1537002063,.int .u32 1747873779,.int .u32 1955562222,.int .u32 2024104815,.int .u32 2227730452,.int .u32 2361852424,.int .u32 2428436474,.int .u32 2756734187,.int .u32 3204031479,.int .u32 3329325298]:List AV)=shaK.map aW:=rfl
end
section
open Go.RowKit
theorem a1l(i:Nat):(4 * (i:Int)).toNat=4 * i:=by omega
theorem a1m(i:Nat):(4 * (i:Int)+1).toNat=4 * i+1:=by omega
theorem a1n(i:Nat):(4 * (i:Int)+2).toNat=4 * i+2:=by omega
theorem a1o(i:Nat):(4 * (i:Int)+3).toNat=4 * i+3:=by omega
theorem a3H(i k:Nat):((i:Int) - (k:Int)).toNat=i - k:=by omega
theorem Xq(i:Nat):((i:Int) - 16).toNat=i - 16:=by omega
theorem Xr(i:Nat):((i:Int) - 15).toNat=i - 15:=by omega
theorem Xs(i:Nat):((i:Int) - 7).toNat=i - 7:=by omega
theorem a0M(i:Nat):((i:Int) - 2).toNat=i - 2:=by omega
theorem M2(l:List Wd)(i:Nat)(hi:i<l.length)(K:AV→Prop):RK (A5 none ((l.map aW).drop i)) K=K (aW (l.getD i 0)):=by
 rw[Jc (by simpa using hi)]
 apply propext
 simp[RK,A5,AV.alias,List.getD,hi]
theorem Ox(l:List Wd)(i:Nat)(x:Wd)(hi:i<l.length):splice (l.map aW) i [aW x]=(l.set i x).map aW:=by
 induction l generalizing i with
 | nil=>simp at hi
 | cons y l ih=>cases i with
  | zero=>simp[splice]
  | succ i=>simp only[CX,splice,List.set_cons_succ];rw[ih i (by simpa using hi)]
theorem a0l(s:List UInt8)(i n:Nat)(h:n<i∧i≤64)(K:AV→Prop):RK (A5 none (((Dl s i).map aW).drop n)) K=K (aW ((BJ s i).getD n 0)):=by
 rw[M2 _ _ (by rw[P9 s i h.2];omega),b1V s i n h.1]
theorem Ml(s:List UInt8)(i:Nat)(h:i≤64):((Dl s i).map aW).length=64:=by rw[Ax,P9 s i h]
theorem I4:∀ (z X:List AV),z.length=X.length→splice z 0 X=X
 | [],[],_=>rfl
 | [],_::_,h=>by simp at h
 | _::_,[],h=>by simp at h
 | _::z,x::X,h=>by
  show x::splice z 0 X=x::X
  rw[I4 z X (by simpa using h)]
theorem Mv(l:List Wd):(l.map aW).map AV.store=l.map aW:=by
 rw[EX];rfl
theorem GX{A B:Prop}(h:B)(e:A=B:=by (simp (disch:=omega) only[*, ↓Ed,Eu, ↓reduceIte,reduceCtorEq,Nat.reduceAdd,Nat.reduceEqDiff,Nat.reduceLT,Nat.reduceLeDiff,Int.reduceToNat,Int.reduceEq,Int.reduceLT,Int.reduceLE,Ap,Ao,Ax,J1,Oc,Of,Ob,Od,J2,G0,Oe,Dh,nn,a3H,Xq,Xr,Xs,a0M,a1l,a1m,a1n,a1o,AN,AH,Int.reduceAdd,a0l,Ml];first|done|rfl)):A:=e▸h
theorem ZH(w:Wd)(a b c:Nat)(ha:1≤a∧a≤31)(hb:1≤b∧b≤31)(hc:1≤c∧c≤31):CP Tryz.prog 228 [aW w,.int .i64 (a:Int),.int .i64 (b:Int),.int .i64 (c:Int)] (aW ((Cv w a ^^^ Cv w b) ^^^ Cv w c)):=by
 refine a7v _ _ (by simp) ?_
 simp only[Wb];refine GX ?_
 repeat' ((first|exact tt|refine Ab (NE w a ha) ?_|refine Ab (NE w b hb) ?_|refine Ab (NE w c hc) ?_|refine na fun b=>?_|refine nb fun b hb=>?_|refine iq ?_|(refine jq ?_ ?_<;>intro h h')|exact wZ|refine Aa ?_ ?_)<;>try refine GX ?_)
theorem ZG(w:Wd)(a b c:Nat)(ha:1≤a∧a≤31)(hb:1≤b∧b≤31):CP Tryz.prog 249 [aW w,.int .i64 (a:Int),.int .i64 (b:Int),.int .i64 (c:Int)] (aW ((Cv w a ^^^ Cv w b) ^^^ w >>> c)):=by
 refine a7t _ _ (by simp) ?_
 simp only[V9];refine GX ?_
 repeat' ((first|exact tt|refine Ag (NE w a ha) ?_|refine Ag (NE w b hb) ?_|refine na fun b=>?_|refine nb fun b hb=>?_|refine iq ?_|(refine jq ?_ ?_<;>intro h h')|exact wZ|refine Aa ?_ ?_)<;>try refine GX ?_)
theorem b0c(w:Wd):CP Tryz.prog 249 [aW w,.int .i64 7,.int .i64 18,.int .i64 3] (aW ((Cv w 7 ^^^ Cv w 18) ^^^ w >>> 3)):=ZG w 7 18 3 (by omega) (by omega)
theorem b0d(w:Wd):CP Tryz.prog 249 [aW w,.int .i64 17,.int .i64 19,.int .i64 10] (aW ((Cv w 17 ^^^ Cv w 19) ^^^ w >>> 10)):=ZG w 17 19 10 (by omega) (by omega)
theorem b0f(s:List UInt8)(hs:s.length=64):CP Tryz.prog 227 [.str s] (.agg ((BJ s 64).map aW)):=by
 refine a7u _ _ (by simp) ?_
 simp only[Wa,Cz.z3];refine GX ?_
 repeat' ((first|exact tt|refine na fun b=>?_|refine nb fun b hb=>?_|refine iq ?_|(refine jq ?_ ?_<;>intro h h')|exact wZ|refine Aa ?_ ?_)<;>try refine GX ?_)
 rename_i r
 obtain ⟨z,hz,hzl⟩:∃ z:List AV,QI=z∧z.length=64:=⟨_,rfl,rfl⟩
 refine A2 (fun i:Nat=>⟨lk [(0,.str s),(2,.ptr r 0),(3,.ptr b 0),(5,.int .i64 (i:Int))],lk [(r,z),(b,(Dl s i).map aW)]⟩) (fun i=>i≤64) (fun i=>64 - i) 0 (by omega) (An (by rw[← hz,a1F s];simp[Am,lk,hb])) ?_
 clear hz
 intro i hi
 by_cases hlt:i<64
 ·have f1:Ac (decide ((i:Int)<64)=true):=fo
  have l64:(Dl s i).length=64:=P9 s i hi
  by_cases h16:i<16
  ·have f2:Ac (decide ((i:Int)<16)=true):=fo
   have hS:=Ox (Dl s i) i (Ji s i) (by omega)
   rw[Qa s i hlt (Ji s i) (by rw[Af h16])]at hS
   have hX:=Ml s i hi
   generalize (Dl s i).map aW=X at *
   clear l64
   simp only[Ji,Lc]at hS
   refine GX ?_
   repeat' ((first|exact tt|refine na fun b=>?_|refine nb fun b hb=>?_|refine iq ?_|(refine jq ?_ ?_<;>intro h h')|exact wZ|refine Aa ?_ ?_)<;>try refine GX ?_)
   all_goals exact AC (i+1) ⟨An (by simp[Am,lk,hb]),by omega,by omega⟩
  ·have f2:Ac (decide ((i:Int)<16)=false):=fo
   have hS:=Ox (Dl s i) i (Jz (BJ s i) i) (by omega)
   rw[Qa s i hlt (Jz (BJ s i) i) (by rw[Ad h16])]at hS
   have hX:=Ml s i hi
   clear l64
   simp only[Jz]at hS
   refine GX ?_
   repeat' ((first|exact tt|refine Ag (b0c _) ?_|refine Ag (b0d _) ?_|refine na fun b=>?_|refine nb fun b hb=>?_|refine iq ?_|(refine jq ?_ ?_<;>intro h h')|exact wZ|refine Aa ?_ ?_)<;>try refine GX ?_)
   all_goals exact AC (i+1) ⟨An (by simp[Am,lk,hb]),by omega,by omega⟩
 ·have f1:Ac (decide ((i:Int)<64)=false):=fo
  obtain rfl:i=64:=by omega
  have hX:(Dl s 64)=BJ s 64:=by simp[Dl]
  have hL:((BJ s 64).map aW).length=64:=by rw[Ax,HD]
  rw[hX]
  have hT:List.take 64 ((BJ s 64).map aW)=(BJ s 64).map aW:=B0 (by omega)
  have hP:=I4 z ((BJ s 64).map aW) (by omega)
  have hS:=Mv (BJ s 64)
  clear hX
  generalize (BJ s 64).map aW=X at *
  refine GX ?_
  repeat' ((first|exact tt|refine na fun b=>?_|refine nb fun b hb=>?_|refine iq ?_|(refine jq ?_ ?_<;>intro h h')|exact wZ|refine Aa ?_ ?_)<;>try refine GX ?_)
end
section
open Go.RowKit
theorem P8(s:List UInt8)(n:Nat)(h:n<64)(K:AV→Prop):RK (A5 none (((BJ s 64).map aW).drop n)) K=K (aW ((BJ s 64).getD n 0)):=M2 _ _ (by rw[HD];exact h) K
theorem Pm(n:Nat)(h:n<64)(K:AV→Prop):RK (A5 none ((shaK.map aW).drop n)) K=K (aW (shaK.getD n 0)):=M2 _ _ h K
theorem b0g(w:Wd):CP Tryz.prog 228 [aW w,.int .i64 6,.int .i64 11,.int .i64 25] (aW ((Cv w 6 ^^^ Cv w 11) ^^^ Cv w 25)):=ZH w 6 11 25 (by omega) (by omega) (by omega)
theorem b0h(w:Wd):CP Tryz.prog 228 [aW w,.int .i64 2,.int .i64 13,.int .i64 22] (aW ((Cv w 2 ^^^ Cv w 13) ^^^ Cv w 22)):=ZH w 2 13 22 (by omega) (by omega) (by omega)
def CZ(h s:S8)(i:Nat):List AV:=[aW (if 0<i then h.a+s.a else h.a),aW (if 1<i then h.b+s.b else h.b),aW (if 2<i then h.c+s.c else h.c),aW (if 3<i then h.d+s.d else h.d),
 aW (if 4<i then h.e+s.e else h.e),aW (if 5<i then h.f+s.f else h.f),aW (if 6<i then h.g+s.g else h.g),aW (if 7<i then h.h+s.h else h.h)]
abbrev z8:List AV:=[.int .u32 0,.int .u32 0,.int .u32 0,.int .u32 0,.int .u32 0,.int .u32 0,.int .u32 0,.int .u32 0]
theorem JU{A B:Prop}(h:B)(e:A=B:=by (simp (disch:=omega) only[*, ↓Ed,Eu, ↓reduceIte,reduceCtorEq,Nat.reduceAdd,Nat.reduceEqDiff,Nat.reduceLT,Nat.reduceLeDiff,Int.reduceToNat,Int.reduceEq,Int.reduceLT,Int.reduceLE,Ap,Ao,Ax,J1,Oc,Of,Ob,Od,J2,G0,Oe,Dh,nn,AN,AH,Int.reduceAdd,P8,Pm,HD,S8.c8,CZ];first|done|rfl)):A:=e▸h
theorem a9P(h:S8)(c:List UInt8)(hc:c.length=64):CP Tryz.prog 208 [.agg h.c8,.str c] (.agg (Kw h c).c8):=by
 refine a7s _ _ (by simp) ?_
 have hS:=b0f c hc
 simp (disch:=omega) only[V8,a0I, ↓Ed,Eu, ↓reduceIte,reduceCtorEq,Nat.reduceAdd,Nat.reduceEqDiff,Nat.reduceLT,Nat.reduceLeDiff,Int.reduceToNat,Int.reduceEq,Int.reduceLT,Int.reduceLE,Ap,Ao,Ax,J1,Oc,Of,Ob,Od,J2,G0,Oe,Dh,nn,AN,AH,Int.reduceAdd,P8,Pm,HD,S8.c8,CZ]
 repeat' ((first|exact tt|refine Ab hS ?_|refine na fun b=>?_|refine nb fun b hb=>?_|refine iq ?_|(refine jq ?_ ?_<;>intro h h')|exact wZ|refine Aa ?_ ?_)<;>try refine JU ?_)
 rename_i bh br hbr
 clear hS
 have hL:((BJ c 64).map aW).length=64:=by rw[Ax,HD]
 refine A2 (fun i:Nat=>⟨lk [(2,.ptr bh 0),(4,.ptr br 0),(5,.ptr b 0),(13,.agg ((BJ c 64).map aW)),(14,.int .i64 (i:Int))],lk [(bh,h.c8),(br,z8),(b,(Fi h (BJ c 64) i).c8)]⟩) (fun i=>i≤64) (fun i=>64 - i) 0 (by omega) (An (by simp[Am,lk,hb,hbr,Fi])) ?_
 intro i hi
 by_cases hlt:i<64
 ·have f1:Ac (decide ((i:Int)<64)=true):=fo
  have hR:Fi h (BJ c 64) (i+1)=N1 (Fi h (BJ c 64) i) (shaK.getD i 0) ((BJ c 64).getD i 0):=rfl
  generalize Fi h (BJ c 64) i=S at *
  simp (disch:=omega) only[hb,hbr,hL,a0I, ↓Ed,Eu, ↓reduceIte,reduceCtorEq,Nat.reduceAdd,Nat.reduceEqDiff,Nat.reduceLT,Nat.reduceLeDiff,Int.reduceToNat,Int.reduceEq,Int.reduceLT,Int.reduceLE,Ap,Ao,Ax,J1,Oc,Of,Ob,Od,J2,G0,Oe,Dh,nn,AN,AH,Int.reduceAdd,P8,Pm,HD,S8.c8,CZ]
  repeat' ((first|exact tt|refine Ag (b0g _) ?_|refine Ag (b0h _) ?_|refine na fun b=>?_|refine nb fun b hb=>?_|refine iq ?_|(refine jq ?_ ?_<;>intro h h')|exact wZ|refine Aa ?_ ?_)<;>try refine JU ?_)
  all_goals exact AC (i+1) ⟨An (by simp[-List.getD_eq_getElem?_getD,Am,lk,hb,hbr,hR,N1,stepT,TS]),by omega,by omega⟩
 have f1:Ac (decide ((i:Int)<64)=false):=fo
 obtain rfl:i=64:=by omega
 have hM:Kw h c=J9 h (Fi h (BJ c 64) 64):=rfl
 rw[hM]
 generalize Fi h (BJ c 64) 64=S at *
 clear hL hM hlt hi
 refine JU ?_
 repeat' ((first|exact tt|refine na fun b=>?_|refine nb fun b hb=>?_|refine iq ?_|(refine jq ?_ ?_<;>intro h h')|exact wZ|refine Aa ?_ ?_)<;>try refine JU ?_)
 clear f1
 refine A2 (fun i:Nat=>⟨lk [(2,.ptr bh 0),(4,.ptr br 0),(5,.ptr b 0),(85,.int .i64 (i:Int))],lk [(bh,CZ h S i),(br,z8),(b,S.c8)]⟩) (fun i=>i≤8) (fun i=>8 - i) 0 (by omega) (An (by simp[Am,lk,hb,hbr,CZ])) ?_
 intro i hi
 by_cases hlt:i<8
 ·have hc8:i=0∨i=1∨i=2∨i=3∨i=4∨i=5∨i=6∨i=7:=by omega
  rcases hc8 with rfl|rfl|rfl|rfl|rfl|rfl|rfl|rfl
  all_goals (refine JU ?_;try exact tt)
  all_goals repeat' ((first|exact tt|refine na fun b=>?_|refine nb fun b hb=>?_|refine iq ?_|(refine jq ?_ ?_<;>intro h h')|exact wZ|refine Aa ?_ ?_)<;>try refine JU ?_)
  all_goals first|exact AC 1 ⟨An (by simp[Am,lk,hb,hbr,CZ]),by omega,by omega⟩|exact AC 2 ⟨An (by simp[Am,lk,hb,hbr,CZ]),by omega,by omega⟩|exact AC 3 ⟨An (by simp[Am,lk,hb,hbr,CZ]),by omega,by omega⟩|exact AC 4 ⟨An (by simp[Am,lk,hb,hbr,CZ]),by omega,by omega⟩|exact AC 5 ⟨An (by simp[Am,lk,hb,hbr,CZ]),by omega,by omega⟩|exact AC 6 ⟨An (by simp[Am,lk,hb,hbr,CZ]),by omega,by omega⟩|exact AC 7 ⟨An (by simp[Am,lk,hb,hbr,CZ]),by omega,by omega⟩|exact AC 8 ⟨An (by simp[Am,lk,hb,hbr,CZ]),by omega,by omega⟩
 have f1:Ac (decide ((i:Int)<8)=false):=fo
 obtain rfl:i=8:=by omega
 have hA:CZ h S 8=(J9 h S).c8:=rfl
 rw[hA]
 generalize J9 h S=R
 clear hA hlt hi
 refine JU ?_
 repeat' ((first|exact tt|refine na fun b=>?_|refine nb fun b hb=>?_|refine iq ?_|(refine jq ?_ ?_<;>intro h h')|exact wZ|refine Aa ?_ ?_)<;>try refine JU ?_)
end
end Go.Proofs.YtfgihnhoocnmdaaGreatDoor
