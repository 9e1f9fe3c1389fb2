import Derived.Test.YtfgihnhoocnmdaaGreatDoorJ16
import Derived.Lib.SplitLaws
import Derived.Laws.BitsAllLaws
namespace Go.Proofs.YtfgihnhoocnmdaaGreatDoor
set_option linter.all false
set_option maxHeartbeats 64000000
set_option maxRecDepth 100000
section
open Go.RowKit
theorem Il{A B:Prop}(h:B)(e:A=B:=by (simp (disch:=omega) only[*, ↓Ed,Eu, ↓reduceIte,reduceCtorEq,Nat.reduceAdd,Nat.reduceEqDiff,Nat.reduceLT,Nat.reduceLeDiff,Int.reduceToNat,Int.reduceEq,Int.reduceLT,Int.reduceLE,Ap,JO,Ao,Nat.reduceMul];first|done|rfl)):A:=e▸h
theorem PW(k:Int):CP Tryz.prog 110 [.int .i64 k] (.str (Da k)):=by
 by_cases h:0≤k∧k≤7
 ·obtain rfl|rfl|rfl|rfl|rfl|rfl|rfl|rfl:k=0∨k=1∨k=2∨k=3∨k=4∨k=5∨k=6∨k=7:=by omega
  all_goals
   refine YR _ _ (by simp) ?_
   simp only[Ru];refine Il ?_
   repeat' ((first|exact tt|refine na fun b=>?_|refine nb fun b hb=>?_|refine iq ?_|(refine jq ?_ ?_<;>intro h h')|exact wZ|refine Aa ?_ ?_)<;>try refine Il ?_)
  all_goals first|rfl|(simp[Da];done)|skip
 ·refine YR _ _ (by simp) ?_
  simp only[Ru];refine Il ?_
  repeat' ((first|exact tt|refine na fun b=>?_|refine nb fun b hb=>?_|refine iq ?_|(refine jq ?_ ?_<;>intro h h')|exact wZ|refine Aa ?_ ?_)<;>try refine Il ?_)
  all_goals first|(simp[Ua (show k<1∨7<k by omega)];done)|(exfalso;simp only[Ac,Hn]at *;omega)
theorem PV(k:Int):CP Tryz.prog 49 [.int .i64 k] (.str (Da k)):=by
 refine a6X _ _ (by simp) ?_
 simp only[VP];refine Il ?_
 repeat' ((first|exact tt|refine na fun b=>?_|refine nb fun b hb=>?_|refine iq ?_|(refine jq ?_ ?_<;>intro h h')|exact wZ|refine Aa ?_ ?_)<;>try refine Il ?_)
 all_goals (try simp only[Ac,Hn]at *)
 all_goals (try subst_vars)
 all_goals first|rfl|(simp[Da, *];done)|skip
theorem D8(k:Int)(p:List UInt8)(c q:Int)(hp:p.length≤1000000):CP Tryz.prog 52 [.int .i64 k,.agg [.str p,.int .i64 c],.int .i64 q] (.str (Ah k p c q)):=by
 have hm:=Pu
 have hw:=T9 k
 have ht13:_→(Lib.itoa q).length≤13:=RN
 cases hM:Ba p c with
 | false=>
  refine YQ _ _ (by simp) ?_
  simp only[Rt];refine Il ?_
  repeat' ((first|exact tt|refine Ab (PW k) ?_|refine Ag (PW k) ?_|refine Ab (KD p c (by omega)) ?_|refine na fun b=>?_|refine nb fun b hb=>?_|refine iq ?_|(refine jq ?_ ?_<;>intro h h')|exact wZ|refine Aa ?_ ?_)<;>try refine Il ?_)
  all_goals simp[Ah,hM]
 | true=>
  obtain ⟨hp2,hc1,hc2,_⟩:=Px hM
  have h3:=OW ⟨hc1,hc2⟩
  refine YQ _ _ (by simp) ?_
  simp only[Rt];refine Il ?_
  repeat' ((first|exact tt|refine Ab (PW k) ?_|refine Ag (PW k) ?_|refine Ab (KD p c (by omega)) ?_|refine Ab (a9m k) ?_|refine Ag (Zf c (by omega)) ?_|refine Ab (Zf q (by simp only[Ac,Hn]at *;omega)) ?_|refine na fun b=>?_|refine nb fun b hb=>?_|refine iq ?_|(refine jq ?_ ?_<;>intro h h')|exact wZ|refine Aa ?_ ?_)<;>try refine Il ?_)
  all_goals (try simp only[Ac,Hn]at *)
  all_goals simp_all [Ah,Iu,HA,Hd,HR,Mm]
  all_goals omega
end
section
open Go.RowKit
theorem a1j(u:Nat):(u:Int).tmod 10=((u % 10:Nat):Int):=rfl
theorem a1i(u:Nat):(u:Int).tdiv 10=((u / 10:Nat):Int):=rfl
theorem T3(c:UInt8):IntKind.i64.wrap (c.toNat:Int)=c.toNat:=Ap (by have:=c.toNat_lt;omega)
theorem WZ(n:Nat):[[AV.int .u8 (IntKind.u8.wrap (48+((n % 10:Nat):Int)))]]=Q3 [UInt8.ofNat (48+n % 10)]:=by
 simp only[Q3,CX,List.map_nil,Bh,List.cons.injEq,AV.int.injEq,Bc,true_and]
 rw[N7 (by omega),IntKind.wrap_u8];omega
def Kk(u:Nat)(out:List UInt8):List UInt8:=if u=0 then out else EI u++out
theorem WU{u:Nat}(out:List UInt8)(h:0<u):Kk (u / 10) (UInt8.ofNat (48+u % 10)::out)=Kk u out:=by
 unfold Kk
 rw[Ad (show ¬ u=0 by omega)]
 by_cases hu:u<10
 ·rw[Af (by omega),dig_lo hu,show u % 10=u by omega];rfl
 ·rw[Ad (by omega),dig_hi hu];simp
theorem a3b(n:Nat):Kk (n / 10) [UInt8.ofNat (48+n % 10)]=EI n:=by
 by_cases h:n=0
 ·subst h;rw[dig_lo (by omega)];rfl
 ·rw[WU [] (by omega)];unfold Kk;rw[Ad h,Jb]
theorem Qp{A B:Prop}(h:B)(e:A=B:=by (simp (disch:=omega) only[*, ↓Ed,Eu, ↓reduceIte,reduceCtorEq,Nat.reduceAdd,Nat.reduceEqDiff,Nat.reduceLT,Nat.reduceLeDiff,Int.reduceToNat,Int.reduceEq,Int.reduceLT,Int.reduceLE,Ap,JO,Ao,Nat.reduceMul,a1j,a1i,Ax,T3];first|done|rfl)):A:=e▸h
theorem a8C(n:Nat)(hn:n≤72057594037927935):CP Tryz.prog 51 [.int .i64 n] (.str (EI n)):=by
 have hm:=Pu
 have hl:=OU 16 n (by omega)
 refine a6A _ _ (by simp) ?_
 simp only[Vw];refine Qp ?_
 repeat' ((first|exact tt|refine na fun b=>?_|refine nb fun b hb=>?_|refine iq ?_|(refine jq ?_ ?_<;>intro h h')|exact wZ|refine Aa ?_ ?_)<;>try refine Qp ?_)
 simp (disch:=omega) only[WZ, ↓Ed,Eu, ↓reduceIte,reduceCtorEq,Nat.reduceAdd,Nat.reduceEqDiff,Nat.reduceLT,Nat.reduceLeDiff,Int.reduceToNat,Int.reduceEq,Int.reduceLT,Int.reduceLE,Ap,JO,Ao,Nat.reduceMul,a1j,a1i,Ax,T3]
 refine A2 (fun x:List UInt8 × Nat=>⟨lk [(0,.int .i64 (x.2:Int)),(3,.sl (some 5) 1 (Q3 x.1))],lk []⟩) (fun x=>Ac (Kk x.2 x.1=EI n)∧x.1.length≤17∧x.2≤72057594037927935) (fun x=>x.2) ([UInt8.ofNat (48+n % 10)],n / 10) ⟨a3b n,by simp,by simp only;omega⟩ (An BA) ?_
 rintro ⟨out,u⟩ ⟨h1,h2,h3⟩
 simp only at h1 h2 h3
 refine Qp ?_
 repeat' ((first|exact tt|refine na fun b=>?_|refine nb fun b hb=>?_|refine iq ?_|(refine jq ?_ ?_<;>intro h h')|exact wZ|refine Aa ?_ ?_)<;>try refine Qp ?_)
 all_goals (try simp only[Ac,Hn]at *)
 ·have hl2:out.length+1≤17:=by
   rw[← h1]at hl
   unfold Kk at hl
   rw[Ad (by omega)]at hl
   have:=List.length_pos_iff.2 (a3e u)
   simp only[Ao]at hl;omega
  rw[WZ, ← FI]
  refine AC (UInt8.ofNat (48+u % 10)::out,u / 10) ⟨An BA,⟨(WU out (by omega)).trans h1,by simp only[AJ];omega,by simp only;omega⟩,by simp only;omega⟩
 ·obtain rfl:u=0:=by omega
  exact h1
end
section
open Go.RowKit
theorem CS(c:UInt8):((c.toNat:Int)=47)=(c=47):=propext ⟨fun h=>UInt8.toNat_inj.1 (by have:(47:UInt8).toNat=47:=rfl;omega),fun h=>by rw[h];rfl⟩
theorem Ze(c:Int)(h:0≤c∧c≤72057594037927935):CP Tryz.prog 51 [.int .i64 c] (.str (Lib.itoa c)):=by
 rw[LK h.1]
 have e:c=(c.toNat:Int):=by omega
 have:=a8C c.toNat (by omega)
 rwa [← e]at this
theorem Qq{A B:Prop}(h:B)(e:A=B:=by (simp (disch:=omega) only[*, ↓Ed,Eu, ↓reduceIte,reduceCtorEq,Nat.reduceAdd,Nat.reduceEqDiff,Nat.reduceLT,Nat.reduceLeDiff,Int.reduceToNat,Int.reduceEq,Int.reduceLT,Int.reduceLE,Ap,JO,Ao,Nat.reduceMul,Ax,T3,CS];first|done|rfl)):A:=e▸h
theorem JD(k:Int)(p:List UInt8)(c q:Int)(hp:p.length≤1000000):CP Tryz.prog 16 [.int .i64 k,.agg [.str p,.int .i64 c],.int .i64 q] (.str (Ah k p c q)):=by
 have hm:=Pu
 have hw:=T9 k
 have ht13:_→(Lib.itoa q).length≤13:=RN
 cases hM:Ba p c with
 | false=>
  refine YL _ _ (by simp) ?_
  simp only[Ro];refine Qq ?_
  repeat' ((first|exact tt|refine Ab (PV k) ?_|refine Ag (PV k) ?_|refine Ab (KC p c (by omega)) ?_|refine na fun b=>?_|refine nb fun b hb=>?_|refine iq ?_|(refine jq ?_ ?_<;>intro h h')|exact wZ|refine Aa ?_ ?_)<;>try refine Qq ?_)
  all_goals simp[Ah,hM]
 | true=>
  obtain ⟨hp2,hc1,hc2,_⟩:=Px hM
  have h3:=OW ⟨hc1,hc2⟩
  have hk:Da k≠[]→1≤k:=fun h=>by by_cases g:1≤k;exact g;exact absurd (Ua (by omega)) h
  refine YL _ _ (by simp) ?_
  simp only[Ro];refine Qq ?_
  repeat' ((first|exact tt|refine Ab (PV k) ?_|refine Ag (PV k) ?_|refine Ab (KC p c (by omega)) ?_|refine Ag (Ze c (by omega)) ?_|refine Ab (Ze q (by simp only[Ac,Hn]at *;omega)) ?_|refine na fun b=>?_|refine nb fun b hb=>?_|refine iq ?_|(refine jq ?_ ?_<;>intro h h')|exact wZ|refine Aa ?_ ?_)<;>try refine Qq ?_)
  all_goals (try simp only[Ac,Hn]at *)
  all_goals simp_all [Ah,Iu,HA,Hd,HR,Mm]
  all_goals omega
end
section
open Go.RowKit
set_option maxRecDepth 100000
end
section
open Go
theorem Kj:∀ {a b x y:List UInt8},47 ∉ a→47 ∉ b→a++47::x=b++47::y→a=b∧x=y
 | [],[],_,_,_,_,h=>⟨rfl,by simpa using h⟩
 | [],d::b,_,_,_,hb,h=>by simp at h;exact absurd h.1 (fun e=>hb (by simp[e]))
 | c::a,[],_,_,ha,_,h=>by simp at h;exact absurd h.1 (fun e=>ha (by simp[e]))
 | c::a,d::b,x,y,ha,hb,h=>by
  simp only[Bi,List.cons.injEq]at h
  obtain ⟨rfl,h⟩:=h
  obtain ⟨e1,e2⟩:=Kj (fun g=>ha (by simp[g])) (fun g=>hb (by simp[g])) h
  exact ⟨by rw[e1],e2⟩
theorem PE{p:List UInt8}(h:Hu p):47 ∉ p:=by
 intro hm
 obtain ⟨i,hi,e⟩:=Do hm
 have:=h.2.2 i hi
 unfold Fx at this
 have e2:p.getD i 0=47:=by rw[List.getD,Aw hi];exact e
 rw[e2]at this
 have h47:(47:UInt8).toNat=47:=rfl
 omega
theorem a3f(n:Nat):47 ∉ EI n:=fun h=>by
 have:=a3c n 47 h
 unfold Kq at this
 have h47:(47:UInt8).toNat=47:=rfl
 omega
theorem XZ{n:Int}(h:0≤n):47 ∉ Lib.itoa n:=by rw[LK h];exact a3f _
theorem Sl{n m:Int}(h:0≤n)(g:0≤m)(e:Lib.itoa n=Lib.itoa m):n=m:=by
 rw[LK h,LK g]at e
 have:=a3d e
 omega
theorem OP{n:Int}(h:0≤n):47 ∉ HR++Lib.itoa n:=by
 intro hm
 rcases Bv.1 hm with hm|hm
 ·revert hm;decide
 ·exact XZ h hm
inductive OfQ:List UInt8→Int→List UInt8→Int→Int→Prop
 | num {k p c q} (hk:1≤k∧k≤3) (hp:Hu p) (hc:0≤c∧c≤999) (hq:1≤q∧q≤1099511627776):
   OfQ (Da k++47::(HA++47::(p++47::(Hd++47::((HR++Lib.itoa c)++47::(Mm++47::Lib.itoa q)))))) k p c q
 | base {k p c} (hk:4≤k∧k≤7) (hp:Hu p) (hc:0≤c∧c≤999):OfQ (Da k++47::(HA++47::(p++47::(Hd++47::(HR++Lib.itoa c))))) k p c 0
theorem ofP_q{k:Int}{p:List UInt8}{c q:Int}:Ah k p c q=[]∨OfQ (Ah k p c q) k p c q:=by
 unfold Ah
 split
 ·exact .inl rfl
 rename_i h
 simp only[not_or,Decidable.not_not]at h
 obtain ⟨hw,hm⟩:=h
 have hm:=Px hm
 have hk:1≤k∧k≤7:=by
  by_cases g:1≤k∧k≤7
  ·exact g
  ·exact absurd (Ua (by omega)) hw
 split
 ·split
  ·right
   have:=OfQ.num (k:=k) (p:=p) (c:=c) (q:=q) (by omega) hm.2.2.2 ⟨hm.2.1,hm.2.2.1⟩ (by assumption)
   simpa[Iu]using this
  ·exact .inl rfl
 ·split
  ·subst_vars
   right
   have:=OfQ.base (k:=k) (p:=p) (c:=c) (by omega) hm.2.2.2 ⟨hm.2.1,hm.2.2.1⟩
   simpa[Iu]using this
  ·exact .inl rfl
theorem OfQ.ne{s k p c q}(h:OfQ s k p c q):s≠[]:=by cases h<;>simp
theorem OfQ.inj{s k p c q k' p' c' q'}(h:OfQ s k p c q)(g:OfQ s k' p' c' q'):k=k'∧p=p'∧c=c'∧q=q':=by
 have main:∀ {x y:List UInt8} {k k':Int} {p p':List UInt8},(1≤k∧k≤7)→(1≤k'∧k'≤7)→Hu p→Hu p'→
   Da k++47::(HA++47::(p++47::(Hd++47::x)))=Da k'++47::(HA++47::(p'++47::(Hd++47::y)))→k=k'∧p=p'∧x=y:=by
  intro x y k k' p p' h1 h2 h3 h4 e
  obtain ⟨e1,e⟩:=Kj (QE k) (QE k') e
  obtain ⟨_,e⟩:=Kj (by decide) (by decide) e
  obtain ⟨e2,e⟩:=Kj (PE h3) (PE h4) e
  obtain ⟨_,e⟩:=Kj (by decide) (by decide) e
  exact ⟨b3U h1 h2 e1,e2,e⟩
 generalize hs:s=t at h g
 cases h with
 | num hk hp hc hq=>
  generalize hs:Da k++47::(HA++47::(p++47::(Hd++47::((HR++Lib.itoa c)++47::(Mm++47::Lib.itoa q)))))=t at g
  cases g with
  | num hk' hp' hc' hq'=>
   obtain ⟨e1,e2,e⟩:=main (by omega) (by omega) hp hp' hs
   obtain ⟨e3,e⟩:=Kj (OP hc.1) (OP hc'.1) e
   obtain ⟨_,e⟩:=Kj (by decide) (by decide) e
   exact ⟨e1,e2,Sl hc.1 hc'.1 (List.append_cancel_left e3),Sl (by omega) (by omega) e⟩
  | base hk' hp' hc'=>
   obtain ⟨e1,e2,e⟩:=main (by omega) (by omega) hp hp' hs
   omega
 | base hk hp hc=>
  generalize hs:Da k++47::(HA++47::(p++47::(Hd++47::(HR++Lib.itoa c))))=t at g
  cases g with
  | num hk' hp' hc' hq'=>
   obtain ⟨e1,e2,e⟩:=main (by omega) (by omega) hp hp' hs
   omega
  | base hk' hp' hc'=>
   obtain ⟨e1,e2,e⟩:=main (by omega) (by omega) hp hp' hs
   exact ⟨e1,e2,Sl hc.1 hc'.1 (List.append_cancel_left e),rfl⟩
def sp:List UInt8→List (List UInt8)
 | []=>[[]]
 | c::t=>if c=47 then []::sp t else match sp t with | []=>[[c]]|x::xs=>(c::x)::xs
theorem TM:∀ {a:List UInt8},47 ∉ a→sp a=[a]
 | [],_=>rfl
 | c::t,h=>by
  simp only[AZ,not_or]at h
  rw[sp,Ad (fun e=>h.1 e.symm),TM h.2]
theorem HF:∀ {a x:List UInt8},47 ∉ a→sp (a++47::x)=a::sp x
 | [],x,_=>by simp[sp]
 | c::t,x,h=>by
  simp only[AZ,not_or]at h
  rw[Bi,sp,Ad (fun e=>h.1 e.symm),HF h.2]
theorem OfQ.sp{s k p c q}(h:OfQ s k p c q):sp s=if k≤3 then [Da k,HA,p,Hd,HR++Lib.itoa c,Mm,Lib.itoa q] else [Da k,HA,p,Hd,HR++Lib.itoa c]:=by
 cases h with
 | num hk hp hc hq=>
  rw[Af hk.2,HF (QE k),HF (by decide),HF (PE hp),HF (by decide),HF (OP hc.1),HF (by decide),TM (XZ (by omega))]
 | base hk hp hc=>
  rw[Ad (by omega),HF (QE k),HF (by decide),HF (PE hp),HF (by decide),TM (OP hc.1)]
end
section
open Go.RowKit
set_option maxRecDepth 100000
end
section
open Go
set_option maxRecDepth 100000
end
section
open Go.RowKit
theorem gd{l:List (List UInt8)}{i:Nat}(h:(i:Int)<l.length):(l.map fun p=>[AV.str p]).getD i []=[AV.str (l.getD i [])]:=by
 have h':i<l.length:=by omega
 simp[List.getD,Aw h']
end
section
open Go.RowKit
set_option maxRecDepth 100000
end
section
open Go.RowKit
theorem q_len{s k p c q}(h:OfQ s k p c q):s.length≤160:=by
 have hw:=T9 k
 cases h with
 | num hk hp hc hq=>
  have h3:=OW hc
  have h13:=RN (c:=q) (by omega)
  have:=hp.2.1
  simp only[Ao,AJ,AY];omega
 | base hk hp hc=>
  have h3:=OW hc
  have:=hp.2.1
  simp only[Ao,AJ,AY];omega
end
section
def Ea(n:Nat):List UInt8:=if n<128 then [UInt8.ofNat n] else UInt8.ofNat (n % 128+128)::Ea (n / 128)
termination_by n
decreasing_by omega
def pn(v:Int):List UInt8:=if 0≤v∧v≤72057594037927935 then Ea v.toNat else []
theorem Mb{n:Nat}(h:n<128):Ea n=[UInt8.ofNat n]:=by rw[Ea,Af h]
theorem NP{n:Nat}(h:128≤n):Ea n=UInt8.ofNat (n % 128+128)::Ea (n / 128):=by rw[Ea,Ad (by omega)]
theorem ZP:∀ (k n:Nat),n<128 ^ (k+1)→(Ea n).length≤k+1
 | 0,n,h=>by rw[Mb (by omega)];simp
 | k+1,n,h=>by
  by_cases hn:n<128
  ·rw[Mb hn];simp
  ·rw[NP (by omega)]
   have:=ZP k (n / 128) (by rw[F8]at h;omega)
   simp only[AJ];omega
theorem C5(v:Int):(pn v).length≤8:=by
 unfold pn
 split
 ·exact ZP 7 _ (by simp;omega)
 ·simp
theorem b0w(n:Nat):Ea n≠[]:=by
 by_cases hn:n<128
 ·rw[Mb hn];simp
 ·rw[NP (by omega)];simp
theorem Tw(v:Int):pn v=[]↔¬ (0≤v∧v≤72057594037927935):=by
 unfold pn
 split
 ·simp[b0w, *]
 ·simp[*]
def BS:Nat→List UInt8→Bool→Int × Nat × Int
 | 0,_,_=>(0,0,4)
 | _+1,[],_=>(0,0,2)
 | f+1,c::r,fst=>
  if c.toNat<128 then (if c.toNat=0∧fst=false then (0,0,3) else ((c.toNat:Int),1,0))
  else match BS f r false with
   | (v,n,e)=>if e=0 then (((c.toNat % 128:Nat):Int)+128 * v,n+1,0) else (0,0,e)
def nx(s:List UInt8)(at':Int):Int × Int × Int:=
 if 0≤at'∧at'≤s.length then
  match BS 8 (s.drop at'.toNat) true with
  | (v,n,e)=>if e=0 then (v,at'+n,0) else (0,0,e)
 else (0,0,1)
def Gz(u k:Nat):Int × Nat × Int→Int × Nat × Int
 | (v,n,e)=>if e=0 then ((u:Int)+128 ^ k * v,n+k,0) else (0,0,e)
theorem a2Q(u k f:Nat)(c:UInt8)(r:List UInt8)(b:Bool)(h:128≤c.toNat):
  Gz u k (BS (f+1) (c::r) b)=Gz (u+c.toNat % 128 * 128 ^ k) (k+1) (BS f r false):=by
 rw[BS,Ad (by omega)]
 obtain ⟨v,n,e⟩:=BS f r false
 by_cases he:e=0
 ·simp only[Gz,he,Bo,G9,Bc]
  refine ⟨?_,by omega⟩
  rw[Int.mul_add,Int.pow_succ,Int.mul_assoc, ← Int.add_assoc,Int.natCast_add,Int.natCast_mul,Int.natCast_pow,Int.mul_comm (128 ^ k:Int)]
  rfl
 ·simp[Gz,he]
theorem XC:∀ (f:Nat) (r:List UInt8) (b:Bool),0≤(BS f r b).1∧(BS f r b).1<128 ^ f∧(BS f r b).2.1≤r.length
 | 0,_,_=>by simp[BS]
 | f+1,[],_=>by simp[BS];exact Int.pow_pos (by omega)
 | f+1,c::r,b=>by
  have hp:(0:Int)<128 ^ f:=Int.pow_pos (by omega)
  have hp':(128:Int) ^ (f+1)=128 ^ f * 128:=Int.pow_succ _ _
  rw[BS]
  split
  ·split
   ·refine ⟨by simp,by simp;omega,by simp⟩
   ·refine ⟨by simp, ?_,by simp⟩
    simp only
    omega
  ·have ih:=XC f r false
   generalize BS f r false=g at ih ⊢
   obtain ⟨v,n,e⟩:=g
   simp only at ih ⊢
   split
   ·refine ⟨by omega,by omega,by simp;omega⟩
   ·refine ⟨by simp,by simp;omega,by simp⟩
theorem a3P:∀ (f:Nat) (r:List UInt8) (b:Bool),(BS f r b).2.2≠0→(BS f r b).1=0∧(BS f r b).2.1=0
 | 0,_,_,_=>by simp[BS]
 | f+1,[],_,_=>by simp[BS]
 | f+1,c::r,b,h=>by
  rw[BS]at h ⊢
  split at h
  ·rename_i hc
   rw[Af hc]
   split at h
   ·rename_i hd;rw[Af hd];simp
   ·simp at h
  ·rename_i hc
   rw[Ad hc]
   generalize BS f r false=g at h ⊢
   obtain ⟨v,n,e⟩:=g
   simp only at h ⊢
   split at h
   ·simp at h
   ·rename_i he;rw[Ad he];simp
theorem a2R(g:Int × Nat × Int)(h:g.2.2≠0→g.1=0∧g.2.1=0):Gz 0 0 g=g:=by
 obtain ⟨v,n,e⟩:=g
 by_cases he:e=0
 ·simp[Gz,he]
 ·have:=h he
  simp only at this
  simp[Gz,he,this]
def LC(i:Nat):Int × Nat × Int→Int × Int × Int
 | (v,n,e)=>if e=0 then (v,(i:Int)+n,0) else (0,0,e)
theorem YD{s:List UInt8}{i:Nat}(h:i≤s.length):nx s i=LC i (BS 8 (s.drop i) true):=by
 simp only[nx,Af (show (0≤(i:Int)∧(i:Int)≤s.length) by omega),Dh]
 rfl
theorem YF{s:List UInt8}{i:Int}(h:¬ (0≤i∧i≤s.length)):nx s i=(0,0,1):=by simp only[nx,Ad h]
theorem N6(i k:Nat):((i:Int)+(k:Int)).toNat=i+k:=by omega
theorem RY{s:List UInt8}{i:Nat}(h:i<s.length):s.drop i=s.getD i 0::s.drop (i+1):=by
 rw[Jc h];simp[h]
theorem Pg{s:List UInt8}{i k u:Nat}(h1:k<8)(h2:BS 8 (s.drop i) true=Gz u k (BS (8 - k) (s.drop (i+k)) (decide (k=0)))):
  (s.length≤i+k→BS 8 (s.drop i) true=(0,0,2))∧
  (i+k<s.length→128≤(s.getD (i+k) 0).toNat→BS 8 (s.drop i) true=Gz (u+(s.getD (i+k) 0).toNat % 128 * 128 ^ k) (k+1) (BS (8 - (k+1)) (s.drop (i+(k+1))) (decide (k+1=0))))∧
  (i+k<s.length→(s.getD (i+k) 0).toNat=0→0<k→BS 8 (s.drop i) true=(0,0,3))∧
  (i+k<s.length→(s.getD (i+k) 0).toNat<128→¬ ((s.getD (i+k) 0).toNat=0∧0<k)→BS 8 (s.drop i) true=(((u+(s.getD (i+k) 0).toNat % 128 * 128 ^ k:Nat):Int),k+1,0)):=by
 have e:8 - k=(8 - (k+1))+1:=by omega
 rw[h2]
 refine ⟨fun h=>?_,fun h g=>?_,fun h g g'=>?_,fun h g g'=>?_⟩
 ·rw[Jd h,e,BS];rfl
 ·rw[e,RY h,a2Q _ _ _ _ _ _ g]
  rfl
 ·rw[e,RY h,BS,Af (by omega),Af ⟨g,by simp;omega⟩];rfl
 ·rw[e,RY h,BS,Af (by omega),Ad (by rintro ⟨a,b⟩;simp at b;exact g' ⟨a,by omega⟩)]
  simp only[Gz,Bo]
  rw[Nat.mod_eq_of_lt g,Int.natCast_add,Int.natCast_mul,Int.natCast_pow,Int.mul_comm,Nat.add_comm 1 k]
  rfl
theorem a8u(n:Nat):IntKind.u8.wrap ((BitVec.ofInt IntKind.u8.bits (IntKind.u8.wrap (n:Int)) ||| BitVec.ofInt IntKind.u8.bits 128).toNat:Int)=((n % 128+128:Nat):Int):=by
 have h:∀ x:BitVec 8,(x ||| 128#8).toNat=x.toNat % 128+128:=by decide
 have e:(BitVec.ofInt 8 ((n:Int) % 256)).toNat=n % 256:=by
  rw[BitVec.toNat_ofInt];omega
 have:=h (BitVec.ofInt 8 ((n:Int) % 256))
 rw[IntKind.wrap_u8,IntKind.wrap_u8]
 show ((BitVec.ofInt 8 ((n:Int) % 256) ||| 128#8).toNat:Int) % 256=_
 rw[this,e]
 omega
theorem a2b(c:UInt8):IntKind.u8.wrap ((BitVec.ofInt IntKind.u8.bits (c.toNat:Int) &&& ~~~BitVec.ofInt IntKind.u8.bits 128).toNat:Int)=((c.toNat % 128:Nat):Int):=by
 have h:∀ x:BitVec 8,(x &&& ~~~128#8).toNat=x.toNat % 128:=by decide
 have hc:c.toNat<256:=c.toNat_lt
 have e:(BitVec.ofInt 8 (c.toNat:Int)).toNat=c.toNat:=by
  rw[BitVec.toNat_ofInt];omega
 have:=h (BitVec.ofInt 8 (c.toNat:Int))
 rw[IntKind.wrap_u8]
 show ((BitVec.ofInt 8 (c.toNat:Int) &&& ~~~128#8).toNat:Int) % 256=_
 rw[this,e]
 omega
theorem b2h(n:Nat):(n:Int).fdiv (2 ^ (min 7 IntKind.u64.bits))=((n / 128:Nat):Int):=by
 have:(2:Int) ^ (min 7 IntKind.u64.bits)=128:=by decide
 rw[this,Int.fdiv_eq_ediv_of_nonneg _ (by omega)]
 omega
theorem a8v(u c m:Nat)(hu:u<2 ^ m)(hs:u+c * 2 ^ m<2 ^ 64):IntKind.u64.wrap ((BitVec.ofInt IntKind.u64.bits (u:Int) ||| BitVec.ofInt IntKind.u64.bits ((c * 2 ^ m:Nat):Int)).toNat:Int)=((u+c * 2 ^ m:Nat):Int):=by
 have h1:(BitVec.ofInt 64 (u:Int)).toNat=u:=by rw[BitVec.toNat_ofInt];omega
 have h2:(BitVec.ofInt 64 ((c * 2 ^ m:Nat):Int)).toNat=c * 2 ^ m:=by rw[BitVec.toNat_ofInt];omega
 rw[IntKind.wrap_u64]
 show ((BitVec.ofInt 64 (u:Int) ||| BitVec.ofInt 64 ((c * 2 ^ m:Nat):Int)).toNat:Int) % 18446744073709551616=_
 rw[BitVec.toNat_or,h1,h2]
 have:u ||| c * 2 ^ m=u+c * 2 ^ m:=by
  have:=Nat.shiftLeft_add_eq_or_of_lt hu c
  rw[Nat.shiftLeft_eq]at this
  rw[Nat.or_comm, ← this,Nat.add_comm]
 rw[this]
 omega
theorem Tx(k:Nat):2 ^ (7 * k)=128 ^ k:=by rw[Nat.pow_mul]
theorem a0q(u k:Nat)(c:UInt8)(hu:u<128 ^ k)(hk:k≤7):
  IntKind.u64.wrap ((BitVec.ofInt IntKind.u64.bits (u:Int) ||| BitVec.ofInt IntKind.u64.bits (IntKind.u64.wrap (IntKind.u64.wrap (IntKind.u8.wrap ((BitVec.ofInt IntKind.u8.bits (c.toNat:Int) &&& ~~~BitVec.ofInt IntKind.u8.bits 128).toNat:Int)) * 2 ^ min (7 * (k:Int)).toNat IntKind.u64.bits))).toNat:Int)=((u+c.toNat % 128 * 128 ^ k:Nat):Int):=by
 rw[a2b]
 have hd:c.toNat % 128<128:=by omega
 generalize c.toNat % 128=d at hd
 have e:min (7 * (k:Int)).toNat IntKind.u64.bits=7 * k:=by
  have:IntKind.u64.bits=64:=rfl
  omega
 have h2:u+d * 2 ^ (7 * k)<2 ^ 64:=by
  have h3:2 ^ (7 * k)≤2 ^ 49:=Nat.pow_le_pow_right (by omega) (by omega)
  have:=Nat.mul_le_mul (show d≤127 by omega) h3
  rw[← Tx]at hu
  omega
 have h3:((d:Int) * 2 ^ (7 * k))=((d * 2 ^ (7 * k):Nat):Int):=by rw[Int.natCast_mul,Int.natCast_pow];rfl
 have h4:IntKind.u64.wrap (d:Int)=d:=by rw[IntKind.wrap_u64];omega
 have h5:IntKind.u64.wrap ((d * 2 ^ (7 * k):Nat):Int)=((d * 2 ^ (7 * k):Nat):Int):=by rw[IntKind.wrap_u64];omega
 rw[e,h4,h3,h5, ← Tx]
 exact a8v u d (7 * k) (by rw[Tx];exact hu) h2
end
section
theorem Pv:1000000≤maxLen:=by unfold maxLen;decide
abbrev Jj(l:List UInt8):List (List AV):=l.map Bh
theorem HG{A B:Prop}(h:B)(e:A=B:=by (simp (disch:=omega) only[*, ↓Ed,Eu, ↓reduceIte,reduceCtorEq,Nat.reduceAdd,Nat.reduceEqDiff,Nat.reduceLT,Nat.reduceLeDiff,Int.reduceToNat,Int.reduceEq,Int.reduceLT,Int.reduceLE,Ap,a8u,b2h,Ax,Ao];first|done|rfl)):A:=e▸h
theorem Zz(v:Int):CP Tryz.prog 173 [.int .i64 v] (.bool (decide (0≤v∧v≤72057594037927935))):=by
 refine a5Y _ _ (by simp) ?_
 simp only[Vf];refine HG ?_
 repeat' ((first|exact tt|refine na fun b=>?_|refine nb fun b hb=>?_|refine iq ?_|(refine jq ?_ ?_<;>intro h h')|exact wZ|refine Aa ?_ ?_)<;>try refine HG ?_)
 all_goals (try simp only[Ac,Hn]at *)
 all_goals simp[*]
 all_goals omega
theorem W5(u:Nat):[[AV.int .u8 ((u % 128+128:Nat):Int)]]=Jj [UInt8.ofNat (u % 128+128)]:=by
 have:(UInt8.ofNat (u % 128+128)).toNat=u % 128+128:=by rw[UInt8.toNat_ofNat'];omega
 show [[AV.int .u8 _]]=[[AV.int .u8 (((UInt8.ofNat (u % 128+128)).toNat:Nat):Int)]]
 rw[this]
theorem W6(u:Nat)(h:u<128):[[AV.int .u8 (IntKind.u8.wrap (u:Int))]]=Jj [UInt8.ofNat u]:=by
 have:(UInt8.ofNat u).toNat=u:=by rw[UInt8.toNat_ofNat'];omega
 simp only[CX,List.map_nil,Bh,this,IntKind.wrap_u8,List.cons.injEq,AV.int.injEq,Bc,true_and]
 omega
theorem ND(v:Int):CP Tryz.prog 122 [.int .i64 v] (.str (pn v)):=by
 have hm:=Pv
 refine a5X _ _ (by simp) ?_
 simp only[Ve];refine HG ?_
 repeat' ((first|exact tt|refine Ab (Zz _) ?_|refine na fun b=>?_|refine nb fun b hb=>?_|refine iq ?_|(refine jq ?_ ?_<;>intro h h')|exact wZ|refine Aa ?_ ?_)<;>try refine HG ?_)
 ·have hv:=of_decide_eq_true h
  have hp:pn v=Ea v.toNat:=by simp only[pn,Af hv]
  have h8:=C5 v
  rw[hp]at h8 ⊢
  refine A2 (fun x:List UInt8 × Nat=>⟨lk [(3,.sl (some 5) 1 (Jj x.1)),(4,.int .u64 (x.2:Int))],lk []⟩) (fun x=>x.1++Ea x.2=Ea v.toNat∧x.1.length≤8) (fun x=>x.2) ([],v.toNat) (by simp) (An (by simp[Am,lk,IntKind.wrap_u64];omega)) ?_
  rintro ⟨out,u⟩ ⟨h1,h2⟩
  simp only at h1 h2
  refine HG ?_
  repeat' ((first|exact tt|refine na fun b=>?_|refine nb fun b hb=>?_|refine iq ?_|(refine jq ?_ ?_<;>intro h h')|exact wZ|refine Aa ?_ ?_)<;>try refine HG ?_)
  ·rw[W5, ← FI]
   rw[NP (by omega),List.append_cons]at h1
   refine AC (out++[UInt8.ofNat (u % 128+128)],u / 128) ⟨An BA,⟨h1, ?_⟩,by simp only;omega⟩
   rw[← h1]at h8
   simp only[Ao]at h8 ⊢
   omega
  ·rw[Mb (by omega)]at h1
   rw[W6 u (by omega), ← FI,h1,BytesW_map]
   refine HG ?_;try exact tt
 ·have hv:=of_decide_eq_false h
  simp only[pn,Ad hv]
theorem Zl(s:List UInt8)(at':Int)(hs:s.length≤4611686018427387904):
  CP Tryz.prog 119 [.str s,.int .i64 at'] (.tup [.int .i64 (nx s at').1,.int .i64 (nx s at').2.1,.int .i64 (nx s at').2.2]):=by
 refine a5W _ _ (by simp) ?_
 simp only[Vd];refine HG ?_
 repeat' ((first|exact tt|refine na fun b=>?_|refine nb fun b hb=>?_|refine iq ?_|(refine jq ?_ ?_<;>intro h h')|exact wZ|refine Aa ?_ ?_)<;>try refine HG ?_)
 ·simp[YF (show ¬ (0≤at'∧at'≤s.length) by omega)]
 ·simp[YF (show ¬ (0≤at'∧at'≤s.length) by omega)]
 obtain ⟨i,rfl⟩:∃ i:Nat,at'=i:=⟨at'.toNat,by omega⟩
 have hi:i≤s.length:=by omega
 rw[YD hi]
 refine A2 (fun x:Nat × Nat=>⟨lk [(0,.str s),(1,.int .i64 i),(7,.int .u64 (x.1:Int)),(18,.int .i64 x.2)],lk []⟩)
  (fun x=>x.2≤8∧x.1<128 ^ x.2∧Ac (BS 8 (s.drop i) true=Gz x.1 x.2 (BS (8 - x.2) (s.drop (i+x.2)) (decide (x.2=0))))) (fun x=>8 - x.2) (0,0)
  ⟨by omega,by simp,(a2R _ (a3P _ _ _)).symm⟩ (An (by simp[Am,lk,IntKind.wrap_u64])) ?_
 rintro ⟨u,k⟩ ⟨h1,h2,h3⟩
 simp only at h1 h2 h3
 refine HG ?_
 repeat' ((first|exact tt|refine na fun b=>?_|refine nb fun b hb=>?_|refine iq ?_|(refine jq ?_ ?_<;>intro h h')|exact wZ|refine Aa ?_ ?_)<;>try refine HG ?_)
 ·rw[(Pg (by omega) h3).1 (by omega)];simp[LC]
 ·(try rw[N6]at h);rw[N6]at h'
  have hc:=(s.getD (i+k) 0).toNat_lt
  refine AC (u+(s.getD (i+k) 0).toNat % 128 * 128 ^ k,k+1) ⟨An ?_,⟨by simp only;omega, ?_,(Pg (by omega) h3).2.1 (by omega) (by omega)⟩,by simp only;omega⟩
  ·simp only[Am,lk_cons,N6,a0q u k _ h2 (by omega)]
   simp
  ·simp only[F8]
   have:(s.getD (i+k) 0).toNat % 128 * 128 ^ k≤127 * 128 ^ k:=Dq _ (by omega)
   omega
 ·simp only[Ac,Hn,N6]at *
  rw[(Pg (by omega) h3).2.2.1 (by omega) (by omega) (by omega)];simp[LC]
 case' refine_2.refine_2.refine_2=>
  rw[h3,show 8 - k=0 by omega];simp[Gz,BS,LC]
 all_goals
  rw[a0q u k _ h2 (by omega)]
  simp only[Ac,Hn,N6]at *
  rw[(Pg (by omega) h3).2.2.2 (by omega) (by omega) (by omega)]
  have hp:128 ^ k≤128 ^ 7:=Nat.pow_le_pow_right (by omega) (by omega)
  have hq:(s.getD (i+k) 0).toNat % 128 * 128 ^ k≤127 * 128 ^ k:=Dq _ (by omega)
  generalize (s.getD (i+k) 0).toNat % 128 * 128 ^ k=z at *
  rw[Ap (by omega)]
  simp[LC]
  try omega
end
section
theorem b3N(c:UInt8):IntKind.i64.wrap (c.toNat:Int)=c.toNat:=Ap (by have:=c.toNat_lt;omega)
theorem b3t(u:Nat):(u:Int).tmod 128=((u % 128:Nat):Int):=rfl
theorem b3r(u:Nat):(u:Int).tdiv 128=((u / 128:Nat):Int):=rfl
theorem a3p(u:Nat):[[AV.int .u8 (IntKind.u8.wrap (((u % 128:Nat):Int)+128))]]=Jj [UInt8.ofNat (u % 128+128)]:=by
 rw[← W5,IntKind.wrap_u8]
 simp only[List.cons.injEq,AV.int.injEq,Bc,true_and]
 omega
theorem N2{A B:Prop}(h:B)(e:A=B:=by (simp (disch:=omega) only[*, ↓Ed,Eu, ↓reduceIte,reduceCtorEq,Nat.reduceAdd,Nat.reduceEqDiff,Nat.reduceLT,Nat.reduceLeDiff,Int.reduceToNat,Int.reduceEq,Int.reduceLT,Int.reduceLE,Ap,b3t,b3r,b3N,Ax,Ao];first|done|rfl)):A:=e▸h
theorem Tf(v:Int):CP Tryz.prog 128 [.int .i64 v] (.str (pn v)):=by
 have hm:=Pv
 refine a6K _ _ (by simp) ?_
 simp only[VE];refine N2 ?_
 repeat' ((first|exact tt|refine na fun b=>?_|refine nb fun b hb=>?_|refine iq ?_|(refine jq ?_ ?_<;>intro h h')|exact wZ|refine Aa ?_ ?_)<;>try refine N2 ?_)
 ·simp[pn];omega
 ·simp[pn];omega
 obtain ⟨n,rfl⟩:∃ n:Nat,v=n:=⟨v.toNat,by omega⟩
 have hp:pn n=Ea n:=by simp only[pn,Af (show (0≤(n:Int)∧(n:Int)≤72057594037927935) by omega),Dh]
 have h8:=C5 n
 rw[hp]at h8 ⊢
 refine A2 (fun x:List UInt8 × Nat=>⟨lk [(0,.int .i64 (x.2:Int)),(3,.sl (some 5) 1 (Jj x.1))],lk []⟩) (fun x=>Ac (x.1++Ea x.2=Ea n)∧x.1.length≤8∧x.2≤72057594037927935) (fun x=>x.2) ([],n) (by simp[Ac];omega) (An BA) ?_
 rintro ⟨out,u⟩ ⟨h1,h2,h3⟩
 simp only at h1 h2 h3
 refine N2 ?_
 repeat' ((first|exact tt|refine na fun b=>?_|refine nb fun b hb=>?_|refine iq ?_|(refine jq ?_ ?_<;>intro h h')|exact wZ|refine Aa ?_ ?_)<;>try refine N2 ?_)
 ·rw[a3p, ← FI]
  rw[NP (by omega),List.append_cons]at h1
  refine AC (out++[UInt8.ofNat (u % 128+128)],u / 128) ⟨An BA,⟨h1, ?_,by simp only;omega⟩,by simp only;omega⟩
  rw[← show _=Ea n from h1]at h8
  simp only[Ao]at h8 ⊢
  omega
 ·rw[Mb (by omega)]at h1
  rw[W6 u (by omega), ← FI,show _=Ea n from h1,BytesW_map]
  refine N2 ?_;try exact tt
end
section
def EQ(s:List UInt8)(least most:Int)(x:Int × Int):Int × Int × Int:=
 if x.2≠0 then (0,x.1,x.2) else if (nx s x.1).2.2≠0 then (0,x.1,(nx s x.1).2.2)
 else if (nx s x.1).1<least∨most<(nx s x.1).1 then (0,x.1,1) else ((nx s x.1).1,(nx s x.1).2.1,0)
def GP(s:List UInt8)(most:Int)(x:Int × Int):List UInt8 × Int × Int:=
 if x.2≠0 then ([],x.1,x.2) else if (nx s x.1).2.2≠0 then ([],x.1,(nx s x.1).2.2)
 else if most<(nx s x.1).1 then ([],x.1,4) else if (s.length:Int) - (nx s x.1).2.1<(nx s x.1).1 then ([],x.1,2)
 else ((s.take ((nx s x.1).2.1+(nx s x.1).1).toNat).drop (nx s x.1).2.1.toNat,(nx s x.1).2.1+(nx s x.1).1,0)
def rend(s:List UInt8)(x:Int × Int):Int:=if x.2=0∧x.1<s.length then 3 else x.2
theorem YE(s:List UInt8)(n:Int):0≤(nx s n).1∧(nx s n).1<72057594037927936∧0≤(nx s n).2.1∧(nx s n).2.1≤s.length:=by
 unfold nx
 split
 ·have hb:=XC 8 (s.drop n.toNat) true
  generalize BS 8 (s.drop n.toNat) true=g at hb
  obtain ⟨v,k,e⟩:=g
  simp only[Cc]at hb ⊢
  split
  ·simp only;omega
  ·simp only;omega
 ·simp only;omega
theorem YC(s:List UInt8)(n:Int)(h:(nx s n).2.2≠0):(nx s n).1=0∧(nx s n).2.1=0:=by
 unfold nx at h ⊢
 split
 ·rename_i hn
  rw[Af hn]at h
  generalize BS 8 (s.drop n.toNat) true=g at h ⊢
  obtain ⟨v,k,e⟩:=g
  simp only at h ⊢
  split
  ·rename_i he;rw[Af he]at h;simp at h
  ·simp
 ·simp
theorem Z5(s:List UInt8)(least most:Int)(x:Int × Int)(h:0≤x.1∧x.1≤s.length):0≤(EQ s least most x).2.1∧(EQ s least most x).2.1≤s.length:=by
 have:=YE s x.1
 unfold EQ
 split
 ·exact h
 split
 ·exact h
 split
 ·exact h
 ·simp only;omega
end
section
abbrev rd(s:List UInt8)(n:Int)(bad:Int):List AV:=[.str s,.int .i64 n,.int .i64 bad]
theorem C9{A B:Prop}(h:B)(e:A=B:=by (simp (disch:=omega) only[*, ↓Ed,Eu, ↓reduceIte,reduceCtorEq,Nat.reduceAdd,Nat.reduceEqDiff,Nat.reduceLT,Nat.reduceLeDiff,Int.reduceToNat,Int.reduceEq,Int.reduceLT,Int.reduceLE,Ap,Ax];first|done|rfl)):A:=e▸h
theorem a8T(s:List UInt8):CT Tryz.prog 114 [.str s] (fun _=>none) (fun r o=>∃ b,r=.ptr b 0∧o=lk [(b,rd s 0 0)]):=by
 refine a8i _ _ _ (by simp) ?_
 rw[show (fun _=>none:Nat→Option (List AV))=lk [] from rfl]
 simp only[Wp];refine C9 ?_
 repeat' ((first|exact tt|refine na fun b=>?_|refine nb fun b hb=>?_|refine iq ?_|(refine jq ?_ ?_<;>intro h h')|exact wZ|refine Aa ?_ ?_)<;>try refine C9 ?_)
 exact TD (b:=b) Mc
def Gb(bad e:Int):Int:=if bad=0 then e else bad
theorem Tl(b:Nat)(s:List UInt8)(n bad e:Int):CT Tryz.prog 172 [.ptr b 0,.int .i64 e] (lk [(b,rd s n bad)]) (fun r o=>r=.tup []∧o=lk [(b,rd s n (Gb bad e))]):=by
 refine a8m _ _ _ (by simp) ?_
 simp only[Wu];refine C9 ?_
 repeat' ((first|exact tt|refine na fun b=>?_|refine nb fun b hb=>?_|refine iq ?_|(refine jq ?_ ?_<;>intro h h')|exact wZ|refine Aa ?_ ?_)<;>try refine C9 ?_)
 all_goals simp only[Ac,Hn]at h
 all_goals exact AG (by simp[Am,lk,r_nil,Gb,h]) GA
theorem a8G(b:Nat)(s:List UInt8)(n bad:Int):CT Tryz.prog 117 [.ptr b 0] (lk [(b,rd s n bad)]) (fun r o=>r=.int .i64 (if bad=0∧n<s.length then 3 else bad)∧o=lk [(b,rd s n bad)]):=by
 refine a8j _ _ _ (by simp) ?_
 simp only[Wq];refine C9 ?_
 repeat' ((first|exact tt|refine na fun b=>?_|refine nb fun b hb=>?_|refine iq ?_|(refine jq ?_ ?_<;>intro h h')|exact wZ|refine Aa ?_ ?_)<;>try refine C9 ?_)
 all_goals simp only[Ac,Hn]at *
 all_goals exact AG KI GA
def FV(s:List UInt8)(n bad:Int):Int × Int × Int:=
 if bad=0 then (nx s n) else (0,n,bad)
theorem ZA(b:Nat)(s:List UInt8)(n bad:Int)(hs:s.length≤4611686018427387904):
  CT Tryz.prog 171 [.ptr b 0] (lk [(b,rd s n bad)]) (fun r o=>r=.tup [.int .i64 (FV s n bad).1,.int .i64 (FV s n bad).2.1]∧o=lk [(b,rd s n (FV s n bad).2.2)]):=by
 refine a8n _ _ _ (by simp) ?_
 simp only[Wv];refine C9 ?_
 repeat' ((first|exact tt|(refine Ag (Zl _ _ hs) ?_;simp (disch:=omega) only[*, ↓Ed,Eu, ↓reduceIte,reduceCtorEq,Nat.reduceAdd,Nat.reduceEqDiff,Nat.reduceLT,Nat.reduceLeDiff,Int.reduceToNat,Int.reduceEq,Int.reduceLT,Int.reduceLE,Ap,Ax])|refine c1 (Tl _ _ _ _ _) ?_|refine na fun b=>?_|refine nb fun b hb=>?_|refine iq ?_|(refine jq ?_ ?_<;>intro h h')|exact wZ|refine Aa ?_ ?_)<;>try refine C9 ?_)
 all_goals simp only[Ac,Hn]at h
 all_goals exact AG (by simp[Am,lk,r_two,HC,Br,AV.alias,FV,Gb,h]) GA
theorem a8S:CT Tryz.prog 186 [] (fun _=>none) (fun r o=>∃ b,r=.ptr b 0∧o=lk [(b,[.nils 5 1,.bool false])]):=by
 refine a8h _ _ _ (by simp) ?_
 rw[show (fun _=>none:Nat→Option (List AV))=lk [] from rfl]
 simp only[Wo];refine C9 ?_
 repeat' ((first|exact tt|refine na fun b=>?_|refine nb fun b hb=>?_|refine iq ?_|(refine jq ?_ ?_<;>intro h h')|exact wZ|refine Aa ?_ ?_)<;>try refine C9 ?_)
 all_goals exact TD (b:=b) Mc

abbrev Ev(out:List UInt8)(bad:Bool):List AV:=[.sl (some 5) 1 (Jj out),.bool bad]
theorem ZC(b:Nat)(out s:List UInt8)(bad:Bool)(hl:out.length+s.length≤1000000):
  CT Tryz.prog 219 [.ptr b 0,.str s] (lk [(b,Ev out bad)]) (fun r o=>r=.tup []∧o=lk [(b,Ev (if bad then out else out++s) bad)]):=by
 have hm:=Pv
 refine YX _ _ _ (by simp) ?_
 simp only[RF];refine C9 ?_
 repeat' ((first|exact tt|refine na fun b=>?_|refine nb fun b hb=>?_|refine iq ?_|(refine jq ?_ ?_<;>intro h h')|exact wZ|refine Aa ?_ ?_)<;>try refine C9 ?_)
 all_goals simp only[Ac,Hn]at h
 all_goals exact AG (by simp[Am,lk,r_nil,Jj,Ev,h]) GA
abbrev Ub(bad:Bool):List AV:=[.nils 5 1,.bool bad]
theorem a9S(b:Nat)(s:List UInt8)(hl:s.length≤1000000):
  CT Tryz.prog 219 [.ptr b 0,.str s] (lk [(b,Ub false)]) (fun r o=>r=.tup []∧o=lk [(b,Ev s false)]):=by
 have hm:=Pv
 refine YX _ _ _ (by simp) ?_
 simp only[RF];refine C9 ?_
 repeat' ((first|exact tt|refine na fun b=>?_|refine nb fun b hb=>?_|refine iq ?_|(refine jq ?_ ?_<;>intro h h')|exact wZ|refine Aa ?_ ?_)<;>try refine C9 ?_)
 all_goals exact AG (by simp[Am,lk,r_nil,Jj,Ev]) GA
theorem a8z(b:Nat)(out:List UInt8)(bad:Bool):CT Tryz.prog 190 [.ptr b 0] (lk [(b,Ev out bad)])
  (fun r o=>r=.tup [.str (if bad then [] else out),.int .i64 (if bad then 1 else 0)]∧o=lk [(b,Ev out bad)]):=by
 refine a8p _ _ _ (by simp) ?_
 simp only[Wx];refine C9 ?_
 repeat' ((first|exact tt|refine na fun b=>?_|refine nb fun b hb=>?_|refine iq ?_|(refine jq ?_ ?_<;>intro h h')|exact wZ|refine Aa ?_ ?_)<;>try refine C9 ?_)
 all_goals simp only[Ac,Hn]at h
 all_goals exact AG (by simp[Am,lk,r_two,HC,Br,AV.alias,h]) GA
theorem Zn(b:Nat)(out:List UInt8)(bad:Bool)(v:Int)(hl:out.length≤900000):
  CT Tryz.prog 187 [.ptr b 0,.int .i64 v] (lk [(b,Ev out bad)])
   (fun r o=>r=.tup []∧o=lk [(b,Ev (if bad||decide (pn v=[]) then out else out++pn v) (bad||decide (pn v=[])))]):=by
 have h8:=C5 v
 refine YW _ _ _ (by simp) ?_
 simp only[RE];refine C9 ?_
 repeat' ((first|exact tt|refine Ab (ND _) ?_|refine c1 (ZC _ out (pn v) _ (by omega)) ?_|refine na fun b=>?_|refine nb fun b hb=>?_|refine iq ?_|(refine jq ?_ ?_<;>intro h h')|exact wZ|refine Aa ?_ ?_)<;>try refine C9 ?_)
 all_goals simp only[Ac,Hn]at h
 all_goals exact AG (by simp[Am,lk,r_nil,Ev,h]) GA
def MK(v:Int)(w:List UInt8 × Bool):List UInt8 × Bool:=(if w.2||decide (pn v=[]) then w.1 else w.1++pn v,w.2||decide (pn v=[]))
def QG(s:List UInt8)(w:List UInt8 × Bool):List UInt8 × Bool:=
 let w1:=MK s.length w
 (if w1.2 then w1.1 else w1.1++s,w1.2)
theorem a9c(b:Nat)(out s:List UInt8)(bad:Bool)(hl:out.length≤500000)(hs:s.length≤400000):
  CT Tryz.prog 189 [.ptr b 0,.str s] (lk [(b,Ev out bad)])
   (fun r o=>r=.tup []∧o=lk [(b,Ev (QG s (out,bad)).1 (QG s (out,bad)).2)]):=by
 have h8:=C5 s.length
 have hw:(MK s.length (out,bad)).1.length≤600000:=by
  simp only[MK]
  split
  ·omega
  ·simp only[Ao];omega
 refine a8q _ _ _ (by simp) ?_
 simp only[Wy];refine C9 ?_
 repeat' ((first|exact tt|refine c1 (Zn _ out bad _ (by omega)) ?_|refine c1 (ZC _ (MK s.length (out,bad)).1 s _ (by omega)) ?_|refine na fun b=>?_|refine nb fun b hb=>?_|refine iq ?_|(refine jq ?_ ?_<;>intro h h')|exact wZ|refine Aa ?_ ?_)<;>try refine C9 ?_)
 all_goals exact AG (by simp[Am,lk,r_nil,Ev,QG,MK]) GA

def I9(s:List UInt8)(n bad least most below above:Int):Int × Int × Int:=
 let v:=FV s n bad
 let b2:=if v.1<least then Gb v.2.2 below else v.2.2
 let b3:=if most<v.1 then Gb b2 above else b2
 if b3=0 then (v.1,v.2.1,0) else (0,n,b3)
theorem b0i(b:Nat)(s:List UInt8)(n bad least most below above:Int)(hs:s.length≤4611686018427387904):
  CT Tryz.prog 170 [.ptr b 0,.int .i64 least,.int .i64 most,.int .i64 below,.int .i64 above] (lk [(b,rd s n bad)])
   (fun r o=>r=.int .i64 (I9 s n bad least most below above).1∧o=lk [(b,rd s (I9 s n bad least most below above).2.1 (I9 s n bad least most below above).2.2)]):=by
 refine a8o _ _ _ (by simp) ?_
 simp only[Ww];refine C9 ?_
 repeat' ((first|exact tt|refine c1 (ZA _ _ _ _ hs) ?_|refine c1 (Tl _ _ _ _ _) ?_|refine na fun b=>?_|refine nb fun b hb=>?_|refine iq ?_|(refine jq ?_ ?_<;>intro h h')|exact wZ|refine Aa ?_ ?_)<;>try refine C9 ?_)
 all_goals simp only[Ac,Hn]at *
 all_goals exact AG (by simp[Am,lk,BR,Br,rd,I9, *]) GA
theorem a8W(b:Nat)(s:List UInt8)(n bad least most:Int)(hs:s.length≤4611686018427387904):
  CT Tryz.prog 115 [.ptr b 0,.int .i64 least,.int .i64 most] (lk [(b,rd s n bad)])
   (fun r o=>r=.int .i64 (I9 s n bad least most 1 1).1∧o=lk [(b,rd s (I9 s n bad least most 1 1).2.1 (I9 s n bad least most 1 1).2.2)]):=by
 refine a8k _ _ _ (by simp) ?_
 simp only[Ws];refine C9 ?_
 repeat' ((first|exact tt|refine c1 (b0i _ _ _ _ _ _ _ _ hs) ?_|refine na fun b=>?_|refine nb fun b hb=>?_|refine iq ?_|(refine jq ?_ ?_<;>intro h h')|exact wZ|refine Aa ?_ ?_)<;>try refine C9 ?_)
 all_goals exact AG (by simp[Am,lk,BR,Br,rd]) GA
def Mj(s:List UInt8)(n bad most:Int):List UInt8 × Int × Int:=
 let v:=FV s n bad
 let b2:=if most<v.1 then Gb v.2.2 4 else v.2.2
 let b3:=if (s.length:Int) - v.2.1<v.1 then Gb b2 2 else b2
 if b3=0 then ((s.take (v.2.1+v.1).toNat).drop v.2.1.toNat,v.2.1+v.1,0) else ([],n,b3)
theorem a5y(s:List UInt8)(n bad:Int)(hn:0≤n∧n≤s.length):0≤(FV s n bad).1∧(FV s n bad).1<72057594037927936∧0≤(FV s n bad).2.1∧(FV s n bad).2.1≤s.length:=by
 unfold FV
 split
 ·exact YE s n
 ·simp only;omega
theorem Xi(b:Int):(Gb b 2=0)=False:=by simp only[Gb,eq_iff_iff,iff_false];split<;>omega
theorem a8X(b:Nat)(s:List UInt8)(n bad most:Int)(hs:s.length≤281474976710656)(hn:0≤n∧n≤s.length):
  CT Tryz.prog 116 [.ptr b 0,.int .i64 most] (lk [(b,rd s n bad)])
   (fun r o=>r=.str (Mj s n bad most).1∧o=lk [(b,rd s (Mj s n bad most).2.1 (Mj s n bad most).2.2)]):=by
 have hv:=a5y s n bad hn
 have hr:Mj s n bad most=(let v:=FV s n bad
  let b2:=if most<v.1 then Gb v.2.2 4 else v.2.2
  let b3:=if (s.length:Int) - v.2.1<v.1 then Gb b2 2 else b2
  if b3=0 then ((s.take (v.2.1+v.1).toNat).drop v.2.1.toNat,v.2.1+v.1,0) else ([],n,b3)):=rfl
 rw[hr]
 refine a8l _ _ _ (by simp) ?_
 simp only[Wt];refine C9 ?_
 repeat' ((first|exact tt|refine c1 (ZA _ s _ _ (by omega)) ?_|refine c1 (Tl _ _ _ _ _) ?_|refine Ag (Td _ (by simp;omega)) ?_|(simp[Ac,Xi]at h;done)|refine na fun b=>?_|refine nb fun b hb=>?_|refine iq ?_|(refine jq ?_ ?_<;>intro h h')|exact wZ|refine Aa ?_ ?_)<;>try refine C9 ?_)
 all_goals exact AG (by simp only[Ac,Hn]at *;simp[Am,lk,BR,Br,rd,Xi, *]) GA
theorem b3T(s:List UInt8)(n bad least most:Int)(hl:least≤0∧0≤most):I9 s n bad least most 1 1=EQ s least most (n,bad):=by
 have hb:=YC s n
 simp only[I9,FV,Gb,EQ]
 by_cases h1:bad=0
 ·by_cases h2:(nx s n).2.2=0
  ·by_cases h3:(nx s n).1<least<;>by_cases h4:most<(nx s n).1<;>simp[h1,h2,h3,h4]
  ·have h5:=(hb h2).1
   simp[h1,h2,h5,show ¬ (0<least) by omega,show ¬ (most<0) by omega]
 ·simp[h1,show ¬ (0<least) by omega,show ¬ (most<0) by omega]
theorem b3s(s:List UInt8)(n bad most:Int)(hl:0≤most)(hn:0≤n∧n≤s.length):Mj s n bad most=GP s most (n,bad):=by
 have hb:=YC s n
 simp only[Mj,FV,Gb,GP]
 by_cases h1:bad=0
 ·by_cases h2:(nx s n).2.2=0
  ·by_cases h3:most<(nx s n).1<;>by_cases h4:(s.length:Int) - (nx s n).2.1<(nx s n).1<;>simp[h1,h2,h3,h4]
  ·have h5:=hb h2
   simp[h1,h2,h5,show ¬ (most<0) by omega]
 ·simp[h1,show ¬ (most<0) by omega,show ¬ ((s.length:Int) - n<0) by omega]
theorem b0A(b:Nat)(s:List UInt8)(n bad least most:Int)(hs:s.length≤281474976710656)(hl:least≤0∧0≤most):
  CT Tryz.prog 115 [.ptr b 0,.int .i64 least,.int .i64 most] (lk [(b,rd s n bad)])
   (fun r o=>r=.int .i64 (EQ s least most (n,bad)).1∧o=lk [(b,rd s (EQ s least most (n,bad)).2.1 (EQ s least most (n,bad)).2.2)]):=by
 rw[← b3T s n bad least most hl]
 exact a8W b s n bad least most (by omega)
theorem b0B(b:Nat)(s:List UInt8)(n bad most:Int)(hs:s.length≤281474976710656)(hl:0≤most)(hn:0≤n∧n≤s.length):
  CT Tryz.prog 116 [.ptr b 0,.int .i64 most] (lk [(b,rd s n bad)])
   (fun r o=>r=.str (GP s most (n,bad)).1∧o=lk [(b,rd s (GP s most (n,bad)).2.1 (GP s most (n,bad)).2.2)]):=by
 rw[← b3s s n bad most hl hn]
 exact a8X b s n bad most hs hn
end
section
theorem a0V{A B:Prop}(h:B)(e:A=B:=by (simp (disch:=omega) only[*, ↓Ed,Eu, ↓reduceIte,reduceCtorEq,Nat.reduceAdd,Nat.reduceEqDiff,Nat.reduceLT,Nat.reduceLeDiff,Int.reduceToNat,Int.reduceEq,Int.reduceLT,Int.reduceLE,Ap];first|done|rfl)):A:=e▸h
theorem a8V(s:List UInt8)(hs:s.length≤281474976710656):CP Tryz.prog 194 [.str s] (.str (pn s.length++s)):=by
 have h8:=C5 s.length
 refine a6L _ _ (by simp) ?_
 simp only[VF];refine a0V ?_
 repeat' ((first|exact tt|refine Ab (Tf _) ?_|refine na fun b=>?_|refine nb fun b hb=>?_|refine iq ?_|(refine jq ?_ ?_<;>intro h h')|exact wZ|refine Aa ?_ ?_)<;>try refine a0V ?_)
end
section
structure Es where
 p:List UInt8
 c:Int
 o:Bool
 cl:Bool
 st:Int
abbrev Es.cs(x:Es):List AV:=[.str x.p,.int .i64 x.c,.bool x.o,.bool x.cl,.int .i64 x.st]
noncomputable def Es.may (x:Es):Bool:=Ba x.p x.c&&(if x.cl&&x.o then decide (1≤x.st)&&decide (x.st≤1099511627777) else decide (x.st=0))
def B1(b:Bool):Int:=if b then 1 else 0
def Es.enc(x:Es):List UInt8:=pn (B1 x.cl)++pn (B1 x.o)++(pn x.p.length++x.p)++pn x.c++pn x.st
noncomputable def Cd (x:Es):List UInt8 × Int:=if x.may then (x.enc,0) else ([],1)
def Es.zero:Es:=⟨[],0,false,false,0⟩
def Ls(v:List UInt8):=EQ v 0 1 (0,0)
def Lw(v:List UInt8):=EQ v 0 1 (Ls v).2
def Kl(v:List UInt8):=GP v 12 (Lw v).2
def Lr(v:List UInt8):=EQ v 0 999 (Kl v).2
def dst(v:List UInt8):=EQ v 0 1099511627777 (Lr v).2
def Es.of(v:List UInt8):Es:=⟨(Kl v).1,(Lr v).1,decide ((Lw v).1=1),decide ((Ls v).1=1),(dst v).1⟩
noncomputable def C1 (v:List UInt8):Es × Int:=
 if rend v (dst v).2≠0 then (Es.zero,rend v (dst v).2) else if (Es.of v).may then (Es.of v,0) else (Es.zero,1)
end
section
theorem XD:∀ (f v:Nat) (r:List UInt8) (b:Bool),v<128 ^ (f+1)→(b=true∨0<v)→BS (f+1) (Ea v++r) b=((v:Int),(Ea v).length,0)
 | f,v,r,b,hv,hb=>by
  by_cases hl:v<128
  ·have e:(UInt8.ofNat v).toNat=v:=by rw[UInt8.toNat_ofNat'];omega
   rw[Mb hl,Bi,BS,e,Af hl,Ad (by rintro ⟨h1,h2⟩;subst h2;simp at hb;omega)]
   simp
  ·have e:(UInt8.ofNat (v % 128+128)).toNat=v % 128+128:=by rw[UInt8.toNat_ofNat'];omega
   cases f with
   | zero=>simp at hv;omega
   | succ f=>
    rw[NP (by omega),Bi,BS,e,Ad (by omega),XD f (v / 128) r false (by rw[F8]at hv;omega) (.inr (by omega))]
    simp
    omega
theorem PF(a r:List UInt8)(v:Int)(h:0≤v∧v≤72057594037927935):nx (a++(pn v++r)) a.length=(v,((a++pn v).length:Int),0):=by
 rw[YD (by simp)]
 have:pn v=Ea v.toNat:=by simp only[pn,Af h]
 rw[List.drop_left,this,XD 7 v.toNat r true (by omega) (.inl rfl)]
 simp[LC];omega
theorem P6(a r:List UInt8)(v least most:Int)(h:0≤v∧v≤72057594037927935)(g:least≤v∧v≤most):EQ (a++(pn v++r)) least most ((a.length:Int),0)=(v,((a++pn v).length:Int),0):=by
 simp only[EQ,PF a r v h,ne_eq,not_true_eq_false,BV]
 rw[Ad (by omega)]
theorem b0P(a t r:List UInt8)(most:Int)(h:t.length≤100000)(g:(t.length:Int)≤most):GP (a++((pn t.length++t)++r)) most ((a.length:Int),0)=(t,((a++(pn t.length++t)).length:Int),0):=by
 have e:a++((pn t.length++t)++r)=a++(pn t.length++(t++r)):=by simp
 have hn:=PF a (t++r) t.length ⟨by omega,by omega⟩
 simp only[GP,e,hn,ne_eq,not_true_eq_false,BV]
 rw[Ad (by omega),Ad (by simp;omega)]
 refine Prod.ext ?_ (Prod.ext ?_ rfl)
 ·simp only
  have e1:(((a++pn t.length).length:Int)+t.length).toNat=(a++pn t.length).length+t.length:=by omega
  have e2:(((a++pn t.length).length:Int)).toNat=(a++pn t.length).length:=by omega
  rw[e1,e2, ← DC,List.take_append,B0 (by omega)]
  rw[List.drop_left]
  simp
 ·simp;omega
theorem a2B(b:Bool):decide (B1 b=1)=b:=by cases b<;>simp[B1]
theorem UJ(b:Bool):0≤B1 b∧B1 b≤1:=by cases b<;>decide
theorem SH{x:Es}(h:x.may=true):x.p.length≤12∧0≤x.c∧x.c≤999∧0≤x.st∧x.st≤1099511627777:=by
 simp only[Es.may,Ba,AP,Bs]at h
 obtain ⟨⟨⟨h1,h2⟩,h3⟩,h4⟩:=h
 refine ⟨(Yv.1 h1).2.1,h2,h3, ?_⟩
 split at h4
 ·simp only[AP,Bs]at h4;omega
 ·simp only[Bs]at h4;omega
theorem a2W{x:Es}(h:x.may=true)(r:List UInt8):Es.of (x.enc++r)=x∧(dst (x.enc++r)).2=((x.enc.length:Int),0):=by
 have hi:=SH h
 have b1:=UJ x.cl
 have b2:=UJ x.o
 let a1:=pn (B1 x.cl)
 let a2:=a1++pn (B1 x.o)
 let a3:=a2++(pn x.p.length++x.p)
 let a4:=a3++pn x.c
 have e0:x.enc++r=[]++(pn (B1 x.cl)++(pn (B1 x.o)++(pn x.p.length++x.p)++pn x.c++pn x.st++r)):=by simp[Es.enc]
 have e1:x.enc++r=a1++(pn (B1 x.o)++((pn x.p.length++x.p)++pn x.c++pn x.st++r)):=by simp[Es.enc,a1]
 have e2:x.enc++r=a2++((pn x.p.length++x.p)++(pn x.c++pn x.st++r)):=by simp[Es.enc,a1,a2]
 have e3:x.enc++r=a3++(pn x.c++(pn x.st++r)):=by simp[Es.enc,a1,a2,a3]
 have e4:x.enc++r=a4++(pn x.st++r):=by simp[Es.enc,a1,a2,a3,a4]
 have d1:Ls (x.enc++r)=(B1 x.cl,(a1.length:Int),0):=by
  have:=P6 [] (pn (B1 x.o)++(pn x.p.length++x.p)++pn x.c++pn x.st++r) (B1 x.cl) 0 1 (by omega) (by omega)
  rw[← e0]at this
  exact this
 have d2:Lw (x.enc++r)=(B1 x.o,(a2.length:Int),0):=by
  have:=P6 a1 ((pn x.p.length++x.p)++pn x.c++pn x.st++r) (B1 x.o) 0 1 (by omega) (by omega)
  rw[← e1]at this
  rw[Lw,d1];exact this
 have d3:Kl (x.enc++r)=(x.p,(a3.length:Int),0):=by
  have:=b0P a2 x.p (pn x.c++pn x.st++r) 12 (by omega) (by omega)
  rw[← e2]at this
  rw[Kl,d2];exact this
 have d4:Lr (x.enc++r)=(x.c,(a4.length:Int),0):=by
  have:=P6 a3 (pn x.st++r) x.c 0 999 (by omega) (by omega)
  rw[← e3]at this
  rw[Lr,d3];exact this
 have d5:dst (x.enc++r)=(x.st,(x.enc.length:Int),0):=by
  have:=P6 a4 r x.st 0 1099511627777 (by omega) (by omega)
  rw[← e4]at this
  rw[dst,d4];exact this
 refine ⟨?_,by rw[d5]⟩
 rw[Es.of,d1,d2,d3,d4,d5]
 simp only[a2B]
theorem a2V{x:Es}(h:x.may=true):C1 x.enc=(x,0):=by
 have:=a2W h []
 rw[Jb]at this
 simp only[C1,this.2,this.1,rend,h]
 simp
theorem R0{x:Es}(h:x.may=true):x.enc.length≤64:=by
 have h1:=C5 (B1 x.cl);have h2:=C5 (B1 x.o);have h3:=C5 x.p.length;have h4:=C5 x.c;have h5:=C5 x.st
 have:=SH h
 simp[Es.enc];omega
end
section
theorem FD{A B:Prop}(h:B)(e:A=B:=by (simp (disch:=omega) only[*, ↓Ed,Eu, ↓reduceIte,reduceCtorEq,Nat.reduceAdd,Nat.reduceEqDiff,Nat.reduceLT,Nat.reduceLeDiff,Int.reduceToNat,Int.reduceEq,Int.reduceLT,Int.reduceLE,Ap,Ax,Ao];first|done|rfl)):A:=e▸h
theorem a9h(b:Bool):CP Tryz.prog 188 [.bool b] (.int .i64 (B1 b)):=by
 refine a5O _ _ (by simp) ?_
 simp only[U3];refine FD ?_
 repeat' ((first|exact tt|refine na fun b=>?_|refine nb fun b hb=>?_|refine iq ?_|(refine jq ?_ ?_<;>intro h h')|exact wZ|refine Aa ?_ ?_)<;>try refine FD ?_)
 all_goals (try simp only[Ac,Hn]at *)
 all_goals simp[B1, *]
theorem a9Q(b:Bool):CP Tryz.prog 193 [.bool b] (.int .i64 (B1 b)):=by
 refine a6x _ _ (by simp) ?_
 simp only[Vt];refine FD ?_
 repeat' ((first|exact tt|refine na fun b=>?_|refine nb fun b hb=>?_|refine iq ?_|(refine jq ?_ ?_<;>intro h h')|exact wZ|refine Aa ?_ ?_)<;>try refine FD ?_)
 all_goals (try simp only[Ac,Hn]at *)
 all_goals simp[B1, *]
theorem Tj(n:Int):CP Tryz.prog 121 [.int .i64 n] (.bool (decide (1≤n)&&decide (n≤1099511627777))):=by
 refine a5P _ _ (by simp) ?_
 simp only[U4];refine FD ?_
 repeat' ((first|exact tt|refine na fun b=>?_|refine nb fun b hb=>?_|refine iq ?_|(refine jq ?_ ?_<;>intro h h')|exact wZ|refine Aa ?_ ?_)<;>try refine FD ?_)
 all_goals (try simp only[Ac,Hn]at *)
 all_goals simp[*]
theorem Tk(x:Es)(hs:x.p.length≤4611686018427387904):CP Tryz.prog 118 [.agg x.cs] (.bool x.may):=by
 refine a5N _ _ (by simp) ?_
 simp only[U1,Es.cs, ↓Ed,Eu, ↓reduceIte,reduceCtorEq,Nat.reduceAdd,Nat.reduceEqDiff,Nat.reduceLT,Nat.reduceLeDiff,Int.reduceToNat,Int.reduceEq,Int.reduceLT,Int.reduceLE,Ap,Ax,Ao]
 repeat' ((first|exact tt|refine Ab (KD _ _ hs) ?_|refine Ab (Tj _) ?_|refine na fun b=>?_|refine nb fun b hb=>?_|refine iq ?_|(refine jq ?_ ?_<;>intro h h')|exact wZ|refine Aa ?_ ?_)<;>try refine FD ?_)
 all_goals (try simp only[Ac,Hn]at *)
 all_goals simp[Es.may, *]
theorem a8Q(x:Es)(hs:x.p.length≤4611686018427387904):CP Tryz.prog 178 [.agg x.cs] (.bool x.may):=by
 refine a6s _ _ (by simp) ?_
 simp only[Vq,Es.cs, ↓Ed,Eu, ↓reduceIte,reduceCtorEq,Nat.reduceAdd,Nat.reduceEqDiff,Nat.reduceLT,Nat.reduceLeDiff,Int.reduceToNat,Int.reduceEq,Int.reduceLT,Int.reduceLE,Ap,Ax,Ao]
 repeat' ((first|exact tt|refine Ab (KC _ _ hs) ?_|refine na fun b=>?_|refine nb fun b hb=>?_|refine iq ?_|(refine jq ?_ ?_<;>intro h h')|exact wZ|refine Aa ?_ ?_)<;>try refine FD ?_)
 all_goals (try simp only[Ac,Hn]at *)
 all_goals simp[Es.may, *]
theorem a8F(x:Es)(hs:x.p.length≤100000):CP Tryz.prog 151 [.agg x.cs] (.tup [.str (Cd x).1,.int .i64 (Cd x).2]):=by
 have h1:=C5 (B1 x.cl);have h2:=C5 (B1 x.o);have h3:=C5 x.p.length;have h4:=C5 x.c;have h5:=C5 x.st
 refine a6o _ _ (by simp) ?_
 simp only[Vn,Es.cs, ↓Ed,Eu, ↓reduceIte,reduceCtorEq,Nat.reduceAdd,Nat.reduceEqDiff,Nat.reduceLT,Nat.reduceLeDiff,Int.reduceToNat,Int.reduceEq,Int.reduceLT,Int.reduceLE,Ap,Ax,Ao]
 repeat' ((first|exact tt|refine Ab (a8Q x (by omega)) ?_|refine Ag (a9Q _) ?_|refine Ag (Tf _) ?_|refine Ag (a8V _ (by omega)) ?_|refine na fun b=>?_|refine nb fun b hb=>?_|refine iq ?_|(refine jq ?_ ?_<;>intro h h')|exact wZ|refine Aa ?_ ?_)<;>try refine FD ?_)
 all_goals (try simp only[Ac,Hn]at *)
 all_goals simp[Cd,Es.enc, *]
theorem Tg(b:Nat)(out:List UInt8)(v:Int)(hv:0≤v∧v≤72057594037927935)(hl:out.length≤900000):
  CT Tryz.prog 187 [.ptr b 0,.int .i64 v] (lk [(b,Ev out false)]) (fun r o=>r=.tup []∧o=lk [(b,Ev (out++pn v) false)]):=by
 have h:pn v≠[]:=fun e=>(Tw v).1 e hv
 have:=Zn b out false v hl
 simpa only[h,decide_false,Bool.or_self,D3,BV]using this
theorem a9b(b:Nat)(v:Int)(hv:0≤v∧v≤72057594037927935):
  CT Tryz.prog 187 [.ptr b 0,.int .i64 v] (lk [(b,Ub false)]) (fun r o=>r=.tup []∧o=lk [(b,Ev (pn v) false)]):=by
 have h:pn v≠[]:=fun e=>(Tw v).1 e hv
 have hd:decide (pn v=[])=false:=A0 h
 have h8:=C5 v
 refine YW _ _ _ (by simp) ?_
 simp only[RE];refine FD ?_
 repeat' ((first|exact tt|refine Ab (ND _) ?_|refine c1 (a9S _ (pn v) (by omega)) ?_|refine na fun b=>?_|refine nb fun b hb=>?_|refine iq ?_|(refine jq ?_ ?_<;>intro h h')|exact wZ|refine Aa ?_ ?_)<;>try refine FD ?_)
 all_goals exact AG (by simp[Am,lk,r_nil,Ev]) GA
theorem a9d(b:Nat)(out s:List UInt8)(hl:out.length≤500000)(hs:s.length≤400000):
  CT Tryz.prog 189 [.ptr b 0,.str s] (lk [(b,Ev out false)]) (fun r o=>r=.tup []∧o=lk [(b,Ev (out++(pn s.length++s)) false)]):=by
 have h:pn (s.length:Int)≠[]:=fun e=>(Tw _).1 e ⟨by omega,by omega⟩
 have:=a9c b out s false hl hs
 simp only[QG,MK,h,decide_false,Bool.or_self,D3,BV]at this
 simpa only[DC]using this
theorem UK(b:Bool):0≤B1 b∧B1 b≤72057594037927935:=by cases b<;>decide
theorem a8E(x:Es)(hs:x.p.length≤100000):CP Tryz.prog 143 [.agg x.cs] (.tup [.str (Cd x).1,.int .i64 (Cd x).2]):=by
 have h1:=C5 (B1 x.cl);have h2:=C5 (B1 x.o);have h3:=C5 x.p.length;have h4:=C5 x.c;have h5:=C5 x.st
 refine a5M _ _ (by simp) ?_
 simp only[UX,Es.cs, ↓Ed,Eu, ↓reduceIte,reduceCtorEq,Nat.reduceAdd,Nat.reduceEqDiff,Nat.reduceLT,Nat.reduceLeDiff,Int.reduceToNat,Int.reduceEq,Int.reduceLT,Int.reduceLE,Ap,Ax,Ao]
 by_cases hm:x.may=true
 ·have hi:=SH hm
  have he:Cd x=(x.enc,0):=by simp[Cd,hm]
  have hx:Ac (x.may=true):=hm
  rw[he]
  let o1:=pn (B1 x.cl)++pn (B1 x.o)
  let o2:=o1++(pn x.p.length++x.p)
  let o3:=o2++pn x.c
  repeat' ((first|exact tt|refine Ab (Tk x (by omega)) ?_|refine Oi a8S ?_|refine Ab (a9h _) ?_|refine c1 (a9b _ _ (UK _)) ?_|refine c1 (Tg _ (pn (B1 x.cl)) (B1 x.o) (UK _) (by omega)) ?_|refine c1 (a9d _ o1 x.p (by simp only[o1,Ao];omega) (by omega)) ?_|refine c1 (Tg _ o2 x.c (by omega) (by simp only[o1,o2,Ao];omega)) ?_|refine c1 (Tg _ o3 x.st (by omega) (by simp only[o1,o2,o3,Ao];omega)) ?_|refine c1 (a8z _ (o3++pn x.st) false) ?_|refine na fun b=>?_|refine nb fun b hb=>?_|refine iq ?_|(refine jq ?_ ?_<;>intro h h')|exact wZ|refine Aa ?_ ?_)<;>try refine FD ?_)
  simp[Es.enc,o1,o2,o3]
 ·have hx:Ac (x.may=false):=Bool.eq_false_iff.2 hm
  repeat' ((first|exact tt|refine Ab (Tk x (by omega)) ?_|refine na fun b=>?_|refine nb fun b hb=>?_|refine iq ?_|(refine jq ?_ ?_<;>intro h h')|exact wZ|refine Aa ?_ ?_)<;>try refine FD ?_)
  simp[Cd,hm]
theorem QH(b:Nat)(s:List UInt8)(x:Int × Int)(least most:Int)(hs:s.length≤281474976710656)(hl:least≤0∧0≤most):
  CT Tryz.prog 115 [.ptr b 0,.int .i64 least,.int .i64 most] (lk [(b,rd s x.1 x.2)])
   (fun r o=>r=.int .i64 (EQ s least most x).1∧o=lk [(b,rd s (EQ s least most x).2.1 (EQ s least most x).2.2)]):=b0A b s x.1 x.2 least most hs hl
theorem b3Z(b:Nat)(s:List UInt8)(x:Int × Int)(most:Int)(hs:s.length≤281474976710656)(hl:0≤most)(hn:0≤x.1∧x.1≤s.length):
  CT Tryz.prog 116 [.ptr b 0,.int .i64 most] (lk [(b,rd s x.1 x.2)])
   (fun r o=>r=.str (GP s most x).1∧o=lk [(b,rd s (GP s most x).2.1 (GP s most x).2.2)]):=b0B b s x.1 x.2 most hs hl hn
theorem b3Y(b:Nat)(s:List UInt8)(x:Int × Int):CT Tryz.prog 117 [.ptr b 0] (lk [(b,rd s x.1 x.2)]) (fun r o=>r=.int .i64 (rend s x)∧o=lk [(b,rd s x.1 x.2)]):=a8G b s x.1 x.2
theorem a5F(v:List UInt8)(hs:v.length≤100000):(Es.of v).p.length≤100000:=by
 simp only[Es.of,Kl,GP];repeat' split
 all_goals (simp;try omega)
theorem WR{v:List UInt8}(h:rend v (dst v).2=0)(g:(Es.of v).may=true):C1 v=(Es.of v,0):=by simp only[C1,h,g,ne_eq,not_true_eq_false,BV,Bo]
theorem WQ{v:List UInt8}(h:rend v (dst v).2=0)(g:(Es.of v).may=false):C1 v=(Es.zero,1):=by simp only[C1,h,g,ne_eq,not_true_eq_false,BV,D3]
theorem WP{v:List UInt8}(h:¬ rend v (dst v).2=0):C1 v=(Es.zero,rend v (dst v).2):=by simp only[C1,h,ne_eq,Ct,Bo]
theorem Te(v:List UInt8)(hs:v.length≤100000):CP Tryz.prog 53 [.str v] (.tup [.agg (C1 v).1.cs,.int .i64 (C1 v).2]):=by
 have hm:=a5F v hs
 have h1:=Z5 v 0 1 (0,0) (by simp)
 have h2:=Z5 v 0 1 (Ls v).2 h1
 refine a5L _ _ (by simp) ?_
 simp only[UW];refine FD ?_
 repeat' ((first|exact tt|refine Oi (a8T _) ?_|refine c1 (QH _ v (0,0) 0 1 (by omega) (by omega)) ?_|refine c1 (QH _ v (Ls v).2 0 1 (by omega) (by omega)) ?_|refine c1 (b3Z _ v (Lw v).2 12 (by omega) (by omega) h2) ?_|refine c1 (QH _ v (Kl v).2 0 999 (by omega) (by omega)) ?_|refine c1 (QH _ v (Lr v).2 0 1099511627777 (by omega) (by omega)) ?_|refine c1 (b3Y _ v (dst v).2) ?_|refine Ab (Tk (Es.of v) (by omega)) ?_|refine na fun b=>?_|refine nb fun b hb=>?_|refine iq ?_|(refine jq ?_ ?_<;>intro h h')|exact wZ|refine Aa ?_ ?_)<;>try refine FD ?_)
 all_goals (try simp only[Ac,Hn]at *)
 all_goals first|rw[WR (by assumption) (by assumption)]|rw[WQ (by assumption) (by assumption)]|rw[WP (by assumption)]
 all_goals simp[Es.of,Es.zero,Ls,Lw,Kl,Lr,dst]
 all_goals exact ⟨rfl,rfl⟩
end
end Go.Proofs.YtfgihnhoocnmdaaGreatDoor
