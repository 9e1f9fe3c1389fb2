import Derived.Test.YthdcogkdacnheaaGreatDoorK14
import Derived.Test.YthdcogkdacnheaaGreatDoorK11
import Derived.Test.YthdcogkdacnheaaGreatDoorK15
import Derived.Test.YthdcogkdacnheaaGreatDoorK12
import Derived.Test.YthdcogkdacnheaaGreatDoorK13
import Derived.Shelf.Strings.SlTrimAscii
import Derived.WalkSmall
namespace Go.Proofs.YthdcogkdacnheaaGreatDoor
set_option linter.all false
set_option maxHeartbeats 9000000
section
set_option maxRecDepth 100000
theorem a8z(l:List UInt8):(⟨l.toArray⟩:ByteArray).size=l.length:=by simp[ByteArray.size]
theorem a8v(s:List UInt8)(hs:s.length≤281474976710656):CP Tryz.prog 74 [.str s] (.str s):=
 CP_lib (vs:=[.string ⟨s.toArray⟩]) (v:=.string ⟨s.toArray⟩) rfl (by simp) rfl fun W=>Tryz.stringslite_Clone _ W (by rw[a8z];exact hs)
theorem sxLia{A B:Prop}(h:B)(e:A=B:=by (simp (disch:=omega) only[*, ↓Ed,Eu, ↓reduceIte,reduceCtorEq,Nat.reduceAdd,Nat.reduceEqDiff,Nat.reduceLT,Nat.reduceLeDiff,Int.reduceToNat,Int.reduceEq,Int.reduceLT,Int.reduceLE,w64];first|done|rfl)):A:=e▸h
theorem a7x(s:List UInt8)(hs:s.length≤281474976710656):CP Tryz.prog 42 [.str s] (.str s):=by
 refine a5m _ _ (by simp) ?_
 simp only[a3c];refine sxLia ?_
 repeat' ((first|exact tt|refine CallO_pure (a8v _ (by omega)) ?_|refine na fun b=>?_|refine nb fun b hb=>?_|refine iq ?_|(refine jq ?_ ?_<;>intro h h')|refine Two_intro ?_ ?_|exact wZ|fail)<;>try refine sxLia ?_)
end
section
open Go.RowKit Go.Lib
set_option maxRecDepth 100000
theorem rkP(cap:Nat)(L:List PrP)(i:Nat)(hi:i<L.length)(K:AV→Prop):RK (ldR (some 2) ((hcP cap L).drop (i * 2))) K=K (.agg (prC (L.getD i default))):=prRow.ld cap L i default hi K
theorem b2i(cap:Nat)(L:List PrP)(i j:Nat)(hi:i<L.length)(hj:j<2):∃ r,(hcP cap L).drop (i * 2+j)=(prC (L.getD i default)).getD j .undef::r:=by
 have h:=prRow.drop_take cap L i default hi
 have e:((hcP cap L).drop (i * 2+j))[0]?=(prC (L.getD i default))[j]?:=by
  rw[← h,List.getElem?_take_of_lt hj,List.getElem?_drop,List.getElem?_drop];rfl
 generalize (hcP cap L).drop (i * 2+j)=X at e
 rcases X with _ | ⟨a,X⟩
 ·rcases j with _|_|j<;>simp at e
  omega
 ·refine ⟨X, ?_⟩
  congr 1
  simp only[List.getElem?_cons_zero]at e
  rw[List.getD, ← e];rfl
theorem a6h(cap:Nat)(L:List PrP)(i:Nat)(hi:i<L.length)(K:AV→Prop):RK (ldR none ((hcP cap L).drop (i * 2))) K=K (.str (L.getD i default).1):=by
 obtain ⟨r,h⟩:=b2i cap L i 0 hi (by omega)
 rw[Nat.add_zero]at h
 rw[h,l_onef,RK_eq];rfl
theorem a6i(cap:Nat)(L:List PrP)(i:Nat)(hi:i<L.length)(K:AV→Prop):RK (ldR none ((hcP cap L).drop (i * 2+1))) K=K (.str (L.getD i default).2):=by
 obtain ⟨r,h⟩:=b2i cap L i 1 hi (by omega)
 rw[h,l_onef,RK_eq];rfl
theorem a1X(o:List (Nat × List AV)):∀ b cs,lk o b=some cs→∃ cs',lk o b=some cs':=fun b cs h=>⟨cs,h⟩
theorem b0o:∀ a b:List UInt8,decide (Lib.compareBytes a b<0)=ltS a b
 | [],[]=>by simp[Lib.compareBytes,ltS,bytesLess_eq]
 | [],_::_=>by simp[Lib.compareBytes,ltS,bytesLess_eq]
 | _::_,[]=>by simp[Lib.compareBytes,ltS,bytesLess_eq]
 | x::a,y::b=>by
  have ih:=b0o a b
  simp only[ltS,bytesLess_eq,List.cons_lt_cons_iff]at ih ⊢
  unfold Lib.compareBytes
  by_cases h:x<y
  ·simp[h]
  ·by_cases g:y<x
   ·have:¬ x=y:=fun e=>by subst e;exact h g
    simp[h,g,this]
   ·have:x=y:=UInt8.le_antisymm (UInt8.not_lt.1 g) (UInt8.not_lt.1 h)
    simp[h,g,this,ih]
theorem b0n:∀ a b:List UInt8,decide (Lib.compareBytes a b=0)=decide (a=b)
 | [],[]=>by simp[Lib.compareBytes]
 | [],_::_=>by simp[Lib.compareBytes]
 | _::_,[]=>by simp[Lib.compareBytes]
 | x::a,y::b=>by
  have ih:=b0n a b
  unfold Lib.compareBytes
  by_cases h:x<y
  ·have:¬ x=y:=fun e=>by subst e;exact absurd h (UInt8.lt_irrefl x)
   simp[h,this]
  ·by_cases g:y<x
   ·have:¬ x=y:=fun e=>by subst e;exact h g
    simp[h,g,this]
   ·have:x=y:=UInt8.le_antisymm (UInt8.not_lt.1 g) (UInt8.not_lt.1 h)
    simpa[h,g,this]using ih
theorem b0C(a b:List UInt8):CP Tryz.prog 78 [.str a,.str b] (.int .i64 (Lib.compareBytes a b)):=
 CP_lib (vs:=[.string ⟨a.toArray⟩,.string ⟨b.toArray⟩]) (v:=.int .i64 (Lib.compareBytes a b)) rfl (by simp) rfl fun W=>
  (Tryz.strings_Compare ⟨a.toArray⟩ ⟨b.toArray⟩ W).mono fun e w' ⟨h1,h2⟩=>⟨by simpa using h1,h2▸Below.refl _ _⟩
theorem sxSto{A B:Prop}(h:B)(e:A=B:=by (simp (disch:=omega) only[*, ↓Ed,Eu, ↓reduceIte,reduceCtorEq,Nat.reduceAdd,Nat.reduceEqDiff,Nat.reduceLT,Nat.reduceLeDiff,Int.reduceToNat,Int.reduceEq,Int.reduceLT,Int.reduceLE,w64, ↓rkP, ↓a6h, ↓a6i];first|done|rfl)):A:=e▸h
theorem b3h(p:PrP)(k:List UInt8):CP Tryz.prog 77 [.agg (prC p),.str k] (.int .i64 (Lib.compareBytes p.1 k)):=by
 have hC:=b0C p.1 k
 refine a3j _ _ (by simp) ?_
 simp only[a1F];refine sxSto ?_
 repeat' ((first|exact tt|refine CallO_pure (hC) ?_|refine na fun b=>?_|refine nb fun b hb=>?_|refine iq ?_|(refine jq ?_ ?_<;>intro h h')|refine Two_intro ?_ ?_|exact wZ|fail)<;>try refine sxSto ?_)
abbrev StS:=Option (Nat × Nat)
def stV(L:List PrP):StS→AV
 | none=>.nils 82 2
 | some (g,cap)=>.hsl g 82 2 L.length cap
def b6Q(L:List PrP):StS→AV
 | none=>.hnil 82 2
 | some (g,cap)=>.hsl g 82 2 L.length cap
def stR(L:List PrP):StS→List (Nat × List AV)
 | none=>[]
 | some (g,cap)=>[(g,hcP cap L)]
def stO(s:Nat)(L:List PrP)(x:StS):List (Nat × List AV):=(s,[stV L x])::stR L x
def stOk(s:Nat)(L:List PrP):StS→Prop
 | none=>L=[]
 | some (g,cap)=>(¬ g=s∧¬ s=g)∧L.length≤cap
theorem wu64{x:Int}(h:0≤x∧x≤18446744073709551615):IntKind.u64.wrap x=x:=by rw[IntKind.wrap_u64];omega
theorem b7K(a:Int):a.fdiv (2 ^ (min (Int.toNat 1) IntKind.u64.bits))=a / 2:=by
 show a.fdiv 2=a / 2
 rw[Int.fdiv_eq_ediv_of_nonneg _ (by omega)]
theorem b1x(i j m:Nat)(h:m=(i+j) / 2)(hb:i+j≤1000000000):IntKind.i64.wrap ((IntKind.u64.wrap ((i:Int)+(j:Int))).fdiv (2 ^ (min 1 IntKind.u64.bits)))=(m:Int):=by
 have:=b7K ((i:Int)+j)
 rw[wu64 (by omega)]
 refine (congrArg _ this).trans ?_
 rw[w64 (by omega)];omega
theorem has_f{L:List PrP}{k:List UInt8}(h:¬ a0z L k<L.length):a1I L k=false:=by simp[a1I,h]
theorem has_c{L:List PrP}{k:List UInt8}(h:a0z L k<L.length):a1I L k=decide (Lib.compareBytes (L.getD (a0z L k) default).1 k=0):=by rw[b0n];simp[a1I,h]
theorem a9I(L:List PrP):b6Q L none=.hnil 82 2:=rfl
theorem a8y(L:List PrP)(g cap:Nat):b6Q L (some (g,cap))=.hsl g 82 2 L.length cap:=rfl
theorem b0W(L:List PrP):stR L none=[]:=rfl
theorem a9J(L:List PrP)(g cap:Nat):stR L (some (g,cap))=[(g,hcP cap L)]:=rfl
set_option maxHeartbeats 4000000 in
theorem b7M(s:Nat)(L:List PrP)(hL:a2a L)(hb:L.length≤1000000)(k:List UInt8)(x:StS)(hx:stOk s L x):
  CT Tryz.prog 76 [b6Q L x,.str k,.fn 77] (lk (stR L x)) (fun r o=>r=.tup [.int .i64 (a0z L k:Nat),.bool (a1I L k)]∧o=lk (stR L x)):=by
 have hF:=fun p=>b3h p k
 have hB:b0i Tryz.prog 77=true:=by kernel_rfl
 have hpl:=a4B L k
 refine a0v _ _ _ (by simp) ?_
 rcases x with _ | ⟨g,cap⟩
 ·obtain rfl:L=[]:=hx
  have e1:a0z [] k=0:=rfl
  have e2:a1I [] k=false:=rfl
  simp (disch:=omega) only[a0j,a9I,b0W,e1,e2, ↓Ed,Eu, ↓reduceIte,reduceCtorEq,Nat.reduceAdd,Nat.reduceEqDiff,Nat.reduceLT,Nat.reduceLeDiff,Int.reduceToNat,Int.reduceEq,Int.reduceLT,Int.reduceLE,w64, ↓rkP, ↓a6h, ↓a6i]
  repeat' ((first|exact tt|refine na fun b=>?_|refine nb fun b hb=>?_|refine iq ?_|(refine jq ?_ ?_<;>intro h h')|refine Two_intro ?_ ?_|exact wZ|fail)<;>try refine sxSto ?_)
  refine wpx_loop (fun _:Nat=>⟨lk [(0,.hnil 82 2),(1,.str k),(2,.fn 77),(8,.int .i64 0),(9,.int .i64 0),(10,.int .i64 0)],lk []⟩) (fun _=>True) (fun _=>0) 0 trivial (Le_lit (by simp[LeL,lk])) ?_
  intro _ _
  refine sxSto ?_
  repeat' ((first|exact tt|refine na fun b=>?_|refine nb fun b hb=>?_|refine iq ?_|(refine jq ?_ ?_<;>intro h h')|refine Two_intro ?_ ?_|exact wZ|fail)<;>try refine sxSto ?_)
  all_goals exact ro_mk (by simp[LeL,lk,r_two,rl_cons,rl_nil,arR,al_int,al_bool]) (a1X _)
 ·have hc:L.length≤cap:=hx.2
  clear hx
  simp (disch:=omega) only[a0j,a8y,a9J, ↓Ed,Eu, ↓reduceIte,reduceCtorEq,Nat.reduceAdd,Nat.reduceEqDiff,Nat.reduceLT,Nat.reduceLeDiff,Int.reduceToNat,Int.reduceEq,Int.reduceLT,Int.reduceLE,w64, ↓rkP, ↓a6h, ↓a6i]
  repeat' ((first|exact tt|refine na fun b=>?_|refine nb fun b hb=>?_|refine iq ?_|(refine jq ?_ ?_<;>intro h h')|refine Two_intro ?_ ?_|exact wZ|fail)<;>try refine sxSto ?_)
  refine wpx_loop (fun z:Nat × Nat=>⟨lk [(0,.hsl g 82 2 L.length cap),(1,.str k),(2,.fn 77),(8,.int .i64 (L.length:Int)),(9,.int .i64 (z.1:Int)),(10,.int .i64 (z.2:Int))],lk [(g,hcP cap L)]⟩)
   (fun z=>z.1≤z.2∧z.2≤L.length∧(∀ i,i<z.1→ltS (L.getD i default).1 k=true)∧(∀ i,z.2≤i→i<L.length→ltS (L.getD i default).1 k=false)) (fun z=>z.2 - z.1) (0,L.length) ⟨by omega,by omega,by omega,by omega⟩ (Le_lit (by simp[LeL,lk])) ?_
  rintro ⟨i,j⟩ ⟨i1,i2,i3,i4⟩
  simp only at i1 i2 i3 i4
  by_cases hij:i<j
  ·have f1:a0f (decide ((i:Int)<j)=true):=fo
   obtain ⟨m,hm⟩:∃ m:Nat,m=(i+j) / 2:=⟨_,rfl⟩
   have he:=b1x i j m hm (by omega)
   have hm2:i≤m∧m<j:=by omega
   clear hm
   have hd:=b0o (L.getD m default).1 k
   have hbf:∀ n,n≤m→ltS (L.getD m default).1 k=true→ltS (L.getD n default).1 k=true:=fun n hn h1=>by
    by_cases e:n=m
    ·subst e;exact h1
    ·exact strSTO.tr _ _ _ (riseS_get hL (by omega) (by omega)) h1
   have hbh:∀ n,m≤n→n<L.length→ltS (L.getD m default).1 k=false→ltS (L.getD n default).1 k=false:=fun n hn hl h1=>by
    by_cases e:n=m
    ·subst e;exact h1
    ·cases hq:ltS (L.getD n default).1 k with
     | false=>rfl
     | true=>rw[strSTO.tr _ _ _ (riseS_get hL (by omega) hl) hq]at h1;cases h1
   have hFm:=hF (L.getD m default)
   clear hF hpl
   cases hq:ltS (L.getD m default).1 k with
   | true=>
    rw[hq]at hd
    have f2:a0f (decide (Lib.compareBytes (L.getD m default).1 k<0)=true):=hd
    clear hd
    refine sxSto ?_
    repeat' ((first|exact tt|refine CallO_pure (hFm) ?_|refine na fun b=>?_|refine nb fun b hb=>?_|refine iq ?_|(refine jq ?_ ?_<;>intro h h')|refine Two_intro ?_ ?_|exact wZ|fail)<;>try refine sxSto ?_)
    all_goals exact Round_lit (m+1,j) ⟨Le_lit (by simp[LeL,lk]),⟨by simp only;omega,i2,fun n hn=>hbf n (by simp only at hn;omega) hq,i4⟩,by simp only;omega⟩
   | false=>
    rw[hq]at hd
    have f2:a0f (decide (Lib.compareBytes (L.getD m default).1 k<0)=false):=hd
    clear hd
    refine sxSto ?_
    repeat' ((first|exact tt|refine CallO_pure (hFm) ?_|refine na fun b=>?_|refine nb fun b hb=>?_|refine iq ?_|(refine jq ?_ ?_<;>intro h h')|refine Two_intro ?_ ?_|exact wZ|fail)<;>try refine sxSto ?_)
    all_goals exact Round_lit (i,m) ⟨Le_lit (by simp[LeL,lk]),⟨by simp only;omega,by simp only;omega,i3,fun n hn hl=>hbh n hn hl hq⟩,by simp only;omega⟩
  ·obtain rfl:i=j:=by omega
   have hp:a0z L k=i:=pos_unique hL k i i2 i3 i4
   have f1:a0f (decide ((i:Int)<i)=false):=fo
   clear i1 i3 i4 hij
   by_cases hil:i<L.length
   ·have f2:a0f (decide ((i:Int)<L.length)=true):=fo
    have hh:=has_c (L:=L) (k:=k) (by rw[hp];exact hil)
    rw[hp]at hh
    have hFm:=hF (L.getD i default)
    clear hF hpl
    rw[hh,hp]
    clear hh
    refine sxSto ?_
    repeat' ((first|exact tt|refine CallO_pure (hFm) ?_|refine na fun b=>?_|refine nb fun b hb=>?_|refine iq ?_|(refine jq ?_ ?_<;>intro h h')|refine Two_intro ?_ ?_|exact wZ|fail)<;>try refine sxSto ?_)
    all_goals exact ro_mk (by simp[LeL,lk,r_two,rl_cons,rl_nil,arR,al_int,al_bool]) (a1X _)
   ·have f2:a0f (decide ((i:Int)<L.length)=false):=fo
    rw[has_f (L:=L) (k:=k) (by omega),hp]
    clear hF hpl
    refine sxSto ?_
    repeat' ((first|exact tt|refine na fun b=>?_|refine nb fun b hb=>?_|refine iq ?_|(refine jq ?_ ?_<;>intro h h')|refine Two_intro ?_ ?_|exact wZ|fail)<;>try refine sxSto ?_)
    all_goals exact ro_mk (by simp[LeL,lk,r_two,rl_cons,rl_nil,arR,al_int,al_bool]) (a1X _)
end
section
open Go.RowKit Go.Lib
set_option maxRecDepth 100000
section
variable {P:Program} {d:Option Nat} {s:St} {K:St→Prop}
theorem c0{f:Nat}{vs:List AV}{r:AV}(h:CT P f vs (lk []) (fun r' o'=>r'=r∧o'=lk []))(hK:KS (St.put ⟨s.t,ovr [] s.o⟩ d r) K):a3w P f vs d s K:=CallO_det h (fun b cs h=>by cases h) hK
end
theorem a0d(s:Nat)(L:List PrP):stO s L none=[(s,[.nils 82 2])]:=rfl
theorem a0b(s:Nat)(L:List PrP)(g cap:Nat):stO s L (some (g,cap))=[(s,[.hsl g 82 2 L.length cap]),(g,hcP cap L)]:=rfl
theorem sxStp{A B:Prop}(h:B)(e:A=B:=by (simp (disch:=omega) only[*, ↓Ed,Eu, ↓reduceIte,reduceCtorEq,Nat.reduceAdd,Nat.reduceEqDiff,Nat.reduceLT,Nat.reduceLeDiff,Int.reduceToNat,Int.reduceEq,Int.reduceLT,Int.reduceLE,w64, ↓rkP, ↓a6h, ↓a6i];first|done|rfl)):A:=e▸h
theorem b0Y(s:Nat)(L:List PrP)(hL:a2a L)(hb:L.length≤1000000)(k:List UInt8)(x:StS)(hx:stOk s L x):
  CT Tryz.prog 44 [.ptr s 0,.str k] (lk (stO s L x)) (fun r o=>r=.tup [.int .i64 (a0z L k:Nat),.bool (a1I L k)]∧o=lk (stO s L x)):=by
 have hS:=b7M s L hL hb k x hx
 refine a3C _ _ _ (by simp) ?_
 rcases x with _ | ⟨g,cap⟩
 ·rw[b0W,a9I]at hS
  clear hL hb hx
  simp (disch:=omega) only[a1j,a0d, ↓Ed,Eu, ↓reduceIte,reduceCtorEq,Nat.reduceAdd,Nat.reduceEqDiff,Nat.reduceLT,Nat.reduceLeDiff,Int.reduceToNat,Int.reduceEq,Int.reduceLT,Int.reduceLE,w64, ↓rkP, ↓a6h, ↓a6i]
  repeat' ((first|exact tt|(refine c0 hS ?_)|refine na fun b=>?_|refine nb fun b hb=>?_|refine iq ?_|(refine jq ?_ ?_<;>intro h h')|refine Two_intro ?_ ?_|exact wZ|fail)<;>try refine sxStp ?_)
  all_goals exact ro_mk (by simp[LeL,lk,r_two,rl_cons,rl_nil,arR,al_int,al_bool]) (a1X _)
 ·rw[a9J,a8y]at hS
  have hgs:=hx.1
  clear hL hb hx
  simp (disch:=omega) only[a1j,a0b,hgs, ↓Ed,Eu, ↓reduceIte,reduceCtorEq,Nat.reduceAdd,Nat.reduceEqDiff,Nat.reduceLT,Nat.reduceLeDiff,Int.reduceToNat,Int.reduceEq,Int.reduceLT,Int.reduceLE,w64, ↓rkP, ↓a6h, ↓a6i]
  repeat' ((first|exact tt|refine c1 (hS) ?_|refine na fun b=>?_|refine nb fun b hb=>?_|refine iq ?_|(refine jq ?_ ?_<;>intro h h')|refine Two_intro ?_ ?_|exact wZ|fail)<;>try refine sxStp ?_)
  all_goals exact ro_mk (by simp[LeL,lk,hgs,r_two,rl_cons,rl_nil,arR,al_int,al_bool]) (a1X _)
theorem a9K(s:Nat)(L:List PrP)(x:StS)(hx:stOk s L x):
  CT Tryz.prog 30 [.ptr s 0] (lk (stO s L x)) (fun r o=>r=.int .i64 L.length∧o=lk (stO s L x)):=by
 refine a4b _ _ _ (by simp) ?_
 rcases x with _ | ⟨g,cap⟩
 ·obtain rfl:L=[]:=hx
  simp (disch:=omega) only[a1o,a0d, ↓Ed,Eu, ↓reduceIte,reduceCtorEq,Nat.reduceAdd,Nat.reduceEqDiff,Nat.reduceLT,Nat.reduceLeDiff,Int.reduceToNat,Int.reduceEq,Int.reduceLT,Int.reduceLE,w64, ↓rkP, ↓a6h, ↓a6i]
  repeat' ((first|exact tt|refine na fun b=>?_|refine nb fun b hb=>?_|refine iq ?_|(refine jq ?_ ?_<;>intro h h')|refine Two_intro ?_ ?_|exact wZ|fail)<;>try refine sxStp ?_)
  all_goals exact ro_mk (by simp[LeL,lk,a0P,arR]) (a1X _)
 ·have hgs:=hx.1
  clear hx
  simp (disch:=omega) only[a1o,a0b,hgs, ↓Ed,Eu, ↓reduceIte,reduceCtorEq,Nat.reduceAdd,Nat.reduceEqDiff,Nat.reduceLT,Nat.reduceLeDiff,Int.reduceToNat,Int.reduceEq,Int.reduceLT,Int.reduceLE,w64, ↓rkP, ↓a6h, ↓a6i]
  repeat' ((first|exact tt|refine na fun b=>?_|refine nb fun b hb=>?_|refine iq ?_|(refine jq ?_ ?_<;>intro h h')|refine Two_intro ?_ ?_|exact wZ|fail)<;>try refine sxStp ?_)
  all_goals exact ro_mk (by simp[LeL,lk,hgs,a0P,arR]) (a1X _)
theorem getS_t{L:List PrP}{k:List UInt8}(h:a1I L k=true):a4g L k=(L.getD (a0z L k) default).2:=by simp only[a4g,if_pos h]
theorem getS_f{L:List PrP}{k:List UInt8}(h:a1I L k=false):a4g L k=[]:=by simp[a4g,h]
theorem has_lt{L:List PrP}{k:List UInt8}(h:a1I L k=true):a0z L k<L.length:=by simp only[a1I,Bool.and_eq_true,decide_eq_true_eq]at h;exact h.1
theorem stOk_has{s:Nat}{L:List PrP}{k:List UInt8}(h:a1I L k=true){x:StS}(hx:stOk s L x):∃ g cap,x=some (g,cap):=by
 rcases x with _ | ⟨g,cap⟩
 ·obtain rfl:L=[]:=hx
  simp[a1I,a0z]at h
 ·exact ⟨g,cap,rfl⟩
theorem b2C(s:Nat)(L:List PrP)(hL:a2a L)(hb:L.length≤1000000)(k:List UInt8)(x:StS)(hx:stOk s L x):
  CT Tryz.prog 47 [.ptr s 0,.str k] (lk (stO s L x)) (fun r o=>r=.tup [.str (a4g L k),.bool (a1I L k)]∧o=lk (stO s L x)):=by
 have hF:=b0Y s L hL hb k x hx
 refine a4a _ _ _ (by simp) ?_
 cases hh:a1I L k with
 | false=>
  rw[getS_f hh]
  rw[hh]at hF
  clear hL hb
  rcases x with _ | ⟨g,cap⟩
  ·rw[a0d]at hF
   clear hx
   simp (disch:=omega) only[a0S,a0d, ↓Ed,Eu, ↓reduceIte,reduceCtorEq,Nat.reduceAdd,Nat.reduceEqDiff,Nat.reduceLT,Nat.reduceLeDiff,Int.reduceToNat,Int.reduceEq,Int.reduceLT,Int.reduceLE,w64, ↓rkP, ↓a6h, ↓a6i]
   repeat' ((first|exact tt|refine c1 (hF) ?_|refine na fun b=>?_|refine nb fun b hb=>?_|refine iq ?_|(refine jq ?_ ?_<;>intro h h')|refine Two_intro ?_ ?_|exact wZ|fail)<;>try refine sxStp ?_)
   all_goals exact ro_mk (by simp[LeL,lk,r_two,rl_cons,rl_nil,arR,al_str,al_bool]) (a1X _)
  ·rw[a0b]at hF
   have hgs:=hx.1
   clear hx
   simp (disch:=omega) only[a0S,a0b,hgs, ↓Ed,Eu, ↓reduceIte,reduceCtorEq,Nat.reduceAdd,Nat.reduceEqDiff,Nat.reduceLT,Nat.reduceLeDiff,Int.reduceToNat,Int.reduceEq,Int.reduceLT,Int.reduceLE,w64, ↓rkP, ↓a6h, ↓a6i]
   repeat' ((first|exact tt|refine c2 (hF) ?_|refine na fun b=>?_|refine nb fun b hb=>?_|refine iq ?_|(refine jq ?_ ?_<;>intro h h')|refine Two_intro ?_ ?_|exact wZ|fail)<;>try refine sxStp ?_)
   all_goals exact ro_mk (by simp[LeL,lk,hgs,r_two,rl_cons,rl_nil,arR,al_str,al_bool]) (a1X _)
 | true=>
  obtain ⟨g,cap,rfl⟩:=stOk_has hh hx
  have hlt:=has_lt hh
  rw[getS_t hh]
  rw[hh,a0b]at hF
  have hgs:=hx.1
  clear hL hb hx hh
  simp (disch:=omega) only[a0S,a0b,hgs, ↓Ed,Eu, ↓reduceIte,reduceCtorEq,Nat.reduceAdd,Nat.reduceEqDiff,Nat.reduceLT,Nat.reduceLeDiff,Int.reduceToNat,Int.reduceEq,Int.reduceLT,Int.reduceLE,w64, ↓rkP, ↓a6h, ↓a6i]
  repeat' ((first|exact tt|refine c2 (hF) ?_|refine na fun b=>?_|refine nb fun b hb=>?_|refine iq ?_|(refine jq ?_ ?_<;>intro h h')|refine Two_intro ?_ ?_|exact wZ|fail)<;>try refine sxStp ?_)
  all_goals exact ro_mk (by simp[LeL,lk,hgs,r_two,rl_cons,rl_nil,arR,al_str,al_bool]) (a1X _)
theorem b0Z:CT Tryz.prog 6 [] (fun _=>none) (fun r o=>∃ b,r=.ptr b 0∧o=lk [(b,[.nils 82 2])]):=by
 refine a7t _ (lk []) _ (by simp) ?_
 simp only[a5D];refine sxStp ?_
 repeat' ((first|exact tt|refine na fun b=>?_|refine nb fun b hb=>?_|refine iq ?_|(refine jq ?_ ?_<;>intro h h')|refine Two_intro ?_ ?_|exact wZ|fail)<;>try refine sxStp ?_)
 all_goals exact ro_new ⟨rfl,by simp[LeL,lk]⟩
def a1T(k v:List UInt8):Bool:=decide (1≤k.length∧k.length≤160∧1≤v.length∧v.length≤64)
theorem b3l(k v:List UInt8)(hk:k.length≤1000000)(hv:v.length≤1000000):CP Tryz.prog 75 [.str k,.str v] (.bool (a1T k v)):=by
 refine a6A _ _ (by simp) ?_
 have e1:∀ l:List UInt8,decide (l=[])=decide (l.length=0):=fun l=>by simp[List.length_eq_zero_iff]
 have e:a1T k v=(((!decide (k.length=0))&&decide ((k.length:Int)≤160))&&(!decide (v.length=0))&&decide ((v.length:Int)≤64)):=by
  unfold a1T
  rw[Bool.eq_iff_iff]
  simp only[Bool.and_eq_true,Bool.not_eq_true',decide_eq_true_eq,decide_eq_false_iff_not]
  omega
 rw[e]
 simp only[a4n];refine sxStp ?_
 repeat' ((first|exact tt|refine na fun b=>?_|refine nb fun b hb=>?_|refine iq ?_|(refine jq ?_ ?_<;>intro h h')|refine Two_intro ?_ ?_|exact wZ|fail)<;>try refine sxStp ?_)
 all_goals (rw[Bool.eq_iff_iff];simp only[a0f,Bool.and_eq_true,Bool.not_eq_true',Bool.not_eq_false',Bool.false_eq_true,decide_eq_true_eq,decide_eq_false_iff_not]at *;refine ⟨fun h=>?_,fun h=>?_⟩<;>first|exact h.elim|omega)
end
section
open Go.RowKit Go.Lib
set_option maxRecDepth 100000
theorem sxStq{A B:Prop}(h:B)(e:A=B:=by (simp (disch:=omega) only[*, ↓Ed,Eu, ↓reduceIte,reduceCtorEq,Nat.reduceAdd,Nat.reduceEqDiff,Nat.reduceLT,Nat.reduceLeDiff,Int.reduceToNat,Int.reduceEq,Int.reduceLT,Int.reduceLE,w64, ↓rkP, ↓a6h, ↓a6i,List.length_singleton,Int.natCast_one];first|done|rfl)):A:=e▸h
theorem b3y(g cap:Nat)(x:PrP)(hk:x.1.length≤1000000)(hv:x.2.length≤1000000):
  CT Tryz.prog 43 [.hsl g 82 2 1 cap] (lk [(g,hcP cap [x])]) (fun r o=>r=.bool (a1T x.1 x.2)∧o=lk [(g,hcP cap [x])]):=by
 have hS:=b3l x.1 x.2 hk hv
 refine a6B _ _ _ (by simp) ?_
 simp only[a4Y];refine sxStq ?_
 repeat' ((first|exact tt|refine na fun b=>?_|refine nb fun b hb=>?_|refine iq ?_|(refine jq ?_ ?_<;>intro h h')|refine Two_intro ?_ ?_|exact wZ|fail)<;>try refine sxStq ?_)
 refine wpx_loop (fun i:Nat=>⟨lk [(0,.hsl g 82 2 1 cap),(5,.hsl g 82 2 1 cap),(6,.int .i64 1),(7,.int .i64 (i:Int))],lk [(g,hcP cap [x])]⟩) (fun i=>i≤1∧(i=1→a1T x.1 x.2=true)) (fun i=>1 - i) 0 ⟨by omega,by omega⟩ (Le_lit (by simp[LeL,lk])) ?_
 intro i ⟨hi,hm⟩
 by_cases hi1:i<1
 ·have f1:a0f (decide ((i:Int)<1)=true):=fo
  have f2:a0f (decide ((0:Int)<i)=false):=fo
  have hl:i<[x].length:=by simpa using hi1
  have he:[x].getD i default=x:=by
   obtain rfl:i=0:=by omega
   rfl
  clear hm
  cases hq:a1T x.1 x.2 with
  | false=>
   rw[hq]at hS
   refine sxStq ?_
   repeat' ((first|exact tt|refine CallW_intro (hS) ?_|refine CallO_pure (hS) ?_|refine na fun b=>?_|refine nb fun b hb=>?_|refine iq ?_|(refine jq ?_ ?_<;>intro h h')|refine Two_intro ?_ ?_|exact wZ|fail)<;>try refine sxStq ?_)
   all_goals exact ro_mk (by simp[LeL,lk,a0P,arR]) (a1X _)
  | true=>
   rw[hq]at hS
   refine sxStq ?_
   repeat' ((first|exact tt|refine CallW_intro (hS) ?_|refine CallO_pure (hS) ?_|refine na fun b=>?_|refine nb fun b hb=>?_|refine iq ?_|(refine jq ?_ ?_<;>intro h h')|refine Two_intro ?_ ?_|exact wZ|fail)<;>try refine sxStq ?_)
   all_goals exact Round_lit (i+1) ⟨Le_lit (by simp[LeL,lk, *]),⟨by omega,fun _=>(by first|trivial|exact hq)⟩,by omega⟩
 ·have f1:a0f (decide ((i:Int)<1)=false):=fo
  rw[hm (by omega)]
  refine sxStq ?_
  repeat' ((first|exact tt|refine na fun b=>?_|refine nb fun b hb=>?_|refine iq ?_|(refine jq ?_ ?_<;>intro h h')|refine Two_intro ?_ ?_|exact wZ|fail)<;>try refine sxStq ?_)
  all_goals exact ro_mk (by simp[LeL,lk,a0P,arR]) (a1X _)
end
section
open Go.RowKit Go.Lib
set_option maxRecDepth 100000
set_option maxHeartbeats 8000000 in
theorem b3z(gv capv:Nat)(x:PrP):
  CT Tryz.prog 45 [.hnil 82 2,.int .i64 0,.hsl gv 82 2 1 capv] (lk [(gv,hcP capv [x])])
   (fun r o=>∃ b c,(1≤c∧¬ b=gv∧¬ gv=b)∧r=.hsl b 82 2 1 c∧o=lk [(b,hcP c [x]),(gv,hcP capv [x])]):=by
 intro W U vs hlen hv hI
 obtain ⟨v0,v1,v2,rfl⟩:∃ v0 v1 v2,vs=[v0,v1,v2]:=by
  match vs,hlen with
  | [v0,v1,v2],_=>exact ⟨v0,v1,v2,rfl⟩
 have h0:=hv 0 v0 _ rfl rfl
 have h1:=hv 1 v1 _ rfl rfl
 have h2:=hv 2 v2 _ rfl rfl
 cases h0
 cases h2 with
 | hsl _ _ _ _ _ m1 m2 hm2=>
 cases h1
 obtain ⟨_,_,d3⟩:=hm2
 obtain ⟨cuv,tv,e1,e2,e3,e4,e5⟩:=hI.obc (b:=gv) (cs:=hcP capv [x]) (by simp[lk]) ⟨_,_,_,d3⟩
 have htv:tv.1=82:=by
  have h:=d3.symm.trans e1
  simp only[Option.some.injEq,Obj.cells.injEq]at h
  exact h.2.1.symm
 rw[htv]at e1
 have s2:cuv.size=capv * 2:=by rw[e2,hcP,prRow.len_hc];congr 1;simp;omega
 obtain ⟨ws,hws⟩:∃ ws:List Value,ws=cuv.toList.take 2:=⟨_,rfl⟩
 have hlw:cuv.toList.length=cuv.size:=Array.length_toList
 have hwl:ws.length=2:=by rw[hws,List.length_take];omega
 have hwe:∀ j v,ws[j]?=some v→cuv[j]?=some v∧j<2:=fun j v h=>by
  have hj:=(List.getElem?_eq_some_iff.1 h).1
  rw[hws,List.getElem?_take_of_lt (by omega)]at h
  exact ⟨by simpa using h,by omega⟩
 have hwell:∀ j v,ws[j]?=some v→W.cell? ⟨gv,j,none⟩=some v:=fun j v h=>by rw[cell_of_row W gv j cuv _ (0,0) e1];exact (hwe j v h).1
 have h1w:∀ v∈ws,v.oneCell'=true:=fun v h=>by
  obtain ⟨j,hj,rfl⟩:=List.getElem_of_mem h
  have h5:=(hwe j _ (List.getElem?_eq_getElem hj))
  have:=(e3 j _ (List.getElem?_eq_getElem (l:=hcP capv [x]) (by omega))).2
  rwa [Array.getD_eq_getD_getElem?,h5.1,Option.getD_some]at this
 have hrd:∀ j c,j<2→(prC x)[j]?=some c→VR W U (ws.getD j undef) c:=fun j c hj hc=>by
  have h5:=hc_get (sz:=2) (cap:=capv) (prRow.all [x]) (i:=0) (j:=j) (e:=prC x) (by simp) hj
  have h6:=(e3 (0 * 2+j) c (by rw[hcP,h5];exact hc)).1
  rw[Nat.zero_mul,Nat.zero_add]at h6
  have e:ws.getD j undef=cuv.getD j undef:=by
   rw[hws,List.getD,List.getElem?_take_of_lt hj,Array.getD_eq_getD_getElem?];simp
  rw[e];exact h6
 refine (a4Z none 0 0 gv capv [] ws W (by omega) (by omega) (by omega) rfl hwl (fun _=>rfl) (fun a ha=>by cases ha) hwell h1w).mono ?_
 rintro e W' ⟨rfl,rfl⟩
 have hge:=grownCap_ge W (0+1) 0 82
 have hcm:=grownCap_le_maxLen W (0+1) 0 82 (by unfold maxLen;omega)
 rw[List.nil_append]
 generalize grownCap W (0+1) 0 82=G at *
 obtain ⟨A,hAd⟩:∃ A:Array Value,A=ws.toArray++Builtin.zeroCells zPr.cells (G - (0+1)):=⟨_,rfl⟩
 rw[← hAd]
 have hAs:A.size=G * 2:=by
  rw[hAd,Array.size_append,size_zeroCells,List.size_toArray,hwl]
  show 2+(_ - _) * 2=_;omega
 have hA:∀ j,j<2→A[j]?=ws[j]?:=fun j hj=>by
  rw[hAd,Array.getElem?_append_left (by rw[List.size_toArray];omega),List.getElem?_toArray]
 have h1A:∀ v∈A,v.oneCell'=true:=fun v hv'=>by
  rw[hAd]at hv'
  rcases Array.mem_append.1 hv' with h|h
  ·exact h1w v (by simpa using h)
  ·have:=mem_zeroCells h
   have h9:v=.string ⟨#[]⟩:=by simpa[zPr,Value.cells]using this
   rw[h9];rfl
 have hread:∀ j c,(hcP G [x])[j]?=some c→VR W U (A.getD j undef) c:=fun j c hc=>by
  rcases hc_cases (sz:=2) (by omega) (prRow.all [x]) hc with ⟨e,q1,q2⟩ | ⟨rfl,_⟩
  ·have hk:j / 2<1:=by simpa using (List.getElem?_eq_some_iff.1 q1).1
   have hk0:j / 2=0:=by omega
   rw[hk0]at q1
   obtain rfl:prC x=e:=by simpa using q1
   have hj:j<2:=by omega
   rw[show j % 2=j by omega]at q2
   have h5:=hrd j c hj q2
   rw[Array.getD_eq_getD_getElem?,hA j hj]
   exact h5
  ·exact .any _
 have hno:∀ (j t k:Nat) (l:List (List AV)),(hcP G [x])[j]?≠some (.sl (some t) k l):=fun j t k l h=>(noOwn_cell (by omega) (prRow.all _) (prRow.noOwn _) h).1 t k l rfl
 have hhd:∀ (u:Nat),a1z (hcP G [x])≠some u:=fun u=>headT_no (fun c hc=>(noOwn_cell (by omega) (prRow.all _) (prRow.noOwn _) hc).2) u
 have hE:Ext W U W.drew U:=(Ext.refl W U).drew
 have hlc':(hcP G [x]).length=G * 2:=by rw[hcP,prRow.len_hc];congr 1;simp;omega
 have h6:=(hI.ext hE).newo (vs:=A) (cs:=hcP G [x]) (ty:=82) (by rw[hlc',hAs]) (fun u hu=>absurd hu (hhd u)) (fun j u hu=>⟨h1A u (Array.mem_of_getElem? hu),fun z hz=>⟨by
  have:=(hread j z hz).keep hE.keeps
  rwa [Array.getD_eq_getD_getElem?,hu,Option.getD_some]at this,fun e k l hz'=>absurd (hz'▸hz) (hno j e k l)⟩⟩)
 rw[show W.drew.heap.size=W.heap.size from rfl,lk_upd]at h6
 have hlgv:gv<W.heap.size:=(Array.getElem?_eq_some_iff.1 e1).1
 refine ⟨_,_,_,_,rfl,⟨W.heap.size,G,⟨by omega,by omega,by omega⟩,rfl,rfl⟩,fun b cs' h=>?_,h6.res1 (.hsl _ _ _ _ _ (by omega) hcm ⟨_,_,by have:=heap_alloc_new W.drew (.cells A 82);exact this⟩) (Sole.plain fun _ _ _ e=>by cases e)⟩
 simp only[lk_cons]at h ⊢
 by_cases q1:b=W.heap.size
 ·rw[if_pos q1];exact ⟨_,rfl⟩
 ·rw[if_neg q1];exact ⟨_,h⟩
section
variable {d:Option Nat} {s:St} {K:St→Prop}
theorem c_ins{g gv cap capv i:Nat}{L:List PrP}{x:PrP}{vs:List AV}{f:Nat}
  (h:(¬ gv=g∧¬ g=gv)→CT Tryz.prog f vs (lk [(g,hcP cap L),(gv,hcP capv [x])]) (fun r o=>∃ y,b5k g gv L.length y∧r=.hsl (y.1.getD g) 82 2 (L.length+1) y.2∧o=lk (b3K g gv cap capv i L x y)))
  (h1:∀ c,L.length+1≤c→KS (St.put ⟨s.t,ovr [(g,hcP c (a6n L i x)),(gv,hcP capv [x])] s.o⟩ d (.hsl g 82 2 (L.length+1) c)) K)
  (h2:∀ b c,s.o b=none→(¬ b=g∧¬ g=b)→(¬ b=gv∧¬ gv=b)→L.length+1≤c→KS (St.put ⟨s.t,ovr [(b,hcP c (a6n L i x)),(g,hcP cap L),(gv,hcP capv [x])] s.o⟩ d (.hsl b 82 2 (L.length+1) c)) K)
  (q1:s.o g=some (hcP cap L):=by first|((repeat (first|exact lk_hd _ _ _|(refine lk_tl ?_ ?_;(focus (first|assumption|(simp only[*,not_false_eq_true];done))))));done)|fail) (q2:s.o gv=some (hcP capv [x]):=by first|((repeat (first|exact lk_hd _ _ _|(refine lk_tl ?_ ?_;(focus (first|assumption|(simp only[*,not_false_eq_true];done))))));done)|fail) (q3:¬ gv=g∧¬ g=gv:=by simp only[*,not_false_eq_true,and_self]):a3w Tryz.prog f vs d s K:=by
 refine ⟨_,_,lk_sub2 q1 q2,h q3, ?_⟩
 rintro r o2 ⟨⟨y1,c⟩,⟨hc,hy⟩,rfl,rfl⟩ hf
 cases y1 with
 | none=>exact h1 c hc
 | some b=>
  obtain ⟨⟨a1,a2⟩,a3,a4⟩:=hy b rfl
  refine h2 b c (hf b (hcP c (a6n L i x)) (by simp[lk]) (by simp[lk,a1,a3])) ⟨a1,a2⟩ ⟨a3,a4⟩ hc
theorem c_ins0{gv capv:Nat}{x:PrP}{vs:List AV}{f:Nat}
  (h:CT Tryz.prog f vs (lk [(gv,hcP capv [x])]) (fun r o=>∃ b c,(1≤c∧¬ b=gv∧¬ gv=b)∧r=.hsl b 82 2 1 c∧o=lk [(b,hcP c [x]),(gv,hcP capv [x])]))
  (h2:∀ b c,s.o b=none→(¬ b=gv∧¬ gv=b)→1≤c→KS (St.put ⟨s.t,ovr [(b,hcP c [x]),(gv,hcP capv [x])] s.o⟩ d (.hsl b 82 2 1 c)) K)
  (q2:s.o gv=some (hcP capv [x]):=by first|((repeat (first|exact lk_hd _ _ _|(refine lk_tl ?_ ?_;(focus (first|assumption|(simp only[*,not_false_eq_true];done))))));done)|fail):a3w Tryz.prog f vs d s K:=by
 refine ⟨_,_,lk_sub1 q2,h, ?_⟩
 rintro r o2 ⟨b,c,⟨hc,a3,a4⟩,rfl,rfl⟩ hf
 exact h2 b c (hf b (hcP c [x]) (by simp[lk]) (by simp[lk,a3])) ⟨a3,a4⟩ hc
end
end
section
open Go.RowKit Go.Lib
set_option maxRecDepth 100000
theorem a4J(cap:Nat)(L:List PrP)(h:L.length≤cap):(hcP cap L).length=cap * 2:=by rw[hcP,prRow.len_hc];congr 1;omega
theorem b3Q(cap:Nat)(L:List PrP)(i:Nat)(hi:i<L.length)(k v:List UInt8):splice (hcP cap L) (i * 2) [.str k,.str v]=hcP cap (L.set i (k,v)):=prRow.sto cap L i (k,v) hi
theorem b3J(cap:Nat)(k v:List UInt8):hc 2 cap [[.str k,.str v]]=hcP cap [(k,v)]:=rfl
theorem setS_t{L:List PrP}{k:List UInt8}(h:a1I L k=true)(v:List UInt8):a3o L k v=L.set (a0z L k) (k,v):=by
 have hl:=has_lt h
 rw[a3o,if_pos h,List.set_eq_take_append_cons_drop,if_pos hl,List.append_assoc];rfl
theorem setS_f{L:List PrP}{k:List UInt8}(h:a1I L k=false)(v:List UInt8):a3o L k v=a6n L (a0z L k) (k,v):=by
 rw[a3o,if_neg (by simp[h])];rfl
def a6T(L:List PrP)(k v:List UInt8):List PrP:=if a1T k v=true then a3o L k v else L
def b0U(k v:List UInt8):Int:=if a1T k v=true then 0 else 1
theorem a9E(L:List PrP)(k v:List UInt8):(a6T L k v).length≤L.length+1:=by
 unfold a6T
 split
 ·cases h:a1I L k with
  | true=>rw[setS_t h];simp
  | false=>rw[setS_f h,a5q _ _ _ (a4B L k)];omega
 ·omega
abbrev b1K(s:Nat)(L L':List PrP)(x:StS)(E:Int):AV→(Nat→Option (List AV))→Prop:=fun r o=>∃ y,(stOk s L' y∧(y=none→x=none))∧r=.int .i64 E∧o=lk (ov (stO s L' y) (stO s L x))
theorem ro_st{st:St}{rs:List AR}{s:Nat}{L L':List PrP}{x:StS}{E:Int}(y:StS)(hy:stOk s L' y∧(y=none→x=none))(h:a0P st rs (.int .i64 E))(ho:LeL (ov (stO s L' y) (stO s L x)) st.o):
  b1W st rs (lk (stO s L x)) (b1K s L L' x E):=
 ⟨_,h,_,LeL_ok ho,fun b cs hb=>by
  rw[← ovr_lk]
  simp only[ovr,hb]
  cases lk (stO s L' y) b with
  | none=>exact ⟨_,rfl⟩
  | some z=>exact ⟨_,rfl⟩,y,hy,rfl,rfl⟩
theorem sxStr{A B:Prop}(h:B)(e:A=B:=by (simp (disch:=omega) only[*, ↓Ed,Eu, ↓reduceIte,reduceCtorEq,Nat.reduceAdd,Nat.reduceEqDiff,Nat.reduceLT,Nat.reduceLeDiff,Int.reduceToNat,Int.reduceEq,Int.reduceLT,Int.reduceLE,w64, ↓rkP, ↓a6h, ↓a6i,a0B,List.all_cons,List.all_nil,a4J,b3Q,b3J];first|done|rfl)):A:=e▸h
set_option maxHeartbeats 4000000 in
theorem a9L(s:Nat)(L:List PrP)(hL:a2a L)(hb:L.length≤100000)(k v:List UInt8)(hk:k.length≤1000000)(hv:v.length≤1000000)(x:StS)(hx:stOk s L x):
  CT Tryz.prog 15 [.ptr s 0,.str k,.str v] (lk (stO s L x)) (b1K s L (a6T L k v) x (b0U k v)):=by
 have hF:=b0Y s L hL (by omega) k x hx
 have hCk:=a7x k (by omega)
 have hCv:=a7x v (by omega)
 have hG:=fun g cap=>b3y g cap (k,v) hk hv
 have hP0:=fun gv cap=>b3z gv cap (k,v)
 have hpl:=a4B L k
 refine a4c _ _ _ (by simp) ?_
 cases hm:a1T k v with
 | false=>
  simp only[hm]at hG
  simp only[a6T,b0U,hm,Bool.false_eq_true,if_false]
  rcases x with _ | ⟨g,cap⟩
  ·clear hF hP0
   simp (disch:=omega) only[a0x,a0d, ↓Ed,Eu, ↓reduceIte,reduceCtorEq,Nat.reduceAdd,Nat.reduceEqDiff,Nat.reduceLT,Nat.reduceLeDiff,Int.reduceToNat,Int.reduceEq,Int.reduceLT,Int.reduceLE,w64, ↓rkP, ↓a6h, ↓a6i,a0B,List.all_cons,List.all_nil,a4J,b3Q,b3J]
   repeat' ((first|exact tt|refine CallO_pure (hCk) ?_|refine CallO_pure (hCv) ?_|refine c1 (hG _ _) ?_|refine na fun b=>?_|refine nb fun b hb=>?_|refine iq ?_|(refine jq ?_ ?_<;>intro h h')|refine Two_intro ?_ ?_|exact wZ|fail)<;>try refine sxStr ?_)
   all_goals exact ro_st (L:=L) (x:=none) none ⟨hx,fun _=>rfl⟩ (by simp[a0P,arR,lk]) (by simp[*,LeL,lk,a0d,ov_cons,ov_nil,del_cons,del_nil])
  ·have hgs:=hx.1
   clear hF hP0
   simp (disch:=omega) only[a0x,a0b,hgs, ↓Ed,Eu, ↓reduceIte,reduceCtorEq,Nat.reduceAdd,Nat.reduceEqDiff,Nat.reduceLT,Nat.reduceLeDiff,Int.reduceToNat,Int.reduceEq,Int.reduceLT,Int.reduceLE,w64, ↓rkP, ↓a6h, ↓a6i,a0B,List.all_cons,List.all_nil,a4J,b3Q,b3J]
   repeat' ((first|exact tt|refine CallO_pure (hCk) ?_|refine CallO_pure (hCv) ?_|refine c1 (hG _ _) ?_|refine na fun b=>?_|refine nb fun b hb=>?_|refine iq ?_|(refine jq ?_ ?_<;>intro h h')|refine Two_intro ?_ ?_|exact wZ|fail)<;>try refine sxStr ?_)
   all_goals exact ro_st (x:=some (g,cap)) (some (g,cap)) ⟨hx,fun h=>by cases h⟩ (by simp[a0P,arR,lk]) (by simp[*,LeL,lk,a0b,ov_cons,ov_nil,del_cons,del_nil])
 | true=>
  simp only[hm]at hG
  simp only[a6T,b0U,hm,if_true]
  cases hh:a1I L k with
  | true=>
   obtain ⟨g,cap,rfl⟩:=stOk_has hh hx
   have hlt:=has_lt hh
   rw[setS_t hh]
   rw[hh,a0b]at hF
   have hgs:=hx.1
   have hcap:L.length≤cap:=hx.2
   clear hP0 hpl
   simp (disch:=omega) only[a0x,a0b,hgs, ↓Ed,Eu, ↓reduceIte,reduceCtorEq,Nat.reduceAdd,Nat.reduceEqDiff,Nat.reduceLT,Nat.reduceLeDiff,Int.reduceToNat,Int.reduceEq,Int.reduceLT,Int.reduceLE,w64, ↓rkP, ↓a6h, ↓a6i,a0B,List.all_cons,List.all_nil,a4J,b3Q,b3J]
   repeat' ((first|exact tt|refine CallO_pure (hCk) ?_|refine CallO_pure (hCv) ?_|refine c1 (hG _ _) ?_|refine c2 (hF) ?_|refine na fun b=>?_|refine nb fun b hb=>?_|refine iq ?_|(refine jq ?_ ?_<;>intro h h')|refine Two_intro ?_ ?_|exact wZ|fail)<;>try refine sxStr ?_)
   all_goals exact ro_st (x:=some (g,cap)) (some (g,cap)) ⟨⟨hgs,by simpa using hcap⟩,fun h=>by cases h⟩ (by simp[a0P,arR,lk]) (by simp[*,LeL,lk,a0b,ov_cons,ov_nil,del_cons,del_nil])
  | false=>
   rw[setS_f hh]
   rcases x with _ | ⟨g,cap⟩
   ·obtain rfl:L=[]:=hx
    have e1:a0z [] k=0:=rfl
    have e2:a6n [] 0 (k,v)=[(k,v)]:=rfl
    rw[hh,a0d,e1]at hF
    rw[e1,e2]
    clear hpl
    simp (disch:=omega) only[a0x,a0d, ↓Ed,Eu, ↓reduceIte,reduceCtorEq,Nat.reduceAdd,Nat.reduceEqDiff,Nat.reduceLT,Nat.reduceLeDiff,Int.reduceToNat,Int.reduceEq,Int.reduceLT,Int.reduceLE,w64, ↓rkP, ↓a6h, ↓a6i,a0B,List.all_cons,List.all_nil,a4J,b3Q,b3J]
    repeat' ((first|exact tt|refine CallO_pure (hCk) ?_|refine CallO_pure (hCv) ?_|refine c1 (hG _ _) ?_|refine c1 (hF) ?_|(refine c_ins0 (hP0 _ _) (fun b c hb h2 hc=>?_);simp only[ln_cons2,ln_nil,and_true]at hb)|refine na fun b=>?_|refine nb fun b hb=>?_|refine iq ?_|(refine jq ?_ ?_<;>intro h h')|refine Two_intro ?_ ?_|exact wZ|fail)<;>try refine sxStr ?_)
    all_goals exact ro_st (L:=[]) (x:=none) (some (b,c)) ⟨⟨by simp only[*,not_false_eq_true,and_self],by assumption⟩,fun h=>by cases h⟩ (by simp[a0P,arR,lk]) (by simp[*,LeL,lk,a0b,a0d,ov_cons,ov_nil,del_cons,del_nil])
   ·have hgs:=hx.1
    have hcap:L.length≤cap:=hx.2
    rw[hh,a0b]at hF
    have hil:=a5q L (a0z L k) (k,v) hpl
    have hI:=fun gv capv (hgv:¬ gv=g∧¬ g=gv)=>b5d g gv cap capv (a0z L k) L (k,v) hgv hpl (by omega)
    clear hP0
    simp (disch:=omega) only[a0x,a0b,hgs, ↓Ed,Eu, ↓reduceIte,reduceCtorEq,Nat.reduceAdd,Nat.reduceEqDiff,Nat.reduceLT,Nat.reduceLeDiff,Int.reduceToNat,Int.reduceEq,Int.reduceLT,Int.reduceLE,w64, ↓rkP, ↓a6h, ↓a6i,a0B,List.all_cons,List.all_nil,a4J,b3Q,b3J]
    repeat' ((first|exact tt|refine CallO_pure (hCk) ?_|refine CallO_pure (hCv) ?_|refine c1 (hG _ _) ?_|refine c2 (hF) ?_|((refine c_ins (hI _ _) (fun c hc=>?_) (fun b c hn h2 h3 hc=>?_))<;>(try simp only[ln_cons2,ln_nil,and_true]at hn))|refine na fun b=>?_|refine nb fun b hb=>?_|refine iq ?_|(refine jq ?_ ?_<;>intro h h')|refine Two_intro ?_ ?_|exact wZ|fail)<;>try refine sxStr ?_)
    ·exact ro_st (L:=L) (x:=some (g,cap)) (some (g,c)) ⟨⟨hgs,by rw[hil];exact hc⟩,fun h=>by cases h⟩ (by simp[a0P,arR,lk]) (by simp[*,LeL,lk,a0b,ov_cons,ov_nil,del_cons,del_nil])
    ·exact ro_st (L:=L) (x:=some (g,cap)) (some (b,c)) ⟨⟨by simp only[*,not_false_eq_true,and_self],by rw[hil];exact hc⟩,fun h=>by cases h⟩ (by simp[a0P,arR,lk]) (by simp[*,LeL,lk,a0b,ov_cons,ov_nil,del_cons,del_nil])
section
variable {d:Option Nat} {st:St} {K:St→Prop}
theorem c_setG{f s:Nat}{vs:List AV}{L L':List PrP}{x:StS}{E:Int}(h:CT Tryz.prog f vs (lk (stO s L x)) (b1K s L L' x E))(hsub:∀ b cs,lk (stO s L x) b=some cs→st.o b=some cs)
  (hK:∀ y,stOk s L' y→(y=none→x=none)→(∀ g cap,y=some (g,cap)→lk (stO s L x) g=none→st.o g=none)→KS (St.put ⟨st.t,ovr (stO s L' y) st.o⟩ d (.int .i64 E)) K):a3w Tryz.prog f vs d st K:=by
 refine ⟨_,_,hsub,h, ?_⟩
 rintro r o2 ⟨y,⟨hy,hyx⟩,rfl,rfl⟩ hf
 have e:(fun b=>(lk (ov (stO s L' y) (stO s L x)) b).or (st.o b))=ovr (stO s L' y) st.o:=by
  funext b
  rw[← ovr_lk]
  simp only[ovr]
  cases h1:lk (stO s L' y) b with
  | some z=>rfl
  | none=>
   cases h2:lk (stO s L x) b with
   | none=>rfl
   | some z=>rw[hsub b z h2];rfl
 rw[e]
 refine hK y hy hyx fun g cap hg hn=>hf g (hcP cap L') ?_ hn
 subst hg
 rw[← ovr_lk]
 have h3:=hy.1
 simp[ovr,a0b,lk,h3]
theorem c_set0{f s:Nat}{vs:List AV}{L L':List PrP}{E:Int}(h:CT Tryz.prog f vs (lk [(s,[.nils 82 2])]) (b1K s L L' none E))
  (k0:stOk s L' none→KS (St.put ⟨st.t,ovr [(s,[.nils 82 2])] st.o⟩ d (.int .i64 E)) K)
  (k1:∀ b c,st.o b=none→(¬ b=s∧¬ s=b)→L'.length≤c→KS (St.put ⟨st.t,ovr [(s,[.hsl b 82 2 L'.length c]),(b,hcP c L')] st.o⟩ d (.int .i64 E)) K)
  (q1:st.o s=some [.nils 82 2]:=by first|((repeat (first|exact lk_hd _ _ _|(refine lk_tl ?_ ?_;(focus (first|assumption|(simp only[*,not_false_eq_true];done))))));done)|fail):a3w Tryz.prog f vs d st K:=by
 refine c_setG (x:=none) h (lk_sub1 q1) fun y hy _ hf=>?_
 rcases y with _ | ⟨b,c⟩
 ·exact k0 hy
 ·exact k1 b c (hf b c rfl (by simp[a0d,lk,hy.1])) hy.1 hy.2
theorem c_set1{f s g cap:Nat}{vs:List AV}{L L':List PrP}{E:Int}(h:CT Tryz.prog f vs (lk [(s,[.hsl g 82 2 L.length cap]),(g,hcP cap L)]) (b1K s L L' (some (g,cap)) E))
  (k1:∀ c,L'.length≤c→KS (St.put ⟨st.t,ovr [(s,[.hsl g 82 2 L'.length c]),(g,hcP c L')] st.o⟩ d (.int .i64 E)) K)
  (k2:∀ b c,st.o b=none→(¬ b=s∧¬ s=b)→L'.length≤c→KS (St.put ⟨st.t,ovr [(s,[.hsl b 82 2 L'.length c]),(b,hcP c L')] st.o⟩ d (.int .i64 E)) K)
  (q1:st.o s=some [.hsl g 82 2 L.length cap]:=by first|((repeat (first|exact lk_hd _ _ _|(refine lk_tl ?_ ?_;(focus (first|assumption|(simp only[*,not_false_eq_true];done))))));done)|fail) (q2:st.o g=some (hcP cap L):=by first|((repeat (first|exact lk_hd _ _ _|(refine lk_tl ?_ ?_;(focus (first|assumption|(simp only[*,not_false_eq_true];done))))));done)|fail):a3w Tryz.prog f vs d st K:=by
 refine c_setG (x:=some (g,cap)) h (lk_sub2 q1 q2) fun y hy hyx hf=>?_
 rcases y with _ | ⟨b,c⟩
 ·cases hyx rfl
 ·by_cases e:b=g
  ·subst e
   exact k1 c hy.2
  ·exact k2 b c (hf b c rfl (by simp[a0b,lk,hy.1,e])) hy.1 hy.2
end
end
section
open Go.RowKit Go.Shelf Go.Sort Go.Lib
set_option maxRecDepth 100000
section
variable {P:Program} {ρ:Ren}
theorem b0l(L:SlLaysE0.n41 P ρ)(i0:TypeInfo)(z:Value)(size bytes:Nat)(hi:P.info? (ρ.t 23)=some i0)(hz0:i0.zero=some z)(hz1:i0.size=size)(hz2:i0.bytes=bytes)(hzs:z.cells.size=size)(hsz:0<size)
  (z23:∀ w,(Go.sizeOf (ρ.t 23)).run P w=.ok size w) (els:List (List AV)) (hb:els.length * bytes≤140737488355328) (hl:els.length≤maxLen) (hs:∀ e∈els,e.length=size) (hf:∀ e∈els,a5O e=true)
  {W:World} {U:Nat→Nat→Prop} {o:Nat→Option (List AV)} (hI:Inv 0 W U (a0w W o) { tmps := #[],defers:=[] } W U ⟨fun _=>none,o⟩) {g a:Nat} {cs:List AV} (A:Option Addr) (cap:Nat)
  (hA:0<els.length→A=some ⟨g,a * size,none⟩∧o g=some cs∧a0G W g) (hr:∀ i l j x,els[i]?=some l→l[j]?=some x→cs[a * size+i * size+j]?=some x):
  Calls P (ρ.f 41) #[.slice A els.length cap] W fun e W'=>∃ v U' r o',e=.returned v∧(r=.sl (some (ρ.t 23)) size els∧o'=o)∧(∀ b cs,o b=some cs→∃ cs',o' b=some cs')∧
   Inv 1 W U (a0w W o) { tmps := #[v],defers:=[] } W' U' ⟨upd (fun _=>none) 0 (some r),o'⟩:=by
 have hget:∀ (i j:Nat) (l:List AV) (c:AV) (u:Value),els[i]?=some l→l[j]?=some c→(els.flatMap a0V)[i * size+j]?=some u→∀ W U,VR W U u c:=by
  intro i j l c u hl' hc hu W2 U2
  have hi':i<els.length:=(List.getElem?_eq_some_iff.1 hl').1
  have hm:l∈els:=List.mem_of_getElem? hl'
  have hj:j<size:=by rw[← hs l hm];exact (List.getElem?_eq_some_iff.1 hc).1
  rw[flatM_get els i j hs hi' hj]at hu
  have e:els.getD i []=l:=by simp[List.getD,hl']
  rw[e]at hu
  exact (a1s l (hf l hm) j c u hc hu).1 W2 U2
 have hone:∀ u∈els.flatMap a0V,u.oneCell'=true:=by
  intro u hu
  obtain ⟨e,he,h2⟩:=List.mem_flatMap.1 hu
  exact plainV_one (hf e he) u h2
 have fin:∀ (W':World) (v':Value),RowKit.Below W.heap.size W W'→W'.ownsRow W.heap.size (ρ.t 23) size v' els.length (els.flatMap a0V)→
   ∃ v U' r o',Ending.returned v'=.returned v∧(r=.sl (some (ρ.t 23)) size els∧o'=o)∧(∀ b cs,o b=some cs→∃ cs',o' b=some cs')∧Inv 1 W U (a0w W o) { tmps := #[v],defers:=[] } W' U' ⟨upd (fun _=>none) 0 (some r),o'⟩:=by
  intro W' v' hbl hrow
  obtain ⟨U',r1,r2,r3⟩:=row_VR (U:=U) (e:=ρ.t 23) (k:=size) (els:=els) hsz hbl hrow rfl hs hone hget
  exact ⟨v',U',_,o,rfl,⟨rfl,rfl⟩,fun b cs h=>⟨cs,h⟩,hI.res2 r3 r1 fun e sz els hr=>by cases hr;exact r2⟩
 rcases Nat.eq_zero_or_pos els.length with h0|h0
 ·obtain rfl:els=[]:=List.eq_nil_of_length_eq_zero h0
  cases A with
  | none=>
   refine (AnyE.slices_Clone_nil L 0 cap W).mono ?_
   rintro e W' ⟨rfl,rfl⟩
   exact fin _ _ (RowKit.Below.refl _ _) ⟨by simp,.inl ⟨rfl,rfl⟩⟩
  | some a=>
   refine (b1l L i0 z size bytes hi hz0 hz1 hz2 hzs hsz z23 a cap W).mono ?_
   rintro e W' ⟨v',rfl,hrow,hbl⟩
   exact fin W' v' hbl (by simpa using hrow)
 ·obtain ⟨rfl,hg,hm⟩:=hA h0
  obtain ⟨cur,ty,g1,g2,g3,g4,g5⟩:=hI.obc (b:=g) (cs:=cs) hg hm
  refine (AnyE.slices_Clone L i0 z size bytes hi hz0 hz1 hz2 hzs hsz z23 g (a * size) els.length cap (els.flatMap a0V) W (flatM_len els hs) hl hb (fun t u hu=>?_) hone).mono ?_
  ·have ht:t<els.length * size:=by rw[← flatM_len els hs];exact (List.getElem?_eq_some_iff.1 hu).1
   have hi':t / size<els.length:=(Nat.div_lt_iff_lt_mul hsz).2 ht
   have hj:t % size<size:=Nat.mod_lt _ hsz
   have e:t / size * size+t % size=t:=by rw[Nat.mul_comm];exact Nat.div_add_mod t size
   have hm:els.getD (t / size) []∈els:=by rw[List.getD,List.getElem?_eq_getElem hi',Option.getD_some];exact List.getElem_mem hi'
   have hle:=hs _ hm
   have hc2:=List.getElem?_eq_getElem (l:=els.getD (t / size) []) (i:=t % size) (by rw[hle];exact hj)
   have hcs:=hr (t / size) _ (t % size) _ (by rw[List.getD,List.getElem?_eq_getElem hi',Option.getD_some]) hc2
   have hvr:=(g3 _ _ hcs).1
   have hlt:=(List.getElem?_eq_some_iff.1 hcs).1
   have hu2:=flatM_get els (t / size) (t % size) hs hi' hj
   rw[e,hu]at hu2
   have:=(a1s _ (hf _ hm) (t % size) _ u hc2 hu2.symm).2.1 W U _ hvr
   rw[show a * size+t=a * size+t / size * size+t % size by omega,cell_of_row W g _ cur _ (0,0) g1,Array.getElem?_eq_getElem (by omega), ← this,Array.getD_eq_getD_getElem?,Array.getElem?_eq_getElem (by omega)]
   rfl
  ·rintro e W' ⟨v',rfl,hrow,_,hbl⟩
   exact fin W' v' hbl hrow
end
def prR(L:List PrP):List (List AV):=L.map prC
theorem a0g(L:List PrP):(prR L).length=L.length:=by simp[prR]
theorem a0i(L:List PrP)(i:Nat)(h:i<L.length):(prR L).getD i []=prC (L.getD i default):=by simp[prR,h]
theorem b2j(cap:Nat)(L:List PrP)(a m:Nat)(h:a+m≤L.length):∀ i l j x,(prR ((L.drop a).take m))[i]?=some l→l[j]?=some x→(hcP cap L)[a * 2+i * 2+j]?=some x:=by
 intro i l j x h1 h2
 have hi:i<m:=by have:=(List.getElem?_eq_some_iff.1 h1).1;simp[prR]at this;omega
 have h3:(L.map prC)[a+i]?=some l:=by
  rw[prR,List.getElem?_map,List.getElem?_take_of_lt hi,List.getElem?_drop]at h1
  rw[List.getElem?_map];exact h1
 have hj:j<2:=by
  have:=prRow.all L l (List.mem_of_getElem? h3)
  have:=(List.getElem?_eq_some_iff.1 h2).1
  omega
 rw[← Nat.add_mul,hcP,hc_get (prRow.all L) h3 hj]
 exact h2
theorem t_clnV{W:World}{U:Nat→Nat→Prop}{o:Nat→Option (List AV)}(hI:Inv 0 W U (a0w W o) { tmps := #[],defers:=[] } W U ⟨fun _=>none,o⟩){g a:Nat}{cs:List AV}(M:List PrP)(hM:M.length≤1000000)(A:Option Addr)(cap:Nat)
  (hA:0<M.length→A=some ⟨g,a * 2,none⟩∧o g=some cs∧a0G W g) (hr:∀ i l j x,(prR M)[i]?=some l→l[j]?=some x→cs[a * 2+i * 2+j]?=some x):
  Calls Tryz.prog 53 #[.slice A M.length cap] W fun e W'=>∃ v U' r o',e=.returned v∧(r=.sl (some 82) 2 (prR M)∧o'=o)∧(∀ b cs,o b=some cs→∃ cs',o' b=some cs')∧
   Inv 1 W U (a0w W o) { tmps := #[v],defers:=[] } W' U' ⟨upd (fun _=>none) 0 (some r),o'⟩:=by
 obtain ⟨i0,hi,hz0,hz1,hz2⟩:=info_parts (P:=Tryz.prog) (e:=82) (z:=zPr) (size:=2) (bytes:=32) (by kernel_rfl)
 have:=b0l Tryz.cln53 i0 _ 2 32 hi hz0 hz1 hz2 rfl (by omega) Tryz.sizeOf82 (prR M) (by rw[a0g];omega) (by rw[a0g];unfold maxLen;omega) (fun e he=>by obtain ⟨x,_,rfl⟩:=List.mem_map.1 he;rfl) (fun e he=>by obtain ⟨x,_,rfl⟩:=List.mem_map.1 he;rfl) hI (g:=g) (a:=a) (cs:=cs) A cap (by rw[a0g];exact hA) hr
 rwa [a0g]at this
theorem b5e(g cap:Nat)(L:List PrP)(hb:L.length≤1000000):CT Tryz.prog 53 [.hsl g 82 2 L.length cap] (lk [(g,hcP cap L)]) (fun r o=>r=.sl (some 82) 2 (prR L)∧o=lk [(g,hcP cap L)]):=by
 intro W U vs hlen hv hI
 obtain ⟨v,rfl⟩:∃ v,vs=[v]:=by
  match vs,hlen with
  | [v],_=>exact ⟨v,rfl⟩
 have h:=hv 0 v _ rfl rfl
 cases h with
 | hsl _ _ _ _ _ n1 n2 hm=>
 obtain ⟨c1,c2,c3⟩:=hm
 exact t_clnV hI (g:=g) (a:=0) (cs:=hcP cap L) L hb _ cap (fun _=>⟨by simp,by simp[lk],⟨_,_,_,c3⟩⟩) (by have:=b2j cap L 0 L.length (by omega);simpa using this)
theorem b2A:CT Tryz.prog 53 [.hnil 82 2] (lk []) (fun r o=>r=.sl (some 82) 2 (prR [])∧o=lk []):=by
 intro W U vs hlen hv hI
 obtain ⟨v,rfl⟩:∃ v,vs=[v]:=by
  match vs,hlen with
  | [v],_=>exact ⟨v,rfl⟩
 have h:=hv 0 v _ rfl rfl
 cases h
 exact t_clnV hI (g:=0) (a:=0) (cs:=[]) [] (by simp) none 0 (fun h=>by simp at h) (fun i l j x h=>by simp[prR]at h)
theorem b5f(g cap a m:Nat)(L:List PrP)(hb:L.length≤1000000)(ham:a+m≤L.length):CT Tryz.prog 53 [.hss g 2 a m] (lk [(g,hcP cap L)]) (fun r o=>r=.sl (some 82) 2 (prR ((L.drop a).take m))∧o=lk [(g,hcP cap L)]):=by
 intro W U vs hlen hv hI
 obtain ⟨v,rfl⟩:∃ v,vs=[v]:=by
  match vs,hlen with
  | [v],_=>exact ⟨v,rfl⟩
 have h:=hv 0 v _ rfl rfl
 cases h with
 | hss A _ _ _ _ c n1 n2 hA hm=>
 have hM:((L.drop a).take m).length=m:=by simp;omega
 have:=t_clnV hI (g:=g) (a:=a) (cs:=hcP cap L) ((L.drop a).take m) (by omega) A c (fun h=>⟨hA (by omega),by simp[lk],hm⟩) (b2j cap L a m ham)
 rwa [hM]at this
theorem sxClp{A B:Prop}(h:B)(e:A=B:=by (simp (disch:=omega) only[*, ↓Ed,Eu, ↓reduceIte,reduceCtorEq,Nat.reduceAdd,Nat.reduceEqDiff,Nat.reduceLT,Nat.reduceLeDiff,Int.reduceToNat,Int.reduceEq,Int.reduceLT,Int.reduceLE,w64, ↓rkP, ↓a6h, ↓a6i];first|done|rfl)):A:=e▸h
theorem a7L(s:Nat)(L:List PrP)(hb:L.length≤1000000)(x:StS)(hx:stOk s L x):
  CT Tryz.prog 23 [.ptr s 0] (lk (stO s L x)) (fun r o=>r=.sl (some 82) 2 (prR L)∧o=lk (stO s L x)):=by
 refine a3k _ _ _ (by simp) ?_
 rcases x with _ | ⟨g,cap⟩
 ·obtain rfl:L=[]:=hx
  have hC:=b2A
  simp (disch:=omega) only[a1a,a0d, ↓Ed,Eu, ↓reduceIte,reduceCtorEq,Nat.reduceAdd,Nat.reduceEqDiff,Nat.reduceLT,Nat.reduceLeDiff,Int.reduceToNat,Int.reduceEq,Int.reduceLT,Int.reduceLE,w64, ↓rkP, ↓a6h, ↓a6i]
  repeat' ((first|exact tt|(refine c0 hC ?_)|refine na fun b=>?_|refine nb fun b hb=>?_|refine iq ?_|(refine jq ?_ ?_<;>intro h h')|refine Two_intro ?_ ?_|exact wZ|fail)<;>try refine sxClp ?_)
  all_goals exact ro_mk (by simp[LeL,lk,a0P,arR]) (a1X _)
 ·have hgs:=hx.1
  clear hx
  have hC:=b5e g cap L hb
  simp (disch:=omega) only[a1a,a0b,hgs, ↓Ed,Eu, ↓reduceIte,reduceCtorEq,Nat.reduceAdd,Nat.reduceEqDiff,Nat.reduceLT,Nat.reduceLeDiff,Int.reduceToNat,Int.reduceEq,Int.reduceLT,Int.reduceLE,w64, ↓rkP, ↓a6h, ↓a6i]
  repeat' ((first|exact tt|refine c1 (hC) ?_|refine na fun b=>?_|refine nb fun b hb=>?_|refine iq ?_|(refine jq ?_ ?_<;>intro h h')|refine Two_intro ?_ ?_|exact wZ|fail)<;>try refine sxClp ?_)
  all_goals exact ro_mk (by simp[LeL,lk,hgs,a0P,arR]) (a1X _)
theorem b1D(s p:List UInt8):CP Tryz.prog 90 [.str s,.str p] (.bool (Lib.hasPrefix s p)):=
 CP_lib (vs:=[.string ⟨s.toArray⟩,.string ⟨p.toArray⟩]) (v:=.bool (Lib.hasPrefix s p)) rfl (by simp) rfl fun W=>
  (Tryz.strings_HasPrefix ⟨s.toArray⟩ ⟨p.toArray⟩ W).mono fun e w' ⟨h1,h2⟩=>⟨h1,h2▸Below.refl _ _⟩
def a2z(L:List PrP)(f:List UInt8):List PrP:=(L.drop (a0z L f)).takeWhile fun p=>Lib.hasPrefix p.1 f
theorem takeW_eq{α:Type}[Inhabited α](q:α→Bool):∀ (L:List α) (m:Nat),m≤L.length→(∀ i,i<m→q (L.getD i default)=true)→(m<L.length→q (L.getD m default)=false)→L.takeWhile q=L.take m
 | [],m,h,_,_=>by simp
 | a::r,0,_,_,h2=>by
  have:=h2 (by simp)
  simp only[List.getD_cons_zero]at this
  simp[List.takeWhile_cons,this]
 | a::r,m+1,h,h1,h2=>by
  have:=h1 0 (by omega)
  simp only[List.getD_cons_zero]at this
  rw[List.takeWhile_cons,if_pos this,List.take_succ_cons,takeW_eq q r m (by simpa using h) (fun i hi=>by simpa using h1 (i+1) (by omega)) (fun hm=>by simpa using h2 (by simpa using hm))]
theorem underS_eq{L:List PrP}{f:List UInt8}{m:Nat}(h:a0z L f+m≤L.length)(h1:∀ i,i<m→Lib.hasPrefix (L.getD (a0z L f+i) default).1 f=true)(h2:a0z L f+m<L.length→Lib.hasPrefix (L.getD (a0z L f+m) default).1 f=false):
  a2z L f=(L.drop (a0z L f)).take m:=by
 have e:∀ i,(L.drop (a0z L f)).getD i default=L.getD (a0z L f+i) default:=fun i=>by simp[List.getD,List.getElem?_drop]
 exact takeW_eq _ _ m (by rw[List.length_drop];omega) (fun i hi=>by rw[e];exact h1 i hi) (fun hm=>by rw[e];exact h2 (by rw[List.length_drop]at hm;omega))
set_option maxHeartbeats 4000000 in
theorem b1P(s:Nat)(L:List PrP)(hL:a2a L)(hb:L.length≤1000000)(f:List UInt8)(x:StS)(hx:stOk s L x):
  CT Tryz.prog 56 [.ptr s 0,.str f] (lk (stO s L x)) (fun r o=>r=.sl (some 82) 2 (prR (a2z L f))∧o=lk (stO s L x)):=by
 have hF:=b0Y s L hL hb f x hx
 have hP:=fun p=>b1D p f
 refine a3l _ _ _ (by simp) ?_
 rcases x with _ | ⟨g,cap⟩
 ·obtain rfl:L=[]:=hx
  have e1:a0z [] f=0:=rfl
  have e2:a2z [] f=[]:=rfl
  have hC:=b2A
  rw[a0d,e1]at hF
  rw[e2]
  simp (disch:=omega) only[a1b,a0d, ↓Ed,Eu, ↓reduceIte,reduceCtorEq,Nat.reduceAdd,Nat.reduceEqDiff,Nat.reduceLT,Nat.reduceLeDiff,Int.reduceToNat,Int.reduceEq,Int.reduceLT,Int.reduceLE,w64, ↓rkP, ↓a6h, ↓a6i]
  repeat' ((first|exact tt|refine c1 (hF) ?_|refine na fun b=>?_|refine nb fun b hb=>?_|refine iq ?_|(refine jq ?_ ?_<;>intro h h')|refine Two_intro ?_ ?_|exact wZ|fail)<;>try refine sxClp ?_)
  refine wpx_loop (fun _:Nat=>⟨lk [(0,.ptr s 0),(1,.str f),(5,.int .i64 0),(7,.int .i64 0)],lk [(s,[.nils 82 2])]⟩) (fun _=>True) (fun _=>0) 0 trivial (Le_lit (by simp[LeL,lk])) ?_
  intro _ _
  refine sxClp ?_
  repeat' ((first|exact tt|(refine c0 hC ?_)|refine na fun b=>?_|refine nb fun b hb=>?_|refine iq ?_|(refine jq ?_ ?_<;>intro h h')|refine Two_intro ?_ ?_|exact wZ|fail)<;>try refine sxClp ?_)
  all_goals exact ro_mk (by simp[LeL,lk,a0P,arR]) (a1X _)
 ·have hgs:=hx.1
  have hpl:=a4B L f
  have hU:=fun m=>underS_eq (L:=L) (f:=f) (m:=m)
  have hC:=fun a m=>b5f g cap a m L hb
  rw[a0b]at hF
  clear hx
  generalize a0z L f=p at *
  simp (disch:=omega) only[a1b,a0b,hgs, ↓Ed,Eu, ↓reduceIte,reduceCtorEq,Nat.reduceAdd,Nat.reduceEqDiff,Nat.reduceLT,Nat.reduceLeDiff,Int.reduceToNat,Int.reduceEq,Int.reduceLT,Int.reduceLE,w64, ↓rkP, ↓a6h, ↓a6i]
  repeat' ((first|exact tt|refine c2 (hF) ?_|refine na fun b=>?_|refine nb fun b hb=>?_|refine iq ?_|(refine jq ?_ ?_<;>intro h h')|refine Two_intro ?_ ?_|exact wZ|fail)<;>try refine sxClp ?_)
  refine wpx_loop (fun m:Nat=>⟨lk [(0,.ptr s 0),(1,.str f),(5,.int .i64 (p:Int)),(7,.int .i64 ((p+m:Nat):Int))],lk [(s,[.hsl g 82 2 L.length cap]),(g,hcP cap L)]⟩) (fun m=>p+m≤L.length∧∀ i,i<m→Lib.hasPrefix (L.getD (p+i) default).1 f=true) (fun m=>L.length - m) 0 ⟨by omega,by omega⟩ (Le_lit (by simp[LeL,lk,hgs])) ?_
  intro m ⟨i1,i2⟩
  have hUm:=hU m i1 i2
  have hCm:=hC p m i1
  clear hU hF hC
  by_cases hlt:p+m<L.length
  ·have f1:a0f (decide (((p+m:Nat):Int)<L.length)=true):=fo
   have hPm:=hP (L.getD (p+m) default).1
   clear hP
   cases hq:Lib.hasPrefix (L.getD (p+m) default).1 f with
   | true=>
    rw[hq]at hPm
    clear hUm hCm
    generalize hq':p+m=q at hPm hlt f1 hq ⊢
    refine sxClp ?_
    repeat' ((first|exact tt|refine CallO_pure (hPm) ?_|refine na fun b=>?_|refine nb fun b hb=>?_|refine iq ?_|(refine jq ?_ ?_<;>intro h h')|refine Two_intro ?_ ?_|exact wZ|fail)<;>try refine sxClp ?_)
    all_goals exact Round_lit (m+1) ⟨Le_lit (by simp[LeL,lk,hgs, ← Nat.add_assoc,hq']),⟨by omega,fun i hi=>(by
     by_cases e:i<m
     ·exact i2 i e
     ·obtain rfl:i=m:=by omega
      rw[hq'];exact hq)⟩,by omega⟩
   | false=>
    rw[hUm fun _=>hq]
    rw[hq]at hPm
    clear hUm i2 hq
    generalize hq':p+m=q at hPm hlt f1 ⊢
    have hqm:q - p=m:=by omega
    refine sxClp ?_
    repeat' ((first|exact tt|refine CallO_pure (hPm) ?_|refine c1 (hCm) ?_|refine na fun b=>?_|refine nb fun b hb=>?_|refine iq ?_|(refine jq ?_ ?_<;>intro h h')|refine Two_intro ?_ ?_|exact wZ|fail)<;>try refine sxClp ?_)
    all_goals exact ro_mk (by simp[LeL,lk,hgs,a0P,arR]) (a1X _)
  ·have f1:a0f (decide (((p+m:Nat):Int)<L.length)=false):=fo
   rw[hUm fun h=>absurd h hlt]
   clear hUm i2 hP
   generalize hq':p+m=q at hlt f1 i1 ⊢
   have hqm:q - p=m:=by omega
   refine sxClp ?_
   repeat' ((first|exact tt|refine c1 (hCm) ?_|refine na fun b=>?_|refine nb fun b hb=>?_|refine iq ?_|(refine jq ?_ ?_<;>intro h h')|refine Two_intro ?_ ?_|exact wZ|fail)<;>try refine sxClp ?_)
   all_goals exact ro_mk (by simp[LeL,lk,hgs,a0P,arR]) (a1X _)
end
section
open Go.RowKit
set_option maxRecDepth 100000
theorem below_grow{W:World}{n:Nat}{os:Array Obj}:Below W.heap.size W (Sort.grow (W.drewN n) os):=
 ⟨rfl,rfl,rfl,by simp[Sort.grow,World.drewN],fun k hk=>by simp[Sort.grow,World.drewN,Array.getElem?_append,hk]⟩
theorem maxLen_cell{W:World}{U:Nat→Nat→Prop}(h:Glob W U):∃ m,W.cell? ⟨0,0,none⟩=some (.int .i64 m):=by
 obtain ⟨⟨cs,ty,fr,e,m,hm⟩,_⟩:=h (0,fun cs=>∃ m,cs[0]?=some (.int .i64 m)) (by simp[a1k])
 exact ⟨m,by simp[World.cell?,e,hm]⟩
theorem pow_tab{W:World}{U:Nat→Nat→Prop}(h:Glob W U):Lib.TabIs Tryz.prog W "internal/strconv.uint64pow10" .u64 Lib.pow10Tab:=by
 obtain ⟨⟨cs,ty,fr,e,rfl⟩,_⟩:=h (1,fun cs=>cs=(Lib.pow10Tab.map fun z=>Value.int .u64 z).toArray) (by simp[a1k])
 have hg:Tryz.prog.globalNamed "internal/strconv.uint64pow10" = some 1:=by kernel_rfl
 simp only[Lib.TabIs,World.var?,hg,Option.bind_some,e]
theorem b2q(n:Int)(h : -9223372036854775808≤n∧n≤9223372036854775807):CP Tryz.prog 69 [.int .i64 n] (.str (Lib.itoa n)):=
 CP_libG (vs:=[.int .i64 n]) (v:=.string ⟨(Lib.itoa n).toArray⟩) rfl (by simp) rfl fun W U hG=>
  (Tryz.strconv_Itoa n h.1 h.2 W (pow_tab hG)).mono fun e w' ⟨h1,k,os,h2⟩=>⟨h1,h2▸below_grow⟩
theorem a8X(s p:List UInt8):CP Tryz.prog 106 [.str s,.str p] (.tup [.str (Lib.trimPrefix s p),.bool (Lib.hasPrefix s p)]):=
 CP_lib (vs:=[.string ⟨s.toArray⟩,.string ⟨p.toArray⟩]) (v:=.tuple #[.string ⟨(Lib.trimPrefix s p).toArray⟩,.bool (Lib.hasPrefix s p)]) rfl (by simp) rfl fun W=>
  (Tryz.strings_CutPrefix ⟨s.toArray⟩ ⟨p.toArray⟩ W).mono fun e w' ⟨h1,h2⟩=>⟨h1,h2▸Below.refl _ _⟩
abbrev digs:List UInt8:=[48,49,50,51,52,53,54,55,56,57]
theorem b3c(s:List UInt8)(hs:s.length≤16000000):CP Tryz.prog 107 [.str s,.str digs] (.str (Lib.trimS s digs)):=
 CP_lib (vs:=[.string ⟨s.toArray⟩,.string ⟨digs.toArray⟩]) (v:=.string ⟨(Lib.trimS s digs).toArray⟩) rfl (by simp) rfl fun W=>
  (Any.strings_Trim_laid Tryz.lays160 (by kernel_rfl) ⟨s.toArray⟩ ⟨digs.toArray⟩ W (by rw[a8z];omega) (by decide) (ascii_of_all (by decide))).mono fun e w' ⟨g1,g2⟩=>⟨g1,g2⟩
def pieces(s:List UInt8):List (List UInt8):=Lib.splitK [47] 0 (Lib.countB ⟨s.toArray⟩ ⟨#[47]⟩) s
theorem a7D(s:List UInt8)(hs:s.length≤1000000):CP Tryz.prog 91 [.str s,.str [47]] (.sl none 1 ((pieces s).map fun p=>[AV.str p])):=by
 intro W U us hG hl hu
 obtain ⟨m,hm⟩:=maxLen_cell hG
 have he:us=[.string ⟨s.toArray⟩,.string ⟨#[47]⟩]:=by
  match us,hl with
  | [a,b],_=>
   have h1:=(hu 0 a _ rfl rfl).str_inv
   have h2:=(hu 1 b _ rfl rfl).str_inv
   rw[h1,h2]
 subst he
 refine (Tryz.strings_Split ⟨s.toArray⟩ ⟨#[47]⟩ m W (by rw[a8z];omega) hm (by decide)).mono ?_
 rintro e W' ⟨rfl,rfl⟩
 have hd:=Lib.splitB_data ⟨#[47]⟩ 0 (Lib.countB ⟨s.toArray⟩ ⟨#[47]⟩) ⟨s.toArray⟩
 have hn:=Lib.splitB_all ⟨#[47]⟩ (by decide) 0 (Lib.countB ⟨s.toArray⟩ ⟨#[47]⟩) ⟨s.toArray⟩ rfl
 have hle:=Lib.countB_le ⟨#[47]⟩ (by decide) s.length ⟨s.toArray⟩ (by rw[a8z];exact Nat.le_refl _)
 rw[a8z]at hle
 have hp:pieces s=(Lib.splitB ⟨#[47]⟩ 0 (Lib.countB ⟨s.toArray⟩ ⟨#[47]⟩) ⟨s.toArray⟩).map (·.data.toList):=hd.symm
 generalize hB:Lib.splitB ⟨#[47]⟩ 0 (Lib.countB ⟨s.toArray⟩ ⟨#[47]⟩) ⟨s.toArray⟩=B at hn hp
 generalize hc:Lib.countB ⟨s.toArray⟩ ⟨#[47]⟩=c at hn hle
 have hE:=Ext.alloc W U (.cells (B.map Value.string).toArray 9) (fun _=>False)
 refine ⟨_,_,rfl, ?_,trivial,hE⟩
 rw[hp]
 have hlen:c+1=((B.map (·.data.toList)).map fun p=>[AV.str p]).length:=by simp[hn]
 rw[hlen]
 refine .sl _ _ none _ W.heap.size 0 1 (fun i _=>(B.map Value.string).getD i undef) (Nat.le_refl _) ?_ (fun _=>rfl) (fun e he=>?_) (fun i j hi hj=>?_) (fun i e j x he hx=>?_)
 ·rw[← hlen];unfold maxLen;omega
 ·simp only[List.map_map,List.mem_map,Function.comp]at he
  obtain ⟨a,_,rfl⟩:=he
  rfl
 ·have hi':i<B.length:=by simpa using hi
  obtain rfl:j=0:=by omega
  refine ⟨?_, ?_,by simp⟩
  ·have e:(W.alloc (.cells (B.map Value.string).toArray 9)).heap[W.heap.size]?=some (.cells (B.map Value.string).toArray 9):=by simp only[World.alloc,Array.getElem?_push_size]
   have e2:0+i * 1+0=i:=by omega
   rw[e2]
   simp only[World.cell?,e]
   simp[hi']
  ·simp[hi',Value.oneCell']
 ·simp only[List.map_map,List.getElem?_map,Option.map_eq_some_iff,Function.comp]at he
  obtain ⟨a,ha,rfl⟩:=he
  cases j with
  | zero=>
   simp only[List.getElem?_cons_zero,Option.some.injEq]at hx
   subst hx
   have:(B.map Value.string).getD i undef=.string a:=by simp[ha]
   show VR _ _ ((B.map Value.string).getD i undef) _
   rw[this]
   exact .str _
  | succ j=>simp at hx
end
end Go.Proofs.YthdcogkdacnheaaGreatDoor
