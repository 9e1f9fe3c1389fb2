import Derived.Test.YtfgihnhoocnmdaaGreatDoorK14
import Derived.Test.YtfgihnhoocnmdaaGreatDoorK11
import Derived.Test.YtfgihnhoocnmdaaGreatDoorK15
import Derived.Test.YtfgihnhoocnmdaaGreatDoorK12
namespace Go.Proofs.YtfgihnhoocnmdaaGreatDoor
set_option linter.all false
set_option maxHeartbeats 9000000
section
set_option maxRecDepth 100000
theorem c1T(l:List UInt8):(⟨l.toArray⟩:ByteArray).size=l.length:=by simp[ByteArray.size]
theorem b1L(s:List UInt8)(hs:s.length≤281474976710656):CP Tryz.prog 146 [.str s] (.str s):=
 CP_lib (vs:=[.string ⟨s.toArray⟩]) (v:=.string ⟨s.toArray⟩) rfl (by simp) rfl fun W=>Tryz.stringslite_Clone _ W (by rw[c1T];exact hs)
theorem sxLia{A B:Prop}(h:B)(e:A=B:=by (simp (disch:=omega) only[*, ↓Ed,Eu, ↓reduceIte,reduceCtorEq,Nat.reduceAdd,Nat.reduceEqDiff,Nat.reduceLT,Nat.reduceLeDiff,Int.reduceToNat,Int.reduceEq,Int.reduceLT,Int.reduceLE,w64];first|done|rfl)):A:=e▸h
theorem b2C(s:List UInt8)(hs:s.length≤281474976710656):CP Tryz.prog 78 [.str s] (.str s):=by
 refine a7e _ _ (by simp) ?_
 simp only[a3F];refine sxLia ?_
 repeat' ((first|exact tt|refine CallO_pure (b1L _ (by omega)) ?_|refine na fun b=>?_|refine nb fun b hb=>?_|refine iq ?_|(refine jq ?_ ?_<;>intro h h')|refine Two_intro ?_ ?_|exact wZ|fail)<;>try refine sxLia ?_)
end
section
open Go.RowKit Go.Lib
set_option maxRecDepth 100000
theorem rkP(cap:Nat)(L:List PrP)(i:Nat)(hi:i<L.length)(K:AV→Prop):RK (ldR (some 2) ((hcP cap L).drop (i * 2))) K=K (.agg (prC (L.getD i default))):=prRow.ld cap L i default hi K
theorem b3G(cap:Nat)(L:List PrP)(i j:Nat)(hi:i<L.length)(hj:j<2):∃ r,(hcP cap L).drop (i * 2+j)=(prC (L.getD i default)).getD j .undef::r:=by
 have h:=prRow.drop_take cap L i default hi
 have e:((hcP cap L).drop (i * 2+j))[0]?=(prC (L.getD i default))[j]?:=by
  rw[← h,List.getElem?_take_of_lt hj,List.getElem?_drop,List.getElem?_drop];rfl
 generalize (hcP cap L).drop (i * 2+j)=X at e
 rcases X with _ | ⟨a,X⟩
 ·rcases j with _|_|j<;>simp at e
  omega
 ·refine ⟨X, ?_⟩
  congr 1
  simp only[List.getElem?_cons_zero]at e
  rw[List.getD, ← e];rfl
theorem a8i(cap:Nat)(L:List PrP)(i:Nat)(hi:i<L.length)(K:AV→Prop):RK (ldR none ((hcP cap L).drop (i * 2))) K=K (.str (L.getD i default).1):=by
 obtain ⟨r,h⟩:=b3G cap L i 0 hi (by omega)
 rw[Nat.add_zero]at h
 rw[h,l_onef,RK_eq];rfl
theorem a8j(cap:Nat)(L:List PrP)(i:Nat)(hi:i<L.length)(K:AV→Prop):RK (ldR none ((hcP cap L).drop (i * 2+1))) K=K (.str (L.getD i default).2):=by
 obtain ⟨r,h⟩:=b3G cap L i 1 hi (by omega)
 rw[h,l_onef,RK_eq];rfl
theorem a2B(o:List (Nat × List AV)):∀ b cs,lk o b=some cs→∃ cs',lk o b=some cs':=fun b cs h=>⟨cs,h⟩
theorem b4t:∀ a b:List UInt8,decide (Lib.compareBytes a b<0)=ltS a b
 | [],[]=>by simp[Lib.compareBytes,ltS,bytesLess_eq]
 | [],_::_=>by simp[Lib.compareBytes,ltS,bytesLess_eq]
 | _::_,[]=>by simp[Lib.compareBytes,ltS,bytesLess_eq]
 | x::a,y::b=>by
  have ih:=b4t a b
  simp only[ltS,bytesLess_eq,List.cons_lt_cons_iff]at ih ⊢
  unfold Lib.compareBytes
  by_cases h:x<y
  ·simp[h]
  ·by_cases g:y<x
   ·have:¬ x=y:=fun e=>by subst e;exact h g
    simp[h,g,this]
   ·have:x=y:=UInt8.le_antisymm (UInt8.not_lt.1 g) (UInt8.not_lt.1 h)
    simp[h,g,this,ih]
theorem b4s:∀ a b:List UInt8,decide (Lib.compareBytes a b=0)=decide (a=b)
 | [],[]=>by simp[Lib.compareBytes]
 | [],_::_=>by simp[Lib.compareBytes]
 | _::_,[]=>by simp[Lib.compareBytes]
 | x::a,y::b=>by
  have ih:=b4s a b
  unfold Lib.compareBytes
  by_cases h:x<y
  ·have:¬ x=y:=fun e=>by subst e;exact absurd h (UInt8.lt_irrefl x)
   simp[h,this]
  ·by_cases g:y<x
   ·have:¬ x=y:=fun e=>by subst e;exact h g
    simp[h,g,this]
   ·have:x=y:=UInt8.le_antisymm (UInt8.not_lt.1 g) (UInt8.not_lt.1 h)
    simpa[h,g,this]using ih
theorem b4M(a b:List UInt8):CP Tryz.prog 108 [.str a,.str b] (.int .i64 (Lib.compareBytes a b)):=
 CP_lib (vs:=[.string ⟨a.toArray⟩,.string ⟨b.toArray⟩]) (v:=.int .i64 (Lib.compareBytes a b)) rfl (by simp) rfl fun W=>
  (Tryz.strings_Compare ⟨a.toArray⟩ ⟨b.toArray⟩ W).mono fun e w' ⟨h1,h2⟩=>⟨by simpa using h1,h2▸Below.refl _ _⟩
theorem sxSto{A B:Prop}(h:B)(e:A=B:=by (simp (disch:=omega) only[*, ↓Ed,Eu, ↓reduceIte,reduceCtorEq,Nat.reduceAdd,Nat.reduceEqDiff,Nat.reduceLT,Nat.reduceLeDiff,Int.reduceToNat,Int.reduceEq,Int.reduceLT,Int.reduceLE,w64, ↓rkP, ↓a8i, ↓a8j];first|done|rfl)):A:=e▸h
theorem c0R(p:PrP)(k:List UInt8):CP Tryz.prog 107 [.agg (prC p),.str k] (.int .i64 (Lib.compareBytes p.1 k)):=by
 have hC:=b4M p.1 k
 refine a3K _ _ (by simp) ?_
 simp only[a1X];refine sxSto ?_
 repeat' ((first|exact tt|refine CallO_pure (hC) ?_|refine na fun b=>?_|refine nb fun b hb=>?_|refine iq ?_|(refine jq ?_ ?_<;>intro h h')|refine Two_intro ?_ ?_|exact wZ|fail)<;>try refine sxSto ?_)
abbrev StS:=Option (Nat × Nat)
def stV(L:List PrP):StS→AV
 | none=>.nils 115 2
 | some (g,cap)=>.hsl g 115 2 L.length cap
def c2x(L:List PrP):StS→AV
 | none=>.hnil 115 2
 | some (g,cap)=>.hsl g 115 2 L.length cap
def stR(L:List PrP):StS→List (Nat × List AV)
 | none=>[]
 | some (g,cap)=>[(g,hcP cap L)]
def stO(s:Nat)(L:List PrP)(x:StS):List (Nat × List AV):=(s,[stV L x])::stR L x
def stOk(s:Nat)(L:List PrP):StS→Prop
 | none=>L=[]
 | some (g,cap)=>(¬ g=s∧¬ s=g)∧L.length≤cap
theorem wu64{x:Int}(h:0≤x∧x≤18446744073709551615):IntKind.u64.wrap x=x:=by rw[IntKind.wrap_u64];omega
theorem c2M(a:Int):a.fdiv (2 ^ (min (Int.toNat 1) IntKind.u64.bits))=a / 2:=by
 show a.fdiv 2=a / 2
 rw[Int.fdiv_eq_ediv_of_nonneg _ (by omega)]
theorem b6t(i j m:Nat)(h:m=(i+j) / 2)(hb:i+j≤1000000000):IntKind.i64.wrap ((IntKind.u64.wrap ((i:Int)+(j:Int))).fdiv (2 ^ (min 1 IntKind.u64.bits)))=(m:Int):=by
 have:=c2M ((i:Int)+j)
 rw[wu64 (by omega)]
 refine (congrArg _ this).trans ?_
 rw[w64 (by omega)];omega
theorem has_f{L:List PrP}{k:List UInt8}(h:¬ a0v L k<L.length):a1G L k=false:=by simp[a1G,h]
theorem has_c{L:List PrP}{k:List UInt8}(h:a0v L k<L.length):a1G L k=decide (Lib.compareBytes (L.getD (a0v L k) default).1 k=0):=by rw[b4s];simp[a1G,h]
theorem b3C(L:List PrP):c2x L none=.hnil 115 2:=rfl
theorem b1M(L:List PrP)(g cap:Nat):c2x L (some (g,cap))=.hsl g 115 2 L.length cap:=rfl
theorem b5E(L:List PrP):stR L none=[]:=rfl
theorem b3F(L:List PrP)(g cap:Nat):stR L (some (g,cap))=[(g,hcP cap L)]:=rfl
set_option maxHeartbeats 4000000 in
theorem c2O(s:Nat)(L:List PrP)(hL:a2Q L)(hb:L.length≤1000000)(k:List UInt8)(x:StS)(hx:stOk s L x):
  CT Tryz.prog 106 [c2x L x,.str k,.fn 107] (lk (stR L x)) (fun r o=>r=.tup [.int .i64 (a0v L k:Nat),.bool (a1G L k)]∧o=lk (stR L x)):=by
 have hF:=fun p=>c0R p k
 have hB:b1a Tryz.prog 107=true:=by kernel_rfl
 have hpl:=a5y L k
 refine a0p _ _ _ (by simp) ?_
 rcases x with _ | ⟨g,cap⟩
 ·obtain rfl:L=[]:=hx
  have e1:a0v [] k=0:=rfl
  have e2:a1G [] k=false:=rfl
  simp (disch:=omega) only[a0i,b3C,b5E,e1,e2, ↓Ed,Eu, ↓reduceIte,reduceCtorEq,Nat.reduceAdd,Nat.reduceEqDiff,Nat.reduceLT,Nat.reduceLeDiff,Int.reduceToNat,Int.reduceEq,Int.reduceLT,Int.reduceLE,w64, ↓rkP, ↓a8i, ↓a8j]
  repeat' ((first|exact tt|refine na fun b=>?_|refine nb fun b hb=>?_|refine iq ?_|(refine jq ?_ ?_<;>intro h h')|refine Two_intro ?_ ?_|exact wZ|fail)<;>try refine sxSto ?_)
  refine wpx_loop (fun _:Nat=>⟨lk [(0,.hnil 115 2),(1,.str k),(2,.fn 107),(8,.int .i64 0),(9,.int .i64 0),(10,.int .i64 0)],lk []⟩) (fun _=>True) (fun _=>0) 0 trivial (Le_lit (by simp[LeL,lk])) ?_
  intro _ _
  refine sxSto ?_
  repeat' ((first|exact tt|refine na fun b=>?_|refine nb fun b hb=>?_|refine iq ?_|(refine jq ?_ ?_<;>intro h h')|refine Two_intro ?_ ?_|exact wZ|fail)<;>try refine sxSto ?_)
  all_goals exact ro_mk (by simp[LeL,lk,r_two,rl_cons,rl_nil,arR,al_int,al_bool]) (a2B _)
 ·have hc:L.length≤cap:=hx.2
  clear hx
  simp (disch:=omega) only[a0i,b1M,b3F, ↓Ed,Eu, ↓reduceIte,reduceCtorEq,Nat.reduceAdd,Nat.reduceEqDiff,Nat.reduceLT,Nat.reduceLeDiff,Int.reduceToNat,Int.reduceEq,Int.reduceLT,Int.reduceLE,w64, ↓rkP, ↓a8i, ↓a8j]
  repeat' ((first|exact tt|refine na fun b=>?_|refine nb fun b hb=>?_|refine iq ?_|(refine jq ?_ ?_<;>intro h h')|refine Two_intro ?_ ?_|exact wZ|fail)<;>try refine sxSto ?_)
  refine wpx_loop (fun z:Nat × Nat=>⟨lk [(0,.hsl g 115 2 L.length cap),(1,.str k),(2,.fn 107),(8,.int .i64 (L.length:Int)),(9,.int .i64 (z.1:Int)),(10,.int .i64 (z.2:Int))],lk [(g,hcP cap L)]⟩)
   (fun z=>z.1≤z.2∧z.2≤L.length∧(∀ i,i<z.1→ltS (L.getD i default).1 k=true)∧(∀ i,z.2≤i→i<L.length→ltS (L.getD i default).1 k=false)) (fun z=>z.2 - z.1) (0,L.length) ⟨by omega,by omega,by omega,by omega⟩ (Le_lit (by simp[LeL,lk])) ?_
  rintro ⟨i,j⟩ ⟨i1,i2,i3,i4⟩
  simp only at i1 i2 i3 i4
  by_cases hij:i<j
  ·have f1:a0d (decide ((i:Int)<j)=true):=fo
   obtain ⟨m,hm⟩:∃ m:Nat,m=(i+j) / 2:=⟨_,rfl⟩
   have he:=b6t i j m hm (by omega)
   have hm2:i≤m∧m<j:=by omega
   clear hm
   have hd:=b4t (L.getD m default).1 k
   have hbf:∀ n,n≤m→ltS (L.getD m default).1 k=true→ltS (L.getD n default).1 k=true:=fun n hn h1=>by
    by_cases e:n=m
    ·subst e;exact h1
    ·exact strSTO.tr _ _ _ (riseS_get hL (by omega) (by omega)) h1
   have hbh:∀ n,m≤n→n<L.length→ltS (L.getD m default).1 k=false→ltS (L.getD n default).1 k=false:=fun n hn hl h1=>by
    by_cases e:n=m
    ·subst e;exact h1
    ·cases hq:ltS (L.getD n default).1 k with
     | false=>rfl
     | true=>rw[strSTO.tr _ _ _ (riseS_get hL (by omega) hl) hq]at h1;cases h1
   have hFm:=hF (L.getD m default)
   clear hF hpl
   cases hq:ltS (L.getD m default).1 k with
   | true=>
    rw[hq]at hd
    have f2:a0d (decide (Lib.compareBytes (L.getD m default).1 k<0)=true):=hd
    clear hd
    refine sxSto ?_
    repeat' ((first|exact tt|refine CallO_pure (hFm) ?_|refine na fun b=>?_|refine nb fun b hb=>?_|refine iq ?_|(refine jq ?_ ?_<;>intro h h')|refine Two_intro ?_ ?_|exact wZ|fail)<;>try refine sxSto ?_)
    all_goals exact Round_lit (m+1,j) ⟨Le_lit (by simp[LeL,lk]),⟨by simp only;omega,i2,fun n hn=>hbf n (by simp only at hn;omega) hq,i4⟩,by simp only;omega⟩
   | false=>
    rw[hq]at hd
    have f2:a0d (decide (Lib.compareBytes (L.getD m default).1 k<0)=false):=hd
    clear hd
    refine sxSto ?_
    repeat' ((first|exact tt|refine CallO_pure (hFm) ?_|refine na fun b=>?_|refine nb fun b hb=>?_|refine iq ?_|(refine jq ?_ ?_<;>intro h h')|refine Two_intro ?_ ?_|exact wZ|fail)<;>try refine sxSto ?_)
    all_goals exact Round_lit (i,m) ⟨Le_lit (by simp[LeL,lk]),⟨by simp only;omega,by simp only;omega,i3,fun n hn hl=>hbh n hn hl hq⟩,by simp only;omega⟩
  ·obtain rfl:i=j:=by omega
   have hp:a0v L k=i:=pos_unique hL k i i2 i3 i4
   have f1:a0d (decide ((i:Int)<i)=false):=fo
   clear i1 i3 i4 hij
   by_cases hil:i<L.length
   ·have f2:a0d (decide ((i:Int)<L.length)=true):=fo
    have hh:=has_c (L:=L) (k:=k) (by rw[hp];exact hil)
    rw[hp]at hh
    have hFm:=hF (L.getD i default)
    clear hF hpl
    rw[hh,hp]
    clear hh
    refine sxSto ?_
    repeat' ((first|exact tt|refine CallO_pure (hFm) ?_|refine na fun b=>?_|refine nb fun b hb=>?_|refine iq ?_|(refine jq ?_ ?_<;>intro h h')|refine Two_intro ?_ ?_|exact wZ|fail)<;>try refine sxSto ?_)
    all_goals exact ro_mk (by simp[LeL,lk,r_two,rl_cons,rl_nil,arR,al_int,al_bool]) (a2B _)
   ·have f2:a0d (decide ((i:Int)<L.length)=false):=fo
    rw[has_f (L:=L) (k:=k) (by omega),hp]
    clear hF hpl
    refine sxSto ?_
    repeat' ((first|exact tt|refine na fun b=>?_|refine nb fun b hb=>?_|refine iq ?_|(refine jq ?_ ?_<;>intro h h')|refine Two_intro ?_ ?_|exact wZ|fail)<;>try refine sxSto ?_)
    all_goals exact ro_mk (by simp[LeL,lk,r_two,rl_cons,rl_nil,arR,al_int,al_bool]) (a2B _)
end
section
open Go.RowKit Go.Lib
set_option maxRecDepth 100000
section
variable {P:Program} {d:Option Nat} {s:St} {K:St→Prop}
theorem c0{f:Nat}{vs:List AV}{r:AV}(h:CT P f vs (lk []) (fun r' o'=>r'=r∧o'=lk []))(hK:KS (St.put ⟨s.t,ovr [] s.o⟩ d r) K):a2b P f vs d s K:=CallO_det h (fun b cs h=>by cases h) hK
end
theorem a0f(s:Nat)(L:List PrP):stO s L none=[(s,[.nils 115 2])]:=rfl
theorem a0b(s:Nat)(L:List PrP)(g cap:Nat):stO s L (some (g,cap))=[(s,[.hsl g 115 2 L.length cap]),(g,hcP cap L)]:=rfl
theorem sxStp{A B:Prop}(h:B)(e:A=B:=by (simp (disch:=omega) only[*, ↓Ed,Eu, ↓reduceIte,reduceCtorEq,Nat.reduceAdd,Nat.reduceEqDiff,Nat.reduceLT,Nat.reduceLeDiff,Int.reduceToNat,Int.reduceEq,Int.reduceLT,Int.reduceLE,w64, ↓rkP, ↓a8i, ↓a8j];first|done|rfl)):A:=e▸h
theorem c0l(s:Nat)(L:List PrP)(hL:a2Q L)(hb:L.length≤1000000)(k:List UInt8)(x:StS)(hx:stOk s L x):
  CT Tryz.prog 48 [.ptr s 0,.str k] (lk (stO s L x)) (fun r o=>r=.tup [.int .i64 (a0v L k:Nat),.bool (a1G L k)]∧o=lk (stO s L x)):=by
 have hS:=c2O s L hL hb k x hx
 refine a4d _ _ _ (by simp) ?_
 rcases x with _ | ⟨g,cap⟩
 ·rw[b5E,b3C]at hS
  clear hL hb hx
  simp (disch:=omega) only[a1o,a0f, ↓Ed,Eu, ↓reduceIte,reduceCtorEq,Nat.reduceAdd,Nat.reduceEqDiff,Nat.reduceLT,Nat.reduceLeDiff,Int.reduceToNat,Int.reduceEq,Int.reduceLT,Int.reduceLE,w64, ↓rkP, ↓a8i, ↓a8j]
  repeat' ((first|exact tt|(refine c0 hS ?_)|refine na fun b=>?_|refine nb fun b hb=>?_|refine iq ?_|(refine jq ?_ ?_<;>intro h h')|refine Two_intro ?_ ?_|exact wZ|fail)<;>try refine sxStp ?_)
  all_goals exact ro_mk (by simp[LeL,lk,r_two,rl_cons,rl_nil,arR,al_int,al_bool]) (a2B _)
 ·rw[b3F,b1M]at hS
  have hgs:=hx.1
  clear hL hb hx
  simp (disch:=omega) only[a1o,a0b,hgs, ↓Ed,Eu, ↓reduceIte,reduceCtorEq,Nat.reduceAdd,Nat.reduceEqDiff,Nat.reduceLT,Nat.reduceLeDiff,Int.reduceToNat,Int.reduceEq,Int.reduceLT,Int.reduceLE,w64, ↓rkP, ↓a8i, ↓a8j]
  repeat' ((first|exact tt|refine c1 (hS) ?_|refine na fun b=>?_|refine nb fun b hb=>?_|refine iq ?_|(refine jq ?_ ?_<;>intro h h')|refine Two_intro ?_ ?_|exact wZ|fail)<;>try refine sxStp ?_)
  all_goals exact ro_mk (by simp[LeL,lk,hgs,r_two,rl_cons,rl_nil,arR,al_int,al_bool]) (a2B _)
theorem getS_t{L:List PrP}{k:List UInt8}(h:a1G L k=true):a4E L k=(L.getD (a0v L k) default).2:=by simp only[a4E,if_pos h]
theorem getS_f{L:List PrP}{k:List UInt8}(h:a1G L k=false):a4E L k=[]:=by simp[a4E,h]
theorem has_lt{L:List PrP}{k:List UInt8}(h:a1G L k=true):a0v L k<L.length:=by simp only[a1G,Bool.and_eq_true,decide_eq_true_eq]at h;exact h.1
theorem stOk_has{s:Nat}{L:List PrP}{k:List UInt8}(h:a1G L k=true){x:StS}(hx:stOk s L x):∃ g cap,x=some (g,cap):=by
 rcases x with _ | ⟨g,cap⟩
 ·obtain rfl:L=[]:=hx
  simp[a1G,a0v]at h
 ·exact ⟨g,cap,rfl⟩
theorem c0m(s:Nat)(L:List PrP)(hL:a2Q L)(hb:L.length≤1000000)(k:List UInt8)(x:StS)(hx:stOk s L x):
  CT Tryz.prog 15 [.ptr s 0,.str k] (lk (stO s L x)) (fun r o=>r=.tup [.str (a4E L k),.bool (a1G L k)]∧o=lk (stO s L x)):=by
 have hF:=c0l s L hL hb k x hx
 refine a4T _ _ _ (by simp) ?_
 cases hh:a1G L k with
 | false=>
  rw[getS_f hh]
  rw[hh]at hF
  clear hL hb
  rcases x with _ | ⟨g,cap⟩
  ·rw[a0f]at hF
   clear hx
   simp (disch:=omega) only[a0X,a0f, ↓Ed,Eu, ↓reduceIte,reduceCtorEq,Nat.reduceAdd,Nat.reduceEqDiff,Nat.reduceLT,Nat.reduceLeDiff,Int.reduceToNat,Int.reduceEq,Int.reduceLT,Int.reduceLE,w64, ↓rkP, ↓a8i, ↓a8j]
   repeat' ((first|exact tt|refine c1 (hF) ?_|refine na fun b=>?_|refine nb fun b hb=>?_|refine iq ?_|(refine jq ?_ ?_<;>intro h h')|refine Two_intro ?_ ?_|exact wZ|fail)<;>try refine sxStp ?_)
   all_goals exact ro_mk (by simp[LeL,lk,r_two,rl_cons,rl_nil,arR,al_str,al_bool]) (a2B _)
  ·rw[a0b]at hF
   have hgs:=hx.1
   clear hx
   simp (disch:=omega) only[a0X,a0b,hgs, ↓Ed,Eu, ↓reduceIte,reduceCtorEq,Nat.reduceAdd,Nat.reduceEqDiff,Nat.reduceLT,Nat.reduceLeDiff,Int.reduceToNat,Int.reduceEq,Int.reduceLT,Int.reduceLE,w64, ↓rkP, ↓a8i, ↓a8j]
   repeat' ((first|exact tt|refine c2 (hF) ?_|refine na fun b=>?_|refine nb fun b hb=>?_|refine iq ?_|(refine jq ?_ ?_<;>intro h h')|refine Two_intro ?_ ?_|exact wZ|fail)<;>try refine sxStp ?_)
   all_goals exact ro_mk (by simp[LeL,lk,hgs,r_two,rl_cons,rl_nil,arR,al_str,al_bool]) (a2B _)
 | true=>
  obtain ⟨g,cap,rfl⟩:=stOk_has hh hx
  have hlt:=has_lt hh
  rw[getS_t hh]
  rw[hh,a0b]at hF
  have hgs:=hx.1
  clear hL hb hx hh
  simp (disch:=omega) only[a0X,a0b,hgs, ↓Ed,Eu, ↓reduceIte,reduceCtorEq,Nat.reduceAdd,Nat.reduceEqDiff,Nat.reduceLT,Nat.reduceLeDiff,Int.reduceToNat,Int.reduceEq,Int.reduceLT,Int.reduceLE,w64, ↓rkP, ↓a8i, ↓a8j]
  repeat' ((first|exact tt|refine c2 (hF) ?_|refine na fun b=>?_|refine nb fun b hb=>?_|refine iq ?_|(refine jq ?_ ?_<;>intro h h')|refine Two_intro ?_ ?_|exact wZ|fail)<;>try refine sxStp ?_)
  all_goals exact ro_mk (by simp[LeL,lk,hgs,r_two,rl_cons,rl_nil,arR,al_str,al_bool]) (a2B _)
theorem c0n:CT Tryz.prog 24 [] (fun _=>none) (fun r o=>∃ b,r=.ptr b 0∧o=lk [(b,[.nils 115 2])]):=by
 refine b0s _ (lk []) _ (by simp) ?_
 simp only[a7H];refine sxStp ?_
 repeat' ((first|exact tt|refine na fun b=>?_|refine nb fun b hb=>?_|refine iq ?_|(refine jq ?_ ?_<;>intro h h')|refine Two_intro ?_ ?_|exact wZ|fail)<;>try refine sxStp ?_)
 all_goals exact ro_new ⟨rfl,by simp[LeL,lk]⟩
def a0Z(k v:List UInt8):Bool:=decide (1≤k.length∧k.length≤160∧1≤v.length∧v.length≤64)
theorem b5a(k v:List UInt8)(hk:k.length≤1000000)(hv:v.length≤1000000):CP Tryz.prog 147 [.str k,.str v] (.bool (a0Z k v)):=by
 refine a7c _ _ (by simp) ?_
 have e1:∀ l:List UInt8,decide (l=[])=decide (l.length=0):=fun l=>by simp[List.length_eq_zero_iff]
 have e:a0Z k v=(((!decide (k.length=0))&&decide ((k.length:Int)≤160))&&(!decide (v.length=0))&&decide ((v.length:Int)≤64)):=by
  unfold a0Z
  rw[Bool.eq_iff_iff]
  simp only[Bool.and_eq_true,Bool.not_eq_true',decide_eq_true_eq,decide_eq_false_iff_not]
  omega
 rw[e]
 simp only[a4q];refine sxStp ?_
 repeat' ((first|exact tt|refine na fun b=>?_|refine nb fun b hb=>?_|refine iq ?_|(refine jq ?_ ?_<;>intro h h')|refine Two_intro ?_ ?_|exact wZ|fail)<;>try refine sxStp ?_)
 all_goals (rw[Bool.eq_iff_iff];simp only[a0d,Bool.and_eq_true,Bool.not_eq_true',Bool.not_eq_false',Bool.false_eq_true,decide_eq_true_eq,decide_eq_false_iff_not]at *;refine ⟨fun h=>?_,fun h=>?_⟩<;>first|exact h.elim|omega)
end
section
open Go.RowKit Go.Lib
set_option maxRecDepth 100000
theorem sxStq{A B:Prop}(h:B)(e:A=B:=by (simp (disch:=omega) only[*, ↓Ed,Eu, ↓reduceIte,reduceCtorEq,Nat.reduceAdd,Nat.reduceEqDiff,Nat.reduceLT,Nat.reduceLeDiff,Int.reduceToNat,Int.reduceEq,Int.reduceLT,Int.reduceLE,w64, ↓rkP, ↓a8i, ↓a8j,List.length_singleton,Int.natCast_one];first|done|rfl)):A:=e▸h
theorem c1j(g cap:Nat)(x:PrP)(hk:x.1.length≤1000000)(hv:x.2.length≤1000000):
  CT Tryz.prog 79 [.hsl g 115 2 1 cap] (lk [(g,hcP cap [x])]) (fun r o=>r=.bool (a0Z x.1 x.2)∧o=lk [(g,hcP cap [x])]):=by
 have hS:=b5a x.1 x.2 hk hv
 refine a9i _ _ _ (by simp) ?_
 simp only[a6I];refine sxStq ?_
 repeat' ((first|exact tt|refine na fun b=>?_|refine nb fun b hb=>?_|refine iq ?_|(refine jq ?_ ?_<;>intro h h')|refine Two_intro ?_ ?_|exact wZ|fail)<;>try refine sxStq ?_)
 refine wpx_loop (fun i:Nat=>⟨lk [(0,.hsl g 115 2 1 cap),(5,.hsl g 115 2 1 cap),(6,.int .i64 1),(7,.int .i64 (i:Int))],lk [(g,hcP cap [x])]⟩) (fun i=>i≤1∧(i=1→a0Z x.1 x.2=true)) (fun i=>1 - i) 0 ⟨by omega,by omega⟩ (Le_lit (by simp[LeL,lk])) ?_
 intro i ⟨hi,hm⟩
 by_cases hi1:i<1
 ·have f1:a0d (decide ((i:Int)<1)=true):=fo
  have f2:a0d (decide ((0:Int)<i)=false):=fo
  have hl:i<[x].length:=by simpa using hi1
  have he:[x].getD i default=x:=by
   obtain rfl:i=0:=by omega
   rfl
  clear hm
  cases hq:a0Z x.1 x.2 with
  | false=>
   rw[hq]at hS
   refine sxStq ?_
   repeat' ((first|exact tt|refine CallW_intro (hS) ?_|refine CallO_pure (hS) ?_|refine na fun b=>?_|refine nb fun b hb=>?_|refine iq ?_|(refine jq ?_ ?_<;>intro h h')|refine Two_intro ?_ ?_|exact wZ|fail)<;>try refine sxStq ?_)
   all_goals exact ro_mk (by simp[LeL,lk,a1a,arR]) (a2B _)
  | true=>
   rw[hq]at hS
   refine sxStq ?_
   repeat' ((first|exact tt|refine CallW_intro (hS) ?_|refine CallO_pure (hS) ?_|refine na fun b=>?_|refine nb fun b hb=>?_|refine iq ?_|(refine jq ?_ ?_<;>intro h h')|refine Two_intro ?_ ?_|exact wZ|fail)<;>try refine sxStq ?_)
   all_goals exact Round_lit (i+1) ⟨Le_lit (by simp[LeL,lk, *]),⟨by omega,fun _=>(by first|trivial|exact hq)⟩,by omega⟩
 ·have f1:a0d (decide ((i:Int)<1)=false):=fo
  rw[hm (by omega)]
  refine sxStq ?_
  repeat' ((first|exact tt|refine na fun b=>?_|refine nb fun b hb=>?_|refine iq ?_|(refine jq ?_ ?_<;>intro h h')|refine Two_intro ?_ ?_|exact wZ|fail)<;>try refine sxStq ?_)
  all_goals exact ro_mk (by simp[LeL,lk,a1a,arR]) (a2B _)
end
section
open Go.RowKit Go.Lib
set_option maxRecDepth 100000
set_option maxHeartbeats 8000000 in
theorem c1k(gv capv:Nat)(x:PrP):
  CT Tryz.prog 80 [.hnil 115 2,.int .i64 0,.hsl gv 115 2 1 capv] (lk [(gv,hcP capv [x])])
   (fun r o=>∃ b c,(1≤c∧¬ b=gv∧¬ gv=b)∧r=.hsl b 115 2 1 c∧o=lk [(b,hcP c [x]),(gv,hcP capv [x])]):=by
 intro W U vs hlen hv hI
 obtain ⟨v0,v1,v2,rfl⟩:∃ v0 v1 v2,vs=[v0,v1,v2]:=by
  match vs,hlen with
  | [v0,v1,v2],_=>exact ⟨v0,v1,v2,rfl⟩
 have h0:=hv 0 v0 _ rfl rfl
 have h1:=hv 1 v1 _ rfl rfl
 have h2:=hv 2 v2 _ rfl rfl
 cases h0
 cases h2 with
 | hsl _ _ _ _ _ m1 m2 hm2=>
 cases h1
 obtain ⟨_,_,d3⟩:=hm2
 obtain ⟨cuv,tv,e1,e2,e3,e4,e5⟩:=hI.obc (b:=gv) (cs:=hcP capv [x]) (by simp[lk]) ⟨_,_,_,d3⟩
 have htv:tv.1=115:=by
  have h:=d3.symm.trans e1
  simp only[Option.some.injEq,Obj.cells.injEq]at h
  exact h.2.1.symm
 rw[htv]at e1
 have s2:cuv.size=capv * 2:=by rw[e2,hcP,prRow.len_hc];congr 1;simp;omega
 obtain ⟨ws,hws⟩:∃ ws:List Value,ws=cuv.toList.take 2:=⟨_,rfl⟩
 have hlw:cuv.toList.length=cuv.size:=Array.length_toList
 have hwl:ws.length=2:=by rw[hws,List.length_take];omega
 have hwe:∀ j v,ws[j]?=some v→cuv[j]?=some v∧j<2:=fun j v h=>by
  have hj:=(List.getElem?_eq_some_iff.1 h).1
  rw[hws,List.getElem?_take_of_lt (by omega)]at h
  exact ⟨by simpa using h,by omega⟩
 have hwell:∀ j v,ws[j]?=some v→W.cell? ⟨gv,j,none⟩=some v:=fun j v h=>by rw[cell_of_row W gv j cuv _ (0,0) e1];exact (hwe j v h).1
 have h1w:∀ v∈ws,v.oneCell'=true:=fun v h=>by
  obtain ⟨j,hj,rfl⟩:=List.getElem_of_mem h
  have h5:=(hwe j _ (List.getElem?_eq_getElem hj))
  have:=(e3 j _ (List.getElem?_eq_getElem (l:=hcP capv [x]) (by omega))).2
  rwa [Array.getD_eq_getD_getElem?,h5.1,Option.getD_some]at this
 have hrd:∀ j c,j<2→(prC x)[j]?=some c→VR W U (ws.getD j undef) c:=fun j c hj hc=>by
  have h5:=hc_get (sz:=2) (cap:=capv) (prRow.all [x]) (i:=0) (j:=j) (e:=prC x) (by simp) hj
  have h6:=(e3 (0 * 2+j) c (by rw[hcP,h5];exact hc)).1
  rw[Nat.zero_mul,Nat.zero_add]at h6
  have e:ws.getD j undef=cuv.getD j undef:=by
   rw[hws,List.getD,List.getElem?_take_of_lt hj,Array.getD_eq_getD_getElem?];simp
  rw[e];exact h6
 refine (a6J none 0 0 gv capv [] ws W (by omega) (by omega) (by omega) rfl hwl (fun _=>rfl) (fun a ha=>by cases ha) hwell h1w).mono ?_
 rintro e W' ⟨rfl,rfl⟩
 have hge:=grownCap_ge W (0+1) 0 115
 have hcm:=grownCap_le_maxLen W (0+1) 0 115 (by unfold maxLen;omega)
 rw[List.nil_append]
 generalize grownCap W (0+1) 0 115=G at *
 obtain ⟨A,hAd⟩:∃ A:Array Value,A=ws.toArray++Builtin.zeroCells zPr.cells (G - (0+1)):=⟨_,rfl⟩
 rw[← hAd]
 have hAs:A.size=G * 2:=by
  rw[hAd,Array.size_append,size_zeroCells,List.size_toArray,hwl]
  show 2+(_ - _) * 2=_;omega
 have hA:∀ j,j<2→A[j]?=ws[j]?:=fun j hj=>by
  rw[hAd,Array.getElem?_append_left (by rw[List.size_toArray];omega),List.getElem?_toArray]
 have h1A:∀ v∈A,v.oneCell'=true:=fun v hv'=>by
  rw[hAd]at hv'
  rcases Array.mem_append.1 hv' with h|h
  ·exact h1w v (by simpa using h)
  ·have:=mem_zeroCells h
   have h9:v=.string ⟨#[]⟩:=by simpa[zPr,Value.cells]using this
   rw[h9];rfl
 have hread:∀ j c,(hcP G [x])[j]?=some c→VR W U (A.getD j undef) c:=fun j c hc=>by
  rcases hc_cases (sz:=2) (by omega) (prRow.all [x]) hc with ⟨e,q1,q2⟩ | ⟨rfl,_⟩
  ·have hk:j / 2<1:=by simpa using (List.getElem?_eq_some_iff.1 q1).1
   have hk0:j / 2=0:=by omega
   rw[hk0]at q1
   obtain rfl:prC x=e:=by simpa using q1
   have hj:j<2:=by omega
   rw[show j % 2=j by omega]at q2
   have h5:=hrd j c hj q2
   rw[Array.getD_eq_getD_getElem?,hA j hj]
   exact h5
  ·exact .any _
 have hno:∀ (j t k:Nat) (l:List (List AV)),(hcP G [x])[j]?≠some (.sl (some t) k l):=fun j t k l h=>(noOwn_cell (by omega) (prRow.all _) (prRow.noOwn _) h).1 t k l rfl
 have hhd:∀ (u:Nat),a1p (hcP G [x])≠some u:=fun u=>headT_no (fun c hc=>(noOwn_cell (by omega) (prRow.all _) (prRow.noOwn _) hc).2) u
 have hE:Ext W U W.drew U:=(Ext.refl W U).drew
 have hlc':(hcP G [x]).length=G * 2:=by rw[hcP,prRow.len_hc];congr 1;simp;omega
 have h6:=(hI.ext hE).newo (vs:=A) (cs:=hcP G [x]) (ty:=115) (by rw[hlc',hAs]) (fun u hu=>absurd hu (hhd u)) (fun j u hu=>⟨h1A u (Array.mem_of_getElem? hu),fun z hz=>⟨by
  have:=(hread j z hz).keep hE.keeps
  rwa [Array.getD_eq_getD_getElem?,hu,Option.getD_some]at this,fun e k l hz'=>absurd (hz'▸hz) (hno j e k l)⟩⟩)
 rw[show W.drew.heap.size=W.heap.size from rfl,lk_upd]at h6
 have hlgv:gv<W.heap.size:=(Array.getElem?_eq_some_iff.1 e1).1
 refine ⟨_,_,_,_,rfl,⟨W.heap.size,G,⟨by omega,by omega,by omega⟩,rfl,rfl⟩,fun b cs' h=>?_,h6.res1 (.hsl _ _ _ _ _ (by omega) hcm ⟨_,_,by have:=heap_alloc_new W.drew (.cells A 115);exact this⟩) (Sole.plain fun _ _ _ e=>by cases e)⟩
 simp only[lk_cons]at h ⊢
 by_cases q1:b=W.heap.size
 ·rw[if_pos q1];exact ⟨_,rfl⟩
 ·rw[if_neg q1];exact ⟨_,h⟩
section
variable {d:Option Nat} {s:St} {K:St→Prop}
theorem c_ins{g gv cap capv i:Nat}{L:List PrP}{x:PrP}{vs:List AV}{f:Nat}
  (h:(¬ gv=g∧¬ g=gv)→CT Tryz.prog f vs (lk [(g,hcP cap L),(gv,hcP capv [x])]) (fun r o=>∃ y,c2d g gv L.length y∧r=.hsl (y.1.getD g) 115 2 (L.length+1) y.2∧o=lk (c1r g gv cap capv i L x y)))
  (h1:∀ c,L.length+1≤c→KS (St.put ⟨s.t,ovr [(g,hcP c (a7Q L i x)),(gv,hcP capv [x])] s.o⟩ d (.hsl g 115 2 (L.length+1) c)) K)
  (h2:∀ b c,s.o b=none→(¬ b=g∧¬ g=b)→(¬ b=gv∧¬ gv=b)→L.length+1≤c→KS (St.put ⟨s.t,ovr [(b,hcP c (a7Q L i x)),(g,hcP cap L),(gv,hcP capv [x])] s.o⟩ d (.hsl b 115 2 (L.length+1) c)) K)
  (q1:s.o g=some (hcP cap L):=by first|((repeat (first|exact lk_hd _ _ _|(refine lk_tl ?_ ?_;(focus (first|assumption|(simp only[*,not_false_eq_true];done))))));done)|fail) (q2:s.o gv=some (hcP capv [x]):=by first|((repeat (first|exact lk_hd _ _ _|(refine lk_tl ?_ ?_;(focus (first|assumption|(simp only[*,not_false_eq_true];done))))));done)|fail) (q3:¬ gv=g∧¬ g=gv:=by simp only[*,not_false_eq_true,and_self]):a2b Tryz.prog f vs d s K:=by
 refine ⟨_,_,lk_sub2 q1 q2,h q3, ?_⟩
 rintro r o2 ⟨⟨y1,c⟩,⟨hc,hy⟩,rfl,rfl⟩ hf
 cases y1 with
 | none=>exact h1 c hc
 | some b=>
  obtain ⟨⟨a1,a2⟩,a3,a4⟩:=hy b rfl
  refine h2 b c (hf b (hcP c (a7Q L i x)) (by simp[lk]) (by simp[lk,a1,a3])) ⟨a1,a2⟩ ⟨a3,a4⟩ hc
theorem c_ins0{gv capv:Nat}{x:PrP}{vs:List AV}{f:Nat}
  (h:CT Tryz.prog f vs (lk [(gv,hcP capv [x])]) (fun r o=>∃ b c,(1≤c∧¬ b=gv∧¬ gv=b)∧r=.hsl b 115 2 1 c∧o=lk [(b,hcP c [x]),(gv,hcP capv [x])]))
  (h2:∀ b c,s.o b=none→(¬ b=gv∧¬ gv=b)→1≤c→KS (St.put ⟨s.t,ovr [(b,hcP c [x]),(gv,hcP capv [x])] s.o⟩ d (.hsl b 115 2 1 c)) K)
  (q2:s.o gv=some (hcP capv [x]):=by first|((repeat (first|exact lk_hd _ _ _|(refine lk_tl ?_ ?_;(focus (first|assumption|(simp only[*,not_false_eq_true];done))))));done)|fail):a2b Tryz.prog f vs d s K:=by
 refine ⟨_,_,lk_sub1 q2,h, ?_⟩
 rintro r o2 ⟨b,c,⟨hc,a3,a4⟩,rfl,rfl⟩ hf
 exact h2 b c (hf b (hcP c [x]) (by simp[lk]) (by simp[lk,a3])) ⟨a3,a4⟩ hc
end
end
section
open Go.RowKit Go.Lib
set_option maxRecDepth 100000
theorem a6e(cap:Nat)(L:List PrP)(h:L.length≤cap):(hcP cap L).length=cap * 2:=by rw[hcP,prRow.len_hc];congr 1;omega
theorem c1t(cap:Nat)(L:List PrP)(i:Nat)(hi:i<L.length)(k v:List UInt8):splice (hcP cap L) (i * 2) [.str k,.str v]=hcP cap (L.set i (k,v)):=prRow.sto cap L i (k,v) hi
theorem c1q(cap:Nat)(k v:List UInt8):hc 2 cap [[.str k,.str v]]=hcP cap [(k,v)]:=rfl
theorem setS_t{L:List PrP}{k:List UInt8}(h:a1G L k=true)(v:List UInt8):a2f L k v=L.set (a0v L k) (k,v):=by
 have hl:=has_lt h
 rw[a2f,if_pos h,List.set_eq_take_append_cons_drop,if_pos hl,List.append_assoc];rfl
theorem setS_f{L:List PrP}{k:List UInt8}(h:a1G L k=false)(v:List UInt8):a2f L k v=a7Q L (a0v L k) (k,v):=by
 rw[a2f,if_neg (by simp[h])];rfl
def a7f(L:List PrP)(k v:List UInt8):List PrP:=if a0Z k v=true then a2f L k v else L
def b3Y(k v:List UInt8):Int:=if a0Z k v=true then 0 else 1
theorem b0S(L:List PrP)(k v:List UInt8):(a7f L k v).length≤L.length+1:=by
 unfold a7f
 split
 ·cases h:a1G L k with
  | true=>rw[setS_t h];simp
  | false=>rw[setS_f h,a7j _ _ _ (a5y L k)];omega
 ·omega
abbrev b8j(s:Nat)(L L':List PrP)(x:StS)(E:Int):AV→(Nat→Option (List AV))→Prop:=fun r o=>∃ y,(stOk s L' y∧(y=none→x=none))∧r=.int .i64 E∧o=lk (ov (stO s L' y) (stO s L x))
theorem ro_st{st:St}{rs:List AR}{s:Nat}{L L':List PrP}{x:StS}{E:Int}(y:StS)(hy:stOk s L' y∧(y=none→x=none))(h:a1a st rs (.int .i64 E))(ho:LeL (ov (stO s L' y) (stO s L x)) st.o):
  b0U st rs (lk (stO s L x)) (b8j s L L' x E):=
 ⟨_,h,_,LeL_ok ho,fun b cs hb=>by
  rw[← ovr_lk]
  simp only[ovr,hb]
  cases lk (stO s L' y) b with
  | none=>exact ⟨_,rfl⟩
  | some z=>exact ⟨_,rfl⟩,y,hy,rfl,rfl⟩
theorem sxStr{A B:Prop}(h:B)(e:A=B:=by (simp (disch:=omega) only[*, ↓Ed,Eu, ↓reduceIte,reduceCtorEq,Nat.reduceAdd,Nat.reduceEqDiff,Nat.reduceLT,Nat.reduceLeDiff,Int.reduceToNat,Int.reduceEq,Int.reduceLT,Int.reduceLE,w64, ↓rkP, ↓a8i, ↓a8j,a3R,List.all_cons,List.all_nil,a6e,c1t,c1q];first|done|rfl)):A:=e▸h
set_option maxHeartbeats 4000000 in
theorem b3K(s:Nat)(L:List PrP)(hL:a2Q L)(hb:L.length≤100000)(k v:List UInt8)(hk:k.length≤1000000)(hv:v.length≤1000000)(x:StS)(hx:stOk s L x):
  CT Tryz.prog 33 [.ptr s 0,.str k,.str v] (lk (stO s L x)) (b8j s L (a7f L k v) x (b3Y k v)):=by
 have hF:=c0l s L hL (by omega) k x hx
 have hCk:=b2C k (by omega)
 have hCv:=b2C v (by omega)
 have hG:=fun g cap=>c1j g cap (k,v) hk hv
 have hP0:=fun gv cap=>c1k gv cap (k,v)
 have hpl:=a5y L k
 refine a4U _ _ _ (by simp) ?_
 cases hm:a0Z k v with
 | false=>
  simp only[hm]at hG
  simp only[a7f,b3Y,hm,Bool.false_eq_true,if_false]
  rcases x with _ | ⟨g,cap⟩
  ·clear hF hP0
   simp (disch:=omega) only[a0s,a0f, ↓Ed,Eu, ↓reduceIte,reduceCtorEq,Nat.reduceAdd,Nat.reduceEqDiff,Nat.reduceLT,Nat.reduceLeDiff,Int.reduceToNat,Int.reduceEq,Int.reduceLT,Int.reduceLE,w64, ↓rkP, ↓a8i, ↓a8j,a3R,List.all_cons,List.all_nil,a6e,c1t,c1q]
   repeat' ((first|exact tt|refine CallO_pure (hCk) ?_|refine CallO_pure (hCv) ?_|refine c1 (hG _ _) ?_|refine na fun b=>?_|refine nb fun b hb=>?_|refine iq ?_|(refine jq ?_ ?_<;>intro h h')|refine Two_intro ?_ ?_|exact wZ|fail)<;>try refine sxStr ?_)
   all_goals exact ro_st (L:=L) (x:=none) none ⟨hx,fun _=>rfl⟩ (by simp[a1a,arR,lk]) (by simp[*,LeL,lk,a0f,ov_cons,ov_nil,del_cons,del_nil])
  ·have hgs:=hx.1
   clear hF hP0
   simp (disch:=omega) only[a0s,a0b,hgs, ↓Ed,Eu, ↓reduceIte,reduceCtorEq,Nat.reduceAdd,Nat.reduceEqDiff,Nat.reduceLT,Nat.reduceLeDiff,Int.reduceToNat,Int.reduceEq,Int.reduceLT,Int.reduceLE,w64, ↓rkP, ↓a8i, ↓a8j,a3R,List.all_cons,List.all_nil,a6e,c1t,c1q]
   repeat' ((first|exact tt|refine CallO_pure (hCk) ?_|refine CallO_pure (hCv) ?_|refine c1 (hG _ _) ?_|refine na fun b=>?_|refine nb fun b hb=>?_|refine iq ?_|(refine jq ?_ ?_<;>intro h h')|refine Two_intro ?_ ?_|exact wZ|fail)<;>try refine sxStr ?_)
   all_goals exact ro_st (x:=some (g,cap)) (some (g,cap)) ⟨hx,fun h=>by cases h⟩ (by simp[a1a,arR,lk]) (by simp[*,LeL,lk,a0b,ov_cons,ov_nil,del_cons,del_nil])
 | true=>
  simp only[hm]at hG
  simp only[a7f,b3Y,hm,if_true]
  cases hh:a1G L k with
  | true=>
   obtain ⟨g,cap,rfl⟩:=stOk_has hh hx
   have hlt:=has_lt hh
   rw[setS_t hh]
   rw[hh,a0b]at hF
   have hgs:=hx.1
   have hcap:L.length≤cap:=hx.2
   clear hP0 hpl
   simp (disch:=omega) only[a0s,a0b,hgs, ↓Ed,Eu, ↓reduceIte,reduceCtorEq,Nat.reduceAdd,Nat.reduceEqDiff,Nat.reduceLT,Nat.reduceLeDiff,Int.reduceToNat,Int.reduceEq,Int.reduceLT,Int.reduceLE,w64, ↓rkP, ↓a8i, ↓a8j,a3R,List.all_cons,List.all_nil,a6e,c1t,c1q]
   repeat' ((first|exact tt|refine CallO_pure (hCk) ?_|refine CallO_pure (hCv) ?_|refine c1 (hG _ _) ?_|refine c2 (hF) ?_|refine na fun b=>?_|refine nb fun b hb=>?_|refine iq ?_|(refine jq ?_ ?_<;>intro h h')|refine Two_intro ?_ ?_|exact wZ|fail)<;>try refine sxStr ?_)
   all_goals exact ro_st (x:=some (g,cap)) (some (g,cap)) ⟨⟨hgs,by simpa using hcap⟩,fun h=>by cases h⟩ (by simp[a1a,arR,lk]) (by simp[*,LeL,lk,a0b,ov_cons,ov_nil,del_cons,del_nil])
  | false=>
   rw[setS_f hh]
   rcases x with _ | ⟨g,cap⟩
   ·obtain rfl:L=[]:=hx
    have e1:a0v [] k=0:=rfl
    have e2:a7Q [] 0 (k,v)=[(k,v)]:=rfl
    rw[hh,a0f,e1]at hF
    rw[e1,e2]
    clear hpl
    simp (disch:=omega) only[a0s,a0f, ↓Ed,Eu, ↓reduceIte,reduceCtorEq,Nat.reduceAdd,Nat.reduceEqDiff,Nat.reduceLT,Nat.reduceLeDiff,Int.reduceToNat,Int.reduceEq,Int.reduceLT,Int.reduceLE,w64, ↓rkP, ↓a8i, ↓a8j,a3R,List.all_cons,List.all_nil,a6e,c1t,c1q]
    repeat' ((first|exact tt|refine CallO_pure (hCk) ?_|refine CallO_pure (hCv) ?_|refine c1 (hG _ _) ?_|refine c1 (hF) ?_|(refine c_ins0 (hP0 _ _) (fun b c hb h2 hc=>?_);simp only[ln_cons2,ln_nil,and_true]at hb)|refine na fun b=>?_|refine nb fun b hb=>?_|refine iq ?_|(refine jq ?_ ?_<;>intro h h')|refine Two_intro ?_ ?_|exact wZ|fail)<;>try refine sxStr ?_)
    all_goals exact ro_st (L:=[]) (x:=none) (some (b,c)) ⟨⟨by simp only[*,not_false_eq_true,and_self],by assumption⟩,fun h=>by cases h⟩ (by simp[a1a,arR,lk]) (by simp[*,LeL,lk,a0b,a0f,ov_cons,ov_nil,del_cons,del_nil])
   ·have hgs:=hx.1
    have hcap:L.length≤cap:=hx.2
    rw[hh,a0b]at hF
    have hil:=a7j L (a0v L k) (k,v) hpl
    have hI:=fun gv capv (hgv:¬ gv=g∧¬ g=gv)=>c1U g gv cap capv (a0v L k) L (k,v) hgv hpl (by omega)
    clear hP0
    simp (disch:=omega) only[a0s,a0b,hgs, ↓Ed,Eu, ↓reduceIte,reduceCtorEq,Nat.reduceAdd,Nat.reduceEqDiff,Nat.reduceLT,Nat.reduceLeDiff,Int.reduceToNat,Int.reduceEq,Int.reduceLT,Int.reduceLE,w64, ↓rkP, ↓a8i, ↓a8j,a3R,List.all_cons,List.all_nil,a6e,c1t,c1q]
    repeat' ((first|exact tt|refine CallO_pure (hCk) ?_|refine CallO_pure (hCv) ?_|refine c1 (hG _ _) ?_|refine c2 (hF) ?_|((refine c_ins (hI _ _) (fun c hc=>?_) (fun b c hn h2 h3 hc=>?_))<;>(try simp only[ln_cons2,ln_nil,and_true]at hn))|refine na fun b=>?_|refine nb fun b hb=>?_|refine iq ?_|(refine jq ?_ ?_<;>intro h h')|refine Two_intro ?_ ?_|exact wZ|fail)<;>try refine sxStr ?_)
    ·exact ro_st (L:=L) (x:=some (g,cap)) (some (g,c)) ⟨⟨hgs,by rw[hil];exact hc⟩,fun h=>by cases h⟩ (by simp[a1a,arR,lk]) (by simp[*,LeL,lk,a0b,ov_cons,ov_nil,del_cons,del_nil])
    ·exact ro_st (L:=L) (x:=some (g,cap)) (some (b,c)) ⟨⟨by simp only[*,not_false_eq_true,and_self],by rw[hil];exact hc⟩,fun h=>by cases h⟩ (by simp[a1a,arR,lk]) (by simp[*,LeL,lk,a0b,ov_cons,ov_nil,del_cons,del_nil])
section
variable {d:Option Nat} {st:St} {K:St→Prop}
theorem c_setG{f s:Nat}{vs:List AV}{L L':List PrP}{x:StS}{E:Int}(h:CT Tryz.prog f vs (lk (stO s L x)) (b8j s L L' x E))(hsub:∀ b cs,lk (stO s L x) b=some cs→st.o b=some cs)
  (hK:∀ y,stOk s L' y→(y=none→x=none)→(∀ g cap,y=some (g,cap)→lk (stO s L x) g=none→st.o g=none)→KS (St.put ⟨st.t,ovr (stO s L' y) st.o⟩ d (.int .i64 E)) K):a2b Tryz.prog f vs d st K:=by
 refine ⟨_,_,hsub,h, ?_⟩
 rintro r o2 ⟨y,⟨hy,hyx⟩,rfl,rfl⟩ hf
 have e:(fun b=>(lk (ov (stO s L' y) (stO s L x)) b).or (st.o b))=ovr (stO s L' y) st.o:=by
  funext b
  rw[← ovr_lk]
  simp only[ovr]
  cases h1:lk (stO s L' y) b with
  | some z=>rfl
  | none=>
   cases h2:lk (stO s L x) b with
   | none=>rfl
   | some z=>rw[hsub b z h2];rfl
 rw[e]
 refine hK y hy hyx fun g cap hg hn=>hf g (hcP cap L') ?_ hn
 subst hg
 rw[← ovr_lk]
 have h3:=hy.1
 simp[ovr,a0b,lk,h3]
theorem c_set0{f s:Nat}{vs:List AV}{L L':List PrP}{E:Int}(h:CT Tryz.prog f vs (lk [(s,[.nils 115 2])]) (b8j s L L' none E))
  (k0:stOk s L' none→KS (St.put ⟨st.t,ovr [(s,[.nils 115 2])] st.o⟩ d (.int .i64 E)) K)
  (k1:∀ b c,st.o b=none→(¬ b=s∧¬ s=b)→L'.length≤c→KS (St.put ⟨st.t,ovr [(s,[.hsl b 115 2 L'.length c]),(b,hcP c L')] st.o⟩ d (.int .i64 E)) K)
  (q1:st.o s=some [.nils 115 2]:=by first|((repeat (first|exact lk_hd _ _ _|(refine lk_tl ?_ ?_;(focus (first|assumption|(simp only[*,not_false_eq_true];done))))));done)|fail):a2b Tryz.prog f vs d st K:=by
 refine c_setG (x:=none) h (lk_sub1 q1) fun y hy _ hf=>?_
 rcases y with _ | ⟨b,c⟩
 ·exact k0 hy
 ·exact k1 b c (hf b c rfl (by simp[a0f,lk,hy.1])) hy.1 hy.2
theorem c_set1{f s g cap:Nat}{vs:List AV}{L L':List PrP}{E:Int}(h:CT Tryz.prog f vs (lk [(s,[.hsl g 115 2 L.length cap]),(g,hcP cap L)]) (b8j s L L' (some (g,cap)) E))
  (k1:∀ c,L'.length≤c→KS (St.put ⟨st.t,ovr [(s,[.hsl g 115 2 L'.length c]),(g,hcP c L')] st.o⟩ d (.int .i64 E)) K)
  (k2:∀ b c,st.o b=none→(¬ b=s∧¬ s=b)→L'.length≤c→KS (St.put ⟨st.t,ovr [(s,[.hsl b 115 2 L'.length c]),(b,hcP c L')] st.o⟩ d (.int .i64 E)) K)
  (q1:st.o s=some [.hsl g 115 2 L.length cap]:=by first|((repeat (first|exact lk_hd _ _ _|(refine lk_tl ?_ ?_;(focus (first|assumption|(simp only[*,not_false_eq_true];done))))));done)|fail) (q2:st.o g=some (hcP cap L):=by first|((repeat (first|exact lk_hd _ _ _|(refine lk_tl ?_ ?_;(focus (first|assumption|(simp only[*,not_false_eq_true];done))))));done)|fail):a2b Tryz.prog f vs d st K:=by
 refine c_setG (x:=some (g,cap)) h (lk_sub2 q1 q2) fun y hy hyx hf=>?_
 rcases y with _ | ⟨b,c⟩
 ·cases hyx rfl
 ·by_cases e:b=g
  ·subst e
   exact k1 c hy.2
  ·exact k2 b c (hf b c rfl (by simp[a0b,lk,hy.1,e])) hy.1 hy.2
end
end
section
open Go.RowKit Go.Shelf Go.Sort Go.Lib
set_option maxRecDepth 100000
section
variable {P:Program} {ρ:Ren}
theorem b4p(L:SlLaysE0.n41 P ρ)(i0:TypeInfo)(z:Value)(size bytes:Nat)(hi:P.info? (ρ.t 23)=some i0)(hz0:i0.zero=some z)(hz1:i0.size=size)(hz2:i0.bytes=bytes)(hzs:z.cells.size=size)(hsz:0<size)
  (z23:∀ w,(Go.sizeOf (ρ.t 23)).run P w=.ok size w) (els:List (List AV)) (hb:els.length * bytes≤140737488355328) (hl:els.length≤maxLen) (hs:∀ e∈els,e.length=size) (hf:∀ e∈els,a9U e=true)
  {W:World} {U:Nat→Nat→Prop} {o:Nat→Option (List AV)} (hI:Inv 0 W U (a0q W o) { tmps := #[],defers:=[] } W U ⟨fun _=>none,o⟩) {g a:Nat} {cs:List AV} (A:Option Addr) (cap:Nat)
  (hA:0<els.length→A=some ⟨g,a * size,none⟩∧o g=some cs∧a0D W g) (hr:∀ i l j x,els[i]?=some l→l[j]?=some x→cs[a * size+i * size+j]?=some x):
  Calls P (ρ.f 41) #[.slice A els.length cap] W fun e W'=>∃ v U' r o',e=.returned v∧(r=.sl (some (ρ.t 23)) size els∧o'=o)∧(∀ b cs,o b=some cs→∃ cs',o' b=some cs')∧
   Inv 1 W U (a0q W o) { tmps := #[v],defers:=[] } W' U' ⟨upd (fun _=>none) 0 (some r),o'⟩:=by
 have hget:∀ (i j:Nat) (l:List AV) (c:AV) (u:Value),els[i]?=some l→l[j]?=some c→(els.flatMap a1m)[i * size+j]?=some u→∀ W U,VR W U u c:=by
  intro i j l c u hl' hc hu W2 U2
  have hi':i<els.length:=(List.getElem?_eq_some_iff.1 hl').1
  have hm:l∈els:=List.mem_of_getElem? hl'
  have hj:j<size:=by rw[← hs l hm];exact (List.getElem?_eq_some_iff.1 hc).1
  rw[flatM_get els i j hs hi' hj]at hu
  have e:els.getD i []=l:=by simp[List.getD,hl']
  rw[e]at hu
  exact (a3U l (hf l hm) j c u hc hu).1 W2 U2
 have hone:∀ u∈els.flatMap a1m,u.oneCell'=true:=by
  intro u hu
  obtain ⟨e,he,h2⟩:=List.mem_flatMap.1 hu
  exact plainV_one (hf e he) u h2
 have fin:∀ (W':World) (v':Value),RowKit.Below W.heap.size W W'→W'.ownsRow W.heap.size (ρ.t 23) size v' els.length (els.flatMap a1m)→
   ∃ v U' r o',Ending.returned v'=.returned v∧(r=.sl (some (ρ.t 23)) size els∧o'=o)∧(∀ b cs,o b=some cs→∃ cs',o' b=some cs')∧Inv 1 W U (a0q W o) { tmps := #[v],defers:=[] } W' U' ⟨upd (fun _=>none) 0 (some r),o'⟩:=by
  intro W' v' hbl hrow
  obtain ⟨U',r1,r2,r3⟩:=row_VR (U:=U) (e:=ρ.t 23) (k:=size) (els:=els) hsz hbl hrow rfl hs hone hget
  exact ⟨v',U',_,o,rfl,⟨rfl,rfl⟩,fun b cs h=>⟨cs,h⟩,hI.res2 r3 r1 fun e sz els hr=>by cases hr;exact r2⟩
 rcases Nat.eq_zero_or_pos els.length with h0|h0
 ·obtain rfl:els=[]:=List.eq_nil_of_length_eq_zero h0
  cases A with
  | none=>
   refine (AnyE.slices_Clone_nil L 0 cap W).mono ?_
   rintro e W' ⟨rfl,rfl⟩
   exact fin _ _ (RowKit.Below.refl _ _) ⟨by simp,.inl ⟨rfl,rfl⟩⟩
  | some a=>
   refine (b6e L i0 z size bytes hi hz0 hz1 hz2 hzs hsz z23 a cap W).mono ?_
   rintro e W' ⟨v',rfl,hrow,hbl⟩
   exact fin W' v' hbl (by simpa using hrow)
 ·obtain ⟨rfl,hg,hm⟩:=hA h0
  obtain ⟨cur,ty,g1,g2,g3,g4,g5⟩:=hI.obc (b:=g) (cs:=cs) hg hm
  refine (AnyE.slices_Clone L i0 z size bytes hi hz0 hz1 hz2 hzs hsz z23 g (a * size) els.length cap (els.flatMap a1m) W (flatM_len els hs) hl hb (fun t u hu=>?_) hone).mono ?_
  ·have ht:t<els.length * size:=by rw[← flatM_len els hs];exact (List.getElem?_eq_some_iff.1 hu).1
   have hi':t / size<els.length:=(Nat.div_lt_iff_lt_mul hsz).2 ht
   have hj:t % size<size:=Nat.mod_lt _ hsz
   have e:t / size * size+t % size=t:=by rw[Nat.mul_comm];exact Nat.div_add_mod t size
   have hm:els.getD (t / size) []∈els:=by rw[List.getD,List.getElem?_eq_getElem hi',Option.getD_some];exact List.getElem_mem hi'
   have hle:=hs _ hm
   have hc2:=List.getElem?_eq_getElem (l:=els.getD (t / size) []) (i:=t % size) (by rw[hle];exact hj)
   have hcs:=hr (t / size) _ (t % size) _ (by rw[List.getD,List.getElem?_eq_getElem hi',Option.getD_some]) hc2
   have hvr:=(g3 _ _ hcs).1
   have hlt:=(List.getElem?_eq_some_iff.1 hcs).1
   have hu2:=flatM_get els (t / size) (t % size) hs hi' hj
   rw[e,hu]at hu2
   have:=(a3U _ (hf _ hm) (t % size) _ u hc2 hu2.symm).2.1 W U _ hvr
   rw[show a * size+t=a * size+t / size * size+t % size by omega,cell_of_row W g _ cur _ (0,0) g1,Array.getElem?_eq_getElem (by omega), ← this,Array.getD_eq_getD_getElem?,Array.getElem?_eq_getElem (by omega)]
   rfl
  ·rintro e W' ⟨v',rfl,hrow,_,hbl⟩
   exact fin W' v' hbl hrow
end
def prR(L:List PrP):List (List AV):=L.map prC
theorem a0w(L:List PrP):(prR L).length=L.length:=by simp[prR]
theorem a1g(L:List PrP)(i:Nat)(h:i<L.length):(prR L).getD i []=prC (L.getD i default):=by simp[prR,h]
theorem c1E(cap:Nat)(L:List PrP)(a m:Nat)(h:a+m≤L.length):∀ i l j x,(prR ((L.drop a).take m))[i]?=some l→l[j]?=some x→(hcP cap L)[a * 2+i * 2+j]?=some x:=by
 intro i l j x h1 h2
 have hi:i<m:=by have:=(List.getElem?_eq_some_iff.1 h1).1;simp[prR]at this;omega
 have h3:(L.map prC)[a+i]?=some l:=by
  rw[prR,List.getElem?_map,List.getElem?_take_of_lt hi,List.getElem?_drop]at h1
  rw[List.getElem?_map];exact h1
 have hj:j<2:=by
  have:=prRow.all L l (List.mem_of_getElem? h3)
  have:=(List.getElem?_eq_some_iff.1 h2).1
  omega
 rw[← Nat.add_mul,hcP,hc_get (prRow.all L) h3 hj]
 exact h2
theorem t_clnV{W:World}{U:Nat→Nat→Prop}{o:Nat→Option (List AV)}(hI:Inv 0 W U (a0q W o) { tmps := #[],defers:=[] } W U ⟨fun _=>none,o⟩){g a:Nat}{cs:List AV}(M:List PrP)(hM:M.length≤1000000)(A:Option Addr)(cap:Nat)
  (hA:0<M.length→A=some ⟨g,a * 2,none⟩∧o g=some cs∧a0D W g) (hr:∀ i l j x,(prR M)[i]?=some l→l[j]?=some x→cs[a * 2+i * 2+j]?=some x):
  Calls Tryz.prog 129 #[.slice A M.length cap] W fun e W'=>∃ v U' r o',e=.returned v∧(r=.sl (some 115) 2 (prR M)∧o'=o)∧(∀ b cs,o b=some cs→∃ cs',o' b=some cs')∧
   Inv 1 W U (a0q W o) { tmps := #[v],defers:=[] } W' U' ⟨upd (fun _=>none) 0 (some r),o'⟩:=by
 obtain ⟨i0,hi,hz0,hz1,hz2⟩:=info_parts (P:=Tryz.prog) (e:=115) (z:=zPr) (size:=2) (bytes:=32) (by kernel_rfl)
 have:=b4p Tryz.cln129 i0 _ 2 32 hi hz0 hz1 hz2 rfl (by omega) Tryz.sizeOf115 (prR M) (by rw[a0w];omega) (by rw[a0w];unfold maxLen;omega) (fun e he=>by obtain ⟨x,_,rfl⟩:=List.mem_map.1 he;rfl) (fun e he=>by obtain ⟨x,_,rfl⟩:=List.mem_map.1 he;rfl) hI (g:=g) (a:=a) (cs:=cs) A cap (by rw[a0w];exact hA) hr
 rwa [a0w]at this
theorem c1W(g cap:Nat)(L:List PrP)(hb:L.length≤1000000):CT Tryz.prog 129 [.hsl g 115 2 L.length cap] (lk [(g,hcP cap L)]) (fun r o=>r=.sl (some 115) 2 (prR L)∧o=lk [(g,hcP cap L)]):=by
 intro W U vs hlen hv hI
 obtain ⟨v,rfl⟩:∃ v,vs=[v]:=by
  match vs,hlen with
  | [v],_=>exact ⟨v,rfl⟩
 have h:=hv 0 v _ rfl rfl
 cases h with
 | hsl _ _ _ _ _ n1 n2 hm=>
 obtain ⟨c1,c2,c3⟩:=hm
 exact t_clnV hI (g:=g) (a:=0) (cs:=hcP cap L) L hb _ cap (fun _=>⟨by simp,by simp[lk],⟨_,_,_,c3⟩⟩) (by have:=c1E cap L 0 L.length (by omega);simpa using this)
theorem c1X:CT Tryz.prog 129 [.hnil 115 2] (lk []) (fun r o=>r=.sl (some 115) 2 (prR [])∧o=lk []):=by
 intro W U vs hlen hv hI
 obtain ⟨v,rfl⟩:∃ v,vs=[v]:=by
  match vs,hlen with
  | [v],_=>exact ⟨v,rfl⟩
 have h:=hv 0 v _ rfl rfl
 cases h
 exact t_clnV hI (g:=0) (a:=0) (cs:=[]) [] (by simp) none 0 (fun h=>by simp at h) (fun i l j x h=>by simp[prR]at h)
theorem sxClp{A B:Prop}(h:B)(e:A=B:=by (simp (disch:=omega) only[*, ↓Ed,Eu, ↓reduceIte,reduceCtorEq,Nat.reduceAdd,Nat.reduceEqDiff,Nat.reduceLT,Nat.reduceLeDiff,Int.reduceToNat,Int.reduceEq,Int.reduceLT,Int.reduceLE,w64, ↓rkP, ↓a8i, ↓a8j];first|done|rfl)):A:=e▸h
theorem b8p(s:Nat)(L:List PrP)(hb:L.length≤1000000)(x:StS)(hx:stOk s L x):
  CT Tryz.prog 63 [.ptr s 0] (lk (stO s L x)) (fun r o=>r=.sl (some 115) 2 (prR L)∧o=lk (stO s L x)):=by
 refine a3M _ _ _ (by simp) ?_
 rcases x with _ | ⟨g,cap⟩
 ·obtain rfl:L=[]:=hx
  have hC:=c1X
  simp (disch:=omega) only[a1l,a0f, ↓Ed,Eu, ↓reduceIte,reduceCtorEq,Nat.reduceAdd,Nat.reduceEqDiff,Nat.reduceLT,Nat.reduceLeDiff,Int.reduceToNat,Int.reduceEq,Int.reduceLT,Int.reduceLE,w64, ↓rkP, ↓a8i, ↓a8j]
  repeat' ((first|exact tt|(refine c0 hC ?_)|refine na fun b=>?_|refine nb fun b hb=>?_|refine iq ?_|(refine jq ?_ ?_<;>intro h h')|refine Two_intro ?_ ?_|exact wZ|fail)<;>try refine sxClp ?_)
  all_goals exact ro_mk (by simp[LeL,lk,a1a,arR]) (a2B _)
 ·have hgs:=hx.1
  clear hx
  have hC:=c1W g cap L hb
  simp (disch:=omega) only[a1l,a0b,hgs, ↓Ed,Eu, ↓reduceIte,reduceCtorEq,Nat.reduceAdd,Nat.reduceEqDiff,Nat.reduceLT,Nat.reduceLeDiff,Int.reduceToNat,Int.reduceEq,Int.reduceLT,Int.reduceLE,w64, ↓rkP, ↓a8i, ↓a8j]
  repeat' ((first|exact tt|refine c1 (hC) ?_|refine na fun b=>?_|refine nb fun b hb=>?_|refine iq ?_|(refine jq ?_ ?_<;>intro h h')|refine Two_intro ?_ ?_|exact wZ|fail)<;>try refine sxClp ?_)
  all_goals exact ro_mk (by simp[LeL,lk,hgs,a1a,arR]) (a2B _)
end
section
set_option maxRecDepth 100000
theorem a6Q(s:List UInt8):(s=([]:List UInt8))=(s.length=0):=by simp[List.length_eq_zero_iff]
theorem sxPna{A B:Prop}(h:B)(e:A=B:=by (simp (disch:=omega) only[*, ↓Ed,Eu, ↓reduceIte,reduceCtorEq,Nat.reduceAdd,Nat.reduceEqDiff,Nat.reduceLT,Nat.reduceLeDiff,Int.reduceToNat,Int.reduceEq,Int.reduceLT,Int.reduceLE,w64,a6Q];first|done|rfl)):A:=e▸h
set_option maxHeartbeats 4000000 in
theorem c1K(s:List UInt8)(hs:s.length≤4611686018427387904):CP Tryz.prog 168 [.str s] (.bool (a6T s)):=by
 refine b1B _ _ (by simp) ?_
 simp only[a7y];refine sxPna ?_
 repeat' ((first|exact tt|refine na fun b=>?_|refine nb fun b hb=>?_|refine iq ?_|(refine jq ?_ ?_<;>intro h h')|refine Two_intro ?_ ?_|exact wZ|fail)<;>try refine sxPna ?_)
 refine wpx_loop (fun k:Nat=>⟨lk [(0,.str s),(7,.int .i64 s.length),(8,.int .i64 k)],lk []⟩) (fun k=>k≤s.length∧a0d (∀ j,j<k→a9s s j)) (fun k=>s.length - k) 0 ⟨by omega,fun j h=>by omega⟩ (Le_lit (by simp[LeL,lk])) ?_
 intro k ⟨h1,h2⟩
 refine sxPna ?_
 repeat' ((first|exact tt|refine na fun b=>?_|refine nb fun b hb=>?_|refine iq ?_|(refine jq ?_ ?_<;>intro h h')|refine Two_intro ?_ ?_|exact wZ|fail)<;>try refine sxPna ?_)
 all_goals simp only[a0d,Hn,a6Q]at *
 all_goals first
  | (refine Round_lit (k+1) ⟨Le_lit (by simp[LeL,lk]),⟨by omega,name_step h2 (by unfold a9s;omega)⟩,by omega⟩;done)
  | (refine name_bad (k:=k) (by omega) (by unfold a9s;omega);done)
  | (exact (nameP_f fun g=>g.1 (List.eq_nil_of_length_eq_zero (by omega))).symm)
  | (rw[name_dec (by omega) h2,decide_eq_decide];omega)
  | skip
theorem a8z(p:List UInt8)(c:Int)(hs:p.length≤4611686018427387904):CP Tryz.prog 111 [.agg [.str p,.int .i64 c]] (.bool (a1S p c)):=by
 refine b2q _ _ (by simp) ?_
 simp only[a9y];refine sxPna ?_
 repeat' ((first|exact tt|refine CallO_pure (c1K p hs) ?_|refine na fun b=>?_|refine nb fun b hb=>?_|refine iq ?_|(refine jq ?_ ?_<;>intro h h')|refine Two_intro ?_ ?_|exact wZ|fail)<;>try refine sxPna ?_)
 all_goals (try simp only[a0d,Hn]at *)
 all_goals simp[a1S, *]
theorem c0Y(s:List UInt8)(hs:s.length≤4611686018427387904):CP Tryz.prog 109 [.str s] (.bool (a6T s)):=by
 refine a8f _ _ (by simp) ?_
 simp only[a4v];refine sxPna ?_
 repeat' ((first|exact tt|refine na fun b=>?_|refine nb fun b hb=>?_|refine iq ?_|(refine jq ?_ ?_<;>intro h h')|refine Two_intro ?_ ?_|exact wZ|fail)<;>try refine sxPna ?_)
 case' refine_2.refine_2.refine_2.refine_2=>
  refine wpx_loop (fun k:Nat=>⟨lk [(0,.str s),(3,.int .i64 k)],lk []⟩) (fun k=>k≤s.length∧a0d (∀ j,j<k→a9s s j)) (fun k=>s.length - k) 0 ⟨by omega,fun j h=>by omega⟩ (Le_lit (by simp[LeL,lk])) ?_
  intro k ⟨h1,h2⟩
  have h97:k=0→97≤(s.getD k 0).toNat∧(s.getD k 0).toNat≤122:=fun e=>by subst e;simp only[a0d,Hn]at *;exact ⟨by omega,by omega⟩
  refine sxPna ?_
  repeat' ((first|exact tt|refine na fun b=>?_|refine nb fun b hb=>?_|refine iq ?_|(refine jq ?_ ?_<;>intro h h')|refine Two_intro ?_ ?_|exact wZ|fail)<;>try refine sxPna ?_)
 all_goals simp only[a0d,Hn]at *
 all_goals first
  | (refine Round_lit (k+1) ⟨Le_lit (by simp[LeL,lk]),⟨by omega,name_step h2 (by unfold a9s;omega)⟩,by omega⟩;done)
  | (refine name_bad (k:=k) (by omega) (by unfold a9s;omega);done)
  | (rw[name_dec (k:=k) (by omega) h2];exact (decide_eq_true ⟨by omega,by omega⟩).symm)
  | (exact (nameP_f fun g=>by have:=g.2.1;have:=g.2.2 0 (by omega);unfold a9s at this;omega).symm)
  | (refine (nameP_f fun g=>?_).symm;have h0:=List.length_pos_iff.2 g.1;omega)
  | skip
theorem a2U(p:List UInt8)(c:Int)(hs:p.length≤4611686018427387904):CP Tryz.prog 50 [.agg [.str p,.int .i64 c]] (.bool (a1S p c)):=by
 refine a6v _ _ (by simp) ?_
 simp only[a3d];refine sxPna ?_
 repeat' ((first|exact tt|refine CallO_pure (c0Y p hs) ?_|refine na fun b=>?_|refine nb fun b hb=>?_|refine iq ?_|(refine jq ?_ ?_<;>intro h h')|refine Two_intro ?_ ?_|exact wZ|fail)<;>try refine sxPna ?_)
 all_goals (try simp only[a0d,Hn]at *)
 all_goals simp[a1S, *]
end
section
open Go.RowKit
set_option maxRecDepth 100000
theorem sxEva{A B:Prop}(h:B)(e:A=B:=by (simp (disch:=omega) only[*, ↓Ed,Eu, ↓reduceIte,reduceCtorEq,Nat.reduceAdd,Nat.reduceEqDiff,Nat.reduceLT,Nat.reduceLeDiff,Int.reduceToNat,Int.reduceEq,Int.reduceLT,Int.reduceLE,w64,List.length_append,List.length_map,Nat.mul_one,beq_self_eq_true,PktC.cs,EvC.cs,c1c,c1D,a6Q];first|done|rfl)):A:=e▸h
theorem a8t(v a b:Int):CP Tryz.prog 120 [.int .i64 v,.int .i64 a,.int .i64 b] (.bool (decide (a≤v∧v≤b))):=by
 refine a6z _ _ (by simp) ?_
 by_cases h:a≤v∧v≤b
 ·have f1:a0d (decide (a≤v)=true):=fo
  have f2:a0d (decide (v≤b)=true):=fo
  rw[decide_eq_true h]
  clear h
  simp only[a1V];refine sxEva ?_
  repeat' ((first|exact tt|refine na fun b=>?_|refine nb fun b hb=>?_|refine iq ?_|(refine jq ?_ ?_<;>intro h h')|refine Two_intro ?_ ?_|exact wZ|fail)<;>try refine sxEva ?_)
  all_goals (simp only[a0d,Hn]at *;omega)
 ·have F:a0d (¬ (a≤v∧v≤b)):=h
  rw[decide_eq_false h]
  clear h
  simp only[a1V];refine sxEva ?_
  repeat' ((first|exact tt|refine na fun b=>?_|refine nb fun b hb=>?_|refine iq ?_|(refine jq ?_ ?_<;>intro h h')|refine Two_intro ?_ ?_|exact wZ|fail)<;>try refine sxEva ?_)
  all_goals (simp only[a0d,Hn]at *;omega)
theorem b3l(p:PktC)(h1:p.s.length≤1000000)(h2:p.d.length≤1000000)(h3:p.x.length≤1000000):CP Tryz.prog 55 [.agg p.cs] (.bool (a6h p)):=by
 have a1:=a8z p.s p.sc (by omega)
 have a2:=a8z p.d p.dc (by omega)
 have a3:=a8t p.th 0 1099511627776
 have a4:=a8t p.ta 0 1099511627776
 have a5:=a8t p.q 1 1099511627776
 unfold a6h
 generalize a1S p.s p.sc=A at *
 generalize a1S p.d p.dc=B at *
 generalize decide (0≤p.th∧p.th≤1099511627776)=C at *
 generalize decide (0≤p.ta∧p.ta≤1099511627776)=D at *
 generalize decide (1≤p.q∧p.q≤1099511627776)=E at *
 refine b0j _ _ (by simp) ?_
 cases A<;>cases B<;>cases C<;>cases D<;>cases E
 all_goals (simp only[a6G];refine sxEva ?_;try exact tt)
 all_goals repeat' ((first|exact tt|refine CallO_pure (a1) ?_|refine CallO_pure (a2) ?_|refine CallO_pure (a3) ?_|refine CallO_pure (a4) ?_|refine CallO_pure (a5) ?_|refine na fun b=>?_|refine nb fun b hb=>?_|refine iq ?_|(refine jq ?_ ?_<;>intro h h')|refine Two_intro ?_ ?_|exact wZ|fail)<;>try refine sxEva ?_)
 all_goals (try simp)
 all_goals (try omega)
theorem b0Q(p:PktC)(h1:p.s.length≤1000000)(h2:p.d.length≤1000000)(h3:p.x.length≤1000000):CP Tryz.prog 37 [.agg p.cs] (.bool (a6h p)):=by
 have a1:=a2U p.s p.sc (by omega)
 have a2:=a2U p.d p.dc (by omega)
 refine a4b _ _ (by simp) ?_
 by_cases H:a6h p=true
 ·rw[H]
  simp only[a6h,Bool.and_eq_true,decide_eq_true_eq]at H
  obtain ⟨⟨⟨⟨⟨g1,g2⟩,g3,g4⟩,g5,g6⟩,g7,g8⟩,g9⟩:=H
  rw[g1]at a1
  rw[g2]at a2
  have e1:a0d (decide (1≤p.q)=true):=fo
  have e2:a0d (decide (p.q≤1099511627776)=true):=fo
  have e3:a0d (decide ((p.x.length:Int)≤200)=true):=fo
  have e4:a0d (decide (0≤p.th)=true):=fo
  have e5:a0d (decide (p.th≤1099511627776)=true):=fo
  have e6:a0d (decide (0≤p.ta)=true):=fo
  have e7:a0d (decide (p.ta≤1099511627776)=true):=fo
  clear g1 g2 g3 g4 g5 g6 g7 g8 g9
  simp only[a1k];refine sxEva ?_
  repeat' ((first|exact tt|refine CallO_pure (a1) ?_|refine CallO_pure (a2) ?_|refine na fun b=>?_|refine nb fun b hb=>?_|refine iq ?_|(refine jq ?_ ?_<;>intro h h')|refine Two_intro ?_ ?_|exact wZ|fail)<;>try refine sxEva ?_)
  all_goals (simp only[a0d,Hn]at *;omega)
 ·have H':a6h p=false:=by simpa using H
  rw[H']
  have F:a0d (a1S p.s p.sc=true→a1S p.d p.dc=true→¬ ((0≤p.th∧p.th≤1099511627776)∧(0≤p.ta∧p.ta≤1099511627776)∧(1≤p.q∧p.q≤1099511627776)∧p.x.length≤200)):=by
   intro b1 b2 ⟨b3,b4,b5,b6⟩
   exact H (by simp only[a6h,b1,b2,decide_eq_true b3,decide_eq_true b4,decide_eq_true b5,decide_eq_true b6];rfl)
  clear H H'
  cases hA:a1S p.s p.sc<;>cases hB:a1S p.d p.dc
  all_goals rw[hA]at a1
  all_goals rw[hB]at a2
  all_goals rw[hA,hB]at F
  all_goals clear hA hB
  all_goals (simp only[a1k];refine sxEva ?_;try exact tt)
  all_goals repeat' ((first|exact tt|refine CallO_pure (a1) ?_|refine CallO_pure (a2) ?_|refine na fun b=>?_|refine nb fun b hb=>?_|refine iq ?_|(refine jq ?_ ?_<;>intro h h')|refine Two_intro ?_ ?_|exact wZ|fail)<;>try refine sxEva ?_)
  all_goals (simp only[a0d,Hn]at *;first|omega|(have F':=F trivial trivial;omega))
end
section
open Go.RowKit Go.Lib
set_option maxRecDepth 100000
theorem sxHsm{A B:Prop}(h:B)(e:A=B:=by (simp (disch:=omega) only[*, ↓Ed,Eu, ↓reduceIte,reduceCtorEq,Nat.reduceAdd,Nat.reduceEqDiff,Nat.reduceLT,Nat.reduceLeDiff,Int.reduceToNat,Int.reduceEq,Int.reduceLT,Int.reduceLE,w64];first|done|rfl)):A:=e▸h
theorem a6B(a lo hi:Int):CP Tryz.prog 94 [.int .i64 a,.int .i64 lo,.int .i64 hi] (.bool (decide (lo≤a∧a≤hi))):=by
 refine a8U _ _ (by simp) ?_
 by_cases h1:lo≤a<;>by_cases h2:a≤hi
 ·rw[decide_eq_true ⟨h1,h2⟩]
  simp only[a2L];refine sxHsm ?_
  repeat' ((first|exact tt|refine na fun b=>?_|refine nb fun b hb=>?_|refine iq ?_|(refine jq ?_ ?_<;>intro h h')|refine Two_intro ?_ ?_|exact wZ|fail)<;>try refine sxHsm ?_)
  all_goals (exfalso;simp only[a0d,Hn]at *;omega)
 all_goals rw[decide_eq_false (fun h=>by omega)]
 all_goals (simp only[a2L];refine sxHsm ?_;try exact tt)
 all_goals repeat' ((first|exact tt|refine na fun b=>?_|refine nb fun b hb=>?_|refine iq ?_|(refine jq ?_ ?_<;>intro h h')|refine Two_intro ?_ ?_|exact wZ|fail)<;>try refine sxHsm ?_)
 all_goals (exfalso;simp only[a0d,Hn]at *;omega)
end
end Go.Proofs.YtfgihnhoocnmdaaGreatDoor
