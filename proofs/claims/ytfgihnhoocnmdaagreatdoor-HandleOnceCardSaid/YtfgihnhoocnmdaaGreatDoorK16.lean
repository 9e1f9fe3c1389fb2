import Derived.Test.YtfgihnhoocnmdaaGreatDoorK14
import Derived.Test.YtfgihnhoocnmdaaGreatDoorK15
import Derived.Sort.MapsRangeIn
import Derived.RangeFuncFrom
import Derived.RangeFuncLeaves
import Derived.TacticsInMore
import Derived.RegionIn
import Derived.LoopNIn
import Derived.LoopIn
import Derived.Maps.AppendAt
import Derived.Shelf.AbstractIn
import Derived.Shelf.SlSortCmp.NoneTotal
import Derived.RunT
import Derived.Calls
import Derived.Sort.Grow
import Derived.Deep.Draws
import Derived.Shelf.SlGeneric
import Derived.Shelf.SlicesE.Clone
import Derived.Ground.SlgnProg
namespace Go.Proofs.YtfgihnhoocnmdaaGreatDoor
set_option linter.all false
set_option maxHeartbeats 64000000
set_option maxRecDepth 100000
section
theorem b2C(l:List UInt8):(⟨l.toArray⟩:ByteArray).size=l.length:=by simp[ByteArray.size]
theorem b0e(s:List UInt8)(hs:s.length≤281474976710656):CP Tryz.prog 146 [.str s] (.str s):=
 MQ (vs:=[.string ⟨s.toArray⟩]) (v:=.string ⟨s.toArray⟩) rfl (by simp) rfl fun W=>Tryz.stringslite_Clone _ W (by rw[b2C];exact hs)
theorem a0Q{A B:Prop}(h:B)(e:A=B:=by (simp (disch:=omega) only[*, ↓Ed,Eu, ↓reduceIte,reduceCtorEq,Nat.reduceAdd,Nat.reduceEqDiff,Nat.reduceLT,Nat.reduceLeDiff,Int.reduceToNat,Int.reduceEq,Int.reduceLT,Int.reduceLE,Ap];first|done|rfl)):A:=e▸h
theorem Td(s:List UInt8)(hs:s.length≤281474976710656):CP Tryz.prog 78 [.str s] (.str s):=by
 refine a7y _ _ (by simp) ?_
 simp only[Wg];refine a0Q ?_
 repeat' ((first|exact tt|refine Ab (b0e _ (by omega)) ?_|refine na fun b=>?_|refine nb fun b hb=>?_|refine iq ?_|(refine jq ?_ ?_<;>intro h h')|exact wZ|refine Aa ?_ ?_)<;>try refine a0Q ?_)
end
section
open Go.RowKit Go.Lib
theorem Eb(cap:Nat)(L:List PrP)(i:Nat)(hi:i<L.length)(K:AV→Prop):RK (A5 (some 2) ((Aq cap L).drop (i * 2))) K=K (.agg (D9 (L.getD i default))):=prRow.ld cap L i default hi K
theorem XK(cap:Nat)(L:List PrP)(i j:Nat)(hi:i<L.length)(hj:j<2):∃ r,(Aq cap L).drop (i * 2+j)=(D9 (L.getD i default)).getD j .undef::r:=by
 have h:=prRow.drop_take cap L i default hi
 have e:((Aq cap L).drop (i * 2+j))[0]?=(D9 (L.getD i default))[j]?:=by
  rw[← h,CW hj,CC,CC];rfl
 generalize (Aq cap L).drop (i * 2+j)=X at e
 rcases X with _ | ⟨a,X⟩
 ·rcases j with _|_|j<;>simp at e
  omega
 ·refine ⟨X, ?_⟩
  congr 1
  simp only[G5]at e
  rw[List.getD, ← e];rfl
theorem Ec(cap:Nat)(L:List PrP)(i:Nat)(hi:i<L.length)(K:AV→Prop):RK (A5 none ((Aq cap L).drop (i * 2))) K=K (.str (L.getD i default).1):=by
 obtain ⟨r,h⟩:=XK cap L i 0 hi (by omega)
 rw[Nat.add_zero]at h
 rw[h,l_onef,RK_eq];rfl
theorem Ee(cap:Nat)(L:List PrP)(i:Nat)(hi:i<L.length)(K:AV→Prop):RK (A5 none ((Aq cap L).drop (i * 2+1))) K=K (.str (L.getD i default).2):=by
 obtain ⟨r,h⟩:=XK cap L i 1 hi (by omega)
 rw[h,l_onef,RK_eq];rfl
theorem A6(o:List (Nat × List AV)):∀ b cs,lk o b=some cs→∃ cs',lk o b=some cs':=fun b cs h=>⟨cs,h⟩
theorem WM:∀ a b:List UInt8,decide (Lib.compareBytes a b<0)=BX a b
 | [],[]=>by simp[Lib.compareBytes,BX,bytesLess_eq]
 | [],_::_=>by simp[Lib.compareBytes,BX,bytesLess_eq]
 | _::_,[]=>by simp[Lib.compareBytes,BX,bytesLess_eq]
 | x::a,y::b=>by
  have ih:=WM a b
  simp only[BX,bytesLess_eq,List.cons_lt_cons_iff]at ih ⊢
  unfold Lib.compareBytes
  by_cases h:x<y
  ·simp[h]
  ·by_cases g:y<x
   ·have:¬ x=y:=fun e=>by subst e;exact h g
    simp[h,g,this]
   ·have:x=y:=UInt8.le_antisymm (UInt8.not_lt.1 g) (UInt8.not_lt.1 h)
    simp[h,g,this,ih]
theorem WL:∀ a b:List UInt8,decide (Lib.compareBytes a b=0)=decide (a=b)
 | [],[]=>by simp[Lib.compareBytes]
 | [],_::_=>by simp[Lib.compareBytes]
 | _::_,[]=>by simp[Lib.compareBytes]
 | x::a,y::b=>by
  have ih:=WL a b
  unfold Lib.compareBytes
  by_cases h:x<y
  ·have:¬ x=y:=fun e=>by subst e;exact absurd h (UInt8.lt_irrefl x)
   simp[h,this]
  ·by_cases g:y<x
   ·have:¬ x=y:=fun e=>by subst e;exact h g
    simp[h,g,this]
   ·have:x=y:=UInt8.le_antisymm (UInt8.not_lt.1 g) (UInt8.not_lt.1 h)
    simpa[h,g,this]using ih
theorem a8B(a b:List UInt8):CP Tryz.prog 108 [.str a,.str b] (.int .i64 (Lib.compareBytes a b)):=
 MQ (vs:=[.string ⟨a.toArray⟩,.string ⟨b.toArray⟩]) (v:=.int .i64 (Lib.compareBytes a b)) rfl (by simp) rfl fun W=>
  (Tryz.strings_Compare ⟨a.toArray⟩ ⟨b.toArray⟩ W).mono fun e w' ⟨h1,h2⟩=>⟨by simpa using h1,h2▸Below.refl _ _⟩
theorem F2{A B:Prop}(h:B)(e:A=B:=by (simp (disch:=omega) only[*, ↓Ed,Eu, ↓reduceIte,reduceCtorEq,Nat.reduceAdd,Nat.reduceEqDiff,Nat.reduceLT,Nat.reduceLeDiff,Int.reduceToNat,Int.reduceEq,Int.reduceLT,Int.reduceLE,Ap, ↓Eb, ↓Ec, ↓Ee];first|done|rfl)):A:=e▸h
theorem a9s(p:PrP)(k:List UInt8):CP Tryz.prog 107 [.agg (D9 p),.str k] (.int .i64 (Lib.compareBytes p.1 k)):=by
 have hC:=a8B p.1 k
 refine a7x _ _ (by simp) ?_
 simp only[We];refine F2 ?_
 repeat' ((first|exact tt|refine Ab hC ?_|refine na fun b=>?_|refine nb fun b hb=>?_|refine iq ?_|(refine jq ?_ ?_<;>intro h h')|exact wZ|refine Aa ?_ ?_)<;>try refine F2 ?_)
abbrev Bl:=Option (Nat × Nat)
def stV(L:List PrP):Bl→AV
 | none=>.nils 115 2
 | some (g,cap)=>.hsl g 115 2 L.length cap
def TR(L:List PrP):Bl→AV
 | none=>.hnil 115 2
 | some (g,cap)=>.hsl g 115 2 L.length cap
def JN(L:List PrP):Bl→List (Nat × List AV)
 | none=>[]
 | some (g,cap)=>[(g,Aq cap L)]
def AF(s:Nat)(L:List PrP)(x:Bl):List (Nat × List AV):=(s,[stV L x])::JN L x
def stOk(s:Nat)(L:List PrP):Bl→Prop
 | none=>L=[]
 | some (g,cap)=>(¬ g=s∧¬ s=g)∧L.length≤cap
theorem b3X{x:Int}(h:0≤x∧x≤18446744073709551615):IntKind.u64.wrap x=x:=by rw[IntKind.wrap_u64];omega
theorem b2g(a:Int):a.fdiv (2 ^ (min (Int.toNat 1) IntKind.u64.bits))=a / 2:=by
 show a.fdiv 2=a / 2
 rw[Int.fdiv_eq_ediv_of_nonneg _ (by omega)]
theorem a5p(i j m:Nat)(h:m=(i+j) / 2)(hb:i+j≤1000000000):IntKind.i64.wrap ((IntKind.u64.wrap ((i:Int)+(j:Int))).fdiv (2 ^ (min 1 IntKind.u64.bits)))=(m:Int):=by
 have:=b2g ((i:Int)+j)
 rw[b3X (by omega)]
 refine (congrArg _ this).trans ?_
 rw[Ap (by omega)];omega
theorem XI{L:List PrP}{k:List UInt8}(h:¬ AE L k<L.length):A9 L k=false:=by simp[A9,h]
theorem a4l{L:List PrP}{k:List UInt8}(h:AE L k<L.length):A9 L k=decide (Lib.compareBytes (L.getD (AE L k) default).1 k=0):=by rw[WL];simp[A9,h]
theorem a0A(L:List PrP):TR L none=.hnil 115 2:=rfl
theorem a0B(L:List PrP)(g cap:Nat):TR L (some (g,cap))=.hsl g 115 2 L.length cap:=rfl
theorem a0D(L:List PrP):JN L none=[]:=rfl
theorem a0E(L:List PrP)(g cap:Nat):JN L (some (g,cap))=[(g,Aq cap L)]:=rfl
theorem b2N(s:Nat)(L:List PrP)(hL:DT L)(hb:L.length≤1000000)(k:List UInt8)(x:Bl)(hx:stOk s L x):
  CT Tryz.prog 106 [TR L x,.str k,.fn 107] (lk (JN L x)) (fun r o=>r=.tup [.int .i64 (AE L k:Nat),.bool (A9 L k)]∧o=lk (JN L x)):=by
 have hF:=fun p=>a9s p k
 have hB:K9 Tryz.prog 107=true:=by kernel_rfl
 have hpl:=IV L k
 refine a8b _ _ _ (by simp) ?_
 rcases x with _ | ⟨g,cap⟩
 ·obtain rfl:L=[]:=hx
  have e1:AE [] k=0:=rfl
  have e2:A9 [] k=false:=rfl
  simp (disch:=omega) only[Rx,a0A,a0D,e1,e2, ↓Ed,Eu, ↓reduceIte,reduceCtorEq,Nat.reduceAdd,Nat.reduceEqDiff,Nat.reduceLT,Nat.reduceLeDiff,Int.reduceToNat,Int.reduceEq,Int.reduceLT,Int.reduceLE,Ap, ↓Eb, ↓Ec, ↓Ee]
  repeat' ((first|exact tt|refine na fun b=>?_|refine nb fun b hb=>?_|refine iq ?_|(refine jq ?_ ?_<;>intro h h')|exact wZ|refine Aa ?_ ?_)<;>try refine F2 ?_)
  refine A2 (fun _:Nat=>⟨lk [(0,.hnil 115 2),(1,.str k),(2,.fn 107),(8,.int .i64 0),(9,.int .i64 0),(10,.int .i64 0)],lk []⟩) (fun _=>True) (fun _=>0) 0 trivial (An Mc) ?_
  intro _ _
  refine F2 ?_
  repeat' ((first|exact tt|refine na fun b=>?_|refine nb fun b hb=>?_|refine iq ?_|(refine jq ?_ ?_<;>intro h h')|exact wZ|refine Aa ?_ ?_)<;>try refine F2 ?_)
  all_goals exact AG ZU (A6 _)
 ·have hc:L.length≤cap:=hx.2
  clear hx
  simp (disch:=omega) only[Rx,a0B,a0E, ↓Ed,Eu, ↓reduceIte,reduceCtorEq,Nat.reduceAdd,Nat.reduceEqDiff,Nat.reduceLT,Nat.reduceLeDiff,Int.reduceToNat,Int.reduceEq,Int.reduceLT,Int.reduceLE,Ap, ↓Eb, ↓Ec, ↓Ee]
  repeat' ((first|exact tt|refine na fun b=>?_|refine nb fun b hb=>?_|refine iq ?_|(refine jq ?_ ?_<;>intro h h')|exact wZ|refine Aa ?_ ?_)<;>try refine F2 ?_)
  refine A2 (fun z:Nat × Nat=>⟨lk [(0,.hsl g 115 2 L.length cap),(1,.str k),(2,.fn 107),(8,.int .i64 (L.length:Int)),(9,.int .i64 (z.1:Int)),(10,.int .i64 (z.2:Int))],lk [(g,Aq cap L)]⟩)
   (fun z=>z.1≤z.2∧z.2≤L.length∧(∀ i,i<z.1→BX (L.getD i default).1 k=true)∧(∀ i,z.2≤i→i<L.length→BX (L.getD i default).1 k=false)) (fun z=>z.2 - z.1) (0,L.length) ⟨by omega,by omega,by omega,by omega⟩ (An Mc) ?_
  rintro ⟨i,j⟩ ⟨i1,i2,i3,i4⟩
  simp only at i1 i2 i3 i4
  by_cases hij:i<j
  ·have f1:Ac (decide ((i:Int)<j)=true):=fo
   obtain ⟨m,hm⟩:∃ m:Nat,m=(i+j) / 2:=⟨_,rfl⟩
   have he:=a5p i j m hm (by omega)
   have hm2:i≤m∧m<j:=by omega
   clear hm
   have hd:=WM (L.getD m default).1 k
   have hbf:∀ n,n≤m→BX (L.getD m default).1 k=true→BX (L.getD n default).1 k=true:=fun n hn h1=>by
    by_cases e:n=m
    ·subst e;exact h1
    ·exact strSTO.tr _ _ _ (KM hL (by omega) (by omega)) h1
   have hbh:∀ n,m≤n→n<L.length→BX (L.getD m default).1 k=false→BX (L.getD n default).1 k=false:=fun n hn hl h1=>by
    by_cases e:n=m
    ·subst e;exact h1
    ·cases hq:BX (L.getD n default).1 k with
     | false=>rfl
     | true=>rw[strSTO.tr _ _ _ (KM hL (by omega) hl) hq]at h1;cases h1
   have hFm:=hF (L.getD m default)
   clear hF hpl
   cases hq:BX (L.getD m default).1 k with
   | true=>
    rw[hq]at hd
    have f2:Ac (decide (Lib.compareBytes (L.getD m default).1 k<0)=true):=hd
    clear hd
    refine F2 ?_
    repeat' ((first|exact tt|refine Ab hFm ?_|refine na fun b=>?_|refine nb fun b hb=>?_|refine iq ?_|(refine jq ?_ ?_<;>intro h h')|exact wZ|refine Aa ?_ ?_)<;>try refine F2 ?_)
    all_goals exact AC (m+1,j) ⟨An Mc,⟨by simp only;omega,i2,fun n hn=>hbf n (by simp only at hn;omega) hq,i4⟩,by simp only;omega⟩
   | false=>
    rw[hq]at hd
    have f2:Ac (decide (Lib.compareBytes (L.getD m default).1 k<0)=false):=hd
    clear hd
    refine F2 ?_
    repeat' ((first|exact tt|refine Ab hFm ?_|refine na fun b=>?_|refine nb fun b hb=>?_|refine iq ?_|(refine jq ?_ ?_<;>intro h h')|exact wZ|refine Aa ?_ ?_)<;>try refine F2 ?_)
    all_goals exact AC (i,m) ⟨An Mc,⟨by simp only;omega,by simp only;omega,i3,fun n hn hl=>hbh n hn hl hq⟩,by simp only;omega⟩
  ·obtain rfl:i=j:=by omega
   have hp:AE L k=i:=ZN hL k i i2 i3 i4
   have f1:Ac (decide ((i:Int)<i)=false):=fo
   clear i1 i3 i4 hij
   by_cases hil:i<L.length
   ·have f2:Ac (decide ((i:Int)<L.length)=true):=fo
    have hh:=a4l (L:=L) (k:=k) (by rw[hp];exact hil)
    rw[hp]at hh
    have hFm:=hF (L.getD i default)
    clear hF hpl
    rw[hh,hp]
    clear hh
    refine F2 ?_
    repeat' ((first|exact tt|refine Ab hFm ?_|refine na fun b=>?_|refine nb fun b hb=>?_|refine iq ?_|(refine jq ?_ ?_<;>intro h h')|exact wZ|refine Aa ?_ ?_)<;>try refine F2 ?_)
    all_goals exact AG ZU (A6 _)
   ·have f2:Ac (decide ((i:Int)<L.length)=false):=fo
    rw[XI (L:=L) (k:=k) (by omega),hp]
    clear hF hpl
    refine F2 ?_
    repeat' ((first|exact tt|refine na fun b=>?_|refine nb fun b hb=>?_|refine iq ?_|(refine jq ?_ ?_<;>intro h h')|exact wZ|refine Aa ?_ ?_)<;>try refine F2 ?_)
    all_goals exact AG ZU (A6 _)
end
section
open Go.RowKit Go.Lib
section
variable {P:Program} {d:Option Nat} {s:St} {K:St→Prop}
theorem c0{f:Nat}{vs:List AV}{r:AV}(h:CT P f vs (lk []) (fun r' o'=>r'=r∧o'=lk []))(hK:KS (St.put ⟨s.t,BG [] s.o⟩ d r) K):Dg P f vs d s K:=KY h (fun b cs h=>by cases h) hK
end
theorem A3(s:Nat)(L:List PrP):AF s L none=[(s,[.nils 115 2])]:=rfl
theorem AA(s:Nat)(L:List PrP)(g cap:Nat):AF s L (some (g,cap))=[(s,[.hsl g 115 2 L.length cap]),(g,Aq cap L)]:=rfl
theorem I7{A B:Prop}(h:B)(e:A=B:=by (simp (disch:=omega) only[*, ↓Ed,Eu, ↓reduceIte,reduceCtorEq,Nat.reduceAdd,Nat.reduceEqDiff,Nat.reduceLT,Nat.reduceLeDiff,Int.reduceToNat,Int.reduceEq,Int.reduceLT,Int.reduceLE,Ap, ↓Eb, ↓Ec, ↓Ee];first|done|rfl)):A:=e▸h
theorem TU(s:Nat)(L:List PrP)(hL:DT L)(hb:L.length≤1000000)(k:List UInt8)(x:Bl)(hx:stOk s L x):
  CT Tryz.prog 48 [.ptr s 0,.str k] (lk (AF s L x)) (fun r o=>r=.tup [.int .i64 (AE L k:Nat),.bool (A9 L k)]∧o=lk (AF s L x)):=by
 have hS:=b2N s L hL hb k x hx
 refine a8g _ _ _ (by simp) ?_
 rcases x with _ | ⟨g,cap⟩
 ·rw[a0D,a0A]at hS
  clear hL hb hx
  simp (disch:=omega) only[RA,A3, ↓Ed,Eu, ↓reduceIte,reduceCtorEq,Nat.reduceAdd,Nat.reduceEqDiff,Nat.reduceLT,Nat.reduceLeDiff,Int.reduceToNat,Int.reduceEq,Int.reduceLT,Int.reduceLE,Ap, ↓Eb, ↓Ec, ↓Ee]
  repeat' ((first|exact tt|(refine c0 hS ?_)|refine na fun b=>?_|refine nb fun b hb=>?_|refine iq ?_|(refine jq ?_ ?_<;>intro h h')|exact wZ|refine Aa ?_ ?_)<;>try refine I7 ?_)
  all_goals exact AG ZU (A6 _)
 ·rw[a0E,a0B]at hS
  have hgs:=hx.1
  clear hL hb hx
  simp (disch:=omega) only[RA,AA,hgs, ↓Ed,Eu, ↓reduceIte,reduceCtorEq,Nat.reduceAdd,Nat.reduceEqDiff,Nat.reduceLT,Nat.reduceLeDiff,Int.reduceToNat,Int.reduceEq,Int.reduceLT,Int.reduceLE,Ap, ↓Eb, ↓Ec, ↓Ee]
  repeat' ((first|exact tt|refine c1 hS ?_|refine na fun b=>?_|refine nb fun b hb=>?_|refine iq ?_|(refine jq ?_ ?_<;>intro h h')|exact wZ|refine Aa ?_ ?_)<;>try refine I7 ?_)
  all_goals exact AG (by simp[Am,lk,hgs,r_two,rl_cons,rl_nil,Br,al_int,al_bool]) (A6 _)
theorem O8{L:List PrP}{k:List UInt8}(h:A9 L k=true):C2 L k=(L.getD (AE L k) default).2:=by simp only[C2,Af h]
theorem O7{L:List PrP}{k:List UInt8}(h:A9 L k=false):C2 L k=[]:=by simp[C2,h]
theorem Jv{L:List PrP}{k:List UInt8}(h:A9 L k=true):AE L k<L.length:=by simp only[A9,AP,Bs]at h;exact h.1
theorem Fj{s:Nat}{L:List PrP}{k:List UInt8}(h:A9 L k=true){x:Bl}(hx:stOk s L x):∃ g cap,x=some (g,cap):=by
 rcases x with _ | ⟨g,cap⟩
 ·obtain rfl:L=[]:=hx
  simp[A9,AE]at h
 ·exact ⟨g,cap,rfl⟩
theorem Qt(s:Nat)(L:List PrP)(hL:DT L)(hb:L.length≤1000000)(k:List UInt8)(x:Bl)(hx:stOk s L x):
  CT Tryz.prog 15 [.ptr s 0,.str k] (lk (AF s L x)) (fun r o=>r=.tup [.str (C2 L k),.bool (A9 L k)]∧o=lk (AF s L x)):=by
 have hF:=TU s L hL hb k x hx
 refine a8d _ _ _ (by simp) ?_
 cases hh:A9 L k with
 | false=>
  rw[O7 hh]
  rw[hh]at hF
  clear hL hb
  rcases x with _ | ⟨g,cap⟩
  ·rw[A3]at hF
   clear hx
   simp (disch:=omega) only[ON,A3, ↓Ed,Eu, ↓reduceIte,reduceCtorEq,Nat.reduceAdd,Nat.reduceEqDiff,Nat.reduceLT,Nat.reduceLeDiff,Int.reduceToNat,Int.reduceEq,Int.reduceLT,Int.reduceLE,Ap, ↓Eb, ↓Ec, ↓Ee]
   repeat' ((first|exact tt|refine c1 hF ?_|refine na fun b=>?_|refine nb fun b hb=>?_|refine iq ?_|(refine jq ?_ ?_<;>intro h h')|exact wZ|refine Aa ?_ ?_)<;>try refine I7 ?_)
   all_goals exact AG (by simp[Am,lk,r_two,rl_cons,rl_nil,Br,al_str,al_bool]) (A6 _)
  ·rw[AA]at hF
   have hgs:=hx.1
   clear hx
   simp (disch:=omega) only[ON,AA,hgs, ↓Ed,Eu, ↓reduceIte,reduceCtorEq,Nat.reduceAdd,Nat.reduceEqDiff,Nat.reduceLT,Nat.reduceLeDiff,Int.reduceToNat,Int.reduceEq,Int.reduceLT,Int.reduceLE,Ap, ↓Eb, ↓Ec, ↓Ee]
   repeat' ((first|exact tt|refine c2 hF ?_|refine na fun b=>?_|refine nb fun b hb=>?_|refine iq ?_|(refine jq ?_ ?_<;>intro h h')|exact wZ|refine Aa ?_ ?_)<;>try refine I7 ?_)
   all_goals exact AG (by simp[Am,lk,hgs,r_two,rl_cons,rl_nil,Br,al_str,al_bool]) (A6 _)
 | true=>
  obtain ⟨g,cap,rfl⟩:=Fj hh hx
  have hlt:=Jv hh
  rw[O8 hh]
  rw[hh,AA]at hF
  have hgs:=hx.1
  clear hL hb hx hh
  simp (disch:=omega) only[ON,AA,hgs, ↓Ed,Eu, ↓reduceIte,reduceCtorEq,Nat.reduceAdd,Nat.reduceEqDiff,Nat.reduceLT,Nat.reduceLeDiff,Int.reduceToNat,Int.reduceEq,Int.reduceLT,Int.reduceLE,Ap, ↓Eb, ↓Ec, ↓Ee]
  repeat' ((first|exact tt|refine c2 hF ?_|refine na fun b=>?_|refine nb fun b hb=>?_|refine iq ?_|(refine jq ?_ ?_<;>intro h h')|exact wZ|refine Aa ?_ ?_)<;>try refine I7 ?_)
  all_goals exact AG (by simp[Am,lk,hgs,r_two,rl_cons,rl_nil,Br,al_str,al_bool]) (A6 _)
theorem a1e:CT Tryz.prog 24 [] (fun _=>none) (fun r o=>∃ b,r=.ptr b 0∧o=lk [(b,[.nils 115 2])]):=by
 refine a8c _ (lk []) _ (by simp) ?_
 simp only[Wc];refine I7 ?_
 repeat' ((first|exact tt|refine na fun b=>?_|refine nb fun b hb=>?_|refine iq ?_|(refine jq ?_ ?_<;>intro h h')|exact wZ|refine Aa ?_ ?_)<;>try refine I7 ?_)
 all_goals exact TD ⟨rfl,by simp[Am,lk]⟩
def B3(k v:List UInt8):Bool:=decide (1≤k.length∧k.length≤160∧1≤v.length∧v.length≤64)
theorem ZF(k v:List UInt8)(hk:k.length≤1000000)(hv:v.length≤1000000):CP Tryz.prog 147 [.str k,.str v] (.bool (B3 k v)):=by
 refine a7m _ _ (by simp) ?_
 have e1:∀ l:List UInt8,decide (l=[])=decide (l.length=0):=fun l=>by simp[K4]
 have e:B3 k v=(((!decide (k.length=0))&&decide ((k.length:Int)≤160))&&(!decide (v.length=0))&&decide ((v.length:Int)≤64)):=by
  unfold B3
  rw[FE]
  simp only[AP,G3,Bs,Hf]
  omega
 rw[e]
 simp only[V1];refine I7 ?_
 repeat' ((first|exact tt|refine na fun b=>?_|refine nb fun b hb=>?_|refine iq ?_|(refine jq ?_ ?_<;>intro h h')|exact wZ|refine Aa ?_ ?_)<;>try refine I7 ?_)
 all_goals (rw[FE];simp only[Ac,AP,G3,Bool.not_eq_false',D3,Bs,Hf]at *;refine ⟨fun h=>?_,fun h=>?_⟩<;>first|exact h.elim|omega)

theorem NQ{A:Prop}(h:A:=by first|(simp[*,Am,lk,A3,ov_cons,ov_nil,del_cons,del_nil];done)|fail):A:=h
theorem Fz{A:Prop}(h:A:=by first|(simp[*,Am,lk,AA,ov_cons,ov_nil,del_cons,del_nil];done)|fail):A:=h
theorem NS{A:Prop}(h:A:=by first|(simp[*,Am,lk,AA,A3,ov_cons,ov_nil,del_cons,del_nil];done)|fail):A:=h
theorem Md{A:Prop}(h:A:=by first|(simp[Am,lk,AA, *];done)|fail):A:=h
theorem P2{A:Prop}(h:A:=by first|(simp[*,Am,lk,AA,ov_cons,ov_nil,del_cons,del_nil];done)|fail):A:=h
end
section
open Go.RowKit Go.Lib
theorem JW{A B:Prop}(h:B)(e:A=B:=by (simp (disch:=omega) only[*, ↓Ed,Eu, ↓reduceIte,reduceCtorEq,Nat.reduceAdd,Nat.reduceEqDiff,Nat.reduceLT,Nat.reduceLeDiff,Int.reduceToNat,Int.reduceEq,Int.reduceLT,Int.reduceLE,Ap, ↓Eb, ↓Ec, ↓Ee,List.length_singleton,Int.natCast_one];first|done|rfl)):A:=e▸h
theorem b2F(g cap:Nat)(x:PrP)(hk:x.1.length≤1000000)(hv:x.2.length≤1000000):
  CT Tryz.prog 79 [.hsl g 115 2 1 cap] (lk [(g,Aq cap [x])]) (fun r o=>r=.bool (B3 x.1 x.2)∧o=lk [(g,Aq cap [x])]):=by
 have hS:=ZF x.1 x.2 hk hv
 refine a8a _ _ _ (by simp) ?_
 simp only[V0];refine JW ?_
 repeat' ((first|exact tt|refine na fun b=>?_|refine nb fun b hb=>?_|refine iq ?_|(refine jq ?_ ?_<;>intro h h')|exact wZ|refine Aa ?_ ?_)<;>try refine JW ?_)
 refine A2 (fun i:Nat=>⟨lk [(0,.hsl g 115 2 1 cap),(5,.hsl g 115 2 1 cap),(6,.int .i64 1),(7,.int .i64 (i:Int))],lk [(g,Aq cap [x])]⟩) (fun i=>i≤1∧(i=1→B3 x.1 x.2=true)) (fun i=>1 - i) 0 ⟨by omega,by omega⟩ (An Mc) ?_
 intro i ⟨hi,hm⟩
 by_cases hi1:i<1
 ·have f1:Ac (decide ((i:Int)<1)=true):=fo
  have f2:Ac (decide ((0:Int)<i)=false):=fo
  have hl:i<[x].length:=by simpa using hi1
  have he:[x].getD i default=x:=by
   obtain rfl:i=0:=by omega
   rfl
  clear hm
  cases hq:B3 x.1 x.2 with
  | false=>
   rw[hq]at hS
   refine JW ?_
   repeat' ((first|exact tt|refine Ag hS ?_|refine Ab hS ?_|refine na fun b=>?_|refine nb fun b hb=>?_|refine iq ?_|(refine jq ?_ ?_<;>intro h h')|exact wZ|refine Aa ?_ ?_)<;>try refine JW ?_)
   all_goals exact AG KI (A6 _)
  | true=>
   rw[hq]at hS
   refine JW ?_
   repeat' ((first|exact tt|refine Ag hS ?_|refine Ab hS ?_|refine na fun b=>?_|refine nb fun b hb=>?_|refine iq ?_|(refine jq ?_ ?_<;>intro h h')|exact wZ|refine Aa ?_ ?_)<;>try refine JW ?_)
   all_goals exact AC (i+1) ⟨An qd,⟨by omega,fun _=>(by first|trivial|exact hq)⟩,by omega⟩
 ·have f1:Ac (decide ((i:Int)<1)=false):=fo
  rw[hm (by omega)]
  refine JW ?_
  repeat' ((first|exact tt|refine na fun b=>?_|refine nb fun b hb=>?_|refine iq ?_|(refine jq ?_ ?_<;>intro h h')|exact wZ|refine Aa ?_ ?_)<;>try refine JW ?_)
  all_goals exact AG KI (A6 _)
end
section
open Go.RowKit Go.Lib
theorem LF(cap:Nat)(L:List PrP)(h:L.length≤cap):(Aq cap L).length=cap * 2:=by rw[Aq,prRow.len_hc];congr 1;omega
theorem Mu(cap:Nat)(L:List PrP)(i:Nat)(hi:i<L.length)(k v:List UInt8):splice (Aq cap L) (i * 2) [.str k,.str v]=Aq cap (L.set i (k,v)):=prRow.sto cap L i (k,v) hi
theorem LG(cap:Nat)(k v:List UInt8):hc 2 cap [[.str k,.str v]]=Aq cap [(k,v)]:=rfl
theorem a0p{L:List PrP}{k:List UInt8}(h:A9 L k=true)(v:List UInt8):A7 L k v=L.set (AE L k) (k,v):=by
 have hl:=Jv h
 rw[A7,Af h,List.set_eq_take_append_cons_drop,Af hl,DC];rfl
theorem Qb{L:List PrP}{k:List UInt8}(h:A9 L k=false)(v:List UInt8):A7 L k v=Dt L (AE L k) (k,v):=by
 rw[A7,Ad (by simp[h])];rfl
def CQ(L:List PrP)(k v:List UInt8):List PrP:=if B3 k v=true then A7 L k v else L
def FA(k v:List UInt8):Int:=if B3 k v=true then 0 else 1
theorem Tz(L:List PrP)(k v:List UInt8):(CQ L k v).length≤L.length+1:=by
 unfold CQ
 split
 ·cases h:A9 L k with
  | true=>rw[a0p h];simp
  | false=>rw[Qb h,Pf _ _ _ (IV L k)];omega
 ·omega
abbrev IZ(s:Nat)(L L':List PrP)(x:Bl)(E:Int):AV→(Nat→Option (List AV))→Prop:=fun r o=>∃ y,(stOk s L' y∧(y=none→x=none))∧r=.int .i64 E∧o=lk (ov (AF s L' y) (AF s L x))
theorem Ch{st:St}{rs:List AR}{s:Nat}{L L':List PrP}{x:Bl}{E:Int}(y:Bl)(hy:stOk s L' y∧(y=none→x=none))(h:BR st rs (.int .i64 E))(ho:Am (ov (AF s L' y) (AF s L x)) st.o):
  Ga st rs (lk (AF s L x)) (IZ s L L' x E):=
 ⟨_,h,_,Gu ho,fun b cs hb=>by
  rw[← ovr_lk]
  simp only[BG,hb]
  cases lk (AF s L' y) b with
  | none=>exact ⟨_,rfl⟩
  | some z=>exact ⟨_,rfl⟩,y,hy,rfl,rfl⟩
theorem N3{A B:Prop}(h:B)(e:A=B:=by (simp (disch:=omega) only[*, ↓Ed,Eu, ↓reduceIte,reduceCtorEq,Nat.reduceAdd,Nat.reduceEqDiff,Nat.reduceLT,Nat.reduceLeDiff,Int.reduceToNat,Int.reduceEq,Int.reduceLT,Int.reduceLE,Ap, ↓Eb, ↓Ec, ↓Ee,Hv,List.all_cons,List.all_nil,LF,Mu,LG];first|done|rfl)):A:=e▸h
theorem MG(s:Nat)(L:List PrP)(hL:DT L)(hb:L.length≤100000)(k v:List UInt8)(hk:k.length≤1000000)(hv:v.length≤1000000)(x:Bl)(hx:stOk s L x):
  CT Tryz.prog 33 [.ptr s 0,.str k,.str v] (lk (AF s L x)) (IZ s L (CQ L k v) x (FA k v)):=by
 have hF:=TU s L hL (by omega) k x hx
 have hCk:=Td k (by omega)
 have hCv:=Td v (by omega)
 have hG:=fun g cap=>b2F g cap (k,v) hk hv
 have hP0:=fun gv cap=>b2H gv cap (k,v)
 have hpl:=IV L k
 refine a8f _ _ _ (by simp) ?_
 cases hm:B3 k v with
 | false=>
  simp only[hm]at hG
  simp only[CQ,FA,hm,D3,BV]
  rcases x with _ | ⟨g,cap⟩
  ·clear hF hP0
   simp (disch:=omega) only[Lp,A3, ↓Ed,Eu, ↓reduceIte,reduceCtorEq,Nat.reduceAdd,Nat.reduceEqDiff,Nat.reduceLT,Nat.reduceLeDiff,Int.reduceToNat,Int.reduceEq,Int.reduceLT,Int.reduceLE,Ap, ↓Eb, ↓Ec, ↓Ee,Hv,List.all_cons,List.all_nil,LF,Mu,LG]
   repeat' ((first|exact tt|refine Ab hCk ?_|refine Ab hCv ?_|refine c1 (hG _ _) ?_|refine na fun b=>?_|refine nb fun b hb=>?_|refine iq ?_|(refine jq ?_ ?_<;>intro h h')|exact wZ|refine Aa ?_ ?_)<;>try refine N3 ?_)
   all_goals exact Ch (L:=L) (x:=none) none ⟨hx,fun _=>rfl⟩ NR (by simp[*,Am,lk,A3,ov_cons,ov_nil,del_cons,del_nil])
  ·have hgs:=hx.1
   clear hF hP0
   simp (disch:=omega) only[Lp,AA,hgs, ↓Ed,Eu, ↓reduceIte,reduceCtorEq,Nat.reduceAdd,Nat.reduceEqDiff,Nat.reduceLT,Nat.reduceLeDiff,Int.reduceToNat,Int.reduceEq,Int.reduceLT,Int.reduceLE,Ap, ↓Eb, ↓Ec, ↓Ee,Hv,List.all_cons,List.all_nil,LF,Mu,LG]
   repeat' ((first|exact tt|refine Ab hCk ?_|refine Ab hCv ?_|refine c1 (hG _ _) ?_|refine na fun b=>?_|refine nb fun b hb=>?_|refine iq ?_|(refine jq ?_ ?_<;>intro h h')|exact wZ|refine Aa ?_ ?_)<;>try refine N3 ?_)
   all_goals exact Ch (x:=some (g,cap)) (some (g,cap)) ⟨hx,fun h=>by cases h⟩ NR P2
 | true=>
  simp only[hm]at hG
  simp only[CQ,FA,hm,Bo]
  cases hh:A9 L k with
  | true=>
   obtain ⟨g,cap,rfl⟩:=Fj hh hx
   have hlt:=Jv hh
   rw[a0p hh]
   rw[hh,AA]at hF
   have hgs:=hx.1
   have hcap:L.length≤cap:=hx.2
   clear hP0 hpl
   simp (disch:=omega) only[Lp,AA,hgs, ↓Ed,Eu, ↓reduceIte,reduceCtorEq,Nat.reduceAdd,Nat.reduceEqDiff,Nat.reduceLT,Nat.reduceLeDiff,Int.reduceToNat,Int.reduceEq,Int.reduceLT,Int.reduceLE,Ap, ↓Eb, ↓Ec, ↓Ee,Hv,List.all_cons,List.all_nil,LF,Mu,LG]
   repeat' ((first|exact tt|refine Ab hCk ?_|refine Ab hCv ?_|refine c1 (hG _ _) ?_|refine c2 hF ?_|refine na fun b=>?_|refine nb fun b hb=>?_|refine iq ?_|(refine jq ?_ ?_<;>intro h h')|exact wZ|refine Aa ?_ ?_)<;>try refine N3 ?_)
   all_goals exact Ch (x:=some (g,cap)) (some (g,cap)) ⟨⟨hgs,by simpa using hcap⟩,fun h=>by cases h⟩ NR P2
  | false=>
   rw[Qb hh]
   rcases x with _ | ⟨g,cap⟩
   ·obtain rfl:L=[]:=hx
    have e1:AE [] k=0:=rfl
    have e2:Dt [] 0 (k,v)=[(k,v)]:=rfl
    rw[hh,A3,e1]at hF
    rw[e1,e2]
    clear hpl
    simp (disch:=omega) only[Lp,A3, ↓Ed,Eu, ↓reduceIte,reduceCtorEq,Nat.reduceAdd,Nat.reduceEqDiff,Nat.reduceLT,Nat.reduceLeDiff,Int.reduceToNat,Int.reduceEq,Int.reduceLT,Int.reduceLE,Ap, ↓Eb, ↓Ec, ↓Ee,Hv,List.all_cons,List.all_nil,LF,Mu,LG]
    repeat' ((first|exact tt|refine Ab hCk ?_|refine Ab hCv ?_|refine c1 (hG _ _) ?_|refine c1 hF ?_|(refine a2L (hP0 _ _) (fun b c hb h2 hc=>?_);simp only[Bt,Bu,Bc]at hb)|refine na fun b=>?_|refine nb fun b hb=>?_|refine iq ?_|(refine jq ?_ ?_<;>intro h h')|exact wZ|refine Aa ?_ ?_)<;>try refine N3 ?_)
    all_goals exact Ch (L:=[]) (x:=none) (some (b,c)) ⟨⟨by simp only[*,Ct,and_self],by assumption⟩,fun h=>by cases h⟩ NR (by simp[*,Am,lk,AA,A3,ov_cons,ov_nil,del_cons,del_nil])
   ·have hgs:=hx.1
    have hcap:L.length≤cap:=hx.2
    rw[hh,AA]at hF
    have hil:=Pf L (AE L k) (k,v) hpl
    have hI:=fun gv capv (hgv:¬ gv=g∧¬ g=gv)=>b2G g gv cap capv (AE L k) L (k,v) hgv hpl (by omega)
    clear hP0
    simp (disch:=omega) only[Lp,AA,hgs, ↓Ed,Eu, ↓reduceIte,reduceCtorEq,Nat.reduceAdd,Nat.reduceEqDiff,Nat.reduceLT,Nat.reduceLeDiff,Int.reduceToNat,Int.reduceEq,Int.reduceLT,Int.reduceLE,Ap, ↓Eb, ↓Ec, ↓Ee,Hv,List.all_cons,List.all_nil,LF,Mu,LG]
    repeat' ((first|exact tt|refine Ab hCk ?_|refine Ab hCv ?_|refine c1 (hG _ _) ?_|refine c2 hF ?_|((refine a2K (hI _ _) (fun c hc=>?_) (fun b c hn h2 h3 hc=>?_))<;>(try simp only[Bt,Bu,Bc]at hn))|refine na fun b=>?_|refine nb fun b hb=>?_|refine iq ?_|(refine jq ?_ ?_<;>intro h h')|exact wZ|refine Aa ?_ ?_)<;>try refine N3 ?_)
    ·exact Ch (L:=L) (x:=some (g,cap)) (some (g,c)) ⟨⟨hgs,by rw[hil];exact hc⟩,fun h=>by cases h⟩ NR P2
    ·exact Ch (L:=L) (x:=some (g,cap)) (some (b,c)) ⟨⟨by simp only[*,Ct,and_self],by rw[hil];exact hc⟩,fun h=>by cases h⟩ NR P2
section
variable {d:Option Nat} {st:St} {K:St→Prop}
theorem V3{f s:Nat}{vs:List AV}{L L':List PrP}{x:Bl}{E:Int}(h:CT Tryz.prog f vs (lk (AF s L x)) (IZ s L L' x E))(hsub:∀ b cs,lk (AF s L x) b=some cs→st.o b=some cs)
  (hK:∀ y,stOk s L' y→(y=none→x=none)→(∀ g cap,y=some (g,cap)→lk (AF s L x) g=none→st.o g=none)→KS (St.put ⟨st.t,BG (AF s L' y) st.o⟩ d (.int .i64 E)) K):Dg Tryz.prog f vs d st K:=by
 refine ⟨_,_,hsub,h, ?_⟩
 rintro r o2 ⟨y,⟨hy,hyx⟩,rfl,rfl⟩ hf
 have e:(fun b=>(lk (ov (AF s L' y) (AF s L x)) b).or (st.o b))=BG (AF s L' y) st.o:=by
  funext b
  rw[← ovr_lk]
  simp only[BG]
  cases h1:lk (AF s L' y) b with
  | some z=>rfl
  | none=>
   cases h2:lk (AF s L x) b with
   | none=>rfl
   | some z=>rw[hsub b z h2];rfl
 rw[e]
 refine hK y hy hyx fun g cap hg hn=>hf g (Aq cap L') ?_ hn
 subst hg
 rw[← ovr_lk]
 have h3:=hy.1
 simp[BG,AA,lk,h3]
theorem Iz{f s:Nat}{vs:List AV}{L L':List PrP}{E:Int}(h:CT Tryz.prog f vs (lk [(s,[.nils 115 2])]) (IZ s L L' none E))
  (k0:stOk s L' none→KS (St.put ⟨st.t,BG [(s,[.nils 115 2])] st.o⟩ d (.int .i64 E)) K)
  (k1:∀ b c,st.o b=none→(¬ b=s∧¬ s=b)→L'.length≤c→KS (St.put ⟨st.t,BG [(s,[.hsl b 115 2 L'.length c]),(b,Aq c L')] st.o⟩ d (.int .i64 E)) K)
  (q1:st.o s=some [.nils 115 2]:=by first|((repeat (first|exact CH _ _ _|(refine CN ?_ ?_;(focus (first|assumption|(simp only[*,Ct];done))))));done)|fail):Dg Tryz.prog f vs d st K:=by
 refine V3 (x:=none) h (Pq q1) fun y hy _ hf=>?_
 rcases y with _ | ⟨b,c⟩
 ·exact k0 hy
 ·exact k1 b c (hf b c rfl (by simp[A3,lk,hy.1])) hy.1 hy.2
theorem Ex{f s g cap:Nat}{vs:List AV}{L L':List PrP}{E:Int}(h:CT Tryz.prog f vs (lk [(s,[.hsl g 115 2 L.length cap]),(g,Aq cap L)]) (IZ s L L' (some (g,cap)) E))
  (k1:∀ c,L'.length≤c→KS (St.put ⟨st.t,BG [(s,[.hsl g 115 2 L'.length c]),(g,Aq c L')] st.o⟩ d (.int .i64 E)) K)
  (k2:∀ b c,st.o b=none→(¬ b=s∧¬ s=b)→L'.length≤c→KS (St.put ⟨st.t,BG [(s,[.hsl b 115 2 L'.length c]),(b,Aq c L')] st.o⟩ d (.int .i64 E)) K)
  (q1:st.o s=some [.hsl g 115 2 L.length cap]:=by first|((repeat (first|exact CH _ _ _|(refine CN ?_ ?_;(focus (first|assumption|(simp only[*,Ct];done))))));done)|fail) (q2:st.o g=some (Aq cap L):=by first|((repeat (first|exact CH _ _ _|(refine CN ?_ ?_;(focus (first|assumption|(simp only[*,Ct];done))))));done)|fail):Dg Tryz.prog f vs d st K:=by
 refine V3 (x:=some (g,cap)) h (Kv q1 q2) fun y hy hyx hf=>?_
 rcases y with _ | ⟨b,c⟩
 ·cases hyx rfl
 ·by_cases e:b=g
  ·subst e
   exact k1 c hy.2
  ·exact k2 b c (hf b c rfl (by simp[AA,lk,hy.1,e])) hy.1 hy.2
end
end
section
open Go.RowKit
theorem Lv{α:Type}:∀ {l m:List (Nat × α)},l.map Prod.fst=m.map Prod.fst→∀ b cs,lk l b=some cs→∃ cs',lk m b=some cs'
 | [],_,_,b,cs,h=>by simp[lk]at h
 | (k,x)::l,[],e,b,cs,h=>by simp at e
 | (k,x)::l,(k',y)::m,e,b,cs,h=>by
  simp only[CX,List.cons.injEq]at e
  obtain ⟨rfl,e⟩:=e
  rw[lk_cons]at h ⊢
  by_cases hb:b=k
  ·rw[Af hb];exact ⟨y,rfl⟩
  ·rw[Ad hb]at h ⊢;exact Lv e b cs h
end
section
open Go.RowKit Go.ChangeMaps
def QO(es:Array MapEntry)(seen:Array Nat)(e:MapEntry):Prop:=e∈(leftOf es seen).toList
def Uk(es:Array MapEntry)(seen:Array Nat):Prop:=(leftOf es seen).size=0
structure StepTo (w:World) (r:Nat) (o:Obj) (w2:World):Prop where
 at_:w2.heap[r]?=some o
 grown:w.grownBy w2 (some r)
 size:w2.heap.size=w.heap.size
theorem b2w{w w1:World}{r:Nat}{o o':Obj}(hr:w.heap[r]?=some o)(h:w1=w∨w1=w.drew):StepTo w r o' (setBlock w1 r o'):=by
 have hlt:r<w.heap.size:=(BH.1 hr).1
 have hh:w1.heap=w.heap:=by rcases h with rfl|rfl<;>rfl
 refine ⟨?_,⟨?_, ?_, ?_, ?_,fun k hk hne=>?_⟩, ?_⟩
 ·simp[setBlock,hh,hlt]
 ·rcases h with rfl|rfl<;>rfl
 ·rcases h with rfl|rfl<;>rfl
 ·rcases h with rfl|rfl<;>rfl
 ·simp[setBlock,hh]
 ·have:r≠k:=fun e=>hne (by rw[e])
  simp[setBlock,hh,Array.getElem?_setIfInBounds,this]
 ·simp[setBlock,hh]
section
variable {F:Fence} {n:Nat} {P:Program} (w:World) {ops:Array Oper} {rest:List Oper} {o:Oper} {a:Act} {Q:Exit→Act→World→Prop}
theorem b3R(hg:o.guard=none)(m:Operand)(t:TypeId)(hop:o.op=Op.range t m)(k e:TypeId)(ht:P.underlying t=some (.map k e))(b:Nat)(es:Array MapEntry)(clk:Nat)(hm:a.eval m=.map (some b))(hb:w.heap[b]?=some (.map es clk))
  (hK:wpListIn F n P ops Q rest (a.put o.dst (.pointer (some ⟨w.heap.size,0,none⟩))) (w.alloc (.mapIter (some b) clk #[] clk))):wpListIn F n P ops Q (o::rest) a w:=by
 refine wpListIn_plain hg fun K' hK'=>?_
 unfold Oper.wpIn
 refine ⟨by simp[Oper.about,hop], ?_⟩
 rw[Oper.semAt_plain F _ _ (by rw[hop];intro c hc';cases hc')]
 simp only[execOp,hop,hm]
 simp[Instr.range,run_underlying ht,MapKept.run_getObj_map hb,run_newObj,Result.andThen]
 exact hK' _ _ hK
theorem b3Q(hg:o.guard=none)(it:Operand)(hop:o.op=Op.next it false)(r b clk:Nat)(es:Array MapEntry)(seen:Array Nat)(hit:a.eval it=.pointer (some ⟨r,0,none⟩))(hr:w.heap[r]?=some (.mapIter (some b) clk seen clk))(hb:w.heap[b]?=some (.map es clk))(hold:∀ x∈es.toList,x.born<clk)
  (hDone:Uk es seen→wpListIn F n P ops Q rest (a.put o.dst (.tuple #[.bool false])) w)
  (hMore:∀ (e:MapEntry) (w2:World),QO es seen e→StepTo w r (.mapIter (some b) clk (seen.push e.born) clk) w2→wpListIn F n P ops Q rest (a.put o.dst (.tuple #[.bool true,e.key,e.val])) w2):
  wpListIn F n P ops Q (o::rest) a w:=by
 refine wpListIn_plain hg fun K' hK'=>?_
 unfold Oper.wpIn
 refine ⟨by simp[Oper.about,hop], ?_⟩
 rw[Oper.semAt_plain F _ _ (by rw[hop];intro c hc';cases hc')]
 rcases run_next_at (P:=P) w o.type r b clk clk seen es clk hr hb hold (A8 _) with ⟨h0,hrun⟩ | ⟨e,he,w1,hw1,hrun⟩
 ·simp[execOp,hop,hit,hrun,Result.andThen]
  exact hK' _ _ (hDone h0)
 ·simp[execOp,hop,hit,hrun,Result.andThen]
  exact hK' _ _ (hMore e _ he (b2w hr hw1))
theorem b3P(hg:o.guard=none)(it:Operand)(hop:o.op=Op.entry it)(r b clk:Nat)(es:Array MapEntry)(seen:Array Nat)(e:MapEntry)(hit:a.eval it=.pointer (some ⟨r,0,none⟩))(hr:w.heap[r]?=some (.mapIter (some b) clk (seen.push e.born) clk))(hb:w.heap[b]?=some (.map es clk))(he:e∈es.toList)(hn:(es.toList.map (·.born)).Nodup)
  (hK:wpListIn F n P ops Q rest (a.put o.dst (.tuple #[e.key,e.val])) w):wpListIn F n P ops Q (o::rest) a w:=by
 refine wpListIn_plain hg fun K' hK'=>?_
 unfold Oper.wpIn
 refine ⟨by simp[Oper.about,hop], ?_⟩
 rw[Oper.semAt_plain F _ _ (by rw[hop];intro c hc';cases hc')]
 simp[execOp,hop,hit,run_entry_at (P:=P) w r b clk seen es clk e hr hb he hn,Result.andThen]
 exact hK' _ _ hK
theorem a1A(hg:o.guard=none)(hod:o.dst=none)(x v:Operand)(t:TypeId)(hop:o.op=Op.store t x v)(k:Nat)(hsz:(P.info? t).map (·.size)=some k)(b:Nat)(z c:Array Value)(ty:TypeId)(hx:a.eval x=.pointer (some ⟨b,0,none⟩))(hb:w.heap[b]?=some (.cells z ty (0,0)))(hz:z.size=k)
  (hv:(a.eval v).cells=c) (hc:c.size=k) (h1:∀ u∈c.toList,u.oneCell'=true) (hK:wpListIn F n P ops Q rest a (w.setRow b c)):wpListIn F n P ops Q (o::rest) a w:=by
 have hst:=run_storeCells_at P b 0 ty c.toList 0 z w hb (by rw[EU];omega) h1
 have hrow:(z.toList.take (0+0)++c.toList++z.toList.drop (0+0+c.toList.length)).toArray=c:=by
  rw[Jd (by simp;omega)];simp
 rw[hrow]at hst
 refine wpListIn_plain hg fun K' hK'=>?_
 unfold Oper.wpIn
 refine ⟨by simp[Oper.about,hop], ?_⟩
 rw[Oper.semAt_plain F _ _ (by rw[hop];intro c hc';cases hc')]
 cases hi:P.info? t with
 | none=>simp[hi]at hsz
 | some i=>
  have hin:i.size=k:=by simpa[hi]using hsz
  have Ae:¬ c.size≠i.size:=by omega
  have hrun:(execOp a.eval o).run P w=.ok .skip (w.setRow b c):=by
   simp only[execOp,hop,Instr.storeAt,hx,Instr.sureAddr,Sem.run_bind,Sem.run_pure,Result.andThen_ok,storeVar,sizeOf,typeInfo,run_program,hi,Sem.run_ite,Ae,BV,hv,hst]
  rw[hrun]
  refine hK' (a.put o.dst undef) _ ?_
  rw[hod]
  exact hK
theorem a1z(hg:o.guard=none)(x:Operand)(t:TypeId)(hop:o.op=Op.load t x)(b:Nat)(c:Array Value)(ty:TypeId)(ha:∀ w,(isAgg t).run P w=.ok true w)(hs:∀ w,(Go.sizeOf t).run P w=.ok c.size w)(hx:a.eval x=.pointer (some ⟨b,0,none⟩))(hb:w.heap[b]?=some (.cells c ty (0,0)))
  (hK:wpListIn F n P ops Q rest (a.put o.dst (.agg c)) w):wpListIn F n P ops Q (o::rest) a w:=by
 have hl:=run_loadCells_list (P:=P) (w:=w) ⟨b,0,none⟩ c.toList (fun j v hj=>by
  rw[C0,cell_of_row w b _ c ty (0,0) hb]
  rw[AH, ← Em];exact hj)
 refine wpListIn_plain hg fun K' hK'=>?_
 unfold Oper.wpIn
 refine ⟨by simp[Oper.about,hop], ?_⟩
 rw[Oper.semAt_plain F _ _ (by rw[hop];intro c hc';cases hc')]
 have hrun:(execOp a.eval o).run P w=.ok (.value (.agg c)) w:=by
  simp only[EU]at hl
  simp[execOp,hop,hx,Instr.loadAt,Instr.sureAddr,loadVar,ha,hs,hl]
 rw[hrun]
 exact hK' _ _ hK
theorem b3O(hg:o.guard=none)(x:Operand)(t e:TypeId)(hop:o.op=Op.buildSlice t 1 #[(0,x)])(i:TypeInfo)(hu:P.underlying t=some (.slice e))(hi:P.info? e=some i)(z:Value)(hz:i.zero=some z)(k:Nat)(hk:i.size=k)(hz2:z.cells.size=k)(hpos:0<k)(hsm:k≤16777216)
  (c:Array Value) (hx:(a.eval x).cells=c) (hc:c.size=k) (hK:wpListIn F n P ops Q rest (a.put o.dst (.slice (some ⟨w.heap.size,0,none⟩) 1 1)) (w.alloc (.cells c e))):wpListIn F n P ops Q (o::rest) a w:=by
 subst hk
 have hf:=Go.Great.fill_whole hpos [a.eval x] ((Array.range (1 * i.size)).map (z.cells[· % z.cells.size]!)) (fun v hv=>by simp only[G6]at hv;subst hv;rw[hx,hc]) (by simp)
 have hrun:=run_buildSlice (P:=P) w t e 1 #[(0,a.eval x)] _ i z hu hi hz (by omega) (by omega) hf
 refine wpListIn_plain hg fun K' hK'=>?_
 unfold Oper.wpIn
 refine ⟨by simp[Oper.about,hop], ?_⟩
 rw[Oper.semAt_plain F _ _ (by rw[hop];intro c hc';cases hc')]
 have hr:(execOp a.eval o).run P w=.ok (.value (.slice (some ⟨w.heap.size,0,none⟩) 1 1)) (w.alloc (.cells c e)):=by
  have hl:([a.eval x].flatMap fun v=>v.cells.toList).toArray=c:=by simp[hx]
  rw[hl]at hrun
  simp only[execOp,hop,Sem.run_bind]
  rw[show (#[(0,x)].map fun (p:Nat × Operand)=>(p.1,a.eval p.2)) = #[(0,a.eval x)] by simp]
  rw[hrun];rfl
 rw[hr]
 exact hK' _ _ hK
end
theorem a2a(w:World)(z c:Array Value)(ty:TypeId):(w.alloc (.cells z ty)).setRow w.heap.size c=w.alloc (.cells c ty):=by
 simp only[World.setRow,World.alloc]
 congr 1
 apply Array.ext_getElem?
 intro i
 rw[J3]
 by_cases h:w.heap.size=i
 ·subst h;simp
 ·rw[Ad h]
  by_cases h2:i<w.heap.size
  ·simp[Array.getElem?_push,h,Ne.symm h]
  ·simp[Array.getElem?_push,h,Ne.symm h]
end
section
open Go.RowKit Go.ChangeMaps
theorem alloc_at{w:World}{k:Nat}(h:w.heap.size=k)(o:Obj):(w.alloc o).heap[k]?=some o:=by subst h;exact World.alloc_heap_new w o
theorem Uy{w:World}{k:Nat}(h:w.heap.size=k)(z c:Array Value)(ty:TypeId):(w.alloc (.cells z ty)).setRow k c=w.alloc (.cells c ty):=by subst h;exact a2a w z c ty
structure Came (es:Array MapEntry) (seen:Array Nat) (is:List Nat):Prop where
 nd:is.Nodup
 lt:∀ i∈is,i<es.size
 sn:seen.toList=is.map fun i=>(es[i]?.map (·.born)).getD 0
theorem Came.nil(es:Array MapEntry):Came es #[] []:=⟨by simp,by simp,rfl⟩
theorem a2C{es:Array MapEntry}(hn:(es.toList.map (·.born)).Nodup){i j:Nat}(hi:i<es.size)(hj:j<es.size)(h:(es[i]?.map (·.born)).getD 0=(es[j]?.map (·.born)).getD 0):i=j:=by
 have hi':i<(es.toList.map (·.born)).length:=by simpa using hi
 have hj':j<(es.toList.map (·.born)).length:=by simpa using hj
 have hp:=J6.1 hn
 rcases Nat.lt_trichotomy i j with hlt|rfl|hlt
 ·exact absurd (by simpa[hi,hj]using h) (hp i j hi' hj' hlt)
 ·rfl
 ·exact absurd (by simpa[hi,hj]using h.symm) (hp j i hj' hi' hlt)
theorem Came.step{es:Array MapEntry}(hn:(es.toList.map (·.born)).Nodup){seen:Array Nat}{is:List Nat}(h:Came es seen is){e:MapEntry}(he:QO es seen e):∃ i,es[i]?=some e∧Came es (seen.push e.born) (is++[i]):=by
 simp only[QO,leftOf,Array.mem_toList_iff,Array.mem_filter,G3]at he
 obtain ⟨he1,he2⟩:=he
 obtain ⟨i,hi,rfl⟩:=Array.getElem_of_mem he1
 have hni:i ∉ is:=fun hm=>by
  have:es[i].born∈seen.toList:=by
   rw[h.sn]
   exact Dp.2 ⟨i,hm,by simp[hi]⟩
  simp_all
 refine ⟨i,by simp[hi],List.nodup_append.2 ⟨h.nd,by simp,fun a ha b hb=>by simp at hb;subst hb;intro e;subst e;exact hni ha⟩,fun j hj=>?_, ?_⟩
 ·rcases Bv.1 hj with hj|hj
  ·exact h.lt j hj
  ·simp at hj;omega
 ·rw[Array.toList_push,h.sn];simp[hi]
theorem b0k:∀ (n:Nat) (is:List Nat),is.Nodup→(∀ i∈is,i<n)→(∀ i,i<n→i∈is)→is.Perm (List.range n):=by
 intro n is h1 h2 h3
 rw[List.perm_iff_count]
 intro a
 rw[h1.count,List.nodup_range.count]
 by_cases ha:a<n
 ·simp[h3 a ha,ha]
 ·have:a ∉ is:=fun h=>ha (h2 a h)
  simp[this,ha]
theorem Came.all{es:Array MapEntry}(hn:(es.toList.map (·.born)).Nodup){seen:Array Nat}{is:List Nat}(h:Came es seen is)(h0:Uk es seen):is.Perm (List.range es.size):=by
 refine b0k _ _ h.nd h.lt fun i hi=>?_
 have he:∀ x∈es,seen.contains x.born=true:=by
  intro x hx
  by_cases hc:seen.contains x.born=true
  ·exact hc
  ·have:x∈leftOf es seen:=by simp only[leftOf,Array.mem_filter];exact ⟨hx,by simpa using hc⟩
   rw[Array.eq_empty_of_size_eq_zero (show (leftOf es seen).size=0 from h0)]at this
   simp at this
 have h1:=he es[i] (Array.getElem_mem hi)
 have h2:es[i].born∈seen.toList:=by simpa using h1
 rw[h.sn,Dp]at h2
 obtain ⟨j,hj,e⟩:=h2
 have:=a2C hn (h.lt j hj) hi (by rw[e];simp[hi])
 rw[← this];exact hj
theorem b0D{α:Type}[Inhabited α](l:List α):(List.range l.length).map (fun i=>l.getD i default)=l:=by
 apply List.ext_getElem
 ·simp
 ·intro i h1 h2
  simp at h1
  simp[List.getD,h1]
def NX(w:World)(r:Nat):Nat:=match w.heap[r]? with
 | some (.mapIter _ _ seen _)=>seen.size
 | _=>0
theorem Came.size{es:Array MapEntry}{seen:Array Nat}{is:List Nat}(h:Came es seen is):seen.size=is.length:=by
 have:=congrArg List.length h.sn
 simpa using this
theorem S2:∀ (n:Nat) (s:List Nat),s.Nodup→(∀ x∈s,x<n)→s.length≤n
 | 0,s,_,hs=>by
  cases s with
  | nil=>simp
  | cons x s=>exact absurd (hs x (by simp)) (by omega)
 | n+1,s,hn,hs=>by
  have h1:=S2 n (s.erase n) (hn.erase n) fun x hx=>by
   have:=(hn.mem_erase_iff).1 hx
   have:=hs x this.2
   omega
  rw[List.length_erase]at h1
  split at h1<;>omega
end
section
open Go.RowKit
theorem a4s{W:World}{B:Nat}{v:Value}{t:TypeId}(v':Value)(h:W.heap[B]?=some (.cells #[v] t (0,0))):(W.setCell ⟨B,0,none⟩ v').heap[B]?=some (.cells #[v'] t (0,0)):=by
 obtain ⟨hlt,hk⟩:=BH.1 h
 show (W.heap.modify B _)[B]?=_
 rw[Dz (by rw[Array.size_modify];exact hlt),Array.getElem_modify_self,hk]
 rfl
theorem a3U(W:World)(b:Nat)(v:Value):W.grownBy (W.setCell ⟨b,0,none⟩ v) (some b):=
 ⟨rfl,rfl,rfl,by show W.heap.size≤(W.heap.modify _ _).size;rw[Array.size_modify];exact A8 _,fun k _ hk=>Below.heap_setCell W _ v k (fun e=>hk (by rw[e]))⟩
section
variable {F:Fence} {n:Nat} {P:Program}
theorem b3S{α:Type}{g:Operand}{pt:Tmp}{assign body:Code}{Q:Exit→Act→World→Prop}{a:Act}{w:World}(hro:F.round=none)(h1:1≤n){gf:Nat}{lb:Array Value}(hg:a.eval g=.func (.func gf) #[] lb)(hFg:F.fn gf)
  (eg:∀ args w,(callFunc gf args).run P w=.ok (.enter gf args) w) {enc:α→Value} {S:List α→Prop} {N:Nat} (hseq:SeqStops F (n - 1) P gf lb enc S (fun _=>True) N w)
  (I:List α→World→Prop) (hI:OwnFrom w.heap.size I) (h0:I [] w) (ob:α→Obj) (hob:∀ x,(ob x).isCells=true) (a₁:α→Nat→Act)
  (hassign:∀ (l:Nat) (x:α) (W:World) (K:Act→World→Prop),K (a₁ x W.heap.size) (W.alloc (ob x))→
   assign.wpIn (F.inRound l) (n - 1 - 1) P (Exit.then K (fun _ _ _=>False)) { tmps:=a.tmps.setIfInBounds pt (enc x),defers:=[] } W)
  (hbody:∀ (l:Nat) (pre:List α) (x:α) (W:World) (p:Nat),I pre W→pre.length<N→W.heap[p]?=some (ob x)→w.heap.size≤p→
   body.wpIn (F.inRound l) (n - 1 - 1) P (fun e _ W'=>e=.normal∧KeepsOthers W W'∧I (pre++[x]) W') (a₁ x p) W)
  (hdone:∀ (D:Nat) (xs:List α) (W:World),w.heap.size≤D→S xs→I xs W→W.heap[D]?=some (.deferred (some []))→Q .normal { a with defers:={ target:=.collected D,args := #[] }::a.defers } W):
  (Code.rangeFunc g #[pt] assign body).wpIn F n P Q a w:=by
 refine wpIn_rangeFunc ?_
 intro fn hfn
 rw[hro]
 obtain ⟨rc,hrc⟩:∃ rc:LoopState→Loop,rc=fun st=>{ state:=st,pending:=none,fn,tmps:=a.tmps,params := #[pt],assign,body,defers:=w.heap.size }:=⟨_,rfl⟩
 obtain ⟨W1,hW1⟩:∃ W1,(w.alloc (.deferred (some []))).alloc (.loop (rc .ready))=W1:=⟨_,rfl⟩
 have hs1:W1.heap.size=w.heap.size+2:=by rw[← hW1];simp
 have hL:W1.heap[w.heap.size+1]?=some (.loop (rc .ready)):=by rw[← hW1];exact alloc_at (by simp) _
 have hK:W1.heap[w.heap.size]?=some (.deferred (some [])):=by rw[← hW1];exact (Below.heap_alloc _ _ _ (by simp)).trans (World.alloc_heap_new w _)
 have hI1:I [] W1:=by rw[← hW1];exact hI.alloc _ (hI.alloc _ h0)
 have hb1:Below w.heap.size w W1:=by rw[← hW1];exact ((Below.refl _ w).alloc (A8 _) _).alloc (by simp) _
 refine ⟨w.heap.size+1,[{ target:=.collected w.heap.size,args := #[] }],W1, { target:=.fn (.func gf) lb,args := #[.func (.yield (w.heap.size+1)) #[] #[]] },W1,gf, #[.func (.yield (w.heap.size+1)) #[] #[]]++lb,W1, ?_, ?_, ?_, ?_,fun _=>h1, ?_⟩
 ·rw[← hW1,hrc];exact run_enterLoop_outer _ _ _ _ _
 ·simp only[resolve,hg];simp[go_sem]
 ·intro f' hf';simp[Target.leads]at hf';subst hf';exact hFg
 ·simp[invoke,go_sem,eg]
 have hnc:∀ {A:World} {row:Option Nat},(∀ r,row=some r→W1.heap.size≤r∧∃ o:Obj,A.heap[r]?=some o∧o.isWalk=true)→∀ r,row=some r→w.heap.size≤r∧∃ o:Obj,A.heap[r]?=some o∧o.isCells=false:=
  fun hr r e=>by obtain ⟨hB,o,ho,hw⟩:=hr r e;exact ⟨by omega,o,ho,Obj.not_cells_of_walk hw⟩
 refine (hseq (w.heap.size+1) (fun pre W=>I pre W∧W.heap[w.heap.size+1]?=some (.loop (rc .ready))∧W.heap[w.heap.size]?=some (.deferred (some []))) (fun _ _=>False) W1 hb1
  (fun s A B row hs hg' hr=>⟨hI s A B row hs.1 hg' (hnc hr),(grownBy_keeps hg' (fun r e=>(hr r e).2) hs.2.1 rfl).trans hs.2.1,(grownBy_keeps hg' (fun r e=>(hr r e).2) hs.2.2 rfl).trans hs.2.2⟩)
  (fun _ _ _ _ h _ _=>h) ?_ ⟨hI1,hL,hK⟩).mono ?_
 ·rintro pre x W ⟨hi,hl,hk⟩ hlen
  have hlt:w.heap.size+1<W.heap.size:=(BH.1 hl).1
  have hy:=run_yield (P:=P) (args := #[enc x]) hl (by rw[hrc];rfl)
  have hl2:(W.alloc (ob x)).heap[w.heap.size+1]?=some (.loop (rc .ready)):=(Below.heap_alloc _ _ _ hlt).trans hl
  have hk2:(W.alloc (ob x)).heap[w.heap.size]?=some (.deferred (some [])):=(Below.heap_alloc _ _ _ (by omega)).trans hk
  have hp2:(W.alloc (ob x)).heap[W.heap.size]?=some (ob x):=World.alloc_heap_new W _
  have hy:(Instr.yield (w.heap.size+1) #[enc x]).run P W=.ok (.round (w.heap.size+1) fn (a.tmps.setIfInBounds pt (enc x)) assign body) W:=by rw[hrc]at hy;simpa using hy
  refine ⟨fn,_,assign,body,hy,roundIn_of_wpIn hfn ?_⟩
  have hbr:=run_beginRound (P:=P) hl2 (by rw[hrc])
  obtain ⟨W3,hW3⟩:∃ W3,(W.alloc (ob x)).putObj (w.heap.size+1) (.loop { rc .ready with state:=.busy })=W3:=⟨_,rfl⟩
  rw[hW3]at hbr
  have hl3:W3.heap[w.heap.size+1]?=some (.loop { rc .ready with state:=.busy }):=by rw[← hW3];exact World.putObj_heap_same (by simp;omega)
  have hk3:W3.heap[w.heap.size]?=some (.deferred (some [])):=by rw[← hW3];exact (World.putObj_heap_other (by omega)).trans hk2
  have hp3:W3.heap[W.heap.size]?=some (ob x):=by rw[← hW3];exact (World.putObj_heap_other (by omega)).trans hp2
  have hi3:I pre W3:=by rw[← hW3];exact hI.putObj _ (hI.alloc _ hi) (by omega) hl2 rfl
  have hw3:KeepsWalks W W3:=by rw[← hW3];exact (KeepsWalks.alloc _ _).trans (KeepsWalks.putObj _ hl2 rfl)
  refine hassign (w.heap.size+1) x W _ ?_
  refine ⟨W3,hbr, ?_⟩
  refine wpIn_mono (hbody (w.heap.size+1) pre x W3 W.heap.size hi3 hlen hp3 (by omega)) ?_
  rintro e a3 W4 ⟨rfl,ho4,hi4⟩
  have hl4:=ho4.same _ _ hl3 rfl
  have hk4:=ho4.same _ _ hk3 rfl
  have her:=run_endRound (P:=P) none hl4
  refine ⟨_,_,her,.inl ⟨rfl,⟨hI.putObj _ hi4 (by omega) hl4 rfl, ?_,(World.putObj_heap_other (by omega)).trans hk4⟩,(hw3.trans ho4.walks).trans (KeepsWalks.putObj _ hl4 rfl)⟩⟩
  rw[World.putObj_heap_same (BH.1 hl4).1,hrc];rfl
 ·rintro e W2 ⟨⟨v,rfl⟩,(⟨xs,hS,hi,hl,hk⟩ | ⟨_,_,hf⟩)⟩
  ·have hel:=run_endLoop (P:=P) hl (by rw[hrc];simp)
   rw[hrc]at hel
   exact ⟨none,_,hel,hdone _ xs _ (A8 _) hS (hI.putObj _ hi (by omega) hl rfl) ((World.putObj_heap_other (by omega)).trans hk)⟩
  ·exact hf.elim
end
end
section
open Go.RowKit Go.Sort
section
variable {α:Type} [Inhabited α] {cl:α→List Value} {k:Nat}
theorem R8(hcl:∀ x,(cl x).length=k):∀ (xs:List α) (i j:Nat),i<xs.length→j<k→(xs.flatMap cl)[i * k+j]?=(cl (xs[i]?.getD default))[j]?
 | [],i,j,h,_=>by simp at h
 | x::xs,0,j,_,hj=>by
  rw[Je,CB (by rw[hcl];omega)];simp
 | x::xs,i+1,j,h,hj=>by
  rw[Je,Cj (by rw[hcl,Bp];omega),hcl]
  have:(i+1) * k+j - k=i * k+j:=by rw[Bp];omega
  rw[this,R8 hcl xs i j (by simpa using h) hj];simp
theorem Np(hcl:∀ x,(cl x).length=k):∀ xs:List α,(xs.flatMap cl).length=xs.length * k
 | []=>by simp
 | x::xs=>by rw[Je,Ao,hcl,Np hcl xs,AJ,Bp];omega
theorem Xn(hcl:∀ x,(cl x).length=k)(hk:0<k)(xs:List α):flatK cl k xs.toArray=(xs.flatMap cl).toArray:=by
 apply Array.ext
 ·simp[Np hcl]
 ·intro t h1 h2
  rw[size_flatK]at h1
  have ht:t<xs.length * k:=by simpa using h1
  have hi:t / k<xs.length:=(G7 hk).2 ht
  have hj:t % k<k:=EE _ hk
  have e:t / k * k+t % k=t:=by rw[EF];exact F6 t k
  have hf:=R8 hcl xs (t / k) (t % k) hi hj
  rw[e]at hf
  have h3:t<(xs.flatMap cl).length:=by rw[Np hcl];exact ht
  rw[Aw h3,Aw (by rw[hcl];exact hj)]at hf
  simp only[List.getElem_toArray]
  rw[Fp hf]
  simp only[flatK,Array.getElem_map,Array.getElem_range]
  have hj2:t % k<(cl (xs[t / k]?.getD default)).length:=by rw[hcl];exact hj
  have e3:(xs.toArray[t / k]! : α)=xs[t / k]?.getD default:=by simp[hi]
  rw[e3,List.getElem!_eq_getElem?_getD,Aw hj2];rfl
theorem a4t{w:World}{g:Nat}{cur:Array Value}{e:TypeId}{xs:List α}(hcl:∀ x,(cl x).length=k)(hk:0<k)(hb:w.heap[g]?=some (.cells cur e (0,0)))(ht:cur.toList.take (xs.length * k)=xs.flatMap cl):HoldsK cl k w g 0 xs.toArray:=by
 unfold HoldsK
 rw[Xn hcl hk]
 intro j hj
 have hj':j<(xs.flatMap cl).length:=by simpa using hj
 have hj2:j<xs.length * k:=by rw[← Np hcl];exact hj'
 refine ⟨?_,by simp[World.frozen?,hb]⟩
 have h1:(cur.toList.take (xs.length * k))[j]?=(xs.flatMap cl)[j]?:=by rw[ht]
 rw[CW hj2]at h1
 simp only[World.cell?,hb,AH,E0,D3,BV]
 rw[← Em,h1,Aw hj']
 simp[Aw hj']
theorem a3V{w:World}{g n:Nat}{os:Array Obj}(d:Array α):w.grownBy (sortWorldK cl k w g 0 n d os) (some g):=by
 refine ⟨rfl,rfl,rfl,by simp[sortWorldK,putRowK,putRow,mapBlock,grow,Sort.ahead],fun j hj hne=>?_⟩
 have hgj:g≠j:=fun e=>hne (by rw[e])
 unfold sortWorldK
 rw[heap_grow_old _ _ (by simpa[putRowK,putRow,mapBlock,Sort.ahead]using hj)]
 simp[putRowK,putRow,mapBlock,Sort.ahead,J3,hgj]
theorem a8x{w:World}{base g cap n:Nat}{e:TypeId}{os:Array Obj}{cur:Array Value}{xs ds:List α}(hcl:∀ x,(cl x).length=k)(hk:0<k)(hl:ds.length=xs.length)(hbase:base≤g)(hb:w.heap[g]?=some (.cells cur e (0,0)))
  (h1:xs.length≤cap) (h2:cap≤maxLen) (h3:cur.size=cap * k):(sortWorldK cl k w g 0 n ds.toArray os).ownsRow base e k (.slice (some ⟨g,0,none⟩) xs.length cap) xs.length (ds.flatMap cl):=by
 have hg:g<w.heap.size:=(BH.1 hb).1
 have hfl:(ds.flatMap cl).length=xs.length * k:=by rw[Np hcl,hl]
 have hle:xs.length * k≤cap * k:=Dq k h1
 have hh:(sortWorldK cl k w g 0 n ds.toArray os).heap[g]?=some (.cells (putCells id 0 (ds.flatMap cl).toArray cur) e (0,0)):=by
  unfold sortWorldK
  rw[heap_grow_old _ _ (by simpa[putRowK,putRow,mapBlock,Sort.ahead]using hg)]
  simp[putRowK,putRow,mapBlock,Sort.ahead,J3,hb,onCells,Xn hcl hk]
 refine ⟨hfl,.inr ⟨g,cap,_,rfl,hbase,hh,h1,h2,by simp[putCells,h3], ?_⟩⟩
 apply F5
 intro j
 by_cases hj:j<xs.length * k
 ·rw[CW hj,Em]
  have hjc:j<cur.size:=by omega
  have hjd:j<(ds.flatMap cl).length:=by omega
  simp only[putCells,Array.getElem?_mapIdx,Dz hjc,BE,Nat.zero_le,true_and,AH,Ck,hjd,Bo,Nat.sub_zero,id]
  rw[Aw hjd]
  simp[Aw hjd]
 ·rw[List.getElem?_take_eq_none (by omega),FH (by omega)]
end
theorem TE{W W':World}{U:Nat→Nat→Prop}{e k n:Nat}{v:Value}{xs:List Value}{els:List (List AV)}(hk:0<k)(hb:RowKit.Below W.heap.size W W')(hrow:W'.ownsRow W.heap.size e k v n xs)(hn:els.length=n)(hsz:∀ l∈els,l.length=k)(hone:∀ u∈xs,u.oneCell'=true)
  (hv:∀ (i j:Nat) (l:List AV) (c:AV) (u:Value),els[i]?=some l→l[j]?=some c→xs[i * k+j]?=some u→∀ W U,VR W U u c):
  ∃ U',VR W' U' v (.sl (some e) k els)∧OwnRow W' U' (W.heap.size ≤ ·) v e k els.length∧Ext W U W' U':=by
 subst hn
 obtain ⟨hlen,hnil | ⟨g,cap,cur,rfl,hbase,hgb,h1,h2,h3,h4⟩⟩:=hrow
 ·obtain ⟨rfl,h0⟩:=hnil
  have:els=[]:=Dn h0
  subst this
  exact ⟨fun b o=>if b<W.heap.size then U b o else False,VR.nil _ _,.inl ⟨rfl,rfl⟩,hb,fun j hj o=>by simp[hj]⟩
 ·have hcell:∀ t,t<els.length * k→∃ u,xs[t]?=some u∧W'.cell? ⟨g,t,none⟩=some u:=by
   intro t ht
   have ht':t<xs.length:=by omega
   refine ⟨xs[t],Aw ht', ?_⟩
   have q:(cur.toList.take (els.length * k))[t]?=xs[t]?:=by rw[h4]
   rw[CW ht,Em,Aw ht']at q
   simp only[World.cell?,hgb,E0,D3,BV]
   exact q
  refine ⟨fun b o=>if b<W.heap.size then U b o else (b=g∧els.length * k≤o), ?_,.inr ⟨g,cap,cur,rfl,hbase,.of hgb,h1,h2,h3,fun o ho=>?_,fun o ho=>?_⟩,hb,fun j hj o=>by simp[hj]⟩
  ·refine .sl (some ⟨g,0,none⟩) cap (some e) els g 0 k (fun i j=>(xs[i * k+j]?).getD undef) h1 h2 (fun _=>rfl) hsz (fun i j hi hj=>?_) (fun i l j c hl hc=>?_)
   ·have ht:i * k+j<els.length * k:=by
     have:=Dq k (show i+1≤els.length from hi)
     rw[Bp,F7]at this;omega
    obtain ⟨u,q1,q2⟩:=hcell _ ht
    rw[q1,AH]
    refine ⟨q2,hone u (Dd q1), ?_⟩
    simp only[show ¬ g<W.heap.size by omega,BV]
    omega
   ·have hi:i<els.length:=(AM.1 hl).1
    have hj:j<k:=by rw[← hsz l (Dd hl)];exact (AM.1 hc).1
    have ht:i * k+j<els.length * k:=by
     have:=Dq k (show i+1≤els.length from hi)
     rw[Bp,F7]at this;omega
    obtain ⟨u,q1,_⟩:=hcell _ ht
    rw[q1]
    exact hv i j l c u hl hc q1 _ _
  ·simp only[show ¬ g<W.heap.size by omega,BV];omega
  ·simp only[show ¬ g<W.heap.size by omega,BV];exact ⟨trivial,ho⟩
end
section
open Go

def RD{α:Type}(d:Nat):Result α→Prop
 | .ok _ w=>d≤w.drawn
 | .halt _ w=>d≤w.drawn
theorem RD.le{α:Type}{d e:Nat}(h:e≤d){r:Result α}(hr:RD d r):RD e r:=by cases r<;>exact En h hr
def GD(d:Nat):GStep→Prop
 | .go _ w _=>d≤w.drawn
 | .comm _ _ _ _ w _=>d≤w.drawn
 | .spawn _ _ w _=>d≤w.drawn
 | .count _ w _=>d≤w.drawn
 | .timer _ _ w _=>d≤w.drawn
 | .alone _ _ w _=>d≤w.drawn
 | .newcoro _ _ _ w _=>d≤w.drawn
 | .coroswitch _ _ _ w _=>d≤w.drawn
 | .collect _ w _=>d≤w.drawn
 | .watch _ w _=>d≤w.drawn
 | .ended _ _ _=>True
theorem GD.le{d e:Nat}(h:e≤d){g:GStep}(hg:GD d g):GD e g:=by cases g<;>first|trivial|exact En h hg
theorem GD.after{d:Nat}{es:Array Event}{g:GStep}(h:GD d g):GD d (g.after es):=by cases g<;>exact h
def SD(d:Nat):Stepped→Prop
 | .next m=>d≤m.world.drawn
 | .ended _ _=>True
theorem SD.le{d e:Nat}(h:e≤d){g:Stepped}(hg:SD d g):SD e g:=by cases g<;>first|trivial|exact En h hg
def MD(d:Nat):Move→Prop
 | .goroutine m _=>d≤m.world.drawn
 | .machine s _=>SD d s
theorem MD.le{d e:Nat}(h:e≤d){g:Move}(hg:MD d g):MD e g:=by
 cases g
 ·exact En h hg
 ·exact SD.le h hg
end
section
open Go.RowKit
end
section
open Go.RowKit
section
variable {P:Program} {d:Option Nat} {s:St} {K:St→Prop}
end
end
section
open Go.RowKit Go.Sort
theorem VR.map_inv{W:World}{U:Nat→Nat→Prop}{v:Value}{b:Nat}(h:VR W U v (.mapv b)):v=.map (some b):=by cases h;rfl
theorem VR.ptr_inv{W:World}{U:Nat→Nat→Prop}{v:Value}{b o:Nat}(h:VR W U v (.ptr b o)):v=.pointer (some ⟨b,o,none⟩):=by cases h;rfl
theorem VR.fn_inv{W:World}{U:Nat→Nat→Prop}{v:Value}{f:Nat}(h:VR W U v (.fn f)):v=.func (.func f) #[] #[]:=by cases h;rfl
theorem VR.clo1_inv{W:World}{U:Nat→Nat→Prop}{v:Value}{f b:Nat}(h:VR W U v (.clo f [.ptr b 0])):v=.func (.func f) #[] #[.pointer (some ⟨b,0,none⟩)]:=by
 cases h with
 | clo f vs cs hl h=>
  match vs,hl with
  | [x],_=>rw[(h 0 x _ rfl rfl).ptr_inv]
theorem b0j{α:Type}[Inhabited α]{d d':Array α}(h:PermIn 0 d.size d d'):d'.toList.Perm d.toList:=by
 obtain ⟨h1,_,h3⟩:=h
 have e1:d'.extract 0 d.size=d':=by rw[← h1];exact Array.extract_size
 have e2:d.extract 0 d.size=d:=Array.extract_size
 rwa [e1,e2]at h3
def GC:List AV→Bool
 | []=>true
 | .int _ _::r=>GC r
 | .bool _::r=>GC r
 | .str _::r=>GC r
 | _=>false
def Dk:List AV→List Value
 | []=>[]
 | .int k n::r=>.int k n::Dk r
 | .bool b::r=>.bool b::Dk r
 | .str l::r=>.string ⟨l.toArray⟩::Dk r
 | _::r=>undef::Dk r
theorem KG:∀ cs:List AV,(Dk cs).length=cs.length
 | []=>rfl
 | a::r=>by cases a<;>simp[Dk,KG r]
theorem Ma:∀ (cs:List AV),GC cs=true→∀ (i:Nat) (c:AV) (u:Value),cs[i]?=some c→(Dk cs)[i]?=some u→(∀ W U,VR W U u c)∧(∀ W U v,VR W U v c→v=u)∧u.oneCell'=true
 | [],_,i,c,u,h,_=>by simp at h
 | a::r,hf,0,c,u,h,g=>by
  simp only[G5,Az]at h
  subst h
  cases a<;>simp[GC]at hf<;>simp only[Dk,G5,Az]at g<;>subst g
  ·exact ⟨fun _ _=>.int _ _,fun _ _ _ h=>by cases h;rfl,rfl⟩
  ·exact ⟨fun _ _=>.bool _,fun _ _ _ h=>by cases h;rfl,rfl⟩
  ·exact ⟨fun _ _=>.str _,fun _ _ _ h=>by cases h;rfl,rfl⟩
 | a::r,hf,i+1,c,u,h,g=>by
  have hr:GC r=true:=by cases a<;>simp[GC]at hf<;>exact hf
  have e:Dk (a::r)=(Dk [a]++Dk r):=by cases a<;>rfl
  have e1:(Dk [a]).length=1:=KG [a]
  rw[e,Cj (by omega),e1]at g
  exact Ma r hr i c u (by simpa using h) (by simpa using g)
theorem ZK{cs:List AV}(hf:GC cs=true):∀ u∈Dk cs,u.oneCell'=true:=by
 intro u hu
 obtain ⟨i,hi,rfl⟩:=Do hu
 have hi':i<cs.length:=by rw[← KG];exact hi
 exact (Ma cs hf i cs[i] _ (Aw hi') (Aw hi)).2.2
end
end Go.Proofs.YtfgihnhoocnmdaaGreatDoor
namespace Go.Proofs
open Go.Shelf
def Tryz.cln129_ren:Go.Shelf.Ren:=⟨fun|41=>129|n=>n,fun|22=>116|23=>115|4=>4|n=>n,fun|n=>n⟩
theorem Tryz.cln129:Go.Proofs.SlLaysE0.n41 Tryz.prog Tryz.cln129_ren:={
 mixed:=by kernel_rfl
 f41:=⟨Tryz.f129.name,by decide,Tryz.func129.trans (congrArg some (by kernel_rfl))⟩
 t4:=Tryz.underlying4
 a4:=Tryz.isAgg4
 z4:=Tryz.sizeOf4
 v4:=Tryz.zeroValue4
 t22:=Tryz.underlying116
 a22:=Tryz.isAgg116
 z22:=Tryz.sizeOf116
 v22:=Tryz.zeroValue116 }
def Tryz.cln199_ren:Go.Shelf.Ren:=⟨fun|41=>199|n=>n,fun|22=>36|23=>145|4=>4|n=>n,fun|n=>n⟩
theorem Tryz.cln199:Go.Proofs.SlLaysE0.n41 Tryz.prog Tryz.cln199_ren:={
 mixed:=by kernel_rfl
 f41:=⟨Tryz.f199.name,by decide,Tryz.func199.trans (congrArg some (by kernel_rfl))⟩
 t4:=Tryz.underlying4
 a4:=Tryz.isAgg4
 z4:=Tryz.sizeOf4
 v4:=Tryz.zeroValue4
 t22:=Tryz.underlying36
 a22:=Tryz.isAgg36
 z22:=Tryz.sizeOf36
 v22:=Tryz.zeroValue36 }
def Tryz.cln200_ren:Go.Shelf.Ren:=⟨fun|41=>200|n=>n,fun|22=>143|23=>29|4=>4|n=>n,fun|n=>n⟩
theorem Tryz.cln200:Go.Proofs.SlLaysE0.n41 Tryz.prog Tryz.cln200_ren:={
 mixed:=by kernel_rfl
 f41:=⟨Tryz.f200.name,by decide,Tryz.func200.trans (congrArg some (by kernel_rfl))⟩
 t4:=Tryz.underlying4
 a4:=Tryz.isAgg4
 z4:=Tryz.sizeOf4
 v4:=Tryz.zeroValue4
 t22:=Tryz.underlying143
 a22:=Tryz.isAgg143
 z22:=Tryz.sizeOf143
 v22:=Tryz.zeroValue143 }
end Go.Proofs
