import Derived.Test.YtfgihnhoocnmdaaGreatDoorJ14
import Derived.Test.YtfgihnhoocnmdaaGreatDoorJ15
import Derived.Sort.MapsRangeIn
import Derived.RangeFuncFrom
import Derived.RangeFuncLeaves
import Derived.TacticsInMore
import Derived.RegionIn
import Derived.LoopNIn
import Derived.LoopIn
import Derived.Maps.AppendAt
import Derived.Shelf.AbstractIn
import Derived.Shelf.SlSortCmp.NoneTotal
import Derived.RunT
import Derived.Calls
import Derived.Sort.Grow
import Derived.Deep.Draws
import Derived.Shelf.SlGeneric
import Derived.Shelf.SlicesE.Clone
import Derived.Ground.SlgnProg
import Derived.Deep.LoopGhost
import Derived.Lib.Walk
import Derived.Shelf.Strings.SlTrimAscii
import Derived.WalkSmall
import Derived.Lib.IndexMore
import Derived.Lib.Strings
namespace Go.Proofs.YtfgihnhoocnmdaaGreatDoor
set_option linter.all false
set_option maxHeartbeats 64000000
set_option maxRecDepth 100000
section
theorem b2C(l:List UInt8):(⟨l.toArray⟩:ByteArray).size=l.length:=by simp[ByteArray.size]
theorem b0e(s:List UInt8)(hs:s.length≤281474976710656):CP Tryz.prog 146 [.str s] (.str s):=
 MQ (vs:=[.string ⟨s.toArray⟩]) (v:=.string ⟨s.toArray⟩) rfl (by simp) rfl fun W=>Tryz.stringslite_Clone _ W (by rw[b2C];exact hs)
theorem a0Q{A B:Prop}(h:B)(e:A=B:=by (simp (disch:=omega) only[*, ↓Ed,Eu, ↓reduceIte,reduceCtorEq,Nat.reduceAdd,Nat.reduceEqDiff,Nat.reduceLT,Nat.reduceLeDiff,Int.reduceToNat,Int.reduceEq,Int.reduceLT,Int.reduceLE,Ap];first|done|rfl)):A:=e▸h
theorem Td(s:List UInt8)(hs:s.length≤281474976710656):CP Tryz.prog 78 [.str s] (.str s):=by
 refine a7y _ _ (by simp) ?_
 simp only[Wg];refine a0Q ?_
 repeat' ((first|exact tt|refine Ab (b0e _ (by omega)) ?_|refine na fun b=>?_|refine nb fun b hb=>?_|refine iq ?_|(refine jq ?_ ?_<;>intro h h')|exact wZ|refine Aa ?_ ?_)<;>try refine a0Q ?_)
end
section
open Go.RowKit Go.Lib
theorem Eb(cap:Nat)(L:List PrP)(i:Nat)(hi:i<L.length)(K:AV→Prop):RK (A5 (some 2) ((Aq cap L).drop (i * 2))) K=K (.agg (D9 (L.getD i default))):=prRow.ld cap L i default hi K
theorem XK(cap:Nat)(L:List PrP)(i j:Nat)(hi:i<L.length)(hj:j<2):∃ r,(Aq cap L).drop (i * 2+j)=(D9 (L.getD i default)).getD j .undef::r:=by
 have h:=prRow.drop_take cap L i default hi
 have e:((Aq cap L).drop (i * 2+j))[0]?=(D9 (L.getD i default))[j]?:=by
  rw[← h,CW hj,CC,CC];rfl
 generalize (Aq cap L).drop (i * 2+j)=X at e
 rcases X with _ | ⟨a,X⟩
 ·rcases j with _|_|j<;>simp at e
  omega
 ·refine ⟨X, ?_⟩
  congr 1
  simp only[G5]at e
  rw[List.getD, ← e];rfl
theorem Ec(cap:Nat)(L:List PrP)(i:Nat)(hi:i<L.length)(K:AV→Prop):RK (A5 none ((Aq cap L).drop (i * 2))) K=K (.str (L.getD i default).1):=by
 obtain ⟨r,h⟩:=XK cap L i 0 hi (by omega)
 rw[Nat.add_zero]at h
 rw[h,l_onef,RK_eq];rfl
theorem Ee(cap:Nat)(L:List PrP)(i:Nat)(hi:i<L.length)(K:AV→Prop):RK (A5 none ((Aq cap L).drop (i * 2+1))) K=K (.str (L.getD i default).2):=by
 obtain ⟨r,h⟩:=XK cap L i 1 hi (by omega)
 rw[h,l_onef,RK_eq];rfl
theorem A6(o:List (Nat × List AV)):∀ b cs,lk o b=some cs→∃ cs',lk o b=some cs':=fun b cs h=>⟨cs,h⟩
theorem WM:∀ a b:List UInt8,decide (Lib.compareBytes a b<0)=BX a b
 | [],[]=>by simp[Lib.compareBytes,BX,bytesLess_eq]
 | [],_::_=>by simp[Lib.compareBytes,BX,bytesLess_eq]
 | _::_,[]=>by simp[Lib.compareBytes,BX,bytesLess_eq]
 | x::a,y::b=>by
  have ih:=WM a b
  simp only[BX,bytesLess_eq,List.cons_lt_cons_iff]at ih ⊢
  unfold Lib.compareBytes
  by_cases h:x<y
  ·simp[h]
  ·by_cases g:y<x
   ·have:¬ x=y:=fun e=>by subst e;exact h g
    simp[h,g,this]
   ·have:x=y:=UInt8.le_antisymm (UInt8.not_lt.1 g) (UInt8.not_lt.1 h)
    simp[h,g,this,ih]
theorem WL:∀ a b:List UInt8,decide (Lib.compareBytes a b=0)=decide (a=b)
 | [],[]=>by simp[Lib.compareBytes]
 | [],_::_=>by simp[Lib.compareBytes]
 | _::_,[]=>by simp[Lib.compareBytes]
 | x::a,y::b=>by
  have ih:=WL a b
  unfold Lib.compareBytes
  by_cases h:x<y
  ·have:¬ x=y:=fun e=>by subst e;exact absurd h (UInt8.lt_irrefl x)
   simp[h,this]
  ·by_cases g:y<x
   ·have:¬ x=y:=fun e=>by subst e;exact h g
    simp[h,g,this]
   ·have:x=y:=UInt8.le_antisymm (UInt8.not_lt.1 g) (UInt8.not_lt.1 h)
    simpa[h,g,this]using ih
theorem a8B(a b:List UInt8):CP Tryz.prog 108 [.str a,.str b] (.int .i64 (Lib.compareBytes a b)):=
 MQ (vs:=[.string ⟨a.toArray⟩,.string ⟨b.toArray⟩]) (v:=.int .i64 (Lib.compareBytes a b)) rfl (by simp) rfl fun W=>
  (Tryz.strings_Compare ⟨a.toArray⟩ ⟨b.toArray⟩ W).mono fun e w' ⟨h1,h2⟩=>⟨by simpa using h1,h2▸Below.refl _ _⟩
theorem F2{A B:Prop}(h:B)(e:A=B:=by (simp (disch:=omega) only[*, ↓Ed,Eu, ↓reduceIte,reduceCtorEq,Nat.reduceAdd,Nat.reduceEqDiff,Nat.reduceLT,Nat.reduceLeDiff,Int.reduceToNat,Int.reduceEq,Int.reduceLT,Int.reduceLE,Ap, ↓Eb, ↓Ec, ↓Ee];first|done|rfl)):A:=e▸h
theorem a9s(p:PrP)(k:List UInt8):CP Tryz.prog 107 [.agg (D9 p),.str k] (.int .i64 (Lib.compareBytes p.1 k)):=by
 have hC:=a8B p.1 k
 refine a7x _ _ (by simp) ?_
 simp only[We];refine F2 ?_
 repeat' ((first|exact tt|refine Ab hC ?_|refine na fun b=>?_|refine nb fun b hb=>?_|refine iq ?_|(refine jq ?_ ?_<;>intro h h')|exact wZ|refine Aa ?_ ?_)<;>try refine F2 ?_)
abbrev Bl:=Option (Nat × Nat)
def stV(L:List PrP):Bl→AV
 | none=>.nils 115 2
 | some (g,cap)=>.hsl g 115 2 L.length cap
def TR(L:List PrP):Bl→AV
 | none=>.hnil 115 2
 | some (g,cap)=>.hsl g 115 2 L.length cap
def JN(L:List PrP):Bl→List (Nat × List AV)
 | none=>[]
 | some (g,cap)=>[(g,Aq cap L)]
def AF(s:Nat)(L:List PrP)(x:Bl):List (Nat × List AV):=(s,[stV L x])::JN L x
def stOk(s:Nat)(L:List PrP):Bl→Prop
 | none=>L=[]
 | some (g,cap)=>(¬ g=s∧¬ s=g)∧L.length≤cap
theorem b3X{x:Int}(h:0≤x∧x≤18446744073709551615):IntKind.u64.wrap x=x:=by rw[IntKind.wrap_u64];omega
theorem b2g(a:Int):a.fdiv (2 ^ (min (Int.toNat 1) IntKind.u64.bits))=a / 2:=by
 show a.fdiv 2=a / 2
 rw[Int.fdiv_eq_ediv_of_nonneg _ (by omega)]
theorem a5p(i j m:Nat)(h:m=(i+j) / 2)(hb:i+j≤1000000000):IntKind.i64.wrap ((IntKind.u64.wrap ((i:Int)+(j:Int))).fdiv (2 ^ (min 1 IntKind.u64.bits)))=(m:Int):=by
 have:=b2g ((i:Int)+j)
 rw[b3X (by omega)]
 refine (congrArg _ this).trans ?_
 rw[Ap (by omega)];omega
theorem XI{L:List PrP}{k:List UInt8}(h:¬ AE L k<L.length):A9 L k=false:=by simp[A9,h]
theorem a4l{L:List PrP}{k:List UInt8}(h:AE L k<L.length):A9 L k=decide (Lib.compareBytes (L.getD (AE L k) default).1 k=0):=by rw[WL];simp[A9,h]
theorem a0A(L:List PrP):TR L none=.hnil 115 2:=rfl
theorem a0B(L:List PrP)(g cap:Nat):TR L (some (g,cap))=.hsl g 115 2 L.length cap:=rfl
theorem a0D(L:List PrP):JN L none=[]:=rfl
theorem a0E(L:List PrP)(g cap:Nat):JN L (some (g,cap))=[(g,Aq cap L)]:=rfl
theorem b2N(s:Nat)(L:List PrP)(hL:DT L)(hb:L.length≤1000000)(k:List UInt8)(x:Bl)(hx:stOk s L x):
  CT Tryz.prog 106 [TR L x,.str k,.fn 107] (lk (JN L x)) (fun r o=>r=.tup [.int .i64 (AE L k:Nat),.bool (A9 L k)]∧o=lk (JN L x)):=by
 have hF:=fun p=>a9s p k
 have hB:K9 Tryz.prog 107=true:=by kernel_rfl
 have hpl:=IV L k
 refine a8b _ _ _ (by simp) ?_
 rcases x with _ | ⟨g,cap⟩
 ·obtain rfl:L=[]:=hx
  have e1:AE [] k=0:=rfl
  have e2:A9 [] k=false:=rfl
  simp (disch:=omega) only[Rx,a0A,a0D,e1,e2, ↓Ed,Eu, ↓reduceIte,reduceCtorEq,Nat.reduceAdd,Nat.reduceEqDiff,Nat.reduceLT,Nat.reduceLeDiff,Int.reduceToNat,Int.reduceEq,Int.reduceLT,Int.reduceLE,Ap, ↓Eb, ↓Ec, ↓Ee]
  repeat' ((first|exact tt|refine na fun b=>?_|refine nb fun b hb=>?_|refine iq ?_|(refine jq ?_ ?_<;>intro h h')|exact wZ|refine Aa ?_ ?_)<;>try refine F2 ?_)
  refine A2 (fun _:Nat=>⟨lk [(0,.hnil 115 2),(1,.str k),(2,.fn 107),(8,.int .i64 0),(9,.int .i64 0),(10,.int .i64 0)],lk []⟩) (fun _=>True) (fun _=>0) 0 trivial (An BA) ?_
  intro _ _
  refine F2 ?_
  repeat' ((first|exact tt|refine na fun b=>?_|refine nb fun b hb=>?_|refine iq ?_|(refine jq ?_ ?_<;>intro h h')|exact wZ|refine Aa ?_ ?_)<;>try refine F2 ?_)
  all_goals exact AG P0 (A6 _)
 ·have hc:L.length≤cap:=hx.2
  clear hx
  simp (disch:=omega) only[Rx,a0B,a0E, ↓Ed,Eu, ↓reduceIte,reduceCtorEq,Nat.reduceAdd,Nat.reduceEqDiff,Nat.reduceLT,Nat.reduceLeDiff,Int.reduceToNat,Int.reduceEq,Int.reduceLT,Int.reduceLE,Ap, ↓Eb, ↓Ec, ↓Ee]
  repeat' ((first|exact tt|refine na fun b=>?_|refine nb fun b hb=>?_|refine iq ?_|(refine jq ?_ ?_<;>intro h h')|exact wZ|refine Aa ?_ ?_)<;>try refine F2 ?_)
  refine A2 (fun z:Nat × Nat=>⟨lk [(0,.hsl g 115 2 L.length cap),(1,.str k),(2,.fn 107),(8,.int .i64 (L.length:Int)),(9,.int .i64 (z.1:Int)),(10,.int .i64 (z.2:Int))],lk [(g,Aq cap L)]⟩)
   (fun z=>z.1≤z.2∧z.2≤L.length∧(∀ i,i<z.1→BX (L.getD i default).1 k=true)∧(∀ i,z.2≤i→i<L.length→BX (L.getD i default).1 k=false)) (fun z=>z.2 - z.1) (0,L.length) ⟨by omega,by omega,by omega,by omega⟩ (An BA) ?_
  rintro ⟨i,j⟩ ⟨i1,i2,i3,i4⟩
  simp only at i1 i2 i3 i4
  by_cases hij:i<j
  ·have f1:Ac (decide ((i:Int)<j)=true):=fo
   obtain ⟨m,hm⟩:∃ m:Nat,m=(i+j) / 2:=⟨_,rfl⟩
   have he:=a5p i j m hm (by omega)
   have hm2:i≤m∧m<j:=by omega
   clear hm
   have hd:=WM (L.getD m default).1 k
   have hbf:∀ n,n≤m→BX (L.getD m default).1 k=true→BX (L.getD n default).1 k=true:=fun n hn h1=>by
    by_cases e:n=m
    ·subst e;exact h1
    ·exact strSTO.tr _ _ _ (KM hL (by omega) (by omega)) h1
   have hbh:∀ n,m≤n→n<L.length→BX (L.getD m default).1 k=false→BX (L.getD n default).1 k=false:=fun n hn hl h1=>by
    by_cases e:n=m
    ·subst e;exact h1
    ·cases hq:BX (L.getD n default).1 k with
     | false=>rfl
     | true=>rw[strSTO.tr _ _ _ (KM hL (by omega) hl) hq]at h1;cases h1
   have hFm:=hF (L.getD m default)
   clear hF hpl
   cases hq:BX (L.getD m default).1 k with
   | true=>
    rw[hq]at hd
    have f2:Ac (decide (Lib.compareBytes (L.getD m default).1 k<0)=true):=hd
    clear hd
    refine F2 ?_
    repeat' ((first|exact tt|refine Ab hFm ?_|refine na fun b=>?_|refine nb fun b hb=>?_|refine iq ?_|(refine jq ?_ ?_<;>intro h h')|exact wZ|refine Aa ?_ ?_)<;>try refine F2 ?_)
    all_goals exact AC (m+1,j) ⟨An BA,⟨by simp only;omega,i2,fun n hn=>hbf n (by simp only at hn;omega) hq,i4⟩,by simp only;omega⟩
   | false=>
    rw[hq]at hd
    have f2:Ac (decide (Lib.compareBytes (L.getD m default).1 k<0)=false):=hd
    clear hd
    refine F2 ?_
    repeat' ((first|exact tt|refine Ab hFm ?_|refine na fun b=>?_|refine nb fun b hb=>?_|refine iq ?_|(refine jq ?_ ?_<;>intro h h')|exact wZ|refine Aa ?_ ?_)<;>try refine F2 ?_)
    all_goals exact AC (i,m) ⟨An BA,⟨by simp only;omega,by simp only;omega,i3,fun n hn hl=>hbh n hn hl hq⟩,by simp only;omega⟩
  ·obtain rfl:i=j:=by omega
   have hp:AE L k=i:=ZN hL k i i2 i3 i4
   have f1:Ac (decide ((i:Int)<i)=false):=fo
   clear i1 i3 i4 hij
   by_cases hil:i<L.length
   ·have f2:Ac (decide ((i:Int)<L.length)=true):=fo
    have hh:=a4l (L:=L) (k:=k) (by rw[hp];exact hil)
    rw[hp]at hh
    have hFm:=hF (L.getD i default)
    clear hF hpl
    rw[hh,hp]
    clear hh
    refine F2 ?_
    repeat' ((first|exact tt|refine Ab hFm ?_|refine na fun b=>?_|refine nb fun b hb=>?_|refine iq ?_|(refine jq ?_ ?_<;>intro h h')|exact wZ|refine Aa ?_ ?_)<;>try refine F2 ?_)
    all_goals exact AG P0 (A6 _)
   ·have f2:Ac (decide ((i:Int)<L.length)=false):=fo
    rw[XI (L:=L) (k:=k) (by omega),hp]
    clear hF hpl
    refine F2 ?_
    repeat' ((first|exact tt|refine na fun b=>?_|refine nb fun b hb=>?_|refine iq ?_|(refine jq ?_ ?_<;>intro h h')|exact wZ|refine Aa ?_ ?_)<;>try refine F2 ?_)
    all_goals exact AG P0 (A6 _)
end
section
open Go.RowKit Go.Lib
section
variable {P:Program} {d:Option Nat} {s:St} {K:St→Prop}
theorem c0{f:Nat}{vs:List AV}{r:AV}(h:CT P f vs (lk []) (fun r' o'=>r'=r∧o'=lk []))(hK:KS (St.put ⟨s.t,BG [] s.o⟩ d r) K):Dg P f vs d s K:=KY h (fun b cs h=>by cases h) hK
end
theorem Ce(s:Nat)(L:List PrP):AF s L none=[(s,[.nils 115 2])]:=rfl
theorem AA(s:Nat)(L:List PrP)(g cap:Nat):AF s L (some (g,cap))=[(s,[.hsl g 115 2 L.length cap]),(g,Aq cap L)]:=rfl
theorem I7{A B:Prop}(h:B)(e:A=B:=by (simp (disch:=omega) only[*, ↓Ed,Eu, ↓reduceIte,reduceCtorEq,Nat.reduceAdd,Nat.reduceEqDiff,Nat.reduceLT,Nat.reduceLeDiff,Int.reduceToNat,Int.reduceEq,Int.reduceLT,Int.reduceLE,Ap, ↓Eb, ↓Ec, ↓Ee];first|done|rfl)):A:=e▸h
theorem TU(s:Nat)(L:List PrP)(hL:DT L)(hb:L.length≤1000000)(k:List UInt8)(x:Bl)(hx:stOk s L x):
  CT Tryz.prog 48 [.ptr s 0,.str k] (lk (AF s L x)) (fun r o=>r=.tup [.int .i64 (AE L k:Nat),.bool (A9 L k)]∧o=lk (AF s L x)):=by
 have hS:=b2N s L hL hb k x hx
 refine a8g _ _ _ (by simp) ?_
 rcases x with _ | ⟨g,cap⟩
 ·rw[a0D,a0A]at hS
  clear hL hb hx
  simp (disch:=omega) only[RA,Ce, ↓Ed,Eu, ↓reduceIte,reduceCtorEq,Nat.reduceAdd,Nat.reduceEqDiff,Nat.reduceLT,Nat.reduceLeDiff,Int.reduceToNat,Int.reduceEq,Int.reduceLT,Int.reduceLE,Ap, ↓Eb, ↓Ec, ↓Ee]
  repeat' ((first|exact tt|(refine c0 hS ?_)|refine na fun b=>?_|refine nb fun b hb=>?_|refine iq ?_|(refine jq ?_ ?_<;>intro h h')|exact wZ|refine Aa ?_ ?_)<;>try refine I7 ?_)
  all_goals exact AG P0 (A6 _)
 ·rw[a0E,a0B]at hS
  have hgs:=hx.1
  clear hL hb hx
  simp (disch:=omega) only[RA,AA,hgs, ↓Ed,Eu, ↓reduceIte,reduceCtorEq,Nat.reduceAdd,Nat.reduceEqDiff,Nat.reduceLT,Nat.reduceLeDiff,Int.reduceToNat,Int.reduceEq,Int.reduceLT,Int.reduceLE,Ap, ↓Eb, ↓Ec, ↓Ee]
  repeat' ((first|exact tt|refine c1 hS ?_|refine na fun b=>?_|refine nb fun b hb=>?_|refine iq ?_|(refine jq ?_ ?_<;>intro h h')|exact wZ|refine Aa ?_ ?_)<;>try refine I7 ?_)
  all_goals exact AG (by simp[Am,lk,hgs,r_two,rl_cons,rl_nil,Br,al_int,al_bool]) (A6 _)
theorem O8{L:List PrP}{k:List UInt8}(h:A9 L k=true):C2 L k=(L.getD (AE L k) default).2:=by simp only[C2,Af h]
theorem O7{L:List PrP}{k:List UInt8}(h:A9 L k=false):C2 L k=[]:=by simp[C2,h]
theorem Jv{L:List PrP}{k:List UInt8}(h:A9 L k=true):AE L k<L.length:=by simp only[A9,AP,Bs]at h;exact h.1
theorem Fj{s:Nat}{L:List PrP}{k:List UInt8}(h:A9 L k=true){x:Bl}(hx:stOk s L x):∃ g cap,x=some (g,cap):=by
 rcases x with _ | ⟨g,cap⟩
 ·obtain rfl:L=[]:=hx
  simp[A9,AE]at h
 ·exact ⟨g,cap,rfl⟩
theorem Qt(s:Nat)(L:List PrP)(hL:DT L)(hb:L.length≤1000000)(k:List UInt8)(x:Bl)(hx:stOk s L x):
  CT Tryz.prog 15 [.ptr s 0,.str k] (lk (AF s L x)) (fun r o=>r=.tup [.str (C2 L k),.bool (A9 L k)]∧o=lk (AF s L x)):=by
 have hF:=TU s L hL hb k x hx
 refine a8d _ _ _ (by simp) ?_
 cases hh:A9 L k with
 | false=>
  rw[O7 hh]
  rw[hh]at hF
  clear hL hb
  rcases x with _ | ⟨g,cap⟩
  ·rw[Ce]at hF
   clear hx
   simp (disch:=omega) only[ON,Ce, ↓Ed,Eu, ↓reduceIte,reduceCtorEq,Nat.reduceAdd,Nat.reduceEqDiff,Nat.reduceLT,Nat.reduceLeDiff,Int.reduceToNat,Int.reduceEq,Int.reduceLT,Int.reduceLE,Ap, ↓Eb, ↓Ec, ↓Ee]
   repeat' ((first|exact tt|refine c1 hF ?_|refine na fun b=>?_|refine nb fun b hb=>?_|refine iq ?_|(refine jq ?_ ?_<;>intro h h')|exact wZ|refine Aa ?_ ?_)<;>try refine I7 ?_)
   all_goals exact AG (by simp[Am,lk,r_two,rl_cons,rl_nil,Br,al_str,al_bool]) (A6 _)
  ·rw[AA]at hF
   have hgs:=hx.1
   clear hx
   simp (disch:=omega) only[ON,AA,hgs, ↓Ed,Eu, ↓reduceIte,reduceCtorEq,Nat.reduceAdd,Nat.reduceEqDiff,Nat.reduceLT,Nat.reduceLeDiff,Int.reduceToNat,Int.reduceEq,Int.reduceLT,Int.reduceLE,Ap, ↓Eb, ↓Ec, ↓Ee]
   repeat' ((first|exact tt|refine c2 hF ?_|refine na fun b=>?_|refine nb fun b hb=>?_|refine iq ?_|(refine jq ?_ ?_<;>intro h h')|exact wZ|refine Aa ?_ ?_)<;>try refine I7 ?_)
   all_goals exact AG (by simp[Am,lk,hgs,r_two,rl_cons,rl_nil,Br,al_str,al_bool]) (A6 _)
 | true=>
  obtain ⟨g,cap,rfl⟩:=Fj hh hx
  have hlt:=Jv hh
  rw[O8 hh]
  rw[hh,AA]at hF
  have hgs:=hx.1
  clear hL hb hx hh
  simp (disch:=omega) only[ON,AA,hgs, ↓Ed,Eu, ↓reduceIte,reduceCtorEq,Nat.reduceAdd,Nat.reduceEqDiff,Nat.reduceLT,Nat.reduceLeDiff,Int.reduceToNat,Int.reduceEq,Int.reduceLT,Int.reduceLE,Ap, ↓Eb, ↓Ec, ↓Ee]
  repeat' ((first|exact tt|refine c2 hF ?_|refine na fun b=>?_|refine nb fun b hb=>?_|refine iq ?_|(refine jq ?_ ?_<;>intro h h')|exact wZ|refine Aa ?_ ?_)<;>try refine I7 ?_)
  all_goals exact AG (by simp[Am,lk,hgs,r_two,rl_cons,rl_nil,Br,al_str,al_bool]) (A6 _)
theorem a1e:CT Tryz.prog 24 [] (fun _=>none) (fun r o=>∃ b,r=.ptr b 0∧o=lk [(b,[.nils 115 2])]):=by
 refine a8c _ (lk []) _ (by simp) ?_
 simp only[Wc];refine I7 ?_
 repeat' ((first|exact tt|refine na fun b=>?_|refine nb fun b hb=>?_|refine iq ?_|(refine jq ?_ ?_<;>intro h h')|exact wZ|refine Aa ?_ ?_)<;>try refine I7 ?_)
 all_goals exact TD ⟨rfl,by simp[Am,lk]⟩
def B3(k v:List UInt8):Bool:=decide (1≤k.length∧k.length≤160∧1≤v.length∧v.length≤64)
theorem ZF(k v:List UInt8)(hk:k.length≤1000000)(hv:v.length≤1000000):CP Tryz.prog 147 [.str k,.str v] (.bool (B3 k v)):=by
 refine a7m _ _ (by simp) ?_
 have e1:∀ l:List UInt8,decide (l=[])=decide (l.length=0):=fun l=>by simp[K4]
 have e:B3 k v=(((!decide (k.length=0))&&decide ((k.length:Int)≤160))&&(!decide (v.length=0))&&decide ((v.length:Int)≤64)):=by
  unfold B3
  rw[FE]
  simp only[AP,G3,Bs,Hf]
  omega
 rw[e]
 simp only[V1];refine I7 ?_
 repeat' ((first|exact tt|refine na fun b=>?_|refine nb fun b hb=>?_|refine iq ?_|(refine jq ?_ ?_<;>intro h h')|exact wZ|refine Aa ?_ ?_)<;>try refine I7 ?_)
 all_goals (rw[FE];simp only[Ac,AP,G3,Bool.not_eq_false',D3,Bs,Hf]at *;refine ⟨fun h=>?_,fun h=>?_⟩<;>first|exact h.elim|omega)

theorem NQ{A:Prop}(h:A:=by first|(simp[*,Am,lk,Ce,ov_cons,ov_nil,del_cons,del_nil];done)|fail):A:=h
theorem Fz{A:Prop}(h:A:=by first|(simp[*,Am,lk,AA,ov_cons,ov_nil,del_cons,del_nil];done)|fail):A:=h
theorem NS{A:Prop}(h:A:=by first|(simp[*,Am,lk,AA,Ce,ov_cons,ov_nil,del_cons,del_nil];done)|fail):A:=h
theorem Md{A:Prop}(h:A:=by first|(simp[Am,lk,AA, *];done)|fail):A:=h
theorem P2{A:Prop}(h:A:=by first|(simp[*,Am,lk,AA,ov_cons,ov_nil,del_cons,del_nil];done)|fail):A:=h
end
section
open Go.RowKit Go.Lib
theorem JW{A B:Prop}(h:B)(e:A=B:=by (simp (disch:=omega) only[*, ↓Ed,Eu, ↓reduceIte,reduceCtorEq,Nat.reduceAdd,Nat.reduceEqDiff,Nat.reduceLT,Nat.reduceLeDiff,Int.reduceToNat,Int.reduceEq,Int.reduceLT,Int.reduceLE,Ap, ↓Eb, ↓Ec, ↓Ee,List.length_singleton,Int.natCast_one];first|done|rfl)):A:=e▸h
theorem b2F(g cap:Nat)(x:PrP)(hk:x.1.length≤1000000)(hv:x.2.length≤1000000):
  CT Tryz.prog 79 [.hsl g 115 2 1 cap] (lk [(g,Aq cap [x])]) (fun r o=>r=.bool (B3 x.1 x.2)∧o=lk [(g,Aq cap [x])]):=by
 have hS:=ZF x.1 x.2 hk hv
 refine a8a _ _ _ (by simp) ?_
 simp only[V0];refine JW ?_
 repeat' ((first|exact tt|refine na fun b=>?_|refine nb fun b hb=>?_|refine iq ?_|(refine jq ?_ ?_<;>intro h h')|exact wZ|refine Aa ?_ ?_)<;>try refine JW ?_)
 refine A2 (fun i:Nat=>⟨lk [(0,.hsl g 115 2 1 cap),(5,.hsl g 115 2 1 cap),(6,.int .i64 1),(7,.int .i64 (i:Int))],lk [(g,Aq cap [x])]⟩) (fun i=>i≤1∧(i=1→B3 x.1 x.2=true)) (fun i=>1 - i) 0 ⟨by omega,by omega⟩ (An BA) ?_
 intro i ⟨hi,hm⟩
 by_cases hi1:i<1
 ·have f1:Ac (decide ((i:Int)<1)=true):=fo
  have f2:Ac (decide ((0:Int)<i)=false):=fo
  have hl:i<[x].length:=by simpa using hi1
  have he:[x].getD i default=x:=by
   obtain rfl:i=0:=by omega
   rfl
  clear hm
  cases hq:B3 x.1 x.2 with
  | false=>
   rw[hq]at hS
   refine JW ?_
   repeat' ((first|exact tt|refine Ag hS ?_|refine Ab hS ?_|refine na fun b=>?_|refine nb fun b hb=>?_|refine iq ?_|(refine jq ?_ ?_<;>intro h h')|exact wZ|refine Aa ?_ ?_)<;>try refine JW ?_)
   all_goals exact AG Mc (A6 _)
  | true=>
   rw[hq]at hS
   refine JW ?_
   repeat' ((first|exact tt|refine Ag hS ?_|refine Ab hS ?_|refine na fun b=>?_|refine nb fun b hb=>?_|refine iq ?_|(refine jq ?_ ?_<;>intro h h')|exact wZ|refine Aa ?_ ?_)<;>try refine JW ?_)
   all_goals exact AC (i+1) ⟨An qd,⟨by omega,fun _=>(by first|trivial|exact hq)⟩,by omega⟩
 ·have f1:Ac (decide ((i:Int)<1)=false):=fo
  rw[hm (by omega)]
  refine JW ?_
  repeat' ((first|exact tt|refine na fun b=>?_|refine nb fun b hb=>?_|refine iq ?_|(refine jq ?_ ?_<;>intro h h')|exact wZ|refine Aa ?_ ?_)<;>try refine JW ?_)
  all_goals exact AG Mc (A6 _)
end
section
open Go.RowKit Go.Lib
theorem LF(cap:Nat)(L:List PrP)(h:L.length≤cap):(Aq cap L).length=cap * 2:=by rw[Aq,prRow.len_hc];congr 1;omega
theorem Mu(cap:Nat)(L:List PrP)(i:Nat)(hi:i<L.length)(k v:List UInt8):splice (Aq cap L) (i * 2) [.str k,.str v]=Aq cap (L.set i (k,v)):=prRow.sto cap L i (k,v) hi
theorem LG(cap:Nat)(k v:List UInt8):hc 2 cap [[.str k,.str v]]=Aq cap [(k,v)]:=rfl
theorem a0p{L:List PrP}{k:List UInt8}(h:A9 L k=true)(v:List UInt8):A7 L k v=L.set (AE L k) (k,v):=by
 have hl:=Jv h
 rw[A7,Af h,List.set_eq_take_append_cons_drop,Af hl,DC];rfl
theorem Qb{L:List PrP}{k:List UInt8}(h:A9 L k=false)(v:List UInt8):A7 L k v=Dt L (AE L k) (k,v):=by
 rw[A7,Ad (by simp[h])];rfl
def CQ(L:List PrP)(k v:List UInt8):List PrP:=if B3 k v=true then A7 L k v else L
def FA(k v:List UInt8):Int:=if B3 k v=true then 0 else 1
theorem Tz(L:List PrP)(k v:List UInt8):(CQ L k v).length≤L.length+1:=by
 unfold CQ
 split
 ·cases h:A9 L k with
  | true=>rw[a0p h];simp
  | false=>rw[Qb h,Pf _ _ _ (IV L k)];omega
 ·omega
abbrev IZ(s:Nat)(L L':List PrP)(x:Bl)(E:Int):AV→(Nat→Option (List AV))→Prop:=fun r o=>∃ y,(stOk s L' y∧(y=none→x=none))∧r=.int .i64 E∧o=lk (ov (AF s L' y) (AF s L x))
theorem Ch{st:St}{rs:List AR}{s:Nat}{L L':List PrP}{x:Bl}{E:Int}(y:Bl)(hy:stOk s L' y∧(y=none→x=none))(h:BR st rs (.int .i64 E))(ho:Am (ov (AF s L' y) (AF s L x)) st.o):
  Ga st rs (lk (AF s L x)) (IZ s L L' x E):=
 ⟨_,h,_,Gu ho,fun b cs hb=>by
  rw[← ovr_lk]
  simp only[BG,hb]
  cases lk (AF s L' y) b with
  | none=>exact ⟨_,rfl⟩
  | some z=>exact ⟨_,rfl⟩,y,hy,rfl,rfl⟩
theorem N3{A B:Prop}(h:B)(e:A=B:=by (simp (disch:=omega) only[*, ↓Ed,Eu, ↓reduceIte,reduceCtorEq,Nat.reduceAdd,Nat.reduceEqDiff,Nat.reduceLT,Nat.reduceLeDiff,Int.reduceToNat,Int.reduceEq,Int.reduceLT,Int.reduceLE,Ap, ↓Eb, ↓Ec, ↓Ee,Hv,List.all_cons,List.all_nil,LF,Mu,LG];first|done|rfl)):A:=e▸h
theorem MG(s:Nat)(L:List PrP)(hL:DT L)(hb:L.length≤100000)(k v:List UInt8)(hk:k.length≤1000000)(hv:v.length≤1000000)(x:Bl)(hx:stOk s L x):
  CT Tryz.prog 33 [.ptr s 0,.str k,.str v] (lk (AF s L x)) (IZ s L (CQ L k v) x (FA k v)):=by
 have hF:=TU s L hL (by omega) k x hx
 have hCk:=Td k (by omega)
 have hCv:=Td v (by omega)
 have hG:=fun g cap=>b2F g cap (k,v) hk hv
 have hP0:=fun gv cap=>b2H gv cap (k,v)
 have hpl:=IV L k
 refine a8f _ _ _ (by simp) ?_
 cases hm:B3 k v with
 | false=>
  simp only[hm]at hG
  simp only[CQ,FA,hm,D3,BV]
  rcases x with _ | ⟨g,cap⟩
  ·clear hF hP0
   simp (disch:=omega) only[Lp,Ce, ↓Ed,Eu, ↓reduceIte,reduceCtorEq,Nat.reduceAdd,Nat.reduceEqDiff,Nat.reduceLT,Nat.reduceLeDiff,Int.reduceToNat,Int.reduceEq,Int.reduceLT,Int.reduceLE,Ap, ↓Eb, ↓Ec, ↓Ee,Hv,List.all_cons,List.all_nil,LF,Mu,LG]
   repeat' ((first|exact tt|refine Ab hCk ?_|refine Ab hCv ?_|refine c1 (hG _ _) ?_|refine na fun b=>?_|refine nb fun b hb=>?_|refine iq ?_|(refine jq ?_ ?_<;>intro h h')|exact wZ|refine Aa ?_ ?_)<;>try refine N3 ?_)
   all_goals exact Ch (L:=L) (x:=none) none ⟨hx,fun _=>rfl⟩ JG (by simp[*,Am,lk,Ce,ov_cons,ov_nil,del_cons,del_nil])
  ·have hgs:=hx.1
   clear hF hP0
   simp (disch:=omega) only[Lp,AA,hgs, ↓Ed,Eu, ↓reduceIte,reduceCtorEq,Nat.reduceAdd,Nat.reduceEqDiff,Nat.reduceLT,Nat.reduceLeDiff,Int.reduceToNat,Int.reduceEq,Int.reduceLT,Int.reduceLE,Ap, ↓Eb, ↓Ec, ↓Ee,Hv,List.all_cons,List.all_nil,LF,Mu,LG]
   repeat' ((first|exact tt|refine Ab hCk ?_|refine Ab hCv ?_|refine c1 (hG _ _) ?_|refine na fun b=>?_|refine nb fun b hb=>?_|refine iq ?_|(refine jq ?_ ?_<;>intro h h')|exact wZ|refine Aa ?_ ?_)<;>try refine N3 ?_)
   all_goals exact Ch (x:=some (g,cap)) (some (g,cap)) ⟨hx,fun h=>by cases h⟩ JG P2
 | true=>
  simp only[hm]at hG
  simp only[CQ,FA,hm,Bo]
  cases hh:A9 L k with
  | true=>
   obtain ⟨g,cap,rfl⟩:=Fj hh hx
   have hlt:=Jv hh
   rw[a0p hh]
   rw[hh,AA]at hF
   have hgs:=hx.1
   have hcap:L.length≤cap:=hx.2
   clear hP0 hpl
   simp (disch:=omega) only[Lp,AA,hgs, ↓Ed,Eu, ↓reduceIte,reduceCtorEq,Nat.reduceAdd,Nat.reduceEqDiff,Nat.reduceLT,Nat.reduceLeDiff,Int.reduceToNat,Int.reduceEq,Int.reduceLT,Int.reduceLE,Ap, ↓Eb, ↓Ec, ↓Ee,Hv,List.all_cons,List.all_nil,LF,Mu,LG]
   repeat' ((first|exact tt|refine Ab hCk ?_|refine Ab hCv ?_|refine c1 (hG _ _) ?_|refine c2 hF ?_|refine na fun b=>?_|refine nb fun b hb=>?_|refine iq ?_|(refine jq ?_ ?_<;>intro h h')|exact wZ|refine Aa ?_ ?_)<;>try refine N3 ?_)
   all_goals exact Ch (x:=some (g,cap)) (some (g,cap)) ⟨⟨hgs,by simpa using hcap⟩,fun h=>by cases h⟩ JG P2
  | false=>
   rw[Qb hh]
   rcases x with _ | ⟨g,cap⟩
   ·obtain rfl:L=[]:=hx
    have e1:AE [] k=0:=rfl
    have e2:Dt [] 0 (k,v)=[(k,v)]:=rfl
    rw[hh,Ce,e1]at hF
    rw[e1,e2]
    clear hpl
    simp (disch:=omega) only[Lp,Ce, ↓Ed,Eu, ↓reduceIte,reduceCtorEq,Nat.reduceAdd,Nat.reduceEqDiff,Nat.reduceLT,Nat.reduceLeDiff,Int.reduceToNat,Int.reduceEq,Int.reduceLT,Int.reduceLE,Ap, ↓Eb, ↓Ec, ↓Ee,Hv,List.all_cons,List.all_nil,LF,Mu,LG]
    repeat' ((first|exact tt|refine Ab hCk ?_|refine Ab hCv ?_|refine c1 (hG _ _) ?_|refine c1 hF ?_|(refine a2L (hP0 _ _) (fun b c hb h2 hc=>?_);simp only[Bt,Bu,Bc]at hb)|refine na fun b=>?_|refine nb fun b hb=>?_|refine iq ?_|(refine jq ?_ ?_<;>intro h h')|exact wZ|refine Aa ?_ ?_)<;>try refine N3 ?_)
    all_goals exact Ch (L:=[]) (x:=none) (some (b,c)) ⟨⟨by simp only[*,Ct,and_self],by assumption⟩,fun h=>by cases h⟩ JG (by simp[*,Am,lk,AA,Ce,ov_cons,ov_nil,del_cons,del_nil])
   ·have hgs:=hx.1
    have hcap:L.length≤cap:=hx.2
    rw[hh,AA]at hF
    have hil:=Pf L (AE L k) (k,v) hpl
    have hI:=fun gv capv (hgv:¬ gv=g∧¬ g=gv)=>b2G g gv cap capv (AE L k) L (k,v) hgv hpl (by omega)
    clear hP0
    simp (disch:=omega) only[Lp,AA,hgs, ↓Ed,Eu, ↓reduceIte,reduceCtorEq,Nat.reduceAdd,Nat.reduceEqDiff,Nat.reduceLT,Nat.reduceLeDiff,Int.reduceToNat,Int.reduceEq,Int.reduceLT,Int.reduceLE,Ap, ↓Eb, ↓Ec, ↓Ee,Hv,List.all_cons,List.all_nil,LF,Mu,LG]
    repeat' ((first|exact tt|refine Ab hCk ?_|refine Ab hCv ?_|refine c1 (hG _ _) ?_|refine c2 hF ?_|((refine a2K (hI _ _) (fun c hc=>?_) (fun b c hn h2 h3 hc=>?_))<;>(try simp only[Bt,Bu,Bc]at hn))|refine na fun b=>?_|refine nb fun b hb=>?_|refine iq ?_|(refine jq ?_ ?_<;>intro h h')|exact wZ|refine Aa ?_ ?_)<;>try refine N3 ?_)
    ·exact Ch (L:=L) (x:=some (g,cap)) (some (g,c)) ⟨⟨hgs,by rw[hil];exact hc⟩,fun h=>by cases h⟩ JG P2
    ·exact Ch (L:=L) (x:=some (g,cap)) (some (b,c)) ⟨⟨by simp only[*,Ct,and_self],by rw[hil];exact hc⟩,fun h=>by cases h⟩ JG P2
section
variable {d:Option Nat} {st:St} {K:St→Prop}
theorem V3{f s:Nat}{vs:List AV}{L L':List PrP}{x:Bl}{E:Int}(h:CT Tryz.prog f vs (lk (AF s L x)) (IZ s L L' x E))(hsub:∀ b cs,lk (AF s L x) b=some cs→st.o b=some cs)
  (hK:∀ y,stOk s L' y→(y=none→x=none)→(∀ g cap,y=some (g,cap)→lk (AF s L x) g=none→st.o g=none)→KS (St.put ⟨st.t,BG (AF s L' y) st.o⟩ d (.int .i64 E)) K):Dg Tryz.prog f vs d st K:=by
 refine ⟨_,_,hsub,h, ?_⟩
 rintro r o2 ⟨y,⟨hy,hyx⟩,rfl,rfl⟩ hf
 have e:(fun b=>(lk (ov (AF s L' y) (AF s L x)) b).or (st.o b))=BG (AF s L' y) st.o:=by
  funext b
  rw[← ovr_lk]
  simp only[BG]
  cases h1:lk (AF s L' y) b with
  | some z=>rfl
  | none=>
   cases h2:lk (AF s L x) b with
   | none=>rfl
   | some z=>rw[hsub b z h2];rfl
 rw[e]
 refine hK y hy hyx fun g cap hg hn=>hf g (Aq cap L') ?_ hn
 subst hg
 rw[← ovr_lk]
 have h3:=hy.1
 simp[BG,AA,lk,h3]
theorem Iz{f s:Nat}{vs:List AV}{L L':List PrP}{E:Int}(h:CT Tryz.prog f vs (lk [(s,[.nils 115 2])]) (IZ s L L' none E))
  (k0:stOk s L' none→KS (St.put ⟨st.t,BG [(s,[.nils 115 2])] st.o⟩ d (.int .i64 E)) K)
  (k1:∀ b c,st.o b=none→(¬ b=s∧¬ s=b)→L'.length≤c→KS (St.put ⟨st.t,BG [(s,[.hsl b 115 2 L'.length c]),(b,Aq c L')] st.o⟩ d (.int .i64 E)) K)
  (q1:st.o s=some [.nils 115 2]:=by first|((repeat (first|exact CH _ _ _|(refine CN ?_ ?_;(focus (first|assumption|(simp only[*,Ct];done))))));done)|fail):Dg Tryz.prog f vs d st K:=by
 refine V3 (x:=none) h (Pq q1) fun y hy _ hf=>?_
 rcases y with _ | ⟨b,c⟩
 ·exact k0 hy
 ·exact k1 b c (hf b c rfl (by simp[Ce,lk,hy.1])) hy.1 hy.2
theorem Ex{f s g cap:Nat}{vs:List AV}{L L':List PrP}{E:Int}(h:CT Tryz.prog f vs (lk [(s,[.hsl g 115 2 L.length cap]),(g,Aq cap L)]) (IZ s L L' (some (g,cap)) E))
  (k1:∀ c,L'.length≤c→KS (St.put ⟨st.t,BG [(s,[.hsl g 115 2 L'.length c]),(g,Aq c L')] st.o⟩ d (.int .i64 E)) K)
  (k2:∀ b c,st.o b=none→(¬ b=s∧¬ s=b)→L'.length≤c→KS (St.put ⟨st.t,BG [(s,[.hsl b 115 2 L'.length c]),(b,Aq c L')] st.o⟩ d (.int .i64 E)) K)
  (q1:st.o s=some [.hsl g 115 2 L.length cap]:=by first|((repeat (first|exact CH _ _ _|(refine CN ?_ ?_;(focus (first|assumption|(simp only[*,Ct];done))))));done)|fail) (q2:st.o g=some (Aq cap L):=by first|((repeat (first|exact CH _ _ _|(refine CN ?_ ?_;(focus (first|assumption|(simp only[*,Ct];done))))));done)|fail):Dg Tryz.prog f vs d st K:=by
 refine V3 (x:=some (g,cap)) h (Kv q1 q2) fun y hy hyx hf=>?_
 rcases y with _ | ⟨b,c⟩
 ·cases hyx rfl
 ·by_cases e:b=g
  ·subst e
   exact k1 c hy.2
  ·exact k2 b c (hf b c rfl (by simp[AA,lk,hy.1,e])) hy.1 hy.2
end
end
section
open Go.RowKit
theorem Lv{α:Type}:∀ {l m:List (Nat × α)},l.map Prod.fst=m.map Prod.fst→∀ b cs,lk l b=some cs→∃ cs',lk m b=some cs'
 | [],_,_,b,cs,h=>by simp[lk]at h
 | (k,x)::l,[],e,b,cs,h=>by simp at e
 | (k,x)::l,(k',y)::m,e,b,cs,h=>by
  simp only[CX,List.cons.injEq]at e
  obtain ⟨rfl,e⟩:=e
  rw[lk_cons]at h ⊢
  by_cases hb:b=k
  ·rw[Af hb];exact ⟨y,rfl⟩
  ·rw[Ad hb]at h ⊢;exact Lv e b cs h
end
section
open Go.RowKit Go.ChangeMaps
def QO(es:Array MapEntry)(seen:Array Nat)(e:MapEntry):Prop:=e∈(leftOf es seen).toList
def Uk(es:Array MapEntry)(seen:Array Nat):Prop:=(leftOf es seen).size=0
section
variable {F:Fence} {n:Nat} {P:Program} (w:World) {ops:Array Oper} {rest:List Oper} {o:Oper} {a:Act} {Q:Exit→Act→World→Prop}
end
end
section
open Go.RowKit Go.ChangeMaps
structure Came (es:Array MapEntry) (seen:Array Nat) (is:List Nat):Prop where
 nd:is.Nodup
 lt:∀ i∈is,i<es.size
 sn:seen.toList=is.map fun i=>(es[i]?.map (·.born)).getD 0
theorem Came.nil(es:Array MapEntry):Came es #[] []:=⟨by simp,by simp,rfl⟩
theorem a2C{es:Array MapEntry}(hn:(es.toList.map (·.born)).Nodup){i j:Nat}(hi:i<es.size)(hj:j<es.size)(h:(es[i]?.map (·.born)).getD 0=(es[j]?.map (·.born)).getD 0):i=j:=by
 have hi':i<(es.toList.map (·.born)).length:=by simpa using hi
 have hj':j<(es.toList.map (·.born)).length:=by simpa using hj
 have hp:=J6.1 hn
 rcases Nat.lt_trichotomy i j with hlt|rfl|hlt
 ·exact absurd (by simpa[hi,hj]using h) (hp i j hi' hj' hlt)
 ·rfl
 ·exact absurd (by simpa[hi,hj]using h.symm) (hp j i hj' hi' hlt)
theorem Came.step{es:Array MapEntry}(hn:(es.toList.map (·.born)).Nodup){seen:Array Nat}{is:List Nat}(h:Came es seen is){e:MapEntry}(he:QO es seen e):∃ i,es[i]?=some e∧Came es (seen.push e.born) (is++[i]):=by
 simp only[QO,leftOf,Array.mem_toList_iff,Array.mem_filter,G3]at he
 obtain ⟨he1,he2⟩:=he
 obtain ⟨i,hi,rfl⟩:=Array.getElem_of_mem he1
 have hni:i ∉ is:=fun hm=>by
  have:es[i].born∈seen.toList:=by
   rw[h.sn]
   exact Dp.2 ⟨i,hm,by simp[hi]⟩
  simp_all
 refine ⟨i,by simp[hi],List.nodup_append.2 ⟨h.nd,by simp,fun a ha b hb=>by simp at hb;subst hb;intro e;subst e;exact hni ha⟩,fun j hj=>?_, ?_⟩
 ·rcases Bv.1 hj with hj|hj
  ·exact h.lt j hj
  ·simp at hj;omega
 ·rw[Array.toList_push,h.sn];simp[hi]
theorem b0k:∀ (n:Nat) (is:List Nat),is.Nodup→(∀ i∈is,i<n)→(∀ i,i<n→i∈is)→is.Perm (List.range n):=by
 intro n is h1 h2 h3
 rw[List.perm_iff_count]
 intro a
 rw[h1.count,List.nodup_range.count]
 by_cases ha:a<n
 ·simp[h3 a ha,ha]
 ·have:a ∉ is:=fun h=>ha (h2 a h)
  simp[this,ha]
theorem Came.all{es:Array MapEntry}(hn:(es.toList.map (·.born)).Nodup){seen:Array Nat}{is:List Nat}(h:Came es seen is)(h0:Uk es seen):is.Perm (List.range es.size):=by
 refine b0k _ _ h.nd h.lt fun i hi=>?_
 have he:∀ x∈es,seen.contains x.born=true:=by
  intro x hx
  by_cases hc:seen.contains x.born=true
  ·exact hc
  ·have:x∈leftOf es seen:=by simp only[leftOf,Array.mem_filter];exact ⟨hx,by simpa using hc⟩
   rw[Array.eq_empty_of_size_eq_zero (show (leftOf es seen).size=0 from h0)]at this
   simp at this
 have h1:=he es[i] (Array.getElem_mem hi)
 have h2:es[i].born∈seen.toList:=by simpa using h1
 rw[h.sn,Dp]at h2
 obtain ⟨j,hj,e⟩:=h2
 have:=a2C hn (h.lt j hj) hi (by rw[e];simp[hi])
 rw[← this];exact hj
theorem Came.size{es:Array MapEntry}{seen:Array Nat}{is:List Nat}(h:Came es seen is):seen.size=is.length:=by
 have:=congrArg List.length h.sn
 simpa using this
end
section
open Go.RowKit
section
variable {F:Fence} {n:Nat} {P:Program}
end
end
section
open Go.RowKit Go.Sort
section
variable {α:Type} [Inhabited α] {cl:α→List Value} {k:Nat}
end
theorem TE{W W':World}{U:Nat→Nat→Prop}{e k n:Nat}{v:Value}{xs:List Value}{els:List (List AV)}(hk:0<k)(hb:RowKit.Below W.heap.size W W')(hrow:W'.ownsRow W.heap.size e k v n xs)(hn:els.length=n)(hsz:∀ l∈els,l.length=k)(hone:∀ u∈xs,u.oneCell'=true)
  (hv:∀ (i j:Nat) (l:List AV) (c:AV) (u:Value),els[i]?=some l→l[j]?=some c→xs[i * k+j]?=some u→∀ W U,VR W U u c):
  ∃ U',VR W' U' v (.sl (some e) k els)∧OwnRow W' U' (W.heap.size ≤ ·) v e k els.length∧Ext W U W' U':=by
 subst hn
 obtain ⟨hlen,hnil | ⟨g,cap,cur,rfl,hbase,hgb,h1,h2,h3,h4⟩⟩:=hrow
 ·obtain ⟨rfl,h0⟩:=hnil
  have:els=[]:=Dn h0
  subst this
  exact ⟨fun b o=>if b<W.heap.size then U b o else False,VR.nil _ _,.inl ⟨rfl,rfl⟩,hb,fun j hj o=>by simp[hj]⟩
 ·have hcell:∀ t,t<els.length * k→∃ u,xs[t]?=some u∧W'.cell? ⟨g,t,none⟩=some u:=by
   intro t ht
   have ht':t<xs.length:=by omega
   refine ⟨xs[t],Aw ht', ?_⟩
   have q:(cur.toList.take (els.length * k))[t]?=xs[t]?:=by rw[h4]
   rw[CW ht,Em,Aw ht']at q
   simp only[World.cell?,hgb,J3,D3,BV]
   exact q
  refine ⟨fun b o=>if b<W.heap.size then U b o else (b=g∧els.length * k≤o), ?_,.inr ⟨g,cap,cur,rfl,hbase,.of hgb,h1,h2,h3,fun o ho=>?_,fun o ho=>?_⟩,hb,fun j hj o=>by simp[hj]⟩
  ·refine .sl (some ⟨g,0,none⟩) cap (some e) els g 0 k (fun i j=>(xs[i * k+j]?).getD undef) h1 h2 (fun _=>rfl) hsz (fun i j hi hj=>?_) (fun i l j c hl hc=>?_)
   ·have ht:i * k+j<els.length * k:=by
     have:=Dq k (show i+1≤els.length from hi)
     rw[Bp,F7]at this;omega
    obtain ⟨u,q1,q2⟩:=hcell _ ht
    rw[q1,AH]
    refine ⟨q2,hone u (Dd q1), ?_⟩
    simp only[show ¬ g<W.heap.size by omega,BV]
    omega
   ·have hi:i<els.length:=(AM.1 hl).1
    have hj:j<k:=by rw[← hsz l (Dd hl)];exact (AM.1 hc).1
    have ht:i * k+j<els.length * k:=by
     have:=Dq k (show i+1≤els.length from hi)
     rw[Bp,F7]at this;omega
    obtain ⟨u,q1,_⟩:=hcell _ ht
    rw[q1]
    exact hv i j l c u hl hc q1 _ _
  ·simp only[show ¬ g<W.heap.size by omega,BV];omega
  ·simp only[show ¬ g<W.heap.size by omega,BV];exact ⟨trivial,ho⟩
end
section
open Go

def RD{α:Type}(d:Nat):Result α→Prop
 | .ok _ w=>d≤w.drawn
 | .halt _ w=>d≤w.drawn
theorem RD.le{α:Type}{d e:Nat}(h:e≤d){r:Result α}(hr:RD d r):RD e r:=by cases r<;>exact En h hr
def GD(d:Nat):GStep→Prop
 | .go _ w _=>d≤w.drawn
 | .comm _ _ _ _ w _=>d≤w.drawn
 | .spawn _ _ w _=>d≤w.drawn
 | .count _ w _=>d≤w.drawn
 | .timer _ _ w _=>d≤w.drawn
 | .alone _ _ w _=>d≤w.drawn
 | .newcoro _ _ _ w _=>d≤w.drawn
 | .coroswitch _ _ _ w _=>d≤w.drawn
 | .collect _ w _=>d≤w.drawn
 | .watch _ w _=>d≤w.drawn
 | .ended _ _ _=>True
theorem GD.le{d e:Nat}(h:e≤d){g:GStep}(hg:GD d g):GD e g:=by cases g<;>first|trivial|exact En h hg
theorem GD.after{d:Nat}{es:Array Event}{g:GStep}(h:GD d g):GD d (g.after es):=by cases g<;>exact h
def SD(d:Nat):Stepped→Prop
 | .next m=>d≤m.world.drawn
 | .ended _ _=>True
theorem SD.le{d e:Nat}(h:e≤d){g:Stepped}(hg:SD d g):SD e g:=by cases g<;>first|trivial|exact En h hg
def MD(d:Nat):Move→Prop
 | .goroutine m _=>d≤m.world.drawn
 | .machine s _=>SD d s
theorem MD.le{d e:Nat}(h:e≤d){g:Move}(hg:MD d g):MD e g:=by
 cases g
 ·exact En h hg
 ·exact SD.le h hg
end
section
open Go.RowKit
end
section
open Go.RowKit
section
variable {P:Program} {d:Option Nat} {s:St} {K:St→Prop}
end
end
section
open Go.RowKit Go.Sort
def GC:List AV→Bool
 | []=>true
 | .int _ _::r=>GC r
 | .bool _::r=>GC r
 | .str _::r=>GC r
 | _=>false
def Dk:List AV→List Value
 | []=>[]
 | .int k n::r=>.int k n::Dk r
 | .bool b::r=>.bool b::Dk r
 | .str l::r=>.string ⟨l.toArray⟩::Dk r
 | _::r=>undef::Dk r
theorem KG:∀ cs:List AV,(Dk cs).length=cs.length
 | []=>rfl
 | a::r=>by cases a<;>simp[Dk,KG r]
theorem Ma:∀ (cs:List AV),GC cs=true→∀ (i:Nat) (c:AV) (u:Value),cs[i]?=some c→(Dk cs)[i]?=some u→(∀ W U,VR W U u c)∧(∀ W U v,VR W U v c→v=u)∧u.oneCell'=true
 | [],_,i,c,u,h,_=>by simp at h
 | a::r,hf,0,c,u,h,g=>by
  simp only[G5,Az]at h
  subst h
  cases a<;>simp[GC]at hf<;>simp only[Dk,G5,Az]at g<;>subst g
  ·exact ⟨fun _ _=>.int _ _,fun _ _ _ h=>by cases h;rfl,rfl⟩
  ·exact ⟨fun _ _=>.bool _,fun _ _ _ h=>by cases h;rfl,rfl⟩
  ·exact ⟨fun _ _=>.str _,fun _ _ _ h=>by cases h;rfl,rfl⟩
 | a::r,hf,i+1,c,u,h,g=>by
  have hr:GC r=true:=by cases a<;>simp[GC]at hf<;>exact hf
  have e:Dk (a::r)=(Dk [a]++Dk r):=by cases a<;>rfl
  have e1:(Dk [a]).length=1:=KG [a]
  rw[e,Cj (by omega),e1]at g
  exact Ma r hr i c u (by simpa using h) (by simpa using g)
theorem ZK{cs:List AV}(hf:GC cs=true):∀ u∈Dk cs,u.oneCell'=true:=by
 intro u hu
 obtain ⟨i,hi,rfl⟩:=Do hu
 have hi':i<cs.length:=by rw[← KG];exact hi
 exact (Ma cs hf i cs[i] _ (Aw hi') (Aw hi)).2.2
end
end Go.Proofs.YtfgihnhoocnmdaaGreatDoor
namespace Go.Proofs
open Go.Shelf
def Tryz.cln199_ren:Go.Shelf.Ren:=⟨fun|41=>199|n=>n,fun|22=>36|23=>145|4=>4|n=>n,fun|n=>n⟩
theorem Tryz.cln199:Go.Proofs.SlLaysE0.n41 Tryz.prog Tryz.cln199_ren:={
 mixed:=by kernel_rfl
 f41:=⟨Tryz.f199.name,by decide,Tryz.func199.trans (congrArg some (by kernel_rfl))⟩
 t4:=Tryz.underlying4
 a4:=Tryz.isAgg4
 z4:=Tryz.sizeOf4
 v4:=Tryz.zeroValue4
 t22:=Tryz.underlying36
 a22:=Tryz.isAgg36
 z22:=Tryz.sizeOf36
 v22:=Tryz.zeroValue36 }
def Tryz.cln200_ren:Go.Shelf.Ren:=⟨fun|41=>200|n=>n,fun|22=>143|23=>29|4=>4|n=>n,fun|n=>n⟩
theorem Tryz.cln200:Go.Proofs.SlLaysE0.n41 Tryz.prog Tryz.cln200_ren:={
 mixed:=by kernel_rfl
 f41:=⟨Tryz.f200.name,by decide,Tryz.func200.trans (congrArg some (by kernel_rfl))⟩
 t4:=Tryz.underlying4
 a4:=Tryz.isAgg4
 z4:=Tryz.sizeOf4
 v4:=Tryz.zeroValue4
 t22:=Tryz.underlying143
 a22:=Tryz.isAgg143
 z22:=Tryz.sizeOf143
 v22:=Tryz.zeroValue143 }
end Go.Proofs
namespace Go.Proofs.YtfgihnhoocnmdaaGreatDoor
set_option linter.all false
set_option maxHeartbeats 64000000
set_option maxRecDepth 100000
section
open Go.RowKit Go.Shelf Go.Sort Go.Lib
theorem Nn{k:Nat}:∀ els:List (List AV),(∀ e∈els,e.length=k)→(els.flatMap Dk).length=els.length * k
 | [],_=>by simp
 | e::r,h=>by
  rw[List.flatMap_cons,Ao,KG,h e (by simp),Nn r fun x hx=>h x (by simp[hx]),AJ,Bp];omega
theorem Nm{k:Nat}:∀ (els:List (List AV)) (i j:Nat),(∀ e∈els,e.length=k)→i<els.length→j<k→(els.flatMap Dk)[i * k+j]?=(Dk (els.getD i []))[j]?
 | [],i,j,_,h,_=>by simp at h
 | e::r,0,j,h,_,hj=>by
  rw[List.flatMap_cons,CB (by rw[KG,h e (by simp)];omega)];simp
 | e::r,i+1,j,h,hi,hj=>by
  have he:=h e (by simp)
  rw[List.flatMap_cons,Cj (by rw[KG,he,Bp];omega),KG,he]
  have:(i+1) * k+j - k=i * k+j:=by rw[Bp];omega
  rw[this,Nm r i j (fun x hx=>h x (by simp[hx])) (by simpa using hi) hj];simp
section
variable {P:Program} {ρ:Ren}
theorem WI(L:SlLaysE0.n41 P ρ)(i0:TypeInfo)(z:Value)(size bytes:Nat)(hi:P.info? (ρ.t 23)=some i0)(hz0:i0.zero=some z)(hz1:i0.size=size)(hz2:i0.bytes=bytes)(hzs:z.cells.size=size)(hsz:0<size)
  (z23:∀ w,(Go.sizeOf (ρ.t 23)).run P w=.ok size w) (a:Addr) (c:Nat) (w:World):
  Calls P (ρ.f 41) #[.slice (some a) 0 c] w fun e w'=>∃ v',e=.returned v'∧w'.ownsRow w.heap.size (ρ.t 23) size v' 0 []∧RowKit.Below w.heap.size w w':=by
 have mixed:=L.mixed;have t4:=L.t4;have a4:=L.a4;have z4:=L.z4;have v4:=L.v4;have t22:=L.t22;have a22:=L.a22;have z22:=L.z22;have v22:=L.v22
 have q22:∀ (w:World) (a:Option Addr) (n c n' c':Nat),(binOp .eql (ρ.t 22) (.slice a n c) (.slice none n' c')).run P w=.ok (.bool a.isNone) w:=fun w a n c n' c'=>Lib.run_eql_slice_nil w _ _ a n c n' c' L.t22
 have u22:∀ w,Sem.run P (underlying (ρ.t 22)) w=.ok (TypeDesc.slice (ρ.t 23)) w:=run_underlying t22
 obtain ⟨_,_,FG⟩:=L.f41
 go_enter FG,SlBodyN.n41_ntmps ρ
 go_wp2_with (at_builtin;refine wpList_append_own _ rfl _ _ (ρ.t 22) rfl w.heap.size (ρ.t 23) i0 z size bytes t22 hi hz0 hz1 hz2 hzs hsz _ _ _ rfl (World.ownsRow_made w #[] 0 (A8 _) (Nat.zero_le _) (by simp)) a 0 c [] rfl (by simp) (by intro j u hj;simp at hj) (by intro u hu;cases hu) (by unfold maxLen;omega) (by omega) (by simp) ?_)
 intro v' w1 hown hgrow hnil
 go_wp2
 go_ret
 exact ⟨v',rfl,by simpa using hown,((RowKit.Below.refl _ w).alloc (A8 _) _).grown hgrow (by simp) (by intro k hk;simp[Value.ownBlock]at hk;omega)⟩
theorem Ud(L:SlLaysE0.n41 P ρ)(i0:TypeInfo)(z:Value)(size bytes:Nat)(hi:P.info? (ρ.t 23)=some i0)(hz0:i0.zero=some z)(hz1:i0.size=size)(hz2:i0.bytes=bytes)(hzs:z.cells.size=size)(hsz:0<size)
  (z23:∀ w,(Go.sizeOf (ρ.t 23)).run P w=.ok size w) (els:List (List AV)) (hb:els.length * bytes≤140737488355328) (hl:els.length≤maxLen) (hs:∀ e∈els,e.length=size) (hf:∀ e∈els,GC e=true):
  CP P (ρ.f 41) [.sl none size els] (.sl (some (ρ.t 23)) size els):=by
 intro W U vs hG hlen hv
 obtain ⟨v,rfl⟩:∃ v,vs=[v]:=by
  match vs,hlen with
  | [v],_=>exact ⟨v,rfl⟩
 have h:=hv 0 v _ rfl rfl
 have hget:∀ (i j:Nat) (l:List AV) (c:AV) (u:Value),els[i]?=some l→l[j]?=some c→(els.flatMap Dk)[i * size+j]?=some u→∀ W U,VR W U u c:=by
  intro i j l c u hl' hc hu W2 U2
  have hi':i<els.length:=(AM.1 hl').1
  have hm:l∈els:=Dd hl'
  have hj:j<size:=by rw[← hs l hm];exact (AM.1 hc).1
  rw[Nm els i j hs hi' hj]at hu
  have e:els.getD i []=l:=by simp[List.getD,hl']
  rw[e]at hu
  exact (Ma l (hf l hm) j c u hc hu).1 W2 U2
 have hone:∀ u∈els.flatMap Dk,u.oneCell'=true:=by
  intro u hu
  obtain ⟨e,he,h2⟩:=List.mem_flatMap.1 hu
  exact ZK (hf e he) u h2
 have fin:∀ (W':World) (v':Value),RowKit.Below W.heap.size W W'→W'.ownsRow W.heap.size (ρ.t 23) size v' els.length (els.flatMap Dk)→
   ∃ v U',Ending.returned v'=.returned v∧VR W' U' v (.sl (some (ρ.t 23)) size els)∧Own1 W' U' (W.heap.size ≤ ·) v (.sl (some (ρ.t 23)) size els)∧Ext W U W' U':=by
  intro W' v' hbl hrow
  obtain ⟨U',r1,r2,r3⟩:=TE (U:=U) (e:=ρ.t 23) (k:=size) (els:=els) hsz hbl hrow rfl hs hone hget
  exact ⟨v',U',rfl,r1,r2,r3⟩
 cases h with
 | sl A cap own _ b o _ f hcap hmax hA _ hc hvv=>
  rcases Gv els.length with h0|h0
  ·obtain rfl:els=[]:=Dn h0
   cases A with
   | none=>
    refine (AnyE.slices_Clone_nil L 0 cap W).mono ?_
    rintro e W' ⟨rfl,rfl⟩
    exact fin _ _ (RowKit.Below.refl _ _) ⟨by simp,.inl ⟨rfl,rfl⟩⟩
   | some a=>
    refine (WI L i0 z size bytes hi hz0 hz1 hz2 hzs hsz z23 a cap W).mono ?_
    rintro e W' ⟨v',rfl,hrow,hbl⟩
    exact fin W' v' hbl (by simpa using hrow)
  ·obtain rfl:=hA h0
   refine (AnyE.slices_Clone L i0 z size bytes hi hz0 hz1 hz2 hzs hsz z23 b o els.length cap (els.flatMap Dk) W (Nn els hs) hl hb (fun t u hu=>?_) hone).mono ?_
   ·have ht:t<els.length * size:=by rw[← Nn els hs];exact (AM.1 hu).1
    have hi':t / size<els.length:=(G7 hsz).2 ht
    have hj:t % size<size:=EE _ hsz
    have e:t / size * size+t % size=t:=by rw[EF];exact F6 t size
    obtain ⟨c1,_,_⟩:=hc (t / size) (t % size) hi' hj
    have hm:els.getD (t / size) []∈els:=by rw[List.getD,Aw hi',Cp];exact Di hi'
    have hle:=hs _ hm
    have hc2:=Aw (l:=els.getD (t / size) []) (i:=t % size) (by rw[hle];exact hj)
    have hvr:=hvv (t / size) _ (t % size) _ (by rw[List.getD,Aw hi',Cp]) hc2
    have hu2:=Nm els (t / size) (t % size) hs hi' hj
    rw[e,hu]at hu2
    have:=(Ma _ (hf _ hm) (t % size) _ u hc2 hu2.symm).2.1 W U _ hvr
    rw[show o+t=o+t / size * size+t % size by omega,c1,this]
   ·rintro e W' ⟨v',rfl,hrow,_,hbl⟩
    exact fin W' v' hbl hrow
end
end
section
open Go.RowKit Go.Shelf Go.Sort Go.Lib
section
variable {P:Program} {ρ:Ren}
end
def AX(L:List PrP):List (List AV):=L.map D9
theorem Df(L:List PrP):(AX L).length=L.length:=by simp[AX]
theorem Dw(L:List PrP)(i:Nat)(h:i<L.length):(AX L).getD i []=D9 (L.getD i default):=by simp[AX,h]
theorem a8I(s p:List UInt8):CP Tryz.prog 162 [.str s,.str p] (.bool (Lib.hasPrefix s p)):=
 MQ (vs:=[.string ⟨s.toArray⟩,.string ⟨p.toArray⟩]) (v:=.bool (Lib.hasPrefix s p)) rfl (by simp) rfl fun W=>
  (Tryz.strings_HasPrefix ⟨s.toArray⟩ ⟨p.toArray⟩ W).mono fun e w' ⟨h1,h2⟩=>⟨h1,h2▸Below.refl _ _⟩
end
section
open Go.RowKit
theorem below_grow{W:World}{n:Nat}{os:Array Obj}:Below W.heap.size W (Sort.grow (W.drewN n) os):=
 ⟨rfl,rfl,rfl,by simp[Sort.grow,World.drewN],fun k hk=>by simp[Sort.grow,World.drewN,Array.getElem?_append,hk]⟩
theorem b0r{W:World}{U:Nat→Nat→Prop}(h:Glob W U):Lib.TabIs Tryz.prog W "internal/strconv.uint64pow10" .u64 Lib.pow10Tab:=by
 obtain ⟨⟨cs,ty,fr,e,rfl⟩,_⟩:=h (2,fun cs=>cs=(Lib.pow10Tab.map fun z=>Value.int .u64 z).toArray) (by simp[Kn])
 have hg:Tryz.prog.globalNamed "internal/strconv.uint64pow10" = some 2:=by kernel_rfl
 simp only[Lib.TabIs,World.var?,hg,CY,e]
theorem Zf(n:Int)(h : -9223372036854775808≤n∧n≤9223372036854775807):CP Tryz.prog 112 [.int .i64 n] (.str (Lib.itoa n)):=
 Ue (vs:=[.int .i64 n]) (v:=.string ⟨(Lib.itoa n).toArray⟩) rfl (by simp) rfl fun W U hG=>
  (Tryz.strconv_Itoa n h.1 h.2 W (b0r hG)).mono fun e w' ⟨h1,k,os,h2⟩=>⟨h1,h2▸below_grow⟩
end
section
theorem JO(s:List UInt8):(s=([]:List UInt8))=(s.length=0):=by simp[K4]
theorem GW{A B:Prop}(h:B)(e:A=B:=by (simp (disch:=omega) only[*, ↓Ed,Eu, ↓reduceIte,reduceCtorEq,Nat.reduceAdd,Nat.reduceEqDiff,Nat.reduceLT,Nat.reduceLeDiff,Int.reduceToNat,Int.reduceEq,Int.reduceLT,Int.reduceLE,Ap,JO];first|done|rfl)):A:=e▸h
theorem a8R(s:List UInt8)(hs:s.length≤4611686018427387904):CP Tryz.prog 168 [.str s] (.bool (Gm s)):=by
 refine a7g _ _ (by simp) ?_
 simp only[VY];refine GW ?_
 repeat' ((first|exact tt|refine na fun b=>?_|refine nb fun b hb=>?_|refine iq ?_|(refine jq ?_ ?_<;>intro h h')|exact wZ|refine Aa ?_ ?_)<;>try refine GW ?_)
 refine A2 (fun k:Nat=>⟨lk [(0,.str s),(7,.int .i64 s.length),(8,.int .i64 k)],lk []⟩) (fun k=>k≤s.length∧Ac (∀ j,j<k→Fx s j)) (fun k=>s.length - k) 0 ⟨by omega,fun j h=>by omega⟩ (An BA) ?_
 intro k ⟨h1,h2⟩
 refine GW ?_
 repeat' ((first|exact tt|refine na fun b=>?_|refine nb fun b hb=>?_|refine iq ?_|(refine jq ?_ ?_<;>intro h h')|exact wZ|refine Aa ?_ ?_)<;>try refine GW ?_)
 all_goals simp only[Ac,Hn,JO]at *
 all_goals first
  | (refine AC (k+1) ⟨An BA,⟨by omega,Yy h2 (by unfold Fx;omega)⟩,by omega⟩;done)
  | (refine Yw (k:=k) (by omega) (by unfold Fx;omega);done)
  | (exact (PD fun g=>g.1 (Dn (by omega))).symm)
  | (rw[Yx (by omega) h2,decide_eq_decide];omega)
  | skip
theorem KD(p:List UInt8)(c:Int)(hs:p.length≤4611686018427387904):CP Tryz.prog 111 [.agg [.str p,.int .i64 c]] (.bool (Ba p c)):=by
 refine a7f _ _ (by simp) ?_
 simp only[VX];refine GW ?_
 repeat' ((first|exact tt|refine Ab (a8R p hs) ?_|refine na fun b=>?_|refine nb fun b hb=>?_|refine iq ?_|(refine jq ?_ ?_<;>intro h h')|exact wZ|refine Aa ?_ ?_)<;>try refine GW ?_)
 all_goals (try simp only[Ac,Hn]at *)
 all_goals simp[Ba, *]
theorem a9W(s:List UInt8)(hs:s.length≤4611686018427387904):CP Tryz.prog 109 [.str s] (.bool (Gm s)):=by
 refine a6I _ _ (by simp) ?_
 simp only[VC];refine GW ?_
 repeat' ((first|exact tt|refine na fun b=>?_|refine nb fun b hb=>?_|refine iq ?_|(refine jq ?_ ?_<;>intro h h')|exact wZ|refine Aa ?_ ?_)<;>try refine GW ?_)
 case' refine_2.refine_2.refine_2.refine_2=>
  refine A2 (fun k:Nat=>⟨lk [(0,.str s),(3,.int .i64 k)],lk []⟩) (fun k=>k≤s.length∧Ac (∀ j,j<k→Fx s j)) (fun k=>s.length - k) 0 ⟨by omega,fun j h=>by omega⟩ (An BA) ?_
  intro k ⟨h1,h2⟩
  have h97:k=0→97≤(s.getD k 0).toNat∧(s.getD k 0).toNat≤122:=fun e=>by subst e;simp only[Ac,Hn]at *;exact ⟨by omega,by omega⟩
  refine GW ?_
  repeat' ((first|exact tt|refine na fun b=>?_|refine nb fun b hb=>?_|refine iq ?_|(refine jq ?_ ?_<;>intro h h')|exact wZ|refine Aa ?_ ?_)<;>try refine GW ?_)
 all_goals simp only[Ac,Hn]at *
 all_goals first
  | (refine AC (k+1) ⟨An BA,⟨by omega,Yy h2 (by unfold Fx;omega)⟩,by omega⟩;done)
  | (refine Yw (k:=k) (by omega) (by unfold Fx;omega);done)
  | (rw[Yx (k:=k) (by omega) h2];exact (AO ⟨by omega,by omega⟩).symm)
  | (exact (PD fun g=>by have:=g.2.1;have:=g.2.2 0 (by omega);unfold Fx at this;omega).symm)
  | (refine (PD fun g=>?_).symm;have h0:=List.length_pos_iff.2 g.1;omega)
  | skip
theorem KC(p:List UInt8)(c:Int)(hs:p.length≤4611686018427387904):CP Tryz.prog 50 [.agg [.str p,.int .i64 c]] (.bool (Ba p c)):=by
 refine a6F _ _ (by simp) ?_
 simp only[VB];refine GW ?_
 repeat' ((first|exact tt|refine Ab (a9W p hs) ?_|refine na fun b=>?_|refine nb fun b hb=>?_|refine iq ?_|(refine jq ?_ ?_<;>intro h h')|exact wZ|refine Aa ?_ ?_)<;>try refine GW ?_)
 all_goals (try simp only[Ac,Hn]at *)
 all_goals simp[Ba, *]
end
section
open Go
def Kq(c:UInt8):Prop:=48≤c.toNat∧c.toNat≤57
instance (c:UInt8):Decidable (Kq c):=by unfold Kq;exact inferInstance
def Oa(s:List UInt8):Nat:=s.foldl (fun v c=>10 * v+(c.toNat - 48)) 0
def YB(s:List UInt8):Prop:=(∀ c∈s,Kq c)∧¬ (1<s.length∧s.getD 0 0=48)
instance (s:List UInt8):Decidable (YB s):=by unfold YB;exact inferInstance
abbrev EI(n:Nat):List UInt8:=Lib.decDigits n
theorem dig_lo{n:Nat}(h:n<10):EI n=[UInt8.ofNat (48+n)]:=by rw[EI,Lib.decDigits,dif_pos h]
theorem dig_hi{n:Nat}(h:¬ n<10):EI n=EI (n / 10)++[UInt8.ofNat (48+n % 10)]:=by rw[EI,Lib.decDigits,dif_neg h]
theorem N7{n:Nat}(h:n<256):(UInt8.ofNat n).toNat=n:=by rw[UInt8.toNat_ofNat'];omega
theorem a3c:∀ (n:Nat), ∀ c∈EI n,Kq c:=by
 intro n
 induction n using Nat.strongRecOn with
 | _ n ih=>
  intro c hc
  by_cases h:n<10
  ·rw[dig_lo h]at hc
   simp only[G6]at hc
   subst hc
   unfold Kq
   rw[N7 (by omega)];omega
  ·rw[dig_hi h]at hc
   rcases Bv.1 hc with hc|hc
   ·exact ih (n / 10) (by omega) c hc
   ·simp only[G6]at hc
    subst hc
    unfold Kq
    rw[N7 (by omega)];omega
theorem b3M(s:List UInt8)(c:UInt8):Oa (s++[c])=10 * Oa s+(c.toNat - 48):=by simp[Oa,List.foldl_append]
theorem WV(n:Nat):Oa (EI n)=n:=by
 induction n using Nat.strongRecOn with
 | _ n ih=>
  by_cases h:n<10
  ·rw[dig_lo h]
   simp only[Oa,List.foldl_cons,List.foldl_nil]
   rw[N7 (by omega)];omega
  ·rw[dig_hi h,b3M,ih (n / 10) (by omega),N7 (by omega)];omega
theorem a3e(n:Nat):EI n≠[]:=by
 by_cases h:n<10
 ·rw[dig_lo h];simp
 ·rw[dig_hi h];simp
theorem OU:∀ (k n:Nat),n<10 ^ (k+1)→(EI n).length≤k+1
 | 0,n,h=>by rw[dig_lo (by omega)];simp
 | k+1,n,h=>by
  by_cases hn:n<10
  ·rw[dig_lo hn];simp
  ·rw[dig_hi hn]
   have:=OU k (n / 10) (by rw[F8]at h;omega)
   simp only[Ao,AJ,AY];omega
theorem a3d{a b:Nat}(h:EI a=EI b):a=b:=by rw[← WV a, ← WV b,h]
end
section
open Go.RowKit
theorem Pu:1000000≤maxLen:=by unfold maxLen;decide
abbrev Q3(l:List UInt8):List (List AV):=l.map Bh
theorem a0U{A B:Prop}(h:B)(e:A=B:=by (simp (disch:=omega) only[*, ↓Ed,Eu, ↓reduceIte,reduceCtorEq,Nat.reduceAdd,Nat.reduceEqDiff,Nat.reduceLT,Nat.reduceLeDiff,Int.reduceToNat,Int.reduceEq,Int.reduceLT,Int.reduceLE,Ap,JO,Ao,Nat.reduceMul];first|done|rfl)):A:=e▸h
theorem a9m(n:Int):CP Tryz.prog 113 [.int .i64 n] (.bool (decide (1≤n)&&decide (n≤3))):=by
 refine a7h _ _ (by simp) ?_
 simp only[VZ];refine a0U ?_
 repeat' ((first|exact tt|refine na fun b=>?_|refine nb fun b hb=>?_|refine iq ?_|(refine jq ?_ ?_<;>intro h h')|exact wZ|refine Aa ?_ ?_)<;>try refine a0U ?_)
 all_goals (try simp only[Ac,Hn]at *)
 all_goals simp_all
 all_goals omega
end
section
open Go
abbrev HR:List UInt8:=[99,104,97,110,110,101,108,45]
abbrev HA:List UInt8:=[112,111,114,116,115]
abbrev Hd:List UInt8:=[99,104,97,110,110,101,108,115]
abbrev Mm:List UInt8:=[115,101,113,117,101,110,99,101,115]
def Da(k:Int):List UInt8:=
 if k=1 then [99,111,109,109,105,116,109,101,110,116,115] else if k=2 then [114,101,99,101,105,112,116,115] else if k=3 then [97,99,107,115] else if k=4 then [110,101,120,116,83,101,113,117,101,110,99,101,83,101,110,100] else if k=5 then [110,101,120,116,83,101,113,117,101,110,99,101,82,101,99,118] else if k=6 then [110,101,120,116,83,101,113,117,101,110,99,101,65,99,107] else if k=7 then [99,104,97,110,110,101,108,69,110,100,115] else []
theorem Ua{k:Int}(h:k<1∨7<k):Da k=[]:=by
 unfold Da
 repeat rw[Ad (by omega)]
theorem a1D{k:Int}(h:1≤k∧k≤7):Da k≠[]:=by
 obtain rfl|rfl|rfl|rfl|rfl|rfl|rfl:k=1∨k=2∨k=3∨k=4∨k=5∨k=6∨k=7:=by omega
 all_goals simp[Da]
theorem b3U{k j:Int}(h:1≤k∧k≤7)(g:1≤j∧j≤7)(e:Da k=Da j):k=j:=by
 obtain rfl|rfl|rfl|rfl|rfl|rfl|rfl:k=1∨k=2∨k=3∨k=4∨k=5∨k=6∨k=7:=by omega
 all_goals
  obtain rfl|rfl|rfl|rfl|rfl|rfl|rfl:j=1∨j=2∨j=3∨j=4∨j=5∨j=6∨j=7:=by omega
  all_goals first|rfl|(simp[Da]at e)
theorem T9(k:Int):(Da k).length≤16:=by
 unfold Da
 repeat' split
 all_goals decide
theorem QE(k:Int):47 ∉ Da k:=by
 unfold Da
 repeat' split
 all_goals decide
theorem LK{n:Int}(h:0≤n):Lib.itoa n=EI n.toNat:=by unfold Lib.itoa;rw[Ad (by omega)]
def Iu(k:Int)(p:List UInt8)(c:Int):List UInt8:=Da k++[47]++HA++[47]++p++[47]++Hd++[47]++HR++Lib.itoa c
noncomputable def Ah (k:Int) (p:List UInt8) (c q:Int):List UInt8:=
 if Da k=[]∨¬ Ba p c=true then [] else if 1≤k∧k≤3 then if 1≤q∧q≤1099511627776 then Iu k p c++[47]++Mm++[47]++Lib.itoa q else [] else if q=0 then Iu k p c else []
theorem Px{p:List UInt8}{c:Int}(h:Ba p c=true):p.length≤12∧0≤c∧c≤999∧Hu p:=by
 simp only[Ba,AP,Bs,Yv]at h
 exact ⟨h.1.1.2.1,h.1.2,h.2,h.1.1⟩
theorem OW{c:Int}(h:0≤c∧c≤999):(Lib.itoa c).length≤3:=by rw[LK h.1];exact OU 2 _ (by omega)
theorem RN{c:Int}(h:0≤c∧c≤1099511627776):(Lib.itoa c).length≤13:=by rw[LK h.1];exact OU 12 _ (by omega)
end
end Go.Proofs.YtfgihnhoocnmdaaGreatDoor
