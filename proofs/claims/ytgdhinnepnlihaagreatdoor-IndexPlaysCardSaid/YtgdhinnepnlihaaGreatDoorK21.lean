import Derived.Test.YtgdhinnepnlihaaGreatDoorK17
import Derived.Test.YtgdhinnepnlihaaGreatDoorK19
import Derived.Test.YtgdhinnepnlihaaGreatDoorK12
import Derived.Test.YtgdhinnepnlihaaGreatDoorK20
import Derived.Test.YtgdhinnepnlihaaGreatDoorK11
import Derived.Test.YtgdhinnepnlihaaGreatDoorK5
namespace Go.Proofs.YtgdhinnepnlihaaGreatDoor
set_option linter.all false
set_option maxHeartbeats 9000000
section
open Go.RowKit
set_option maxRecDepth 100000
theorem sxLfa{A B:Prop}(h:B)(e:A=B:=by (simp (disch:=omega) only[*, ↓Ed,Eu, ↓reduceIte,reduceCtorEq,Nat.reduceAdd,Nat.reduceEqDiff,Nat.reduceLT,Nat.reduceLeDiff,Int.reduceToNat,Int.reduceEq,Int.reduceLT,Int.reduceLE,w64,List.length_append,List.length_map,Nat.mul_one,beq_self_eq_true,PktC.cs,EvC.cs,EntC.cs,KeyC.cs,a0h,b1i,b4Z,b4Y,Int.reduceAdd];first|done|rfl)):A:=e▸h
theorem b9u:CT Tryz.prog 68 [] (lk []) (c0J [mpK []] [mpC []]):=by
 refine b0L _ _ _ (by simp) ?_
 simp only[a8U];refine sxLfa ?_
 repeat' ((first|exact tt|refine na fun b=>?_|refine nb fun b hb=>?_|refine iq ?_|(refine jq ?_ ?_<;>intro h h')|refine Two_intro ?_ ?_|exact wZ|fail)<;>try refine sxLfa ?_)
 rename_i M N HN
 exact ro_new3 b M N (by simp[LeL,lk,hb,HN,a0z,arR,tk,tv]) (by simp[hb,Hn];exact HN.2)
theorem b0S(b:Nat)(k:Int):CP Tryz.prog 136 [.ptr b 0,.int .i64 k] (.ptr b (a7m k)):=by
 refine a5X _ _ (by simp) ?_
 have h:(a0a (decide (k=1)=true)∧a7m k=9)∨(a0a (decide (k=1)=false)∧a0a (decide (k=2)=true)∧a7m k=10)∨(a0a (decide (k=1)=false)∧a0a (decide (k=2)=false)∧a0a (decide (k=3)=true)∧a7m k=11)∨
   (a0a (decide (k=1)=false)∧a0a (decide (k=2)=false)∧a0a (decide (k=3)=false)∧a0a (decide (k=4)=true)∧a7m k=12)∨(a0a (decide (k=1)=false)∧a0a (decide (k=2)=false)∧a0a (decide (k=3)=false)∧a0a (decide (k=4)=false)∧a7m k=13):=by
  unfold a7m
  simp only[a0a,decide_eq_true_eq,decide_eq_false_iff_not]
  by_cases h1:k=1
  ·exact .inl ⟨h1,if_pos h1⟩
  by_cases h2:k=2
  ·exact .inr (.inl ⟨h1,h2,by rw[if_neg h1,if_pos h2]⟩)
  by_cases h3:k=3
  ·exact .inr (.inr (.inl ⟨h1,h2,h3,by rw[if_neg h1,if_neg h2,if_pos h3]⟩))
  by_cases h4:k=4
  ·exact .inr (.inr (.inr (.inl ⟨h1,h2,h3,h4,by rw[if_neg h1,if_neg h2,if_neg h3,if_pos h4]⟩)))
  ·exact .inr (.inr (.inr (.inr ⟨h1,h2,h3,h4,by rw[if_neg h1,if_neg h2,if_neg h3,if_neg h4]⟩)))
 rcases h with ⟨f1,h⟩ | ⟨f1,f2,h⟩ | ⟨f1,f2,f3,h⟩ | ⟨f1,f2,f3,f4,h⟩ | ⟨f1,f2,f3,f4,h⟩
 all_goals rw[h]
 all_goals clear h
 all_goals (simp only[a3o];refine sxLfa ?_;try exact tt)
 all_goals repeat' ((first|exact tt|refine na fun b=>?_|refine nb fun b hb=>?_|refine iq ?_|(refine jq ?_ ?_<;>intro h h')|refine Two_intro ?_ ?_|exact wZ|fail)<;>try refine sxLfa ?_)
theorem b0T(k:Int):CP Tryz.prog 135 [.int .i64 k] (.bool (b0N k)):=by
 refine b1n _ _ (by simp) ?_
 unfold b0N
 by_cases h:k=1∨k=4∨k=5
 ·rw[decide_eq_true h]
  have F:a0a (k=1∨k=4∨k=5):=h
  clear h
  simp only[a6s];refine sxLfa ?_
  repeat' ((first|exact tt|refine na fun b=>?_|refine nb fun b hb=>?_|refine iq ?_|(refine jq ?_ ?_<;>intro h h')|refine Two_intro ?_ ?_|exact wZ|fail)<;>try refine sxLfa ?_)
  all_goals (simp only[a0a,Hn]at *;omega)
 ·rw[decide_eq_false h]
  have F:a0a (¬ (k=1∨k=4∨k=5)):=h
  clear h
  simp only[a6s];refine sxLfa ?_
  repeat' ((first|exact tt|refine na fun b=>?_|refine nb fun b hb=>?_|refine iq ?_|(refine jq ?_ ?_<;>intro h h')|refine Two_intro ?_ ?_|exact wZ|fail)<;>try refine sxLfa ?_)
  all_goals (simp only[a0a,Hn]at *;omega)
theorem en0:(default:EntC)=⟨⟨[],0,[],0,0,[],0,0⟩,[],false,false,false,false,false⟩:=rfl
theorem b9t(c m n:Nat)(hh:(¬ c=m∧¬ m=c)∧(¬ c=n∧¬ n=c)∧¬ m=n∧¬ n=m)(t:Tb)(k:KeyC):CT Tryz.prog 23 [.ptr c 0,.agg k.cs] (lk (b0f c m n t)) (fun r o=>r=.tup [.agg ((a0O t.K k).getD default).cs,.bool (a0O t.K k).isSome]∧o=lk (b0f c m n t)):=by
 refine a6e _ _ _ (by simp) ?_
 cases hs:a0O t.K k with
 | none=>
  have hf:=lookK_none hs
  clear hs
  simp only[a2y];refine sxLfa ?_
  repeat' ((first|exact tt|refine na fun b=>?_|refine nb fun b hb=>?_|refine iq ?_|(refine jq ?_ ?_<;>intro h h')|refine Two_intro ?_ ?_|exact wZ|fail)<;>try refine sxLfa ?_)
  rename_i B1 H1 B2 H2
  exact ro_mk (by simp[LeL,lk,hh,hb,H1,H2,r_two,rl_cons,rl_nil,arR,view,l_all,al_agg,al_bool,en0]) dom3
 | some x=>
  obtain ⟨i,hi,hf,hg,_⟩:=lookK_some hs
  clear hs
  simp only[a2y];refine sxLfa ?_
  repeat' ((first|exact tt|refine na fun b=>?_|refine nb fun b hb=>?_|refine iq ?_|(refine jq ?_ ?_<;>intro h h')|refine Two_intro ?_ ?_|exact wZ|fail)<;>try refine sxLfa ?_)
  rename_i B1 H1 B2 H2
  exact ro_mk (by simp[LeL,lk,hh,hb,H1,H2,r_two,rl_cons,rl_nil,arR,view,l_all,al_agg,al_bool]) dom3
set_option maxHeartbeats 4000000 in
theorem b9w(c m n:Nat)(hh:(¬ c=m∧¬ m=c)∧(¬ c=n∧¬ n=c)∧¬ m=n∧¬ n=m)(t:Tb)(e:List UInt8)(ec:Int):CT Tryz.prog 134 [.ptr c 0,.agg [.str e,.int .i64 ec]] (lk (b0f c m n t))
  (fun r o=>r=.int .i64 (if ((e,ec):a1D)∈t.C then 8 else 0)∧o=lk (b0f c m n (if ((e,ec):a1D)∈t.C then t else ⟨t.K,t.C++[(e,ec)]⟩))):=by
 refine a5y _ _ _ (by simp) ?_
 by_cases hs:((e,ec):a1D)∈t.C
 ·obtain ⟨i,hi,hf,hg⟩:=lookC_in hs
  rw[if_pos hs,if_pos hs]
  simp only[b1N]at hf
  clear hs
  simp only[a2m];refine sxLfa ?_
  repeat' ((first|exact tt|refine na fun b=>?_|refine nb fun b hb=>?_|refine iq ?_|(refine jq ?_ ?_<;>intro h h')|refine Two_intro ?_ ?_|exact wZ|fail)<;>try refine sxLfa ?_)
  all_goals exact ro_mk (by simp[LeL,lk,hh,a0z,arR]) dom3
 ·have hf:=lookC_no hs
  have hf2:=findM_snoc [.s,.i] true b1N b1g ((e,ec):a1D) t.C hs
  rw[if_neg hs,if_neg hs]
  simp only[b1N]at hf hf2
  clear hs
  simp only[a2m];refine sxLfa ?_
  repeat' ((first|exact tt|refine na fun b=>?_|refine nb fun b hb=>?_|refine iq ?_|(refine jq ?_ ?_<;>intro h h')|refine Two_intro ?_ ?_|exact wZ|fail)<;>try refine sxLfa ?_)
  all_goals exact ro_mk (by simp[LeL,lk,hh,a0z,arR,b4e,b1N]) dom3
end
section
open Go.RowKit
set_option maxRecDepth 100000
theorem sxLfc{A B:Prop}(h:B)(e:A=B:=by (simp (disch:=omega) only[*, ↓Ed,Eu, ↓reduceIte,reduceCtorEq,Nat.reduceAdd,Nat.reduceEqDiff,Nat.reduceLT,Nat.reduceLeDiff,Int.reduceToNat,Int.reduceEq,Int.reduceLT,Int.reduceLE,w64,List.length_append,List.length_map,Nat.mul_one,beq_self_eq_true,PktC.cs,EvC.cs,EntC.cs,KeyC.cs,a0h,Int.reduceAdd];first|done|rfl)):A:=e▸h
theorem b1u(a b:a1D):CP Tryz.prog 103 [.agg [.str a.1,.int .i64 a.2],.agg [.str b.1,.int .i64 b.2]] (.bool (a0E a b)):=by
 refine a5Y _ _ (by simp) ?_
 unfold a0E
 cases h1:Op.bytesLess a.1 b.1<;>cases h2:decide (a.1=b.1)<;>cases h3:decide (a.2<b.2)
 all_goals (simp only[a3q];refine sxLfc ?_;try exact tt)
 all_goals repeat' ((first|exact tt|refine na fun b=>?_|refine nb fun b hb=>?_|refine iq ?_|(refine jq ?_ ?_<;>intro h h')|refine Two_intro ?_ ?_|exact wZ|fail)<;>try refine sxLfc ?_)
 all_goals rfl
theorem b6H(a b:KeyC):(decide (a.e=b.e)&&decide (a.ec=b.ec))=decide (a.en=b.en):=by simp[KeyC.en]
theorem b3P(a b:KeyC):CP Tryz.prog 250 [.agg a.cs,.agg b.cs] (.bool (a0t a b)):=by
 have hE:=b1u a.en b.en
 refine a5t _ _ (by simp) ?_
 simp only[KeyC.en]at hE
 have hk:=b6H a b
 by_cases he:a.en=b.en
 ·have e1:a0E (a.e,a.ec) (b.e,b.ec)=false:=by
   rw[show ((a.e,a.ec):a1D)=(b.e,b.ec) from he];exact endSTO.irr _
  rw[decide_eq_true he]at hk
  by_cases ho:a.o=b.o
  ·have hr:a0t a b=decide (a.q<b.q):=by
    unfold a0t
    rw[decide_eq_true he,decide_eq_true ho,show a0E a.en b.en=false from e1,ho]
    cases b.o<;>simp
   rw[hr]
   have hob:decide (a.o=b.o)=true:=decide_eq_true ho
   clear he ho hr e1
   simp only[a1u];refine sxLfc ?_
   repeat' ((first|exact tt|refine CallO_pure (hE) ?_|refine na fun b=>?_|refine nb fun b hb=>?_|refine iq ?_|(refine jq ?_ ?_<;>intro h h')|refine Two_intro ?_ ?_|exact wZ|fail)<;>try refine sxLfc ?_)
  ·have hr:a0t a b=b.o:=by
    unfold a0t
    rw[decide_eq_true he,decide_eq_false ho,show a0E a.en b.en=false from e1]
    cases ha:a.o<;>cases hb:b.o<;>simp_all
   rw[hr]
   have hob:decide (a.o=b.o)=false:=decide_eq_false ho
   clear he ho hr e1
   simp only[a1u];refine sxLfc ?_
   repeat' ((first|exact tt|refine CallO_pure (hE) ?_|refine na fun b=>?_|refine nb fun b hb=>?_|refine iq ?_|(refine jq ?_ ?_<;>intro h h')|refine Two_intro ?_ ?_|exact wZ|fail)<;>try refine sxLfc ?_)
 ·have hr:a0t a b=a0E (a.e,a.ec) (b.e,b.ec):=by
   unfold a0t
   rw[decide_eq_false he]
   simp[KeyC.en]
  rw[decide_eq_false he]at hk
  rw[hr]
  clear he hr
  simp only[a1u];refine sxLfc ?_
  repeat' ((first|exact tt|refine CallO_pure (hE) ?_|refine na fun b=>?_|refine nb fun b hb=>?_|refine iq ?_|(refine jq ?_ ?_<;>intro h h')|refine Two_intro ?_ ?_|exact wZ|fail)<;>try refine sxLfc ?_)
theorem k5(k:Int):(k=1∧a0a (decide (k=1)=true))∨(k=2∧a0a (decide (k=1)=false)∧a0a (decide (k=2)=true))∨(k=3∧a0a (decide (k=1)=false)∧a0a (decide (k=2)=false)∧a0a (decide (k=3)=true))∨
  (k=4∧a0a (decide (k=1)=false)∧a0a (decide (k=2)=false)∧a0a (decide (k=3)=false)∧a0a (decide (k=4)=true))∨((k≠1∧k≠2∧k≠3∧k≠4)∧a0a (decide (k=1)=false)∧a0a (decide (k=2)=false)∧a0a (decide (k=3)=false)∧a0a (decide (k=4)=false)):=by
 simp only[a0a,decide_eq_true_eq,decide_eq_false_iff_not]
 omega
theorem b2h(x:EntC)(k:Int):CP Tryz.prog 202 [.agg x.cs,.int .i64 k] (.bool (marked x k)):=by
 refine a6c _ _ (by simp) ?_
 rcases k5 k with ⟨h,f1⟩ | ⟨h,f1,f2⟩ | ⟨h,f1,f2,f3⟩ | ⟨h,f1,f2,f3,f4⟩ | ⟨⟨h1,h2,h3,h4⟩,f1,f2,f3,f4⟩
 ·rw[show marked x k=x.s from if_pos h];clear h
  simp only[a0S];refine sxLfc ?_
  repeat' ((first|exact tt|refine na fun b=>?_|refine nb fun b hb=>?_|refine iq ?_|(refine jq ?_ ?_<;>intro h h')|refine Two_intro ?_ ?_|exact wZ|fail)<;>try refine sxLfc ?_)
 ·rw[show marked x k=x.r by simp[marked,h]];clear h
  simp only[a0S];refine sxLfc ?_
  repeat' ((first|exact tt|refine na fun b=>?_|refine nb fun b hb=>?_|refine iq ?_|(refine jq ?_ ?_<;>intro h h')|refine Two_intro ?_ ?_|exact wZ|fail)<;>try refine sxLfc ?_)
 ·rw[show marked x k=x.w by simp[marked,h]];clear h
  simp only[a0S];refine sxLfc ?_
  repeat' ((first|exact tt|refine na fun b=>?_|refine nb fun b hb=>?_|refine iq ?_|(refine jq ?_ ?_<;>intro h h')|refine Two_intro ?_ ?_|exact wZ|fail)<;>try refine sxLfc ?_)
 ·rw[show marked x k=x.c by simp[marked,h]];clear h
  simp only[a0S];refine sxLfc ?_
  repeat' ((first|exact tt|refine na fun b=>?_|refine nb fun b hb=>?_|refine iq ?_|(refine jq ?_ ?_<;>intro h h')|refine Two_intro ?_ ?_|exact wZ|fail)<;>try refine sxLfc ?_)
 ·rw[show marked x k=x.t by simp[marked,h1,h2,h3,h4]];clear h1 h2 h3 h4
  simp only[a0S];refine sxLfc ?_
  repeat' ((first|exact tt|refine na fun b=>?_|refine nb fun b hb=>?_|refine iq ?_|(refine jq ?_ ?_<;>intro h h')|refine Two_intro ?_ ?_|exact wZ|fail)<;>try refine sxLfc ?_)
theorem b3X(x:EntC)(e:EvC):CP Tryz.prog 201 [.agg x.cs,.agg e.cs] (.agg (a0R x e).cs):=by
 refine a7q _ _ (by simp) ?_
 rcases k5 e.k with ⟨h,f1⟩ | ⟨h,f1,f2⟩ | ⟨h,f1,f2,f3⟩ | ⟨h,f1,f2,f3,f4⟩ | ⟨⟨h1,h2,h3,h4⟩,f1,f2,f3,f4⟩
 ·rw[show a0R x e={ x with s:=true } by simp[a0R,h]];clear h
  simp only[a1d];refine sxLfc ?_
  repeat' ((first|exact tt|refine na fun b=>?_|refine nb fun b hb=>?_|refine iq ?_|(refine jq ?_ ?_<;>intro h h')|refine Two_intro ?_ ?_|exact wZ|fail)<;>try refine sxLfc ?_)
 ·rw[show a0R x e={ x with r:=true } by simp[a0R,h]];clear h
  simp only[a1d];refine sxLfc ?_
  repeat' ((first|exact tt|refine na fun b=>?_|refine nb fun b hb=>?_|refine iq ?_|(refine jq ?_ ?_<;>intro h h')|refine Two_intro ?_ ?_|exact wZ|fail)<;>try refine sxLfc ?_)
 ·rw[show a0R x e={ x with w:=true,a:=e.a } by simp[a0R,h]];clear h
  simp only[a1d];refine sxLfc ?_
  repeat' ((first|exact tt|refine na fun b=>?_|refine nb fun b hb=>?_|refine iq ?_|(refine jq ?_ ?_<;>intro h h')|refine Two_intro ?_ ?_|exact wZ|fail)<;>try refine sxLfc ?_)
 ·rw[show a0R x e={ x with c:=true } by simp[a0R,h]];clear h
  simp only[a1d];refine sxLfc ?_
  repeat' ((first|exact tt|refine na fun b=>?_|refine nb fun b hb=>?_|refine iq ?_|(refine jq ?_ ?_<;>intro h h')|refine Two_intro ?_ ?_|exact wZ|fail)<;>try refine sxLfc ?_)
 ·rw[show a0R x e={ x with t:=true } by simp[a0R,h1,h2,h3,h4]];clear h1 h2 h3 h4
  simp only[a1d];refine sxLfc ?_
  repeat' ((first|exact tt|refine na fun b=>?_|refine nb fun b hb=>?_|refine iq ?_|(refine jq ?_ ?_<;>intro h h')|refine Two_intro ?_ ?_|exact wZ|fail)<;>try refine sxLfc ?_)
end
section
open Go.RowKit
structure RowT {α:Type} (f:α→List AV) (sz:Nat):Prop where
 len:∀ x,(f x).length=sz
 no:∀ x, ∀ c∈f x,(∀ t k l,c ≠ .sl (some t) k l)∧∀ t,c ≠ .nilT t
section
variable {α:Type} {f:α→List AV} {sz:Nat} (R:RowT f sz)
include R
theorem RowT.all(l:List α):∀ e∈l.map f,e.length=sz:=fun e he=>by
 obtain ⟨x,_,rfl⟩:=List.mem_map.1 he;exact R.len x
theorem RowT.noOwn(l:List α):noOwn (l.map f):=fun e he=>by
 obtain ⟨x,_,rfl⟩:=List.mem_map.1 he;exact R.no x
theorem RowT.len_hc(cap:Nat)(l:List α):(hc sz cap (l.map f)).length=(max cap l.length) * sz:=by rw[hc_len (R.all l),List.length_map]
theorem RowT.drop_take(cap:Nat)(l:List α)(i:Nat)(d:α)(hi:i<l.length):((hc sz cap (l.map f)).drop (i * sz)).take sz=f (l.getD i d):=by
 apply List.ext_getElem?
 intro j
 have he:(l.map f)[i]?=some (f (l.getD i d)):=by simp[List.getD,hi]
 by_cases hj:j<sz
 ·rw[List.getElem?_take_of_lt hj,List.getElem?_drop,hc_get (R.all l) he hj]
 ·rw[List.getElem?_take_eq_none (by omega),List.getElem?_eq_none (by rw[R.len];omega)]
theorem RowT.ld(cap:Nat)(l:List α)(i:Nat)(d:α)(hi:i<l.length)(K:AV→Prop):RK (ldR (some sz) ((hc sz cap (l.map f)).drop (i * sz))) K=K (.agg (f (l.getD i d))):=by
 have hb:sz≤((hc sz cap (l.map f)).drop (i * sz)).length:=by
  rw[List.length_drop,R.len_hc]
  have:=Nat.mul_le_mul_right sz (show i+1≤max cap l.length by omega)
  rw[Nat.add_mul,Nat.one_mul]at this;omega
 have e:ldR (some sz) ((hc sz cap (l.map f)).drop (i * sz))=fun r=>sz≤((hc sz cap (l.map f)).drop (i * sz)).length∧r=.agg (((hc sz cap (l.map f)).drop (i * sz)).take sz):=by
  funext r;generalize (hc sz cap (l.map f)).drop (i * sz)=X;cases X<;>rfl
 rw[e,RK_and,R.drop_take cap l i d hi]
 exact propext ⟨fun h=>h.2,fun h=>⟨hb,h⟩⟩
theorem RowT.sto(cap:Nat)(l:List α)(i:Nat)(y:α)(hi:i<l.length):splice (hc sz cap (l.map f)) (i * sz) (f y)=hc sz cap ((l.set i y).map f):=by
 have hb:i * sz+(f y).length≤(hc sz cap (l.map f)).length:=by
  rw[R.len_hc,R.len]
  have:=Nat.mul_le_mul_right sz (show i+1≤max cap l.length by omega)
  rw[Nat.add_mul,Nat.one_mul]at this;omega
 apply List.ext_getElem?
 intro p
 rw[a0y _ _ _ hb]
 rcases Nat.eq_zero_or_pos sz with h0|hsz
 ·have hfy:(f y).length=0:=by rw[R.len];exact h0
  rw[if_neg (by omega)]
  have h1:(hc sz cap (l.map f))=[]:=List.eq_nil_of_length_eq_zero (by rw[R.len_hc];subst h0;simp)
  have h2:(hc sz cap ((l.set i y).map f))=[]:=List.eq_nil_of_length_eq_zero (by rw[R.len_hc];subst h0;simp)
  rw[h1,h2]
 have hdm:p / sz * sz+p % sz=p:=by rw[Nat.mul_comm];exact Nat.div_add_mod p sz
 have hml:=Nat.mod_lt p hsz
 by_cases hpl:p / sz<l.length
 ·have hpl':p / sz<(l.set i y).length:=by simpa using hpl
  have he:((l.set i y).map f)[p / sz]?=some (f ((l.set i y).getD (p / sz) y)):=by rw[List.getElem?_map,List.getElem?_eq_getElem hpl',List.getD,List.getElem?_eq_getElem hpl'];rfl
  have he2:(l.map f)[p / sz]?=some (f (l.getD (p / sz) y)):=by simp[List.getD,hpl]
  have r1:=hc_get (cap:=cap) (R.all (l.set i y)) he hml
  have r2:=hc_get (cap:=cap) (R.all l) he2 hml
  rw[hdm]at r1 r2
  rw[r1,r2]
  by_cases hpi:p / sz=i
  ·rw[if_pos (by rw[R.len, ← hpi];omega)]
   have:p - i * sz=p % sz:=by rw[← hpi];omega
   rw[this,hpi]
   simp[List.getD,hi]
  ·rw[if_neg]
   ·have:(l.set i y).getD (p / sz) y=l.getD (p / sz) y:=by simp[List.getD,List.getElem?_set,Ne.symm hpi]
    rw[this]
   ·rw[R.len]
    rintro ⟨a1,a2⟩
    apply hpi
    have b1:i≤p / sz:=(Nat.le_div_iff_mul_le hsz).2 a1
    have b2:p / sz<i+1:=(Nat.div_lt_iff_lt_mul hsz).2 (by rw[Nat.add_mul,Nat.one_mul];exact a2)
    omega
 ·have hge:l.length * sz≤p:=(Nat.le_div_iff_mul_le hsz).1 (Nat.not_lt.1 hpl)
  rw[if_neg]
  ·unfold hc
   have l1:(l.map f).flatten.length=l.length * sz:=by rw[flatten_len (R.all l),List.length_map]
   have l2:((l.set i y).map f).flatten.length=l.length * sz:=by rw[flatten_len (R.all _),List.length_map,List.length_set]
   rw[List.getElem?_append_right (by omega),List.getElem?_append_right (by omega),l1,l2]
   simp
  ·rw[R.len]
   have:=Nat.mul_le_mul_right sz (show i+1≤l.length from hi)
   rw[Nat.add_mul,Nat.one_mul]at this
   omega
theorem RowT.src_part{o:Nat→Option (List AV)}{g cap a m:Nat}{l:List α}(hg:o g=some (hc sz cap (l.map f)))(hm:a+m≤l.length):b5y o sz (.hss g sz a m) (((l.drop a).take m).map f):=
 ⟨rfl,cap,l.map f,hg,R.all l,by simpa using hm,by simp⟩
theorem RowT.src_pre{o:Nat→Option (List AV)}{g e n cap:Nat}{l:List α}(hg:o g=some (hc sz cap (l.map f)))(hm:n≤l.length):b5y o sz (.hsl g e sz n cap) ((l.take n).map f):=
 ⟨rfl,l.map f,hg,R.all l,by simpa using hm,by simp⟩
theorem RowT.src_sl(o:Nat→Option (List AV))(own:Option Nat)(l:List α):b5y o sz (.sl own sz (l.map f)) (l.map f):=⟨rfl,rfl⟩
variable {P:Program} {d:Option Nat} {s:St} {K:St→Prop} {e bytes:Nat} {q:AV}
theorem RowT.hap_nil{m:List α}(hs:b5y s.o sz q (m.map f))(hb:m.length * bytes≤140737488355328∧m.length≤maxLen)(h0:m.length=0→KS (St.put s d (.hnil e sz)) K)
  (h1:0<m.length→a6K s.o (fun g=>∀ cap,m.length≤cap→KS (St.put ⟨s.t,upd s.o g (some (hc sz cap (m.map f)))⟩ d (.hsl g e sz m.length cap)) K)):b0i e sz bytes d s K (.hnil e sz) q:=
 ⟨rfl,m.map f,hs,R.noOwn m,by simpa using hb,fun h=>h0 (by simpa using h),fun h g hg cap hc=>by
  have:=h1 (by simpa using h) g hg cap (by simpa using hc)
  simpa using this⟩
theorem RowT.hap_row{g n cap:Nat}{l m:List α}(hg:s.o g=some (hc sz cap (l.map f)))(hs:b5y s.o sz q (m.map f))(hn:n≤l.length∧l.length≤cap)(hb:(n+m.length) * bytes≤140737488355328∧n+m.length≤maxLen)
  (h1:a6K (upd s.o g none) (fun g'=>∀ cap',n+m.length≤cap'→KS (St.put ⟨s.t,upd (upd s.o g none) g' (some (hc sz cap' ((l.take n++m).map f)))⟩ d (.hsl g' e sz (n+m.length) cap')) K)):b0i e sz bytes d s K (.hsl g e sz n cap) q:=
 ⟨⟨rfl,rfl⟩,m.map f,l.map f,hs,R.noOwn m,hg,R.all l,R.noOwn l,by simpa using hn,by simpa using hb,fun g' hg' cap' hc=>by
  have:=h1 g' hg' cap' (by simpa using hc)
  simpa using this⟩
end
end
section
open Go.RowKit Classical
set_option maxRecDepth 100000
def kys(l:List KeyC):List (List AV):=l.map KeyC.cs
theorem a0l(l:List KeyC):(kys l).length=l.length:=by simp[kys]
theorem a0u(l:List KeyC)(i:Nat)(h:i<l.length):(kys l).getD i []=(l.getD i default).cs:=by simp[kys,h]
def ens(l:List a1D):List (List AV):=l.map fun e=>[.str e.1,.int .i64 e.2]
theorem a1b(l:List a1D):(ens l).length=l.length:=by simp[ens]
theorem a4t(l:List a1D)(i:Nat)(h:i<l.length):(ens l).getD i []=[.str (l.getD i default).1,.int .i64 (l.getD i default).2]:=by simp[ens,h]
theorem b4P(a b:KeyC):(decide (a.e=b.e)&&(decide (a.ec=b.ec)&&(decide (a.o=b.o)&&decide (a.q=b.q))))=decide (a=b):=by
 obtain ⟨a1,a2,a3,a4⟩:=a;obtain ⟨b1,b2,b3,b4⟩:=b
 rw[Bool.eq_iff_iff];simp only[Bool.and_eq_true,decide_eq_true_eq,KeyC.mk.injEq]
theorem sxDta{A B:Prop}(h:B)(e:A=B:=by (simp (disch:=omega) only[*, ↓Ed,Eu, ↓reduceIte,reduceCtorEq,Nat.reduceAdd,Nat.reduceEqDiff,Nat.reduceLT,Nat.reduceLeDiff,Int.reduceToNat,Int.reduceEq,Int.reduceLT,Int.reduceLE,w64,List.length_append,List.length_map,Nat.mul_one,beq_self_eq_true,PktC.cs,EvC.cs,EntC.cs,KeyC.cs,a0h,Int.reduceAdd,a0l,a0u,a1b,a4t];first|done|rfl)):A:=e▸h
theorem b4j(p:Nat)(kc ec cc:AV)(K:List KeyC)(hk:kc.alias=.sl none 4 (kys K))(hr:Rise a0t K)(hl:K.length≤100000)(k:KeyC):
  CT Tryz.prog 200 [.ptr p 0,.agg k.cs] (lk [(p,[kc,ec,cc])]) (fun r o=>r=.tup [.int .i64 (plL a0t k K:Nat),.bool (decide (k∈K))]∧o=lk [(p,[kc,ec,cc])]):=by
 refine a3T _ _ _ (by simp) ?_
 have hp:=pl_le a0t k K
 simp only[a2u];refine sxDta ?_
 repeat' ((first|exact tt|refine na fun b=>?_|refine nb fun b hb=>?_|refine iq ?_|(refine jq ?_ ?_<;>intro h h')|refine Two_intro ?_ ?_|exact wZ|fail)<;>try refine sxDta ?_)
 have hm:=pl_mem keySTO hr (x:=k) default
 refine wpx_loop (fun i:Nat=>⟨lk [(0,.ptr p 0),(3,.ptr b 0),(6,.int .i64 (i:Int))],lk [(b,k.cs),(p,[kc,ec,cc])]⟩) (fun i=>i≤plL a0t k K) (fun i=>K.length - i) 0 (by omega) (Le_lit (by simp[LeL,lk,hb])) ?_
 intro i hi
 by_cases hlt:i<plL a0t k K
 ·have f1:a0a (decide ((i:Int)<K.length)=true):=fo
  have hL:=b3P (K.getD i default) k
  rw[pl_before a0t k K i default hlt]at hL
  generalize hx:K.getD i default=x at hL
  clear hm hr
  refine sxDta ?_
  repeat' ((first|exact tt|refine CallO_pure (hL) ?_|refine CallW_intro (hL) ?_|refine na fun b=>?_|refine nb fun b hb=>?_|refine iq ?_|(refine jq ?_ ?_<;>intro h h')|refine Two_intro ?_ ?_|exact wZ|fail)<;>try refine sxDta ?_)
  all_goals exact Round_lit (i+1) ⟨Le_lit (by simp[LeL,lk,hb]),by omega,by omega⟩
 have hie:i=plL a0t k K:=by omega
 by_cases hil:i<K.length
 ·have f1:a0a (decide ((i:Int)<K.length)=true):=fo
  have hL:=b3P (K.getD i default) k
  have hat:=pl_at a0t k K default (by omega)
  rw[← hie]at hat hm
  rw[hat]at hL
  have hkd:=b4P (K.getD i default) k
  have hmd:decide (k∈K)=decide (K.getD i default=k):=by
   rw[Bool.eq_iff_iff,decide_eq_true_eq,decide_eq_true_eq,hm]
   exact ⟨fun h=>h.2,fun h=>⟨hil,h⟩⟩
  rw[hmd, ← hie]
  generalize hx:K.getD i default=x at *
  clear hm hr hat hmd hie
  refine sxDta ?_
  repeat' ((first|exact tt|refine CallO_pure (hL) ?_|refine CallW_intro (hL) ?_|refine na fun b=>?_|refine nb fun b hb=>?_|refine iq ?_|(refine jq ?_ ?_<;>intro h h')|refine Two_intro ?_ ?_|exact wZ|fail)<;>try refine sxDta ?_)
  all_goals exact ro_mk (by simp[LeL,lk,hb,r_two,rl_cons,rl_nil,arR,al_bool,al_int,hkd]) dom1
 ·have f1:a0a (decide ((i:Int)<K.length)=false):=fo
  have hmd:decide (k∈K)=false:=by
   rw[decide_eq_false_iff_not,hm]
   exact fun h=>by omega
  rw[hmd, ← hie]
  clear hm hr hmd hie
  refine sxDta ?_
  repeat' ((first|exact tt|refine na fun b=>?_|refine nb fun b hb=>?_|refine iq ?_|(refine jq ?_ ?_<;>intro h h')|refine Two_intro ?_ ?_|exact wZ|fail)<;>try refine sxDta ?_)
  all_goals exact ro_mk (by simp[LeL,lk,hb,r_two,rl_cons,rl_nil,arR,al_bool,al_int]) dom1
theorem b4F(a b:a1D):(decide (a.1=b.1)&&decide (a.2=b.2))=decide (a=b):=by
 rw[Bool.eq_iff_iff];simp[Prod.ext_iff]
theorem a1v(l:List a1D)(i:Nat):(ens l).take i=ens (l.take i):=by simp[ens,List.map_take]
theorem a4D(l:List a1D)(i:Nat):(ens l).drop i=ens (l.drop i):=by simp[ens,List.map_drop]
theorem b3r(l m:List a1D):ens (l++m)=ens l++ens m:=by simp[ens]
theorem b3s(c:a1D)(l:List a1D):ens (c::l)=[.str c.1,.int .i64 c.2]::ens l:=rfl
theorem b2v(p:Nat)(kc ec cc:AV)(C:List a1D)(hk:cc.alias=.sl none 2 (ens C))(hr:Rise a0E C)(hl:C.length≤100000)(c:a1D):
  CT Tryz.prog 198 [.ptr p 0,.agg [.str c.1,.int .i64 c.2]] (lk [(p,[kc,ec,cc])]) (fun r o=>r=.int .i64 (if c∈C then 8 else 0)∧
   o=lk [(p,[kc,ec,if c∈C then cc else .sl (some 56) 2 (ens (C.take (plL a0E c C)++[c]++C.drop (plL a0E c C)))])]):=by
 refine a3E _ _ _ (by simp) ?_
 have hp:=pl_le a0E c C
 have hdr:List.take C.length (ens C)=ens C:=by rw[← a1b C,List.take_length]
 simp only[a2j];refine sxDta ?_
 repeat' ((first|exact tt|refine na fun b=>?_|refine nb fun b hb=>?_|refine iq ?_|(refine jq ?_ ?_<;>intro h h')|refine Two_intro ?_ ?_|exact wZ|fail)<;>try refine sxDta ?_)
 have hm:=pl_mem endSTO hr (x:=c) default
 refine wpx_loop (fun i:Nat=>⟨lk [(0,.ptr p 0),(3,.ptr b 0),(5,.int .i64 (i:Int))],lk [(b,[.str c.1,.int .i64 c.2]),(p,[kc,ec,cc])]⟩) (fun i=>i≤plL a0E c C) (fun i=>C.length - i) 0 (by omega) (Le_lit (by simp[LeL,lk,hb])) ?_
 intro i hi
 by_cases hlt:i<plL a0E c C
 ·have f1:a0a (decide ((i:Int)<C.length)=true):=fo
  have hL:=b1u (C.getD i default) c
  rw[pl_before a0E c C i default hlt]at hL
  generalize hx:C.getD i default=x at hL
  clear hm hr
  refine sxDta ?_
  repeat' ((first|exact tt|refine CallO_pure (hL) ?_|refine CallW_intro (hL) ?_|refine na fun b=>?_|refine nb fun b hb=>?_|refine iq ?_|(refine jq ?_ ?_<;>intro h h')|refine Two_intro ?_ ?_|exact wZ|fail)<;>try refine sxDta ?_)
  all_goals exact Round_lit (i+1) ⟨Le_lit (by simp[LeL,lk,hb]),by omega,by omega⟩
 have hie:i=plL a0E c C:=by omega
 by_cases hil:i<C.length
 ·have f1:a0a (decide ((i:Int)<C.length)=true):=fo
  have hL:=b1u (C.getD i default) c
  have hat:=pl_at a0E c C default (by omega)
  rw[← hie]at hat hm
  rw[hat]at hL
  have hkd:=b4F (C.getD i default) c
  have hmd:c∈C↔C.getD i default=c:=by
   rw[hm]
   exact ⟨fun h=>h.2,fun h=>⟨hil,h⟩⟩
  rw[← hie]
  by_cases hq:C.getD i default=c
  ·rw[if_pos (hmd.2 hq),if_pos (hmd.2 hq)]
   rw[decide_eq_true hq]at hkd
   generalize hx:C.getD i default=x at *
   clear hm hr hat hmd hie hq
   refine sxDta ?_
   repeat' ((first|exact tt|refine CallO_pure (hL) ?_|refine CallW_intro (hL) ?_|refine na fun b=>?_|refine nb fun b hb=>?_|refine iq ?_|(refine jq ?_ ?_<;>intro h h')|refine Two_intro ?_ ?_|exact wZ|fail)<;>try refine sxDta ?_)
   all_goals exact ro_mk (by simp[LeL,lk,hb,a0z,arR]) dom1
  ·rw[if_neg (fun h=>hq (hmd.1 h)),if_neg (fun h=>hq (hmd.1 h))]
   rw[decide_eq_false hq]at hkd
   generalize hx:C.getD i default=x at *
   clear hm hr hat hmd hie hq
   refine sxDta ?_
   repeat' ((first|exact tt|refine CallO_pure (hL) ?_|refine CallW_intro (hL) ?_|refine na fun b=>?_|refine nb fun b hb=>?_|refine iq ?_|(refine jq ?_ ?_<;>intro h h')|refine Two_intro ?_ ?_|exact wZ|fail)<;>try refine sxDta ?_)
   refine ⟨⟨by simp only[a1v,a1b,List.length_take];omega,by simp only[a1v,a1b,List.length_take,maxLen];omega⟩,⟨by simp only[a1v,a1b,List.length_take];omega,by simp only[a1v,a1b,List.length_take,maxLen];omega⟩,⟨by omega,by omega⟩,⟨by simp only[hdr,a1v,a4D,a1b,List.length_take,List.length_drop];omega,by simp only[hdr,a1v,a4D,a1b,List.length_take,List.length_drop,maxLen];omega⟩,ro_mk (by simp[LeL,lk,hb,a0z,arR,hdr,b3r,a1v,a4D,b3s]) dom1⟩
 ·have f1:a0a (decide ((i:Int)<C.length)=false):=fo
  have hmd:¬ c∈C:=by
   rw[hm]
   exact fun h=>by omega
  rw[if_neg hmd,if_neg hmd, ← hie]
  clear hm hr hmd hie
  refine sxDta ?_
  repeat' ((first|exact tt|refine na fun b=>?_|refine nb fun b hb=>?_|refine iq ?_|(refine jq ?_ ?_<;>intro h h')|refine Two_intro ?_ ?_|exact wZ|fail)<;>try refine sxDta ?_)
  refine ⟨⟨by simp only[a1v,a1b,List.length_take];omega,by simp only[a1v,a1b,List.length_take,maxLen];omega⟩,⟨by simp only[a1v,a1b,List.length_take];omega,by simp only[a1v,a1b,List.length_take,maxLen];omega⟩,⟨by omega,by omega⟩,⟨by simp only[hdr,a1v,a4D,a1b,List.length_take,List.length_drop];omega,by simp only[hdr,a1v,a4D,a1b,List.length_take,List.length_drop,maxLen];omega⟩,ro_mk (by simp[LeL,lk,hb,a0z,arR,hdr,b3r,a1v,a4D,b3s]) dom1⟩
end
section
open Go.RowKit
set_option maxRecDepth 100000
theorem fold_no{t:Tb}{e:EvC}(h:a1e e=false):a0T t e=(t,1):=by unfold a0T;rw[if_pos h]
theorem fold_up{t:Tb}{e:EvC}(h:a1e e=true)(hk:e.k=7):a0T t e=(t,0):=by unfold a0T;rw[if_neg (by rw[h];simp),if_pos hk]
theorem fold_cl{t:Tb}{e:EvC}(h:a1e e=true)(hk:e.k=6):a0T t e=(if ((e.e,e.ec):a1D)∈t.C then t else ⟨t.K,t.C++[(e.e,e.ec)]⟩,if ((e.e,e.ec):a1D)∈t.C then 8 else 0):=by
 unfold a0T;rw[if_neg (by rw[h];simp),if_neg (by omega),if_pos hk]
 by_cases hc:((e.e,e.ec):a1D)∈t.C
 ·rw[if_pos hc,if_pos hc,if_pos hc]
 ·rw[if_neg hc,if_neg hc,if_neg hc]
theorem fold_new{t:Tb}{e:EvC}(h:a1e e=true)(hk:1≤e.k∧e.k≤5)(hf:a0O t.K (a1p e)=none):a0T t e=(⟨t.K++[(a1p e,a0R (a6X e.p) e)],t.C⟩,0):=by
 unfold a0T;rw[if_neg (by rw[h];simp),if_neg (by omega),if_neg (by omega),hf]
theorem fold_some{t:Tb}{e:EvC}{x:EntC}(h:a1e e=true)(hk:1≤e.k∧e.k≤5)(hf:a0O t.K (a1p e)=some x):a0T t e=if ¬ x.p=e.p then (t,3) else if marked x e.k then (t,8) else if a4N x e.k then (t,16) else (⟨a7e t.K (a1p e) (a0R x e),t.C⟩,0):=by
 unfold a0T;rw[if_neg (by rw[h];simp),if_neg (by omega),if_neg (by omega),hf]
theorem a8y(l:List (KeyC × EntC))(k:KeyC)(y:EntC):tk (a7e l k y)=tk l:=by
 simp only[tk,a7e,List.map_map]
 congr 1
 funext x
 simp only[Function.comp]
 split<;>simp_all
theorem setE_tv{l:List (KeyC × EntC)}{k:KeyC}{x y:EntC}{i:Nat}(hi:l[i]?=some (k,x))(hn:(l.map (·.1)).Nodup):(tv l).set i (b5R y)=tv (a7e l k y):=by
 apply List.ext_getElem?
 intro j
 rw[List.getElem?_set]
 obtain ⟨hil,hix⟩:=List.getElem?_eq_some_iff.1 hi
 split
 ·rename_i e;subst e
  simp[tv,a7e,hil,hix]
 ·rename_i hij
  simp only[tv,a7e,List.getElem?_map,Option.map_map]
  cases hj:l[j]? with
  | none=>rfl
  | some z=>
   simp only[Option.map_some,Function.comp,Option.some.injEq]
   split
   ·rename_i hz
    exfalso
    obtain ⟨hjl,hjz⟩:=List.getElem?_eq_some_iff.1 hj
    have h1:(l.map (·.1))[i]'(by simpa using hil)=(l.map (·.1))[j]'(by simpa using hjl):=by simp[hix,hjz,hz]
    exact hij ((List.getElem_inj hn).1 h1)
   ·rfl
theorem a6l(l:List (KeyC × EntC))(k:KeyC)(y:EntC):(a7e l k y).length=l.length:=by simp[a7e]
theorem sxLfb{A B:Prop}(h:B)(e:A=B:=by (simp (disch:=omega) only[*, ↓Ed,Eu, ↓reduceIte,reduceCtorEq,Nat.reduceAdd,Nat.reduceEqDiff,Nat.reduceLT,Nat.reduceLeDiff,Int.reduceToNat,Int.reduceEq,Int.reduceLT,Int.reduceLE,w64,List.length_append,List.length_map,Nat.mul_one,beq_self_eq_true,PktC.cs,EvC.cs,EntC.cs,KeyC.cs,a0h,Int.reduceAdd];first|done|rfl)):A:=e▸h
set_option maxHeartbeats 8000000 in
theorem b9s(c m n:Nat)(hh:(¬ c=m∧¬ m=c)∧(¬ c=n∧¬ n=c)∧¬ m=n∧¬ n=m)(t:Tb)(e:EvC)(hN:(t.K.map (·.1)).Nodup)(h1:e.p.s.length≤1000000)(h2:e.p.d.length≤1000000)(h3:e.p.x.length≤1000000)(h4:e.e.length≤1000000)(h5:e.a.length≤1000000):
  CT Tryz.prog 69 [.ptr c 0,.agg e.cs] (lk (b0f c m n t)) (fun r o=>r=.int .i64 (a0T t e).2∧o=lk (b0f c m n (a0T t e).1)):=by
 have hO:=b8F e h1 h2 h3 h4 h5
 have hM:=b2g e h1 h2 h3 h4 h5
 refine a5w _ _ _ (by simp) ?_
 by_cases hm:a1e e=true
 rotate_left
 ·have hm':a1e e=false:=by simpa using hm
  rw[own_no hm']at hO
  rw[fold_no hm']
  rw[hm']at hM
  clear hm hm' hN
  simp only[a0c];refine sxLfb ?_
  repeat' ((first|exact tt|refine CallO_pure (hM) ?_|refine CallO_pure (hO) ?_|refine na fun b=>?_|refine nb fun b hb=>?_|refine iq ?_|(refine jq ?_ ?_<;>intro h h')|refine Two_intro ?_ ?_|exact wZ|fail)<;>try refine sxLfb ?_)
  all_goals exact ro_mk (by simp[LeL,lk,hh,a0z,arR]) dom3
 have hr:=may_range hm
 rcases a8d e.k with ⟨k1,k2,k3,k4,k5,k6,k7,k8,k9,k10,k11,k12⟩ | ⟨k1,k2,k3,k4,k5,k6,k7,k8,k9,k10,k11,k12⟩ | ⟨k1,k2,k3,k4,k5,k6,k7,k8,k9,k10,k11,k12⟩ | ⟨k1,k2,k3,k4,k5,k6,k7,k8,k9,k10,k11,k12⟩ | ⟨k1,k2,k3,k4,k5,k6,k7,k8,k9,k10,k11,k12⟩ | ⟨k1,k2,k3,k4,k5,k6,k7,k8,k9,k10,k11,k12⟩ | ⟨k1,k2,k3,k4,k5,k6,k7,k8,k9,k10,k11,k12⟩ | ⟨k1,k2,k3,k4,k5,k6,k7,k8,k9,k10,k11,k12⟩ | ⟨k1,k2,k3,k4,k5,k6,k7,k8,k9,k10,k11,k12⟩
 ·have hk:e.k=1:=k12
  have hkk:1≤e.k∧e.k≤5:=by omega
  have hMk:=fun b=>b0S b e.k
  have hOut:=b0T e.k
  have hSm:=fun a b=>a2V a b
  rw[show b0N e.k=true by rw[hk];rfl]at hOut
  have hmo:∀ b,AV.ptr b (a7m e.k)=.ptr b 9:=fun b=>by rw[hk];rfl
  simp only[hmo]at hMk
  have hokk:(a1B e).2.2.2=true:=by
   first|rw[own_src hm (by omega)]|rw[own_dst hm (by omega)]
  rw[hokk]at hO
  have hmk:∀ x,a0R x e={ x with s:=true }:=fun x=>by simp[a0R,hk]
  have hke:a1p e=⟨(a1B e).1,(a1B e).2.1,true,(a1B e).2.2.1⟩:=by unfold a1p;rw[show b0N e.k=true by rw[hk];rfl]
  cases hf0:a0O t.K (a1p e) with
  | none=>
   have hf:=lookK_none hf0
   rw[fold_new hm hkk hf0,hmk]
   rw[hke]at hf ⊢
   rw[hm]at hM
   have hSe:=a2V e.p e.p
   rw[decide_eq_true rfl]at hSe
   simp only[a9D]at hf
   clear hm hr k12 hN hf0 hke hmk hmo hokk hk hkk hSm
   generalize a1B e=OW at *
   simp only[a0c];refine sxLfb ?_
   repeat' ((first|exact tt|refine CallO_pure (hM) ?_|refine CallO_pure (hO) ?_|refine CallW_intro (hOut) ?_|refine CallO_pure (hMk _) ?_|refine CallO_pure (hSe) ?_|refine na fun b=>?_|refine nb fun b hb=>?_|refine iq ?_|(refine jq ?_ ?_<;>intro h h')|refine Two_intro ?_ ?_|exact wZ|fail)<;>try refine sxLfb ?_)
   all_goals exact ro_mk (by simp[LeL,lk,hh,a0z,arR,mpK,tk,tv,a6X,List.range_succ]) dom3
  | some x=>
   obtain ⟨i,hi,hf,hg,hix⟩:=lookK_some hf0
   rw[fold_some hm hkk hf0,hmk]
   have hset:=fun y=>setE_tv (y:=y) hix hN
   rw[hke]at hf hset ⊢
   rw[hm]at hM
   have hSe:=a2V x.p e.p
   simp only[a9D]at hf
   have hmx:marked x e.k=x.s:=by simp[marked,hk]
   have hla:a4N x e.k=false:=by simp[a4N,hk]
   rw[hmx,hla]
   clear hm hr k12 hN hf0 hke hmk hmo hokk hk hkk hSm hix hmx hla
   generalize a1B e=OW at *
   by_cases hp:x.p=e.p
   rotate_left
   ·rw[decide_eq_false hp]at hSe
    rw[if_pos hp]
    clear hp hset
    simp only[a0c];refine sxLfb ?_
    repeat' ((first|exact tt|refine CallO_pure (hM) ?_|refine CallO_pure (hO) ?_|refine CallW_intro (hOut) ?_|refine CallO_pure (hMk _) ?_|refine CallO_pure (hSe) ?_|refine na fun b=>?_|refine nb fun b hb=>?_|refine iq ?_|(refine jq ?_ ?_<;>intro h h')|refine Two_intro ?_ ?_|exact wZ|fail)<;>try refine sxLfb ?_)
    all_goals exact ro_mk (by simp[LeL,lk,hh,a0z,arR]) dom3
   ·rw[decide_eq_true hp]at hSe
    rw[if_neg (fun h=>h hp)]
    clear hp
    cases hb1:x.s with
    | true=>
     clear hset
     simp only[a0c];refine sxLfb ?_
     repeat' ((first|exact tt|refine CallO_pure (hM) ?_|refine CallO_pure (hO) ?_|refine CallW_intro (hOut) ?_|refine CallO_pure (hMk _) ?_|refine CallO_pure (hSe) ?_|refine na fun b=>?_|refine nb fun b hb=>?_|refine iq ?_|(refine jq ?_ ?_<;>intro h h')|refine Two_intro ?_ ?_|exact wZ|fail)<;>try refine sxLfb ?_)
     all_goals exact ro_mk (by simp[LeL,lk,hh,a0z,arR]) dom3
    | false=>
     simp only[a0c,hh,Bool.false_eq_true,if_false, ↓Ed,Eu, ↓reduceIte,reduceCtorEq,Nat.reduceAdd,Nat.reduceEqDiff,Nat.reduceLT,Nat.reduceLeDiff,Int.reduceToNat,Int.reduceEq,Int.reduceLT,Int.reduceLE,w64,List.length_append,List.length_map,Nat.mul_one,beq_self_eq_true,PktC.cs,EvC.cs,EntC.cs,KeyC.cs,a0h,Int.reduceAdd]
     repeat' ((first|exact tt|refine CallO_pure (hM) ?_|refine CallO_pure (hO) ?_|refine CallW_intro (hOut) ?_|refine CallO_pure (hMk _) ?_|refine CallO_pure (hSe) ?_|refine na fun b=>?_|refine nb fun b hb=>?_|refine iq ?_|(refine jq ?_ ?_<;>intro h h')|refine Two_intro ?_ ?_|exact wZ|fail)<;>try refine sxLfb ?_)
     all_goals exact ro_mk (by simp[LeL,lk,hh,a0z,arR,mpK,a8y,a6l, ← hset,b5R,EntC.cs,hb1]) dom3
 ·have hk:e.k=2:=k12
  have hkk:1≤e.k∧e.k≤5:=by omega
  have hMk:=fun b=>b0S b e.k
  have hOut:=b0T e.k
  have hSm:=fun a b=>a2V a b
  rw[show b0N e.k=false by rw[hk];rfl]at hOut
  have hmo:∀ b,AV.ptr b (a7m e.k)=.ptr b 10:=fun b=>by rw[hk];rfl
  simp only[hmo]at hMk
  have hokk:(a1B e).2.2.2=true:=by
   first|rw[own_src hm (by omega)]|rw[own_dst hm (by omega)]
  rw[hokk]at hO
  have hmk:∀ x,a0R x e={ x with r:=true }:=fun x=>by simp[a0R,hk]
  have hke:a1p e=⟨(a1B e).1,(a1B e).2.1,false,(a1B e).2.2.1⟩:=by unfold a1p;rw[show b0N e.k=false by rw[hk];rfl]
  cases hf0:a0O t.K (a1p e) with
  | none=>
   have hf:=lookK_none hf0
   rw[fold_new hm hkk hf0,hmk]
   rw[hke]at hf ⊢
   rw[hm]at hM
   have hSe:=a2V e.p e.p
   rw[decide_eq_true rfl]at hSe
   simp only[a9D]at hf
   clear hm hr k12 hN hf0 hke hmk hmo hokk hk hkk hSm
   generalize a1B e=OW at *
   simp only[a0c];refine sxLfb ?_
   repeat' ((first|exact tt|refine CallO_pure (hM) ?_|refine CallO_pure (hO) ?_|refine CallW_intro (hOut) ?_|refine CallO_pure (hMk _) ?_|refine CallO_pure (hSe) ?_|refine na fun b=>?_|refine nb fun b hb=>?_|refine iq ?_|(refine jq ?_ ?_<;>intro h h')|refine Two_intro ?_ ?_|exact wZ|fail)<;>try refine sxLfb ?_)
   all_goals exact ro_mk (by simp[LeL,lk,hh,a0z,arR,mpK,tk,tv,a6X,List.range_succ]) dom3
  | some x=>
   obtain ⟨i,hi,hf,hg,hix⟩:=lookK_some hf0
   rw[fold_some hm hkk hf0,hmk]
   have hset:=fun y=>setE_tv (y:=y) hix hN
   rw[hke]at hf hset ⊢
   rw[hm]at hM
   have hSe:=a2V x.p e.p
   simp only[a9D]at hf
   have hmx:marked x e.k=x.r:=by simp[marked,hk]
   have hla:a4N x e.k=false:=by simp[a4N,hk]
   rw[hmx,hla]
   clear hm hr k12 hN hf0 hke hmk hmo hokk hk hkk hSm hix hmx hla
   generalize a1B e=OW at *
   by_cases hp:x.p=e.p
   rotate_left
   ·rw[decide_eq_false hp]at hSe
    rw[if_pos hp]
    clear hp hset
    simp only[a0c];refine sxLfb ?_
    repeat' ((first|exact tt|refine CallO_pure (hM) ?_|refine CallO_pure (hO) ?_|refine CallW_intro (hOut) ?_|refine CallO_pure (hMk _) ?_|refine CallO_pure (hSe) ?_|refine na fun b=>?_|refine nb fun b hb=>?_|refine iq ?_|(refine jq ?_ ?_<;>intro h h')|refine Two_intro ?_ ?_|exact wZ|fail)<;>try refine sxLfb ?_)
    all_goals exact ro_mk (by simp[LeL,lk,hh,a0z,arR]) dom3
   ·rw[decide_eq_true hp]at hSe
    rw[if_neg (fun h=>h hp)]
    clear hp
    cases hb1:x.r with
    | true=>
     clear hset
     simp only[a0c];refine sxLfb ?_
     repeat' ((first|exact tt|refine CallO_pure (hM) ?_|refine CallO_pure (hO) ?_|refine CallW_intro (hOut) ?_|refine CallO_pure (hMk _) ?_|refine CallO_pure (hSe) ?_|refine na fun b=>?_|refine nb fun b hb=>?_|refine iq ?_|(refine jq ?_ ?_<;>intro h h')|refine Two_intro ?_ ?_|exact wZ|fail)<;>try refine sxLfb ?_)
     all_goals exact ro_mk (by simp[LeL,lk,hh,a0z,arR]) dom3
    | false=>
     simp only[a0c,hh,Bool.false_eq_true,if_false, ↓Ed,Eu, ↓reduceIte,reduceCtorEq,Nat.reduceAdd,Nat.reduceEqDiff,Nat.reduceLT,Nat.reduceLeDiff,Int.reduceToNat,Int.reduceEq,Int.reduceLT,Int.reduceLE,w64,List.length_append,List.length_map,Nat.mul_one,beq_self_eq_true,PktC.cs,EvC.cs,EntC.cs,KeyC.cs,a0h,Int.reduceAdd]
     repeat' ((first|exact tt|refine CallO_pure (hM) ?_|refine CallO_pure (hO) ?_|refine CallW_intro (hOut) ?_|refine CallO_pure (hMk _) ?_|refine CallO_pure (hSe) ?_|refine na fun b=>?_|refine nb fun b hb=>?_|refine iq ?_|(refine jq ?_ ?_<;>intro h h')|refine Two_intro ?_ ?_|exact wZ|fail)<;>try refine sxLfb ?_)
     all_goals exact ro_mk (by simp[LeL,lk,hh,a0z,arR,mpK,a8y,a6l, ← hset,b5R,EntC.cs,hb1]) dom3
 ·have hk:e.k=4:=k12
  have hkk:1≤e.k∧e.k≤5:=by omega
  have hMk:=fun b=>b0S b e.k
  have hOut:=b0T e.k
  have hSm:=fun a b=>a2V a b
  rw[show b0N e.k=true by rw[hk];rfl]at hOut
  have hmo:∀ b,AV.ptr b (a7m e.k)=.ptr b 12:=fun b=>by rw[hk];rfl
  simp only[hmo]at hMk
  have hokk:(a1B e).2.2.2=true:=by
   first|rw[own_src hm (by omega)]|rw[own_dst hm (by omega)]
  rw[hokk]at hO
  have hmk:∀ x,a0R x e={ x with c:=true }:=fun x=>by simp[a0R,hk]
  have hke:a1p e=⟨(a1B e).1,(a1B e).2.1,true,(a1B e).2.2.1⟩:=by unfold a1p;rw[show b0N e.k=true by rw[hk];rfl]
  cases hf0:a0O t.K (a1p e) with
  | none=>
   have hf:=lookK_none hf0
   rw[fold_new hm hkk hf0,hmk]
   rw[hke]at hf ⊢
   rw[hm]at hM
   have hSe:=a2V e.p e.p
   rw[decide_eq_true rfl]at hSe
   simp only[a9D]at hf
   clear hm hr k12 hN hf0 hke hmk hmo hokk hk hkk hSm
   generalize a1B e=OW at *
   simp only[a0c];refine sxLfb ?_
   repeat' ((first|exact tt|refine CallO_pure (hM) ?_|refine CallO_pure (hO) ?_|refine CallW_intro (hOut) ?_|refine CallO_pure (hMk _) ?_|refine CallO_pure (hSe) ?_|refine na fun b=>?_|refine nb fun b hb=>?_|refine iq ?_|(refine jq ?_ ?_<;>intro h h')|refine Two_intro ?_ ?_|exact wZ|fail)<;>try refine sxLfb ?_)
   all_goals exact ro_mk (by simp[LeL,lk,hh,a0z,arR,mpK,tk,tv,a6X,List.range_succ]) dom3
  | some x=>
   obtain ⟨i,hi,hf,hg,hix⟩:=lookK_some hf0
   rw[fold_some hm hkk hf0,hmk]
   have hset:=fun y=>setE_tv (y:=y) hix hN
   rw[hke]at hf hset ⊢
   rw[hm]at hM
   have hSe:=a2V x.p e.p
   simp only[a9D]at hf
   have hmx:marked x e.k=x.c:=by simp[marked,hk]
   have hla:a4N x e.k=x.t:=by simp[a4N,hk]
   rw[hmx,hla]
   clear hm hr k12 hN hf0 hke hmk hmo hokk hk hkk hSm hix hmx hla
   generalize a1B e=OW at *
   by_cases hp:x.p=e.p
   rotate_left
   ·rw[decide_eq_false hp]at hSe
    rw[if_pos hp]
    clear hp hset
    simp only[a0c];refine sxLfb ?_
    repeat' ((first|exact tt|refine CallO_pure (hM) ?_|refine CallO_pure (hO) ?_|refine CallW_intro (hOut) ?_|refine CallO_pure (hMk _) ?_|refine CallO_pure (hSe) ?_|refine na fun b=>?_|refine nb fun b hb=>?_|refine iq ?_|(refine jq ?_ ?_<;>intro h h')|refine Two_intro ?_ ?_|exact wZ|fail)<;>try refine sxLfb ?_)
    all_goals exact ro_mk (by simp[LeL,lk,hh,a0z,arR]) dom3
   ·rw[decide_eq_true hp]at hSe
    rw[if_neg (fun h=>h hp)]
    clear hp
    cases hb1:x.c with
    | true=>
     clear hset
     simp only[a0c];refine sxLfb ?_
     repeat' ((first|exact tt|refine CallO_pure (hM) ?_|refine CallO_pure (hO) ?_|refine CallW_intro (hOut) ?_|refine CallO_pure (hMk _) ?_|refine CallO_pure (hSe) ?_|refine na fun b=>?_|refine nb fun b hb=>?_|refine iq ?_|(refine jq ?_ ?_<;>intro h h')|refine Two_intro ?_ ?_|exact wZ|fail)<;>try refine sxLfb ?_)
     all_goals exact ro_mk (by simp[LeL,lk,hh,a0z,arR]) dom3
    | false=>
     cases hb2:x.t with
     | true=>
      clear hset
      simp only[a0c,hh,if_true,Bool.false_eq_true,if_false, ↓Ed,Eu, ↓reduceIte,reduceCtorEq,Nat.reduceAdd,Nat.reduceEqDiff,Nat.reduceLT,Nat.reduceLeDiff,Int.reduceToNat,Int.reduceEq,Int.reduceLT,Int.reduceLE,w64,List.length_append,List.length_map,Nat.mul_one,beq_self_eq_true,PktC.cs,EvC.cs,EntC.cs,KeyC.cs,a0h,Int.reduceAdd]
      repeat' ((first|exact tt|refine CallO_pure (hM) ?_|refine CallO_pure (hO) ?_|refine CallW_intro (hOut) ?_|refine CallO_pure (hMk _) ?_|refine CallO_pure (hSe) ?_|refine na fun b=>?_|refine nb fun b hb=>?_|refine iq ?_|(refine jq ?_ ?_<;>intro h h')|refine Two_intro ?_ ?_|exact wZ|fail)<;>try refine sxLfb ?_)
      all_goals exact ro_mk (by simp[LeL,lk,hh,a0z,arR]) dom3
     | false=>
      simp only[a0c,hh,Bool.false_eq_true,if_false, ↓Ed,Eu, ↓reduceIte,reduceCtorEq,Nat.reduceAdd,Nat.reduceEqDiff,Nat.reduceLT,Nat.reduceLeDiff,Int.reduceToNat,Int.reduceEq,Int.reduceLT,Int.reduceLE,w64,List.length_append,List.length_map,Nat.mul_one,beq_self_eq_true,PktC.cs,EvC.cs,EntC.cs,KeyC.cs,a0h,Int.reduceAdd]
      repeat' ((first|exact tt|refine CallO_pure (hM) ?_|refine CallO_pure (hO) ?_|refine CallW_intro (hOut) ?_|refine CallO_pure (hMk _) ?_|refine CallO_pure (hSe) ?_|refine na fun b=>?_|refine nb fun b hb=>?_|refine iq ?_|(refine jq ?_ ?_<;>intro h h')|refine Two_intro ?_ ?_|exact wZ|fail)<;>try refine sxLfb ?_)
      all_goals exact ro_mk (by simp[LeL,lk,hh,a0z,arR,mpK,a8y,a6l, ← hset,b5R,EntC.cs,hb1,hb2]) dom3
 ·have hk:e.k=5:=k12
  have hkk:1≤e.k∧e.k≤5:=by omega
  have hMk:=fun b=>b0S b e.k
  have hOut:=b0T e.k
  have hSm:=fun a b=>a2V a b
  rw[show b0N e.k=true by rw[hk];rfl]at hOut
  have hmo:∀ b,AV.ptr b (a7m e.k)=.ptr b 13:=fun b=>by rw[hk];rfl
  simp only[hmo]at hMk
  have hokk:(a1B e).2.2.2=true:=by
   first|rw[own_src hm (by omega)]|rw[own_dst hm (by omega)]
  rw[hokk]at hO
  have hmk:∀ x,a0R x e={ x with t:=true }:=fun x=>by simp[a0R,hk]
  have hke:a1p e=⟨(a1B e).1,(a1B e).2.1,true,(a1B e).2.2.1⟩:=by unfold a1p;rw[show b0N e.k=true by rw[hk];rfl]
  cases hf0:a0O t.K (a1p e) with
  | none=>
   have hf:=lookK_none hf0
   rw[fold_new hm hkk hf0,hmk]
   rw[hke]at hf ⊢
   rw[hm]at hM
   have hSe:=a2V e.p e.p
   rw[decide_eq_true rfl]at hSe
   simp only[a9D]at hf
   clear hm hr k12 hN hf0 hke hmk hmo hokk hk hkk hSm
   generalize a1B e=OW at *
   simp only[a0c];refine sxLfb ?_
   repeat' ((first|exact tt|refine CallO_pure (hM) ?_|refine CallO_pure (hO) ?_|refine CallW_intro (hOut) ?_|refine CallO_pure (hMk _) ?_|refine CallO_pure (hSe) ?_|refine na fun b=>?_|refine nb fun b hb=>?_|refine iq ?_|(refine jq ?_ ?_<;>intro h h')|refine Two_intro ?_ ?_|exact wZ|fail)<;>try refine sxLfb ?_)
   all_goals exact ro_mk (by simp[LeL,lk,hh,a0z,arR,mpK,tk,tv,a6X,List.range_succ]) dom3
  | some x=>
   obtain ⟨i,hi,hf,hg,hix⟩:=lookK_some hf0
   rw[fold_some hm hkk hf0,hmk]
   have hset:=fun y=>setE_tv (y:=y) hix hN
   rw[hke]at hf hset ⊢
   rw[hm]at hM
   have hSe:=a2V x.p e.p
   simp only[a9D]at hf
   have hmx:marked x e.k=x.t:=by simp[marked,hk]
   have hla:a4N x e.k=x.c:=by simp[a4N,hk]
   rw[hmx,hla]
   clear hm hr k12 hN hf0 hke hmk hmo hokk hk hkk hSm hix hmx hla
   generalize a1B e=OW at *
   by_cases hp:x.p=e.p
   rotate_left
   ·rw[decide_eq_false hp]at hSe
    rw[if_pos hp]
    clear hp hset
    simp only[a0c];refine sxLfb ?_
    repeat' ((first|exact tt|refine CallO_pure (hM) ?_|refine CallO_pure (hO) ?_|refine CallW_intro (hOut) ?_|refine CallO_pure (hMk _) ?_|refine CallO_pure (hSe) ?_|refine na fun b=>?_|refine nb fun b hb=>?_|refine iq ?_|(refine jq ?_ ?_<;>intro h h')|refine Two_intro ?_ ?_|exact wZ|fail)<;>try refine sxLfb ?_)
    all_goals exact ro_mk (by simp[LeL,lk,hh,a0z,arR]) dom3
   ·rw[decide_eq_true hp]at hSe
    rw[if_neg (fun h=>h hp)]
    clear hp
    cases hb1:x.t with
    | true=>
     clear hset
     simp only[a0c];refine sxLfb ?_
     repeat' ((first|exact tt|refine CallO_pure (hM) ?_|refine CallO_pure (hO) ?_|refine CallW_intro (hOut) ?_|refine CallO_pure (hMk _) ?_|refine CallO_pure (hSe) ?_|refine na fun b=>?_|refine nb fun b hb=>?_|refine iq ?_|(refine jq ?_ ?_<;>intro h h')|refine Two_intro ?_ ?_|exact wZ|fail)<;>try refine sxLfb ?_)
     all_goals exact ro_mk (by simp[LeL,lk,hh,a0z,arR]) dom3
    | false=>
     cases hb2:x.c with
     | true=>
      clear hset
      simp only[a0c,hh,if_true,Bool.false_eq_true,if_false, ↓Ed,Eu, ↓reduceIte,reduceCtorEq,Nat.reduceAdd,Nat.reduceEqDiff,Nat.reduceLT,Nat.reduceLeDiff,Int.reduceToNat,Int.reduceEq,Int.reduceLT,Int.reduceLE,w64,List.length_append,List.length_map,Nat.mul_one,beq_self_eq_true,PktC.cs,EvC.cs,EntC.cs,KeyC.cs,a0h,Int.reduceAdd]
      repeat' ((first|exact tt|refine CallO_pure (hM) ?_|refine CallO_pure (hO) ?_|refine CallW_intro (hOut) ?_|refine CallO_pure (hMk _) ?_|refine CallO_pure (hSe) ?_|refine na fun b=>?_|refine nb fun b hb=>?_|refine iq ?_|(refine jq ?_ ?_<;>intro h h')|refine Two_intro ?_ ?_|exact wZ|fail)<;>try refine sxLfb ?_)
      all_goals exact ro_mk (by simp[LeL,lk,hh,a0z,arR]) dom3
     | false=>
      simp only[a0c,hh,Bool.false_eq_true,if_false, ↓Ed,Eu, ↓reduceIte,reduceCtorEq,Nat.reduceAdd,Nat.reduceEqDiff,Nat.reduceLT,Nat.reduceLeDiff,Int.reduceToNat,Int.reduceEq,Int.reduceLT,Int.reduceLE,w64,List.length_append,List.length_map,Nat.mul_one,beq_self_eq_true,PktC.cs,EvC.cs,EntC.cs,KeyC.cs,a0h,Int.reduceAdd]
      repeat' ((first|exact tt|refine CallO_pure (hM) ?_|refine CallO_pure (hO) ?_|refine CallW_intro (hOut) ?_|refine CallO_pure (hMk _) ?_|refine CallO_pure (hSe) ?_|refine na fun b=>?_|refine nb fun b hb=>?_|refine iq ?_|(refine jq ?_ ?_<;>intro h h')|refine Two_intro ?_ ?_|exact wZ|fail)<;>try refine sxLfb ?_)
      all_goals exact ro_mk (by simp[LeL,lk,hh,a0z,arR,mpK,a8y,a6l, ← hset,b5R,EntC.cs,hb1,hb2]) dom3
 ·have hk:e.k=3:=k12
  have hkk:1≤e.k∧e.k≤5:=by omega
  have hMk:=fun b=>b0S b e.k
  have hOut:=b0T e.k
  have hSm:=fun a b=>a2V a b
  rw[show b0N e.k=false by rw[hk];rfl]at hOut
  have hmo:∀ b,AV.ptr b (a7m e.k)=.ptr b 11:=fun b=>by rw[hk];rfl
  simp only[hmo]at hMk
  have hokk:(a1B e).2.2.2=true:=by
   first|rw[own_src hm (by omega)]|rw[own_dst hm (by omega)]
  rw[hokk]at hO
  have hmk:∀ x,a0R x e={ x with w:=true,a:=e.a }:=fun x=>by simp[a0R,hk]
  have hke:a1p e=⟨(a1B e).1,(a1B e).2.1,false,(a1B e).2.2.1⟩:=by unfold a1p;rw[show b0N e.k=false by rw[hk];rfl]
  cases hf0:a0O t.K (a1p e) with
  | none=>
   have hf:=lookK_none hf0
   rw[fold_new hm hkk hf0,hmk]
   rw[hke]at hf ⊢
   rw[hm]at hM
   have hSe:=a2V e.p e.p
   rw[decide_eq_true rfl]at hSe
   simp only[a9D]at hf
   clear hm hr k12 hN hf0 hke hmk hmo hokk hk hkk hSm
   generalize a1B e=OW at *
   simp only[a0c];refine sxLfb ?_
   repeat' ((first|exact tt|refine CallO_pure (hM) ?_|refine CallO_pure (hO) ?_|refine CallW_intro (hOut) ?_|refine CallO_pure (hMk _) ?_|refine CallO_pure (hSe) ?_|refine na fun b=>?_|refine nb fun b hb=>?_|refine iq ?_|(refine jq ?_ ?_<;>intro h h')|refine Two_intro ?_ ?_|exact wZ|fail)<;>try refine sxLfb ?_)
   all_goals exact ro_mk (by simp[LeL,lk,hh,a0z,arR,mpK,tk,tv,a6X,List.range_succ]) dom3
  | some x=>
   obtain ⟨i,hi,hf,hg,hix⟩:=lookK_some hf0
   rw[fold_some hm hkk hf0,hmk]
   have hset:=fun y=>setE_tv (y:=y) hix hN
   rw[hke]at hf hset ⊢
   rw[hm]at hM
   have hSe:=a2V x.p e.p
   simp only[a9D]at hf
   have hmx:marked x e.k=x.w:=by simp[marked,hk]
   have hla:a4N x e.k=false:=by simp[a4N,hk]
   rw[hmx,hla]
   clear hm hr k12 hN hf0 hke hmk hmo hokk hk hkk hSm hix hmx hla
   generalize a1B e=OW at *
   by_cases hp:x.p=e.p
   rotate_left
   ·rw[decide_eq_false hp]at hSe
    rw[if_pos hp]
    clear hp hset
    simp only[a0c];refine sxLfb ?_
    repeat' ((first|exact tt|refine CallO_pure (hM) ?_|refine CallO_pure (hO) ?_|refine CallW_intro (hOut) ?_|refine CallO_pure (hMk _) ?_|refine CallO_pure (hSe) ?_|refine na fun b=>?_|refine nb fun b hb=>?_|refine iq ?_|(refine jq ?_ ?_<;>intro h h')|refine Two_intro ?_ ?_|exact wZ|fail)<;>try refine sxLfb ?_)
    all_goals exact ro_mk (by simp[LeL,lk,hh,a0z,arR]) dom3
   ·rw[decide_eq_true hp]at hSe
    rw[if_neg (fun h=>h hp)]
    clear hp
    cases hb1:x.w with
    | true=>
     clear hset
     simp only[a0c];refine sxLfb ?_
     repeat' ((first|exact tt|refine CallO_pure (hM) ?_|refine CallO_pure (hO) ?_|refine CallW_intro (hOut) ?_|refine CallO_pure (hMk _) ?_|refine CallO_pure (hSe) ?_|refine na fun b=>?_|refine nb fun b hb=>?_|refine iq ?_|(refine jq ?_ ?_<;>intro h h')|refine Two_intro ?_ ?_|exact wZ|fail)<;>try refine sxLfb ?_)
     all_goals exact ro_mk (by simp[LeL,lk,hh,a0z,arR]) dom3
    | false=>
     simp only[a0c,hh,Bool.false_eq_true,if_false, ↓Ed,Eu, ↓reduceIte,reduceCtorEq,Nat.reduceAdd,Nat.reduceEqDiff,Nat.reduceLT,Nat.reduceLeDiff,Int.reduceToNat,Int.reduceEq,Int.reduceLT,Int.reduceLE,w64,List.length_append,List.length_map,Nat.mul_one,beq_self_eq_true,PktC.cs,EvC.cs,EntC.cs,KeyC.cs,a0h,Int.reduceAdd]
     repeat' ((first|exact tt|refine CallO_pure (hM) ?_|refine CallO_pure (hO) ?_|refine CallW_intro (hOut) ?_|refine CallO_pure (hMk _) ?_|refine CallO_pure (hSe) ?_|refine na fun b=>?_|refine nb fun b hb=>?_|refine iq ?_|(refine jq ?_ ?_<;>intro h h')|refine Two_intro ?_ ?_|exact wZ|fail)<;>try refine sxLfb ?_)
     all_goals exact ro_mk (by simp[LeL,lk,hh,a0z,arR,mpK,a8y,a6l, ← hset,b5R,EntC.cs,hb1]) dom3
 ·have hS:=b9w c m n hh t e.e e.ec
  rw[own_close hm k12]at hO
  rw[fold_cl hm k12]
  rw[hm]at hM
  clear hm hr k12 hN
  generalize (if ((e.e,e.ec):a1D)∈t.C then (8:Int) else 0)=R at hS ⊢
  generalize (if ((e.e,e.ec):a1D)∈t.C then t else ⟨t.K,t.C++[(e.e,e.ec)]⟩)=T at hS ⊢
  simp only[a0c];refine sxLfb ?_
  repeat' ((first|exact tt|refine CallO_pure (hM) ?_|refine CallO_pure (hO) ?_|refine c3 (hS) ?_|refine na fun b=>?_|refine nb fun b hb=>?_|refine iq ?_|(refine jq ?_ ?_<;>intro h h')|refine Two_intro ?_ ?_|exact wZ|fail)<;>try refine sxLfb ?_)
  all_goals exact ro_mk (by simp[LeL,lk,hh,a0z,arR]) dom3
 ·rw[own_up hm k12]at hO
  rw[fold_up hm k12]
  rw[hm]at hM
  clear hm hr k12 hN
  simp only[a0c];refine sxLfb ?_
  repeat' ((first|exact tt|refine CallO_pure (hM) ?_|refine CallO_pure (hO) ?_|refine na fun b=>?_|refine nb fun b hb=>?_|refine iq ?_|(refine jq ?_ ?_<;>intro h h')|refine Two_intro ?_ ?_|exact wZ|fail)<;>try refine sxLfb ?_)
  all_goals exact ro_mk (by simp[LeL,lk,hh,a0z,arR]) dom3
 ·have:e.k<1:=k12
  omega
 ·have:7<e.k:=k12
  omega
end
end Go.Proofs.YtgdhinnepnlihaaGreatDoor
