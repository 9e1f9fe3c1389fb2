import Derived.Test.YtfgihnhoocnmdaaGreatDoorK19
import Derived.Test.YtfgihnhoocnmdaaGreatDoorK20
import Derived.Test.YtfgihnhoocnmdaaGreatDoorK14
import Derived.Test.YtfgihnhoocnmdaaGreatDoorK11
import Derived.Test.YtfgihnhoocnmdaaGreatDoorK17
namespace Go.Proofs.YtfgihnhoocnmdaaGreatDoor
set_option linter.all false
set_option maxHeartbeats 9000000
section
open Go.RowKit Go.Lib
set_option maxRecDepth 100000
theorem c1I(k:Nat):(List.replicate k (AV.int .i64 1)++[AV.int .i64 0]).set k (.int .i64 1)=List.replicate (k+1) (.int .i64 1):=by
 rw[snoc_set _ _ _ _ (by simp),List.replicate_succ']
theorem c1H(k:Nat):(List.replicate k (AV.int .i64 1)++[AV.int .i64 0]).getD k .undef=AV.int .i64 0:=snoc_get _ _ _ _ (by simp)
theorem b4m(e:a9L)(l:List a9L):l.any (b1T e)=decide (e∈l):=by
 rw[Bool.eq_iff_iff,List.any_eq_true,decide_eq_true_eq]
 constructor
 ·rintro ⟨x,hx,h⟩
  rw[b4B]at h
  rw[← h];exact hx
 ·intro h
  exact ⟨e,h,(b4B e e).2 rfl⟩
theorem idx_some{α:Type}[DecidableEq α]{a:α}{l:List α}(h:a∈l):∃ j,l.idxOf? a=some j∧j<l.length:=by
 cases hj:l.idxOf? a with
 | none=>rw[List.idxOf?_eq_none_iff]at hj;exact absurd h hj
 | some j=>
  obtain ⟨h1,_⟩:=List.idxOf?_eq_some_iff.1 hj
  exact ⟨j,rfl,h1⟩
theorem takeG{l:List GnC}{k:Nat}(hk:k<l.length):((l.take (k+1)).map a2K).map b2Q=((l.take k).map a2K).map b2Q++[b2Q (a2K (l.getD k default))]:=by
 rw[take_snocA hk];simp
theorem sxChh{A B:Prop}(h:B)(e:A=B:=by (simp (disch:=omega) only[*, ↓Ed,Eu, ↓reduceIte,reduceCtorEq,Nat.reduceAdd,Nat.reduceEqDiff,Nat.reduceLT,Nat.reduceLeDiff,Int.reduceToNat,Int.reduceEq,Int.reduceLT,Int.reduceLE,w64,a1B,a1A,GnC.cs,List.length_append,List.length_map,Nat.mul_one,beq_self_eq_true,a4K,c1I,c1H,Int.reduceAdd];first|done|rfl)):A:=e▸h
set_option maxHeartbeats 8000000 in
theorem b7j(l:List GnC)(hl:b1x l)(hb:l.length≤1000):CP Tryz.prog 72 [.sl none 6 (gns l)] (.int .i64 (b1Q l)):=by
 refine b0d _ _ (by simp) ?_
 by_cases h6:6<l.length
 ·have f0:a0d (decide ((6:Int)<l.length)=true):=fo
  unfold b1Q
  rw[if_pos h6]
  simp only[a3y];refine sxChh ?_
  repeat' ((first|exact tt|refine na fun b=>?_|refine nb fun b hb=>?_|refine iq ?_|(refine jq ?_ ?_<;>intro h h')|refine Two_intro ?_ ?_|exact wZ|fail)<;>try refine sxChh ?_)
 have f0:a0d (decide ((6:Int)<l.length)=false):=fo
 unfold b1Q
 rw[if_neg h6]
 simp only[a3y];refine sxChh ?_
 repeat' ((first|exact tt|refine na fun b=>?_|refine nb fun b hb=>?_|refine iq ?_|(refine jq ?_ ?_<;>intro h h')|refine Two_intro ?_ ?_|exact wZ|fail)<;>try refine sxChh ?_)
 refine wpx_loop (fun k:Nat=>⟨lk [(3,.mapv b),(10,.sl none 6 (gns l)),(11,.int .i64 l.length),(12,.int .i64 (k:Int))],lk [(b,[.mp (((l.take k).map a2K).map b2Q) (List.replicate k (.int .i64 1)) (List.range k) k])]⟩) (fun k=>k≤l.length∧a0d (a7I [] l=a7I ((l.take k).map a2K) (l.drop k))) (fun k=>l.length - k) 0 ⟨by omega,rfl⟩ (Le_lit (by simp[LeL,lk])) ?_
 intro k ⟨i1,i2⟩
 have i2:a7I [] l=a7I ((l.take k).map a2K) (l.drop k):=i2
 rw[i2]
 by_cases hk:k<l.length
 ·have f5:a0d (decide ((k:Int)<l.length)=true):=fo
  have hst:=chk_step hk
  have hli:=hl k hk
  have htk:=takeG hk
  have hlk:((l.take k).map a2K).length=k:=by simp;omega
  obtain ⟨⟨p,c,q,d,o,n⟩,hgd⟩:∃ a,l.getD k default=a:=⟨_,rfl⟩
  rw[hgd]at hst hli htk
  have hA:=a8z p c (by have:=hli.1;simp only at this;omega)
  have hB:=a8z q d (by have:=hli.2;simp only at this;omega)
  have hC:=a8x n
  rw[b4m]at hst
  clear hli hl
  have hok:okG ⟨p,c,q,d,o,n⟩=(a1S p c&&a1S q d&&(decide (1≤n)&&decide (n≤1099511627777))):=rfl
  rw[hok]at hst
  clear hok
  generalize a1S p c=a1 at *
  generalize a1S q d=a2 at *
  generalize (decide (1≤n)&&decide (n≤1099511627777))=a3 at *
  have hgo:a2K ⟨p,c,q,d,o,n⟩=(p,c):=rfl
  rw[hgo]at hst htk
  cases a1 with
  | false=>
   rw[Bool.false_and,Bool.false_and,if_pos rfl]at hst
   rw[hst]
   clear hst i2 htk
   refine sxChh ?_
   repeat' ((first|exact tt|refine CallO_pure (hA) ?_|refine CallO_pure (hB) ?_|refine CallO_pure (hC) ?_|refine na fun b=>?_|refine nb fun b hb=>?_|refine iq ?_|(refine jq ?_ ?_<;>intro h h')|refine Two_intro ?_ ?_|exact wZ|fail)<;>try refine sxChh ?_)
  | true=>
   cases a2 with
   | false=>
    rw[Bool.true_and,Bool.false_and,if_pos rfl]at hst
    rw[hst]
    clear hst i2 htk
    refine sxChh ?_
    repeat' ((first|exact tt|refine CallO_pure (hA) ?_|refine CallO_pure (hB) ?_|refine CallO_pure (hC) ?_|refine na fun b=>?_|refine nb fun b hb=>?_|refine iq ?_|(refine jq ?_ ?_<;>intro h h')|refine Two_intro ?_ ?_|exact wZ|fail)<;>try refine sxChh ?_)
   | true=>
    cases a3 with
    | false=>
     rw[Bool.and_false,if_pos rfl]at hst
     rw[hst]
     clear hst i2 htk
     refine sxChh ?_
     repeat' ((first|exact tt|refine CallO_pure (hA) ?_|refine CallO_pure (hB) ?_|refine CallO_pure (hC) ?_|refine na fun b=>?_|refine nb fun b hb=>?_|refine iq ?_|(refine jq ?_ ?_<;>intro h h')|refine Two_intro ?_ ?_|exact wZ|fail)<;>try refine sxChh ?_)
    | true=>
     rw[Bool.and_self,Bool.and_self,if_neg (by simp)]at hst
     by_cases hm:(p,c)∈(l.take k).map a2K
     ·rw[if_pos (decide_eq_true hm)]at hst
      rw[hst]
      have hf:=findM_map [.s,.i] true b2Q b1W (p,c) ((l.take k).map a2K)
      obtain ⟨j,hj,hjl⟩:=idx_some hm
      rw[hj]at hf
      have hjk:j<k:=by rw[hlk]at hjl;exact hjl
      have hv:(List.replicate k (AV.int .i64 1)).getD j .undef=.int .i64 1:=by simp[List.getD,hjk]
      have hf':a0S [.s,.i] true (.agg [.str p,.int .i64 c]) (((l.take k).map a2K).map b2Q)=some (some j):=hf
      clear hst i2 htk hf hj hjl hlk
      simp (disch:=omega) only[hgd,hf',hv, ↓Ed,Eu, ↓reduceIte,reduceCtorEq,Nat.reduceAdd,Nat.reduceEqDiff,Nat.reduceLT,Nat.reduceLeDiff,Int.reduceToNat,Int.reduceEq,Int.reduceLT,Int.reduceLE,w64,a1B,a1A,GnC.cs,List.length_append,List.length_map,Nat.mul_one,beq_self_eq_true,a4K,c1I,c1H,Int.reduceAdd]
      repeat' ((first|exact tt|refine CallO_pure (hA) ?_|refine CallO_pure (hB) ?_|refine CallO_pure (hC) ?_|refine na fun b=>?_|refine nb fun b hb=>?_|refine iq ?_|(refine jq ?_ ?_<;>intro h h')|refine Two_intro ?_ ?_|exact wZ|fail)<;>try refine sxChh ?_)
     ·rw[if_neg (by rw[decide_eq_false hm];simp)]at hst
      rw[hst]at i2 ⊢
      rw[← i2]
      have i3:a0d (a7I [] l=a7I ((l.take (k+1)).map a2K) (l.drop (k+1))):=i2
      have hf:a0S [.s,.i] true (.agg [.str p,.int .i64 c]) (((l.take k).map a2K).map b2Q)=some none:=findM_no _ _ b2Q b1W _ _ hm
      have hf2:a0S [.s,.i] true (.agg [.str p,.int .i64 c]) (((l.take k).map a2K).map b2Q++[.agg [.str p,.int .i64 c]])=some (some k):=by
       have:=findM_snoc [.s,.i] true b2Q b1W _ _ hm
       rwa [hlk]at this
      clear hst i2 hlk
      refine sxChh ?_
      repeat' ((first|exact tt|refine CallO_pure (hA) ?_|refine CallO_pure (hB) ?_|refine CallO_pure (hC) ?_|refine na fun b=>?_|refine nb fun b hb=>?_|refine iq ?_|(refine jq ?_ ?_<;>intro h h')|refine Two_intro ?_ ?_|exact wZ|fail)<;>try refine sxChh ?_)
      all_goals exact Round_lit (k+1) ⟨Le_lit (by simp[-List.map_take, -List.map_map,LeL,lk,htk,b2Q,List.range_succ]),⟨hk,i3⟩,by omega⟩
 ·obtain rfl:k=l.length:=by omega
  have f5:a0d (decide ((l.length:Int)<l.length)=false):=fo
  rw[List.drop_length,a7I]
  clear i2
  refine sxChh ?_
  repeat' ((first|exact tt|refine na fun b=>?_|refine nb fun b hb=>?_|refine iq ?_|(refine jq ?_ ?_<;>intro h h')|refine Two_intro ?_ ?_|exact wZ|fail)<;>try refine sxChh ?_)
end
section
open Go.RowKit Go.Lib
set_option maxRecDepth 100000
def a7R(l:List GnC):Prop:=l.length≤10∧∀ i,i<l.length→(l.getD i default).p.length≤60∧(l.getD i default).q.length≤60
theorem sxInl{A B:Prop}(h:B)(e:A=B:=by (simp (disch:=omega) only[*, ↓Ed,Eu, ↓reduceIte,reduceCtorEq,Nat.reduceAdd,Nat.reduceEqDiff,Nat.reduceLT,Nat.reduceLeDiff,Int.reduceToNat,Int.reduceEq,Int.reduceLT,Int.reduceLE,w64,a1B,a1A,GnC.cs];first|done|rfl)):A:=e▸h
open Classical in
theorem b1G(l:List GnC):CP Tryz.prog 27 [.agg [.str [],.int .i64 0,.int .i64 0,.int .i64 0,.sl none 6 (gns l)]] (.bool (decide (a7R l))):=by
 refine a3I _ _ (by simp) ?_
 by_cases h10:l.length≤10
 ·simp only[a1d];refine sxInl ?_
  repeat' ((first|exact tt|refine na fun b=>?_|refine nb fun b hb=>?_|refine iq ?_|(refine jq ?_ ?_<;>intro h h')|refine Two_intro ?_ ?_|exact wZ|fail)<;>try refine sxInl ?_)
  refine wpx_loop (fun i:Nat=>⟨lk [(1,.ptr b 0),(3,.int .i64 (i:Int))],lk [(b,[.str [],.int .i64 0,.int .i64 0,.int .i64 0,.sl none 6 (gns l)])]⟩) (fun i=>i≤l.length∧a0d (∀ j,j<i→(l.getD j default).p.length≤60∧(l.getD j default).q.length≤60)) (fun i=>l.length - i) 0 ⟨by omega,fun j hj=>by omega⟩ (Le_lit (by simp[LeL,lk])) ?_
  intro i ⟨i1,i2⟩
  by_cases hil:i<l.length
  ·have f1:a0d (decide ((i:Int)<l.length)=true):=fo
   by_cases hq:(l.getD i default).p.length≤60∧(l.getD i default).q.length≤60
   ·have i3:a0d (∀ j,j<i+1→(l.getD j default).p.length≤60∧(l.getD j default).q.length≤60):=fun j hj=>by
     by_cases e:j<i
     ·exact i2 j e
     ·obtain rfl:j=i:=by omega
      exact hq
    obtain ⟨⟨p,c,q,d,o,n⟩,hgd⟩:∃ a,l.getD i default=a:=⟨_,rfl⟩
    rw[hgd]at hq
    obtain ⟨q1,q2⟩:=hq
    simp only at q1 q2
    clear i2
    generalize decide (a7R l)=res at *
    refine sxInl ?_
    repeat' ((first|exact tt|refine na fun b=>?_|refine nb fun b hb=>?_|refine iq ?_|(refine jq ?_ ?_<;>intro h h')|refine Two_intro ?_ ?_|exact wZ|fail)<;>try refine sxInl ?_)
    all_goals exact Round_lit (i+1) ⟨Le_lit (by simp[LeL,lk]),⟨hil,i3⟩,by omega⟩
   ·rw[decide_eq_false (fun h=>hq (h.2 i hil))]
    obtain ⟨⟨p,c,q,d,o,n⟩,hgd⟩:∃ a,l.getD i default=a:=⟨_,rfl⟩
    rw[hgd]at hq
    simp only at hq
    clear i2
    refine sxInl ?_
    repeat' ((first|exact tt|refine na fun b=>?_|refine nb fun b hb=>?_|refine iq ?_|(refine jq ?_ ?_<;>intro h h')|refine Two_intro ?_ ?_|exact wZ|fail)<;>try refine sxInl ?_)
  ·obtain rfl:i=l.length:=by omega
   have f1:a0d (decide ((l.length:Int)<l.length)=false):=fo
   have hls:a7R l:=⟨h10,i2⟩
   rw[decide_eq_true hls]
   clear hls
   clear i2
   refine sxInl ?_
   repeat' ((first|exact tt|refine na fun b=>?_|refine nb fun b hb=>?_|refine iq ?_|(refine jq ?_ ?_<;>intro h h')|refine Two_intro ?_ ?_|exact wZ|fail)<;>try refine sxInl ?_)
 ·rw[decide_eq_false (fun h=>h10 h.1)]
  simp only[a1d];refine sxInl ?_
  repeat' ((first|exact tt|refine na fun b=>?_|refine nb fun b hb=>?_|refine iq ?_|(refine jq ?_ ?_<;>intro h h')|refine Two_intro ?_ ?_|exact wZ|fail)<;>try refine sxInl ?_)
end
section
open Go.RowKit Go.Lib
set_option maxRecDepth 100000
def pks(l:List PktC):List (List AV):=l.map PktC.cs
theorem b2H(l:List PktC):(pks l).length=l.length:=by simp[pks]
theorem b2G(l:List PktC)(i:Nat)(h:i<l.length):(pks l).getD i []=(l.getD i default).cs:=by simp[pks,h]
abbrev ntR(l:List Int):List (List AV):=l.map fun v=>[.int .i64 v]
structure GvC where
 e:List GnC
 k:List PktC
 m:List PrP
 o:List PrP
 n:List Int
 a:Int
 ht:Int
 tm:Int
abbrev GvC.cs(x:GvC):List AV:=[.sl none 6 (gns x.e),.sl none 8 (pks x.k),.sl none 2 (prR x.m),.sl none 2 (prR x.o),.sl none 1 (ntR x.n),.int .i64 x.a,.int .i64 x.ht,.int .i64 x.tm]
def a2l(l:List PrP):Prop:=l.length≤40∧∀ i,i<l.length→(l.getD i default).1.length≤300∧(l.getD i default).2.length≤200
def a4N(p:PktC):Prop:=p.s.length≤60∧p.d.length≤60∧p.x.length≤600
def a5v(x:GvC):Prop:=a7R x.e∧x.k.length≤10∧a2l x.m∧a2l x.o∧x.n.length≤10∧∀ i,i<x.k.length→a4N (x.k.getD i default)
theorem sxHsc{A B:Prop}(h:B)(e:A=B:=by (simp (disch:=omega) only[*, ↓Ed,Eu, ↓reduceIte,reduceCtorEq,Nat.reduceAdd,Nat.reduceEqDiff,Nat.reduceLT,Nat.reduceLeDiff,Int.reduceToNat,Int.reduceEq,Int.reduceLT,Int.reduceLE,w64,a1B,a1A,GnC.cs,a0w,a1g,b2H,b2G,PktC.cs,GvC.cs];first|done|rfl)):A:=e▸h
open Classical in
theorem b0D(p:PktC):CP Tryz.prog 29 [.agg p.cs] (.bool (decide (a4N p))):=by
 refine a3t _ _ (by simp) ?_
 by_cases h:a4N p
 ·rw[decide_eq_true h]
  obtain ⟨h1,h2,h3⟩:=h
  simp only[a0T];refine sxHsc ?_
  repeat' ((first|exact tt|refine na fun b=>?_|refine nb fun b hb=>?_|refine iq ?_|(refine jq ?_ ?_<;>intro h h')|refine Two_intro ?_ ?_|exact wZ|fail)<;>try refine sxHsc ?_)
  all_goals (simp only[a0d,Hn]at *;omega)
 ·rw[decide_eq_false h]
  have h':¬ (p.s.length≤60∧p.d.length≤60∧p.x.length≤600):=h
  clear h
  simp only[a0T];refine sxHsc ?_
  repeat' ((first|exact tt|refine na fun b=>?_|refine nb fun b hb=>?_|refine iq ?_|(refine jq ?_ ?_<;>intro h h')|refine Two_intro ?_ ?_|exact wZ|fail)<;>try refine sxHsc ?_)
  all_goals (simp only[a0d,Hn]at *;omega)
open Classical in
theorem a6P(l:List PrP):CP Tryz.prog 28 [.sl none 2 (prR l)] (.bool (decide (a2l l))):=by
 refine a3H _ _ (by simp) ?_
 by_cases h10:l.length≤40
 ·simp only[a0Y];refine sxHsc ?_
  repeat' ((first|exact tt|refine na fun b=>?_|refine nb fun b hb=>?_|refine iq ?_|(refine jq ?_ ?_<;>intro h h')|refine Two_intro ?_ ?_|exact wZ|fail)<;>try refine sxHsc ?_)
  refine wpx_loop (fun i:Nat=>⟨lk [(0,.sl none 2 (prR l)),(3,.int .i64 (i:Int))],lk []⟩) (fun i=>i≤l.length∧a0d (∀ j,j<i→(l.getD j default).1.length≤300∧(l.getD j default).2.length≤200)) (fun i=>l.length - i) 0 ⟨by omega,fun j hj=>by omega⟩ (Le_lit (by simp[LeL,lk])) ?_
  intro i ⟨i1,i2⟩
  by_cases hil:i<l.length
  ·have f1:a0d (decide ((i:Int)<l.length)=true):=fo
   by_cases hq:(l.getD i default).1.length≤300∧(l.getD i default).2.length≤200
   ·have i3:a0d (∀ j,j<i+1→(l.getD j default).1.length≤300∧(l.getD j default).2.length≤200):=fun j hj=>by
     by_cases e:j<i
     ·exact i2 j e
     ·obtain rfl:j=i:=by omega
      exact hq
    obtain ⟨⟨k,v⟩,hgd⟩:∃ a,l.getD i default=a:=⟨_,rfl⟩
    rw[hgd]at hq
    obtain ⟨q1,q2⟩:=hq
    simp only at q1 q2
    clear i2
    generalize decide (a2l l)=res at *
    refine sxHsc ?_
    repeat' ((first|exact tt|refine na fun b=>?_|refine nb fun b hb=>?_|refine iq ?_|(refine jq ?_ ?_<;>intro h h')|refine Two_intro ?_ ?_|exact wZ|fail)<;>try refine sxHsc ?_)
    all_goals exact Round_lit (i+1) ⟨Le_lit (by simp[LeL,lk]),⟨hil,i3⟩,by omega⟩
   ·rw[decide_eq_false (fun h=>hq (h.2 i hil))]
    obtain ⟨⟨k,v⟩,hgd⟩:∃ a,l.getD i default=a:=⟨_,rfl⟩
    rw[hgd]at hq
    simp only at hq
    clear i2
    refine sxHsc ?_
    repeat' ((first|exact tt|refine na fun b=>?_|refine nb fun b hb=>?_|refine iq ?_|(refine jq ?_ ?_<;>intro h h')|refine Two_intro ?_ ?_|exact wZ|fail)<;>try refine sxHsc ?_)
    all_goals (simp only[a0d,Hn]at *;omega)
  ·obtain rfl:i=l.length:=by omega
   have f1:a0d (decide ((l.length:Int)<l.length)=false):=fo
   have hls:a2l l:=⟨h10,i2⟩
   rw[decide_eq_true hls]
   clear hls
   clear i2
   refine sxHsc ?_
   repeat' ((first|exact tt|refine na fun b=>?_|refine nb fun b hb=>?_|refine iq ?_|(refine jq ?_ ?_<;>intro h h')|refine Two_intro ?_ ?_|exact wZ|fail)<;>try refine sxHsc ?_)
 ·rw[decide_eq_false (fun h=>h10 h.1)]
  simp only[a0Y];refine sxHsc ?_
  repeat' ((first|exact tt|refine na fun b=>?_|refine nb fun b hb=>?_|refine iq ?_|(refine jq ?_ ?_<;>intro h h')|refine Two_intro ?_ ?_|exact wZ|fail)<;>try refine sxHsc ?_)
end
section
open Go.RowKit Go.Lib
set_option maxRecDepth 100000
theorem sxHsd{A B:Prop}(h:B)(e:A=B:=by (simp (disch:=omega) only[*, ↓Ed,Eu, ↓reduceIte,reduceCtorEq,Nat.reduceAdd,Nat.reduceEqDiff,Nat.reduceLT,Nat.reduceLeDiff,Int.reduceToNat,Int.reduceEq,Int.reduceLT,Int.reduceLE,w64,a1B,a1A,GnC.cs,a0w,a1g,b2H,b2G,PktC.cs,GvC.cs,List.length_map];first|done|rfl)):A:=e▸h
open Classical in
set_option maxHeartbeats 4000000 in
theorem c0H(x:GvC):CP Tryz.prog 9 [.agg x.cs] (.bool (decide (a5v x))):=by
 have hL:=b1G x.e
 have hM:=a6P x.m
 have hO:=a6P x.o
 refine a6n _ _ (by simp) ?_
 by_cases h:a7R x.e∧x.k.length≤10∧a2l x.m∧a2l x.o∧x.n.length≤10
 ·obtain ⟨h1,h2,h3,h4,h5⟩:=h
  rw[decide_eq_true h1]at hL
  rw[decide_eq_true h3]at hM
  rw[decide_eq_true h4]at hO
  obtain ⟨e,k,m,o,n,a,ht,tm⟩:=x
  simp only at h1 h2 h3 h4 h5 hL hM hO
  have hV:∀ P:Prop,(P↔∀ i,i<k.length→a4N (k.getD i default))→(a5v ⟨e,k,m,o,n,a,ht,tm⟩↔P):=fun P hp=>by
   rw[hp];exact ⟨fun h=>h.2.2.2.2.2,fun h=>⟨h1,h2,h3,h4,h5,h⟩⟩
  clear h1 h3 h4
  simp only[a1R];refine sxHsd ?_
  repeat' ((first|exact tt|refine CallO_pure (hL) ?_|refine CallO_pure (hM) ?_|refine CallO_pure (hO) ?_|refine na fun b=>?_|refine nb fun b hb=>?_|refine iq ?_|(refine jq ?_ ?_<;>intro h h')|refine Two_intro ?_ ?_|exact wZ|fail)<;>try refine sxHsd ?_)
  rename Nat=>b
  refine wpx_loop (fun i:Nat=>⟨lk [(1,.ptr b 0),(3,.int .i64 (i:Int))],lk [(b,[.sl none 6 (gns e),.sl none 8 (pks k),.sl none 2 (prR m),.sl none 2 (prR o),.sl none 1 (ntR n),.int .i64 a,.int .i64 ht,.int .i64 tm])]⟩) (fun i=>i≤k.length∧a0d (∀ j,j<i→a4N (k.getD j default))) (fun i=>k.length - i) 0 ⟨by omega,fun j hj=>by omega⟩ (Le_lit (by simp[LeL,lk])) ?_
  intro i ⟨i1,i2⟩
  by_cases hil:i<k.length
  ·have f1:a0d (decide ((i:Int)<k.length)=true):=fo
   have hK:=b0D (k.getD i default)
   by_cases hq:a4N (k.getD i default)
   ·rw[decide_eq_true hq]at hK
    have i3:a0d (∀ j,j<i+1→a4N (k.getD j default)):=fun j hj=>by
     by_cases e:j<i
     ·exact i2 j e
     ·obtain rfl:j=i:=by omega
      exact hq
    obtain ⟨p,hgd⟩:∃ p,k.getD i default=p:=⟨_,rfl⟩
    rw[hgd]at hK
    clear i2 hq hV
    generalize decide (a5v ⟨e,k,m,o,n,a,ht,tm⟩)=res at *
    refine sxHsd ?_
    repeat' ((first|exact tt|refine CallO_pure (hK) ?_|refine na fun b=>?_|refine nb fun b hb=>?_|refine iq ?_|(refine jq ?_ ?_<;>intro h h')|refine Two_intro ?_ ?_|exact wZ|fail)<;>try refine sxHsd ?_)
    all_goals exact Round_lit (i+1) ⟨Le_lit (by simp[LeL,lk]),⟨hil,i3⟩,by omega⟩
   ·rw[decide_eq_false hq]at hK
    rw[decide_eq_false (fun h=>hq (h.2.2.2.2.2 i hil))]
    obtain ⟨p,hgd⟩:∃ p,k.getD i default=p:=⟨_,rfl⟩
    rw[hgd]at hK
    clear i2 hq hV
    refine sxHsd ?_
    repeat' ((first|exact tt|refine CallO_pure (hK) ?_|refine na fun b=>?_|refine nb fun b hb=>?_|refine iq ?_|(refine jq ?_ ?_<;>intro h h')|refine Two_intro ?_ ?_|exact wZ|fail)<;>try refine sxHsd ?_)
  ·obtain rfl:i=k.length:=by omega
   have f1:a0d (decide ((k.length:Int)<k.length)=false):=fo
   rw[decide_eq_true ((hV True ⟨fun _=>i2,fun _=>trivial⟩).2 trivial)]
   clear i2 hV
   refine sxHsd ?_
   repeat' ((first|exact tt|refine na fun b=>?_|refine nb fun b hb=>?_|refine iq ?_|(refine jq ?_ ?_<;>intro h h')|refine Two_intro ?_ ?_|exact wZ|fail)<;>try refine sxHsd ?_)
 ·rw[decide_eq_false (fun g=>h ⟨g.1,g.2.1,g.2.2.1,g.2.2.2.1,g.2.2.2.2.1⟩)]
  have h':¬ (decide (a7R x.e)=true∧x.k.length≤10∧decide (a2l x.m)=true∧decide (a2l x.o)=true∧x.n.length≤10):=by simpa using h
  clear h
  generalize decide (a7R x.e)=A at *
  generalize decide (a2l x.m)=B at *
  generalize decide (a2l x.o)=C at *
  obtain ⟨e,k,m,o,n,a,ht,tm⟩:=x
  simp only at h' hL hM hO
  cases A<;>cases B<;>cases C
  all_goals simp only[true_and,and_true,false_and,and_false,Bool.false_eq_true,not_false_eq_true]at h'
  all_goals (simp only[a1R];refine sxHsd ?_;try exact tt)
  all_goals repeat' ((first|exact tt|refine CallO_pure (hL) ?_|refine CallO_pure (hM) ?_|refine CallO_pure (hO) ?_|refine na fun b=>?_|refine nb fun b hb=>?_|refine iq ?_|(refine jq ?_ ?_<;>intro h h')|refine Two_intro ?_ ?_|exact wZ|fail)<;>try refine sxHsd ?_)
  all_goals (exfalso;simp only[a0d,Hn]at *;omega)
end
section
open Go.RowKit
set_option maxRecDepth 100000
theorem sxCli{A B:Prop}(h:B)(e:A=B:=by (simp (disch:=omega) only[*, ↓Ed,Eu, ↓reduceIte,reduceCtorEq,Nat.reduceAdd,Nat.reduceEqDiff,Nat.reduceLT,Nat.reduceLeDiff,Int.reduceToNat,Int.reduceEq,Int.reduceLT,Int.reduceLE,w64,List.length_append,List.length_map,Nat.mul_one,beq_self_eq_true,HdC.cs,gdH,a0F,a0M,a0J,a3O,a1Q,a0E,a5n,a5u,Int.reduceAdd];first|done|rfl)):A:=e▸h
set_option maxHeartbeats 4000000 in
theorem c0N(h:HdC)(l:List HdC)(g:AV)(hg:g.alias=.sl none 34 (hds l))(hl:l.length≤1000):CP Tryz.prog 150 [.agg h.cs,g] (.bool (decide (h∈l))):=by
 refine a7U _ _ (by simp) ?_
 simp only[a4m];refine sxCli ?_
 repeat' ((first|exact tt|refine na fun b=>?_|refine nb fun b hb=>?_|refine iq ?_|(refine jq ?_ ?_<;>intro h h')|refine Two_intro ?_ ?_|exact wZ|fail)<;>try refine sxCli ?_)
 rename_i m
 have hb0:=hb
 refine wpx_loop (fun x:Nat × List HdC × List Int=>⟨lk [(2,.ptr m 0),(5,.mapv b),(9,.sl none 34 (hds l)),(10,.int .i64 l.length),(11,.int .i64 (x.1:Int))],lk [(b,[.mp (x.2.1.map hdK) (x.2.2.map (AV.int .i64 ·)) (List.range x.2.1.length) x.2.1.length]),(m,h.cs)]⟩)
  (fun x=>x.1≤l.length∧x.2.2.length=x.2.1.length∧(∀ y,y∈x.2.1↔y∈l.take x.1)∧∀ i,i<x.2.2.length→1≤x.2.2.getD i 0∧x.2.2.getD i 0≤x.1) (fun x=>l.length - x.1) (0,[],[]) ⟨by simp,rfl,by simp,by simp⟩ (Le_lit (by simp[LeL,lk,hb])) ?_
 rintro ⟨k,d,cn⟩ ⟨g1,g2,g3,g4⟩
 simp only at g1 g2 g3 g4
 by_cases hk:k<l.length
 ·have f5:a0d (decide ((k:Int)<l.length)=true):=fo
  have hx:l[k]?=some (l.getD k default):=by simp[List.getD,hk]
  have hmem:∀ y,y∈l.take (k+1)↔y∈l.take k∨y=l.getD k default:=by
   intro y;rw[List.take_add_one,hx,List.mem_append];simp
  by_cases hin:(l.getD k default)∈d
  ·obtain ⟨i,hi,hil⟩:=idx_ex hin
   have hf:a0S K34 true (.agg (l.getD k default).cs) (d.map hdK)=some (some i):=by
    have:=findM_map K34 true hdK b1s (l.getD k default) d
    rw[hi]at this;exact this
   have hv:=b2X cn i (by omega)
   have hB:=b6l d.length i hil
   have hr:=b3X d.length i hil
   have hc:=g4 i (by omega)
   have hn:∀ j,j<(cn.set i (cn.getD i 0+1)).length→1≤(cn.set i (cn.getD i 0+1)).getD j 0∧(cn.set i (cn.getD i 0+1)).getD j 0≤((k+1:Nat):Int):=by
    intro j hj
    rw[List.length_set]at hj
    have:=g4 j hj
    by_cases e:i=j
    ·subst e;simp[List.getD,hj]at this ⊢;omega
    ·simp[List.getD,hj,List.getElem_set,e]at this ⊢;omega
   have hN:(cn.set i (cn.getD i 0+1)).length=d.length∧(∀ y,y∈d↔y∈l.take (k+1))∧∀ j,j<(cn.set i (cn.getD i 0+1)).length→1≤(cn.set i (cn.getD i 0+1)).getD j 0∧(cn.set i (cn.getD i 0+1)).getD j 0≤((k+1:Nat):Int):=by
    refine ⟨by simp[g2],fun y=>?_,hn⟩
    rw[hmem,g3]
    constructor
    ·exact .inl
    ·rintro (h1|rfl)
     ·exact h1
     ·exact (g3 _).1 hin
   clear hn hmem hx hi g3 g4
   generalize hw:cn.getD i 0=c at *
   obtain ⟨hN1,hN2,hN3⟩:=hN
   simp (disch:=omega) only[hf,hv,hB,hr,ints_set, ↓Ed,Eu, ↓reduceIte,reduceCtorEq,Nat.reduceAdd,Nat.reduceEqDiff,Nat.reduceLT,Nat.reduceLeDiff,Int.reduceToNat,Int.reduceEq,Int.reduceLT,Int.reduceLE,w64,List.length_append,List.length_map,Nat.mul_one,beq_self_eq_true,HdC.cs,gdH,a0F,a0M,a0J,a3O,a1Q,a0E,a5n,a5u,Int.reduceAdd]
   repeat' ((first|exact tt|refine na fun b=>?_|refine nb fun b hb=>?_|refine iq ?_|(refine jq ?_ ?_<;>intro h h')|refine Two_intro ?_ ?_|exact wZ|fail)<;>try refine sxCli ?_)
   exact Round_lit (k+1,d,cn.set i (c+1)) ⟨Le_lit (by simp[LeL,lk,hb,hb0]),⟨by simp only;omega,hN1,hN2,hN3⟩,by simp only;omega⟩
  ·have hf:a0S K34 true (.agg (l.getD k default).cs) (d.map hdK)=some none:=findM_no K34 true hdK b1s _ _ hin
   have hf2:a0S K34 true (.agg (l.getD k default).cs) (d.map hdK++[.agg (l.getD k default).cs])=some (some d.length):=findM_snoc K34 true hdK b1s _ _ hin
   have hv:(cn.map (AV.int .i64 ·)++[AV.int .i64 0]).getD d.length .undef=AV.int .i64 0:=snoc_get _ _ _ _ (by simp[g2])
   have hs:(cn.map (AV.int .i64 ·)++[AV.int .i64 0]).set d.length (.int .i64 1)=(cn++[1]).map (AV.int .i64 ·):=by rw[snoc_set _ _ _ _ (by simp[g2])];simp
   have hB:=a4K d.length 0
   have hN:(cn++[1]).length=(d++[l.getD k default]).length∧(∀ y,y∈d++[l.getD k default]↔y∈l.take (k+1))∧∀ j,j<(cn++[1]).length→1≤(cn++[1]).getD j 0∧(cn++[1]).getD j 0≤((k+1:Nat):Int):=by
    refine ⟨by simp[g2],fun y=>?_,fun j hj=>?_⟩
    ·rw[hmem,List.mem_append,g3,List.mem_singleton]
    ·by_cases e:j<cn.length
     ·have:=g4 j e
      simp[List.getD,List.getElem?_append_left e,e]at this ⊢;omega
     ·have:j=cn.length:=by simp at hj;omega
      subst this;simp[List.getD];omega
   obtain ⟨hN1,hN2,hN3⟩:=hN
   clear hmem hx g3 g4
   simp (disch:=omega) only[hf,hf2,hv,hs,hB, ↓Ed,Eu, ↓reduceIte,reduceCtorEq,Nat.reduceAdd,Nat.reduceEqDiff,Nat.reduceLT,Nat.reduceLeDiff,Int.reduceToNat,Int.reduceEq,Int.reduceLT,Int.reduceLE,w64,List.length_append,List.length_map,Nat.mul_one,beq_self_eq_true,HdC.cs,gdH,a0F,a0M,a0J,a3O,a1Q,a0E,a5n,a5u,Int.reduceAdd]
   repeat' ((first|exact tt|refine na fun b=>?_|refine nb fun b hb=>?_|refine iq ?_|(refine jq ?_ ?_<;>intro h h')|refine Two_intro ?_ ?_|exact wZ|fail)<;>try refine sxCli ?_)
   exact Round_lit (k+1,d++[l.getD k default],cn++[1]) ⟨Le_lit (by simp[LeL,lk,hdK,List.range_succ,hb,hb0]),⟨by simp only;omega,hN1,hN2,hN3⟩,by simp only;omega⟩
 have f5:a0d (decide ((k:Int)<l.length)=false):=fo
 have hd:∀ y,y∈d↔y∈l:=by intro y;rw[g3,List.take_of_length_le (by omega)]
 by_cases hin:h∈d
 ·obtain ⟨i,hi,hil⟩:=idx_ex hin
  have hf:a0S K34 true (.agg h.cs) (d.map hdK)=some (some i):=by
   have:=findM_map K34 true hdK b1s h d
   rw[hi]at this;exact this
  have hv:=b2X cn i (by omega)
  have hc:=g4 i (by omega)
  have f6:a0d (decide (0<cn.getD i 0)=true):=fo
  rw[decide_eq_true ((hd h).1 hin)]
  clear hd hi g3 g4
  simp (disch:=omega) only[hf,hv, ↓Ed,Eu, ↓reduceIte,reduceCtorEq,Nat.reduceAdd,Nat.reduceEqDiff,Nat.reduceLT,Nat.reduceLeDiff,Int.reduceToNat,Int.reduceEq,Int.reduceLT,Int.reduceLE,w64,List.length_append,List.length_map,Nat.mul_one,beq_self_eq_true,HdC.cs,gdH,a0F,a0M,a0J,a3O,a1Q,a0E,a5n,a5u,Int.reduceAdd]
  repeat' ((first|exact tt|refine na fun b=>?_|refine nb fun b hb=>?_|refine iq ?_|(refine jq ?_ ?_<;>intro h h')|refine Two_intro ?_ ?_|exact wZ|fail)<;>try refine sxCli ?_)
  exact f6
 ·have hf:a0S K34 true (.agg h.cs) (d.map hdK)=some none:=findM_no K34 true hdK b1s _ _ hin
  rw[decide_eq_false (fun e=>hin ((hd h).2 e))]
  clear hd g3 g4
  refine sxCli ?_
  repeat' ((first|exact tt|refine na fun b=>?_|refine nb fun b hb=>?_|refine iq ?_|(refine jq ?_ ?_<;>intro h h')|refine Two_intro ?_ ?_|exact wZ|fail)<;>try refine sxCli ?_)
end
section
open Go.RowKit
set_option maxRecDepth 100000
def b4L(x:HdC):Bool:=decide (1≤x.h∧x.h≤1099511627776∧0≤x.t∧x.t≤1099511627776)
theorem sxClj{A B:Prop}(h:B)(e:A=B:=by (simp (disch:=omega) only[*, ↓Ed,Eu, ↓reduceIte,reduceCtorEq,Nat.reduceAdd,Nat.reduceEqDiff,Nat.reduceLT,Nat.reduceLeDiff,Int.reduceToNat,Int.reduceEq,Int.reduceLT,Int.reduceLE,w64,List.length_append,List.length_map,Nat.mul_one,beq_self_eq_true,HdC.cs,gdH,a0F,a0M,a0J,a3O,a1Q,a0E,a5n,a5u,Int.reduceAdd,List.length_take,List.length_drop,a5q,a5t,Option.isSome_some,Option.isSome_none];first|done|rfl)):A:=e▸h
theorem b2E(x:HdC):CP Tryz.prog 90 [.agg x.cs] (.bool (b4L x)):=by
 refine a4a _ _ (by simp) ?_
 unfold b4L
 by_cases h:1≤x.h∧x.h≤1099511627776∧0≤x.t∧x.t≤1099511627776
 ·rw[decide_eq_true h]
  have f1:a0d (decide (1≤x.h)=true):=fo
  have f2:a0d (decide (x.h≤1099511627776)=true):=fo
  have f3:a0d (decide (0≤x.t)=true):=fo
  have f4:a0d (decide (x.t≤1099511627776)=true):=fo
  clear h
  simp only[a1j];refine sxClj ?_
  repeat' ((first|exact tt|refine na fun b=>?_|refine nb fun b hb=>?_|refine iq ?_|(refine jq ?_ ?_<;>intro h h')|refine Two_intro ?_ ?_|exact wZ|fail)<;>try refine sxClj ?_)
  all_goals (simp only[a0d,Hn]at *;omega)
 ·rw[decide_eq_false h]
  have F:a0d (¬ (1≤x.h∧x.h≤1099511627776∧0≤x.t∧x.t≤1099511627776)):=h
  clear h
  simp only[a1j];refine sxClj ?_
  repeat' ((first|exact tt|refine na fun b=>?_|refine nb fun b hb=>?_|refine iq ?_|(refine jq ?_ ?_<;>intro h h')|refine Two_intro ?_ ?_|exact wZ|fail)<;>try refine sxClj ?_)
  all_goals (simp only[a0d,Hn]at *;omega)
theorem stH_first{m:List HdC}{a:Int}{k:Nat}(hk:k<m.length)(h1:∀ i,i<k→(m.getD i default).h≠a)(h2:(m.getD k default).h=a):stH m a=some (m.getD k default):=by
 induction m generalizing k with
 | nil=>simp at hk
 | cons x m ih=>
  cases k with
  | zero=>simp at h2;simp[stH,h2]
  | succ k=>
   have h0:=h1 0 (by omega)
   simp at h0
   have:=ih (k:=k) (by simpa using hk) (fun i hi=>by simpa using h1 (i+1) (by omega)) (by simpa using h2)
   simp only[stH,List.find?_cons,h0,decide_false]
   simpa[stH]using this
theorem stH_end{m:List HdC}{a:Int}(h1:∀ i,i<m.length→(m.getD i default).h≠a):stH m a=none:=by
 unfold stH
 rw[List.find?_eq_none]
 intro x hx
 obtain ⟨i,hi,rfl⟩:=List.getElem_of_mem hx
 have:=h1 i hi
 simpa[List.getD,hi]using this
set_option maxHeartbeats 4000000 in
theorem b4O(m:List HdC)(g:AV)(hg:g.alias=.sl none 34 (hds m))(hl:m.length≤1000)(a:Int):CP Tryz.prog 89 [g,.int .i64 a] (.tup [.agg ((stH m a).getD default).cs,.bool (stH m a).isSome]):=by
 refine a6r _ _ (by simp) ?_
 simp only[a2Y];refine sxClj ?_
 repeat' ((first|exact tt|refine na fun b=>?_|refine nb fun b hb=>?_|refine iq ?_|(refine jq ?_ ?_<;>intro h h')|refine Two_intro ?_ ?_|exact wZ|fail)<;>try refine sxClj ?_)
 refine wpx_loop (fun k:Nat=>⟨lk [(0,.sl none 34 (hds m)),(1,.int .i64 a),(4,.ptr b 0),(5,.bool false),(6,.int .i64 (k:Int))],lk [(b,(default:HdC).cs)]⟩) (fun k=>k≤m.length∧a0d (∀ i,i<k→(m.getD i default).h≠a)) (fun k=>m.length - k) 0 ⟨by omega,by intro i h;omega⟩ (Le_lit (by simp[LeL,lk,a5q,a5t])) ?_
 rintro k ⟨g1,g2⟩
 by_cases hk:k<m.length
 ·have f5:a0d (decide ((k:Int)<m.length)=true):=fo
  by_cases he:(m.getD k default).h=a
  ·have hs:=stH_first hk g2 he
   have f6:a0d (decide ((m.getD k default).h=a)=true):=decide_eq_true he
   rw[hs]
   clear he hs g2
   simp (disch:=omega) only[Option.isSome_some, ↓Ed,Eu, ↓reduceIte,reduceCtorEq,Nat.reduceAdd,Nat.reduceEqDiff,Nat.reduceLT,Nat.reduceLeDiff,Int.reduceToNat,Int.reduceEq,Int.reduceLT,Int.reduceLE,w64,List.length_append,List.length_map,Nat.mul_one,beq_self_eq_true,HdC.cs,gdH,a0F,a0M,a0J,a3O,a1Q,a0E,a5n,a5u,Int.reduceAdd,List.length_take,List.length_drop,a5q,a5t,Option.isSome_some,Option.isSome_none]
   repeat' ((first|exact tt|refine na fun b=>?_|refine nb fun b hb=>?_|refine iq ?_|(refine jq ?_ ?_<;>intro h h')|refine Two_intro ?_ ?_|exact wZ|fail)<;>try refine sxClj ?_)
   all_goals omega
  ·have f6:a0d (decide ((m.getD k default).h=a)=false):=decide_eq_false he
   have hN:a0d (∀ i,i<k+1→(m.getD i default).h≠a):=by
    intro i hi
    by_cases e:i=k
    ·subst e;exact he
    ·exact g2 i (by omega)
   clear he g2
   refine sxClj ?_
   repeat' ((first|exact tt|refine na fun b=>?_|refine nb fun b hb=>?_|refine iq ?_|(refine jq ?_ ?_<;>intro h h')|refine Two_intro ?_ ?_|exact wZ|fail)<;>try refine sxClj ?_)
   exact Round_lit (k+1) ⟨Le_lit (by simp[LeL,lk]),⟨by omega,hN⟩,by omega⟩
 ·have f5:a0d (decide ((k:Int)<m.length)=false):=fo
  have hs:=stH_end (m:=m) (a:=a) (fun i hi=>g2 i (by omega))
  rw[hs]
  clear hs g2
  simp (disch:=omega) only[Option.isSome_none, ↓Ed,Eu, ↓reduceIte,reduceCtorEq,Nat.reduceAdd,Nat.reduceEqDiff,Nat.reduceLT,Nat.reduceLeDiff,Int.reduceToNat,Int.reduceEq,Int.reduceLT,Int.reduceLE,w64,List.length_append,List.length_map,Nat.mul_one,beq_self_eq_true,HdC.cs,gdH,a0F,a0M,a0J,a3O,a1Q,a0E,a5n,a5u,Int.reduceAdd,List.length_take,List.length_drop,a5q,a5t,Option.isSome_some,Option.isSome_none]
  repeat' ((first|exact tt|refine na fun b=>?_|refine nb fun b hb=>?_|refine iq ?_|(refine jq ?_ ?_<;>intro h h')|refine Two_intro ?_ ?_|exact wZ|fail)<;>try refine sxClj ?_)
def b0X(m:List HdC)(h:HdC)(told:List HdC):Int:=if b4L h=false then 1 else if h ∉ told then 9 else match stH m h.h with
 | some x=>if x=h then 0 else 8
 | none=>0
theorem insH_at{x:HdC}:∀ {m:List HdC} {k:Nat},k≤m.length→(∀ i,i<k→(m.getD i default).h<x.h)→(k<m.length→¬ (m.getD k default).h<x.h)→b1Y x m=m.take k++[x]++m.drop k
 | [],k,h,_,_=>by simp at h;subst h;rfl
 | y::m,0,_,_,h2=>by
  have:=h2 (by simp)
  simp at this
  unfold b1Y
  rw[if_neg (by omega)];rfl
 | y::m,k+1,h,h1,h2=>by
  have h0:=h1 0 (by omega)
  simp at h0
  unfold b1Y
  rw[if_pos h0,insH_at (m:=m) (k:=k) (by simpa using h) (fun i hi=>by simpa using h1 (i+1) (by omega)) (fun hk=>by simpa using h2 (by simpa using hk))]
  simp
def c2g(m:List HdC)(x:HdC):List HdC × Bool:=if (stH m x.h).isSome then (m,false) else (b1Y x m,true)
set_option maxHeartbeats 4000000 in
theorem b5o(m:List HdC)(g:AV)(hg:g.alias=.sl none 34 (hds m))(hl:m.length≤1000)(x:HdC):
  CP Tryz.prog 68 [g,.agg x.cs] (.tup [.sl none 34 (hds (c2g m x).1),.bool (c2g m x).2]):=by
 have hm:maxLen=9223372036854775807:=rfl
 have hK:=b4O m (.sl none 34 (hds m)) rfl hl x.h
 refine a5E _ _ (by simp) ?_
 unfold c2g
 cases hs:(stH m x.h).isSome with
 | true=>
  rw[hs]at hK
  rw[if_pos rfl]
  clear hs
  simp only[a1w];refine sxClj ?_
  repeat' ((first|exact tt|refine CallO_pure (hK) ?_|refine na fun b=>?_|refine nb fun b hb=>?_|refine iq ?_|(refine jq ?_ ?_<;>intro h h')|refine Two_intro ?_ ?_|exact wZ|fail)<;>try refine sxClj ?_)
 | false=>
 rw[hs]at hK
 rw[if_neg (by simp)]
 clear hs
 simp only[a1w];refine sxClj ?_
 repeat' ((first|exact tt|refine CallO_pure (hK) ?_|refine na fun b=>?_|refine nb fun b hb=>?_|refine iq ?_|(refine jq ?_ ?_<;>intro h h')|refine Two_intro ?_ ?_|exact wZ|fail)<;>try refine sxClj ?_)
 rename_i b1
 refine wpx_loop (fun k:Nat=>⟨lk [(0,.sl none 34 (hds m)),(3,.ptr b1 0),(8,.int .i64 (k:Int))],lk [(b1,x.cs)]⟩) (fun k=>k≤m.length∧a0d (∀ i,i<k→(m.getD i default).h<x.h)) (fun k=>m.length - k) 0 ⟨by omega,by intro i h;omega⟩ (Le_lit (by simp[LeL,lk,hb])) ?_
 rintro k ⟨g1,g2⟩
 have hI:(¬ k<m.length∨¬ (m.getD k default).h<x.h)→(hds m).take k++[x.cs]++(hds m).drop k=hds (b1Y x m):=by
  intro he
  rw[insH_at g1 g2 (fun hk=>he.resolve_left (fun h=>h hk))]
  simp[hds]
 by_cases hk:k<m.length
 ·have f5:a0d (decide ((k:Int)<m.length)=true):=fo
  by_cases he:(m.getD k default).h<x.h
  ·have f6:a0d (decide ((m.getD k default).h<x.h)=true):=decide_eq_true he
   have hN:a0d (∀ i,i<k+1→(m.getD i default).h<x.h):=by
    intro i hi
    by_cases e:i=k
    ·subst e;exact he
    ·exact g2 i (by omega)
   clear he g2 hI
   refine sxClj ?_
   repeat' ((first|exact tt|refine na fun b=>?_|refine nb fun b hb=>?_|refine iq ?_|(refine jq ?_ ?_<;>intro h h')|refine Two_intro ?_ ?_|exact wZ|fail)<;>try refine sxClj ?_)
   exact Round_lit (k+1) ⟨Le_lit (by simp[LeL,lk]),⟨by omega,hN⟩,by omega⟩
  ·have f6:a0d (decide ((m.getD k default).h<x.h)=false):=decide_eq_false he
   have hI':=hI (.inr he)
   rw[← hI']
   clear he g2 hI hI'
   refine sxClj ?_
   repeat' ((first|exact tt|refine na fun b=>?_|refine nb fun b hb=>?_|refine iq ?_|(refine jq ?_ ?_<;>intro h h')|refine Two_intro ?_ ?_|exact wZ|fail)<;>try refine sxClj ?_)
   all_goals (rw[List.take_of_length_le (i:=m.length) (l:=hds m) (by rw[a0F];omega)])
 ·have f5:a0d (decide ((k:Int)<m.length)=false):=fo
  have hI':=hI (.inl hk)
  rw[← hI']
  clear g2 hI hI'
  refine sxClj ?_
  repeat' ((first|exact tt|refine na fun b=>?_|refine nb fun b hb=>?_|refine iq ?_|(refine jq ?_ ?_<;>intro h h')|refine Two_intro ?_ ?_|exact wZ|fail)<;>try refine sxClj ?_)
  all_goals (rw[List.take_of_length_le (i:=m.length) (l:=hds m) (by rw[a0F];omega)])
theorem b4N(a b:List HdC)(ga gb:AV)(ha:ga.alias=.sl none 34 (hds a))(hb':gb.alias=.sl none 34 (hds b))(hl:a.length≤1000)(hl2:b.length≤1000):CP Tryz.prog 64 [ga,gb] (.bool (decide (a=b))):=by
 refine a5A _ _ (by simp) ?_
 by_cases hn:a.length=b.length
 rotate_left
 ·have f1:a0d (decide ((a.length:Int)=b.length)=false):=fo
  rw[decide_eq_false (fun e=>hn (by rw[e]))]
  clear hn
  simp only[a1v];refine sxClj ?_
  repeat' ((first|exact tt|refine na fun b=>?_|refine nb fun b hb=>?_|refine iq ?_|(refine jq ?_ ?_<;>intro h h')|refine Two_intro ?_ ?_|exact wZ|fail)<;>try refine sxClj ?_)
 have f1:a0d (decide ((a.length:Int)=b.length)=true):=fo
 simp only[a1v];refine sxClj ?_
 repeat' ((first|exact tt|refine na fun b=>?_|refine nb fun b hb=>?_|refine iq ?_|(refine jq ?_ ?_<;>intro h h')|refine Two_intro ?_ ?_|exact wZ|fail)<;>try refine sxClj ?_)
 refine wpx_loop (fun k:Nat=>⟨lk [(0,.sl none 34 (hds a)),(1,.sl none 34 (hds b)),(5,.int .i64 (k:Int))],lk []⟩) (fun k=>k≤a.length∧a0d (a.take k=b.take k)) (fun k=>a.length - k) 0 ⟨by omega,rfl⟩ (Le_lit (by simp[LeL,lk])) ?_
 rintro k ⟨g1,g2⟩
 by_cases hk:k<a.length
 ·have f5:a0d (decide ((k:Int)<a.length)=true):=fo
  have e1:a[k]?=some (a.getD k default):=by simp[List.getD,hk]
  have e2:b[k]?=some (b.getD k default):=by simp[List.getD,show k<b.length by omega]
  cases he:decide (a.getD k default=b.getD k default) with
  | true=>
   have hN:a0d (a.take (k+1)=b.take (k+1)):=by
    show _=_
    rw[List.take_add_one,List.take_add_one,e1,e2,show a.take k=b.take k from g2,of_decide_eq_true he]
   clear g2 e1 e2
   refine sxClj ?_
   repeat' ((first|exact tt|refine na fun b=>?_|refine nb fun b hb=>?_|refine iq ?_|(refine jq ?_ ?_<;>intro h h')|refine Two_intro ?_ ?_|exact wZ|fail)<;>try refine sxClj ?_)
   exact Round_lit (k+1) ⟨Le_lit (by simp[LeL,lk]),⟨by omega,hN⟩,by omega⟩
  | false=>
   rw[decide_eq_false (fun e=>of_decide_eq_false he (by rw[e]))]
   clear g2 e1 e2
   refine sxClj ?_
   repeat' ((first|exact tt|refine na fun b=>?_|refine nb fun b hb=>?_|refine iq ?_|(refine jq ?_ ?_<;>intro h h')|refine Two_intro ?_ ?_|exact wZ|fail)<;>try refine sxClj ?_)
   all_goals omega
 ·have f5:a0d (decide ((k:Int)<a.length)=false):=fo
  have:a=b:=by
   have:=show a.take k=b.take k from g2
   rwa [List.take_of_length_le (by omega),List.take_of_length_le (by omega)]at this
  rw[decide_eq_true this]
  clear g2 this
  refine sxClj ?_
  repeat' ((first|exact tt|refine na fun b=>?_|refine nb fun b hb=>?_|refine iq ?_|(refine jq ?_ ?_<;>intro h h')|refine Two_intro ?_ ?_|exact wZ|fail)<;>try refine sxClj ?_)
end
section
open Go.RowKit
theorem row_own{w W W':World}{row:Option Nat}{e:TypeId}{size k:Nat}{v:Value}{xs:List Value}(h:W.ownsRow w.heap.size e size v k xs)(hg:W.grownBy W' row)(hr:∀ r,row=some r→∃ o:Obj,W.heap[r]?=some o∧o.isCells=false):W'.ownsRow w.heap.size e size v k xs:=by
 refine h.kept hg ?_
 rcases h.2 with ⟨rfl,_⟩ | ⟨g,cap,cur,rfl,_,hgb,_⟩
 ·exact .inl rfl
 ·refine .inr fun e'=>?_
  obtain ⟨o,ho,hc⟩:=hr g (by simpa[Value.ownBlock]using e'.symm)
  rw[hgb]at ho;cases ho;cases hc
end
section
open Go.RowKit Go.ChangeMaps Go.Sort Go.Shelf
set_option maxRecDepth 100000 in
set_option maxHeartbeats 4000000 in
theorem va_iter{α:Type}[Inhabited α](cl:α→List Value)(hcl:∀ x,(cl x).length=34)(h1:∀ x, ∀ u∈cl x,u.oneCell'=true)(F:Fence)(n:Nat)(hf:F.fn 181)(hro:F.round=none)(hn:1≤n)
  (bx b:Nat) (es:Array MapEntry) (clk:Nat) (l:List α) (w:World) (tb:TypeId) (hbx:w.heap[bx]?=some (.cells #[.map (some b)] tb (0,0))) (hb:w.heap[b]?=some (.map es clk))
  (hval:es.toList.map (·.val)=l.map fun x=>.agg (cl x).toArray) (hborn:∀ x∈es.toList,x.born<clk) (hnd:(es.toList.map (·.born)).Nodup):
  SeqStops F n Tryz.prog 181 #[.pointer (some ⟨bx,0,none⟩)] (fun x=>.agg (cl x).toArray) (fun xs=>xs.Perm l) (fun _=>True) l.length w:=by
 intro lp J Jx W hW hJ hJx hY h0
 have hbxl:bx<w.heap.size:=(Array.getElem?_eq_some_iff.1 hbx).1
 have hbl:b<w.heap.size:=(Array.getElem?_eq_some_iff.1 hb).1
 have hbx1:W.heap[bx]?=some (.cells #[.map (some b)] tb (0,0)):=(hW.block bx hbxl).trans hbx
 have hb1:W.heap[b]?=some (.map es clk):=(hW.block b hbl).trans hb
 have hc1:W.cell? ⟨bx,0,none⟩=some (.map (some b)):=by simp[World.cell?,hbx1]
 have hsz:=hW.size
 refine callsIn_of_wp Tryz.func181 rfl hf ?_ hro
 simp only[Tryz.ntmps181,List.size_toArray,List.length_cons,List.length_nil,Nat.reduceAdd,Nat.reduceSub,Array.replicate_succ,Array.replicate_zero,List.push_toArray,List.append_toArray,List.nil_append,List.cons_append]
 gi_wp2_with (first
  | (gi_at_range;refine b4h _ rfl _ _ rfl _ _ Tryz.underlying138 b es clk rfl hb1 ?_)
  | gi_in)
 gi_loopw [4] (fun _ wr=>∃ (seen:Array Nat) (is:List Nat),wr.heap[W.heap.size]?=some (.mapIter (some b) clk seen clk)∧wr.heap[b]?=some (.map es clk)∧W.heap.size≤wr.heap.size∧Came es seen is∧J (is.map fun i=>l.getD i default) wr)
  (fun _ wr=>es.size - b5z wr W.heap.size)
 case atStart=>
  refine ⟨#[],[],World.alloc_heap_new W _,(Below.heap_alloc _ _ b (by omega)).trans hb1,by simp,Came.nil es, ?_⟩
  exact hJ [] W _ none h0 (World.grownBy_alloc W _ none) (fun r e=>by cases e)
 case round=>
  obtain ⟨seen,is,hr1,hr2,hr3,hC,hJs⟩:=hrel
  gi_wp2_with (first
   | (gi_at_next;refine b5V _ rfl _ rfl W.heap.size b clk es seen rfl hr1 hr2 hborn ?_ ?_)
   | gi_in)
  ·intro hl0
   gi_wp2
   go_end0
   refine ⟨⟨_,rfl⟩,.inl ⟨_, ?_,hJs⟩⟩
   have hp:=hC.all hnd hl0
   have hlen:es.size=l.length:=by have:=congrArg List.length hval;simpa using this
   rw[hlen]at hp
   have:=hp.map fun i=>l.getD i default
   rwa [range_getD_map]at this
  ·intro e w2 he hst
   obtain ⟨i,hi,hC2⟩:=hC.step hnd he
   have hil:i<es.size:=(Array.getElem?_eq_some_iff.1 hi).1
   have hlen:es.size=l.length:=by have:=congrArg List.length hval;simpa using this
   have hv:e.val=.agg (cl (l.getD i default)).toArray:=by
    have:=congrArg (fun q=>q[i]?) hval
    simp only[List.getElem?_map,Array.getElem?_toList,hi,Option.map_some]at this
    rw[List.getElem?_eq_getElem (by omega)]at this
    simpa[List.getD,show i<l.length by omega]using this
   have hmem:e∈es.toList:=by
    rw[List.mem_iff_getElem?]
    exact ⟨i,by rw[Array.getElem?_toList];exact hi⟩
   have hne:b≠W.heap.size:=by omega
   have hb2:w2.heap[b]?=some (.map es clk):=(hst.grown.block b (by omega) (by simpa using hne)).trans hr2
   have hJ2:=hJ _ _ w2 _ hJs hst.grown (fun r e=>by cases e;exact ⟨Nat.le_refl _,_,hr1,rfl⟩)
   have hs2:=hst.size
   have hWr:W.heap.size<wr.heap.size:=(Array.getElem?_eq_some_iff.1 hr1).1
   have hr2':=hst.at_
   obtain ⟨x,hx⟩:∃ x,l.getD i default=x:=⟨_,rfl⟩
   rw[hx]at hv
   have hJ3:J (is.map fun i=>l.getD i default) (w2.alloc (.cells (cl x).toArray 31)):=hJ _ _ _ none hJ2 (World.grownBy_alloc w2 _ none) (fun r e=>by cases e)
   have hlt:(is.map fun i=>l.getD i default).length<l.length:=by
    have:=b0a _ _ hC2.nd hC2.lt
    simp at this ⊢;omega
   obtain ⟨fn,tmps,assign,body,hy,hR⟩:=hY _ x _ hJ3 hlt
   have hcs:(cl x).toArray.size=34:=by simp[hcl]
   have hone:∀ u∈(cl x).toArray.toList,u.oneCell'=true:=by simpa using h1 x
   have hso:∀ w,(Go.sizeOf 31).run Tryz.prog w=.ok (cl x).toArray.size w:=fun w=>by rw[hcs];exact Tryz.sizeOf31 w
   generalize (cl x).toArray=c at hv hy hR hcs hone hso
   clear hJ3 hJ2 hJs h1 hcl
   gi_wp2_with (first
    | (refine b4g _ rfl _ rfl W.heap.size b clk es seen e rfl hr2' hb2 hmem hnd ?_)
    | (refine a9S _ rfl rfl _ _ 31 rfl 34 (by kernel_rfl) wr.heap.size _ c 31 rfl (alloc_at hs2 _) rfl rfl hcs hone ?_;rw[alloc_setRow2 hs2])
    | (refine b1P _ rfl _ 31 rfl wr.heap.size c 31 Tryz.isAgg31 hso rfl (alloc_at hs2 _) ?_)
    | gi_in)
   refine hR.mono ?_
   rintro e2 W3 (⟨rfl,hJ4,hk3⟩ | ⟨rfl,hJx4⟩)
   ·gi_wp2
    have ha:(w2.alloc (.cells c 31)).heap[W.heap.size]?=some (.mapIter (some b) clk (seen.push e.born) clk):=(Below.heap_alloc _ _ _ (by omega)).trans hr2'
    have hb3:(w2.alloc (.cells c 31)).heap[b]?=some (.map es clk):=(Below.heap_alloc _ _ _ (by omega)).trans hb2
    have ha3:=hk3.same _ _ ha rfl
    go_roundw
    case rel=>
     refine ⟨_,is++[i],ha3,hk3.same _ _ hb3 rfl, ?_,hC2, ?_⟩
     ·have:=hk3.size;simp at this;omega
     ·rw[List.map_append,List.map_singleton,hx];exact hJ4
    case measure=>
     have q1:b5z W3 W.heap.size=seen.size+1:=by simp[b5z,ha3]
     have q2:b5z wr W.heap.size=seen.size:=by simp[b5z,hr1]
     have q3:=hC2.size
     have q4:=b0a _ _ hC2.nd hC2.lt
     simp only[Array.size_push,List.length_append,List.length_singleton]at q3 q4
     rw[q1,q2];omega
   ·gi_wp2
    (try simp only[Exit.inBlock,Exit.then]);refine bodyPost_ret (results_none rfl _ _ _) rfl ?_
    exact ⟨⟨_,rfl⟩,.inr ⟨_,trivial,hJx4⟩⟩

structure ApI {α:Type} (cl:α→List Value) (w:World) (xs:List α) (W:World):Prop where
 box:∃ v,W.heap[w.heap.size]?=some (.cells #[v] 47 (0,0))∧W.ownsRow w.heap.size 31 34 v xs.length (xs.flatMap cl)
 below:Below w.heap.size w W
theorem ApI.own{α:Type}(cl:α→List Value)(w:World)(B:Nat)(hB:w.heap.size≤B):OwnFrom B (ApI cl w):=by
 intro xs W W' row h hg hr
 obtain ⟨v,hv,hrow⟩:=h.box
 refine ⟨⟨v,(grownBy_keeps_cells hg (fun r e=>(hr r e).2) hv rfl).trans hv,row_own hrow hg fun r e=>(hr r e).2⟩,h.below.grown hg h.below.size fun k e=>Nat.le_trans hB (hr k e).1⟩
set_option maxRecDepth 100000 in
set_option maxHeartbeats 4000000 in
theorem va_app{α:Type}[Inhabited α](cl:α→List Value)(hcl:∀ x,(cl x).length=34)(h1:∀ x, ∀ u∈cl x,u.oneCell'=true)(F:Fence)(n:Nat)(hf:F.fn 181)
    (hf2:F.fn 215) (hro:F.round=none) (hn:3≤n)
    (bx b:Nat) (es:Array MapEntry) (clk:Nat) (l:List α) (w:World) (tb:TypeId) (hbx:w.heap[bx]?=some (.cells #[.map (some b)] tb (0,0))) (hb:w.heap[b]?=some (.map es clk))
    (hval:es.toList.map (·.val)=l.map fun x=>.agg (cl x).toArray) (hborn:∀ x∈es.toList,x.born<clk) (hnd:(es.toList.map (·.born)).Nodup) (hl:l.length≤1000000):
    CallsIn F n Tryz.prog 215 #[.slice none 0 0,.func (.func 181) #[] #[.pointer (some ⟨bx,0,none⟩)]] w fun e W'=>
      ∃ (v:Value) (xs:List α),e=.returned v∧xs.Perm l∧W'.ownsRow w.heap.size 31 34 v xs.length (xs.flatMap cl)∧Below w.heap.size w W':=by
  have hbxl:bx<w.heap.size:=(Array.getElem?_eq_some_iff.1 hbx).1
  have hbl:b<w.heap.size:=(Array.getElem?_eq_some_iff.1 hb).1
  have hmx:maxLen=9223372036854775807:=rfl
  refine callsIn_of_wp_marks Tryz.func215 rfl hf2 ?_ hro
  simp only[Tryz.ntmps215,List.size_toArray,List.length_cons,List.length_nil,Nat.reduceAdd,Nat.reduceSub,Array.replicate_succ,Array.replicate_zero,List.push_toArray,List.append_toArray,List.nil_append,List.cons_append]
  gi_wp2
  obtain ⟨W0,hW0⟩:∃ W0,w.alloc (.cells #[.slice none 0 0] 47)=W0:=⟨_,rfl⟩
  rw[hW0]
  have hs0:W0.heap.size=w.heap.size+1:=by rw[← hW0];simp
  have hv0:W0.heap[w.heap.size]?=some (.cells #[.slice none 0 0] 47 (0,0)):=by rw[← hW0];exact World.alloc_heap_new w _
  have hB0:Below w.heap.size w W0:=by rw[← hW0];exact (Below.refl _ w).alloc (Nat.le_refl _) _
  have hbx0:W0.heap[bx]?=some (.cells #[.map (some b)] tb (0,0)):=(hB0.block bx hbxl).trans hbx
  have hb0:W0.heap[b]?=some (.map es clk):=(hB0.block b hbl).trans hb
  obtain ⟨i0,hi,hz0,hz1,hz2⟩:=info_parts (P:=Tryz.prog) (e:=31) (z:=.agg (Array.mk ([.int .i64 0,.int .i64 0]++List.replicate 32 (.int .u8 0)))) (size:=34) (bytes:=48) (by kernel_rfl)
  refine walk_seq (pt:=7) hro (by omega) (gf:=181) (lb := #[.pointer (some ⟨bx,0,none⟩)]) rfl hf (enters_of Tryz.func181 (by kernel_rfl) rfl)
    (va_iter cl hcl h1 F (n - 1) hf hro (by omega) bx b es clk l W0 tb hbx0 hb0 hval hborn hnd) (ApI cl w) (ApI.own cl w _ (by omega)) ⟨⟨_,hv0,⟨rfl,.inl ⟨rfl,rfl⟩⟩⟩,hB0⟩
    (fun x=>.cells (cl x).toArray 31 (0,0)) (fun _=>rfl)
    (fun x p=>{ tmps := #[.slice none 0 0,.func (.func 181) #[] #[.pointer (some ⟨bx,0,none⟩)],.pointer (some ⟨w.heap.size,0,none⟩),undef,.slice none 0 0,.pointer (some ⟨p,0,none⟩),.func (.func 181) #[] #[.pointer (some ⟨bx,0,none⟩)],.agg (cl x).toArray,undef,undef,undef,undef,undef],defers:=[] }) ?_ ?_ ?_
  · intro lp x W K hK
    have hcs:(cl x).toArray.size=34:=by simp[hcl]
    have hone:∀ u∈(cl x).toArray.toList,u.oneCell'=true:=by simpa using h1 x
    generalize (cl x).toArray=c at hK hcs hone
    gi_wp2_with (first
      | (refine a9S _ rfl rfl _ _ 31 rfl 34 (by kernel_rfl) W.heap.size _ c 31 rfl (alloc_at rfl _) rfl rfl hcs hone ?_;rw[alloc_setRow2 rfl])
      | (rw[Oper.semAt_eq _ _ _ (fun c h=>by cases h)];go_simp;try go_bits))
    exact hK
  · intro lp pre x W p hI hlen hp hwp
    obtain ⟨⟨v,hv,hrow⟩,hbel⟩:=hI
    have hcv:W.cell? ⟨w.heap.size,0,none⟩=some v:=by simp[World.cell?,hv]
    have hfv:W.frozen? ⟨w.heap.size,0,none⟩=false:=by simp[World.frozen?,hv]
    have hBlt:w.heap.size<W.heap.size:=(Array.getElem?_eq_some_iff.1 hv).1
    have hcs:(cl x).toArray.size=34:=by simp[hcl]
    have hso:∀ w,(Go.sizeOf 31).run Tryz.prog w=.ok (cl x).toArray.size w:=fun w=>by rw[hcs];exact Tryz.sizeOf31 w
    have hcell:∀ j u,(cl x)[j]?=some u→(W.alloc (.cells (cl x).toArray 31)).cell? ((⟨W.heap.size,0,none⟩:Addr).add j)=some u:=by
      intro j u hj
      rw[a0B,cell_of_row _ _ _ _ _ _ (World.alloc_heap_new W _)]
      simpa using hj
    have hlcl:=hcl x
    have hfm:(pre++[x]).flatMap cl=pre.flatMap cl++cl x:=by simp
    have hone:=h1 x
    have hne:some w.heap.size≠v.ownBlock:=by
      rcases hrow.2 with ⟨rfl,_⟩ | ⟨g,cap,cur,rfl,_,hgb,_⟩
      · simp[Value.ownBlock]
      · intro e
        have e':w.heap.size=g:=by simpa[Value.ownBlock]using e
        subst e'
        rw[hv]at hgb
        cases hgb
    gi_wp2_with (first
      | (refine b1P _ rfl _ 31 rfl p (cl x).toArray 31 Tryz.isAgg31 hso rfl hp ?_)
      | (refine b8r _ rfl _ 47 31 rfl i0 Tryz.underlying47 hi _ hz0 34 hz1 rfl (by omega) (by omega) (cl x).toArray rfl hcs ?_)
      | (gi_at_builtin;refine wpListIn_append_own _ rfl _ _ 47 rfl w.heap.size 31 i0 _ 34 48 Tryz.underlying47 hi hz0 hz1 hz2 rfl (by decide) _ _ _ rfl (hrow.alloc _) ⟨W.heap.size,0,none⟩ 1 1 (cl x) rfl (by rw[hlcl]) hcell hone (by omega) (by omega) (by simp;omega) ?_;intro v' w3 hown' hg3 hnil3
         have hv3:w3.heap[w.heap.size]?=some (.cells #[v] 47 (0,0)):=(hg3.block w.heap.size (by simp;omega) hne).trans ((Below.heap_alloc _ _ _ hBlt).trans hv)
         have hcv3:w3.cell? ⟨w.heap.size,0,none⟩=some v:=by simp[World.cell?,hv3]
         have hfv3:w3.frozen? ⟨w.heap.size,0,none⟩=false:=by simp[World.frozen?,hv3]
         obtain ⟨g',cap',cur',rfl,hg'⟩:∃ g' cap' cur',v'=.slice (some ⟨g',0,none⟩) (pre.length+1) cap'∧w3.heap[g']?=some (.cells cur' 31 (0,0)):=by
           rcases hown'.2 with ⟨_,h0⟩ | ⟨g',cap',cur',e,_,q,_⟩
           · exact absurd h0 (by omega)
           · exact ⟨g',cap',cur',e,q⟩)
      | (rw[Oper.semAt_eq _ _ _ (fun c h=>by cases h)];go_simp;try go_bits))
    have hgs:=a9V w3 w.heap.size (.slice (some ⟨g',0,none⟩) (pre.length+1) cap')
    have hne2:(Value.slice (some ⟨g',0,none⟩) (pre.length+1) cap').ownBlock≠some w.heap.size:=by
      intro e
      have e':g'=w.heap.size:=by simpa[Value.ownBlock]using e
      subst e'
      rw[hv3]at hg'
      cases hg'
    have hrc:∀ (j:Nat) (o:Obj),v.ownBlock=some j→(W.alloc (.cells (cl x).toArray 31)).heap[j]?=some o→o.isCells=true:=by
      intro j o hj ho
      rcases (hrow.alloc (.cells (cl x).toArray 31)).2 with ⟨rfl,_⟩ | ⟨g,cap,cur,rfl,_,hgb,_⟩
      · simp[Value.ownBlock]at hj
      · have:g=j:=by simpa[Value.ownBlock]using hj
        subst this;rw[hgb]at ho;cases ho;rfl
    have hb3:Below w.heap.size w w3:=(hbel.alloc hbel.size _).grown hg3 (by have:=hbel.size;simp;omega) (fun k e=>(hrow.lt k e).1)
    refine ⟨((KeepsOthers.alloc W _).trans (KeepsOthers.of_grownBy hg3 hrc)).trans (KeepsOthers.setCell _ _ _),⟨⟨_,heap_setCell_one _ hv3, ?_⟩,hb3.grown hgs hb3.size (fun k e=>by cases e;exact Nat.le_refl _)⟩⟩
    rw[hfm,List.length_append,List.length_singleton]
    exact hown'.kept hgs (.inr hne2)
  · intro D xs W hD hS hI hK
    obtain ⟨⟨v,hv,hrow⟩,hbel⟩:=hI
    have hcv:W.cell? ⟨w.heap.size,0,none⟩=some v:=by simp[World.cell?,hv]
    gi_wp2
    refine ⟨by simp,.inl ⟨_,_,rfl,run_takeDeferred hK, ?_⟩⟩
    have hgp:=grownBy_putObj' W D (.deferred none)
    exact ⟨_,results_tmp rfl _ _ _,v,xs,rfl,hS,row_own hrow hgp (fun r e=>by cases e;exact ⟨_,hK,rfl⟩),hbel.grown hgp hbel.size (fun k e=>by cases e;omega)⟩
end
end Go.Proofs.YtfgihnhoocnmdaaGreatDoor
