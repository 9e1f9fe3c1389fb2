import Derived.Test.YtgdhinnepnlihaaGreatDoorK20
import Derived.Test.YtgdhinnepnlihaaGreatDoorK22
import Derived.Test.YtgdhinnepnlihaaGreatDoorK23
import Derived.Test.YtgdhinnepnlihaaGreatDoorK17
import Derived.Test.YtgdhinnepnlihaaGreatDoorK21
namespace Go.Proofs.YtgdhinnepnlihaaGreatDoor
set_option linter.all false
set_option maxHeartbeats 9000000
section
open Go.RowKit
set_option maxRecDepth 100000
theorem CallO_exr{P:Program}{d:Option Nat}{s:St}{K:St→Prop}{α:Type}{f:Nat}{vs:List AV}{r:α→AV}{o1:List (Nat × List AV)}{o2:α→List (Nat × List AV)}{p:α→Prop}
  (h:CT P f vs (lk o1) (fun r' o'=>∃ x,p x∧r'=r x∧o'=lk (o2 x))) (hsub:∀ b cs,lk o1 b=some cs→s.o b=some cs)
  (hK:∀ x,p x→(∀ b cs,lk (o2 x) b=some cs→lk o1 b=none→s.o b=none)→KS (St.put ⟨s.t,ovr (o2 x) s.o⟩ d (r x)) K):a7h P f vs d s K:=by
 refine ⟨lk o1,_,hsub,h, ?_⟩
 rintro r' o' ⟨x,hx,rfl,rfl⟩ hf
 exact hK x hx hf
theorem ro_exr{s:St}{rs:List AR}{o1:List (Nat × List AV)}{α:Type}{r:α→AV}{o2:α→List (Nat × List AV)}{q:α→Prop}(x:α)(h:a0z s rs (r x)∧LeL (o2 x) s.o)(hq:q x)
  (hd:∀ b cs,lk o1 b=some cs→∃ cs',lk (o2 x) b=some cs'):b4s s rs (lk o1) (fun r' o'=>∃ x,q x∧r'=r x∧o'=lk (o2 x)):=
 ⟨_,h.1,lk (o2 x),LeL_ok h.2,hd,x,hq,rfl,rfl⟩
theorem b3B(a b:Int):a4M [.i] false (.int .i64 a) (.int .i64 b)=some (decide (a=b)):=by simp[a4M,eqC,eq1]
abbrev mpI(L:List BlkC):AV:=.mp ((hgs L).map (AV.int .i64 ·)) (L.map fun b=>.agg b.cs) (List.range L.length) L.length
abbrev ixO(p m:Nat)(c:List UInt8)(top:Int)(L:List BlkC):List (Nat × List AV):=[(p,[.str c,.int .i64 top,.mapv m]),(m,[mpI L])]
theorem lookH_no{L:List BlkC}{h:Int}(hf:a1r L h=none):a3k [.i] false (.int .i64 h) ((hgs L).map (AV.int .i64 ·))=some none:=findM_no _ _ _ b3B _ _ (findH_no hf)
theorem c1H:∀ {L:List BlkC} {h:Int} {b:BlkC},a1r L h=some b→∃ i,(hgs L).idxOf? h=some i∧L[i]?=some b
 | [],h,b,hf=>by simp[a1r]at hf
 | x::L,h,b,hf=>by
  simp only[a1r,List.find?_cons]at hf
  by_cases hx:x.h=h
  ·simp only[hx,decide_true,Option.some.injEq]at hf
   exact ⟨0,by simp[hgs,List.idxOf?_cons,hx],by simp[hf]⟩
  ·simp only[hx,decide_false]at hf
   obtain ⟨i,h1,h2⟩:=c1H (L:=L) (h:=h) (b:=b) hf
   exact ⟨i+1,by simp only[hgs]at h1;simp[hgs,List.idxOf?_cons,hx,h1],by simpa using h2⟩
theorem lookH_yes{L:List BlkC}{h:Int}{b:BlkC}(hf:a1r L h=some b):∃ i,i<L.length∧a3k [.i] false (.int .i64 h) ((hgs L).map (AV.int .i64 ·))=some (some i)∧(L.map fun b=>AV.agg b.cs).getD i .undef=.agg b.cs∧(L.map fun b=>AV.agg b.cs).set i (.agg b.cs)=L.map fun b=>AV.agg b.cs:=by
 obtain ⟨i,h1,h2⟩:=c1H hf
 have hi:i<L.length:=(List.getElem?_eq_some_iff.1 h2).1
 refine ⟨i,hi,by rw[findM_map _ _ _ b3B,h1],by simp[List.getD,h2], ?_⟩
 apply List.ext_getElem?
 intro j
 rw[List.getElem?_set]
 split
 ·rename_i e;subst e;rw[if_pos (by simpa using hi),List.getElem?_map,h2];rfl
 ·rfl
theorem sxIxa{A B:Prop}(h:B)(e:A=B:=by (simp (disch:=omega) only[*, ↓Ed,Eu, ↓reduceIte,reduceCtorEq,Nat.reduceAdd,Nat.reduceEqDiff,Nat.reduceLT,Nat.reduceLeDiff,Int.reduceToNat,Int.reduceEq,Int.reduceLT,Int.reduceLE,w64,List.length_append,List.length_map,Nat.mul_one,beq_self_eq_true,PktC.cs,EvC.cs,BlkC.cs,EntC.cs,KeyC.cs,a0h,Int.reduceAdd,a0e,a0d];first|done|rfl)):A:=e▸h
theorem b6n(c:List UInt8)(top:Int)(hc:c.length≤1000000)(h1:a2T c=true)(h2:0≤top∧top≤1099511627776):
  CT Tryz.prog 11 [.str c,.int .i64 top] (lk []) (fun r o=>∃ x:Nat × Nat,(¬ x.1=x.2∧¬ x.2=x.1)∧r=.tup [.ptr x.1 0,.int .i64 0]∧o=lk (ixO x.1 x.2 c top [])):=by
 have hN:=b0P c (by omega)
 rw[h1]at hN
 have f1:a0a (decide (top<0)=false):=fo
 have f2:a0a (decide (1099511627776<top)=false):=fo
 refine a9T _ _ _ (by simp) ?_
 simp only[a1T];refine sxIxa ?_
 repeat' ((first|exact tt|refine CallO_pure (hN) ?_|refine na fun b=>?_|refine nb fun b hb=>?_|refine iq ?_|(refine jq ?_ ?_<;>intro h h')|refine Two_intro ?_ ?_|exact wZ|fail)<;>try refine sxIxa ?_)
 rename_i m
 exact ro_exr (b,m) (by simp[LeL,lk,hb,r_two,rl_cons,rl_nil,arR,al_int,al_ptr,hgs]) hb (fun _ _ h=>by simp[lk]at h)
theorem b7f(c:List UInt8)(top:Int)(hc:c.length≤1000000)(h1:a2T c=false):CP Tryz.prog 11 [.str c,.int .i64 top] (.tup [.nilp,.int .i64 6]):=by
 have hN:=b0P c (by omega)
 rw[h1]at hN
 refine a7c _ _ (by simp) ?_
 simp only[a1T];refine sxIxa ?_
 repeat' ((first|exact tt|refine CallO_pure (hN) ?_|refine na fun b=>?_|refine nb fun b hb=>?_|refine iq ?_|(refine jq ?_ ?_<;>intro h h')|refine Two_intro ?_ ?_|exact wZ|fail)<;>try refine sxIxa ?_)
theorem b7g(c:List UInt8)(top:Int)(hc:c.length≤1000000)(h1:a2T c=true)(h2:¬ (0≤top∧top≤1099511627776)):CP Tryz.prog 11 [.str c,.int .i64 top] (.tup [.nilp,.int .i64 1]):=by
 have hN:=b0P c (by omega)
 rw[h1]at hN
 refine a7c _ _ (by simp) ?_
 by_cases h3:top<0
 ·have f1:a0a (decide (top<0)=true):=fo
  simp only[a1T];refine sxIxa ?_
  repeat' ((first|exact tt|refine CallO_pure (hN) ?_|refine na fun b=>?_|refine nb fun b hb=>?_|refine iq ?_|(refine jq ?_ ?_<;>intro h h')|refine Two_intro ?_ ?_|exact wZ|fail)<;>try refine sxIxa ?_)
 ·have f1:a0a (decide (top<0)=false):=fo
  have f2:a0a (decide (1099511627776<top)=true):=fo
  simp only[a1T];refine sxIxa ?_
  repeat' ((first|exact tt|refine CallO_pure (hN) ?_|refine na fun b=>?_|refine nb fun b hb=>?_|refine iq ?_|(refine jq ?_ ?_<;>intro h h')|refine Two_intro ?_ ?_|exact wZ|fail)<;>try refine sxIxa ?_)
theorem dom2'{α:Type}{o1 o2:List (Nat × α)}(h:o1.map (·.1)=o2.map (·.1)):∀ b cs,lk o1 b=some cs→∃ cs',lk o2 b=some cs':=by
 induction o1 generalizing o2 with
 | nil=>intro b cs hb;simp[lk]at hb
 | cons x r ih=>
  cases o2 with
  | nil=>simp at h
  | cons y q=>
   simp only[List.map_cons,List.cons.injEq]at h
   intro b cs hb
   obtain ⟨k,v⟩:=x
   obtain ⟨k',v'⟩:=y
   simp only at h
   obtain ⟨rfl,h2⟩:=h
   rw[lk_cons]at hb ⊢
   by_cases e:b=k
   ·rw[if_pos e];exact ⟨_,rfl⟩
   ·rw[if_neg e]at hb ⊢;exact ih h2 b cs hb
theorem b6m(p m:Nat)(hpm:¬ p=m∧¬ m=p)(c:List UInt8)(top:Int)(L:List BlkC)(s:List UInt8)(hs:s.length≤1000000)(hL:∀ b∈L,a8F b.e):
  CT Tryz.prog 13 [.ptr p 0,.str s] (lk (ixO p m c top L)) (fun r o=>r=.int .i64 (a5F c top L s).2∧o=lk (ixO p m c top (a5F c top L s).1)):=by
 have hO:=b7e s (by omega)
 have hl:=a8q s
 have hD:=b8S (a0F s).1 (by omega)
 have hE:=decB_sm (s:=(a0F s).1) (by omega)
 refine a5v _ _ _ (by simp) ?_
 rcases a6q c top L s with ⟨a1,g⟩ | ⟨a1,⟨a2,g⟩ | ⟨a2,b,hb,hcs⟩⟩
 ·rw[g]
  have f1:a0a (decide ((a0F s).2=0)=false):=by simpa[a0a]using a1
  clear a1 g hD hE hl hs hL
  generalize a0F s=F at *
  simp only[a0s];refine sxIxa ?_
  repeat' ((first|exact tt|refine CallO_pure (hO) ?_|refine na fun b=>?_|refine nb fun b hb=>?_|refine iq ?_|(refine jq ?_ ?_<;>intro h h')|refine Two_intro ?_ ?_|exact wZ|fail)<;>try refine sxIxa ?_)
  all_goals exact ro_mk (by simp[LeL,lk,hpm,a0z,arR]) (dom2' rfl)
 ·rw[g]
  rw[a1]at hO
  have f1:a0a (decide ((a3z (a0F s).1).2=0)=false):=by simpa[a0a]using a2
  clear a1 a2 g hE hl hs hL
  generalize a3z (a0F s).1=D at *
  generalize a0F s=F at *
  simp only[a0s];refine sxIxa ?_
  repeat' ((first|exact tt|refine CallO_pure (hO) ?_|refine CallO_pure (hD) ?_|refine na fun b=>?_|refine nb fun b hb=>?_|refine iq ?_|(refine jq ?_ ?_<;>intro h h')|refine Two_intro ?_ ?_|exact wZ|fail)<;>try refine sxIxa ?_)
  all_goals exact ro_mk (by simp[LeL,lk,hpm,a0z,arR]) (dom2' rfl)
 rw[hb]at hE
 have hD':CP Tryz.prog 61 [.str (a0F s).1] (.tup [.agg b.cs,.int .i64 0]):=by rw[hb,a2]at hD;exact hD
 rw[a1]at hO
 clear hD hb a2 a1 hl hs
 cases h5:a1r L b.h with
 | none=>
  have hf:=lookH_no h5
  rcases hcs with ⟨q1,g⟩ | ⟨rfl,⟨q2,g⟩ | ⟨q2,⟨q3,g⟩ | ⟨q3,g⟩ | ⟨b',q3,q4,g⟩⟩⟩
  ·rw[g]
   have f1:a0a (decide (b.c=c)=false):=by simpa[a0a]using q1
   clear q1 h5
   clear g hE hL
   generalize a0F s=F at *
   simp only[a0s];refine sxIxa ?_
   repeat' ((first|exact tt|refine CallO_pure (hO) ?_|refine CallO_pure (hD') ?_|refine na fun b=>?_|refine nb fun b hb=>?_|refine iq ?_|(refine jq ?_ ?_<;>intro h h')|refine Two_intro ?_ ?_|exact wZ|fail)<;>try refine sxIxa ?_)
   all_goals exact ro_mk (by simp[LeL,lk,hpm,a0z,arR]) (dom2' rfl)
  ·rw[g]
   have f2:a0a (decide (top<b.h)=true):=by simpa[a0a]using q2
   clear q2 h5
   clear g hE hL
   generalize a0F s=F at *
   simp only[a0s];refine sxIxa ?_
   repeat' ((first|exact tt|refine CallO_pure (hO) ?_|refine CallO_pure (hD') ?_|refine na fun b=>?_|refine nb fun b hb=>?_|refine iq ?_|(refine jq ?_ ?_<;>intro h h')|refine Two_intro ?_ ?_|exact wZ|fail)<;>try refine sxIxa ?_)
   all_goals exact ro_mk (by simp[LeL,lk,hpm,a0z,arR]) (dom2' rfl)
  ·rw[g]
   have f2:a0a (decide (top<b.h)=false):=fo
   clear q2 q3 h5
   clear g hE hL
   generalize a0F s=F at *
   simp only[a0s];refine sxIxa ?_
   repeat' ((first|exact tt|refine CallO_pure (hO) ?_|refine CallO_pure (hD') ?_|refine na fun b=>?_|refine nb fun b hb=>?_|refine iq ?_|(refine jq ?_ ?_<;>intro h h')|refine Two_intro ?_ ?_|exact wZ|fail)<;>try refine sxIxa ?_)
   all_goals exact ro_mk (by simp[LeL,lk,hpm,a0z,arR,hgs,List.range_succ]) (dom2' rfl)
  ·rw[h5]at q3;cases q3
  ·rw[h5]at q3;cases q3
 | some b0=>
  obtain ⟨i,hi,hf,hv,hset⟩:=lookH_yes h5
  have hS:=b6Y b0 b (hL b0 (findH_some h5).1).1 hE.1
  rcases hcs with ⟨q1,g⟩ | ⟨rfl,⟨q2,g⟩ | ⟨q2,⟨q3,g⟩ | ⟨q3,g⟩ | ⟨b',q3,q4,g⟩⟩⟩
  ·rw[g]
   have f1:a0a (decide (b.c=c)=false):=by simpa[a0a]using q1
   clear q1 h5 hS hset
   clear g hE hL
   generalize a0F s=F at *
   simp only[a0s];refine sxIxa ?_
   repeat' ((first|exact tt|refine CallO_pure (hO) ?_|refine CallO_pure (hD') ?_|refine na fun b=>?_|refine nb fun b hb=>?_|refine iq ?_|(refine jq ?_ ?_<;>intro h h')|refine Two_intro ?_ ?_|exact wZ|fail)<;>try refine sxIxa ?_)
   all_goals exact ro_mk (by simp[LeL,lk,hpm,a0z,arR]) (dom2' rfl)
  ·rw[g]
   have f2:a0a (decide (top<b.h)=true):=by simpa[a0a]using q2
   clear q2 h5 hS hset
   clear g hE hL
   generalize a0F s=F at *
   simp only[a0s];refine sxIxa ?_
   repeat' ((first|exact tt|refine CallO_pure (hO) ?_|refine CallO_pure (hD') ?_|refine na fun b=>?_|refine nb fun b hb=>?_|refine iq ?_|(refine jq ?_ ?_<;>intro h h')|refine Two_intro ?_ ?_|exact wZ|fail)<;>try refine sxIxa ?_)
   all_goals exact ro_mk (by simp[LeL,lk,hpm,a0z,arR]) (dom2' rfl)
  ·rw[h5]at q3;cases q3
  ·rw[g]
   have f2:a0a (decide (top<b.h)=false):=fo
   obtain rfl:b0=b:=by rw[h5]at q3;exact Option.some.inj q3
   rw[decide_eq_true rfl]at hS
   clear q2 q3 h5
   clear g hE hL
   generalize a0F s=F at *
   simp only[a0s];refine sxIxa ?_
   repeat' ((first|exact tt|refine CallO_pure (hO) ?_|refine CallO_pure (hD') ?_|refine CallO_pure (hS) ?_|refine na fun b=>?_|refine nb fun b hb=>?_|refine iq ?_|(refine jq ?_ ?_<;>intro h h')|refine Two_intro ?_ ?_|exact wZ|fail)<;>try refine sxIxa ?_)
   all_goals exact ro_mk (by simp[LeL,lk,hpm,a0z,arR,hset]) (dom2' rfl)
  ·rw[g]
   have f2:a0a (decide (top<b.h)=false):=fo
   obtain rfl:b0=b':=by rw[h5]at q3;exact Option.some.inj q3
   rw[decide_eq_false q4]at hS
   clear q2 q3 q4 h5 hset
   clear g hE hL
   generalize a0F s=F at *
   simp only[a0s];refine sxIxa ?_
   repeat' ((first|exact tt|refine CallO_pure (hO) ?_|refine CallO_pure (hD') ?_|refine CallO_pure (hS) ?_|refine na fun b=>?_|refine nb fun b hb=>?_|refine iq ?_|(refine jq ?_ ?_<;>intro h h')|refine Two_intro ?_ ?_|exact wZ|fail)<;>try refine sxIxa ?_)
   all_goals exact ro_mk (by simp[LeL,lk,hpm,a0z,arR]) (dom2' rfl)
theorem hgs_bd{L:List BlkC}(h:∀ b∈L,a3J b=true):∀ x∈hgs L,0≤x∧x≤mxN:=by
 intro x hx
 obtain ⟨b,hb,rfl⟩:=List.mem_map.1 hx
 obtain ⟨_,_,⟨h1,h2⟩,_⟩:=mayB_to (h b hb)
 have:mxN=72057594037927935:=rfl
 omega
theorem a6J(p m:Nat)(hpm:¬ p=m∧¬ m=p)(c:List UInt8)(top:Int)(L:List BlkC)(hN:(hgs L).Nodup)(hm:∀ b∈L,a3J b=true)(hl:L.length≤100000):
  CT Tryz.prog 16 [.ptr p 0] (lk (ixO p m c top L)) (fun r o=>r=.sl (some 3) 1 (ixs (hsI L))∧o=lk (ixO p m c top L)):=by
 have hS:=fun bx (h:¬ bx=m)=>b2M bx m h (hgs L) (L.map fun b=>.agg b.cs) hN (by simpa[hgs]using hl) (hgs_bd hm)
 have hlen:(hgs L).length=L.length:=by simp[hgs]
 rw[hlen]at hS
 refine a3P _ _ _ (by simp) ?_
 simp only[a2p];refine sxIxa ?_
 repeat' ((first|exact tt|refine CallO_newR (R:=fun b=>.clo _ [.ptr b 0]) (b4N m) ?_|refine na fun b=>?_|refine nb fun b hb=>?_|refine iq ?_|(refine jq ?_ ?_<;>intro h h')|refine Two_intro ?_ ?_|exact wZ|fail)<;>try refine sxIxa ?_)
 have hb':(¬b=p∧¬p=b)∧¬b=m∧¬m=b:=by simpa using hb
 refine CallO_det (hS b hb'.2.1) (lk_sub2 (lk_hd _ _ _) (lk_tl hb'.2.2 (lk_tl hpm.2 (lk_hd _ _ _)))) ?_
 refine sxIxa ?_
 repeat' ((first|exact tt|refine na fun b=>?_|refine nb fun b hb=>?_|refine iq ?_|(refine jq ?_ ?_<;>intro h h')|refine Two_intro ?_ ?_|exact wZ|fail)<;>try refine sxIxa ?_)
 exact ro_mk (by simp[LeL,lk,hpm,hb',a0z,arR,ixs,hsI]) (dom2' rfl)
theorem b2e(l:List EvC)(hl:l.length≤1000000):CP Tryz.prog 66 [.sl none 13 (evl l)] (.sl (some 139) 13 (evl l)):=by
 obtain ⟨i0,hi,hz0,hz1,hz2⟩:=info_parts (P:=Tryz.prog) (e:=139) (z:=.agg #[.int .i64 0,.string ⟨#[]⟩,.int .i64 0,.string ⟨#[]⟩,.int .i64 0,.int .i64 0,.string ⟨#[]⟩,.int .i64 0,.int .i64 0,.string ⟨#[]⟩,.string ⟨#[]⟩,.int .i64 0,.int .i64 0]) (size:=13) (bytes:=144) (by kernel_rfl)
 exact b1F Tryz.cln66 i0 _ 13 144 hi hz0 hz1 hz2 rfl (by omega) Tryz.sizeOf139 (evl l) (by simp[evl];omega) (by simp[evl,maxLen];omega) (fun e he=>by obtain ⟨x,_,rfl⟩:=List.mem_map.1 he;rfl) (fun e he=>by obtain ⟨x,_,rfl⟩:=List.mem_map.1 he;rfl)
theorem b5g(l:List Int)(hl:l.length≤1000000):CP Tryz.prog 127 [.sl none 1 (ixs l)] (.sl (some 3) 1 (ixs l)):=by
 obtain ⟨i0,hi,hz0,hz1,hz2⟩:=info_parts (P:=Tryz.prog) (e:=3) (z:=.int .i64 0) (size:=1) (bytes:=8) (by kernel_rfl)
 exact b1F Tryz.cln127 i0 _ 1 8 hi hz0 hz1 hz2 rfl (by omega) Tryz.sizeOf3 (ixs l) (by simp[ixs];omega) (by simp[ixs,maxLen];omega) (fun e he=>by obtain ⟨x,_,rfl⟩:=List.mem_map.1 he;rfl) (fun e he=>by obtain ⟨x,_,rfl⟩:=List.mem_map.1 he;rfl)
theorem b5F(p m:Nat)(hpm:¬ p=m∧¬ m=p)(c:List UInt8)(top:Int)(L:List BlkC)(h:Int)(hL:∀ b∈L,b.e.length≤1000000):
  CT Tryz.prog 17 [.ptr p 0,.int .i64 h] (lk (ixO p m c top L)) (fun r o=>r=.tup [.agg (b2E L h).cs,.bool (a1r L h).isSome]∧o=lk (ixO p m c top L)):=by
 refine a4x _ _ _ (by simp) ?_
 unfold b2E
 cases h5:a1r L h with
 | none=>
  have hf:=lookH_no h5
  have hC:=b2e [] (by simp)
  clear h5 hL
  simp only[a1S];refine sxIxa ?_
  repeat' ((first|exact tt|refine CallO_pure (hC) ?_|refine na fun b=>?_|refine nb fun b hb=>?_|refine iq ?_|(refine jq ?_ ?_<;>intro h h')|refine Two_intro ?_ ?_|exact wZ|fail)<;>try refine sxIxa ?_)
  rename_i b1 h1
  exact ro_mk (by simp[LeL,lk,hpm,hb,h1,r_two,rl_cons,rl_nil,arR,view,l_all,al_agg,al_bool,bkz]) (dom2' rfl)
 | some b0=>
  obtain ⟨i,hi,hf,hv,hset⟩:=lookH_yes h5
  have hC:=b2e b0.e (hL b0 (findH_some h5).1)
  clear h5 hL hset
  simp only[a1S];refine sxIxa ?_
  repeat' ((first|exact tt|refine CallO_pure (hC) ?_|refine na fun b=>?_|refine nb fun b hb=>?_|refine iq ?_|(refine jq ?_ ?_<;>intro h h')|refine Two_intro ?_ ?_|exact wZ|fail)<;>try refine sxIxa ?_)
  rename_i b1 h1
  exact ro_mk (by simp[LeL,lk,hpm,hb,h1,r_two,rl_cons,rl_nil,arR,view,l_all,al_agg,al_bool,bkz]) (dom2' rfl)
end
section
open Go.RowKit
set_option maxRecDepth 100000
theorem rgRow:RowT rgC 2 where
 len x:=rfl
 no x c hc:=by simp[rgC]at hc;rcases hc with rfl|rfl<;>exact ⟨fun t k l h=>(by cases h),fun t h=>(by cases h)⟩
def hcR(cap:Nat)(l:List RgP):List AV:=hc 2 cap (rgs l)
theorem b3z(cap:Nat)(l:List RgP):(hcR cap l).length=(max cap l.length) * 2:=rgRow.len_hc cap l
theorem hcR_get{cap:Nat}{l:List RgP}{i j:Nat}(hi:i<l.length)(hj:j<2):(hcR cap l)[i * 2+j]?=(rgC (l.getD i default))[j]?:=by
 have he:(rgs l)[i]?=some (rgC (l.getD i default)):=by simp[rgs,List.getD,hi]
 exact hc_get (rgRow.all l) he hj
theorem drop_of{α:Type}{L:List α}{p:Nat}{c:α}(h:L[p]?=some c):L.drop p=c::L.drop (p+1):=by
 obtain ⟨h1,h2⟩:=List.getElem?_eq_some_iff.1 h
 rw[List.drop_eq_getElem_cons h1,h2]
theorem b9U(cap:Nat)(l:List RgP)(i:Nat)(hi:i<l.length)(K:AV→Prop):RK (ldR none ((hcR cap l).drop (i * 2+1))) K=K (.int .i64 (l.getD i default).2):=by
 have h:(hcR cap l)[i * 2+1]?=some (.int .i64 (l.getD i default).2):=hcR_get (j:=1) hi (by omega)
 rw[drop_of h]
 exact RK_eq _ _
theorem b9p(cap:Nat)(l:List RgP)(i:Nat)(hi:i<l.length)(v:Int):splice (hcR cap l) (i * 2+1) [.int .i64 v]=hcR cap (l.set i ((l.getD i default).1,v)):=by
 have h:=rgRow.sto cap l i ((l.getD i default).1,v) hi
 have h0:(hcR cap l)[i * 2]?=some (.int .i64 (l.getD i default).1):=hcR_get (j:=0) hi (by omega)
 have h1:(hcR cap l)[i * 2+1]?=some (.int .i64 (l.getD i default).2):=hcR_get (j:=1) hi (by omega)
 show _=hc 2 cap ((l.set i ((l.getD i default).1,v)).map rgC)
 rw[← h]
 show splice (hcR cap l) _ _=splice (hcR cap l) _ _
 have hb:i * 2+2≤(hcR cap l).length:=by
  have:=(List.getElem?_eq_some_iff.1 h1).1;omega
 apply List.ext_getElem?
 intro q
 rw[a0y _ _ _ (by simp;omega),a0y _ _ _ (by simp;omega)]
 simp only[List.length_cons,List.length_nil]
 by_cases hq:q=i * 2
 ·subst hq
  rw[if_neg (by omega),if_pos (by omega),h0];simp
 by_cases hq1:q=i * 2+1
 ·subst hq1
  rw[if_pos (by omega),if_pos (by omega)];simp
 ·rw[if_neg (by omega),if_neg (by omega)]
section
variable {d:Option Nat} {s:St} {K:St→Prop}
theorem rhapB{e:Nat}{own:Option Nat}(x:RgP)(h1:a6K s.o (fun b=>∀ cap',1≤cap'→KS (St.put ⟨s.t,upd s.o b (some (hcR cap' [x]))⟩ d (.hsl b e 2 1 cap')) K)):b0i e 2 16 d s K (.hnil e 2) (.sl own 2 [rgC x]):=
 rgRow.hap_nil (m:=[x]) (rgRow.src_sl s.o own [x]) ⟨by simp,by simp[maxLen]⟩ (fun h=>by cases h) (fun _=>h1)
theorem rhapC{e g n cap:Nat}{own:Option Nat}{l:List RgP}(x:RgP)(h1:a6K (upd s.o g none) (fun b=>∀ cap',n+1≤cap'→KS (St.put ⟨s.t,upd (upd s.o g none) b (some (hcR cap' (l++[x])))⟩ d (.hsl b e 2 (n+1) cap')) K))
  (hb:n≤1000000:=by omega) (hcp:n≤cap:=by omega) (hg:s.o g=some (hcR cap l):=by first|((repeat (first|exact lk_hd _ _ _|(refine lk_tl ?_ ?_;(focus (first|assumption|(simp only[*,not_false_eq_true];done))))));done)|fail) (hl:l.length=n:=by first|rfl|assumption|((try simp only[List.length_append,List.length_take,List.length_cons,List.length_nil]);omega)|fail):b0i e 2 16 d s K (.hsl g e 2 n cap) (.sl own 2 [rgC x]):=by
 have ht:l.take n=l:=by rw[← hl,List.take_length]
 refine rgRow.hap_row (m:=[x]) hg (rgRow.src_sl s.o own [x]) ⟨by omega,by omega⟩ ⟨by simp only[List.length_cons,List.length_nil];omega,by simp only[List.length_cons,List.length_nil,maxLen];omega⟩ ?_
 rw[ht];exact h1
theorem rhapS{e:Nat}{own:Option Nat}{l:List RgP}(hl:0<l.length)(hb:l.length≤1000000)(h1:a6K s.o (fun b=>∀ cap',l.length≤cap'→KS (St.put ⟨s.t,upd s.o b (some (hcR cap' l))⟩ d (.hsl b e 2 l.length cap')) K)):b0i e 2 16 d s K (.hnil e 2) (.sl own 2 (rgs l)):=
 rgRow.hap_nil (m:=l) (rgRow.src_sl s.o own l) ⟨by omega,by simp only[maxLen];omega⟩ (fun h=>by omega) (fun _=>h1)
theorem rhapN{e e':Nat}(h:KS (St.put s d (.hnil e 2)) K):b0i e 2 16 d s K (.hnil e 2) (.hnil e' 2):=
 rgRow.hap_nil (m:=[]) ⟨rfl,rfl⟩ ⟨by simp,by simp⟩ (fun _=>h) (fun h=>by cases h)
theorem rhapG{e g n cap:Nat}{q:AV}{l:List RgP}(m:List RgP)(hs:b5y s.o 2 q (rgs m))(h1:a6K (upd s.o g none) (fun b=>∀ cap',n+m.length≤cap'→KS (St.put ⟨s.t,upd (upd s.o g none) b (some (hcR cap' (l.take n++m)))⟩ d (.hsl b e 2 (n+m.length) cap')) K))
  (hb:n+m.length≤1000000) (hg:s.o g=some (hcR cap l)) (hn:n≤l.length∧l.length≤cap):b0i e 2 16 d s K (.hsl g e 2 n cap) q:=
 rgRow.hap_row (m:=m) hg hs hn ⟨by omega,by simp only[maxLen];omega⟩ h1
theorem rhapT{e e' g n cap:Nat}{l:List RgP}(hl:0<l.length)(hb:l.length≤1000000)(hg:s.o g=some (hcR cap l))(hn:n=l.length)(h1:a6K s.o (fun b=>∀ cap',l.length≤cap'→KS (St.put ⟨s.t,upd s.o b (some (hcR cap' l))⟩ d (.hsl b e 2 l.length cap')) K)):b0i e 2 16 d s K (.hnil e 2) (.hsl g e' 2 n cap):=by
 subst hn
 refine rgRow.hap_nil (m:=l) ?_ ⟨by omega,by simp only[maxLen];omega⟩ (fun h=>by omega) (fun _=>h1)
 have:=rgRow.src_pre (e:=e') (n:=l.length) (cap:=cap) hg (by omega)
 rwa [List.take_length]at this
theorem rhapE{e g n cap g2 i m cap2:Nat}{l l2:List RgP}(h1:a6K (upd s.o g none) (fun b=>∀ cap',n≤cap'→KS (St.put ⟨s.t,upd (upd s.o g none) b (some (hcR cap' l))⟩ d (.hsl b e 2 n cap')) K))
  (hm:m=0∧i≤l2.length) (hb:n≤1000000∧n≤cap) (hn:l.length=n) (hg2:s.o g2=some (hcR cap2 l2)) (hg:s.o g=some (hcR cap l)):b0i e 2 16 d s K (.hsl g e 2 n cap) (.hss g2 2 i m):=by
 obtain ⟨rfl,hi⟩:=hm
 subst hn
 refine rhapG [] ⟨rfl,cap2,rgs l2,hg2,rgRow.all l2,by simp[rgs];omega,by simp[rgs]⟩ ?_ (by simp;omega) hg ⟨Nat.le_refl _,hb.2⟩
 simpa using h1
theorem rhapF{e g n cap i m:Nat}{l:List RgP}(h1:a6K (upd s.o g none) (fun b=>∀ cap',n≤cap'→KS (St.put ⟨s.t,upd (upd s.o g none) b (some (hcR cap' (l.take n)))⟩ d (.hsl b e 2 n cap')) K))
  (hm:m=0∧i≤l.length∧l.length≤cap) (hb:n≤1000000) (hn:n≤l.length) (hg:s.o g=some (hcR cap l)):b0i e 2 16 d s K (.hsl g e 2 n cap) (.hss g 2 i m):=by
 obtain ⟨rfl,hi,hc⟩:=hm
 refine rhapG [] ⟨rfl,cap,rgs l,hg,rgRow.all l,by simp[rgs];omega,by simp[rgs]⟩ ?_ (by simp;omega) hg ⟨hn,hc⟩
 simpa using h1
theorem rf_row{rs:List AR}{g e n cap:Nat}{l:List RgP}(h:a0z s rs (.hsl g e 2 n cap))(hg:s.o g=some (hcR cap l))(hn:l.length=n):b4u s rs (lk []) (fun r' _=>r'=.sl none 2 (rgs l)):=by
 rw[a9G]
 refine rf_pure (o3:=[(g,hcR cap l)]) h (fun b cs hb=>?_) ?_
 ·rw[lk_cons]at hb
  split at hb
  ·rename_i e;subst e;rw[hg];exact hb
  ·cases hb
 ·refine ⟨rgs l,by simp[lk,hcR],rgRow.all l,by simp[rgs,hn], ?_⟩
  rw[List.take_of_length_le (by simp[rgs,hn])]
theorem rf_hnil{rs:List AR}{e:Nat}(h:a0z s rs (.hnil e 2)):b4u s rs (lk []) (fun r' _=>r'=.sl none 2 (rgs [])):=by
 rw[a9G];exact rf_pure (o3:=[]) h (fun b cs hb=>by cases hb) rfl
end
theorem sxSpa{A B:Prop}(h:B)(e:A=B:=by (simp (disch:=omega) only[*, ↓Ed,Eu, ↓reduceIte,reduceCtorEq,Nat.reduceAdd,Nat.reduceEqDiff,Nat.reduceLT,Nat.reduceLeDiff,Int.reduceToNat,Int.reduceEq,Int.reduceLT,Int.reduceLE,w64,List.length_append,List.length_map,Int.reduceAdd,a0q,a0p];first|done|rfl)):A:=e▸h
theorem b4c(n:Int):CP Tryz.prog 129 [.int .i64 n] (.bool (decide (0≤n∧n≤mxN))):=by
 rw[show decide (0≤n∧n≤mxN)=(decide (0≤n)&&decide (n≤72057594037927935)) by rw[Bool.eq_iff_iff,decide_eq_true_eq,Bool.and_eq_true,decide_eq_true_eq,decide_eq_true_eq];exact Iff.rfl]
 refine b1r _ _ (by simp) ?_
 generalize h1:decide (0≤n)=d1
 generalize h2:decide (n≤72057594037927935)=d2
 cases d1<;>cases d2
 all_goals (simp only[a8Y];refine sxSpa ?_;try exact tt)
 all_goals repeat' ((first|exact tt|refine na fun b=>?_|refine nb fun b hb=>?_|refine iq ?_|(refine jq ?_ ?_<;>intro h h')|refine Two_intro ?_ ?_|exact wZ|fail)<;>try refine sxSpa ?_)
 all_goals rfl
theorem b7m(l:List RgP)(h:GoodR l)(hl:l.length≤1000000):CP Tryz.prog 126 [.sl none 2 (rgs l)] (.bool true):=by
 refine b0K _ _ (by simp) ?_
 simp only[a7L];refine sxSpa ?_
 repeat' ((first|exact tt|refine na fun b=>?_|refine nb fun b hb=>?_|refine iq ?_|(refine jq ?_ ?_<;>intro h h')|refine Two_intro ?_ ?_|exact wZ|fail)<;>try refine sxSpa ?_)
 refine wpx_loop (fun k:Nat=>⟨lk [(0,.sl none 2 (rgs l)),(5,.sl none 2 (rgs l)),(6,.int .i64 (l.length:Int)),(7,.int .i64 (k:Int))],lk []⟩) (fun k=>k≤l.length) (fun k=>l.length - k) 0 (by omega) (Le_lit (by simp[LeL,lk])) ?_
 intro k hk
 by_cases hkl:k<l.length
 rotate_left
 ·obtain rfl:k=l.length:=by omega
  have f1:a0a (decide ((l.length:Int)<l.length)=false):=fo
  refine sxSpa ?_
  repeat' ((first|exact tt|refine na fun b=>?_|refine nb fun b hb=>?_|refine iq ?_|(refine jq ?_ ?_<;>intro h h')|refine Two_intro ?_ ?_|exact wZ|fail)<;>try refine sxSpa ?_)
 have f1:a0a (decide ((k:Int)<l.length)=true):=fo
 obtain ⟨b1,b2,b3⟩:=h.bd k hkl
 have hg:0<k→(l.getD (k - 1) default).2+2≤(l.getD k default).1:=fun h0=>by
  have:=h.gap (k - 1) (by omega)
  rwa [show k - 1+1=k by omega]at this
 have m1:=b4c (l.getD k default).1
 have m2:=b4c (l.getD k default).2
 rw[decide_eq_true (by simp only[mxN]at *;omega)]at m1 m2
 have f2:a0a (decide ((l.getD k default).2<(l.getD k default).1)=false):=fo
 simp only[mxN]at b3
 have b0:0<k→0≤(l.getD (k - 1) default).2:=fun h0=>by have:=h.bd (k - 1) (by omega);omega
 clear h
 by_cases hk0:k=0
 ·subst hk0
  clear hg b0
  have f3:a0a (decide ((0:Int)<((0:Nat):Int))=false):=rfl
  generalize hx:l.getD 0 default=x at *
  refine sxSpa ?_
  repeat' ((first|exact tt|refine CallO_pure (m1) ?_|refine CallO_pure (m2) ?_|refine CallW_intro (m1) ?_|refine CallW_intro (m2) ?_|refine na fun b=>?_|refine nb fun b hb=>?_|refine iq ?_|(refine jq ?_ ?_<;>intro h h')|refine Two_intro ?_ ?_|exact wZ|fail)<;>try refine sxSpa ?_)
  all_goals exact Round_lit 1 ⟨Le_lit (by simp[LeL,lk]),by omega,by omega⟩
 ·have g1:=hg (by omega)
  have g0:=b0 (by omega)
  have f3:a0a (decide ((0:Int)<k)=true):=fo
  have e1:((k:Int) - 1).toNat=k - 1:=by omega
  clear hg b0 hk0
  generalize hx:l.getD k default=x at *
  generalize hy:l.getD (k - 1) default=y at *
  refine sxSpa ?_
  repeat' ((first|exact tt|refine CallO_pure (m1) ?_|refine CallO_pure (m2) ?_|refine CallW_intro (m1) ?_|refine CallW_intro (m2) ?_|refine na fun b=>?_|refine nb fun b hb=>?_|refine iq ?_|(refine jq ?_ ?_<;>intro h h')|refine Two_intro ?_ ?_|exact wZ|fail)<;>try refine sxSpa ?_)
  all_goals exact Round_lit (k+1) ⟨Le_lit (by simp[LeL,lk]),by omega,by omega⟩
end
section
open Go.RowKit
set_option maxRecDepth 100000
theorem sxSpb{A B:Prop}(h:B)(e:A=B:=by (simp (disch:=omega) only[*, ↓Ed,Eu, ↓reduceIte,reduceCtorEq,Nat.reduceAdd,Nat.reduceEqDiff,Nat.reduceLT,Nat.reduceLeDiff,Int.reduceToNat,Int.reduceEq,Int.reduceLT,Int.reduceLE,w64,List.length_append,List.length_map,Int.reduceAdd,a0q,a0p];first|done|rfl)):A:=e▸h
theorem b2c(l:List RgP)(n:Int)(hl:l.length≤1000000)(h:∀ i,i<l.length→(l.getD i default).1≤(l.getD i default).2∧(l.getD i default).2<n):CP Tryz.prog 253 [.sl none 2 (rgs l),.int .i64 n] (.bool false):=by
 refine a6b _ _ (by simp) ?_
 simp only[a3u];refine sxSpb ?_
 repeat' ((first|exact tt|refine na fun b=>?_|refine nb fun b hb=>?_|refine iq ?_|(refine jq ?_ ?_<;>intro h h')|refine Two_intro ?_ ?_|exact wZ|fail)<;>try refine sxSpb ?_)
 refine wpx_loop (fun k:Nat=>⟨lk [(0,.sl none 2 (rgs l)),(1,.int .i64 n),(5,.int .i64 (k:Int))],lk []⟩) (fun k=>k≤l.length) (fun k=>l.length - k) 0 (by omega) (Le_lit (by simp[LeL,lk])) ?_
 intro k hk
 by_cases hkl:k<l.length
 rotate_left
 ·obtain rfl:k=l.length:=by omega
  have f1:a0a (decide ((l.length:Int)<l.length)=false):=fo
  refine sxSpb ?_
  repeat' ((first|exact tt|refine na fun b=>?_|refine nb fun b hb=>?_|refine iq ?_|(refine jq ?_ ?_<;>intro h h')|refine Two_intro ?_ ?_|exact wZ|fail)<;>try refine sxSpb ?_)
 have f1:a0a (decide ((k:Int)<l.length)=true):=fo
 obtain ⟨h1,h2⟩:=h k hkl
 clear h
 generalize hx:l.getD k default=x at *
 have f2:a0a (decide (x.1≤n)=true):=fo
 have f3:a0a (decide (n≤x.2)=false):=fo
 refine sxSpb ?_
 repeat' ((first|exact tt|refine na fun b=>?_|refine nb fun b hb=>?_|refine iq ?_|(refine jq ?_ ?_<;>intro h h')|refine Two_intro ?_ ?_|exact wZ|fail)<;>try refine sxSpb ?_)
 all_goals exact Round_lit (k+1) ⟨Le_lit (by simp[LeL,lk]),by omega,by omega⟩
theorem b3L(n:Int)(hn:0≤n∧n≤72057594037927935):CP Tryz.prog 205 [.sl none 2 (rgs []),.int .i64 n] (.sl none 2 (rgs [(n,n)])):=by
 have hH:=b2c [] n (by simp) (fun i hi=>by simp at hi)
 refine CP_okf a2U (by simp) ?_
 have f1:a0a (decide (n<0)=false):=fo
 have f2:a0a (decide (72057594037927935<n)=false):=fo
 simp only[a2n];refine sxSpb ?_
 repeat' ((first|exact tt|refine rgRow.hap_nil (m:=[]) (rgRow.src_sl _ none []) ⟨by simp,by simp⟩ (fun _=>?_) (fun h=>by cases h)|refine CallO_pure (hH) ?_|refine rhapB (n,n) (NewB_intro0 (fun b cap hc=>?_))|refine na fun b=>?_|refine nb fun b hb=>?_|refine iq ?_|(refine jq ?_ ?_<;>intro h h')|refine Two_intro ?_ ?_|exact wZ|fail)<;>try refine sxSpb ?_)
 refine wpx_loop (fun _:Unit=>⟨lk [(1,.int .i64 n),(5,.hnil 226 2),(6,.int .i64 0)],lk []⟩) (fun _=>True) (fun _=>0) () trivial (Le_lit (by simp[LeL,lk])) ?_
 rintro ⟨⟩ -
 refine sxSpb ?_
 repeat' ((first|exact tt|refine rgRow.hap_nil (m:=[]) (rgRow.src_sl _ none []) ⟨by simp,by simp⟩ (fun _=>?_) (fun h=>by cases h)|refine CallO_pure (hH) ?_|(refine rhapB (n,n) (NewB_intro0 (fun b cap hc=>?_)))|refine rhapN ?_|refine rhapG [] ⟨rfl,rfl⟩ (NewB_intro (fun b2 hb2 cap2 hc2=>?_)) (by simp) (lk_hd _ _ _) ⟨by simp,by simp;omega⟩|refine na fun b=>?_|refine nb fun b hb=>?_|refine iq ?_|(refine jq ?_ ?_<;>intro h h')|refine Two_intro ?_ ?_|exact wZ|fail)<;>try refine sxSpb ?_)
 all_goals exact rf_row (e:=226) (g:=b2) (cap:=cap2) (by simp[a0z,arR,lk]) (by simp[lk]) rfl
theorem b3M(l:List RgP)(n:Int)(hg:GoodR l)(h0:0<l.length)(hl:l.length≤100000)(hn:0≤n∧n≤72057594037927935)(hlt:∀ i,i<l.length→(l.getD i default).1≤(l.getD i default).2∧(l.getD i default).2<n):CP Tryz.prog 205 [.sl none 2 (rgs l),.int .i64 n] (.sl none 2 (rgs (a5E l n))):=by
 have hH:=b2c l n (by omega) hlt
 refine CP_okf a2U (by simp) ?_
 have f1:a0a (decide (n<0)=false):=fo
 have f2:a0a (decide (72057594037927935<n)=false):=fo
 simp only[a2n];refine sxSpb ?_
 repeat' ((first|exact tt|refine rhapS h0 (by omega) (NewB_intro0 (fun b cap hc=>?_))|refine CallO_pure (hH) ?_|refine na fun b=>?_|refine nb fun b hb=>?_|refine iq ?_|(refine jq ?_ ?_<;>intro h h')|refine Two_intro ?_ ?_|exact wZ|fail)<;>try refine sxSpb ?_)
 clear f1 f2 hH
 refine wpx_loop (fun k:Nat=>⟨lk [(1,.int .i64 n),(5,.hsl b 226 2 l.length cap),(6,.int .i64 (k:Int))],lk [(b,hcR cap l)]⟩) (fun k=>k≤l.length) (fun k=>l.length - k) 0 (by omega) (Le_lit (by simp[LeL,lk])) ?_
 intro k hk
 by_cases hkl:k<l.length
 ·have f1:a0a (decide ((k:Int)<l.length)=true):=fo
  have f2:=(hlt k hkl).2
  have r2:=b9U cap l k hkl
  clear hlt hg
  generalize hx:l.getD k default=x at *
  have f3:a0a (decide (x.2<n)=true):=fo
  refine sxSpb ?_
  repeat' ((first|exact tt|refine na fun b=>?_|refine nb fun b hb=>?_|refine iq ?_|(refine jq ?_ ?_<;>intro h h')|refine Two_intro ?_ ?_|exact wZ|fail)<;>try refine sxSpb ?_)
  all_goals exact Round_lit (k+1) ⟨Le_lit (by simp[LeL,lk]),by omega,by omega⟩
 obtain rfl:k=l.length:=by omega
 have f1:a0a (decide ((l.length:Int)<l.length)=false):=fo
 clear hkl hk
 have e1:((l.length:Int) - 1).toNat=l.length - 1:=by omega
 have e4:((l.length:Int)+1).toNat=l.length+1:=by omega
 have e5:(0:Int)≤(l.length:Int)+1:=by omega
 have e6:∀ cap,(l.length - 1) * 2+1+1≤(hcR cap (l++[(n,n)])).length:=fun cap=>by
  rw[b3z];simp only[List.length_append,List.length_cons,List.length_nil];omega
 obtain ⟨g1,g2⟩:=hlt (l.length - 1) (by omega)
 have g3:=(hg.bd (l.length - 1) (by omega)).1
 have r1:=fun cap=>b9U cap (l++[(n,n)]) (l.length - 1) (by simp;omega)
 have r2:=fun cap=>b9U cap (l++[(n,n)]) l.length (by simp)
 have st:=fun cap=>b9p cap (l++[(n,n)]) (l.length - 1) (by simp;omega) n
 have d1:(l++[(n,n)]).getD (l.length - 1) default=l.getD (l.length - 1) default:=by simp[List.getD,List.getElem?_append_left (show l.length - 1<l.length by omega)]
 have d2:(l++[(n,n)]).getD l.length default=(n,n):=by simp[List.getD]
 rw[d1]at r1 st
 rw[d2]at r2
 have hs:a5E l n=if n - (l.getD (l.length - 1) default).2<2 then l.set (l.length - 1) ((l.getD (l.length - 1) default).1,n) else l++[(n,n)]:=by unfold a5E;rw[if_neg (by omega)]
 clear d1 d2 hlt hg
 generalize hx:l.getD (l.length - 1) default=x at *
 by_cases hxe:x.2=n - 1
 ·rw[hs,if_pos (by omega)]
  have f2:a0a (decide (x.2=n - 1)=true):=by simp only[a0a,Hn];exact hxe
  have tk:((l++[(n,n)]).set (l.length - 1) (x.1,n)).take l.length=l.set (l.length - 1) (x.1,n):=by
   rw[List.set_append_left _ _ (by omega),List.take_left' (by simp)]
  clear hs hxe
  refine sxSpb ?_
  repeat' ((first|exact tt|(refine rhapT h0 (by omega) (lk_hd _ _ _) rfl (NewB_intro (fun b2 hb2 cap2 hc2=>?_));simp only[ln_cons2,ln_nil,and_true]at hb2)|(refine rhapC (n,n) (NewB_intro (fun b3 hb3 cap3 hc3=>?_)) (by omega) (by omega);simp only[upd_del,del_cons,del_nil, *,if_true,if_false,ln_cons2,ln_nil,and_true]at hb3)|(refine rhapE (l2:=l) (l:=l++[(n,n)]) (NewB_intro (fun b4 hb4 cap4 hc4=>?_)) ⟨by omega,by omega⟩ ⟨by omega,by omega⟩ (by simp) (lk_hd _ _ _) (lk_tl (by simp only[*,not_false_eq_true]) (lk_hd _ _ _));simp only[upd_del,del_cons,del_nil, *,if_true,if_false,ln_cons2,ln_nil,and_true]at hb4)|(refine rhapF (l:=(l++[(n,n)]).set (l.length - 1) (x.1,n)) (NewB_intro (fun b5 hb5 cap5 hc5=>?_)) ⟨by omega,by simp,by simp;omega⟩ (by omega) (by simp) (lk_tl (by simp only[*,not_false_eq_true]) (lk_hd _ _ _));simp only[upd_del,del_cons,del_nil, *,if_true,if_false,ln_cons2,ln_nil,and_true]at hb5)|refine na fun b=>?_|refine nb fun b hb=>?_|refine iq ?_|(refine jq ?_ ?_<;>intro h h')|refine Two_intro ?_ ?_|exact wZ|fail)<;>try refine sxSpb ?_)
  all_goals exact rf_row (e:=226) (g:=b5) (n:=l.length) (cap:=cap5) (by simp[a0z,arR,lk]) (by simp[lk,hb5,tk]) (by simp)
 ·rw[hs,if_neg (by omega)]
  have f2:a0a (decide (x.2=n - 1)=false):=by simp only[a0a,Hn];exact hxe
  clear hs hxe
  refine sxSpb ?_
  repeat' ((first|exact tt|(refine rhapT h0 (by omega) (lk_hd _ _ _) rfl (NewB_intro (fun b2 hb2 cap2 hc2=>?_));simp only[ln_cons2,ln_nil,and_true]at hb2)|(refine rhapC (n,n) (NewB_intro (fun b3 hb3 cap3 hc3=>?_)) (by omega) (by omega);simp only[upd_del,del_cons,del_nil, *,if_true,if_false,ln_cons2,ln_nil,and_true]at hb3)|(refine rhapE (l2:=l) (l:=l++[(n,n)]) (NewB_intro (fun b4 hb4 cap4 hc4=>?_)) ⟨by omega,by omega⟩ ⟨by omega,by omega⟩ (by simp) (lk_hd _ _ _) (lk_tl (by simp only[*,not_false_eq_true]) (lk_hd _ _ _));simp only[upd_del,del_cons,del_nil, *,if_true,if_false,ln_cons2,ln_nil,and_true]at hb4)|refine na fun b=>?_|refine nb fun b hb=>?_|refine iq ?_|(refine jq ?_ ?_<;>intro h h')|refine Two_intro ?_ ?_|exact wZ|fail)<;>try refine sxSpb ?_)
  all_goals exact rf_row (e:=226) (g:=b4) (n:=l.length+1) (cap:=cap4) (by simp[a0z,arR,lk]) (by simp[lk,hb4]) (by simp)
end
end Go.Proofs.YtgdhinnepnlihaaGreatDoor
