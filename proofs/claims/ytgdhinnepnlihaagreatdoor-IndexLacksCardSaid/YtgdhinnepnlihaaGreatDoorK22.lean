import Derived.Test.YtgdhinnepnlihaaGreatDoorK21
import Derived.Test.YtgdhinnepnlihaaGreatDoorK20
import Derived.Test.YtgdhinnepnlihaaGreatDoorK19
import Derived.Test.YtgdhinnepnlihaaGreatDoorK17
namespace Go.Proofs.YtgdhinnepnlihaaGreatDoor
set_option linter.all false
set_option maxHeartbeats 9000000
section
open Go.RowKit
set_option maxRecDepth 100000
theorem b6D(bx m:Nat)(h1:¬ bx=m)(t:Tb)(hN:(t.K.map (·.1)).Nodup)(hl:t.K.length≤100000):
  CT Tryz.prog 70 [.clo 140 [.ptr bx 0],.fn 72] (lk [(bx,[.mapv m]),(m,[mpK t.K])])
   (fun r o=>r=.sl (some 64) 4 ((a8f t).map KeyC.cs)∧o=lk [(bx,[.mapv m]),(m,[mpK t.K])]):=by
 have h:=b1f bx m h1 (t.K.map (·.1)) (tv t.K) hN (by simpa using hl)
 rw[List.length_map]at h
 exact h
theorem sxLfe{A B:Prop}(h:B)(e:A=B:=by (simp (disch:=omega) only[*, ↓Ed,Eu, ↓reduceIte,reduceCtorEq,Nat.reduceAdd,Nat.reduceEqDiff,Nat.reduceLT,Nat.reduceLeDiff,Int.reduceToNat,Int.reduceEq,Int.reduceLT,Int.reduceLE,w64,List.length_append,List.length_map,Nat.mul_one,beq_self_eq_true,PktC.cs,EvC.cs,EntC.cs,KeyC.cs,a0i,Int.reduceAdd];first|done|rfl)):A:=e▸h
theorem b4B(c m n:Nat)(hh:(¬ c=m∧¬ m=c)∧(¬ c=n∧¬ n=c)∧¬ m=n∧¬ n=m)(t:Tb)(hN:(t.K.map (·.1)).Nodup)(hl:t.K.length≤100000):
  CT Tryz.prog 22 [.ptr c 0] (lk (b1q c m n t)) (fun r o=>r=.sl (some 64) 4 ((a8f t).map KeyC.cs)∧o=lk (b1q c m n t)):=by
 have hS:=fun bx (h:¬ bx=m)=>b6D bx m h t hN hl
 clear hN hl
 refine a4u _ _ _ (by simp) ?_
 simp only[a2O];refine sxLfe ?_
 repeat' ((first|exact tt|refine CallO_newR (R:=fun b=>.clo _ [.ptr b 0]) (b3k m) ?_|refine na fun b=>?_|refine nb fun b hb=>?_|refine iq ?_|(refine jq ?_ ?_<;>intro h h')|refine Two_intro ?_ ?_|exact wZ|fail)<;>try refine sxLfe ?_)
 have hb':(¬b=c∧¬c=b)∧(¬b=m∧¬m=b)∧¬b=n∧¬n=b:=by simpa using hb
 refine CallO_det (hS b hb'.2.1.1) (lk_sub2 (lk_hd _ _ _) (lk_tl hb'.2.1.2 (lk_tl hh.1.2 (lk_hd _ _ _)))) ?_
 refine sxLfe ?_
 repeat' ((first|exact tt|refine na fun b=>?_|refine nb fun b hb=>?_|refine iq ?_|(refine jq ?_ ?_<;>intro h h')|refine Two_intro ?_ ?_|exact wZ|fail)<;>try refine sxLfe ?_)
 exact ro_mk (by simp[LeL,lk,hh,hb',a0Q,arR]) dom3
end
section
open Go.RowKit
set_option maxRecDepth 100000
theorem CallO_exr{P:Program}{d:Option Nat}{s:St}{K:St→Prop}{α:Type}{f:Nat}{vs:List AV}{r:α→AV}{o1:List (Nat × List AV)}{o2:α→List (Nat × List AV)}{p:α→Prop}
  (h:CT P f vs (lk o1) (fun r' o'=>∃ x,p x∧r'=r x∧o'=lk (o2 x))) (hsub:∀ b cs,lk o1 b=some cs→s.o b=some cs)
  (hK:∀ x,p x→(∀ b cs,lk (o2 x) b=some cs→lk o1 b=none→s.o b=none)→KS (St.put ⟨s.t,ovr (o2 x) s.o⟩ d (r x)) K):a5V P f vs d s K:=by
 refine ⟨lk o1,_,hsub,h, ?_⟩
 rintro r' o' ⟨x,hx,rfl,rfl⟩ hf
 exact hK x hx hf
theorem ro_exr{s:St}{rs:List AR}{o1:List (Nat × List AV)}{α:Type}{r:α→AV}{o2:α→List (Nat × List AV)}{q:α→Prop}(x:α)(h:a0Q s rs (r x)∧LeL (o2 x) s.o)(hq:q x)
  (hd:∀ b cs,lk o1 b=some cs→∃ cs',lk (o2 x) b=some cs'):b2P s rs (lk o1) (fun r' o'=>∃ x,q x∧r'=r x∧o'=lk (o2 x)):=
 ⟨_,h.1,lk (o2 x),LeL_ok h.2,hd,x,hq,rfl,rfl⟩
theorem b1Q(a b:Int):a3N [.i] false (.int .i64 a) (.int .i64 b)=some (decide (a=b)):=by simp[a3N,eqC,eq1]
abbrev mpI(L:List BlkC):AV:=.mp ((hgs L).map (AV.int .i64 ·)) (L.map fun b=>.agg b.cs) (List.range L.length) L.length
abbrev ixO(p m:Nat)(c:List UInt8)(top:Int)(L:List BlkC):List (Nat × List AV):=[(p,[.str c,.int .i64 top,.mapv m]),(m,[mpI L])]
theorem lookH_no{L:List BlkC}{h:Int}(hf:a0I L h=none):a2M [.i] false (.int .i64 h) ((hgs L).map (AV.int .i64 ·))=some none:=findM_no _ _ _ b1Q _ _ (findH_no hf)
theorem b9U:∀ {L:List BlkC} {h:Int} {b:BlkC},a0I L h=some b→∃ i,(hgs L).idxOf? h=some i∧L[i]?=some b
 | [],h,b,hf=>by simp[a0I]at hf
 | x::L,h,b,hf=>by
  simp only[a0I,List.find?_cons]at hf
  by_cases hx:x.h=h
  ·simp only[hx,decide_true,Option.some.injEq]at hf
   exact ⟨0,by simp[hgs,List.idxOf?_cons,hx],by simp[hf]⟩
  ·simp only[hx,decide_false]at hf
   obtain ⟨i,h1,h2⟩:=b9U (L:=L) (h:=h) (b:=b) hf
   exact ⟨i+1,by simp only[hgs]at h1;simp[hgs,List.idxOf?_cons,hx,h1],by simpa using h2⟩
theorem lookH_yes{L:List BlkC}{h:Int}{b:BlkC}(hf:a0I L h=some b):∃ i,i<L.length∧a2M [.i] false (.int .i64 h) ((hgs L).map (AV.int .i64 ·))=some (some i)∧(L.map fun b=>AV.agg b.cs).getD i .undef=.agg b.cs∧(L.map fun b=>AV.agg b.cs).set i (.agg b.cs)=L.map fun b=>AV.agg b.cs:=by
 obtain ⟨i,h1,h2⟩:=b9U hf
 have hi:i<L.length:=(List.getElem?_eq_some_iff.1 h2).1
 refine ⟨i,hi,by rw[findM_map _ _ _ b1Q,h1],by simp[List.getD,h2], ?_⟩
 apply List.ext_getElem?
 intro j
 rw[List.getElem?_set]
 split
 ·rename_i e;subst e;rw[if_pos (by simpa using hi),List.getElem?_map,h2];rfl
 ·rfl
theorem sxIxa{A B:Prop}(h:B)(e:A=B:=by (simp (disch:=omega) only[*, ↓Ed,Eu, ↓reduceIte,reduceCtorEq,Nat.reduceAdd,Nat.reduceEqDiff,Nat.reduceLT,Nat.reduceLeDiff,Int.reduceToNat,Int.reduceEq,Int.reduceLT,Int.reduceLE,w64,List.length_append,List.length_map,Nat.mul_one,beq_self_eq_true,PktC.cs,EvC.cs,BlkC.cs,EntC.cs,KeyC.cs,a0i,Int.reduceAdd,a0f,a0e];first|done|rfl)):A:=e▸h
theorem b0Q(c:List UInt8)(top:Int)(hc:c.length≤1000000)(h1:a2X c=true)(h2:0≤top∧top≤1099511627776):
  CT Tryz.prog 11 [.str c,.int .i64 top] (lk []) (fun r o=>∃ x:Nat × Nat,(¬ x.1=x.2∧¬ x.2=x.1)∧r=.tup [.ptr x.1 0,.int .i64 0]∧o=lk (ixO x.1 x.2 c top [])):=by
 have hN:=b2i c (by omega)
 rw[h1]at hN
 have f1:a0a (decide (top<0)=false):=fo
 have f2:a0a (decide (1099511627776<top)=false):=fo
 refine a8t _ _ _ (by simp) ?_
 simp only[a6a];refine sxIxa ?_
 repeat' ((first|exact tt|refine CallO_pure (hN) ?_|refine na fun b=>?_|refine nb fun b hb=>?_|refine iq ?_|(refine jq ?_ ?_<;>intro h h')|refine Two_intro ?_ ?_|exact wZ|fail)<;>try refine sxIxa ?_)
 rename_i m
 exact ro_exr (b,m) (by simp[LeL,lk,hb,r_two,rl_cons,rl_nil,arR,al_int,al_ptr,hgs]) hb (fun _ _ h=>by simp[lk]at h)
theorem dom2'{α:Type}{o1 o2:List (Nat × α)}(h:o1.map (·.1)=o2.map (·.1)):∀ b cs,lk o1 b=some cs→∃ cs',lk o2 b=some cs':=by
 induction o1 generalizing o2 with
 | nil=>intro b cs hb;simp[lk]at hb
 | cons x r ih=>
  cases o2 with
  | nil=>simp at h
  | cons y q=>
   simp only[List.map_cons,List.cons.injEq]at h
   intro b cs hb
   obtain ⟨k,v⟩:=x
   obtain ⟨k',v'⟩:=y
   simp only at h
   obtain ⟨rfl,h2⟩:=h
   rw[lk_cons]at hb ⊢
   by_cases e:b=k
   ·rw[if_pos e];exact ⟨_,rfl⟩
   ·rw[if_neg e]at hb ⊢;exact ih h2 b cs hb
theorem a4j(p m:Nat)(hpm:¬ p=m∧¬ m=p)(c:List UInt8)(top:Int)(L:List BlkC)(s:List UInt8)(hs:s.length≤1000000)(hL:∀ b∈L,a7b b.e):
  CT Tryz.prog 13 [.ptr p 0,.str s] (lk (ixO p m c top L)) (fun r o=>r=.int .i64 (a2n c top L s).2∧o=lk (ixO p m c top (a2n c top L s).1)):=by
 have hO:=b5t s (by omega)
 have hl:=a9m s
 have hD:=b7b (a0G s).1 (by omega)
 have hE:=decB_sm (s:=(a0G s).1) (by omega)
 refine a4s _ _ _ (by simp) ?_
 rcases a7n c top L s with ⟨a1,g⟩ | ⟨a1,⟨a2,g⟩ | ⟨a2,b,hb,hcs⟩⟩
 ·rw[g]
  have f1:a0a (decide ((a0G s).2=0)=false):=by simpa[a0a]using a1
  clear a1 g hD hE hl hs hL
  generalize a0G s=F at *
  simp only[a0o];refine sxIxa ?_
  repeat' ((first|exact tt|refine CallO_pure (hO) ?_|refine na fun b=>?_|refine nb fun b hb=>?_|refine iq ?_|(refine jq ?_ ?_<;>intro h h')|refine Two_intro ?_ ?_|exact wZ|fail)<;>try refine sxIxa ?_)
  all_goals exact ro_mk (by simp[LeL,lk,hpm,a0Q,arR]) (dom2' rfl)
 ·rw[g]
  rw[a1]at hO
  have f1:a0a (decide ((a3L (a0G s).1).2=0)=false):=by simpa[a0a]using a2
  clear a1 a2 g hE hl hs hL
  generalize a3L (a0G s).1=D at *
  generalize a0G s=F at *
  simp only[a0o];refine sxIxa ?_
  repeat' ((first|exact tt|refine CallO_pure (hO) ?_|refine CallO_pure (hD) ?_|refine na fun b=>?_|refine nb fun b hb=>?_|refine iq ?_|(refine jq ?_ ?_<;>intro h h')|refine Two_intro ?_ ?_|exact wZ|fail)<;>try refine sxIxa ?_)
  all_goals exact ro_mk (by simp[LeL,lk,hpm,a0Q,arR]) (dom2' rfl)
 rw[hb]at hE
 have hD':CP Tryz.prog 61 [.str (a0G s).1] (.tup [.agg b.cs,.int .i64 0]):=by rw[hb,a2]at hD;exact hD
 rw[a1]at hO
 clear hD hb a2 a1 hl hs
 cases h5:a0I L b.h with
 | none=>
  have hf:=lookH_no h5
  rcases hcs with ⟨q1,g⟩ | ⟨rfl,⟨q2,g⟩ | ⟨q2,⟨q3,g⟩ | ⟨q3,g⟩ | ⟨b',q3,q4,g⟩⟩⟩
  ·rw[g]
   have f1:a0a (decide (b.c=c)=false):=by simpa[a0a]using q1
   clear q1 h5
   clear g hE hL
   generalize a0G s=F at *
   simp only[a0o];refine sxIxa ?_
   repeat' ((first|exact tt|refine CallO_pure (hO) ?_|refine CallO_pure (hD') ?_|refine na fun b=>?_|refine nb fun b hb=>?_|refine iq ?_|(refine jq ?_ ?_<;>intro h h')|refine Two_intro ?_ ?_|exact wZ|fail)<;>try refine sxIxa ?_)
   all_goals exact ro_mk (by simp[LeL,lk,hpm,a0Q,arR]) (dom2' rfl)
  ·rw[g]
   have f2:a0a (decide (top<b.h)=true):=by simpa[a0a]using q2
   clear q2 h5
   clear g hE hL
   generalize a0G s=F at *
   simp only[a0o];refine sxIxa ?_
   repeat' ((first|exact tt|refine CallO_pure (hO) ?_|refine CallO_pure (hD') ?_|refine na fun b=>?_|refine nb fun b hb=>?_|refine iq ?_|(refine jq ?_ ?_<;>intro h h')|refine Two_intro ?_ ?_|exact wZ|fail)<;>try refine sxIxa ?_)
   all_goals exact ro_mk (by simp[LeL,lk,hpm,a0Q,arR]) (dom2' rfl)
  ·rw[g]
   have f2:a0a (decide (top<b.h)=false):=fo
   clear q2 q3 h5
   clear g hE hL
   generalize a0G s=F at *
   simp only[a0o];refine sxIxa ?_
   repeat' ((first|exact tt|refine CallO_pure (hO) ?_|refine CallO_pure (hD') ?_|refine na fun b=>?_|refine nb fun b hb=>?_|refine iq ?_|(refine jq ?_ ?_<;>intro h h')|refine Two_intro ?_ ?_|exact wZ|fail)<;>try refine sxIxa ?_)
   all_goals exact ro_mk (by simp[LeL,lk,hpm,a0Q,arR,hgs,List.range_succ]) (dom2' rfl)
  ·rw[h5]at q3;cases q3
  ·rw[h5]at q3;cases q3
 | some b0=>
  obtain ⟨i,hi,hf,hv,hset⟩:=lookH_yes h5
  have hS:=b0a b0 b (hL b0 (findH_some h5).1).1 hE.1
  rcases hcs with ⟨q1,g⟩ | ⟨rfl,⟨q2,g⟩ | ⟨q2,⟨q3,g⟩ | ⟨q3,g⟩ | ⟨b',q3,q4,g⟩⟩⟩
  ·rw[g]
   have f1:a0a (decide (b.c=c)=false):=by simpa[a0a]using q1
   clear q1 h5 hS hset
   clear g hE hL
   generalize a0G s=F at *
   simp only[a0o];refine sxIxa ?_
   repeat' ((first|exact tt|refine CallO_pure (hO) ?_|refine CallO_pure (hD') ?_|refine na fun b=>?_|refine nb fun b hb=>?_|refine iq ?_|(refine jq ?_ ?_<;>intro h h')|refine Two_intro ?_ ?_|exact wZ|fail)<;>try refine sxIxa ?_)
   all_goals exact ro_mk (by simp[LeL,lk,hpm,a0Q,arR]) (dom2' rfl)
  ·rw[g]
   have f2:a0a (decide (top<b.h)=true):=by simpa[a0a]using q2
   clear q2 h5 hS hset
   clear g hE hL
   generalize a0G s=F at *
   simp only[a0o];refine sxIxa ?_
   repeat' ((first|exact tt|refine CallO_pure (hO) ?_|refine CallO_pure (hD') ?_|refine na fun b=>?_|refine nb fun b hb=>?_|refine iq ?_|(refine jq ?_ ?_<;>intro h h')|refine Two_intro ?_ ?_|exact wZ|fail)<;>try refine sxIxa ?_)
   all_goals exact ro_mk (by simp[LeL,lk,hpm,a0Q,arR]) (dom2' rfl)
  ·rw[h5]at q3;cases q3
  ·rw[g]
   have f2:a0a (decide (top<b.h)=false):=fo
   obtain rfl:b0=b:=by rw[h5]at q3;exact Option.some.inj q3
   rw[decide_eq_true rfl]at hS
   clear q2 q3 h5
   clear g hE hL
   generalize a0G s=F at *
   simp only[a0o];refine sxIxa ?_
   repeat' ((first|exact tt|refine CallO_pure (hO) ?_|refine CallO_pure (hD') ?_|refine CallO_pure (hS) ?_|refine na fun b=>?_|refine nb fun b hb=>?_|refine iq ?_|(refine jq ?_ ?_<;>intro h h')|refine Two_intro ?_ ?_|exact wZ|fail)<;>try refine sxIxa ?_)
   all_goals exact ro_mk (by simp[LeL,lk,hpm,a0Q,arR,hset]) (dom2' rfl)
  ·rw[g]
   have f2:a0a (decide (top<b.h)=false):=fo
   obtain rfl:b0=b':=by rw[h5]at q3;exact Option.some.inj q3
   rw[decide_eq_false q4]at hS
   clear q2 q3 q4 h5 hset
   clear g hE hL
   generalize a0G s=F at *
   simp only[a0o];refine sxIxa ?_
   repeat' ((first|exact tt|refine CallO_pure (hO) ?_|refine CallO_pure (hD') ?_|refine CallO_pure (hS) ?_|refine na fun b=>?_|refine nb fun b hb=>?_|refine iq ?_|(refine jq ?_ ?_<;>intro h h')|refine Two_intro ?_ ?_|exact wZ|fail)<;>try refine sxIxa ?_)
   all_goals exact ro_mk (by simp[LeL,lk,hpm,a0Q,arR]) (dom2' rfl)
theorem hgs_bd{L:List BlkC}(h:∀ b∈L,a1n b=true):∀ x∈hgs L,0≤x∧x≤mxN:=by
 intro x hx
 obtain ⟨b,hb,rfl⟩:=List.mem_map.1 hx
 obtain ⟨_,_,⟨h1,h2⟩,_⟩:=mayB_to (h b hb)
 have:mxN=72057594037927935:=rfl
 omega
theorem a1O(p m:Nat)(hpm:¬ p=m∧¬ m=p)(c:List UInt8)(top:Int)(L:List BlkC)(hN:(hgs L).Nodup)(hm:∀ b∈L,a1n b=true)(hl:L.length≤100000):
  CT Tryz.prog 16 [.ptr p 0] (lk (ixO p m c top L)) (fun r o=>r=.sl (some 3) 1 (ixs (hsI L))∧o=lk (ixO p m c top L)):=by
 have hS:=fun bx (h:¬ bx=m)=>b1d bx m h (hgs L) (L.map fun b=>.agg b.cs) hN (by simpa[hgs]using hl) (hgs_bd hm)
 have hlen:(hgs L).length=L.length:=by simp[hgs]
 rw[hlen]at hS
 refine a3g _ _ _ (by simp) ?_
 simp only[a1S];refine sxIxa ?_
 repeat' ((first|exact tt|refine CallO_newR (R:=fun b=>.clo _ [.ptr b 0]) (b3g m) ?_|refine na fun b=>?_|refine nb fun b hb=>?_|refine iq ?_|(refine jq ?_ ?_<;>intro h h')|refine Two_intro ?_ ?_|exact wZ|fail)<;>try refine sxIxa ?_)
 have hb':(¬b=p∧¬p=b)∧¬b=m∧¬m=b:=by simpa using hb
 refine CallO_det (hS b hb'.2.1) (lk_sub2 (lk_hd _ _ _) (lk_tl hb'.2.2 (lk_tl hpm.2 (lk_hd _ _ _)))) ?_
 refine sxIxa ?_
 repeat' ((first|exact tt|refine na fun b=>?_|refine nb fun b hb=>?_|refine iq ?_|(refine jq ?_ ?_<;>intro h h')|refine Two_intro ?_ ?_|exact wZ|fail)<;>try refine sxIxa ?_)
 exact ro_mk (by simp[LeL,lk,hpm,hb',a0Q,arR,ixs,hsI]) (dom2' rfl)
theorem b0F(l:List EvC)(hl:l.length≤1000000):CP Tryz.prog 66 [.sl none 13 (evl l)] (.sl (some 139) 13 (evl l)):=by
 obtain ⟨i0,hi,hz0,hz1,hz2⟩:=info_parts (P:=Tryz.prog) (e:=139) (z:=.agg #[.int .i64 0,.string ⟨#[]⟩,.int .i64 0,.string ⟨#[]⟩,.int .i64 0,.int .i64 0,.string ⟨#[]⟩,.int .i64 0,.int .i64 0,.string ⟨#[]⟩,.string ⟨#[]⟩,.int .i64 0,.int .i64 0]) (size:=13) (bytes:=144) (by kernel_rfl)
 exact b0i Tryz.cln66 i0 _ 13 144 hi hz0 hz1 hz2 rfl (by omega) Tryz.sizeOf139 (evl l) (by simp[evl];omega) (by simp[evl,maxLen];omega) (fun e he=>by obtain ⟨x,_,rfl⟩:=List.mem_map.1 he;rfl) (fun e he=>by obtain ⟨x,_,rfl⟩:=List.mem_map.1 he;rfl)
theorem b3w(l:List Int)(hl:l.length≤1000000):CP Tryz.prog 127 [.sl none 1 (ixs l)] (.sl (some 3) 1 (ixs l)):=by
 obtain ⟨i0,hi,hz0,hz1,hz2⟩:=info_parts (P:=Tryz.prog) (e:=3) (z:=.int .i64 0) (size:=1) (bytes:=8) (by kernel_rfl)
 exact b0i Tryz.cln127 i0 _ 1 8 hi hz0 hz1 hz2 rfl (by omega) Tryz.sizeOf3 (ixs l) (by simp[ixs];omega) (by simp[ixs,maxLen];omega) (fun e he=>by obtain ⟨x,_,rfl⟩:=List.mem_map.1 he;rfl) (fun e he=>by obtain ⟨x,_,rfl⟩:=List.mem_map.1 he;rfl)
theorem b3R(p m:Nat)(hpm:¬ p=m∧¬ m=p)(c:List UInt8)(top:Int)(L:List BlkC)(h:Int)(hL:∀ b∈L,b.e.length≤1000000):
  CT Tryz.prog 17 [.ptr p 0,.int .i64 h] (lk (ixO p m c top L)) (fun r o=>r=.tup [.agg (a9I L h).cs,.bool (a0I L h).isSome]∧o=lk (ixO p m c top L)):=by
 refine a3E _ _ _ (by simp) ?_
 unfold a9I
 cases h5:a0I L h with
 | none=>
  have hf:=lookH_no h5
  have hC:=b0F [] (by simp)
  clear h5 hL
  simp only[a1A];refine sxIxa ?_
  repeat' ((first|exact tt|refine CallO_pure (hC) ?_|refine na fun b=>?_|refine nb fun b hb=>?_|refine iq ?_|(refine jq ?_ ?_<;>intro h h')|refine Two_intro ?_ ?_|exact wZ|fail)<;>try refine sxIxa ?_)
  rename_i b1 h1
  exact ro_mk (by simp[LeL,lk,hpm,hb,h1,r_two,rl_cons,rl_nil,arR,view,l_all,al_agg,al_bool,bkz]) (dom2' rfl)
 | some b0=>
  obtain ⟨i,hi,hf,hv,hset⟩:=lookH_yes h5
  have hC:=b0F b0.e (hL b0 (findH_some h5).1)
  clear h5 hL hset
  simp only[a1A];refine sxIxa ?_
  repeat' ((first|exact tt|refine CallO_pure (hC) ?_|refine na fun b=>?_|refine nb fun b hb=>?_|refine iq ?_|(refine jq ?_ ?_<;>intro h h')|refine Two_intro ?_ ?_|exact wZ|fail)<;>try refine sxIxa ?_)
  rename_i b1 h1
  exact ro_mk (by simp[LeL,lk,hpm,hb,h1,r_two,rl_cons,rl_nil,arR,view,l_all,al_agg,al_bool,bkz]) (dom2' rfl)
end
section
open Go.RowKit
set_option maxRecDepth 100000
theorem rgRow:RowT rgC 2 where
 len x:=rfl
 no x c hc:=by simp[rgC]at hc;rcases hc with rfl|rfl<;>exact ⟨fun t k l h=>(by cases h),fun t h=>(by cases h)⟩
def hcR(cap:Nat)(l:List RgP):List AV:=hc 2 cap (rgs l)
theorem b4X(cap:Nat)(l:List RgP):(hcR cap l).length=(max cap l.length) * 2:=rgRow.len_hc cap l
theorem hcR_get{cap:Nat}{l:List RgP}{i j:Nat}(hi:i<l.length)(hj:j<2):(hcR cap l)[i * 2+j]?=(rgC (l.getD i default))[j]?:=by
 have he:(rgs l)[i]?=some (rgC (l.getD i default)):=by simp[rgs,List.getD,hi]
 exact hc_get (rgRow.all l) he hj
theorem drop_of{α:Type}{L:List α}{p:Nat}{c:α}(h:L[p]?=some c):L.drop p=c::L.drop (p+1):=by
 obtain ⟨h1,h2⟩:=List.getElem?_eq_some_iff.1 h
 rw[List.drop_eq_getElem_cons h1,h2]
theorem c0C(cap:Nat)(l:List RgP)(i:Nat)(hi:i<l.length)(K:AV→Prop):RK (ldR none ((hcR cap l).drop (i * 2+1))) K=K (.int .i64 (l.getD i default).2):=by
 have h:(hcR cap l)[i * 2+1]?=some (.int .i64 (l.getD i default).2):=hcR_get (j:=1) hi (by omega)
 rw[drop_of h]
 exact RK_eq _ _
theorem b9I(cap:Nat)(l:List RgP)(i:Nat)(hi:i<l.length)(v:Int):splice (hcR cap l) (i * 2+1) [.int .i64 v]=hcR cap (l.set i ((l.getD i default).1,v)):=by
 have h:=rgRow.sto cap l i ((l.getD i default).1,v) hi
 have h0:(hcR cap l)[i * 2]?=some (.int .i64 (l.getD i default).1):=hcR_get (j:=0) hi (by omega)
 have h1:(hcR cap l)[i * 2+1]?=some (.int .i64 (l.getD i default).2):=hcR_get (j:=1) hi (by omega)
 show _=hc 2 cap ((l.set i ((l.getD i default).1,v)).map rgC)
 rw[← h]
 show splice (hcR cap l) _ _=splice (hcR cap l) _ _
 have hb:i * 2+2≤(hcR cap l).length:=by
  have:=(List.getElem?_eq_some_iff.1 h1).1;omega
 apply List.ext_getElem?
 intro q
 rw[a0q _ _ _ (by simp;omega),a0q _ _ _ (by simp;omega)]
 simp only[List.length_cons,List.length_nil]
 by_cases hq:q=i * 2
 ·subst hq
  rw[if_neg (by omega),if_pos (by omega),h0];simp
 by_cases hq1:q=i * 2+1
 ·subst hq1
  rw[if_pos (by omega),if_pos (by omega)];simp
 ·rw[if_neg (by omega),if_neg (by omega)]
section
variable {d:Option Nat} {s:St} {K:St→Prop}
theorem rhapB{e:Nat}{own:Option Nat}(x:RgP)(h1:a9C s.o (fun b=>∀ cap',1≤cap'→KS (St.put ⟨s.t,upd s.o b (some (hcR cap' [x]))⟩ d (.hsl b e 2 1 cap')) K)):b6k e 2 16 d s K (.hnil e 2) (.sl own 2 [rgC x]):=
 rgRow.hap_nil (m:=[x]) (rgRow.src_sl s.o own [x]) ⟨by simp,by simp[maxLen]⟩ (fun h=>by cases h) (fun _=>h1)
theorem rhapC{e g n cap:Nat}{own:Option Nat}{l:List RgP}(x:RgP)(h1:a9C (upd s.o g none) (fun b=>∀ cap',n+1≤cap'→KS (St.put ⟨s.t,upd (upd s.o g none) b (some (hcR cap' (l++[x])))⟩ d (.hsl b e 2 (n+1) cap')) K))
  (hb:n≤1000000:=by omega) (hcp:n≤cap:=by omega) (hg:s.o g=some (hcR cap l):=by first|((repeat (first|exact lk_hd _ _ _|(refine lk_tl ?_ ?_;(focus (first|assumption|(simp only[*,not_false_eq_true];done))))));done)|fail) (hl:l.length=n:=by first|rfl|assumption|((try simp only[List.length_append,List.length_take,List.length_cons,List.length_nil]);omega)|fail):b6k e 2 16 d s K (.hsl g e 2 n cap) (.sl own 2 [rgC x]):=by
 have ht:l.take n=l:=by rw[← hl,List.take_length]
 refine rgRow.hap_row (m:=[x]) hg (rgRow.src_sl s.o own [x]) ⟨by omega,by omega⟩ ⟨by simp only[List.length_cons,List.length_nil];omega,by simp only[List.length_cons,List.length_nil,maxLen];omega⟩ ?_
 rw[ht];exact h1
theorem rf_row{rs:List AR}{g e n cap:Nat}{l:List RgP}(h:a0Q s rs (.hsl g e 2 n cap))(hg:s.o g=some (hcR cap l))(hn:l.length=n):b3Z s rs (lk []) (fun r' _=>r'=.sl none 2 (rgs l)):=by
 rw[a9P]
 refine rf_pure (o3:=[(g,hcR cap l)]) h (fun b cs hb=>?_) ?_
 ·rw[lk_cons]at hb
  split at hb
  ·rename_i e;subst e;rw[hg];exact hb
  ·cases hb
 ·refine ⟨rgs l,by simp[lk,hcR],rgRow.all l,by simp[rgs,hn], ?_⟩
  rw[List.take_of_length_le (by simp[rgs,hn])]
theorem rf_hnil{rs:List AR}{e:Nat}(h:a0Q s rs (.hnil e 2)):b3Z s rs (lk []) (fun r' _=>r'=.sl none 2 (rgs [])):=by
 rw[a9P];exact rf_pure (o3:=[]) h (fun b cs hb=>by cases hb) rfl
end
theorem sxSpa{A B:Prop}(h:B)(e:A=B:=by (simp (disch:=omega) only[*, ↓Ed,Eu, ↓reduceIte,reduceCtorEq,Nat.reduceAdd,Nat.reduceEqDiff,Nat.reduceLT,Nat.reduceLeDiff,Int.reduceToNat,Int.reduceEq,Int.reduceLT,Int.reduceLE,w64,List.length_append,List.length_map,Int.reduceAdd,a0B,a0A];first|done|rfl)):A:=e▸h
theorem b2u(n:Int):CP Tryz.prog 129 [.int .i64 n] (.bool (decide (0≤n∧n≤mxN))):=by
 rw[show decide (0≤n∧n≤mxN)=(decide (0≤n)&&decide (n≤72057594037927935)) by rw[Bool.eq_iff_iff,decide_eq_true_eq,Bool.and_eq_true,decide_eq_true_eq,decide_eq_true_eq];exact Iff.rfl]
 refine a9V _ _ (by simp) ?_
 generalize h1:decide (0≤n)=d1
 generalize h2:decide (n≤72057594037927935)=d2
 cases d1<;>cases d2
 all_goals (simp only[a7v];refine sxSpa ?_;try exact tt)
 all_goals repeat' ((first|exact tt|refine na fun b=>?_|refine nb fun b hb=>?_|refine iq ?_|(refine jq ?_ ?_<;>intro h h')|refine Two_intro ?_ ?_|exact wZ|fail)<;>try refine sxSpa ?_)
 all_goals rfl
theorem b5A(l:List RgP)(h:GoodR l)(hl:l.length≤1000000):CP Tryz.prog 126 [.sl none 2 (rgs l)] (.bool true):=by
 refine a9k _ _ (by simp) ?_
 simp only[a6f];refine sxSpa ?_
 repeat' ((first|exact tt|refine na fun b=>?_|refine nb fun b hb=>?_|refine iq ?_|(refine jq ?_ ?_<;>intro h h')|refine Two_intro ?_ ?_|exact wZ|fail)<;>try refine sxSpa ?_)
 refine wpx_loop (fun k:Nat=>⟨lk [(0,.sl none 2 (rgs l)),(5,.sl none 2 (rgs l)),(6,.int .i64 (l.length:Int)),(7,.int .i64 (k:Int))],lk []⟩) (fun k=>k≤l.length) (fun k=>l.length - k) 0 (by omega) (Le_lit (by simp[LeL,lk])) ?_
 intro k hk
 by_cases hkl:k<l.length
 rotate_left
 ·obtain rfl:k=l.length:=by omega
  have f1:a0a (decide ((l.length:Int)<l.length)=false):=fo
  refine sxSpa ?_
  repeat' ((first|exact tt|refine na fun b=>?_|refine nb fun b hb=>?_|refine iq ?_|(refine jq ?_ ?_<;>intro h h')|refine Two_intro ?_ ?_|exact wZ|fail)<;>try refine sxSpa ?_)
 have f1:a0a (decide ((k:Int)<l.length)=true):=fo
 obtain ⟨b1,b2,b3⟩:=h.bd k hkl
 have hg:0<k→(l.getD (k - 1) default).2+2≤(l.getD k default).1:=fun h0=>by
  have:=h.gap (k - 1) (by omega)
  rwa [show k - 1+1=k by omega]at this
 have m1:=b2u (l.getD k default).1
 have m2:=b2u (l.getD k default).2
 rw[decide_eq_true (by simp only[mxN]at *;omega)]at m1 m2
 have f2:a0a (decide ((l.getD k default).2<(l.getD k default).1)=false):=fo
 simp only[mxN]at b3
 have b0:0<k→0≤(l.getD (k - 1) default).2:=fun h0=>by have:=h.bd (k - 1) (by omega);omega
 clear h
 by_cases hk0:k=0
 ·subst hk0
  clear hg b0
  have f3:a0a (decide ((0:Int)<((0:Nat):Int))=false):=rfl
  generalize hx:l.getD 0 default=x at *
  refine sxSpa ?_
  repeat' ((first|exact tt|refine CallO_pure (m1) ?_|refine CallO_pure (m2) ?_|refine CallW_intro (m1) ?_|refine CallW_intro (m2) ?_|refine na fun b=>?_|refine nb fun b hb=>?_|refine iq ?_|(refine jq ?_ ?_<;>intro h h')|refine Two_intro ?_ ?_|exact wZ|fail)<;>try refine sxSpa ?_)
  all_goals exact Round_lit 1 ⟨Le_lit (by simp[LeL,lk]),by omega,by omega⟩
 ·have g1:=hg (by omega)
  have g0:=b0 (by omega)
  have f3:a0a (decide ((0:Int)<k)=true):=fo
  have e1:((k:Int) - 1).toNat=k - 1:=by omega
  clear hg b0 hk0
  generalize hx:l.getD k default=x at *
  generalize hy:l.getD (k - 1) default=y at *
  refine sxSpa ?_
  repeat' ((first|exact tt|refine CallO_pure (m1) ?_|refine CallO_pure (m2) ?_|refine CallW_intro (m1) ?_|refine CallW_intro (m2) ?_|refine na fun b=>?_|refine nb fun b hb=>?_|refine iq ?_|(refine jq ?_ ?_<;>intro h h')|refine Two_intro ?_ ?_|exact wZ|fail)<;>try refine sxSpa ?_)
  all_goals exact Round_lit (k+1) ⟨Le_lit (by simp[LeL,lk]),by omega,by omega⟩
end
section
open Go.RowKit
set_option maxRecDepth 100000
end
section
open Go.RowKit
set_option maxRecDepth 100000
theorem mxI(a b:Int):(if a<b then b else a)=max a b:=by omega
theorem mnI(a b:Int):(if b<a then b else a)=min a b:=by omega
abbrev RS:=Option (Nat × Nat)
def rsV(e:Nat)(o:List RgP):RS→AV
 | none=>.hnil e 2
 | some x=>.hsl x.1 e 2 o.length x.2
def rsO(o:List RgP):RS→List (Nat × List AV)
 | none=>[]
 | some x=>[(x.1,hcR x.2 o)]
def b0M(o:List RgP):RS→Prop
 | none=>o=[]
 | some x=>o.length≤x.2
theorem lackP_drop{l:List RgP}{k:Nat}(h:k<l.length)(f t:Int):a1x (l.drop k) f t=(if f<(l.getD k default).1∧f≤t then [(f,min ((l.getD k default).1 - 1) t)] else [])++a1x (l.drop (k+1)) (max f ((l.getD k default).2+1)) t:=by
 rw[List.drop_eq_getElem_cons h,a1x]
 simp[List.getD,h]
theorem lackP_end{l:List RgP}{k:Nat}(h:l.length≤k)(f t:Int):a1x (l.drop k) f t=if f≤t then [(f,t)] else []:=by
 rw[List.drop_eq_nil_of_le h,a1x]
theorem ofN_lt{l:List Int}(h:RiseN l){k:Nat}(hk:k<l.length):∀ i,i<(ofN (l.take k)).length→((ofN (l.take k)).getD i default).1≤((ofN (l.take k)).getD i default).2∧((ofN (l.take k)).getD i default).2<l.getD k 0:=by
 obtain ⟨g1,g2,g3,g4⟩:=ofN_good h k (by omega)
 have key:∀ j i,i+j+1=(ofN (l.take k)).length→((ofN (l.take k)).getD i default).2≤((ofN (l.take k)).getD ((ofN (l.take k)).length - 1) default).2:=by
  intro j
  induction j with
  | zero=>intro i hi;rw[show (ofN (l.take k)).length - 1=i by omega];exact Int.le_refl _
  | succ j ih=>
   intro i hi
   have h1:=g1.gap i (by omega)
   have h2:=ih (i+1) (by omega)
   have h3:=g1.bd (i+1) (by omega)
   omega
 intro i hi
 have h1:=g1.bd i hi
 have h2:=key ((ofN (l.take k)).length - 1 - i) i (by omega)
 have h3:=g4 (k - 1) (by omega)
 have h4:=h.2 (k - 1) (by omega)
 rw[show k - 1+1=k by omega]at h4
 omega
theorem sxSpc{A B:Prop}(h:B)(e:A=B:=by (simp (disch:=omega) only[*, ↓Ed,Eu, ↓reduceIte,reduceCtorEq,Nat.reduceAdd,Nat.reduceEqDiff,Nat.reduceLT,Nat.reduceLeDiff,Int.reduceToNat,Int.reduceEq,Int.reduceLT,Int.reduceLE,mxI,mnI,w64,List.length_append,List.length_map,Int.reduceAdd,a0B,a0A,a0f,a0e];first|done|rfl)):A:=e▸h
set_option maxHeartbeats 4000000 in
theorem b3z(l:List RgP)(f t:Int)(h:GoodR l)(hl:l.length≤100000):CP Tryz.prog 62 [.sl none 2 (rgs l),.int .i64 f,.int .i64 t] (.sl none 2 (rgs (a1x l (max f 0) (min t mxN)))):=by
 have hGd:=b5A l h (by omega)
 refine CP_okf a7j (by simp) ?_
 simp only[a5v];refine sxSpc ?_
 repeat' ((first|exact tt|refine CallO_pure (hGd) ?_|refine na fun b=>?_|refine nb fun b hb=>?_|refine iq ?_|(refine jq ?_ ?_<;>intro h h')|refine Two_intro ?_ ?_|exact wZ|fail)<;>try refine sxSpc ?_)
 clear hGd
 have hT:min t mxN≤72057594037927935:=by simp only[mxN];omega
 have hF:0≤max f 0:=by omega
 rw[show min t 72057594037927935=min t mxN from rfl]
 generalize min t mxN=T at *
 generalize max f 0=F at *
 generalize hR:a1x l F T=R
 refine wpx_loop (fun x:Nat × Int × List RgP × RS=>⟨lk [(1,.int .i64 x.2.1),(2,.int .i64 T),(7,rsV 40 x.2.2.1 x.2.2.2),(17,.sl none 2 (rgs l)),(18,.int .i64 (l.length:Int)),(19,.int .i64 (x.1:Int))],lk (rsO x.2.2.1 x.2.2.2)⟩) (fun x=>x.1≤l.length∧b0M x.2.2.1 x.2.2.2∧x.2.2.1.length≤x.1∧0≤x.2.1∧x.2.2.1++a1x (l.drop x.1) x.2.1 T=R) (fun x=>l.length - x.1) (0,F,[],none) ⟨by simp,rfl,by simp,hF,by simpa using hR⟩ (Le_lit (by simp[LeL,lk,rsV,rsO])) ?_
 rintro ⟨k,a,o,fm⟩ ⟨i1,i2,i3,i4,i6⟩
 simp only at i1 i2 i3 i4 i6
 clear hR hF
 by_cases hk:k<l.length
 ·have f1:a0a (decide ((k:Int)<l.length)=true):=fo
  obtain ⟨b1,b2,b3⟩:=h.bd k hk
  simp only[mxN]at b3
  rw[lackP_drop hk]at i6
  clear h
  generalize hx:l.getD k default=x at *
  by_cases hlt:a<x.1∧a≤T
  ·have f4:a0a (decide (a<x.1)=true):=fo
   have f5:a0a (decide (a≤T)=true):=fo
   rw[if_pos (by omega)]at i6
   have hR2:(o++[(a,min (x.1 - 1) T)])++a1x (l.drop (k+1)) (max a (x.2+1)) T=R:=by simpa using i6
   clear i6
   rcases fm with _ | ⟨g,cap⟩
   ·obtain rfl:o=[]:=i2
    simp (disch:=omega) only[rsV,rsO,hx, ↓Ed,Eu, ↓reduceIte,reduceCtorEq,Nat.reduceAdd,Nat.reduceEqDiff,Nat.reduceLT,Nat.reduceLeDiff,Int.reduceToNat,Int.reduceEq,Int.reduceLT,Int.reduceLE,mxI,mnI,w64,List.length_append,List.length_map,Int.reduceAdd,a0B,a0A,a0f,a0e]
    repeat' ((first|exact tt|(refine rhapB (a,min (x.1 - 1) T) (NewB_intro (fun b hb cap hc=>?_));simp only[ln_cons2,ln_nil,and_true]at hb)|refine na fun b=>?_|refine nb fun b hb=>?_|refine iq ?_|(refine jq ?_ ?_<;>intro h h')|refine Two_intro ?_ ?_|exact wZ|fail)<;>try refine sxSpc ?_)
    all_goals exact Round_lit (k+1,max a (x.2+1),[(a,min (x.1 - 1) T)],some (b,cap)) ⟨Le_lit (by simp[LeL,lk,rsV,rsO,hb]),⟨hk,by simpa[b0M]using hc,by simp,by simp only;omega,hR2⟩,by simp only;omega⟩
   ·simp only[b0M]at i2
    simp (disch:=omega) only[rsV,rsO,hx, ↓Ed,Eu, ↓reduceIte,reduceCtorEq,Nat.reduceAdd,Nat.reduceEqDiff,Nat.reduceLT,Nat.reduceLeDiff,Int.reduceToNat,Int.reduceEq,Int.reduceLT,Int.reduceLE,mxI,mnI,w64,List.length_append,List.length_map,Int.reduceAdd,a0B,a0A,a0f,a0e]
    repeat' ((first|exact tt|(refine rhapC (a,min (x.1 - 1) T) (NewB_intro (fun b hb cap' hc=>?_)) (by omega) (by omega);simp only[upd_del,del_cons,del_nil, *,if_true,if_false,ln_cons2,ln_nil,and_true]at hb)|refine na fun b=>?_|refine nb fun b hb=>?_|refine iq ?_|(refine jq ?_ ?_<;>intro h h')|refine Two_intro ?_ ?_|exact wZ|fail)<;>try refine sxSpc ?_)
    all_goals exact Round_lit (k+1,max a (x.2+1),o++[(a,min (x.1 - 1) T)],some (b,cap')) ⟨Le_lit (by simp[LeL,lk,rsV,rsO,hb]),⟨hk,by simp only[b0M,List.length_append,List.length_cons,List.length_nil];omega,by simp only[List.length_append,List.length_cons,List.length_nil];omega,by simp only;omega,hR2⟩,by simp only;omega⟩
  rw[if_neg hlt]at i6
  by_cases hq:a<x.1
  ·have f4:a0a (decide (a<x.1)=true):=fo
   have f5:a0a (decide (a≤T)=false):=fo
   have hR2:o++a1x (l.drop (k+1)) (max a (x.2+1)) T=R:=by simpa using i6
   clear i6
   rcases fm with _ | ⟨g,cap⟩
   ·obtain rfl:o=[]:=i2
    simp (disch:=omega) only[rsV,rsO,hx, ↓Ed,Eu, ↓reduceIte,reduceCtorEq,Nat.reduceAdd,Nat.reduceEqDiff,Nat.reduceLT,Nat.reduceLeDiff,Int.reduceToNat,Int.reduceEq,Int.reduceLT,Int.reduceLE,mxI,mnI,w64,List.length_append,List.length_map,Int.reduceAdd,a0B,a0A,a0f,a0e]
    repeat' ((first|exact tt|refine na fun b=>?_|refine nb fun b hb=>?_|refine iq ?_|(refine jq ?_ ?_<;>intro h h')|refine Two_intro ?_ ?_|exact wZ|fail)<;>try refine sxSpc ?_)
    all_goals exact Round_lit (k+1,max a (x.2+1),[],none) ⟨Le_lit (by simp[LeL,lk,rsV,rsO]),⟨hk,rfl,by simp,by simp only;omega,hR2⟩,by simp only;omega⟩
   ·simp only[b0M]at i2
    simp (disch:=omega) only[rsV,rsO,hx, ↓Ed,Eu, ↓reduceIte,reduceCtorEq,Nat.reduceAdd,Nat.reduceEqDiff,Nat.reduceLT,Nat.reduceLeDiff,Int.reduceToNat,Int.reduceEq,Int.reduceLT,Int.reduceLE,mxI,mnI,w64,List.length_append,List.length_map,Int.reduceAdd,a0B,a0A,a0f,a0e]
    repeat' ((first|exact tt|refine na fun b=>?_|refine nb fun b hb=>?_|refine iq ?_|(refine jq ?_ ?_<;>intro h h')|refine Two_intro ?_ ?_|exact wZ|fail)<;>try refine sxSpc ?_)
    all_goals exact Round_lit (k+1,max a (x.2+1),o,some (g,cap)) ⟨Le_lit (by simp[LeL,lk,rsV,rsO]),⟨hk,i2,by simp only;omega,by simp only;omega,hR2⟩,by simp only;omega⟩
  ·have f4:a0a (decide (a<x.1)=false):=fo
   have hR2:o++a1x (l.drop (k+1)) (max a (x.2+1)) T=R:=by simpa using i6
   clear i6
   rcases fm with _ | ⟨g,cap⟩
   ·obtain rfl:o=[]:=i2
    simp (disch:=omega) only[rsV,rsO,hx, ↓Ed,Eu, ↓reduceIte,reduceCtorEq,Nat.reduceAdd,Nat.reduceEqDiff,Nat.reduceLT,Nat.reduceLeDiff,Int.reduceToNat,Int.reduceEq,Int.reduceLT,Int.reduceLE,mxI,mnI,w64,List.length_append,List.length_map,Int.reduceAdd,a0B,a0A,a0f,a0e]
    repeat' ((first|exact tt|refine na fun b=>?_|refine nb fun b hb=>?_|refine iq ?_|(refine jq ?_ ?_<;>intro h h')|refine Two_intro ?_ ?_|exact wZ|fail)<;>try refine sxSpc ?_)
    all_goals exact Round_lit (k+1,max a (x.2+1),[],none) ⟨Le_lit (by simp[LeL,lk,rsV,rsO]),⟨hk,rfl,by simp,by simp only;omega,hR2⟩,by simp only;omega⟩
   ·simp only[b0M]at i2
    simp (disch:=omega) only[rsV,rsO,hx, ↓Ed,Eu, ↓reduceIte,reduceCtorEq,Nat.reduceAdd,Nat.reduceEqDiff,Nat.reduceLT,Nat.reduceLeDiff,Int.reduceToNat,Int.reduceEq,Int.reduceLT,Int.reduceLE,mxI,mnI,w64,List.length_append,List.length_map,Int.reduceAdd,a0B,a0A,a0f,a0e]
    repeat' ((first|exact tt|refine na fun b=>?_|refine nb fun b hb=>?_|refine iq ?_|(refine jq ?_ ?_<;>intro h h')|refine Two_intro ?_ ?_|exact wZ|fail)<;>try refine sxSpc ?_)
    all_goals exact Round_lit (k+1,max a (x.2+1),o,some (g,cap)) ⟨Le_lit (by simp[LeL,lk,rsV,rsO]),⟨hk,i2,by simp only;omega,by simp only;omega,hR2⟩,by simp only;omega⟩
 obtain rfl:k=l.length:=by omega
 have f1:a0a (decide ((l.length:Int)<l.length)=false):=fo
 rw[lackP_end (Nat.le_refl _)]at i6
 clear hk h
 by_cases ha:a≤T
 ·have f2:a0a (decide (a≤T)=true):=fo
  rw[if_pos ha]at i6
  subst i6
  rcases fm with _ | ⟨g,cap⟩
  ·obtain rfl:o=[]:=i2
   simp (disch:=omega) only[rsV,rsO, ↓Ed,Eu, ↓reduceIte,reduceCtorEq,Nat.reduceAdd,Nat.reduceEqDiff,Nat.reduceLT,Nat.reduceLeDiff,Int.reduceToNat,Int.reduceEq,Int.reduceLT,Int.reduceLE,mxI,mnI,w64,List.length_append,List.length_map,Int.reduceAdd,a0B,a0A,a0f,a0e]
   repeat' ((first|exact tt|(refine rhapB (a,T) (NewB_intro0 (fun b cap hc=>?_)))|refine na fun b=>?_|refine nb fun b hb=>?_|refine iq ?_|(refine jq ?_ ?_<;>intro h h')|refine Two_intro ?_ ?_|exact wZ|fail)<;>try refine sxSpc ?_)
   all_goals exact rf_row (e:=40) (g:=b) (cap:=cap) (by simp[a0Q,arR,lk]) (by simp[lk]) rfl
  ·simp only[b0M]at i2
   simp (disch:=omega) only[rsV,rsO, ↓Ed,Eu, ↓reduceIte,reduceCtorEq,Nat.reduceAdd,Nat.reduceEqDiff,Nat.reduceLT,Nat.reduceLeDiff,Int.reduceToNat,Int.reduceEq,Int.reduceLT,Int.reduceLE,mxI,mnI,w64,List.length_append,List.length_map,Int.reduceAdd,a0B,a0A,a0f,a0e]
   repeat' ((first|exact tt|(refine rhapC (a,T) (NewB_intro (fun b hb cap' hc=>?_)) (by omega) (by omega);simp only[upd_del,del_cons,del_nil, *,if_true,if_false,ln_cons2,ln_nil,and_true]at hb)|refine na fun b=>?_|refine nb fun b hb=>?_|refine iq ?_|(refine jq ?_ ?_<;>intro h h')|refine Two_intro ?_ ?_|exact wZ|fail)<;>try refine sxSpc ?_)
   all_goals exact rf_row (e:=40) (g:=b) (n:=o.length+1) (cap:=cap') (by simp[a0Q,arR,lk]) (by simp[lk,hb]) (by simp)
 ·have f2:a0a (decide (a≤T)=false):=fo
  rw[if_neg ha,List.append_nil]at i6
  subst i6
  rcases fm with _ | ⟨g,cap⟩
  ·obtain rfl:o=[]:=i2
   simp (disch:=omega) only[rsV,rsO, ↓Ed,Eu, ↓reduceIte,reduceCtorEq,Nat.reduceAdd,Nat.reduceEqDiff,Nat.reduceLT,Nat.reduceLeDiff,Int.reduceToNat,Int.reduceEq,Int.reduceLT,Int.reduceLE,mxI,mnI,w64,List.length_append,List.length_map,Int.reduceAdd,a0B,a0A,a0f,a0e]
   repeat' ((first|exact tt|refine na fun b=>?_|refine nb fun b hb=>?_|refine iq ?_|(refine jq ?_ ?_<;>intro h h')|refine Two_intro ?_ ?_|exact wZ|fail)<;>try refine sxSpc ?_)
   all_goals exact rf_hnil (e:=40) (by simp[a0Q,arR,lk])
  ·simp only[b0M]at i2
   simp (disch:=omega) only[rsV,rsO, ↓Ed,Eu, ↓reduceIte,reduceCtorEq,Nat.reduceAdd,Nat.reduceEqDiff,Nat.reduceLT,Nat.reduceLeDiff,Int.reduceToNat,Int.reduceEq,Int.reduceLT,Int.reduceLE,mxI,mnI,w64,List.length_append,List.length_map,Int.reduceAdd,a0B,a0A,a0f,a0e]
   repeat' ((first|exact tt|refine na fun b=>?_|refine nb fun b hb=>?_|refine iq ?_|(refine jq ?_ ?_<;>intro h h')|refine Two_intro ?_ ?_|exact wZ|fail)<;>try refine sxSpc ?_)
   all_goals exact rf_row (e:=40) (g:=g) (cap:=cap) (by simp[a0Q,arR,lk]) (by simp[lk]) rfl
end
section
open Go.RowKit Classical
set_option maxRecDepth 100000
section
variable {d:Option Nat} {s:St} {K:St→Prop}
end
abbrev Gx:=(AV × AV) ⊕ Fx
def Gx.ok(x:Gx)(b:Nat)(t:Tb):Prop:=match x with
 | .inl y=>y.1.alias=.sl none 4 (kys (dOf t).K)∧y.2.alias=.sl none 2 (ens (dOf t).C)∧t.K=[]
 | .inr y=>y.ok b t
abbrev Gx.o(x:Gx)(b:Nat)(t:Tb):List (Nat × List AV):=match x with
 | .inl y=>[(b,[y.1,.nils 223 14,y.2])]
 | .inr x=>[(b,[x.k,.hsl x.g 223 14 (dOf t).E.length x.cap,x.c]),(x.g,hcE x.cap (dOf t).E)]
end
section
open Go.RowKit Classical
set_option maxRecDepth 100000
end
section
open Go.RowKit Classical
set_option maxRecDepth 100000
end
section
open Go.RowKit
set_option maxRecDepth 100000
def txs(l:List (List UInt8)):List (List AV):=l.map fun s=>[.str s]
theorem a0h(l:List (List UInt8)):(txs l).length=l.length:=by simp[txs]
theorem a0j(l:List (List UInt8))(i:Nat)(h:i<l.length):(txs l).getD i []=[.str (l.getD i [])]:=by simp[txs,h]
theorem asc_of{l:List Int}(h:RiseN l):Asc l:=by
 have key:∀ d i,i+d<l.length→l.getD i 0≤l.getD (i+d) 0:=by
  intro d
  induction d with
  | zero=>intro i _;exact Int.le_refl _
  | succ d ih=>
   intro i hi
   have h1:=ih i (by omega)
   have h2:=h.2 (i+d) (by omega)
   rw[show i+(d+1)=i+d+1 by omega];omega
 intro i j hij hj
 have:=key (j - i) i (by omega)
 rwa [show i+(j - i)=j by omega]at this
theorem sxIxb{A B:Prop}(h:B)(e:A=B:=by (simp (disch:=omega) only[*, ↓Ed,Eu, ↓reduceIte,reduceCtorEq,Nat.reduceAdd,Nat.reduceEqDiff,Nat.reduceLT,Nat.reduceLeDiff,Int.reduceToNat,Int.reduceEq,Int.reduceLT,Int.reduceLE,w64,List.length_append,List.length_map,Nat.mul_one,beq_self_eq_true,PktC.cs,EvC.cs,BlkC.cs,EntC.cs,KeyC.cs,a0i,Int.reduceAdd,a0f,a0e,a0h,a0j,ixO,a0O,gdE];first|done|rfl)):A:=e▸h
set_option maxHeartbeats 4000000 in
theorem b8Z(l:List Int)(h:RiseN l)(hl:l.length≤100000):CP Tryz.prog 63 [.sl none 1 (ixs l)] (.sl none 2 (rgs (ofN l))):=by
 have hC:=b3w l (by omega)
 have hS:=b5u l (by omega) (asc_of h)
 have hg:=ofN_good h
 refine CP_okf a9W (by simp) ?_
 simp only[a8P];refine sxIxb ?_
 repeat' ((first|exact tt|refine CallO_pure (hC) ?_|refine CallO_pure (hS) ?_|refine na fun b=>?_|refine nb fun b hb=>?_|refine iq ?_|(refine jq ?_ ?_<;>intro h h')|refine Two_intro ?_ ?_|exact wZ|fail)<;>try refine sxIxb ?_)
 clear hC hS
 refine wpx_loop (fun x:Nat × RS=>⟨lk [(4,rsV 40 (ofN (l.take x.1)) x.2),(12,.sl none 1 (ixs l)),(13,.int .i64 (l.length:Int)),(14,.int .i64 (x.1:Int))],lk (rsO (ofN (l.take x.1)) x.2)⟩) (fun x=>x.1≤l.length∧b0M (ofN (l.take x.1)) x.2∧(x.2≠none→0<x.1)) (fun x=>l.length - x.1) (0,none) ⟨by simp,rfl,by simp⟩ (Le_lit (by simp[LeL,lk,rsV,rsO])) ?_
 rintro ⟨k,fm⟩ ⟨i1,i2,i3⟩
 simp only at i1 i2 i3
 obtain ⟨g1,g2,g3,g4⟩:=hg k i1
 by_cases hkl:k<l.length
 ·have f1:a0a (decide ((k:Int)<l.length)=true):=fo
  have hb:=h.1 k hkl
  simp only[mxN]at hb
  have hM:=b2u (l.getD k 0)
  rw[decide_eq_true (by simp only[mxN];exact hb)]at hM
  have hs:=ofN_take hkl
  have hlt:=ofN_lt h hkl
  clear hg h
  rcases fm with _ | ⟨g,cap⟩
  ·have ho:ofN (l.take k)=[]:=i2
   rw[ho]at hs g3
   have hs':ofN (l.take (k+1))=[(l.getD k 0,l.getD k 0)]:=hs
   clear hs hlt g1 g2 g3 g4 i3 i2
   have f3:a0a (decide ((0:Int) ≤ -1)=false):=rfl
   generalize hx:l.getD k 0=n at *
   simp (disch:=omega) only[ho,rsV,rsO,hx, ↓Ed,Eu, ↓reduceIte,reduceCtorEq,Nat.reduceAdd,Nat.reduceEqDiff,Nat.reduceLT,Nat.reduceLeDiff,Int.reduceToNat,Int.reduceEq,Int.reduceLT,Int.reduceLE,w64,List.length_append,List.length_map,Nat.mul_one,beq_self_eq_true,PktC.cs,EvC.cs,BlkC.cs,EntC.cs,KeyC.cs,a0i,Int.reduceAdd,a0f,a0e,a0h,a0j,ixO,a0O,gdE]
   repeat' ((first|exact tt|refine CallO_pure (hM) ?_|(refine rhapB (n,n) (NewB_intro0 (fun b cap hc=>?_)))|refine na fun b=>?_|refine nb fun b hb=>?_|refine iq ?_|(refine jq ?_ ?_<;>intro h h')|refine Two_intro ?_ ?_|exact wZ|fail)<;>try refine sxIxb ?_)
   all_goals exact Round_lit (k+1,some (b,cap)) ⟨Le_lit (by simp[LeL,lk,rsV,rsO,hs']),⟨hkl,by simpa[b0M,hs']using hc,by simp⟩,by simp only;omega⟩
  ·have hk0:0<k:=i3 (by simp)
   have h0:0<(ofN (l.take k)).length:=by omega
   have hbd:=g1.bd ((ofN (l.take k)).length - 1) (by omega)
   simp only[mxN]at hbd
   have hlt2:=(hlt ((ofN (l.take k)).length - 1) (by omega)).2
   simp only[b0M]at i2
   clear hlt g1 g3 g4 i3
   generalize hx:l.getD k 0=n at *
   generalize ofN (l.take k)=o at *
   have e1:((o.length:Int) - 1).toNat=o.length - 1:=by omega
   have r2:=c0C cap o (o.length - 1) (by omega)
   have st:=b9I cap o (o.length - 1) (by omega) n
   have hln:=b4X cap o
   have f3:a0a (decide ((0:Int)≤(o.length:Int) - 1)=true):=fo
   have hlc:(o.length - 1) * 2+1+1≤(hcR cap o).length:=by rw[hln];omega
   clear hln
   generalize hy:o.getD (o.length - 1) default=y at *
   have hsn:a4A o n=if n - y.2<2 then o.set (o.length - 1) (y.1,n) else o++[(n,n)]:=by unfold a4A;rw[if_neg (by omega),hy]
   rw[hsn]at hs
   clear hsn
   by_cases hq:n - y.2<2
   ·have f4:a0a (decide (n - y.2<2)=true):=fo
    rw[if_pos hq]at hs
    clear hq
    simp (disch:=omega) only[rsV,rsO,hx, ↓Ed,Eu, ↓reduceIte,reduceCtorEq,Nat.reduceAdd,Nat.reduceEqDiff,Nat.reduceLT,Nat.reduceLeDiff,Int.reduceToNat,Int.reduceEq,Int.reduceLT,Int.reduceLE,w64,List.length_append,List.length_map,Nat.mul_one,beq_self_eq_true,PktC.cs,EvC.cs,BlkC.cs,EntC.cs,KeyC.cs,a0i,Int.reduceAdd,a0f,a0e,a0h,a0j,ixO,a0O,gdE]
    repeat' ((first|exact tt|refine CallO_pure (hM) ?_|refine na fun b=>?_|refine nb fun b hb=>?_|refine iq ?_|(refine jq ?_ ?_<;>intro h h')|refine Two_intro ?_ ?_|exact wZ|fail)<;>try refine sxIxb ?_)
    all_goals exact Round_lit (k+1,some (g,cap)) ⟨Le_lit (by simp[LeL,lk,rsV,rsO,hs]),⟨hkl,by simp only[b0M,hs,List.length_set];omega,by simp⟩,by simp only;omega⟩
   ·have f4:a0a (decide (n - y.2<2)=false):=fo
    rw[if_neg hq]at hs
    clear hq
    simp (disch:=omega) only[rsV,rsO,hx, ↓Ed,Eu, ↓reduceIte,reduceCtorEq,Nat.reduceAdd,Nat.reduceEqDiff,Nat.reduceLT,Nat.reduceLeDiff,Int.reduceToNat,Int.reduceEq,Int.reduceLT,Int.reduceLE,w64,List.length_append,List.length_map,Nat.mul_one,beq_self_eq_true,PktC.cs,EvC.cs,BlkC.cs,EntC.cs,KeyC.cs,a0i,Int.reduceAdd,a0f,a0e,a0h,a0j,ixO,a0O,gdE]
    repeat' ((first|exact tt|refine CallO_pure (hM) ?_|(refine rhapC (n,n) (NewB_intro (fun b hb cap' hc=>?_)) (by omega) (by omega);simp only[upd_del,del_cons,del_nil, *,if_true,if_false,ln_cons2,ln_nil,and_true]at hb)|refine na fun b=>?_|refine nb fun b hb=>?_|refine iq ?_|(refine jq ?_ ?_<;>intro h h')|refine Two_intro ?_ ?_|exact wZ|fail)<;>try refine sxIxb ?_)
    all_goals exact Round_lit (k+1,some (b,cap')) ⟨Le_lit (by simp[LeL,lk,rsV,rsO,hs]),⟨hkl,by simp only[b0M,hs,List.length_append,List.length_cons,List.length_nil];omega,by simp⟩,by simp only;omega⟩
 obtain rfl:k=l.length:=by omega
 have f1:a0a (decide ((l.length:Int)<l.length)=false):=fo
 clear hg h g1 g2 g3 g4 i3
 rw[List.take_length]at i2
 rcases fm with _ | ⟨g,cap⟩
 ·have ho:ofN l=[]:=i2
  simp (disch:=omega) only[List.take_length,ho,rsV,rsO, ↓Ed,Eu, ↓reduceIte,reduceCtorEq,Nat.reduceAdd,Nat.reduceEqDiff,Nat.reduceLT,Nat.reduceLeDiff,Int.reduceToNat,Int.reduceEq,Int.reduceLT,Int.reduceLE,w64,List.length_append,List.length_map,Nat.mul_one,beq_self_eq_true,PktC.cs,EvC.cs,BlkC.cs,EntC.cs,KeyC.cs,a0i,Int.reduceAdd,a0f,a0e,a0h,a0j,ixO,a0O,gdE]
  repeat' ((first|exact tt|refine na fun b=>?_|refine nb fun b hb=>?_|refine iq ?_|(refine jq ?_ ?_<;>intro h h')|refine Two_intro ?_ ?_|exact wZ|fail)<;>try refine sxIxb ?_)
  all_goals exact rf_hnil (e:=40) (by simp[a0Q,arR,lk])
 ·simp only[b0M]at i2
  simp (disch:=omega) only[List.take_length,rsV,rsO, ↓Ed,Eu, ↓reduceIte,reduceCtorEq,Nat.reduceAdd,Nat.reduceEqDiff,Nat.reduceLT,Nat.reduceLeDiff,Int.reduceToNat,Int.reduceEq,Int.reduceLT,Int.reduceLE,w64,List.length_append,List.length_map,Nat.mul_one,beq_self_eq_true,PktC.cs,EvC.cs,BlkC.cs,EntC.cs,KeyC.cs,a0i,Int.reduceAdd,a0f,a0e,a0h,a0j,ixO,a0O,gdE]
  repeat' ((first|exact tt|refine na fun b=>?_|refine nb fun b hb=>?_|refine iq ?_|(refine jq ?_ ?_<;>intro h h')|refine Two_intro ?_ ?_|exact wZ|fail)<;>try refine sxIxb ?_)
  all_goals exact rf_row (e:=40) (g:=g) (cap:=cap) (by simp[a0Q,arR,lk]) (by simp[lk]) rfl
theorem b3i(l:List Int)(x:Int):ixs (l++[x])=ixs l++[[.int .i64 x]]:=by simp[ixs]
theorem take_snocT{l:List (List UInt8)}{k:Nat}(h:k<l.length):l.take (k+1)=l.take k++[l.getD k []]:=by
 rw[List.take_succ,List.getElem?_eq_getElem h];simp[List.getD,h]
theorem feedI_take{c:List UInt8}{top:Int}{l:List (List UInt8)}{k:Nat}(h:k<l.length):a2b c top (l.take (k+1))=((a2n c top (a2b c top (l.take k)).1 (l.getD k [])).1,(a2b c top (l.take k)).2++[(a2n c top (a2b c top (l.take k)).1 (l.getD k [])).2]):=by rw[take_snocT h,a7x]
def lightT(l:List (List UInt8)):Prop:=l.length≤100∧∀ i,i<l.length→(l.getD i []).length≤1000000
theorem lightT.mem{l:List (List UInt8)}(h:lightT l)(k:Nat):∀ s∈l.take k,s.length≤1000000:=by
 intro s hs
 obtain ⟨i,hi,rfl⟩:=List.getElem_of_mem (List.mem_of_mem_take hs)
 have:=h.2 i hi
 simpa[List.getD,hi]using this
theorem feed_good{c:List UInt8}{top:Int}{l:List (List UInt8)}(h:lightT l)(k:Nat):∃ n,IxG c top n (a2b c top (l.take k)).1:=⟨_,b0Z c top (l.take k) _ (h.mem k) (Nat.le_refl _)⟩
theorem b5Q(p m:Nat)(hpm:¬ p=m∧¬ m=p)(c:List UInt8)(top:Int)(l:List (List UInt8))(hl:lightT l):
  CT Tryz.prog 20 [.ptr p 0,.sl none 1 (txs l)] (lk (ixO p m c top [])) (fun r o=>r=.sl (some 27) 1 (ixs (a2b c top l).2)∧o=lk (ixO p m c top (a2b c top l).1)):=by
 have hG:=feed_good (c:=c) (top:=top) hl
 have hn:=fun k=>b1L c top (l.take k)
 have hl2:=hl.2
 have hl1:=hl.1
 clear hl
 refine a3U _ _ _ (by simp) ?_
 simp (disch:=omega) only[a2F,hpm,a0h, ↓Ed,Eu, ↓reduceIte,reduceCtorEq,Nat.reduceAdd,Nat.reduceEqDiff,Nat.reduceLT,Nat.reduceLeDiff,Int.reduceToNat,Int.reduceEq,Int.reduceLT,Int.reduceLE,w64,List.length_append,List.length_map,Nat.mul_one,beq_self_eq_true,PktC.cs,EvC.cs,BlkC.cs,EntC.cs,KeyC.cs,a0i,Int.reduceAdd,a0f,a0e,a0h,a0j,ixO,a0O,gdE]
 repeat' ((first|exact tt|refine na fun b=>?_|refine nb fun b hb=>?_|refine iq ?_|(refine jq ?_ ?_<;>intro h h')|refine Two_intro ?_ ?_|exact wZ|fail)<;>try refine sxIxb ?_)
 refine wpx_loop (fun k:Nat=>⟨lk [(0,.ptr p 0),(5,.sl (some 27) 1 (ixs (a2b c top (l.take k)).2)),(8,.sl none 1 (txs l)),(9,.int .i64 (l.length:Int)),(10,.int .i64 (k:Int))],lk (ixO p m c top (a2b c top (l.take k)).1)⟩) (fun k=>k≤l.length) (fun k=>l.length - k) 0 (by omega) (Le_lit (by simp[LeL,lk,hpm,a8U,ixs])) ?_
 intro k hk
 by_cases hkl:k<l.length
 ·have f1:a0a (decide ((k:Int)<l.length)=true):=fo
  have hmx:(1000000:Nat)≤maxLen:=by unfold maxLen;decide
  obtain ⟨n,g⟩:=hG k
  have hA:=a4j p m hpm c top (a2b c top (l.take k)).1 (l.getD k []) (hl2 k hkl) g.sm
  have hT:=feedI_take (c:=c) (top:=top) hkl
  have hx:=a0j l k hkl
  have hn':=hn k
  rw[List.length_take,Nat.min_eq_left hk]at hn'
  clear hG hn g hl2
  generalize a2b c top (l.take k)=F at *
  generalize hs:l.getD k []=s at *
  generalize a2n c top F.1 s=R at *
  simp (disch:=omega) only[hpm,hx,a0h, ↓Ed,Eu, ↓reduceIte,reduceCtorEq,Nat.reduceAdd,Nat.reduceEqDiff,Nat.reduceLT,Nat.reduceLeDiff,Int.reduceToNat,Int.reduceEq,Int.reduceLT,Int.reduceLE,w64,List.length_append,List.length_map,Nat.mul_one,beq_self_eq_true,PktC.cs,EvC.cs,BlkC.cs,EntC.cs,KeyC.cs,a0i,Int.reduceAdd,a0f,a0e,a0h,a0j,ixO,a0O,gdE]
  repeat' ((first|exact tt|refine c2 (hA) ?_|refine na fun b=>?_|refine nb fun b hb=>?_|refine iq ?_|(refine jq ?_ ?_<;>intro h h')|refine Two_intro ?_ ?_|exact wZ|fail)<;>try refine sxIxb ?_)
  all_goals exact Round_lit (k+1) ⟨Le_lit (by simp[LeL,lk,hpm,hT,b3i]),by omega,by omega⟩
 obtain rfl:k=l.length:=by omega
 have f1:a0a (decide ((l.length:Int)<l.length)=false):=fo
 clear hG hn hl2
 simp (disch:=omega) only[hpm,List.take_length, ↓Ed,Eu, ↓reduceIte,reduceCtorEq,Nat.reduceAdd,Nat.reduceEqDiff,Nat.reduceLT,Nat.reduceLeDiff,Int.reduceToNat,Int.reduceEq,Int.reduceLT,Int.reduceLE,w64,List.length_append,List.length_map,Nat.mul_one,beq_self_eq_true,PktC.cs,EvC.cs,BlkC.cs,EntC.cs,KeyC.cs,a0i,Int.reduceAdd,a0f,a0e,a0h,a0j,ixO,a0O,gdE]
 repeat' ((first|exact tt|refine na fun b=>?_|refine nb fun b hb=>?_|refine iq ?_|(refine jq ?_ ?_<;>intro h h')|refine Two_intro ?_ ?_|exact wZ|fail)<;>try refine sxIxb ?_)
 all_goals exact ro_mk (by simp[LeL,lk,hpm,a0Q,arR]) (dom2' rfl)
end
section
open Go.RowKit
theorem riseN_of{l:List Int}(h:l.Pairwise (· < ·))(hb:∀ x∈l,0≤x∧x≤mxN):RiseN l:=by
 refine ⟨fun i hi=>?_,fun i hi=>?_⟩
 ·rw[List.getD,List.getElem?_eq_getElem hi,Option.getD_some];exact hb _ (List.getElem_mem hi)
 ·have:=List.pairwise_iff_getElem.1 h i (i+1) (by omega) hi (by omega)
  simpa[List.getD,hi,show i<l.length by omega]using this
theorem riseN_srt{l:List Int}(hN:l.Nodup)(hb:∀ x∈l,0≤x∧x≤mxN):RiseN (srtL ltI l):=by
 refine riseN_of ((srtL_rise a3f hN).imp fun {a b} h=>by simpa[ltI]using h) fun x hx=>hb x ((srtL_perm _ _).mem_iff.1 hx)
theorem goodN{l:List Int}(h:RiseN l):GoodR (ofN l)∧(ofN l).length≤l.length:=by
 have:=ofN_good h l.length (Nat.le_refl _)
 rw[List.take_length]at this
 exact ⟨this.1,this.2.1⟩
def evT(D:List BlkC)(i j:Nat):List EvC:=(D.take i).flatMap (·.e)++((D.getD i default).e).take j
theorem b8E(D:List BlkC):evT D 0 0=[]:=by simp[evT]
theorem evT_j{D:List BlkC}{i j:Nat}(h:j<(D.getD i default).e.length):evT D i (j+1)=evT D i j++[(D.getD i default).e.getD j default]:=by
 unfold evT
 generalize (D.getD i default).e=E at *
 have ht:E.take (j+1)=E.take j++[E.getD j default]:=by
  rw[List.take_add_one,List.getElem?_eq_getElem h];simp[List.getD,h]
 rw[ht,List.append_assoc]
theorem evT_i{D:List BlkC}{i:Nat}(h:i<D.length):evT D (i+1) 0=evT D i (D.getD i default).e.length:=by
 unfold evT
 have ht:D.take (i+1)=D.take i++[D.getD i default]:=by
  rw[List.take_add_one,List.getElem?_eq_getElem h];simp[List.getD,h]
 rw[ht,List.take_length,List.take_zero,List.append_nil,List.flatMap_append,List.flatMap_singleton]
theorem evT_all{D:List BlkC}:evT D D.length 0=D.flatMap (·.e):=by simp[evT]
theorem b4Q(D:List BlkC)(i j:Nat)(h:i<D.length):(evT D i j).length≤(D.flatMap (·.e)).length:=by
 have e:D.flatMap (·.e)=(D.take i).flatMap (·.e)++((D.getD i default).e++(D.drop (i+1)).flatMap (·.e)):=by
  have h1:D=D.take i++(D.getD i default::D.drop (i+1)):=by
   conv=>lhs;rw[← List.take_append_drop i D,List.drop_eq_getElem_cons h]
   simp[List.getD,h]
  conv=>lhs;rw[h1]
  simp
 rw[e]
 simp only[evT,List.length_append,List.length_take]
 omega
noncomputable def a4B (l:List EvC):Tb:=b1a ⟨[],[]⟩ l
theorem b3S:a4B []=⟨[],[]⟩:=rfl
theorem b2E(l:List EvC)(e:EvC):a4B (l++[e])=(a1f (a4B l) e).1:=b1b _ _ _
theorem a9x(l:List EvC):Tgood l.length (a4B l):=by
 have:=foldL_good b7G l
 simpa[a4B]using this
noncomputable def b2S (l:List EvC):Tb × Nat:=l.foldl (fun x e=>((a1f x.1 e).1,if (a1f x.1 e).2=0 then x.2 else x.2+1)) (⟨[],[]⟩,0)
noncomputable def a9H (l:List EvC):Nat:=(b2S l).2
theorem b6r(l:List EvC):(b2S l).1=a4B l:=by
 have key:∀ (l:List EvC) (x:Tb × Nat),(l.foldl (fun x e=>((a1f x.1 e).1,if (a1f x.1 e).2=0 then x.2 else x.2+1)) x).1=b1a x.1 l:=by
  intro l
  induction l with
  | nil=>intro x;rfl
  | cons e l ih=>intro x;rw[List.foldl_cons,ih];rfl
 exact key l _
theorem b2R:a9H []=0:=rfl
theorem b1D(l:List EvC)(e:EvC):a9H (l++[e])=if (a1f (a4B l) e).2=0 then a9H l else a9H l+1:=by
 have:b2S (l++[e])=((a1f (b2S l).1 e).1,if (a1f (b2S l).1 e).2=0 then (b2S l).2 else (b2S l).2+1):=by simp only[b2S,List.foldl_append,List.foldl_cons,List.foldl_nil];rfl
 unfold a9H
 rw[this,b6r]
theorem b4K(l:List EvC):a9H l≤l.length:=by
 have key:∀ (l:List EvC) (x:Tb × Nat),(l.foldl (fun x e=>((a1f x.1 e).1,if (a1f x.1 e).2=0 then x.2 else x.2+1)) x).2≤x.2+l.length:=by
  intro l
  induction l with
  | nil=>intro x;exact Nat.le_refl _
  | cons e l ih=>
   intro x
   rw[List.foldl_cons,List.length_cons]
   refine Nat.le_trans (ih _) ?_
   simp only
   split<;>omega
 have:=key l (⟨[],[]⟩,0)
 simpa[a9H,b2S]using this
end
section
open Go.RowKit
set_option maxRecDepth 100000
def a8G(D:List BlkC):List (List AV):=D.map BlkC.cs
theorem a0s(D:List BlkC):(a8G D).length=D.length:=by simp[a8G]
theorem a0r(D:List BlkC)(i:Nat)(h:i<D.length):(a8G D).getD i []=(D.getD i default).cs:=by simp[a8G,h]
end
end Go.Proofs.YtgdhinnepnlihaaGreatDoor
