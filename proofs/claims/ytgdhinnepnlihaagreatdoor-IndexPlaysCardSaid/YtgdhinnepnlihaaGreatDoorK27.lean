import Derived.Test.YtgdhinnepnlihaaGreatDoorK26
import Derived.Test.YtgdhinnepnlihaaGreatDoorK25
namespace Go.Proofs.YtgdhinnepnlihaaGreatDoor
set_option linter.all false
set_option maxHeartbeats 9000000
section
open Go.RowKit Classical
set_option maxRecDepth 100000
def b7T(bs:List Nat):Gx→Prop
 | .inl _=>True
 | .inr x=>∀ b∈bs, ¬ x.g=b∧¬ b=x.g
theorem off_new{o:Nat→Option (List AV)}{bs:List Nat}{o1 o2:List (Nat × List AV)}{g:Nat}{cs:List AV}
  (hf:∀ b cs,lk o2 b=some cs→lk o1 b=none→o b=none) (hg:lk o2 g=some cs) (h1:∀ b∈bs,o b≠none)
  (h2:lk o1 g≠none→∀ b∈bs, ¬ g=b∧¬ b=g):∀ b∈bs, ¬ g=b∧¬ b=g:=by
 by_cases h:lk o1 g=none
 ·exact fun b hb=>fr_ne (hf g cs hg h) (h1 b hb)
 ·exact h2 h
theorem Fx.lkr{x:Fx}{p g:Nat}{t:Tb}(h:x.ok p t):lk (x.o p g t) x.g=some (hcE x.cap (dOf t).E):=by
 obtain ⟨_,_,h3,_⟩:=h
 exact lk_tl h3.1 (lk_hd _ _ _)
theorem Fx.lkr'{x:Fx}{p:Nat}{t:Tb}(h:x.ok p t):lk (Gx.o (.inr x) p t) x.g=some (hcE x.cap (dOf t).E):=by
 obtain ⟨_,_,h3,_⟩:=h
 exact lk_tl h3.1 (lk_hd _ _ _)
theorem dom_p1{α:Type}{p:Nat}{a a':α}{r:List (Nat × α)}:∀ k cs,lk [(p,a)] k=some cs→∃ cs',lk ((p,a')::r) k=some cs':=by
 intro k cs h
 rw[lk_cons]at h ⊢
 by_cases h1:k=p
 ·rw[if_pos h1];exact ⟨_,rfl⟩
 ·rw[if_neg h1]at h;cases h
theorem sxIxg{A B:Prop}(h:B)(e:A=B:=by (simp (disch:=omega) only[*, ↓Ed,Eu, ↓reduceIte,reduceCtorEq,Nat.reduceAdd,Nat.reduceEqDiff,Nat.reduceLT,Nat.reduceLeDiff,Int.reduceToNat,Int.reduceEq,Int.reduceLT,Int.reduceLE,w64,List.length_append,List.length_map,Nat.mul_one,beq_self_eq_true,PktC.cs,EvC.cs,BlkC.cs,EntC.cs,KeyC.cs,a0h,Int.reduceAdd,a0e,a0d,a0J,a0I,a0D,gdE,a0l,a0u,Bool.false_and,Bool.and_false,Bool.true_and];first|done|rfl)):A:=e▸h
set_option maxHeartbeats 16000000 in
theorem b2u(p:Nat)(ch:List UInt8)(top:Int)(L:List BlkC)(N:Nat)(hG:IxG ch top N L)(hN:N≤90000)(bc:AV)(hk:b3c bc L):
  CT Tryz.prog 74 [.ptr p 0] (lk (dxO p ch top bc)) (fun r o=>∃ x:Nat × Gx,((¬ x.1=p∧¬ p=x.1)∧x.2.ok x.1 (a0K (evI L))∧b7T [p] x.2)∧r=.tup [.ptr x.1 0,.int .i64 (a6r (evI L):Nat)]∧o=lk (dxO p ch top bc++x.2.o x.1 (a0K (evI L)))):=by
 have hk':bc.alias=.sl none 4 (a7j (dI L)):=hk
 have hdl:=a9b L
 have hev:(evI L).length≤90000:=by rw[a6t];have:=hG.ev;omega
 have hsm:∀ i,i<L.length→a8F ((dI L).getD i default).e:=fun i hi=>hG.sm _ (findH_some (b3n L i hi).2).1
 have hall:evT (dI L) L.length 0=evI L:=by rw[← hdl,evT_all];rfl
 have hln:=hG.ln
 clear hG hk
 refine a3D _ _ _ (by simp) ?_
 simp only[a2i];refine sxIxg ?_
 repeat' ((first|exact tt|refine na fun b=>?_|refine nb fun b hb=>?_|refine iq ?_|(refine jq ?_ ?_<;>intro h h')|refine Two_intro ?_ ?_|exact wZ|fail)<;>try refine sxIxg ?_)
 refine wpx_loop (fun z:Nat × Gx=>⟨lk [(0,.ptr p 0),(4,.ptr b 0),(5,.int .i64 (a6r (evT (dI L) z.1 0):Nat)),(6,.int .i64 (z.1:Int))],lk (dxO p ch top bc++z.2.o b (a0K (evT (dI L) z.1 0)))⟩) (fun z=>z.1≤L.length∧z.2.ok b (a0K (evT (dI L) z.1 0))∧b7T [p] z.2) (fun z=>L.length - z.1) (0,.inl (.nils 224 4,.nils 56 2)) ⟨by omega,⟨rfl,rfl,rfl⟩,trivial⟩ (Le_lit (by simp[LeL,lk,hb,b8l,b1H])) ?_
 rintro ⟨i,x0⟩ ⟨i1,i2,i3⟩
 simp only at i1 i2 i3
 by_cases hil:i<L.length
 ·have f1:a0a (decide ((i:Int)<L.length)=true):=fo
  have hsi:=hsm i hil
  have hnx:=evT_i (D:=dI L) (i:=i) (by omega)
  have hEl:=fun j=>b3t (dI L) i j (by omega)
  have hst:=fun j (h:j<((dI L).getD i default).e.length)=>evT_j (D:=dI L) (i:=i) h
  clear hsm hall
  change ∀ j,(evT (dI L) i j).length≤(evI L).length at hEl
  generalize (evI L).length=EL at *
  generalize hbk:(dI L).getD i default=B at *
  simp (disch:=omega) only[hk',hb,hdl,hbk,List.cons_append,List.nil_append, ↓Ed,Eu, ↓reduceIte,reduceCtorEq,Nat.reduceAdd,Nat.reduceEqDiff,Nat.reduceLT,Nat.reduceLeDiff,Int.reduceToNat,Int.reduceEq,Int.reduceLT,Int.reduceLE,w64,List.length_append,List.length_map,Nat.mul_one,beq_self_eq_true,PktC.cs,EvC.cs,BlkC.cs,EntC.cs,KeyC.cs,a0h,Int.reduceAdd,a0e,a0d,a0J,a0I,a0D,gdE,a0l,a0u,Bool.false_and,Bool.and_false,Bool.true_and]
  repeat' ((first|exact tt|refine na fun b=>?_|refine nb fun b hb=>?_|refine iq ?_|(refine jq ?_ ?_<;>intro h h')|refine Two_intro ?_ ?_|exact wZ|fail)<;>try refine sxIxg ?_)
  refine wpx_loop (fun z:Nat × Gx=>⟨lk [(0,.ptr p 0),(4,.ptr b 0),(5,.int .i64 (a6r (evT (dI L) i z.1):Nat)),(6,.int .i64 (i:Int)),(7,.int .i64 (z.1:Int))],lk (dxO p ch top bc++z.2.o b (a0K (evT (dI L) i z.1)))⟩) (fun z=>z.1≤B.e.length∧z.2.ok b (a0K (evT (dI L) i z.1))∧b7T [p] z.2) (fun z=>B.e.length - z.1) (0,x0) ⟨by omega,i2,i3⟩ ⟨LeL_ok (by simp[LeL,lk]),fun _ _ h=>h⟩ ?_
  clear i2 i3
  rintro ⟨j,y⟩ ⟨j1,j2,j3⟩
  simp only at j1 j2 j3
  by_cases hjl:j<B.e.length
  ·have f2:a0a (decide ((j:Int)<B.e.length)=true):=fo
   obtain ⟨b1,b2,b3,b4,b5⟩:=hsi.2 j hjl
   have gi:Tgood 90000 (a0K (evT (dI L) i j)):=(a3H _).mono (by have:=hEl j;omega)
   have hs:=hst j hjl
   have hT:a0K (evT (dI L) i (j+1))=(a0T (a0K (evT (dI L) i j)) (B.e.getD j default)).1:=by rw[hs];exact b0Y _ _
   have hB:a6r (evT (dI L) i (j+1))=if (a0T (a0K (evT (dI L) i j)) (B.e.getD j default)).2=0 then a6r (evT (dI L) i j) else a6r (evT (dI L) i j)+1:=by rw[hs];exact b0m _ _
   have hle:=b3h (evT (dI L) i j)
   have hel:=hEl j
   have hbl:=hsi.1
   clear hs hst hsi hEl hnx
   rcases y with ⟨kc,cc⟩ | ⟨kc,cc,g,cap,X⟩
   ·obtain ⟨k1,k2,k3⟩:=j2
    have hD:=b5D b kc cc (a0K (evT (dI L) i j)) k1 k2 gi k3 (B.e.getD j default) b1 b2 b3 b4 b5
    clear b1 b2 b3 b4 b5 gi k3 j3
    generalize he:B.e.getD j default=e at *
    generalize hE1:evT (dI L) i (j+1)=E1 at *
    generalize evT (dI L) i j=E0 at *
    generalize a6r E0=B0 at *
    rw[← hT]at hD
    have hRR:∃ R,(a0T (a0K E0) e).2=R:=⟨_,rfl⟩
    obtain ⟨R,hRR⟩:=hRR
    rw[hRR]at hD hB
    clear hT hRR
    generalize a0K E0=T at *
    generalize hTT:a0K E1=T' at *
    simp (disch:=omega) only[hk',hb,hdl,hbk,he,List.cons_append,List.nil_append, ↓Ed,Eu, ↓reduceIte,reduceCtorEq,Nat.reduceAdd,Nat.reduceEqDiff,Nat.reduceLT,Nat.reduceLeDiff,Int.reduceToNat,Int.reduceEq,Int.reduceLT,Int.reduceLE,w64,List.length_append,List.length_map,Nat.mul_one,beq_self_eq_true,PktC.cs,EvC.cs,BlkC.cs,EntC.cs,KeyC.cs,a0h,Int.reduceAdd,a0e,a0d,a0J,a0I,a0D,gdE,a0l,a0u,Bool.false_and,Bool.and_false,Bool.true_and]
    repeat' ((first|exact tt|refine na fun b=>?_|refine nb fun b hb=>?_|refine iq ?_|(refine jq ?_ ?_<;>intro h h')|refine Two_intro ?_ ?_|exact wZ|fail)<;>try refine sxIxg ?_)
    refine CallO_ex hD (lk_sub1 (by simp[lk,hb])) (fun y hy hf=>?_)
    clear hD
    rcases y with ⟨kc',cc'⟩|y
    ·clear hf
     by_cases hz:R=0
     ·have f3:a0a (decide (R=0)=true):=by simp only[a0a,Hn];exact hz
      rw[if_pos hz]at hB
      clear hz
      refine sxIxg ?_
      repeat' ((first|exact tt|refine na fun b=>?_|refine nb fun b hb=>?_|refine iq ?_|(refine jq ?_ ?_<;>intro h h')|refine Two_intro ?_ ?_|exact wZ|fail)<;>try refine sxIxg ?_)
      all_goals exact Round_lit (j+1,.inl (kc',cc')) ⟨Le_lit (by simp[LeL,lk,hb,hk',hE1,hTT,hB]),⟨by simp only;omega,by show Gx.ok _ _ (a0K (evT (dI L) i (j+1)));rw[hE1,hTT];exact hy,trivial⟩,by simp only;omega⟩
     ·have f3:a0a (decide (R=0)=false):=by simp only[a0a,Hn];exact hz
      rw[if_neg hz]at hB
      clear hz
      refine sxIxg ?_
      repeat' ((first|exact tt|refine na fun b=>?_|refine nb fun b hb=>?_|refine iq ?_|(refine jq ?_ ?_<;>intro h h')|refine Two_intro ?_ ?_|exact wZ|fail)<;>try refine sxIxg ?_)
      all_goals exact Round_lit (j+1,.inl (kc',cc')) ⟨Le_lit (by simp[LeL,lk,hb,hk',hE1,hTT,hB]),⟨by simp only;omega,by show Gx.ok _ _ (a0K (evT (dI L) i (j+1)));rw[hE1,hTT];exact hy,trivial⟩,by simp only;omega⟩
    ·have hy':Fx.ok y b T':=hy
     have hA:=off_new (bs:=[p]) hf (Fx.lkr' hy') (by simp[lk,hb]) (fun h0=>absurd (by simpa[lk]using hy'.2.2.1.1) h0)
     have hA2:¬ y.g=p∧¬ p=y.g:=by simpa using hA
     obtain ⟨y1,y2,y3,y4⟩:=hy'
     clear hf
     by_cases hz:R=0
     ·have f3:a0a (decide (R=0)=true):=by simp only[a0a,Hn];exact hz
      rw[if_pos hz]at hB
      clear hz
      refine sxIxg ?_
      repeat' ((first|exact tt|refine na fun b=>?_|refine nb fun b hb=>?_|refine iq ?_|(refine jq ?_ ?_<;>intro h h')|refine Two_intro ?_ ?_|exact wZ|fail)<;>try refine sxIxg ?_)
      all_goals exact Round_lit (j+1,.inr y) ⟨Le_lit (by simp[LeL,lk,hb,y3,hA2,hE1,hTT,hB]),⟨by simp only;omega,by show Gx.ok _ _ (a0K (evT (dI L) i (j+1)));rw[hE1,hTT];exact hy,hA⟩,by simp only;omega⟩
     ·have f3:a0a (decide (R=0)=false):=by simp only[a0a,Hn];exact hz
      rw[if_neg hz]at hB
      clear hz
      refine sxIxg ?_
      repeat' ((first|exact tt|refine na fun b=>?_|refine nb fun b hb=>?_|refine iq ?_|(refine jq ?_ ?_<;>intro h h')|refine Two_intro ?_ ?_|exact wZ|fail)<;>try refine sxIxg ?_)
      all_goals exact Round_lit (j+1,.inr y) ⟨Le_lit (by simp[LeL,lk,hb,y3,hA2,hE1,hTT,hB]),⟨by simp only;omega,by show Gx.ok _ _ (a0K (evT (dI L) i (j+1)));rw[hE1,hTT];exact hy,hA⟩,by simp only;omega⟩
   ·obtain ⟨k1,k2,k3,k4⟩:=j2
    simp only at k1 k2 k3 k4
    have k5:¬ g=p∧¬ p=g:=by simpa[b7T]using j3
    have hD:=b5E b g k3 kc cc cap (a0K (evT (dI L) i j)) k1 k2 gi k4 (B.e.getD j default) b1 b2 b3 b4 b5
    clear b1 b2 b3 b4 b5 gi
    generalize he:B.e.getD j default=e at *
    generalize hE1:evT (dI L) i (j+1)=E1 at *
    generalize evT (dI L) i j=E0 at *
    generalize a6r E0=B0 at *
    rw[← hT]at hD
    have hRR:∃ R,(a0T (a0K E0) e).2=R:=⟨_,rfl⟩
    obtain ⟨R,hRR⟩:=hRR
    rw[hRR]at hD hB
    clear hT hRR
    generalize a0K E0=T at *
    generalize hTT:a0K E1=T' at *
    simp (disch:=omega) only[hk',hb,hdl,hbk,he,k3,k5,List.cons_append,List.nil_append, ↓Ed,Eu, ↓reduceIte,reduceCtorEq,Nat.reduceAdd,Nat.reduceEqDiff,Nat.reduceLT,Nat.reduceLeDiff,Int.reduceToNat,Int.reduceEq,Int.reduceLT,Int.reduceLE,w64,List.length_append,List.length_map,Nat.mul_one,beq_self_eq_true,PktC.cs,EvC.cs,BlkC.cs,EntC.cs,KeyC.cs,a0h,Int.reduceAdd,a0e,a0d,a0J,a0I,a0D,gdE,a0l,a0u,Bool.false_and,Bool.and_false,Bool.true_and]
    repeat' ((first|exact tt|refine na fun b=>?_|refine nb fun b hb=>?_|refine iq ?_|(refine jq ?_ ?_<;>intro h h')|refine Two_intro ?_ ?_|exact wZ|fail)<;>try refine sxIxg ?_)
    refine CallO_ex hD (lk_sub2 (by simp[lk,hb,k3,k5]) (by simp[lk,hb,k3,k5])) (fun y hy hf=>?_)
    have hA:=off_new (bs:=[p]) hf (Fx.lkr hy) (by simp[lk,hb,k3,k5]) (fun h0=>by
     by_cases hgg:y.g=g
     ·rw[hgg];exact j3
     ·exact absurd (by simp[lk,hy.2.2.1.1,hgg]) h0)
    have hA2:¬ y.g=p∧¬ p=y.g:=by simpa using hA
    obtain ⟨y1,y2,y3,y4⟩:=id hy
    clear hf j3 hD
    by_cases hgg:y.g=g
    ·skip
     by_cases hz:R=0
     ·have f3:a0a (decide (R=0)=true):=by simp only[a0a,Hn];exact hz
      rw[if_pos hz]at hB
      clear hz
      simp (disch:=omega) only[hgg,k3,k5,hb, ↓Ed,Eu, ↓reduceIte,reduceCtorEq,Nat.reduceAdd,Nat.reduceEqDiff,Nat.reduceLT,Nat.reduceLeDiff,Int.reduceToNat,Int.reduceEq,Int.reduceLT,Int.reduceLE,w64,List.length_append,List.length_map,Nat.mul_one,beq_self_eq_true,PktC.cs,EvC.cs,BlkC.cs,EntC.cs,KeyC.cs,a0h,Int.reduceAdd,a0e,a0d,a0J,a0I,a0D,gdE,a0l,a0u,Bool.false_and,Bool.and_false,Bool.true_and]
      repeat' ((first|exact tt|refine na fun b=>?_|refine nb fun b hb=>?_|refine iq ?_|(refine jq ?_ ?_<;>intro h h')|refine Two_intro ?_ ?_|exact wZ|fail)<;>try refine sxIxg ?_)
      all_goals exact Round_lit (j+1,.inr y) ⟨Le_lit (by simp[LeL,lk,hb,hgg,k3,k5,hE1,hTT,hB]),⟨by simp only;omega,by show Gx.ok _ _ (a0K (evT (dI L) i (j+1)));rw[hE1,hTT];exact hy,hA⟩,by simp only;omega⟩
     ·have f3:a0a (decide (R=0)=false):=by simp only[a0a,Hn];exact hz
      rw[if_neg hz]at hB
      clear hz
      simp (disch:=omega) only[hgg,k3,k5,hb, ↓Ed,Eu, ↓reduceIte,reduceCtorEq,Nat.reduceAdd,Nat.reduceEqDiff,Nat.reduceLT,Nat.reduceLeDiff,Int.reduceToNat,Int.reduceEq,Int.reduceLT,Int.reduceLE,w64,List.length_append,List.length_map,Nat.mul_one,beq_self_eq_true,PktC.cs,EvC.cs,BlkC.cs,EntC.cs,KeyC.cs,a0h,Int.reduceAdd,a0e,a0d,a0J,a0I,a0D,gdE,a0l,a0u,Bool.false_and,Bool.and_false,Bool.true_and]
      repeat' ((first|exact tt|refine na fun b=>?_|refine nb fun b hb=>?_|refine iq ?_|(refine jq ?_ ?_<;>intro h h')|refine Two_intro ?_ ?_|exact wZ|fail)<;>try refine sxIxg ?_)
      all_goals exact Round_lit (j+1,.inr y) ⟨Le_lit (by simp[LeL,lk,hb,hgg,k3,k5,hE1,hTT,hB]),⟨by simp only;omega,by show Gx.ok _ _ (a0K (evT (dI L) i (j+1)));rw[hE1,hTT];exact hy,hA⟩,by simp only;omega⟩
    ·have hgg':¬ g=y.g:=fun e=>hgg e.symm
     by_cases hz:R=0
     ·have f3:a0a (decide (R=0)=true):=by simp only[a0a,Hn];exact hz
      rw[if_pos hz]at hB
      clear hz
      simp (disch:=omega) only[hgg,hgg',y3,hA2,k3,k5,hb, ↓Ed,Eu, ↓reduceIte,reduceCtorEq,Nat.reduceAdd,Nat.reduceEqDiff,Nat.reduceLT,Nat.reduceLeDiff,Int.reduceToNat,Int.reduceEq,Int.reduceLT,Int.reduceLE,w64,List.length_append,List.length_map,Nat.mul_one,beq_self_eq_true,PktC.cs,EvC.cs,BlkC.cs,EntC.cs,KeyC.cs,a0h,Int.reduceAdd,a0e,a0d,a0J,a0I,a0D,gdE,a0l,a0u,Bool.false_and,Bool.and_false,Bool.true_and]
      repeat' ((first|exact tt|refine na fun b=>?_|refine nb fun b hb=>?_|refine iq ?_|(refine jq ?_ ?_<;>intro h h')|refine Two_intro ?_ ?_|exact wZ|fail)<;>try refine sxIxg ?_)
      all_goals exact Round_lit (j+1,.inr y) ⟨Le_lit (by simp[LeL,lk,hb,hgg,hgg',y3,hA2,k3,k5,hE1,hTT,hB]),⟨by simp only;omega,by show Gx.ok _ _ (a0K (evT (dI L) i (j+1)));rw[hE1,hTT];exact hy,hA⟩,by simp only;omega⟩
     ·have f3:a0a (decide (R=0)=false):=by simp only[a0a,Hn];exact hz
      rw[if_neg hz]at hB
      clear hz
      simp (disch:=omega) only[hgg,hgg',y3,hA2,k3,k5,hb, ↓Ed,Eu, ↓reduceIte,reduceCtorEq,Nat.reduceAdd,Nat.reduceEqDiff,Nat.reduceLT,Nat.reduceLeDiff,Int.reduceToNat,Int.reduceEq,Int.reduceLT,Int.reduceLE,w64,List.length_append,List.length_map,Nat.mul_one,beq_self_eq_true,PktC.cs,EvC.cs,BlkC.cs,EntC.cs,KeyC.cs,a0h,Int.reduceAdd,a0e,a0d,a0J,a0I,a0D,gdE,a0l,a0u,Bool.false_and,Bool.and_false,Bool.true_and]
      repeat' ((first|exact tt|refine na fun b=>?_|refine nb fun b hb=>?_|refine iq ?_|(refine jq ?_ ?_<;>intro h h')|refine Two_intro ?_ ?_|exact wZ|fail)<;>try refine sxIxg ?_)
      all_goals exact Round_lit (j+1,.inr y) ⟨Le_lit (by simp[LeL,lk,hb,hgg,hgg',y3,hA2,k3,k5,hE1,hTT,hB]),⟨by simp only;omega,by show Gx.ok _ _ (a0K (evT (dI L) i (j+1)));rw[hE1,hTT];exact hy,hA⟩,by simp only;omega⟩
  ·obtain rfl:j=B.e.length:=by omega
   have f2:a0a (decide ((B.e.length:Int)<B.e.length)=false):=fo
   have hbl:=hsi.1
   clear hst hsi hEl
   rw[← hnx]at j2
   simp (disch:=omega) only[hk',hb,hdl,hbk,List.cons_append,List.nil_append, ↓Ed,Eu, ↓reduceIte,reduceCtorEq,Nat.reduceAdd,Nat.reduceEqDiff,Nat.reduceLT,Nat.reduceLeDiff,Int.reduceToNat,Int.reduceEq,Int.reduceLT,Int.reduceLE,w64,List.length_append,List.length_map,Nat.mul_one,beq_self_eq_true,PktC.cs,EvC.cs,BlkC.cs,EntC.cs,KeyC.cs,a0h,Int.reduceAdd,a0e,a0d,a0J,a0I,a0D,gdE,a0l,a0u,Bool.false_and,Bool.and_false,Bool.true_and]
   repeat' ((first|exact tt|refine na fun b=>?_|refine nb fun b hb=>?_|refine iq ?_|(refine jq ?_ ?_<;>intro h h')|refine Two_intro ?_ ?_|exact wZ|fail)<;>try refine sxIxg ?_)
   all_goals exact Round_lit (i+1,y) ⟨⟨LeL_ok (by simp[LeL,lk,hnx]),fun b' cs h=>by simp only[hnx]at h;exact h⟩,⟨by simp only;omega,j2,j3⟩,by simp only;omega⟩
 obtain rfl:i=L.length:=by omega
 have f1:a0a (decide ((L.length:Int)<L.length)=false):=fo
 clear hsm
 rw[hall]at i2
 simp (disch:=omega) only[hk',hb,hdl,hall,List.cons_append,List.nil_append, ↓Ed,Eu, ↓reduceIte,reduceCtorEq,Nat.reduceAdd,Nat.reduceEqDiff,Nat.reduceLT,Nat.reduceLeDiff,Int.reduceToNat,Int.reduceEq,Int.reduceLT,Int.reduceLE,w64,List.length_append,List.length_map,Nat.mul_one,beq_self_eq_true,PktC.cs,EvC.cs,BlkC.cs,EntC.cs,KeyC.cs,a0h,Int.reduceAdd,a0e,a0d,a0J,a0I,a0D,gdE,a0l,a0u,Bool.false_and,Bool.and_false,Bool.true_and]
 repeat' ((first|exact tt|refine na fun b=>?_|refine nb fun b hb=>?_|refine iq ?_|(refine jq ?_ ?_<;>intro h h')|refine Two_intro ?_ ?_|exact wZ|fail)<;>try refine sxIxg ?_)
 all_goals exact ⟨_,(by simp[r_two,rl_cons,rl_nil,arR,lk,al_int,al_ptr]),_,fun _ _ h=>h,dom_p1,(b,x0),⟨by simpa using hb,i2,i3⟩,rfl,rfl⟩
end
section
open Go.RowKit Classical
set_option maxRecDepth 100000
theorem c0S(cap:Nat)(E:List EntC)(i:Nat)(hi:i<E.length)(K:AV→Prop):RK (ldR none ((hcE cap E).drop (i * 14+9))) K=K (.bool (E.getD i default).s):=by
 have he:(E.map EntC.cs)[i]?=some (E.getD i default).cs:=by simp[List.getD,hi]
 have h:(hcE cap E)[i * 14+9]?=some (.bool (E.getD i default).s):=hc_get (entRow.all E) he (by omega)
 rw[drop_of h]
 exact RK_eq _ _
theorem sxIxh{A B:Prop}(h:B)(e:A=B:=by (simp (disch:=omega) only[*, ↓Ed,Eu, ↓reduceIte,reduceCtorEq,Nat.reduceAdd,Nat.reduceEqDiff,Nat.reduceLT,Nat.reduceLeDiff,Int.reduceToNat,Int.reduceEq,Int.reduceLT,Int.reduceLE,w64,List.length_append,List.length_map,Nat.mul_one,beq_self_eq_true,PktC.cs,EvC.cs,BlkC.cs,EntC.cs,KeyC.cs,a0h,Int.reduceAdd,a0e,a0d,a0l,a0u,Bool.false_and,Bool.and_false,Bool.true_and];first|done|rfl)):A:=e▸h
set_option maxHeartbeats 16000000 in
theorem b7F(p:Nat)(ch:List UInt8)(top:Int)(L:List BlkC)(N:Nat)(hG:IxG ch top N L)(hN:N≤90000)(bc:AV)(hk:b3c bc L)(e:a1D)(f t:Int):
  CT Tryz.prog 80 [.ptr p 0,.agg [.str e.1,.int .i64 e.2],.int .i64 f,.int .i64 t] (lk (dxO p ch top bc)) (fun r o=>r=.sl none 2 (rgs (b4L e f t (evI L)))∧o=lk (dxO p ch top bc)):=by
 have hT:=b2u p ch top L N hG hN bc hk
 have hgd:=a3H (evI L)
 have hln:(a0i (a0K (evI L))).length≤90000:=by
  rw[a0i,(srtL_perm _ _).length_eq,List.length_map]
  have h1:=hgd.lk
  have h2:(evI L).length≤90000:=by rw[a6t];have:=hG.ev;omega
  omega
 have hR:=fun i=>gapN_rise hgd.k (a8c (evI L)) e i
 have hO:=b2d (a6Y (a0K (evI L)) e (a0i (a0K (evI L))).length) (hR _) (by have:=a3O (a0K (evI L)) e (a0i (a0K (evI L))).length;omega)
 have hK:=b2f (ofN (a6Y (a0K (evI L)) e (a0i (a0K (evI L))).length)) f t (goodN (hR _)).1 (by have:=(goodN (hR (a0i (a0K (evI L))).length)).2;have:=a3O (a0K (evI L)) e (a0i (a0K (evI L))).length;omega)
 unfold b4L
 clear hG hR hgd
 refine a3S _ _ _ (by simp) ?_
 simp only[a2t];refine sxIxh ?_
 repeat' ((first|exact tt|refine na fun b=>?_|refine nb fun b hb=>?_|refine iq ?_|(refine jq ?_ ?_<;>intro h h')|refine Two_intro ?_ ?_|exact wZ|fail)<;>try refine sxIxh ?_)
 have hb':¬ b=p∧¬ p=b:=by simpa using hb
 refine CallO_exr hT (lk_sub1 (by simp[lk,hb'])) (fun x hx hf=>?_)
 obtain ⟨tb,fm⟩:=x
 obtain ⟨hc,hx2,hx3⟩:=hx
 simp only at hc hx2 hx3 hf
 have hgs:=fun i h=>gapN_p (t:=a0K (evI L)) (e:=e) (i:=i) h
 have hgl:=a3O (a0K (evI L)) e
 have hg0:=b5U (a0K (evI L)) e
 have hmx:(1000000:Nat)≤maxLen:=by unfold maxLen;decide
 clear hT hb
 rcases fm with ⟨kc,cc⟩ | ⟨kc,cc,g,cap,X⟩
 ·obtain ⟨k1,k2,k3⟩:=hx2
  have hcb:=fr_ne (hf tb [kc,.nils 223 14,cc] (by simp[lk,hc]) (by simp[lk,hc])) (c:=b) (by simp[lk,hb'])
  have hz:(a0i (a0K (evI L))).length=0:=by rw[a0i,(srtL_perm _ _).length_eq,List.length_map,k3];rfl
  have k1':kc.alias=.sl none 4 (kys (a0i (a0K (evI L)))):=k1
  have f1:a0a (decide ((0:Int)<((a0i (a0K (evI L))).length:Int))=false):=fo
  rw[hz,hg0]at hO hK
  rw[hz,hg0]
  clear hf k1 k2 k3 hx3 hgs hgl hg0
  generalize a0K (evI L)=T at *
  generalize a6r (evI L)=B at *
  generalize a1P (ofN []) (max f 0) (min t mxN)=Y at *
  have hO':CP Tryz.prog 148 [.sl none 1 []] (.sl none 2 (rgs (ofN []))):=hO
  simp (disch:=omega) only[hb',hc,hcb,k1',List.cons_append,List.nil_append, ↓Ed,Eu, ↓reduceIte,reduceCtorEq,Nat.reduceAdd,Nat.reduceEqDiff,Nat.reduceLT,Nat.reduceLeDiff,Int.reduceToNat,Int.reduceEq,Int.reduceLT,Int.reduceLE,w64,List.length_append,List.length_map,Nat.mul_one,beq_self_eq_true,PktC.cs,EvC.cs,BlkC.cs,EntC.cs,KeyC.cs,a0h,Int.reduceAdd,a0e,a0d,a0l,a0u,Bool.false_and,Bool.and_false,Bool.true_and]
  repeat' ((first|exact tt|refine na fun b=>?_|refine nb fun b hb=>?_|refine iq ?_|(refine jq ?_ ?_<;>intro h h')|refine Two_intro ?_ ?_|exact wZ|fail)<;>try refine sxIxh ?_)
  refine wpx_loop (fun _:Unit=>⟨lk [(2,.int .i64 f),(3,.int .i64 t),(5,.ptr b 0),(9,.ptr tb 0),(11,.sl (some 3) 1 []),(12,.int .i64 0)],lk (dxO p ch top bc++[(tb,[kc,.nils 223 14,cc]),(b,[.str e.1,.int .i64 e.2])])⟩) (fun _=>True) (fun _=>0) () trivial (Le_lit (by simp[LeL,lk,hb',hc,hcb])) ?_
  rintro ⟨⟩ -
  simp (disch:=omega) only[hb',hc,hcb,k1',List.cons_append,List.nil_append, ↓Ed,Eu, ↓reduceIte,reduceCtorEq,Nat.reduceAdd,Nat.reduceEqDiff,Nat.reduceLT,Nat.reduceLeDiff,Int.reduceToNat,Int.reduceEq,Int.reduceLT,Int.reduceLE,w64,List.length_append,List.length_map,Nat.mul_one,beq_self_eq_true,PktC.cs,EvC.cs,BlkC.cs,EntC.cs,KeyC.cs,a0h,Int.reduceAdd,a0e,a0d,a0l,a0u,Bool.false_and,Bool.and_false,Bool.true_and]
  repeat' ((first|exact tt|refine CallO_pure (hO') ?_|refine CallO_pure (hK) ?_|refine na fun b=>?_|refine nb fun b hb=>?_|refine iq ?_|(refine jq ?_ ?_<;>intro h h')|refine Two_intro ?_ ?_|exact wZ|fail)<;>try refine sxIxh ?_)
  all_goals exact ro_mk (by simp[LeL,lk,hb',hc,hcb,a0z,arR]) (dom2' rfl)
 ·obtain ⟨k1,k2,k3,k4⟩:=hx2
  simp only at k1 k2 k3 k4
  have k5:¬ g=p∧¬ p=g:=by simpa[b7T]using hx3
  have hcb:=fr_ne (hf tb [kc,.hsl g 223 14 (dOf (a0K (evI L))).E.length cap,cc] (by simp[lk,hc]) (by simp[lk,hc])) (c:=b) (by simp[lk,hb'])
  have hgb:=fr_ne (hf g (hcE cap (dOf (a0K (evI L))).E) (by simp[lk,hc,k3,k5]) (by simp[lk,k5])) (c:=b) (by simp[lk,hb'])
  have k1':kc.alias=.sl none 4 (kys (a0i (a0K (evI L)))):=k1
  have hEl:(dOf (a0K (evI L))).E.length=(a0i (a0K (evI L))).length:=a9a _
  have hEn:∀ i,i<(a0i (a0K (evI L))).length→(dOf (a0K (evI L))).E.getD i default=(a0O (a0K (evI L)).K ((a0i (a0K (evI L))).getD i default)).getD default:=fun i hi=>by
   show ((a0i (a0K (evI L))).map (a9c (a0K (evI L)))).getD i default=a9c (a0K (evI L)) ((a0i (a0K (evI L))).getD i default)
   simp[List.getD,hi]
  clear hf k1 k2 hx3
  generalize a0K (evI L)=T at *
  generalize a6r (evI L)=B at *
  simp (disch:=omega) only[hb',hc,hcb,hgb,k3,k5,k1',List.cons_append,List.nil_append, ↓Ed,Eu, ↓reduceIte,reduceCtorEq,Nat.reduceAdd,Nat.reduceEqDiff,Nat.reduceLT,Nat.reduceLeDiff,Int.reduceToNat,Int.reduceEq,Int.reduceLT,Int.reduceLE,w64,List.length_append,List.length_map,Nat.mul_one,beq_self_eq_true,PktC.cs,EvC.cs,BlkC.cs,EntC.cs,KeyC.cs,a0h,Int.reduceAdd,a0e,a0d,a0l,a0u,Bool.false_and,Bool.and_false,Bool.true_and]
  repeat' ((first|exact tt|refine na fun b=>?_|refine nb fun b hb=>?_|refine iq ?_|(refine jq ?_ ?_<;>intro h h')|refine Two_intro ?_ ?_|exact wZ|fail)<;>try refine sxIxh ?_)
  refine wpx_loop (fun i:Nat=>⟨lk [(2,.int .i64 f),(3,.int .i64 t),(5,.ptr b 0),(9,.ptr tb 0),(11,.sl (some 3) 1 (ixs (a6Y T e i))),(12,.int .i64 (i:Int))],lk (dxO p ch top bc++[(tb,[kc,.hsl g 223 14 (dOf T).E.length cap,cc]),(g,hcE cap (dOf T).E),(b,[.str e.1,.int .i64 e.2])])⟩) (fun i=>i≤(a0i T).length) (fun i=>(a0i T).length - i) 0 (by omega) (Le_lit (by simp[LeL,lk,hb',hc,hcb,hgb,k3,k5,hg0,ixs])) ?_
  intro i hi
  by_cases hil:i<(a0i T).length
  ·have f1:a0a (decide ((i:Int)<(a0i T).length)=true):=fo
   have hs:=hgs i hil
   have hl:=hgl i
   have r9:=c0S cap (dOf T).E i (by omega)
   rw[← hEn i hil]at hs
   clear hgs hgl hg0 hO hK hEn
   generalize (dOf T).E.getD i default=x at *
   generalize hk:(a0i T).getD i default=k at *
   generalize hgn:a6Y T e (i+1)=G1 at *
   generalize a6Y T e i=G0 at *
   obtain ⟨ke,kec,ko,kq⟩:=k
   simp only at hs
   by_cases he1:ke=e.1
   rotate_left
   ·have d1:decide (ke=e.1)=false:=decide_eq_false he1
    have hs':G1=G0:=by rw[hs,if_neg (fun h=>he1 h.1)]
    clear hs he1
    subst hs'
    simp (disch:=omega) only[hb',hc,hcb,hgb,k3,k5,k1',hk,d1,List.cons_append,List.nil_append, ↓Ed,Eu, ↓reduceIte,reduceCtorEq,Nat.reduceAdd,Nat.reduceEqDiff,Nat.reduceLT,Nat.reduceLeDiff,Int.reduceToNat,Int.reduceEq,Int.reduceLT,Int.reduceLE,w64,List.length_append,List.length_map,Nat.mul_one,beq_self_eq_true,PktC.cs,EvC.cs,BlkC.cs,EntC.cs,KeyC.cs,a0h,Int.reduceAdd,a0e,a0d,a0l,a0u,Bool.false_and,Bool.and_false,Bool.true_and]
    repeat' ((first|exact tt|refine na fun b=>?_|refine nb fun b hb=>?_|refine iq ?_|(refine jq ?_ ?_<;>intro h h')|refine Two_intro ?_ ?_|exact wZ|fail)<;>try refine sxIxh ?_)
    all_goals exact Round_lit (i+1) ⟨Le_lit (by simp[LeL,lk,hb',hc,hcb,hgb,k3,k5,hgn]),by omega,by omega⟩
   by_cases he2:kec=e.2
   rotate_left
   ·have d2:decide (kec=e.2)=false:=decide_eq_false he2
    have hs':G1=G0:=by rw[hs,if_neg (fun h=>he2 h.2.1)]
    clear hs he2
    subst hs' he1
    simp (disch:=omega) only[hb',hc,hcb,hgb,k3,k5,k1',hk,d2,List.cons_append,List.nil_append, ↓Ed,Eu, ↓reduceIte,reduceCtorEq,Nat.reduceAdd,Nat.reduceEqDiff,Nat.reduceLT,Nat.reduceLeDiff,Int.reduceToNat,Int.reduceEq,Int.reduceLT,Int.reduceLE,w64,List.length_append,List.length_map,Nat.mul_one,beq_self_eq_true,PktC.cs,EvC.cs,BlkC.cs,EntC.cs,KeyC.cs,a0h,Int.reduceAdd,a0e,a0d,a0l,a0u,Bool.false_and,Bool.and_false,Bool.true_and]
    repeat' ((first|exact tt|refine na fun b=>?_|refine nb fun b hb=>?_|refine iq ?_|(refine jq ?_ ?_<;>intro h h')|refine Two_intro ?_ ?_|exact wZ|fail)<;>try refine sxIxh ?_)
    all_goals exact Round_lit (i+1) ⟨Le_lit (by simp[LeL,lk,hb',hc,hcb,hgb,k3,k5,hgn]),by omega,by omega⟩
   subst he1 he2
   cases ko with
   | false=>
    have hs':G1=G0:=by rw[hs,if_neg (fun h=>by cases h.2.2.1)]
    clear hs
    subst hs'
    simp (disch:=omega) only[hb',hc,hcb,hgb,k3,k5,k1',hk,List.cons_append,List.nil_append, ↓Ed,Eu, ↓reduceIte,reduceCtorEq,Nat.reduceAdd,Nat.reduceEqDiff,Nat.reduceLT,Nat.reduceLeDiff,Int.reduceToNat,Int.reduceEq,Int.reduceLT,Int.reduceLE,w64,List.length_append,List.length_map,Nat.mul_one,beq_self_eq_true,PktC.cs,EvC.cs,BlkC.cs,EntC.cs,KeyC.cs,a0h,Int.reduceAdd,a0e,a0d,a0l,a0u,Bool.false_and,Bool.and_false,Bool.true_and]
    repeat' ((first|exact tt|refine na fun b=>?_|refine nb fun b hb=>?_|refine iq ?_|(refine jq ?_ ?_<;>intro h h')|refine Two_intro ?_ ?_|exact wZ|fail)<;>try refine sxIxh ?_)
    all_goals exact Round_lit (i+1) ⟨Le_lit (by simp[LeL,lk,hb',hc,hcb,hgb,k3,k5,hgn]),by omega,by omega⟩
   | true=>
    cases hxs:x.s with
    | false=>
     have hs':G1=G0:=by rw[hs,if_neg (fun h=>by rw[hxs]at h;cases h.2.2.2)]
     clear hs
     subst hs'
     simp (disch:=omega) only[hb',hc,hcb,hgb,k3,k5,k1',hk,hxs,List.cons_append,List.nil_append, ↓Ed,Eu, ↓reduceIte,reduceCtorEq,Nat.reduceAdd,Nat.reduceEqDiff,Nat.reduceLT,Nat.reduceLeDiff,Int.reduceToNat,Int.reduceEq,Int.reduceLT,Int.reduceLE,w64,List.length_append,List.length_map,Nat.mul_one,beq_self_eq_true,PktC.cs,EvC.cs,BlkC.cs,EntC.cs,KeyC.cs,a0h,Int.reduceAdd,a0e,a0d,a0l,a0u,Bool.false_and,Bool.and_false,Bool.true_and]
     repeat' ((first|exact tt|refine na fun b=>?_|refine nb fun b hb=>?_|refine iq ?_|(refine jq ?_ ?_<;>intro h h')|refine Two_intro ?_ ?_|exact wZ|fail)<;>try refine sxIxh ?_)
     all_goals exact Round_lit (i+1) ⟨Le_lit (by simp[LeL,lk,hb',hc,hcb,hgb,k3,k5,hgn]),by omega,by omega⟩
    | true=>
     have hs':G1=G0++[kq]:=by rw[hs,if_pos ⟨rfl,rfl,rfl,hxs⟩]
     clear hs
     simp (disch:=omega) only[hb',hc,hcb,hgb,k3,k5,k1',hk,hxs,List.cons_append,List.nil_append, ↓Ed,Eu, ↓reduceIte,reduceCtorEq,Nat.reduceAdd,Nat.reduceEqDiff,Nat.reduceLT,Nat.reduceLeDiff,Int.reduceToNat,Int.reduceEq,Int.reduceLT,Int.reduceLE,w64,List.length_append,List.length_map,Nat.mul_one,beq_self_eq_true,PktC.cs,EvC.cs,BlkC.cs,EntC.cs,KeyC.cs,a0h,Int.reduceAdd,a0e,a0d,a0l,a0u,Bool.false_and,Bool.and_false,Bool.true_and]
     repeat' ((first|exact tt|refine na fun b=>?_|refine nb fun b hb=>?_|refine iq ?_|(refine jq ?_ ?_<;>intro h h')|refine Two_intro ?_ ?_|exact wZ|fail)<;>try refine sxIxh ?_)
     all_goals exact Round_lit (i+1) ⟨Le_lit (by simp[LeL,lk,hb',hc,hcb,hgb,k3,k5,hgn,hs',a4G]),by omega,by omega⟩
  obtain rfl:i=(a0i T).length:=by omega
  have f1:a0a (decide (((a0i T).length:Int)<(a0i T).length)=false):=fo
  clear hgs hgl hg0 hEn
  generalize a6Y T e (a0i T).length=G at *
  generalize a1P (ofN G) (max f 0) (min t mxN)=Y at *
  simp (disch:=omega) only[hb',hc,hcb,hgb,k3,k5,k1',List.cons_append,List.nil_append, ↓Ed,Eu, ↓reduceIte,reduceCtorEq,Nat.reduceAdd,Nat.reduceEqDiff,Nat.reduceLT,Nat.reduceLeDiff,Int.reduceToNat,Int.reduceEq,Int.reduceLT,Int.reduceLE,w64,List.length_append,List.length_map,Nat.mul_one,beq_self_eq_true,PktC.cs,EvC.cs,BlkC.cs,EntC.cs,KeyC.cs,a0h,Int.reduceAdd,a0e,a0d,a0l,a0u,Bool.false_and,Bool.and_false,Bool.true_and]
  repeat' ((first|exact tt|refine CallO_pure (hO) ?_|refine CallO_pure (hK) ?_|refine na fun b=>?_|refine nb fun b hb=>?_|refine iq ?_|(refine jq ?_ ?_<;>intro h h')|refine Two_intro ?_ ?_|exact wZ|fail)<;>try refine sxIxh ?_)
  all_goals exact ro_mk (by simp[LeL,lk,hb',hc,hcb,hgb,k3,k5,a0z,arR]) (dom2' rfl)
end
section
open Go.RowKit
set_option maxRecDepth 100000
theorem sxLxa{A B:Prop}(h:B)(e:A=B:=by (simp (disch:=omega) only[*, ↓Ed,Eu, ↓reduceIte,reduceCtorEq,Nat.reduceAdd,Nat.reduceEqDiff,Nat.reduceLT,Nat.reduceLeDiff,Int.reduceToNat,Int.reduceEq,Int.reduceLT,Int.reduceLE,w64,List.length_append,List.length_map,Nat.mul_one,beq_self_eq_true,BlkC.cs,a0h,Int.reduceAdd,a0e,a0d,a0v,a0x,a0q,a0p];first|done|rfl)):A:=e▸h
theorem b6T(l:List Int)(hl:l.length≤1000000):CP Tryz.prog 15 [.sl none 1 (ixs l),.sl none 1 (ixs l)] (.bool true):=by
 refine a8k _ _ (by simp) ?_
 simp only[a5e];refine sxLxa ?_
 repeat' ((first|exact tt|refine na fun b=>?_|refine nb fun b hb=>?_|refine iq ?_|(refine jq ?_ ?_<;>intro h h')|refine Two_intro ?_ ?_|exact wZ|fail)<;>try refine sxLxa ?_)
 refine wpx_loop (fun k:Nat=>⟨lk [(0,.sl none 1 (ixs l)),(1,.sl none 1 (ixs l)),(5,.int .i64 (k:Int))],lk []⟩) (fun k=>k≤l.length) (fun k=>l.length - k) 0 (by omega) (Le_lit (by simp[LeL,lk])) ?_
 intro k hk
 by_cases hkl:k<l.length
 ·have f1:a0a (decide ((k:Int)<l.length)=true):=fo
  generalize hx:l.getD k 0=x at *
  refine sxLxa ?_
  repeat' ((first|exact tt|refine na fun b=>?_|refine nb fun b hb=>?_|refine iq ?_|(refine jq ?_ ?_<;>intro h h')|refine Two_intro ?_ ?_|exact wZ|fail)<;>try refine sxLxa ?_)
  all_goals exact Round_lit (k+1) ⟨Le_lit (by simp[LeL,lk]),by omega,by omega⟩
 obtain rfl:k=l.length:=by omega
 have f1:a0a (decide ((l.length:Int)<l.length)=false):=fo
 refine sxLxa ?_
 repeat' ((first|exact tt|refine na fun b=>?_|refine nb fun b hb=>?_|refine iq ?_|(refine jq ?_ ?_<;>intro h h')|refine Two_intro ?_ ?_|exact wZ|fail)<;>try refine sxLxa ?_)
theorem b3O(l:List Int)(hl:l.length≤1000000):CP Tryz.prog 27 [.sl none 1 (ixs l),.sl none 1 (ixs l)] (.bool true):=by
 refine a6y _ _ (by simp) ?_
 simp only[a3V];refine sxLxa ?_
 repeat' ((first|exact tt|refine na fun b=>?_|refine nb fun b hb=>?_|refine iq ?_|(refine jq ?_ ?_<;>intro h h')|refine Two_intro ?_ ?_|exact wZ|fail)<;>try refine sxLxa ?_)
 refine wpx_loop (fun k:Nat=>⟨lk [(0,.sl none 1 (ixs l)),(1,.sl none 1 (ixs l)),(5,.int .i64 (k:Int))],lk []⟩) (fun k=>k≤l.length) (fun k=>l.length - k) 0 (by omega) (Le_lit (by simp[LeL,lk])) ?_
 intro k hk
 by_cases hkl:k<l.length
 ·have f1:a0a (decide ((k:Int)<l.length)=true):=fo
  generalize hx:l.getD k 0=x at *
  refine sxLxa ?_
  repeat' ((first|exact tt|refine na fun b=>?_|refine nb fun b hb=>?_|refine iq ?_|(refine jq ?_ ?_<;>intro h h')|refine Two_intro ?_ ?_|exact wZ|fail)<;>try refine sxLxa ?_)
  all_goals exact Round_lit (k+1) ⟨Le_lit (by simp[LeL,lk]),by omega,by omega⟩
 obtain rfl:k=l.length:=by omega
 have f1:a0a (decide ((l.length:Int)<l.length)=false):=fo
 refine sxLxa ?_
 repeat' ((first|exact tt|refine na fun b=>?_|refine nb fun b hb=>?_|refine iq ?_|(refine jq ?_ ?_<;>intro h h')|refine Two_intro ?_ ?_|exact wZ|fail)<;>try refine sxLxa ?_)
theorem b0Q(l:List RgP)(hl:l.length≤1000000):CP Tryz.prog 77 [.sl none 2 (rgs l),.sl none 2 (rgs l)] (.bool true):=by
 refine a6z _ _ (by simp) ?_
 simp only[a3W];refine sxLxa ?_
 repeat' ((first|exact tt|refine na fun b=>?_|refine nb fun b hb=>?_|refine iq ?_|(refine jq ?_ ?_<;>intro h h')|refine Two_intro ?_ ?_|exact wZ|fail)<;>try refine sxLxa ?_)
 refine wpx_loop (fun k:Nat=>⟨lk [(0,.sl none 2 (rgs l)),(1,.sl none 2 (rgs l)),(5,.int .i64 (k:Int))],lk []⟩) (fun k=>k≤l.length) (fun k=>l.length - k) 0 (by omega) (Le_lit (by simp[LeL,lk])) ?_
 intro k hk
 by_cases hkl:k<l.length
 ·have f1:a0a (decide ((k:Int)<l.length)=true):=fo
  generalize hx:l.getD k default=x at *
  refine sxLxa ?_
  repeat' ((first|exact tt|refine na fun b=>?_|refine nb fun b hb=>?_|refine iq ?_|(refine jq ?_ ?_<;>intro h h')|refine Two_intro ?_ ?_|exact wZ|fail)<;>try refine sxLxa ?_)
  all_goals exact Round_lit (k+1) ⟨Le_lit (by simp[LeL,lk]),by omega,by omega⟩
 obtain rfl:k=l.length:=by omega
 have f1:a0a (decide ((l.length:Int)<l.length)=false):=fo
 refine sxLxa ?_
 repeat' ((first|exact tt|refine na fun b=>?_|refine nb fun b hb=>?_|refine iq ?_|(refine jq ?_ ?_<;>intro h h')|refine Two_intro ?_ ?_|exact wZ|fail)<;>try refine sxLxa ?_)
def b1V(l:List (List UInt8)):Prop:=l.length≤40∧(∀ i,i<l.length→(l.getD i []).length≤6000)∧(l.map (·.length)).sum≤6000
theorem sumT_s{l:List (List UInt8)}{k:Nat}(h:k<l.length):((l.take (k+1)).map (·.length)).sum=((l.take k).map (·.length)).sum+(l.getD k []).length:=by
 rw[take_snocT h];simp
open Classical in
theorem b5d(l:List (List UInt8)):CP Tryz.prog 24 [.sl none 1 (txs l),.int .i64 40,.int .i64 6000] (.bool (decide (b1V l))):=by
 refine a4v _ _ (by simp) ?_
 by_cases h40:l.length≤40
 rotate_left
 ·rw[decide_eq_false (fun h=>h40 h.1)]
  have f1:a0a (decide ((40:Int)<l.length)=true):=fo
  simp only[a1K];refine sxLxa ?_
  repeat' ((first|exact tt|refine na fun b=>?_|refine nb fun b hb=>?_|refine iq ?_|(refine jq ?_ ?_<;>intro h h')|refine Two_intro ?_ ?_|exact wZ|fail)<;>try refine sxLxa ?_)
 have f1:a0a (decide ((40:Int)<l.length)=false):=fo
 simp only[a1K];refine sxLxa ?_
 repeat' ((first|exact tt|refine na fun b=>?_|refine nb fun b hb=>?_|refine iq ?_|(refine jq ?_ ?_<;>intro h h')|refine Two_intro ?_ ?_|exact wZ|fail)<;>try refine sxLxa ?_)
 refine wpx_loop (fun k:Nat=>⟨lk [(0,.sl none 1 (txs l)),(1,.int .i64 40),(2,.int .i64 6000),(7,.int .i64 (((l.take k).map (·.length)).sum:Nat)),(8,.int .i64 (k:Int))],lk []⟩) (fun k=>k≤l.length∧(∀ i,i<k→(l.getD i []).length≤6000)∧((l.take k).map (·.length)).sum≤6000 * k) (fun k=>l.length - k) 0 ⟨by omega,fun i h=>by omega,by simp⟩ (Le_lit (by simp[LeL,lk])) ?_
 rintro k ⟨k1,k2,k3⟩
 by_cases hkl:k<l.length
 ·have f2:a0a (decide ((k:Int)<l.length)=true):=fo
  have hs:=sumT_s hkl
  by_cases hx:(l.getD k []).length≤6000
  rotate_left
  ·rw[decide_eq_false (fun h=>hx (h.2.1 k hkl))]
   have f3:a0a (decide ((6000:Int)<((l.getD k []).length:Int))=true):=fo
   clear hs k2 hx
   generalize hy:l.getD k []=y at *
   refine sxLxa ?_
   repeat' ((first|exact tt|refine na fun b=>?_|refine nb fun b hb=>?_|refine iq ?_|(refine jq ?_ ?_<;>intro h h')|refine Two_intro ?_ ?_|exact wZ|fail)<;>try refine sxLxa ?_)
  ·have f3:a0a (decide ((6000:Int)<((l.getD k []).length:Int))=false):=fo
   have hk2:∀ i,i<k+1→(l.getD i []).length≤6000:=fun i hi=>by
    by_cases e:i=k
    ·rw[e];exact hx
    ·exact k2 i (by omega)
   clear k2
   generalize hS1:((l.take (k+1)).map (·.length)).sum=S1 at *
   generalize ((l.take k).map (·.length)).sum=S at *
   generalize hy:l.getD k []=y at *
   refine sxLxa ?_
   repeat' ((first|exact tt|refine na fun b=>?_|refine nb fun b hb=>?_|refine iq ?_|(refine jq ?_ ?_<;>intro h h')|refine Two_intro ?_ ?_|exact wZ|fail)<;>try refine sxLxa ?_)
   all_goals exact Round_lit (k+1) ⟨Le_lit (by simp[-List.map_take,LeL,lk,hS1,hs]),⟨by omega,hk2,by omega⟩,by omega⟩
 obtain rfl:k=l.length:=by omega
 have f2:a0a (decide ((l.length:Int)<l.length)=false):=fo
 rw[List.take_length]at k3
 have hd:decide (b1V l)=decide (((l.map (·.length)).sum:Nat)≤(6000:Int)):=by
  rw[Bool.eq_iff_iff,decide_eq_true_eq,decide_eq_true_eq]
  exact ⟨fun h=>by have:=h.2.2;omega,fun h=>⟨h40,k2,by omega⟩⟩
 rw[hd]
 clear hd k2
 simp (disch:=omega) only[List.take_length, ↓Ed,Eu, ↓reduceIte,reduceCtorEq,Nat.reduceAdd,Nat.reduceEqDiff,Nat.reduceLT,Nat.reduceLeDiff,Int.reduceToNat,Int.reduceEq,Int.reduceLT,Int.reduceLE,w64,List.length_append,List.length_map,Nat.mul_one,beq_self_eq_true,BlkC.cs,a0h,Int.reduceAdd,a0e,a0d,a0v,a0x,a0q,a0p]
 repeat' ((first|exact tt|refine na fun b=>?_|refine nb fun b hb=>?_|refine iq ?_|(refine jq ?_ ?_<;>intro h h')|refine Two_intro ?_ ?_|exact wZ|fail)<;>try refine sxLxa ?_)
def a7i:List UInt8:=[97,108,112,104,97]
theorem b1W:a2T a7i=true:=by
 refine nameP_t ⟨by simp[a7i],by simp[a7i],fun j hj=>?_⟩
 have hj':j<5:=hj
 match j,hj' with
 | 0,_=>exact .inl (by decide)
 | 1,_=>exact .inl (by decide)
 | 2,_=>exact .inl (by decide)
 | 3,_=>exact .inl (by decide)
 | 4,_=>exact .inl (by decide)
def blkA:BlkC:=⟨a7i,2,0,[]⟩
theorem a7v:a3J blkA=true:=by
 simp[a3J,blkA,b1W,mxH]
theorem add_put{c:List UInt8}{top:Int}{L:List BlkC}{b:BlkC}(hm:a3J b=true)(hl:(a8A b).length≤2147483647):a5F c top L (b1z (a8A b))=
  ((if b.c≠c then (L,6) else if top<b.h then (L,1) else match a1r L b.h with
   | none=>(L++[b],0)
   | some b'=>if b'=b then (L,0) else (L,8)):List BlkC × Int):=by
 unfold a5F
 rw[openF_put hl]
 simp only[decB_enc hm]
 simp
 rfl
theorem encB_len{b:BlkC}(hm:a3J b=true):(a8A b).length≤100+408 * b.e.length:=by
 obtain ⟨_,h1,_,_,_,h2⟩:=mayB_to hm
 have h3:=a9w h2
 have a1:=a0U b.c.length
 have a2:=a0U b.h
 have a3:=a0U b.t
 have a4:=a0U b.e.length
 simp only[a8A,ptx,List.length_append]
 omega
theorem b8v:a8H 3 [blkA]=[(1,1),(3,3)]:=by
 show a1P (ofN [2]) (max 1 0) (min 3 mxN)=_
 decide
theorem c2j:IxG a7i 3 90000 [blkA]:=by
 have one:∀ b∈[blkA],b=blkA:=fun b hb=>by simpa using hb
 exact ⟨by simp[hgs],fun b hb=>by rw[one b hb];exact ⟨a7v,rfl,by decide⟩,by decide,fun b hb=>by rw[one b hb];exact a4E,by decide⟩
theorem b5o:CP Tryz.prog 9 [] (.bool true):=by
 have hE:=CP_wk (xs:=[.agg [.str a7i,.int .i64 2,.int .i64 0,.nils 139 13]]) (xs':=[.agg blkA.cs]) ⟨wk_agg ⟨Wk.rfl,Wk.rfl,Wk.rfl,b1E _ _,trivial⟩,trivial⟩ (b8A blkA (by decide) a4E (by decide))
 rw[a7v]at hE
 simp only[if_true]at hE
 have hlen:=encB_len a7v
 have hFr:=b6S (a8A blkA) (by have:blkA.e.length=0:=rfl;omega)
 have hadd:a5F a7i 3 [] (b1z (a8A blkA))=([blkA],0):=by
  rw[add_put a7v (by have:blkA.e.length=0:=rfl;omega)]
  simp[blkA,a1r]
 have hpl:(b1z (a8A blkA)).length≤1000000:=by rw[(a9g _).1];have:blkA.e.length=0:=rfl;omega
 have hN:=b6n a7i 3 (by decide) b1W (by omega)
 have hA:=fun p q h=>b6m p q h a7i 3 [] (b1z (a8A blkA)) hpl (fun b hb=>by simp at hb)
 rw[hadd]at hA
 have hM:=fun p q h=>a9m p q h a7i 3 [blkA] 90000 c2j (by omega)
 rw[b8v]at hM
 simp only at hA
 clear hlen hadd hpl
 generalize b1z (a8A blkA)=P at *
 generalize a8A blkA=E at *
 refine a6A _ _ (by simp) ?_
 simp only[a3X];refine sxLxa ?_
 repeat' ((first|exact tt|refine na fun b=>?_|refine nb fun b hb=>?_|refine iq ?_|(refine jq ?_ ?_<;>intro h h')|refine Two_intro ?_ ?_|exact wZ|fail)<;>try refine sxLxa ?_)
 refine CallO_exr hN (by simp[lk]) (fun x hx hf=>?_)
 obtain ⟨p,q⟩:=x
 simp only at hx
 have hA':=hA p q hx
 have hM':=hM p q hx
 clear hA hM hN hf
 simp only[a7i]at hA' hM' hE
 rw[show rgs [(1,1),(3,3)]=[[.int .i64 1,.int .i64 1],[.int .i64 3,.int .i64 3]] from rfl]at hM'
 simp (disch:=omega) only[hx,a7i, ↓Ed,Eu, ↓reduceIte,reduceCtorEq,Nat.reduceAdd,Nat.reduceEqDiff,Nat.reduceLT,Nat.reduceLeDiff,Int.reduceToNat,Int.reduceEq,Int.reduceLT,Int.reduceLE,w64,List.length_append,List.length_map,Nat.mul_one,beq_self_eq_true,BlkC.cs,a0h,Int.reduceAdd,a0e,a0d,a0v,a0x,a0q,a0p]
 repeat' ((first|exact tt|refine CallO_pure (hE) ?_|refine CallO_pure (hFr) ?_|refine c2 (hA') ?_|refine na fun b=>?_|refine nb fun b hb=>?_|refine iq ?_|(refine jq ?_ ?_<;>intro h h')|refine Two_intro ?_ ?_|exact wZ|fail)<;>try refine sxLxa ?_)
 refine c2 hM' ?_
 have c2:((2:Nat):Int)=2:=rfl
 have g0:([[.int .i64 1,.int .i64 1],[.int .i64 3,.int .i64 3]]:List (List AV)).getD 0 []=[.int .i64 1,.int .i64 1]:=rfl
 have g1:([[.int .i64 1,.int .i64 1],[.int .i64 3,.int .i64 3]]:List (List AV)).getD 1 []=[.int .i64 3,.int .i64 3]:=rfl
 simp (disch:=omega) only[hx,g0,g1,c2, ↓Ed,Eu, ↓reduceIte,reduceCtorEq,Nat.reduceAdd,Nat.reduceEqDiff,Nat.reduceLT,Nat.reduceLeDiff,Int.reduceToNat,Int.reduceEq,Int.reduceLT,Int.reduceLE,w64,List.length_append,List.length_map,Nat.mul_one,beq_self_eq_true,BlkC.cs,a0h,Int.reduceAdd,a0e,a0d,a0v,a0x,a0q,a0p]
 repeat' ((first|exact tt|refine na fun b=>?_|refine nb fun b hb=>?_|refine iq ?_|(refine jq ?_ ?_<;>intro h h')|refine Two_intro ?_ ?_|exact wZ|fail)<;>try refine sxLxa ?_)
end
section
open Go.RowKit Classical
set_option maxRecDepth 100000
theorem all_ne{o:Nat→Option (List AV)}{x:Nat}(h:o x=none)(bs:List Nat)(hb:∀ z∈bs,o z≠none):∀ z∈bs, ¬ x=z∧¬ z=x:=fun z hz=>fr_ne h (hb z hz)
theorem a9f:∀ (l:List Nat) (x:Nat),x∈l→x≤l.sum
 | [],x,h=>by simp at h
 | y::l,x,h=>by
  rw[List.sum_cons]
  rcases List.mem_cons.1 h with rfl|h
  ·omega
  ·have:=a9f l x h;omega
theorem miss_len{c:List UInt8}{top:Int}{n:Nat}{L:List BlkC}(h:IxG c top n L):(a8H top L).length≤n+1:=by
 have h1:=a9F (ofN (hsI L)) (max 1 0) (min top mxN)
 have h2:=(goodN (riseH h)).2
 have h3:=a3l L
 have h4:=h.ln
 unfold a8H;omega
theorem gap_len{c:List UInt8}{top:Int}{n:Nat}{L:List BlkC}(h:IxG c top n L)(e:a1D)(f t:Int):(b4L e f t (evI L)).length≤n+1:=by
 have hgd:=a3H (evI L)
 have h1:=a9F (ofN (a6Y (a0K (evI L)) e (a0i (a0K (evI L))).length)) (max f 0) (min t mxN)
 have h2:=(goodN (gapN_rise hgd.k (a8c (evI L)) e (a0i (a0K (evI L))).length)).2
 have h3:=a3O (a0K (evI L)) e (a0i (a0K (evI L))).length
 have h4:(a0i (a0K (evI L))).length≤n:=by
  rw[a0i,(srtL_perm _ _).length_eq,List.length_map]
  have h5:=hgd.lk
  have h6:(evI L).length≤n:=by rw[a6t];exact h.ev
  omega
 unfold b4L;omega
theorem find0{c:List UInt8}{top:Int}{n:Nat}{L:List BlkC}(h:IxG c top n L):a1r L 0=none:=by
 cases hf:a1r L 0 with
 | none=>rfl
 | some b=>
  obtain ⟨h1,h2⟩:=findH_some hf
  have:=(mayB_to (h.ok b h1).1).2.2.1
  omega
theorem sxLxb{A B:Prop}(h:B)(e:A=B:=by (simp (disch:=omega) only[*, ↓Ed,Eu, ↓reduceIte,reduceCtorEq,Nat.reduceAdd,Nat.reduceEqDiff,Nat.reduceLT,Nat.reduceLeDiff,Int.reduceToNat,Int.reduceEq,Int.reduceLT,Int.reduceLE,w64,List.length_append,List.length_map,Nat.mul_one,beq_self_eq_true,BlkC.cs,EvC.cs,PktC.cs,EntC.cs,KeyC.cs,a0h,Int.reduceAdd,a0e,a0d,a0v,a0x,a0q,a0p,a0J,a0I];first|done|rfl)):A:=e▸h
set_option maxHeartbeats 16000000 in
theorem b7I(p q d:Nat)(hpq:¬ p=q∧¬ q=p)(hd:(¬ d=p∧¬ p=d)∧¬ d=q∧¬ q=d)(ch:List UInt8)(top:Int)(L:List BlkC)(hG:IxG ch top 90000 L)(bc:AV)(hk:b3c bc L)(e:a1D)(f t:Int):
  CT Tryz.prog 28 [.ptr p 0,.ptr d 0,.agg [.str e.1,.int .i64 e.2],.int .i64 f,.int .i64 t] (lk (ixO p q ch top L++dxO d ch top bc)) (fun r o=>r=.bool true∧o=lk (ixO p q ch top L++dxO d ch top bc)):=by
 have hT:=b2w p q hpq ch top L 90000 hG (by omega)
 have hU:=b2u d ch top L 90000 hG (by omega) bc hk
 have hH:=a6J p q hpq ch top L hG.nd (fun b hb=>(hG.ok b hb).1) (by have:=hG.ln;omega)
 have hI:=a9l d ch top L hG.ln bc hk
 have hM:=a9m p q hpq ch top L 90000 hG (by omega)
 have hN:=b2Y d ch top L 90000 hG (by omega) bc hk
 have hA:=b7H p q hpq ch top L 90000 hG (by omega) e f t
 have hB:=b7F d ch top L 90000 hG (by omega) bc hk e f t
 have c1':=b6T (hsI L) (by rw[a3l];have:=hG.ln;omega)
 have c2':=b0Q (a8H top L) (by have:=miss_len hG;omega)
 have c3':=b0Q (b4L e f t (evI L)) (by have:=gap_len hG e f t;omega)
 have hBk:=fun h=>b5F p q hpq ch top L h (fun b hb=>by
  have h2:=hG.ev
  have h3:b∈dI L:=(dI_mem hG.nd).2 hb
  have h4:b.e.length≤((dI L).map (·.e.length)).sum:=a9f _ _ (List.mem_map.2 ⟨b,h3,rfl⟩)
  omega)
 have hZ:=hBk 0
 rw[find0 hG]at hZ
 have hgd:Tgood 90000 (a0K (evI L)):=(a3H _).mono (by rw[a6t];exact hG.ev)
 have hD:=b3n L
 have hsm:∀ i,i<L.length→a8F ((dI L).getD i default).e:=fun i hi=>hG.sm _ (findH_some (b3n L i hi).2).1
 have hdl:=a9b L
 have hln:=hG.ln
 have hk':bc.alias=.sl none 4 (a7j (dI L)):=hk
 clear hG hk
 refine a6E _ _ _ (by simp) ?_
 simp (disch:=omega) only[a4p,hpq,hd,List.cons_append,List.nil_append, ↓Ed,Eu, ↓reduceIte,reduceCtorEq,Nat.reduceAdd,Nat.reduceEqDiff,Nat.reduceLT,Nat.reduceLeDiff,Int.reduceToNat,Int.reduceEq,Int.reduceLT,Int.reduceLE,w64,List.length_append,List.length_map,Nat.mul_one,beq_self_eq_true,BlkC.cs,EvC.cs,PktC.cs,EntC.cs,KeyC.cs,a0h,Int.reduceAdd,a0e,a0d,a0v,a0x,a0q,a0p,a0J,a0I]
 repeat' ((first|exact tt|refine na fun b=>?_|refine nb fun b hb=>?_|refine iq ?_|(refine jq ?_ ?_<;>intro h h')|refine Two_intro ?_ ?_|exact wZ|fail)<;>try refine sxLxb ?_)
 have hb':(¬ b=p∧¬ p=b)∧(¬ b=q∧¬ q=b)∧¬ b=d∧¬ d=b:=by simpa using hb
 refine CallO_exr hT (lk_sub2 (by simp[lk,hpq,hd,hb']) (by simp[lk,hpq,hd,hb'])) (fun x hx hf=>?_)
 obtain ⟨c,m,n⟩:=x
 obtain ⟨hc,hm,hn,hcmn⟩:=hx
 simp only at hc hm hn hcmn hf
 have ec:(¬ c=d∧¬ d=c)∧¬ c=b∧¬ b=c:=by simpa using all_ne (hf c [.mapv m,.mapv n] (by simp[lk,hc]) (by simp[lk,hc])) [d,b] (by simp[lk,hpq,hd,hb'])
 have em:(¬ m=d∧¬ d=m)∧¬ m=b∧¬ b=m:=by simpa using all_ne (hf m [mpK (a0K (evI L)).K] (by simp[lk,hm,hcmn]) (by simp[lk,hm])) [d,b] (by simp[lk,hpq,hd,hb'])
 have en:(¬ n=d∧¬ d=n)∧¬ n=b∧¬ b=n:=by simpa using all_ne (hf n [mpC (a0K (evI L)).C] (by simp[lk,hn,hcmn]) (by simp[lk,hn])) [d,b] (by simp[lk,hpq,hd,hb'])
 clear hf hT hb
 simp (disch:=omega) only[hpq,hd,hb',hc,hm,hn,hcmn,ec,em,en,List.cons_append,List.nil_append, ↓Ed,Eu, ↓reduceIte,reduceCtorEq,Nat.reduceAdd,Nat.reduceEqDiff,Nat.reduceLT,Nat.reduceLeDiff,Int.reduceToNat,Int.reduceEq,Int.reduceLT,Int.reduceLE,w64,List.length_append,List.length_map,Nat.mul_one,beq_self_eq_true,BlkC.cs,EvC.cs,PktC.cs,EntC.cs,KeyC.cs,a0h,Int.reduceAdd,a0e,a0d,a0v,a0x,a0q,a0p,a0J,a0I]
 repeat' ((first|exact tt|refine na fun b=>?_|refine nb fun b hb=>?_|refine iq ?_|(refine jq ?_ ?_<;>intro h h')|refine Two_intro ?_ ?_|exact wZ|fail)<;>try refine sxLxb ?_)
 refine CallO_exr hU (lk_sub1 (by simp[lk,hpq,hd,hb',hc,hm,hn,hcmn,ec,em,en])) (fun y hy hf=>?_)
 obtain ⟨tb,fm⟩:=y
 obtain ⟨ht,hy2,hy3⟩:=hy
 simp only at ht hy2 hy3 hf
 clear hU
 rcases fm with ⟨kc,cc⟩ | ⟨kc,cc,g,cap,X⟩
 ·obtain ⟨k1,k2,k3⟩:=hy2
  have et:(¬ tb=p∧¬ p=tb)∧(¬ tb=q∧¬ q=tb)∧(¬ tb=b∧¬ b=tb)∧(¬ tb=c∧¬ c=tb)∧(¬ tb=m∧¬ m=tb)∧¬ tb=n∧¬ n=tb:=by
   simpa using all_ne (hf tb [kc,.nils 223 14,cc] (by simp[lk,ht]) (by simp[lk,ht])) [p,q,b,c,m,n] (by simp[lk,hpq,hd,hb',hc,hm,hn,hcmn,ec,em,en])
  have cM:=b7C c m n tb hcmn et.2.2.2 kc cc (a0K (evI L)) k1 k2 hgd k3
  clear hf hy3 k1 k2 k3 hgd
  generalize a0K (evI L)=T at *
  generalize a6r (evI L)=BB at *
  generalize a8H top L=MM at *
  generalize b4L e f t (evI L)=GG at *
  simp (disch:=omega) only[hpq,hd,hb',hc,hm,hn,hcmn,ec,em,en,et,ht,List.cons_append,List.nil_append, ↓Ed,Eu, ↓reduceIte,reduceCtorEq,Nat.reduceAdd,Nat.reduceEqDiff,Nat.reduceLT,Nat.reduceLeDiff,Int.reduceToNat,Int.reduceEq,Int.reduceLT,Int.reduceLE,w64,List.length_append,List.length_map,Nat.mul_one,beq_self_eq_true,BlkC.cs,EvC.cs,PktC.cs,EntC.cs,KeyC.cs,a0h,Int.reduceAdd,a0e,a0d,a0v,a0x,a0q,a0p,a0J,a0I]
  repeat' ((first|exact tt|(refine Cro_det cM (LeL_ok ?_) ?_;(focus (simp[LeL,lk, *];done)))|refine r2 (hH) ?_|(refine Cro_det hI (lk_sub1 ?_) ?_;(focus (simp[lk, *];done)))|refine CallW_intro (c1') ?_|refine r2 (hM) ?_|(refine Cro_det hN (lk_sub1 ?_) ?_;(focus (simp[lk, *];done)))|refine CallW_intro (c2') ?_|refine r2 (hA) ?_|(refine Cro_det hB (lk_sub1 ?_) ?_;(focus (simp[lk, *];done)))|refine CallW_intro (c3') ?_|refine na fun b=>?_|refine nb fun b hb=>?_|refine iq ?_|(refine jq ?_ ?_<;>intro h h')|refine Two_intro ?_ ?_|exact wZ|fail)<;>try refine sxLxb ?_)
  clear hH hI hM hN hA hB c1' c2' c3' cM
  refine wpx_loop (fun i:Nat=>⟨lk [(0,.ptr p 0),(1,.ptr d 0),(15,.int .i64 (i:Int))],lk (ixO p q ch top L++dxO d ch top bc)⟩) (fun i=>i≤L.length) (fun i=>L.length - i) 0 (by omega) (Le_lit (by simp[LeL,lk,hpq,hd,hb',hc,hm,hn,hcmn,ec,em,en,et,ht])) ?_
  intro i hi
  by_cases hil:i<L.length
  ·have f1:a0a (decide ((i:Int)<L.length)=true):=fo
   obtain ⟨q1,q2⟩:=hD i hil
   have hBi:=hBk ((dI L).getD i default).h
   have hS:=b1y ((dI L).getD i default) ((dI L).getD i default) (hsm i hil).1 (hsm i hil).1
   rw[decide_eq_true rfl]at hS
   rw[q1]at hBi
   unfold b2E at hBi
   rw[q2, ← q1]at hBi
   simp only[Option.getD_some,Option.isSome_some]at hBi
   clear hD hsm q1 q2 hBk hZ
   generalize hx:(dI L).getD i default=x at *
   simp (disch:=omega) only[hpq,hd,hk',hx,hdl,List.cons_append,List.nil_append, ↓Ed,Eu, ↓reduceIte,reduceCtorEq,Nat.reduceAdd,Nat.reduceEqDiff,Nat.reduceLT,Nat.reduceLeDiff,Int.reduceToNat,Int.reduceEq,Int.reduceLT,Int.reduceLE,w64,List.length_append,List.length_map,Nat.mul_one,beq_self_eq_true,BlkC.cs,EvC.cs,PktC.cs,EntC.cs,KeyC.cs,a0h,Int.reduceAdd,a0e,a0d,a0v,a0x,a0q,a0p,a0J,a0I]
   repeat' ((first|exact tt|refine c2 (hBi) ?_|refine CallW_intro (hS) ?_|refine na fun b=>?_|refine nb fun b hb=>?_|refine iq ?_|(refine jq ?_ ?_<;>intro h h')|refine Two_intro ?_ ?_|exact wZ|fail)<;>try refine sxLxb ?_)
   all_goals exact Round_lit (i+1) ⟨Le_lit (by simp[LeL,lk,hpq,hd]),by omega,by omega⟩
  obtain rfl:i=L.length:=by omega
  have f1:a0a (decide ((L.length:Int)<L.length)=false):=fo
  clear hD hsm hBk
  simp only[Option.isSome_none]at hZ
  simp (disch:=omega) only[hpq,hd,hk',hdl,List.cons_append,List.nil_append, ↓Ed,Eu, ↓reduceIte,reduceCtorEq,Nat.reduceAdd,Nat.reduceEqDiff,Nat.reduceLT,Nat.reduceLeDiff,Int.reduceToNat,Int.reduceEq,Int.reduceLT,Int.reduceLE,w64,List.length_append,List.length_map,Nat.mul_one,beq_self_eq_true,BlkC.cs,EvC.cs,PktC.cs,EntC.cs,KeyC.cs,a0h,Int.reduceAdd,a0e,a0d,a0v,a0x,a0q,a0p,a0J,a0I]
  repeat' ((first|exact tt|refine c2 (hZ) ?_|refine na fun b=>?_|refine nb fun b hb=>?_|refine iq ?_|(refine jq ?_ ?_<;>intro h h')|refine Two_intro ?_ ?_|exact wZ|fail)<;>try refine sxLxb ?_)
  all_goals exact ro_mk (by simp[LeL,lk,hpq,hd,a0z,arR]) (dom2' rfl)
 ·obtain ⟨k1,k2,k3,k4⟩:=hy2
  simp only at k1 k2 k3 k4
  have k5:¬ g=d∧¬ d=g:=by simpa[b7T]using hy3
  have et:(¬ tb=p∧¬ p=tb)∧(¬ tb=q∧¬ q=tb)∧(¬ tb=b∧¬ b=tb)∧(¬ tb=c∧¬ c=tb)∧(¬ tb=m∧¬ m=tb)∧¬ tb=n∧¬ n=tb:=by
   simpa using all_ne (hf tb [kc,.hsl g 223 14 (dOf (a0K (evI L))).E.length cap,cc] (by simp[lk,ht]) (by simp[lk,ht])) [p,q,b,c,m,n] (by simp[lk,hpq,hd,hb',hc,hm,hn,hcmn,ec,em,en])
  have eg:(¬ g=p∧¬ p=g)∧(¬ g=q∧¬ q=g)∧(¬ g=b∧¬ b=g)∧(¬ g=c∧¬ c=g)∧(¬ g=m∧¬ m=g)∧¬ g=n∧¬ n=g:=by
   simpa using all_ne (hf g (hcE cap (dOf (a0K (evI L))).E) (by simp[lk,ht,k3,k5]) (by simp[lk,k5])) [p,q,b,c,m,n] (by simp[lk,hpq,hd,hb',hc,hm,hn,hcmn,ec,em,en])
  have cM:=b7D c m n tb g hcmn et.2.2.2 ⟨eg.2.2.2.1,eg.2.2.2.2.1,eg.2.2.2.2.2,k3⟩ kc cc cap (a0K (evI L)) k1 k2 hgd k4
  clear hf hy3 k1 k2 k4 hgd
  generalize a0K (evI L)=T at *
  generalize a6r (evI L)=BB at *
  generalize a8H top L=MM at *
  generalize b4L e f t (evI L)=GG at *
  simp (disch:=omega) only[hpq,hd,hb',hc,hm,hn,hcmn,ec,em,en,et,ht,eg,k3,k5,List.cons_append,List.nil_append, ↓Ed,Eu, ↓reduceIte,reduceCtorEq,Nat.reduceAdd,Nat.reduceEqDiff,Nat.reduceLT,Nat.reduceLeDiff,Int.reduceToNat,Int.reduceEq,Int.reduceLT,Int.reduceLE,w64,List.length_append,List.length_map,Nat.mul_one,beq_self_eq_true,BlkC.cs,EvC.cs,PktC.cs,EntC.cs,KeyC.cs,a0h,Int.reduceAdd,a0e,a0d,a0v,a0x,a0q,a0p,a0J,a0I]
  repeat' ((first|exact tt|(refine Cro_det cM (LeL_ok ?_) ?_;(focus (simp[LeL,lk, *];done)))|refine r2 (hH) ?_|(refine Cro_det hI (lk_sub1 ?_) ?_;(focus (simp[lk, *];done)))|refine CallW_intro (c1') ?_|refine r2 (hM) ?_|(refine Cro_det hN (lk_sub1 ?_) ?_;(focus (simp[lk, *];done)))|refine CallW_intro (c2') ?_|refine r2 (hA) ?_|(refine Cro_det hB (lk_sub1 ?_) ?_;(focus (simp[lk, *];done)))|refine CallW_intro (c3') ?_|refine na fun b=>?_|refine nb fun b hb=>?_|refine iq ?_|(refine jq ?_ ?_<;>intro h h')|refine Two_intro ?_ ?_|exact wZ|fail)<;>try refine sxLxb ?_)
  clear hH hI hM hN hA hB c1' c2' c3' cM
  refine wpx_loop (fun i:Nat=>⟨lk [(0,.ptr p 0),(1,.ptr d 0),(15,.int .i64 (i:Int))],lk (ixO p q ch top L++dxO d ch top bc)⟩) (fun i=>i≤L.length) (fun i=>L.length - i) 0 (by omega) (Le_lit (by simp[LeL,lk,hpq,hd,hb',hc,hm,hn,hcmn,ec,em,en,et,ht,eg,k3,k5])) ?_
  intro i hi
  by_cases hil:i<L.length
  ·have f1:a0a (decide ((i:Int)<L.length)=true):=fo
   obtain ⟨q1,q2⟩:=hD i hil
   have hBi:=hBk ((dI L).getD i default).h
   have hS:=b1y ((dI L).getD i default) ((dI L).getD i default) (hsm i hil).1 (hsm i hil).1
   rw[decide_eq_true rfl]at hS
   rw[q1]at hBi
   unfold b2E at hBi
   rw[q2, ← q1]at hBi
   simp only[Option.getD_some,Option.isSome_some]at hBi
   clear hD hsm q1 q2 hBk hZ
   generalize hx:(dI L).getD i default=x at *
   simp (disch:=omega) only[hpq,hd,hk',hx,hdl,List.cons_append,List.nil_append, ↓Ed,Eu, ↓reduceIte,reduceCtorEq,Nat.reduceAdd,Nat.reduceEqDiff,Nat.reduceLT,Nat.reduceLeDiff,Int.reduceToNat,Int.reduceEq,Int.reduceLT,Int.reduceLE,w64,List.length_append,List.length_map,Nat.mul_one,beq_self_eq_true,BlkC.cs,EvC.cs,PktC.cs,EntC.cs,KeyC.cs,a0h,Int.reduceAdd,a0e,a0d,a0v,a0x,a0q,a0p,a0J,a0I]
   repeat' ((first|exact tt|refine c2 (hBi) ?_|refine CallW_intro (hS) ?_|refine na fun b=>?_|refine nb fun b hb=>?_|refine iq ?_|(refine jq ?_ ?_<;>intro h h')|refine Two_intro ?_ ?_|exact wZ|fail)<;>try refine sxLxb ?_)
   all_goals exact Round_lit (i+1) ⟨Le_lit (by simp[LeL,lk,hpq,hd]),by omega,by omega⟩
  obtain rfl:i=L.length:=by omega
  have f1:a0a (decide ((L.length:Int)<L.length)=false):=fo
  clear hD hsm hBk
  simp only[Option.isSome_none]at hZ
  simp (disch:=omega) only[hpq,hd,hk',hdl,List.cons_append,List.nil_append, ↓Ed,Eu, ↓reduceIte,reduceCtorEq,Nat.reduceAdd,Nat.reduceEqDiff,Nat.reduceLT,Nat.reduceLeDiff,Int.reduceToNat,Int.reduceEq,Int.reduceLT,Int.reduceLE,w64,List.length_append,List.length_map,Nat.mul_one,beq_self_eq_true,BlkC.cs,EvC.cs,PktC.cs,EntC.cs,KeyC.cs,a0h,Int.reduceAdd,a0e,a0d,a0v,a0x,a0q,a0p,a0J,a0I]
  repeat' ((first|exact tt|refine c2 (hZ) ?_|refine na fun b=>?_|refine nb fun b hb=>?_|refine iq ?_|(refine jq ?_ ?_<;>intro h h')|refine Two_intro ?_ ?_|exact wZ|fail)<;>try refine sxLxb ?_)
  all_goals exact ro_mk (by simp[LeL,lk,hpq,hd,a0z,arR]) (dom2' rfl)
end
end Go.Proofs.YtgdhinnepnlihaaGreatDoor
