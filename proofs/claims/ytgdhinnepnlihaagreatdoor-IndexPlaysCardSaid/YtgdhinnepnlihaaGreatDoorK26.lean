import Derived.Test.YtgdhinnepnlihaaGreatDoorK20
import Derived.Test.YtgdhinnepnlihaaGreatDoorK22
import Derived.Test.YtgdhinnepnlihaaGreatDoorK25
import Derived.Test.YtgdhinnepnlihaaGreatDoorK21
namespace Go.Proofs.YtgdhinnepnlihaaGreatDoor
set_option linter.all false
set_option maxHeartbeats 9000000
section
open Go.RowKit
theorem riseN_of{l:List Int}(h:l.Pairwise (· < ·))(hb:∀ x∈l,0≤x∧x≤mxN):RiseN l:=by
 refine ⟨fun i hi=>?_,fun i hi=>?_⟩
 ·rw[List.getD,List.getElem?_eq_getElem hi,Option.getD_some];exact hb _ (List.getElem_mem hi)
 ·have:=List.pairwise_iff_getElem.1 h i (i+1) (by omega) hi (by omega)
  simpa[List.getD,hi,show i<l.length by omega]using this
theorem riseN_srt{l:List Int}(hN:l.Nodup)(hb:∀ x∈l,0≤x∧x≤mxN):RiseN (srtL ltI l):=by
 refine riseN_of ((srtL_rise a6w hN).imp fun {a b} h=>by simpa[ltI]using h) fun x hx=>hb x ((srtL_perm _ _).mem_iff.1 hx)
theorem goodN{l:List Int}(h:RiseN l):GoodR (ofN l)∧(ofN l).length≤l.length:=by
 have:=ofN_good h l.length (Nat.le_refl _)
 rw[List.take_length]at this
 exact ⟨this.1,this.2.1⟩
def evT(D:List BlkC)(i j:Nat):List EvC:=(D.take i).flatMap (·.e)++((D.getD i default).e).take j
theorem b8l(D:List BlkC):evT D 0 0=[]:=by simp[evT]
theorem evT_j{D:List BlkC}{i j:Nat}(h:j<(D.getD i default).e.length):evT D i (j+1)=evT D i j++[(D.getD i default).e.getD j default]:=by
 unfold evT
 generalize (D.getD i default).e=E at *
 have ht:E.take (j+1)=E.take j++[E.getD j default]:=by
  rw[List.take_add_one,List.getElem?_eq_getElem h];simp[List.getD,h]
 rw[ht,List.append_assoc]
theorem evT_i{D:List BlkC}{i:Nat}(h:i<D.length):evT D (i+1) 0=evT D i (D.getD i default).e.length:=by
 unfold evT
 have ht:D.take (i+1)=D.take i++[D.getD i default]:=by
  rw[List.take_add_one,List.getElem?_eq_getElem h];simp[List.getD,h]
 rw[ht,List.take_length,List.take_zero,List.append_nil,List.flatMap_append,List.flatMap_singleton]
theorem evT_all{D:List BlkC}:evT D D.length 0=D.flatMap (·.e):=by simp[evT]
theorem b3t(D:List BlkC)(i j:Nat)(h:i<D.length):(evT D i j).length≤(D.flatMap (·.e)).length:=by
 have e:D.flatMap (·.e)=(D.take i).flatMap (·.e)++((D.getD i default).e++(D.drop (i+1)).flatMap (·.e)):=by
  have h1:D=D.take i++(D.getD i default::D.drop (i+1)):=by
   conv=>lhs;rw[← List.take_append_drop i D,List.drop_eq_getElem_cons h]
   simp[List.getD,h]
  conv=>lhs;rw[h1]
  simp
 rw[e]
 simp only[evT,List.length_append,List.length_take]
 omega
noncomputable def a0K (l:List EvC):Tb:=b1j ⟨[],[]⟩ l
theorem b5G:a0K []=⟨[],[]⟩:=rfl
theorem b0Y(l:List EvC)(e:EvC):a0K (l++[e])=(a0T (a0K l) e).1:=b2L _ _ _
theorem a3H(l:List EvC):Tgood l.length (a0K l):=by
 have:=foldL_good b9x l
 simpa[a0K]using this
noncomputable def b4w (l:List EvC):Tb × Nat:=l.foldl (fun x e=>((a0T x.1 e).1,if (a0T x.1 e).2=0 then x.2 else x.2+1)) (⟨[],[]⟩,0)
noncomputable def a6r (l:List EvC):Nat:=(b4w l).2
theorem b8g(l:List EvC):(b4w l).1=a0K l:=by
 have key:∀ (l:List EvC) (x:Tb × Nat),(l.foldl (fun x e=>((a0T x.1 e).1,if (a0T x.1 e).2=0 then x.2 else x.2+1)) x).1=b1j x.1 l:=by
  intro l
  induction l with
  | nil=>intro x;rfl
  | cons e l ih=>intro x;rw[List.foldl_cons,ih];rfl
 exact key l _
theorem b1H:a6r []=0:=rfl
theorem b0m(l:List EvC)(e:EvC):a6r (l++[e])=if (a0T (a0K l) e).2=0 then a6r l else a6r l+1:=by
 have:b4w (l++[e])=((a0T (b4w l).1 e).1,if (a0T (b4w l).1 e).2=0 then (b4w l).2 else (b4w l).2+1):=by simp only[b4w,List.foldl_append,List.foldl_cons,List.foldl_nil];rfl
 unfold a6r
 rw[this,b8g]
theorem b3h(l:List EvC):a6r l≤l.length:=by
 have key:∀ (l:List EvC) (x:Tb × Nat),(l.foldl (fun x e=>((a0T x.1 e).1,if (a0T x.1 e).2=0 then x.2 else x.2+1)) x).2≤x.2+l.length:=by
  intro l
  induction l with
  | nil=>intro x;exact Nat.le_refl _
  | cons e l ih=>
   intro x
   rw[List.foldl_cons,List.length_cons]
   refine Nat.le_trans (ih _) ?_
   simp only
   split<;>omega
 have:=key l (⟨[],[]⟩,0)
 simpa[a6r,b4w]using this
def b2C(t:Tb):Prop:=∀ x∈t.K,0≤x.1.q∧x.1.q≤mxN
theorem keyE_q{e:EvC}(hm:a1e e=true)(h6:e.k≠6)(h7:e.k≠7):0≤(a1p e).q∧(a1p e).q≤mxN:=by
 have hr:=may_range hm
 have hmx:mxN=72057594037927935:=rfl
 have hK:a7a e.p=true:=by
  simp only[a1e,Bool.and_eq_true]at hm
  have h2:=hm.2
  unfold b1d at h2
  by_cases h3:e.k=3
  ·rw[if_pos h3]at h2;simp only[Bool.and_eq_true]at h2;exact h2.1
  ·rw[if_neg h3,if_neg h6,if_neg h7]at h2;exact h2
 obtain ⟨_,_,_,_,⟨q1,q2⟩,_⟩:=mayK_to hK
 show 0≤(a1B e).2.2.1∧(a1B e).2.2.1≤mxN
 unfold a1B
 rw[if_pos hm]
 split
 ·simp only;omega
 ·split
  ·simp only;omega
  ·first|(simp only;omega)|(rw[if_neg h6];simp only;omega)
theorem keyOk_fold{t:Tb}(h:b2C t)(e:EvC):b2C (a0T t e).1:=by
 rcases a7W t e with ⟨m,g,_⟩ | ⟨_,g⟩ | ⟨_,_,hc,g⟩ | ⟨hm,h6,h7,hf,g⟩ | ⟨x,hm,h6,h7,_,_,_,_,g⟩<;>rw[g]
 ·exact h
 ·exact h
 ·exact h
 ·intro y hy
  rcases List.mem_append.1 hy with hy|hy
  ·exact h y hy
  ·obtain rfl:y=_:=by simpa using hy
   exact keyE_q hm h6 h7
 ·intro y hy
  obtain ⟨z,hz,rfl⟩:=List.mem_map.1 hy
  split
  ·exact keyE_q hm h6 h7
  ·exact h z hz
theorem a8c(l:List EvC):b2C (a0K l):=by
 have key:∀ (l:List EvC) (t:Tb),b2C t→b2C (b1j t l):=by
  intro l
  induction l with
  | nil=>intro t h;exact h
  | cons e l ih=>intro t h;exact ih _ (keyOk_fold h e)
 exact key l _ (fun x hx=>by simp at hx)
def b1D(t:Tb)(e:a1D)(k:KeyC):Bool:=decide (k.en=e)&&(k.o&&(a9c t k).s)
def a6Y(t:Tb)(e:a1D)(i:Nat):List Int:=(((a0i t).take i).filter (b1D t e)).map (·.q)
theorem b5U(t:Tb)(e:a1D):a6Y t e 0=[]:=by simp[a6Y]
theorem gapN_s{t:Tb}{e:a1D}{i:Nat}(h:i<(a0i t).length):a6Y t e (i+1)=if b1D t e ((a0i t).getD i default)=true then a6Y t e i++[((a0i t).getD i default).q] else a6Y t e i:=by
 unfold a6Y
 rw[List.take_succ,List.getElem?_eq_getElem h]
 have:(a0i t).getD i default=(a0i t)[i]:=by simp[List.getD,h]
 rw[this,Option.toList_some,List.filter_append]
 by_cases hw:b1D t e (a0i t)[i]=true
 ·rw[if_pos hw];simp[List.filter_cons,hw]
 ·rw[if_neg hw];simp[List.filter_cons,hw]
theorem a3O(t:Tb)(e:a1D)(i:Nat):(a6Y t e i).length≤i:=by
 unfold a6Y
 rw[List.length_map]
 refine Nat.le_trans (List.length_filter_le _ _) ?_
 rw[List.length_take];omega
theorem gapN_rise{t:Tb}(hN:(t.K.map (·.1)).Nodup)(hK:b2C t)(e:a1D)(i:Nat):RiseN (a6Y t e i):=by
 refine riseN_of ?_ ?_
 ·refine List.pairwise_map.2 ?_
  have h1:(((a0i t).take i).filter (b1D t e)).Pairwise fun x y=>a0t x y=true:=((srtL_rise keySTO hN:Rise a0t (a0i t)).sublist (List.take_sublist i _)).filter _
  refine h1.imp_of_mem fun {a b} ha hb h=>?_
  have wa:=(List.mem_filter.1 ha).2
  have wb:=(List.mem_filter.1 hb).2
  simp only[b1D,Bool.and_eq_true,decide_eq_true_eq]at wa wb
  rcases (a5T a b).1 h with h | ⟨_,h⟩
  ·rw[wa.1,wb.1,endSTO.irr]at h;cases h
  ·rcases h with ⟨h1,_⟩ | ⟨_,h2⟩
   ·rw[wa.2.1]at h1;cases h1
   ·exact h2
 ·intro x hx
  obtain ⟨k,hk,rfl⟩:=List.mem_map.1 hx
  have hk':=List.mem_of_mem_take (List.mem_filter.1 hk).1
  obtain ⟨y,hy,rfl⟩:=List.mem_map.1 ((srtL_perm _ _).mem_iff.1 hk':k∈t.K.map (·.1))
  exact hK y hy
end
section
open Go.RowKit
set_option maxRecDepth 100000
def a7j(D:List BlkC):List (List AV):=D.map BlkC.cs
theorem a0J(D:List BlkC):(a7j D).length=D.length:=by simp[a7j]
theorem a0I(D:List BlkC)(i:Nat)(h:i<D.length):(a7j D).getD i []=(D.getD i default).cs:=by simp[a7j,h]
theorem b3j(D:List BlkC)(i:Nat):(a7j D).take i=a7j (D.take i):=by simp[a7j,List.map_take]
theorem b3i(D:List BlkC)(i:Nat):(a7j D).drop i=a7j (D.drop i):=by simp[a7j,List.map_drop]
theorem b1J(l m:List BlkC):a7j (l++m)=a7j l++a7j m:=by simp[a7j]
abbrev dxO(p:Nat)(ch:List UInt8)(top:Int)(bc:AV):List (Nat × List AV):=[(p,[.str ch,.int .i64 top,bc])]
def b3c(bc:AV)(L:List BlkC):Prop:=bc.alias=.sl none 4 (a7j (dI L))
theorem sxIxe{A B:Prop}(h:B)(e:A=B:=by (simp (disch:=omega) only[*, ↓Ed,Eu, ↓reduceIte,reduceCtorEq,Nat.reduceAdd,Nat.reduceEqDiff,Nat.reduceLT,Nat.reduceLeDiff,Int.reduceToNat,Int.reduceEq,Int.reduceLT,Int.reduceLE,w64,List.length_append,List.length_map,Nat.mul_one,beq_self_eq_true,PktC.cs,EvC.cs,BlkC.cs,EntC.cs,KeyC.cs,a0h,Int.reduceAdd,a0e,a0d,a0v,a0x,a0J,a0I,b3j,b3i,List.length_take,List.length_drop];first|done|rfl)):A:=e▸h
set_option maxHeartbeats 4000000 in
theorem b9v(p:Nat)(ch:List UInt8)(top:Int)(L:List BlkC)(N:Nat)(hG:IxG ch top N L)(hN:N≤90000)(bc:AV)(hk:b3c bc L)(s:List UInt8)(hs:s.length≤1000000):
  CT Tryz.prog 73 [.ptr p 0,.str s] (lk (dxO p ch top bc)) (fun r o=>r=.int .i64 (a5F ch top L s).2∧∃ bc':AV,b3c bc' (a5F ch top L s).1∧o=lk (dxO p ch top bc')):=by
 have hO:=b7j s (by omega)
 have hl:=a8q s
 have hD:=c0Q (a0F s).1 (by omega)
 have hE:=decB_sm (s:=(a0F s).1) (by omega)
 have hln:=hG.ln
 have hdl:=a9b L
 refine a4k _ _ _ (by simp) ?_
 rcases a6q ch top L s with ⟨a1,g⟩ | ⟨a1,⟨a2,g⟩ | ⟨a2,B,hb,hcs⟩⟩
 ·rw[g]
  have f1:a0a (decide ((a0F s).2=0)=false):=by simpa[a0a]using a1
  clear a1 g hD hE hl hs hG
  generalize a0F s=F at *
  simp only[a0H];refine sxIxe ?_
  repeat' ((first|exact tt|refine CallO_pure (hO) ?_|refine na fun b=>?_|refine nb fun b hb=>?_|refine iq ?_|(refine jq ?_ ?_<;>intro h h')|refine Two_intro ?_ ?_|exact wZ|fail)<;>try refine sxIxe ?_)
  all_goals exact ro_ex bc (by simp[LeL,lk,a0z,arR]) hk (dom2' rfl)
 ·rw[g]
  rw[a1]at hO
  have f1:a0a (decide ((a3z (a0F s).1).2=0)=false):=by simpa[a0a]using a2
  clear a1 a2 g hE hl hs hG
  generalize a3z (a0F s).1=D at *
  generalize a0F s=F at *
  simp only[a0H];refine sxIxe ?_
  repeat' ((first|exact tt|refine CallO_pure (hO) ?_|refine CallO_pure (hD) ?_|refine na fun b=>?_|refine nb fun b hb=>?_|refine iq ?_|(refine jq ?_ ?_<;>intro h h')|refine Two_intro ?_ ?_|exact wZ|fail)<;>try refine sxIxe ?_)
  all_goals exact ro_ex bc (by simp[LeL,lk,a0z,arR]) hk (dom2' rfl)
 rw[hb]at hE
 have hD':CP Tryz.prog 144 [.str (a0F s).1] (.tup [.agg B.cs,.int .i64 0]):=by rw[hb,a2]at hD;exact hD
 rw[a1]at hO
 clear hD hb a2 a1 hl hs
 rcases hcs with ⟨q1,g⟩ | ⟨rfl,⟨q2,g⟩ | ⟨q2,hcs⟩⟩
 ·rw[g]
  have f1:a0a (decide (B.c=ch)=false):=by simpa[a0a]using q1
  clear q1 g hE hG
  generalize a0F s=F at *
  simp only[a0H];refine sxIxe ?_
  repeat' ((first|exact tt|refine CallO_pure (hO) ?_|refine CallO_pure (hD') ?_|refine na fun b=>?_|refine nb fun b hb=>?_|refine iq ?_|(refine jq ?_ ?_<;>intro h h')|refine Two_intro ?_ ?_|exact wZ|fail)<;>try refine sxIxe ?_)
  all_goals exact ro_ex bc (by simp[LeL,lk,a0z,arR]) hk (dom2' rfl)
 ·rw[g]
  have f2:a0a (decide (top<B.h)=true):=by simpa[a0a]using q2
  clear q2 g hE hG
  generalize a0F s=F at *
  simp only[a0H];refine sxIxe ?_
  repeat' ((first|exact tt|refine CallO_pure (hO) ?_|refine CallO_pure (hD') ?_|refine na fun b=>?_|refine nb fun b hb=>?_|refine iq ?_|(refine jq ?_ ?_<;>intro h h')|refine Two_intro ?_ ?_|exact wZ|fail)<;>try refine sxIxe ?_)
  all_goals exact ro_ex bc (by simp[LeL,lk,a0z,arR]) hk (dom2' rfl)
 have f2:a0a (decide (top<B.h)=false):=fo
 have hpl:=b6g B.h L
 have hlt:=c2n B.h L
 have hge:=c2o B.h L
 have hK:=pl_K hG.nd B.h
 have hV:=fun b' h=>pl_V hG.nd (h:=B.h) (b:=b') h
 have hnew:=fun h=>dI_new hG.nd (b:=B) h
 have hsm:=fun b0 (h:a1r L B.h=some b0)=>(hG.sm b0 (findH_some h).1).1
 clear q2
 have hmx:(1000000:Nat)≤maxLen:=by unfold maxLen;decide
 have hdr:List.take L.length (dI L)=dI L:=by rw[← hdl,List.take_length]
 have hk':bc.alias=.sl none 4 (a7j (dI L)):=hk
 simp only[a0H];refine sxIxe ?_
 repeat' ((first|exact tt|refine CallO_pure (hO) ?_|refine CallO_pure (hD') ?_|refine na fun b=>?_|refine nb fun b hb=>?_|refine iq ?_|(refine jq ?_ ?_<;>intro h h')|refine Two_intro ?_ ?_|exact wZ|fail)<;>try refine sxIxe ?_)
 clear hO hD'
 refine wpx_loop (fun i:Nat=>⟨lk [(0,.ptr p 0),(7,.ptr b 0),(9,.int .i64 (i:Int))],lk [(p,[.str B.c,.int .i64 top,bc]),(b,B.cs)]⟩) (fun i=>i≤plI B.h L) (fun i=>L.length - i) 0 (by omega) (Le_lit (by simp[LeL,lk,hb])) ?_
 intro i hi
 by_cases hil:i<plI B.h L
 ·have f1:a0a (decide ((i:Int)<L.length)=true):=fo
  have f3:a0a (decide (((dI L).getD i default).h<B.h)=true):=by simp only[a0a,Hn];exact hlt i hil
  clear hlt hge hK hV hnew hsm hcs hG hE
  generalize hx:(dI L).getD i default=x at *
  refine sxIxe ?_
  repeat' ((first|exact tt|refine na fun b=>?_|refine nb fun b hb=>?_|refine iq ?_|(refine jq ?_ ?_<;>intro h h')|refine Two_intro ?_ ?_|exact wZ|fail)<;>try refine sxIxe ?_)
  all_goals exact Round_lit (i+1) ⟨Le_lit (by simp[LeL,lk,hb]),by omega,by omega⟩
 obtain rfl:i=plI B.h L:=by omega
 clear hlt
 cases h5:a1r L B.h with
 | none=>
  rcases hcs with ⟨q3,g⟩ | ⟨q3,g⟩ | ⟨b',q3,q4,g⟩
  rotate_left
  ·rw[h5]at q3;cases q3
  ·rw[h5]at q3;cases q3
  have hnw:=hnew h5
  rw[g]
  clear hV hnew hsm hE q3 g
  generalize hT:L++[B]=L' at *
  have hfin:∀ o:Option Nat,b3c (.sl o 4 (a7j ((dI L).take (plI B.h L))++[B.cs]++a7j ((dI L).drop (plI B.h L)))) L':=fun o=>by
   show AV.sl none 4 _=_
   rw[hnw,b1J,b1J];rfl
  by_cases hp:plI B.h L<L.length
  ·have f1:a0a (decide (((plI B.h L:Nat):Int)<L.length)=true):=fo
   have h1:=hge hp
   have h2:((dI L).getD (plI B.h L) default).h≠B.h:=fun e=>by rw[h5]at hK;have:=hK.2 ⟨hp,e⟩;cases this
   have f3:a0a (decide (((dI L).getD (plI B.h L) default).h<B.h)=false):=fo
   have f4:a0a (decide (((dI L).getD (plI B.h L) default).h=B.h)=false):=by simp only[a0a,Hn];exact h2
   clear h1 h2 hK hge h5 hG hnw
   generalize plI B.h L=k at *
   generalize hx:(dI L).getD k default=x at *
   refine sxIxe ?_
   repeat' ((first|exact tt|refine na fun b=>?_|refine nb fun b hb=>?_|refine iq ?_|(refine jq ?_ ?_<;>intro h h')|refine Two_intro ?_ ?_|exact wZ|fail)<;>try refine sxIxe ?_)
   all_goals exact ro_ex (.sl (some 32) 4 (a7j ((dI L).take k)++[B.cs]++a7j ((dI L).drop k))) (by simp[LeL,lk,hb,a0z,arR]) (hfin _) (dom2' rfl)
  ·have f1:a0a (decide (((plI B.h L:Nat):Int)<L.length)=false):=fo
   clear hK hge h5 hG hnw
   generalize plI B.h L=k at *
   refine sxIxe ?_
   repeat' ((first|exact tt|refine na fun b=>?_|refine nb fun b hb=>?_|refine iq ?_|(refine jq ?_ ?_<;>intro h h')|refine Two_intro ?_ ?_|exact wZ|fail)<;>try refine sxIxe ?_)
   all_goals exact ro_ex (.sl (some 32) 4 (a7j ((dI L).take k)++[B.cs]++a7j ((dI L).drop k))) (by simp[LeL,lk,hb,a0z,arR]) (hfin _) (dom2' rfl)
 | some b0=>
  obtain ⟨v1,v2⟩:=hV b0 h5
  have f1:a0a (decide (((plI B.h L:Nat):Int)<L.length)=true):=fo
  have hh:b0.h=B.h:=(findH_some h5).2
  have hS:=b1y b0 B (hsm b0 h5) hE.1
  have f3:a0a (decide (b0.h<B.h)=false):=fo
  have f4:a0a (decide (b0.h=B.h)=true):=by simp only[a0a,Hn];exact hh
  rcases hcs with ⟨q3,g⟩ | ⟨q3,g⟩ | ⟨b',q3,q4,g⟩
  ·rw[h5]at q3;cases q3
  ·obtain rfl:b0=B:=by rw[h5]at q3;exact Option.some.inj q3
   rw[decide_eq_true rfl]at hS
   rw[g]
   clear g q3 h5 hV hnew hsm hE hK hge hh hG
   generalize plI b0.h L=k at *
   refine sxIxe ?_
   repeat' ((first|exact tt|refine CallW_intro (hS) ?_|refine na fun b=>?_|refine nb fun b hb=>?_|refine iq ?_|(refine jq ?_ ?_<;>intro h h')|refine Two_intro ?_ ?_|exact wZ|fail)<;>try refine sxIxe ?_)
   all_goals exact ro_ex bc (by simp[LeL,lk,hb,a0z,arR]) hk (dom2' rfl)
  ·obtain rfl:b0=b':=by rw[h5]at q3;exact Option.some.inj q3
   rw[decide_eq_false q4]at hS
   rw[g]
   clear g q3 q4 h5 hV hnew hsm hE hK hge hh hG
   generalize plI B.h L=k at *
   refine sxIxe ?_
   repeat' ((first|exact tt|refine CallW_intro (hS) ?_|refine na fun b=>?_|refine nb fun b hb=>?_|refine iq ?_|(refine jq ?_ ?_<;>intro h h')|refine Two_intro ?_ ?_|exact wZ|fail)<;>try refine sxIxe ?_)
   all_goals exact ro_ex bc (by simp[LeL,lk,hb,a0z,arR]) hk (dom2' rfl)
end
section
open Go.RowKit
set_option maxRecDepth 100000
def a8H(top:Int)(L:List BlkC):List RgP:=a1P (ofN (hsI L)) (max 1 0) (min top mxN)
theorem riseH{c:List UInt8}{top:Int}{n:Nat}{L:List BlkC}(h:IxG c top n L):RiseN (hsI L):=riseN_srt h.nd (hgs_bd fun b hb=>(h.ok b hb).1)
theorem sxIxc{A B:Prop}(h:B)(e:A=B:=by (simp (disch:=omega) only[*, ↓Ed,Eu, ↓reduceIte,reduceCtorEq,Nat.reduceAdd,Nat.reduceEqDiff,Nat.reduceLT,Nat.reduceLeDiff,Int.reduceToNat,Int.reduceEq,Int.reduceLT,Int.reduceLE,w64,List.length_append,List.length_map,Nat.mul_one,beq_self_eq_true,PktC.cs,EvC.cs,BlkC.cs,EntC.cs,KeyC.cs,a0h,Int.reduceAdd,a0e,a0d,a0v,a0x,ixO,a0D,gdE];first|done|rfl)):A:=e▸h
theorem a9m(p m:Nat)(hpm:¬ p=m∧¬ m=p)(c:List UInt8)(top:Int)(L:List BlkC)(n:Nat)(hG:IxG c top n L)(hn:n≤90000):
  CT Tryz.prog 14 [.ptr p 0] (lk (ixO p m c top L)) (fun r o=>r=.sl none 2 (rgs (a8H top L))∧o=lk (ixO p m c top L)):=by
 have hl:=hG.ln
 have hR:=riseH hG
 have hH:=a6J p m hpm c top L hG.nd (fun b hb=>(hG.ok b hb).1) (by omega)
 have hLen:=a3l L
 have hO:=b8O (hsI L) hR (by omega)
 have hK:=b2i (ofN (hsI L)) 1 top (goodN hR).1 (by have:=(goodN hR).2;omega)
 unfold a8H
 clear hG hR hl hLen
 generalize ofN (hsI L)=X at *
 generalize a1P X (max 1 0) (min top mxN)=Y at *
 generalize ixs (hsI L)=Z at *
 refine a3Q _ _ _ (by simp) ?_
 simp only[a2q];refine sxIxc ?_
 repeat' ((first|exact tt|refine c2 (hH) ?_|refine CallO_pure (hO) ?_|refine CallO_pure (hK) ?_|refine na fun b=>?_|refine nb fun b hb=>?_|refine iq ?_|(refine jq ?_ ?_<;>intro h h')|refine Two_intro ?_ ?_|exact wZ|fail)<;>try refine sxIxc ?_)
 all_goals exact ro_mk (by simp[LeL,lk,hpm,a0z,arR]) (dom2' rfl)
theorem dom_p2{α:Type}{p q:Nat}{a b a' b':α}{r:List (Nat × α)}:∀ k cs,lk [(p,a),(q,b)] k=some cs→∃ cs',lk ((p,a')::(q,b')::r) k=some cs':=by
 intro k cs h
 rw[lk_cons,lk_cons]at h
 rw[lk_cons,lk_cons]
 by_cases h1:k=p
 ·rw[if_pos h1];exact ⟨_,rfl⟩
 rw[if_neg h1]at h ⊢
 by_cases h2:k=q
 ·rw[if_pos h2];exact ⟨_,rfl⟩
 ·rw[if_neg h2]at h;cases h
def Tx(p m:Nat)(x:Nat × Nat × Nat):Prop:=
 ((¬ x.1=p∧¬ p=x.1)∧¬ x.1=m∧¬ m=x.1)∧((¬ x.2.1=p∧¬ p=x.2.1)∧¬ x.2.1=m∧¬ m=x.2.1)∧((¬ x.2.2=p∧¬ p=x.2.2)∧¬ x.2.2=m∧¬ m=x.2.2)∧
  (¬ x.1=x.2.1∧¬ x.2.1=x.1)∧(¬ x.1=x.2.2∧¬ x.2.2=x.1)∧¬ x.2.1=x.2.2∧¬ x.2.2=x.2.1
set_option maxHeartbeats 8000000 in
theorem b2w(p q:Nat)(hpq:¬ p=q∧¬ q=p)(ch:List UInt8)(top:Int)(L:List BlkC)(N:Nat)(hG:IxG ch top N L)(hN:N≤90000):
  CT Tryz.prog 21 [.ptr p 0] (lk (ixO p q ch top L)) (fun r o=>∃ x:Nat × Nat × Nat,Tx p q x∧r=.tup [.ptr x.1 0,.int .i64 (a6r (evI L):Nat)]∧o=lk (ixO p q ch top L++b0f x.1 x.2.1 x.2.2 (a0K (evI L)))):=by
 have hl:=hG.ln
 have hH:=a6J p q hpq ch top L hG.nd (fun b hb=>(hG.ok b hb).1) (by omega)
 have hLen:=a3l L
 have hdl:=a9b L
 have hev:(evI L).length≤90000:=by rw[a6t];have:=hG.ev;omega
 have hD:=b3n L
 have hsm:=hG.sm
 have hall:evT (dI L) L.length 0=evI L:=by rw[← hdl,evT_all];rfl
 refine a4y _ _ _ (by simp) ?_
 simp only[a2M];refine sxIxc ?_
 repeat' ((first|exact tt|refine c2 (hH) ?_|(refine CallO_new3 (b9u) (NewB3_intro (fun c m n hc hm hn hcmn=>?_));simp only[ln_cons2,ln_nil,and_true]at hc hm hn)|refine na fun b=>?_|refine nb fun b hb=>?_|refine iq ?_|(refine jq ?_ ?_<;>intro h h')|refine Two_intro ?_ ?_|exact wZ|fail)<;>try refine sxIxc ?_)
 clear hH hG
 refine wpx_loop (fun i:Nat=>⟨lk [(0,.ptr p 0),(4,.ptr c 0),(5,.int .i64 (a6r (evT (dI L) i 0):Nat)),(12,.sl (some 3) 1 (ixs (hsI L))),(13,.int .i64 (L.length:Int)),(14,.int .i64 (i:Int))],lk (ixO p q ch top L++b0f c m n (a0K (evT (dI L) i 0)))⟩) (fun i=>i≤L.length) (fun i=>L.length - i) 0 (by omega) (Le_lit (by simp[LeL,lk,hpq,hc,hm,hn,hcmn,b8l,b1H,b5G])) ?_
 intro i hi
 by_cases hil:i<L.length
 ·have f1:a0a (decide ((i:Int)<L.length)=true):=fo
  obtain ⟨_,hf0⟩:=hD i hil
  obtain ⟨j0,hj0,hf,hv,_⟩:=lookH_yes hf0
  have hx:=a0d (hsI L) i (by omega)
  have hnx:=evT_i (D:=dI L) (i:=i) (by omega)
  have hEl:=fun j=>b3t (dI L) i j (by omega)
  have hsi:=hsm ((dI L).getD i default) (findH_some hf0).1
  have hst:=fun j (h:j<((dI L).getD i default).e.length)=>evT_j (D:=dI L) (i:=i) h
  have hT0:evT (dI L) i 0=evT (dI L) i 0:=rfl
  clear hD hsm hf0 hall hT0
  change ∀ j,(evT (dI L) i j).length≤(evI L).length at hEl
  generalize (evI L).length=EL at *
  generalize hb:(dI L).getD i default=b at *
  generalize hh:(hsI L).getD i 0=h0 at *
  simp (disch:=omega) only[hpq,hc,hm,hn,hcmn,hx,hf,hv,List.cons_append,List.nil_append, ↓Ed,Eu, ↓reduceIte,reduceCtorEq,Nat.reduceAdd,Nat.reduceEqDiff,Nat.reduceLT,Nat.reduceLeDiff,Int.reduceToNat,Int.reduceEq,Int.reduceLT,Int.reduceLE,w64,List.length_append,List.length_map,Nat.mul_one,beq_self_eq_true,PktC.cs,EvC.cs,BlkC.cs,EntC.cs,KeyC.cs,a0h,Int.reduceAdd,a0e,a0d,a0v,a0x,ixO,a0D,gdE]
  repeat' ((first|exact tt|refine na fun b=>?_|refine nb fun b hb=>?_|refine iq ?_|(refine jq ?_ ?_<;>intro h h')|refine Two_intro ?_ ?_|exact wZ|fail)<;>try refine sxIxc ?_)
  clear hf hv hx hj0
  refine wpx_loop (fun j:Nat=>⟨lk [(0,.ptr p 0),(4,.ptr c 0),(5,.int .i64 (a6r (evT (dI L) i j):Nat)),(12,.sl (some 3) 1 (ixs (hsI L))),(13,.int .i64 (L.length:Int)),(14,.int .i64 (i:Int)),(24,.sl none 13 (evl b.e)),(25,.int .i64 (b.e.length:Int)),(26,.int .i64 (j:Int))],lk (ixO p q ch top L++b0f c m n (a0K (evT (dI L) i j)))⟩) (fun j=>j≤b.e.length) (fun j=>b.e.length - j) 0 (by omega) (Le_lit (by simp[LeL,lk,hpq,hc,hm,hn,hcmn])) ?_
  intro j hj
  by_cases hjl:j<b.e.length
  ·have f2:a0a (decide ((j:Int)<b.e.length)=true):=fo
   obtain ⟨b1,b2,b3,b4,b5⟩:=hsi.2 j hjl
   have hF:=b9s c m n hcmn (a0K (evT (dI L) i j)) (b.e.getD j default) (a3H _).k b1 b2 b3 b4 b5
   have hs:=hst j hjl
   have hT:a0K (evT (dI L) i (j+1))=(a0T (a0K (evT (dI L) i j)) (b.e.getD j default)).1:=by rw[hs];exact b0Y _ _
   have hB:a6r (evT (dI L) i (j+1))=if (a0T (a0K (evT (dI L) i j)) (b.e.getD j default)).2=0 then a6r (evT (dI L) i j) else a6r (evT (dI L) i j)+1:=by rw[hs];exact b0m _ _
   have hle:=b3h (evT (dI L) i j)
   have hel:=hEl j
   have hbl:=hsi.1
   clear b1 b2 b3 b4 b5 hs hst hsi hEl hnx
   generalize he:b.e.getD j default=e at *
   generalize hE1:evT (dI L) i (j+1)=E1 at *
   generalize evT (dI L) i j=E0 at *
   generalize a6r E0=B0 at *
   rw[← hT]at hF
   by_cases hz:(a0T (a0K E0) e).2=0
   ·rw[if_pos hz]at hB
    rw[hz]at hF
    clear hT hz
    simp (disch:=omega) only[hpq,hc,hm,hn,hcmn,he,List.cons_append,List.nil_append, ↓Ed,Eu, ↓reduceIte,reduceCtorEq,Nat.reduceAdd,Nat.reduceEqDiff,Nat.reduceLT,Nat.reduceLeDiff,Int.reduceToNat,Int.reduceEq,Int.reduceLT,Int.reduceLE,w64,List.length_append,List.length_map,Nat.mul_one,beq_self_eq_true,PktC.cs,EvC.cs,BlkC.cs,EntC.cs,KeyC.cs,a0h,Int.reduceAdd,a0e,a0d,a0v,a0x,ixO,a0D,gdE]
    repeat' ((first|exact tt|refine c3 (hF) ?_|refine na fun b=>?_|refine nb fun b hb=>?_|refine iq ?_|(refine jq ?_ ?_<;>intro h h')|refine Two_intro ?_ ?_|exact wZ|fail)<;>try refine sxIxc ?_)
    all_goals exact Round_lit (j+1) ⟨Le_lit (by simp[LeL,lk,hpq,hc,hm,hn,hcmn,hE1,hB]),by omega,by omega⟩
   ·have f3:a0a (decide ((a0T (a0K E0) e).2=0)=false):=by simpa[a0a]using hz
    rw[if_neg hz]at hB
    clear hz
    generalize (a0T (a0K E0) e).2=R at *
    clear hT
    simp (disch:=omega) only[hpq,hc,hm,hn,hcmn,he,List.cons_append,List.nil_append, ↓Ed,Eu, ↓reduceIte,reduceCtorEq,Nat.reduceAdd,Nat.reduceEqDiff,Nat.reduceLT,Nat.reduceLeDiff,Int.reduceToNat,Int.reduceEq,Int.reduceLT,Int.reduceLE,w64,List.length_append,List.length_map,Nat.mul_one,beq_self_eq_true,PktC.cs,EvC.cs,BlkC.cs,EntC.cs,KeyC.cs,a0h,Int.reduceAdd,a0e,a0d,a0v,a0x,ixO,a0D,gdE]
    repeat' ((first|exact tt|refine c3 (hF) ?_|refine na fun b=>?_|refine nb fun b hb=>?_|refine iq ?_|(refine jq ?_ ?_<;>intro h h')|refine Two_intro ?_ ?_|exact wZ|fail)<;>try refine sxIxc ?_)
    all_goals exact Round_lit (j+1) ⟨Le_lit (by simp[LeL,lk,hpq,hc,hm,hn,hcmn,hE1,hB]),by omega,by omega⟩
  ·obtain rfl:j=b.e.length:=by omega
   have f2:a0a (decide ((b.e.length:Int)<b.e.length)=false):=fo
   have hbl:=hsi.1
   clear hst hsi hEl hdl
   simp (disch:=omega) only[hpq,hc,hm,hn,hcmn,List.cons_append,List.nil_append, ↓Ed,Eu, ↓reduceIte,reduceCtorEq,Nat.reduceAdd,Nat.reduceEqDiff,Nat.reduceLT,Nat.reduceLeDiff,Int.reduceToNat,Int.reduceEq,Int.reduceLT,Int.reduceLE,w64,List.length_append,List.length_map,Nat.mul_one,beq_self_eq_true,PktC.cs,EvC.cs,BlkC.cs,EntC.cs,KeyC.cs,a0h,Int.reduceAdd,a0e,a0d,a0v,a0x,ixO,a0D,gdE]
   repeat' ((first|exact tt|refine na fun b=>?_|refine nb fun b hb=>?_|refine iq ?_|(refine jq ?_ ?_<;>intro h h')|refine Two_intro ?_ ?_|exact wZ|fail)<;>try refine sxIxc ?_)
   all_goals exact Round_lit (i+1) ⟨Le_lit (by simp[LeL,lk,hpq,hc,hm,hn,hcmn,hnx]),by omega,by omega⟩
 obtain rfl:i=L.length:=by omega
 have f1:a0a (decide ((L.length:Int)<L.length)=false):=fo
 clear hD hsm hdl
 rw[hall]
 clear hall
 simp (disch:=omega) only[hpq,hc,hm,hn,hcmn,List.cons_append,List.nil_append, ↓Ed,Eu, ↓reduceIte,reduceCtorEq,Nat.reduceAdd,Nat.reduceEqDiff,Nat.reduceLT,Nat.reduceLeDiff,Int.reduceToNat,Int.reduceEq,Int.reduceLT,Int.reduceLE,w64,List.length_append,List.length_map,Nat.mul_one,beq_self_eq_true,PktC.cs,EvC.cs,BlkC.cs,EntC.cs,KeyC.cs,a0h,Int.reduceAdd,a0e,a0d,a0v,a0x,ixO,a0D,gdE]
 repeat' ((first|exact tt|refine na fun b=>?_|refine nb fun b hb=>?_|refine iq ?_|(refine jq ?_ ?_<;>intro h h')|refine Two_intro ?_ ?_|exact wZ|fail)<;>try refine sxIxc ?_)
 all_goals exact ro_exr (c,m,n) (by simp[LeL,lk,hpq,hc,hm,hn,hcmn,r_two,rl_cons,rl_nil,arR,al_int,al_ptr]) ⟨hc,hm,hn,hcmn⟩ dom_p2
end
section
open Go.RowKit
set_option maxRecDepth 100000
def nzL(l:List Int):Nat:=(l.filter fun x => !decide (x=0)).length
theorem b4W(l:List Int)(x:Int):nzL (l++[x])=if x=0 then nzL l else nzL l+1:=by
 unfold nzL
 rw[List.filter_append]
 by_cases h:x=0<;>simp[List.filter_cons,h]
theorem b8y(l:List Int):nzL l≤l.length:=List.length_filter_le _ _
theorem b5C(l:List (List UInt8))(k:Nat):((l.take k).map (·.length)).sum+(l.take k).length≤(l.map (·.length)).sum+l.length:=by
 have e:(l.map (·.length)).sum=((l.take k).map (·.length)).sum+((l.drop k).map (·.length)).sum:=by
  rw[← List.sum_append, ← List.map_append,List.take_append_drop]
 rw[e,List.length_take];omega
theorem feed_good2{c:List UInt8}{top:Int}{l:List (List UInt8)}(h:lightT l)(hw:(l.map (·.length)).sum+l.length≤90000)(k:Nat):IxG c top 90000 (a1y c top (l.take k)).1:=
 (a9d c top (l.take k) _ (h.mem k) (Nat.le_refl _)).mono (by have:=b5C l k;omega)
theorem sxIxf{A B:Prop}(h:B)(e:A=B:=by (simp (disch:=omega) only[*, ↓Ed,Eu, ↓reduceIte,reduceCtorEq,Nat.reduceAdd,Nat.reduceEqDiff,Nat.reduceLT,Nat.reduceLeDiff,Int.reduceToNat,Int.reduceEq,Int.reduceLT,Int.reduceLE,w64,List.length_append,List.length_map,Nat.mul_one,beq_self_eq_true,PktC.cs,EvC.cs,BlkC.cs,EntC.cs,KeyC.cs,a0h,Int.reduceAdd,a0e,a0d,a0v,a0x,a0J,a0I];first|done|rfl)):A:=e▸h
set_option maxHeartbeats 4000000 in
theorem b7E(p:Nat)(ch:List UInt8)(top:Int)(bc0:AV)(h0:b3c bc0 [])(l:List (List UInt8))(hl:lightT l)(hw:(l.map (·.length)).sum+l.length≤90000):
  CT Tryz.prog 26 [.ptr p 0,.sl none 1 (txs l)] (lk (dxO p ch top bc0)) (fun r o=>r=.tup [.sl none 1 (ixs (a1y ch top l).2),.int .i64 (nzL (a1y ch top l).2:Nat)]∧∃ bc:AV,b3c bc (a1y ch top l).1∧o=lk (dxO p ch top bc)):=by
 have hG:=fun k=>feed_good2 (c:=ch) (top:=top) hl hw k
 have hn:=fun k=>a7T ch top (l.take k)
 have hl2:=hl.2
 have hl1:=hl.1
 clear hl hw
 refine a3R _ _ _ (by simp) ?_
 simp only[a2s];refine sxIxf ?_
 repeat' ((first|exact tt|refine na fun b=>?_|refine nb fun b hb=>?_|refine iq ?_|(refine jq ?_ ?_<;>intro h h')|refine Two_intro ?_ ?_|exact wZ|fail)<;>try refine sxIxf ?_)
 refine wpx_loop (fun x:Nat × AV=>⟨lk [(0,.ptr p 0),(1,.sl none 1 (txs l)),(6,.sl (some 27) 1 (ixs (a1y ch top (l.take x.1)).2)),(7,.int .i64 (nzL (a1y ch top (l.take x.1)).2:Nat)),(8,.int .i64 (x.1:Int))],lk (dxO p ch top x.2)⟩) (fun x=>x.1≤l.length∧b3c x.2 (a1y ch top (l.take x.1)).1) (fun x=>l.length - x.1) (0,bc0) ⟨by simp,by simpa[a7U]using h0⟩ (Le_lit (by simp[LeL,lk,a7U,ixs,nzL])) ?_
 rintro ⟨k,bc⟩ ⟨hk,hbc⟩
 simp only at hk hbc
 have hmx:(1000000:Nat)≤maxLen:=by unfold maxLen;decide
 by_cases hkl:k<l.length
 ·have f1:a0a (decide ((k:Int)<l.length)=true):=fo
  have hA:=b9v p ch top (a1y ch top (l.take k)).1 90000 (hG k) (by omega) bc hbc (l.getD k []) (hl2 k hkl)
  have hT:=feedI_take (c:=ch) (top:=top) hkl
  have hn':=hn k
  rw[List.length_take,Nat.min_eq_left hk]at hn'
  have hz:=b8y (a1y ch top (l.take k)).2
  clear hG hn hl2 hbc
  generalize hF1:a1y ch top (l.take (k+1))=F1 at *
  generalize a1y ch top (l.take k)=F at *
  generalize hs:l.getD k []=s at *
  generalize a5F ch top F.1 s=R at *
  have hz1:=b4W F.2 R.2
  generalize nzL F.2=Z at *
  refine sxIxf ?_
  repeat' ((first|exact tt|refine na fun b=>?_|refine nb fun b hb=>?_|refine iq ?_|(refine jq ?_ ?_<;>intro h h')|refine Two_intro ?_ ?_|exact wZ|fail)<;>try refine sxIxf ?_)
  refine CallO_ex hA (lk_sub1 (by simp[lk])) (fun bc' hb' hf=>?_)
  clear hA hf
  have hb2:b3c bc' F1.1:=by rw[hT];exact hb'
  by_cases hR:R.2=0
  ·have f2:a0a (decide (R.2=0)=true):=by simp only[a0a,Hn];exact hR
   rw[if_pos hR,hR]at hz1
   refine sxIxf ?_
   repeat' ((first|exact tt|refine na fun b=>?_|refine nb fun b hb=>?_|refine iq ?_|(refine jq ?_ ?_<;>intro h h')|refine Two_intro ?_ ?_|exact wZ|fail)<;>try refine sxIxf ?_)
   all_goals exact Round_lit (k+1,bc') ⟨Le_lit (by simp[LeL,lk,hF1,hT,a4G,hz1,hR]),⟨by simp only;omega,by simp only[hF1];exact hb2⟩,by simp only;omega⟩
  ·have f2:a0a (decide (R.2=0)=false):=by simp only[a0a,Hn];exact hR
   rw[if_neg hR]at hz1
   refine sxIxf ?_
   repeat' ((first|exact tt|refine na fun b=>?_|refine nb fun b hb=>?_|refine iq ?_|(refine jq ?_ ?_<;>intro h h')|refine Two_intro ?_ ?_|exact wZ|fail)<;>try refine sxIxf ?_)
   all_goals exact Round_lit (k+1,bc') ⟨Le_lit (by simp[LeL,lk,hF1,hT,a4G,hz1]),⟨by simp only;omega,by simp only[hF1];exact hb2⟩,by simp only;omega⟩
 obtain rfl:k=l.length:=by omega
 have f1:a0a (decide ((l.length:Int)<l.length)=false):=fo
 clear hG hn hl2
 rw[List.take_length]at hbc
 simp (disch:=omega) only[List.take_length, ↓Ed,Eu, ↓reduceIte,reduceCtorEq,Nat.reduceAdd,Nat.reduceEqDiff,Nat.reduceLT,Nat.reduceLeDiff,Int.reduceToNat,Int.reduceEq,Int.reduceLT,Int.reduceLE,w64,List.length_append,List.length_map,Nat.mul_one,beq_self_eq_true,PktC.cs,EvC.cs,BlkC.cs,EntC.cs,KeyC.cs,a0h,Int.reduceAdd,a0e,a0d,a0v,a0x,a0J,a0I]
 repeat' ((first|exact tt|refine na fun b=>?_|refine nb fun b hb=>?_|refine iq ?_|(refine jq ?_ ?_<;>intro h h')|refine Two_intro ?_ ?_|exact wZ|fail)<;>try refine sxIxf ?_)
 all_goals exact ro_ex bc (by simp[LeL,lk,r_two,rl_cons,rl_nil,arR,al_int,al_sl]) hbc (dom2' rfl)
theorem a9l(p:Nat)(ch:List UInt8)(top:Int)(L:List BlkC)(hL:L.length≤90000)(bc:AV)(hk:b3c bc L):
  CT Tryz.prog 76 [.ptr p 0] (lk (dxO p ch top bc)) (fun r o=>r=.sl (some 3) 1 (ixs (hsI L))∧o=lk (dxO p ch top bc)):=by
 have hk':bc.alias=.sl none 4 (a7j (dI L)):=hk
 have hdl:=a9b L
 have hsl:=a3l L
 have hD:=b3n L
 have hmx:(1000000:Nat)≤maxLen:=by unfold maxLen;decide
 refine a2Y _ _ _ (by simp) ?_
 simp only[a2a];refine sxIxf ?_
 repeat' ((first|exact tt|refine na fun b=>?_|refine nb fun b hb=>?_|refine iq ?_|(refine jq ?_ ?_<;>intro h h')|refine Two_intro ?_ ?_|exact wZ|fail)<;>try refine sxIxf ?_)
 refine wpx_loop (fun k:Nat=>⟨lk [(0,.ptr p 0),(3,.sl (some 3) 1 (ixs ((hsI L).take k))),(4,.int .i64 (k:Int))],lk (dxO p ch top bc)⟩) (fun k=>k≤L.length) (fun k=>L.length - k) 0 (by omega) (Le_lit (by simp[LeL,lk,ixs])) ?_
 intro k hkk
 by_cases hkl:k<L.length
 ·have f1:a0a (decide ((k:Int)<L.length)=true):=fo
  have hh:=(hD k hkl).1
  have ht:(hsI L).take (k+1)=(hsI L).take k++[(hsI L).getD k 0]:=take_snocI (by omega)
  rw[← hh]at ht
  have hlen:((hsI L).take k).length=k:=by rw[List.length_take];omega
  clear hD hh
  generalize hx:(dI L).getD k default=x at *
  generalize hH1:(hsI L).take (k+1)=H1 at *
  generalize (hsI L).take k=H0 at *
  refine sxIxf ?_
  repeat' ((first|exact tt|refine na fun b=>?_|refine nb fun b hb=>?_|refine iq ?_|(refine jq ?_ ?_<;>intro h h')|refine Two_intro ?_ ?_|exact wZ|fail)<;>try refine sxIxf ?_)
  all_goals exact Round_lit (k+1) ⟨Le_lit (by simp[LeL,lk,hH1,ht,a4G]),by omega,by omega⟩
 obtain rfl:k=L.length:=by omega
 have f1:a0a (decide ((L.length:Int)<L.length)=false):=fo
 have ht:(hsI L).take L.length=hsI L:=by rw[← hsl,List.take_length]
 clear hD
 refine sxIxf ?_
 repeat' ((first|exact tt|refine na fun b=>?_|refine nb fun b hb=>?_|refine iq ?_|(refine jq ?_ ?_<;>intro h h')|refine Two_intro ?_ ?_|exact wZ|fail)<;>try refine sxIxf ?_)
 all_goals exact ro_mk (by simp[LeL,lk,a0z,arR]) (dom2' rfl)
theorem b2Y(p:Nat)(ch:List UInt8)(top:Int)(L:List BlkC)(n:Nat)(hG:IxG ch top n L)(hn:n≤90000)(bc:AV)(hk:b3c bc L):
  CT Tryz.prog 78 [.ptr p 0] (lk (dxO p ch top bc)) (fun r o=>r=.sl none 2 (rgs (a8H top L))∧o=lk (dxO p ch top bc)):=by
 have hl:=hG.ln
 have hR:=riseH hG
 have hH:=a9l p ch top L (by omega) bc hk
 have hLen:=a3l L
 have hO:=b2d (hsI L) hR (by omega)
 have hK:=b2f (ofN (hsI L)) 1 top (goodN hR).1 (by have:=(goodN hR).2;omega)
 unfold a8H
 clear hG hR hl hLen hk
 generalize ofN (hsI L)=X at *
 generalize a1P X (max 1 0) (min top mxN)=Y at *
 generalize ixs (hsI L)=Z at *
 refine a2Z _ _ _ (by simp) ?_
 simp only[a2b];refine sxIxf ?_
 repeat' ((first|exact tt|refine c1 (hH) ?_|refine CallO_pure (hO) ?_|refine CallO_pure (hK) ?_|refine na fun b=>?_|refine nb fun b hb=>?_|refine iq ?_|(refine jq ?_ ?_<;>intro h h')|refine Two_intro ?_ ?_|exact wZ|fail)<;>try refine sxIxf ?_)
 all_goals exact ro_mk (by simp[LeL,lk,a0z,arR]) (dom2' rfl)
end
section
open Go.RowKit
set_option maxRecDepth 100000
theorem fr_ne{o:Nat→Option (List AV)}{b c:Nat}(h:o b=none)(hc:o c≠none):¬ b=c∧¬ c=b:=
 ⟨fun e=>hc (by rw[← e,h]),fun e=>hc (by rw[e,h])⟩
theorem gapN_p{t:Tb}{e:a1D}{i:Nat}(h:i<(a0i t).length):a6Y t e (i+1)=if (((a0i t).getD i default).e=e.1∧((a0i t).getD i default).ec=e.2∧((a0i t).getD i default).o=true∧((a0O t.K ((a0i t).getD i default)).getD default).s=true) then a6Y t e i++[((a0i t).getD i default).q] else a6Y t e i:=by
 have e1:(b1D t e ((a0i t).getD i default)=true)=(((a0i t).getD i default).e=e.1∧((a0i t).getD i default).ec=e.2∧((a0i t).getD i default).o=true∧((a0O t.K ((a0i t).getD i default)).getD default).s=true):=by
  apply propext
  simp only[b1D,a9c,KeyC.en,Bool.and_eq_true,decide_eq_true_eq,Prod.ext_iff,and_assoc]
 rw[gapN_s h]
 simp only[e1]
noncomputable def b4L (e:a1D) (f t:Int) (l:List EvC):List RgP:=a1P (ofN (a6Y (a0K l) e (a0i (a0K l)).length)) (max f 0) (min t mxN)
theorem sxIxd{A B:Prop}(h:B)(e:A=B:=by (simp (disch:=omega) only[*, ↓Ed,Eu, ↓reduceIte,reduceCtorEq,Nat.reduceAdd,Nat.reduceEqDiff,Nat.reduceLT,Nat.reduceLeDiff,Int.reduceToNat,Int.reduceEq,Int.reduceLT,Int.reduceLE,w64,List.length_append,List.length_map,Nat.mul_one,beq_self_eq_true,PktC.cs,EvC.cs,BlkC.cs,EntC.cs,KeyC.cs,a0h,Int.reduceAdd,a0e,a0d,ixO,a0l,a0u,Bool.false_and,Bool.and_false,Bool.true_and];first|done|rfl)):A:=e▸h
set_option maxHeartbeats 8000000 in
theorem b7H(p q:Nat)(hpq:¬ p=q∧¬ q=p)(ch:List UInt8)(top:Int)(L:List BlkC)(N:Nat)(hG:IxG ch top N L)(hN:N≤90000)(e:a1D)(f t:Int):
  CT Tryz.prog 79 [.ptr p 0,.agg [.str e.1,.int .i64 e.2],.int .i64 f,.int .i64 t] (lk (ixO p q ch top L)) (fun r o=>r=.sl none 2 (rgs (b4L e f t (evI L)))∧o=lk (ixO p q ch top L)):=by
 have hT:=b2w p q hpq ch top L N hG hN
 have hgd:=a3H (evI L)
 have hln:(a0i (a0K (evI L))).length≤90000:=by
  rw[a0i,(srtL_perm _ _).length_eq,List.length_map]
  have h1:=hgd.lk
  have h2:(evI L).length≤90000:=by rw[a6t];have:=hG.ev;omega
  omega
 have hR:=fun i=>gapN_rise hgd.k (a8c (evI L)) e i
 have hO:=b8O (a6Y (a0K (evI L)) e (a0i (a0K (evI L))).length) (hR _) (by have:=a3O (a0K (evI L)) e (a0i (a0K (evI L))).length;omega)
 have hK:=b2i (ofN (a6Y (a0K (evI L)) e (a0i (a0K (evI L))).length)) f t (goodN (hR _)).1 (by have:=(goodN (hR (a0i (a0K (evI L))).length)).2;have:=a3O (a0K (evI L)) e (a0i (a0K (evI L))).length;omega)
 unfold b4L
 clear hG hR
 refine a4W _ _ _ (by simp) ?_
 simp only[a3d];refine sxIxd ?_
 repeat' ((first|exact tt|refine na fun b=>?_|refine nb fun b hb=>?_|refine iq ?_|(refine jq ?_ ?_<;>intro h h')|refine Two_intro ?_ ?_|exact wZ|fail)<;>try refine sxIxd ?_)
 have hb':(¬ b=p∧¬ p=b)∧¬ b=q∧¬ q=b:=by simpa using hb
 refine CallO_exr hT (lk_sub2 (by simp[lk,hb',hpq]) (by simp[lk,hb',hpq])) (fun x hx hf=>?_)
 obtain ⟨c,m,n⟩:=x
 obtain ⟨hc,hm,hn,hcmn⟩:=hx
 simp only at hc hm hn hcmn
 have hcb:=fr_ne (hf c [.mapv m,.mapv n] (by simp[lk,hc]) (by simp[lk,hc])) (c:=b) (by simp[lk,hb'])
 have hmb:=fr_ne (hf m [mpK (a0K (evI L)).K] (by simp[lk,hm,hcmn]) (by simp[lk,hm])) (c:=b) (by simp[lk,hb'])
 have hnb:=fr_ne (hf n [mpC (a0K (evI L)).C] (by simp[lk,hn,hcmn]) (by simp[lk,hn])) (c:=b) (by simp[lk,hb'])
 have hKy:=b4i c m n hcmn (a0K (evI L)) hgd.k (by rw[a0i,(srtL_perm _ _).length_eq,List.length_map]at hln;omega)
 rw[show (a0i (a0K (evI L))).map KeyC.cs=kys (a0i (a0K (evI L))) from rfl]at hKy
 have hGt:=fun k=>b9t c m n hcmn (a0K (evI L)) k
 have hgs:=fun i h=>gapN_p (t:=a0K (evI L)) (e:=e) (i:=i) h
 have hgl:=a3O (a0K (evI L)) e
 have hg0:=b5U (a0K (evI L)) e
 clear hf hT hgd hb
 generalize a0K (evI L)=T at *
 generalize a6r (evI L)=B at *
 simp (disch:=omega) only[hpq,hb',hc,hm,hn,hcmn,hcb,hmb,hnb,List.cons_append,List.nil_append, ↓Ed,Eu, ↓reduceIte,reduceCtorEq,Nat.reduceAdd,Nat.reduceEqDiff,Nat.reduceLT,Nat.reduceLeDiff,Int.reduceToNat,Int.reduceEq,Int.reduceLT,Int.reduceLE,w64,List.length_append,List.length_map,Nat.mul_one,beq_self_eq_true,PktC.cs,EvC.cs,BlkC.cs,EntC.cs,KeyC.cs,a0h,Int.reduceAdd,a0e,a0d,ixO,a0l,a0u,Bool.false_and,Bool.and_false,Bool.true_and]
 repeat' ((first|exact tt|refine c3 (hKy) ?_|refine na fun b=>?_|refine nb fun b hb=>?_|refine iq ?_|(refine jq ?_ ?_<;>intro h h')|refine Two_intro ?_ ?_|exact wZ|fail)<;>try refine sxIxd ?_)
 clear hKy
 refine wpx_loop (fun i:Nat=>⟨lk [(2,.int .i64 f),(3,.int .i64 t),(5,.ptr b 0),(9,.ptr c 0),(11,.sl (some 3) 1 (ixs (a6Y T e i))),(22,.sl (some 64) 4 (kys (a0i T))),(23,.int .i64 ((a0i T).length:Int)),(24,.int .i64 (i:Int))],lk (ixO p q ch top L++b0f c m n T++[(b,[.str e.1,.int .i64 e.2])])⟩) (fun i=>i≤(a0i T).length) (fun i=>(a0i T).length - i) 0 (by omega) (Le_lit (by simp[LeL,lk,hpq,hb',hc,hm,hn,hcmn,hcb,hmb,hnb,hg0,ixs])) ?_
 intro i hi
 have hmx:(1000000:Nat)≤maxLen:=by unfold maxLen;decide
 by_cases hil:i<(a0i T).length
 ·have f1:a0a (decide ((i:Int)<(a0i T).length)=true):=fo
  have hG1:=hGt ((a0i T).getD i default)
  have hs:=hgs i hil
  have hl:=hgl i
  clear hGt hgs hgl hg0 hO hK
  generalize hk:(a0i T).getD i default=k at *
  generalize (a0O T.K k).getD default=x at *
  generalize (a0O T.K k).isSome=bb at *
  generalize hgn:a6Y T e (i+1)=G1 at *
  generalize a6Y T e i=G0 at *
  obtain ⟨ke,kec,ko,kq⟩:=k
  simp only at hs
  by_cases he1:ke=e.1
  rotate_left
  ·have d1:decide (ke=e.1)=false:=decide_eq_false he1
   have hs':G1=G0:=by rw[hs,if_neg (fun h=>he1 h.1)]
   clear hs he1
   subst hs'
   simp (disch:=omega) only[hpq,hb',hc,hm,hn,hcmn,hcb,hmb,hnb,hk,d1,List.cons_append,List.nil_append, ↓Ed,Eu, ↓reduceIte,reduceCtorEq,Nat.reduceAdd,Nat.reduceEqDiff,Nat.reduceLT,Nat.reduceLeDiff,Int.reduceToNat,Int.reduceEq,Int.reduceLT,Int.reduceLE,w64,List.length_append,List.length_map,Nat.mul_one,beq_self_eq_true,PktC.cs,EvC.cs,BlkC.cs,EntC.cs,KeyC.cs,a0h,Int.reduceAdd,a0e,a0d,ixO,a0l,a0u,Bool.false_and,Bool.and_false,Bool.true_and]
   repeat' ((first|exact tt|refine c3 (hG1) ?_|refine na fun b=>?_|refine nb fun b hb=>?_|refine iq ?_|(refine jq ?_ ?_<;>intro h h')|refine Two_intro ?_ ?_|exact wZ|fail)<;>try refine sxIxd ?_)
   all_goals exact Round_lit (i+1) ⟨Le_lit (by simp[LeL,lk,hpq,hb',hc,hm,hn,hcmn,hcb,hmb,hnb,hgn]),by omega,by omega⟩
  by_cases he2:kec=e.2
  rotate_left
  ·have d2:decide (kec=e.2)=false:=decide_eq_false he2
   have hs':G1=G0:=by rw[hs,if_neg (fun h=>he2 h.2.1)]
   clear hs he2
   subst hs' he1
   simp (disch:=omega) only[hpq,hb',hc,hm,hn,hcmn,hcb,hmb,hnb,hk,d2,List.cons_append,List.nil_append, ↓Ed,Eu, ↓reduceIte,reduceCtorEq,Nat.reduceAdd,Nat.reduceEqDiff,Nat.reduceLT,Nat.reduceLeDiff,Int.reduceToNat,Int.reduceEq,Int.reduceLT,Int.reduceLE,w64,List.length_append,List.length_map,Nat.mul_one,beq_self_eq_true,PktC.cs,EvC.cs,BlkC.cs,EntC.cs,KeyC.cs,a0h,Int.reduceAdd,a0e,a0d,ixO,a0l,a0u,Bool.false_and,Bool.and_false,Bool.true_and]
   repeat' ((first|exact tt|refine c3 (hG1) ?_|refine na fun b=>?_|refine nb fun b hb=>?_|refine iq ?_|(refine jq ?_ ?_<;>intro h h')|refine Two_intro ?_ ?_|exact wZ|fail)<;>try refine sxIxd ?_)
   all_goals exact Round_lit (i+1) ⟨Le_lit (by simp[LeL,lk,hpq,hb',hc,hm,hn,hcmn,hcb,hmb,hnb,hgn]),by omega,by omega⟩
  subst he1 he2
  cases ko with
  | false=>
   have hs':G1=G0:=by rw[hs,if_neg (fun h=>by cases h.2.2.1)]
   clear hs
   subst hs'
   simp (disch:=omega) only[hpq,hb',hc,hm,hn,hcmn,hcb,hmb,hnb,hk,List.cons_append,List.nil_append, ↓Ed,Eu, ↓reduceIte,reduceCtorEq,Nat.reduceAdd,Nat.reduceEqDiff,Nat.reduceLT,Nat.reduceLeDiff,Int.reduceToNat,Int.reduceEq,Int.reduceLT,Int.reduceLE,w64,List.length_append,List.length_map,Nat.mul_one,beq_self_eq_true,PktC.cs,EvC.cs,BlkC.cs,EntC.cs,KeyC.cs,a0h,Int.reduceAdd,a0e,a0d,ixO,a0l,a0u,Bool.false_and,Bool.and_false,Bool.true_and]
   repeat' ((first|exact tt|refine c3 (hG1) ?_|refine na fun b=>?_|refine nb fun b hb=>?_|refine iq ?_|(refine jq ?_ ?_<;>intro h h')|refine Two_intro ?_ ?_|exact wZ|fail)<;>try refine sxIxd ?_)
   all_goals exact Round_lit (i+1) ⟨Le_lit (by simp[LeL,lk,hpq,hb',hc,hm,hn,hcmn,hcb,hmb,hnb,hgn]),by omega,by omega⟩
  | true=>
   cases hxs:x.s with
   | false=>
    have hs':G1=G0:=by rw[hs,if_neg (fun h=>by rw[hxs]at h;cases h.2.2.2)]
    clear hs
    subst hs'
    simp (disch:=omega) only[hpq,hb',hc,hm,hn,hcmn,hcb,hmb,hnb,hk,hxs,List.cons_append,List.nil_append, ↓Ed,Eu, ↓reduceIte,reduceCtorEq,Nat.reduceAdd,Nat.reduceEqDiff,Nat.reduceLT,Nat.reduceLeDiff,Int.reduceToNat,Int.reduceEq,Int.reduceLT,Int.reduceLE,w64,List.length_append,List.length_map,Nat.mul_one,beq_self_eq_true,PktC.cs,EvC.cs,BlkC.cs,EntC.cs,KeyC.cs,a0h,Int.reduceAdd,a0e,a0d,ixO,a0l,a0u,Bool.false_and,Bool.and_false,Bool.true_and]
    repeat' ((first|exact tt|refine c3 (hG1) ?_|refine na fun b=>?_|refine nb fun b hb=>?_|refine iq ?_|(refine jq ?_ ?_<;>intro h h')|refine Two_intro ?_ ?_|exact wZ|fail)<;>try refine sxIxd ?_)
    all_goals exact Round_lit (i+1) ⟨Le_lit (by simp[LeL,lk,hpq,hb',hc,hm,hn,hcmn,hcb,hmb,hnb,hgn]),by omega,by omega⟩
   | true=>
    have hs':G1=G0++[kq]:=by rw[hs,if_pos ⟨rfl,rfl,rfl,hxs⟩]
    clear hs
    simp (disch:=omega) only[hpq,hb',hc,hm,hn,hcmn,hcb,hmb,hnb,hk,hxs,List.cons_append,List.nil_append, ↓Ed,Eu, ↓reduceIte,reduceCtorEq,Nat.reduceAdd,Nat.reduceEqDiff,Nat.reduceLT,Nat.reduceLeDiff,Int.reduceToNat,Int.reduceEq,Int.reduceLT,Int.reduceLE,w64,List.length_append,List.length_map,Nat.mul_one,beq_self_eq_true,PktC.cs,EvC.cs,BlkC.cs,EntC.cs,KeyC.cs,a0h,Int.reduceAdd,a0e,a0d,ixO,a0l,a0u,Bool.false_and,Bool.and_false,Bool.true_and]
    repeat' ((first|exact tt|refine c3 (hG1) ?_|refine na fun b=>?_|refine nb fun b hb=>?_|refine iq ?_|(refine jq ?_ ?_<;>intro h h')|refine Two_intro ?_ ?_|exact wZ|fail)<;>try refine sxIxd ?_)
    all_goals exact Round_lit (i+1) ⟨Le_lit (by simp[LeL,lk,hpq,hb',hc,hm,hn,hcmn,hcb,hmb,hnb,hgn,hs',a4G]),by omega,by omega⟩
 obtain rfl:i=(a0i T).length:=by omega
 have f1:a0a (decide (((a0i T).length:Int)<(a0i T).length)=false):=fo
 clear hGt hgs hgl hg0
 generalize a6Y T e (a0i T).length=G at *
 generalize a1P (ofN G) (max f 0) (min t mxN)=Y at *
 simp (disch:=omega) only[hpq,hb',hc,hm,hn,hcmn,hcb,hmb,hnb,List.cons_append,List.nil_append, ↓Ed,Eu, ↓reduceIte,reduceCtorEq,Nat.reduceAdd,Nat.reduceEqDiff,Nat.reduceLT,Nat.reduceLeDiff,Int.reduceToNat,Int.reduceEq,Int.reduceLT,Int.reduceLE,w64,List.length_append,List.length_map,Nat.mul_one,beq_self_eq_true,PktC.cs,EvC.cs,BlkC.cs,EntC.cs,KeyC.cs,a0h,Int.reduceAdd,a0e,a0d,ixO,a0l,a0u,Bool.false_and,Bool.and_false,Bool.true_and]
 repeat' ((first|exact tt|refine CallO_pure (hO) ?_|refine CallO_pure (hK) ?_|refine na fun b=>?_|refine nb fun b hb=>?_|refine iq ?_|(refine jq ?_ ?_<;>intro h h')|refine Two_intro ?_ ?_|exact wZ|fail)<;>try refine sxIxd ?_)
 all_goals exact ro_mk (by simp[LeL,lk,hpq,hb',hc,hm,hn,hcmn,hcb,hmb,hnb,a0z,arR]) (dom2' rfl)
end
end Go.Proofs.YtgdhinnepnlihaaGreatDoor
