import Derived.Test.YtgdhinnepnlihaaGreatDoorK23
import Derived.Test.YtgdhinnepnlihaaGreatDoorK22
namespace Go.Proofs.YtgdhinnepnlihaaGreatDoor
set_option linter.all false
set_option maxHeartbeats 9000000
section
open Go.RowKit Classical
set_option maxRecDepth 100000
theorem b9c(b:BlkC):a5L [b]=if a1n b=true then [a0V (a0Z b)] else []:=by
 unfold a5L
 cases hb:a1n b<;>simp[List.filter_cons,hb]
theorem sxLxk{A B:Prop}(h:B)(e:A=B:=by (simp (disch:=omega) only[*, ↓Ed,Eu, ↓reduceIte,reduceCtorEq,Nat.reduceAdd,Nat.reduceEqDiff,Nat.reduceLT,Nat.reduceLeDiff,Int.reduceToNat,Int.reduceEq,Int.reduceLT,Int.reduceLE,w64,List.length_append,List.length_map,Nat.mul_one,beq_self_eq_true,BlkC.cs,EvC.cs,PktC.cs,a0i,Int.reduceAdd,a0f,a0e,a0h,a0j,a0B,a0A,a0s,a0r];first|done|rfl)):A:=e▸h
set_option maxHeartbeats 8000000 in
theorem a9o(l:List BlkC)(how:List Int)(hl:l.length≤maxLen)(hE:∀ i,i<l.length→(l.getD i default).e.length≤maxLen):CP Tryz.prog 3 [.sl none 4 (a8G l),.sl none 1 (ixs how)] (.bool true):=by
 have hF:=a8y
 have hL:=a9Y none l hl hE
 refine a3n _ _ (by simp) ?_
 by_cases h1:a2W l
 rotate_left
 ·rw[decide_eq_false h1]at hL
  clear h1 hE
  simp only[a0K];refine sxLxk ?_
  repeat' ((first|exact tt|refine CallO_pure (hF) ?_|refine CallO_pure (hL) ?_|refine na fun b=>?_|refine nb fun b hb=>?_|refine iq ?_|(refine jq ?_ ?_<;>intro h h')|refine Two_intro ?_ ?_|exact wZ|fail)<;>try refine sxLxk ?_)
 rw[decide_eq_true h1]at hL
 by_cases h2:how.length≤20
 rotate_left
 ·have f1:a0a (decide ((20:Int)<how.length)=true):=fo
  clear h1 h2 hE
  simp only[a0K];refine sxLxk ?_
  repeat' ((first|exact tt|refine CallO_pure (hF) ?_|refine CallO_pure (hL) ?_|refine na fun b=>?_|refine nb fun b hb=>?_|refine iq ?_|(refine jq ?_ ?_<;>intro h h')|refine Two_intro ?_ ?_|exact wZ|fail)<;>try refine sxLxk ?_)
 have f1:a0a (decide ((20:Int)<how.length)=false):=fo
 have h20:=h1.1
 have hN:=b0Q a0k l.length (by decide) a4O ⟨by omega,by omega⟩
 simp only[a0K];refine sxLxk ?_
 repeat' ((first|exact tt|refine CallO_pure (hF) ?_|refine CallO_pure (hL) ?_|refine na fun b=>?_|refine nb fun b hb=>?_|refine iq ?_|(refine jq ?_ ?_<;>intro h h')|refine Two_intro ?_ ?_|exact wZ|fail)<;>try refine sxLxk ?_)
 refine CallO_exr hN (by simp[lk]) (fun x hx hf=>?_)
 obtain ⟨p,q⟩:=x
 simp only at hx
 clear hf hN f1 hF hL
 simp (disch:=omega) only[hx,List.cons_append,List.nil_append, ↓Ed,Eu, ↓reduceIte,reduceCtorEq,Nat.reduceAdd,Nat.reduceEqDiff,Nat.reduceLT,Nat.reduceLeDiff,Int.reduceToNat,Int.reduceEq,Int.reduceLT,Int.reduceLE,w64,List.length_append,List.length_map,Nat.mul_one,beq_self_eq_true,BlkC.cs,EvC.cs,PktC.cs,a0i,Int.reduceAdd,a0f,a0e,a0h,a0j,a0B,a0A,a0s,a0r]
 repeat' ((first|exact tt|refine na fun b=>?_|refine nb fun b hb=>?_|refine iq ?_|(refine jq ?_ ?_<;>intro h h')|refine Two_intro ?_ ?_|exact wZ|fail)<;>try refine sxLxk ?_)
 refine wpx_loop (fun i:Nat=>⟨lk [(0,.sl none 4 (a8G l)),(1,.sl none 1 (ixs how)),(5,.ptr p 0),(7,.sl (some 3) 1 (ixs (hgs (a0z l how i)))),(8,.int .i64 (i:Int))],lk (ixO p q a0k l.length (a0z l how i))⟩) (fun i=>i≤l.length) (fun i=>l.length - i) 0 (by omega) (Le_lit (by simp[LeL,lk,hx,a0z,hgs,ixs])) ?_
 intro i hi
 by_cases hil:i<l.length
 ·have f2:a0a (decide ((i:Int)<l.length)=true):=fo
  obtain ⟨_,hs60,hles⟩:=h1.2 i hil
  have hsm:=(kept_good h1 how i hi).sm
  have hev:=light_sm hles
  have he60:=hles.1
  have hR:=a6P none [atB (l.getD i default) (i+1)] (by simp) (fun j hj=>by
   obtain rfl:j=0:=by simpa using hj
   exact ⟨by simp[a0k],hev,by show (l.getD i default).e.length≤_;omega⟩)
  rw[show a8G [atB (l.getD i default) (i+1)]=[(atB (l.getD i default) (i+1)).cs] from rfl,b9c]at hR
  by_cases hm:a1n (atB (l.getD i default) (i+1))=true
  rotate_left
  ·rw[if_neg hm]at hR
   have hk:a0z l how (i+1)=a0z l how i:=by rw[a0z,if_neg (fun h=>hm h.1)]
   clear hs60 hles hsm hev hm hE h1 hl
   generalize a0z l how i=K0 at *
   generalize hxx:l.getD i default=x at *
   have hr0:txs []=[]:=rfl
   have n0:((0:Nat):Int)=0:=rfl
   rw[hr0]at hR
   simp (disch:=omega) only[hx,hxx,List.cons_append,List.nil_append, ↓Ed,Eu, ↓reduceIte,reduceCtorEq,Nat.reduceAdd,Nat.reduceEqDiff,Nat.reduceLT,Nat.reduceLeDiff,Int.reduceToNat,Int.reduceEq,Int.reduceLT,Int.reduceLE,w64,List.length_append,List.length_map,Nat.mul_one,beq_self_eq_true,BlkC.cs,EvC.cs,PktC.cs,a0i,Int.reduceAdd,a0f,a0e,a0h,a0j,a0B,a0A,a0s,a0r]
   repeat' ((first|exact tt|refine CallO_pure (hR) ?_|refine na fun b=>?_|refine nb fun b hb=>?_|refine iq ?_|(refine jq ?_ ?_<;>intro h h')|refine Two_intro ?_ ?_|exact wZ|fail)<;>try refine sxLxk ?_)
   all_goals exact Round_lit (i+1) ⟨Le_lit (by simp[LeL,lk,hx,hk]),by omega,by omega⟩
  rw[if_pos hm]at hR
  have hel:=encB_len hm
  have hel':(a0Z (atB (l.getD i default) (i+1))).length≤2147483647:=by
   have:(atB (l.getD i default) (i+1)).e.length=(l.getD i default).e.length:=rfl
   omega
  obtain ⟨a1,a2,a3,a4⟩:=add_rec how hil rfl hm hel'
  have hpl:(a0V (a0Z (atB (l.getD i default) (i+1)))).length≤1000000:=by
   rw[(a1p _).1]
   have:(atB (l.getD i default) (i+1)).e.length=(l.getD i default).e.length:=rfl
   omega
  have hp8:8≤(a0V (a0Z (atB (l.getD i default) (i+1)))).length:=by rw[(a1p _).1];omega
  have hsm2:∀ b∈a0z l how i++[atB (l.getD i default) (i+1)],a7b b.e:=fun b hb=>by
   rcases List.mem_append.1 hb with hb|hb
   ·exact hsm b hb
   ·obtain rfl:b=_:=by simpa using hb
    exact hev
  have hyes:b1c how i≠1→b1c how i≠2→b1c how i≠3→a0z l how (i+1)=a0z l how i++[atB (l.getD i default) (i+1)]:=fun g1 g2 g3=>by rw[a0z,if_pos ⟨hm,g1,g2,g3⟩]
  have hno:(b1c how i=1∨b1c how i=2∨b1c how i=3)→a0z l how (i+1)=a0z l how i:=fun g=>by
   rw[a0z,if_neg (fun h=>by rcases g with g|g|g;exact h.2.1 g;exact h.2.2.1 g;exact h.2.2.2 g)]
  have hgi:ixs (hgs (a0z l how i++[atB (l.getD i default) (i+1)]))=ixs (hgs (a0z l how i))++[[.int .i64 ((i:Int)+1)]]:=by simp[hgs,ixs]
  have hr1:∀ S:List UInt8,txs [S]=[[.str S]]:=fun S=>rfl
  rw[hr1]at hR
  clear hs60 hles hev hm hE h1 hl hel hel' hr1
  generalize a0V (a0Z (atB (l.getD i default) (i+1)))=S at *
  have hA1:=a4j p q hx a0k l.length _ S hpl hsm
  have hA2:=a4j p q hx a0k l.length _ S hpl hsm2
  have hA3:=a4j p q hx a0k l.length (a0z l how i) (S.take (S.length - 1)) (by rw[List.length_take];omega) hsm
  have hA4:=a4j p q hx a0k l.length (a0z l how i) (S.take 5++[S.getD 5 0 ^^^ 1]++S.drop 6) (by simp only[List.length_append,List.length_take,List.length_drop,List.length_cons,List.length_nil];omega) hsm
  rw[a1]at hA1
  rw[a2]at hA2
  rw[a3]at hA3
  rw[a4]at hA4
  simp only at hA1 hA2 hA3 hA4
  clear a1 a2 a3 a4 hsm hsm2
  have hk0:(hgs (a0z l how i)).length≤20:=by
   have:=(kept_rise (l:=l) (how:=how) i).2
   simp only[hgs,List.length_map];omega
  have hmx:(1000000:Nat)≤maxLen:=by unfold maxLen;decide
  have g0:([[.str S]]:List (List AV)).getD 0 []=[.str S]:=rfl
  have n1:((1:Nat):Int)=1:=rfl
  generalize hK1:a0z l how (i+1)=K1 at *
  generalize a0z l how i=K0 at *
  generalize hxx:l.getD i default=x at *
  by_cases hih:i<how.length
  rotate_left
  ·have f3:a0a (decide ((i:Int)<how.length)=false):=fo
   have hw:b1c how i=0:=by rw[b1c,if_neg hih]
   have hk:=hyes (by rw[hw];decide) (by rw[hw];decide) (by rw[hw];decide)
   rw[← hk]at hA1 hA2 hgi
   clear hyes hno hw hk hA3 hA4
   simp (disch:=omega) only[hx,hxx,List.cons_append,List.nil_append, ↓Ed,Eu, ↓reduceIte,reduceCtorEq,Nat.reduceAdd,Nat.reduceEqDiff,Nat.reduceLT,Nat.reduceLeDiff,Int.reduceToNat,Int.reduceEq,Int.reduceLT,Int.reduceLE,w64,List.length_append,List.length_map,Nat.mul_one,beq_self_eq_true,BlkC.cs,EvC.cs,PktC.cs,a0i,Int.reduceAdd,a0f,a0e,a0h,a0j,a0B,a0A,a0s,a0r]
   repeat' ((first|exact tt|refine CallO_pure (hR) ?_|refine c2 (hA1) ?_|refine c2 (hA2) ?_|refine na fun b=>?_|refine nb fun b hb=>?_|refine iq ?_|(refine jq ?_ ?_<;>intro h h')|refine Two_intro ?_ ?_|exact wZ|fail)<;>try refine sxLxk ?_)
   all_goals exact Round_lit (i+1) ⟨Le_lit (by simp[LeL,lk,hx,hK1,hgi]),by omega,by omega⟩
  have f3:a0a (decide ((i:Int)<how.length)=true):=fo
  have hw:b1c how i=how.getD i 0:=by rw[b1c,if_pos hih]
  rw[hw]at hyes hno
  clear hw
  generalize hv:how.getD i 0=v at *
  by_cases v1:v=1
  ·have f4:a0a (decide (v=1)=true):=fo
   have hk:=hno (.inl v1)
   clear hyes hno hA1 hA2 hA3 hA4 hgi
   subst hk
   simp (disch:=omega) only[hx,hxx,hv,List.cons_append,List.nil_append, ↓Ed,Eu, ↓reduceIte,reduceCtorEq,Nat.reduceAdd,Nat.reduceEqDiff,Nat.reduceLT,Nat.reduceLeDiff,Int.reduceToNat,Int.reduceEq,Int.reduceLT,Int.reduceLE,w64,List.length_append,List.length_map,Nat.mul_one,beq_self_eq_true,BlkC.cs,EvC.cs,PktC.cs,a0i,Int.reduceAdd,a0f,a0e,a0h,a0j,a0B,a0A,a0s,a0r]
   repeat' ((first|exact tt|refine CallO_pure (hR) ?_|refine na fun b=>?_|refine nb fun b hb=>?_|refine iq ?_|(refine jq ?_ ?_<;>intro h h')|refine Two_intro ?_ ?_|exact wZ|fail)<;>try refine sxLxk ?_)
   all_goals exact Round_lit (i+1) ⟨Le_lit (by simp[LeL,lk,hx,hK1]),by omega,by omega⟩
  have f4:a0a (decide (v=1)=false):=fo
  by_cases v2:v=2
  ·have f5:a0a (decide (v=2)=true):=fo
   have hk:=hno (.inr (.inl v2))
   have hcut:((S.length:Int) - 1).toNat=S.length - 1:=by omega
   clear hyes hno hA1 hA2 hA4 hgi
   subst hk
   simp (disch:=omega) only[hx,hxx,hv,List.cons_append,List.nil_append, ↓Ed,Eu, ↓reduceIte,reduceCtorEq,Nat.reduceAdd,Nat.reduceEqDiff,Nat.reduceLT,Nat.reduceLeDiff,Int.reduceToNat,Int.reduceEq,Int.reduceLT,Int.reduceLE,w64,List.length_append,List.length_map,Nat.mul_one,beq_self_eq_true,BlkC.cs,EvC.cs,PktC.cs,a0i,Int.reduceAdd,a0f,a0e,a0h,a0j,a0B,a0A,a0s,a0r]
   repeat' ((first|exact tt|refine CallO_pure (hR) ?_|refine c2 (hA3) ?_|refine na fun b=>?_|refine nb fun b hb=>?_|refine iq ?_|(refine jq ?_ ?_<;>intro h h')|refine Two_intro ?_ ?_|exact wZ|fail)<;>try refine sxLxk ?_)
   all_goals exact Round_lit (i+1) ⟨Le_lit (by simp[LeL,lk,hx,hK1]),by omega,by omega⟩
  have f5:a0a (decide (v=2)=false):=fo
  by_cases v3:v=3
  ·have f6:a0a (decide (v=3)=true):=fo
   have hk:=hno (.inr (.inr v3))
   have hxo:=b5Y (S.getD 5 0)
   have ht5:(S.take 5).length=5:=by rw[List.length_take];omega
   have htl:S.take S.length=S:=List.take_length
   have hd6:(S.drop 6).length=S.length - 6:=List.length_drop
   clear hyes hno hA1 hA2 hA3 hgi
   subst hk
   simp (disch:=omega) only[hx,hxx,hv,List.cons_append,List.nil_append, ↓Ed,Eu, ↓reduceIte,reduceCtorEq,Nat.reduceAdd,Nat.reduceEqDiff,Nat.reduceLT,Nat.reduceLeDiff,Int.reduceToNat,Int.reduceEq,Int.reduceLT,Int.reduceLE,w64,List.length_append,List.length_map,Nat.mul_one,beq_self_eq_true,BlkC.cs,EvC.cs,PktC.cs,a0i,Int.reduceAdd,a0f,a0e,a0h,a0j,a0B,a0A,a0s,a0r]
   repeat' ((first|exact tt|refine CallO_pure (hR) ?_|refine c2 (hA4) ?_|refine BytesW_intro ([S.getD 5 0 ^^^ 1]) (by simp[a0m]) ?_|refine na fun b=>?_|refine nb fun b hb=>?_|refine iq ?_|(refine jq ?_ ?_<;>intro h h')|refine Two_intro ?_ ?_|exact wZ|fail)<;>try refine sxLxk ?_)
   all_goals exact Round_lit (i+1) ⟨Le_lit (by simp[LeL,lk,hx,hK1]),by omega,by omega⟩
  have f6:a0a (decide (v=3)=false):=fo
  have hk:=hyes v1 v2 v3
  rw[← hk]at hA1 hA2 hgi
  clear hyes hno hk hA3 hA4
  simp (disch:=omega) only[hx,hxx,hv,List.cons_append,List.nil_append, ↓Ed,Eu, ↓reduceIte,reduceCtorEq,Nat.reduceAdd,Nat.reduceEqDiff,Nat.reduceLT,Nat.reduceLeDiff,Int.reduceToNat,Int.reduceEq,Int.reduceLT,Int.reduceLE,w64,List.length_append,List.length_map,Nat.mul_one,beq_self_eq_true,BlkC.cs,EvC.cs,PktC.cs,a0i,Int.reduceAdd,a0f,a0e,a0h,a0j,a0B,a0A,a0s,a0r]
  repeat' ((first|exact tt|refine CallO_pure (hR) ?_|refine c2 (hA1) ?_|refine c2 (hA2) ?_|refine na fun b=>?_|refine nb fun b hb=>?_|refine iq ?_|(refine jq ?_ ?_<;>intro h h')|refine Two_intro ?_ ?_|exact wZ|fail)<;>try refine sxLxk ?_)
  all_goals exact Round_lit (i+1) ⟨Le_lit (by simp[LeL,lk,hx,hK1,hgi]),by omega,by omega⟩
 obtain rfl:i=l.length:=by omega
 have f2:a0a (decide ((l.length:Int)<l.length)=false):=fo
 obtain ⟨hr1,hr2⟩:=kept_rise (l:=l) (how:=how) l.length
 have hG:=kept_good h1 how l.length (Nat.le_refl _)
 have hlaw:=lacks_law hr1 (n:=l.length) kept_bd
 have hM:=a7F p q hx a0k l.length _ 90000 hG (by omega)
 have hH:=a1O p q hx a0k l.length _ hG.nd (fun b hb=>(hG.ok b hb).1) (by omega)
 have hmi:b2a l.length (a0z l how l.length)=a1x (ofN (hgs (a0z l how l.length))) 1 l.length:=by
  unfold b2a
  rw[hsI_rise hr1]
  have e1:max (1:Int) 0=1:=by omega
  have e2:min (l.length:Int) mxN=l.length:=by unfold mxN;omega
  rw[e1,e2]
 rw[hmi]at hM
 rw[hsI_rise hr1]at hH
 have hTl:(hgs (a0z l how l.length)).length≤20:=by simp only[hgs,List.length_map];omega
 have hI:=b2g (hgs (a0z l how l.length)) (by omega)
 have hML:=b0w (ofN (hgs (a0z l how l.length))) 1 l.length
 have hMb:=fun r=>b1U (l:=ofN (hgs (a0z l how l.length))) (f:=1) (t:=l.length) r
 have hOL:=(goodN (riseN_of hr1 (fun x hx=>by have:=kept_bd x hx;unfold mxN;omega))).2
 clear h1 hE hG hmi hr1 hr2 hl
 generalize a1x (ofN (hgs (a0z l how l.length))) 1 l.length=M at *
 generalize hgs (a0z l how l.length)=T at *
 generalize a0z l how l.length=K at *
 generalize ofN T=O at *
 obtain ⟨hla,hlb⟩:=hlaw
 simp (disch:=omega) only[hx,List.cons_append,List.nil_append, ↓Ed,Eu, ↓reduceIte,reduceCtorEq,Nat.reduceAdd,Nat.reduceEqDiff,Nat.reduceLT,Nat.reduceLeDiff,Int.reduceToNat,Int.reduceEq,Int.reduceLT,Int.reduceLE,w64,List.length_append,List.length_map,Nat.mul_one,beq_self_eq_true,BlkC.cs,EvC.cs,PktC.cs,a0i,Int.reduceAdd,a0f,a0e,a0h,a0j,a0B,a0A,a0s,a0r]
 repeat' ((first|exact tt|refine c2 (hM) ?_|refine na fun b=>?_|refine nb fun b hb=>?_|refine iq ?_|(refine jq ?_ ?_<;>intro h h')|refine Two_intro ?_ ?_|exact wZ|fail)<;>try refine sxLxk ?_)
 have hmx:(1000000:Nat)≤maxLen:=by unfold maxLen;decide
 refine wpx_loop (fun i:Nat=>⟨lk [(0,.sl none 4 (a8G l)),(5,.ptr p 0),(7,.sl (some 3) 1 (ixs T)),(13,.sl (some 3) 1 (ixs (a1e (M.take i)))),(14,.sl none 2 (rgs M)),(15,.int .i64 (i:Int))],lk (ixO p q a0k l.length K)⟩) (fun i=>i≤M.length) (fun i=>M.length - i) 0 (by omega) (Le_lit (by simp[LeL,lk,hx,a1e,ixs])) ?_
 clear f2
 intro i hi
 by_cases him:i<M.length
 ·have f2:a0a (decide ((i:Int)<M.length)=true):=fo
  have hr:=hMb (M.getD i default) (by simp[List.getD,him])
  have hfl:=fun x hx=>flat_le (M:=M) (i:=i) him (x:=x) hx
  have hft:=flat_take (M:=M) (i:=i) him
  clear hMb hlb hI hH hM
  generalize hxx:M.getD i default=r at *
  obtain ⟨f,t⟩:=r
  simp only at hr hfl hft
  obtain ⟨G,hG⟩:∃ G:Nat→List Int,G=fun x:Nat=>a1e (M.take i)++a9E f (f+(x:Int) - 1):=⟨_,rfl⟩
  have hG0:G 0=a1e (M.take i):=by rw[hG];simp[runL_none (show f - 1<f by omega)]
  have hGe:G (t - f+1).toNat=a1e (M.take (i+1)):=by
   rw[hG,hft]
   have:f+((t - f+1).toNat:Int) - 1=t:=by omega
   simp only[this]
  have hGs:∀ x:Nat,ixs (G (x+1))=ixs (G x)++[[.int .i64 (f+(x:Int))]]:=fun x=>by
   have:f+((x+1:Nat):Int) - 1=(f+(x:Int) - 1)+1:=by omega
   rw[hG]
   simp only[this]
   rw[runL_snoc (by omega)]
   simp[ixs]
  have hGl:∀ x:Nat,(x:Int)≤t - f+1→(G x).length≤20:=fun x hx=>by
   have:=hfl (f+(x:Int) - 1) (by omega)
   rw[hG];show (a1e (M.take i)++a9E f (f+(x:Int) - 1)).length≤20;omega
  rw[← hG0]
  clear hG hG0 hft hfl
  generalize hF1:a1e (M.take (i+1))=F1 at *
  simp (disch:=omega) only[hx,hxx,List.cons_append,List.nil_append, ↓Ed,Eu, ↓reduceIte,reduceCtorEq,Nat.reduceAdd,Nat.reduceEqDiff,Nat.reduceLT,Nat.reduceLeDiff,Int.reduceToNat,Int.reduceEq,Int.reduceLT,Int.reduceLE,w64,List.length_append,List.length_map,Nat.mul_one,beq_self_eq_true,BlkC.cs,EvC.cs,PktC.cs,a0i,Int.reduceAdd,a0f,a0e,a0h,a0j,a0B,a0A,a0s,a0r]
  repeat' ((first|exact tt|refine na fun b=>?_|refine nb fun b hb=>?_|refine iq ?_|(refine jq ?_ ?_<;>intro h h')|refine Two_intro ?_ ?_|exact wZ|fail)<;>try refine sxLxk ?_)
  refine wpx_loop (fun x:Nat=>⟨lk [(0,.sl none 4 (a8G l)),(5,.ptr p 0),(7,.sl (some 3) 1 (ixs T)),(13,.sl (some 3) 1 (ixs (G x))),(14,.sl none 2 (rgs M)),(15,.int .i64 (i:Int)),(16,.int .i64 (f+(x:Int)))],lk (ixO p q a0k l.length K)⟩) (fun x=>x≤(t - f+1).toNat) (fun x=>(t - f+1).toNat - x) 0 (by omega) (Le_lit (by simp[LeL,lk,hx])) ?_
  intro x hx'
  by_cases hxt:x<(t - f+1).toNat
  ·have f3:a0a (decide (f+(x:Int)≤t)=true):=fo
   have hl1:=hGl x (by omega)
   have f4:a0a (decide (((G x).length:Int)≤20)=true):=fo
   have hs:=hGs x
   clear hGl hGs hGe
   generalize hg1:G (x+1)=g1 at *
   generalize G x=g at *
   simp (disch:=omega) only[hx,hxx,List.cons_append,List.nil_append, ↓Ed,Eu, ↓reduceIte,reduceCtorEq,Nat.reduceAdd,Nat.reduceEqDiff,Nat.reduceLT,Nat.reduceLeDiff,Int.reduceToNat,Int.reduceEq,Int.reduceLT,Int.reduceLE,w64,List.length_append,List.length_map,Nat.mul_one,beq_self_eq_true,BlkC.cs,EvC.cs,PktC.cs,a0i,Int.reduceAdd,a0f,a0e,a0h,a0j,a0B,a0A,a0s,a0r]
   repeat' ((first|exact tt|refine na fun b=>?_|refine nb fun b hb=>?_|refine iq ?_|(refine jq ?_ ?_<;>intro h h')|refine Two_intro ?_ ?_|exact wZ|fail)<;>try refine sxLxk ?_)
   all_goals exact Round_lit (x+1) ⟨Le_lit (by simp[LeL,lk,hx,hg1,hs,Int.add_assoc]),by omega,by omega⟩
  obtain rfl:x=(t - f+1).toNat:=by omega
  have f3:a0a (decide (f+((t - f+1).toNat:Int)≤t)=false):=fo
  clear hGl hGs
  generalize (t - f+1).toNat=x at *
  generalize G x=g at *
  subst hGe
  simp (disch:=omega) only[hx,hxx,List.cons_append,List.nil_append, ↓Ed,Eu, ↓reduceIte,reduceCtorEq,Nat.reduceAdd,Nat.reduceEqDiff,Nat.reduceLT,Nat.reduceLeDiff,Int.reduceToNat,Int.reduceEq,Int.reduceLT,Int.reduceLE,w64,List.length_append,List.length_map,Nat.mul_one,beq_self_eq_true,BlkC.cs,EvC.cs,PktC.cs,a0i,Int.reduceAdd,a0f,a0e,a0h,a0j,a0B,a0A,a0s,a0r]
  repeat' ((first|exact tt|refine na fun b=>?_|refine nb fun b hb=>?_|refine iq ?_|(refine jq ?_ ?_<;>intro h h')|refine Two_intro ?_ ?_|exact wZ|fail)<;>try refine sxLxk ?_)
  all_goals exact Round_lit (i+1) ⟨Le_lit (by simp[LeL,lk,hx,hF1]),by omega,by omega⟩
 obtain rfl:i=M.length:=by omega
 have f2:a0a (decide ((M.length:Int)<M.length)=false):=fo
 have hFT:∀ j k,j<(a1e M).length→k<T.length→decide ((a1e M).getD j 0=T.getD k 0)=false:=fun j k h1 h2=>by
  refine decide_eq_false fun e=>hlb ((a1e M).getD j 0) (by simp[List.getD,h1]) ?_
  rw[e];simp[List.getD,h2]
 clear hMb hlb hM hML hOL
 rw[List.take_length]
 generalize a1e M=F at *
 have hsum:(F.length:Int)+(T.length:Int)=l.length:=by omega
 simp (disch:=omega) only[hx,List.cons_append,List.nil_append, ↓Ed,Eu, ↓reduceIte,reduceCtorEq,Nat.reduceAdd,Nat.reduceEqDiff,Nat.reduceLT,Nat.reduceLeDiff,Int.reduceToNat,Int.reduceEq,Int.reduceLT,Int.reduceLE,w64,List.length_append,List.length_map,Nat.mul_one,beq_self_eq_true,BlkC.cs,EvC.cs,PktC.cs,a0i,Int.reduceAdd,a0f,a0e,a0h,a0j,a0B,a0A,a0s,a0r]
 repeat' ((first|exact tt|refine c2 (hH) ?_|refine CallO_pure (hI) ?_|refine na fun b=>?_|refine nb fun b hb=>?_|refine iq ?_|(refine jq ?_ ?_<;>intro h h')|refine Two_intro ?_ ?_|exact wZ|fail)<;>try refine sxLxk ?_)
 clear hI hH f2
 refine wpx_loop (fun j:Nat=>⟨lk [(7,.sl (some 3) 1 (ixs T)),(13,.sl (some 3) 1 (ixs F)),(17,.int .i64 (j:Int))],lk []⟩) (fun j=>j≤F.length) (fun j=>F.length - j) 0 (by omega) (Le_lit (by simp[LeL,lk])) ?_
 intro j hj
 by_cases hjl:j<F.length
 rotate_left
 ·obtain rfl:j=F.length:=by omega
  have f2:a0a (decide ((F.length:Int)<F.length)=false):=fo
  refine sxLxk ?_
  repeat' ((first|exact tt|refine na fun b=>?_|refine nb fun b hb=>?_|refine iq ?_|(refine jq ?_ ?_<;>intro h h')|refine Two_intro ?_ ?_|exact wZ|fail)<;>try refine sxLxk ?_)
 have f2:a0a (decide ((j:Int)<F.length)=true):=fo
 refine sxLxk ?_
 repeat' ((first|exact tt|refine na fun b=>?_|refine nb fun b hb=>?_|refine iq ?_|(refine jq ?_ ?_<;>intro h h')|refine Two_intro ?_ ?_|exact wZ|fail)<;>try refine sxLxk ?_)
 refine wpx_loop (fun k:Nat=>⟨lk [(7,.sl (some 3) 1 (ixs T)),(13,.sl (some 3) 1 (ixs F)),(17,.int .i64 (j:Int)),(18,.int .i64 (k:Int))],lk []⟩) (fun k=>k≤T.length) (fun k=>T.length - k) 0 (by omega) (Le_lit (by simp[LeL,lk])) ?_
 intro k hk
 by_cases hkl:k<T.length
 ·have f3:a0a (decide ((k:Int)<T.length)=true):=fo
  have hne:=hFT j k hjl hkl
  clear hFT
  generalize hx1:F.getD j 0=x1 at *
  generalize hx2:T.getD k 0=x2 at *
  refine sxLxk ?_
  repeat' ((first|exact tt|refine na fun b=>?_|refine nb fun b hb=>?_|refine iq ?_|(refine jq ?_ ?_<;>intro h h')|refine Two_intro ?_ ?_|exact wZ|fail)<;>try refine sxLxk ?_)
  all_goals exact Round_lit (k+1) ⟨Le_lit (by simp[LeL,lk]),by omega,by omega⟩
 obtain rfl:k=T.length:=by omega
 have f3:a0a (decide ((T.length:Int)<T.length)=false):=fo
 refine sxLxk ?_
 repeat' ((first|exact tt|refine na fun b=>?_|refine nb fun b hb=>?_|refine iq ?_|(refine jq ?_ ?_<;>intro h h')|refine Two_intro ?_ ?_|exact wZ|fail)<;>try refine sxLxk ?_)
 all_goals exact Round_lit (j+1) ⟨Le_lit (by simp[LeL,lk]),by omega,by omega⟩
end
section
open Go.RowKit Classical
set_option maxRecDepth 100000
def cfB(l:List BlkC):Prop:=∀ a∈l, ∀ b∈l,a.h=b.h→a=b
def okO(top:Int)(b:BlkC):Prop:=b.c=a0k∧b.h≤top
structure InvO (l:List BlkC) (top:Int) (L:List BlkC):Prop where
 sub:∀ x∈L,x∈l∧a1n x=true∧okO top x
 nd:(hgs L).Nodup
theorem lightO{l:List BlkC}(hl:a2W l){b:BlkC}(hb:b∈l):a2x b.e:=by
 obtain ⟨i,hi,rfl⟩:=List.getElem_of_mem hb
 have:=(hl.2 i hi).2.2
 simpa[List.getD,hi]using this
theorem encO{l:List BlkC}(hl:a2W l){b:BlkC}(hb:b∈l)(hm:a1n b=true):(a0Z b).length≤100000∧(a0V (a0Z b)).length≤1000000:=by
 have h1:=(lightO hl hb).1
 have h2:=encB_len hm
 rw[(a1p _).1];omega
theorem stepO{l:List BlkC}(hc:cfB l)(hl:a2W l){top:Int}{L:List BlkC}(h:InvO l top L){b:BlkC}(hb:b∈l)(hm:a1n b=true):
  InvO l top (a2n a0k top L (a0V (a0Z b))).1∧(okO top b→b∈(a2n a0k top L (a0V (a0Z b))).1)∧(∀ x∈L,x∈(a2n a0k top L (a0V (a0Z b))).1)∧(a2n a0k top L (a0V (a0Z b))).1.length≤L.length+1:=by
 rw[add_put hm (by have:=(encO hl hb hm).1;omega)]
 by_cases h1:b.c=a0k
 rotate_left
 ·rw[if_pos h1];exact ⟨h,fun g=>absurd g.1 h1,fun x hx=>hx,by simp⟩
 rw[if_neg (by simpa using h1)]
 by_cases h2:top<b.h
 ·rw[if_pos h2];exact ⟨h,fun g=>absurd g.2 (by omega),fun x hx=>hx,by simp⟩
 rw[if_neg h2]
 cases hf:a0I L b.h with
 | none=>
  refine ⟨⟨fun x hx=>?_, ?_⟩,fun _=>by simp,fun x hx=>by simp[hx],by simp⟩
  ·rcases List.mem_append.1 hx with hx|hx
   ·exact h.sub x hx
   ·obtain rfl:x=b:=by simpa using hx
    exact ⟨hb,hm,h1,by omega⟩
  ·have e:hgs (L++[b])=hgs L++[b.h]:=by simp[hgs]
   rw[e];exact nodup_snoc h.nd (findH_no hf)
 | some b'=>
  obtain ⟨g1,g2⟩:=findH_some hf
  have e:b'=b:=hc b' (h.sub b' g1).1 b hb g2
  subst e
  simp only[if_true]
  exact ⟨h,fun _=>g1,fun x hx=>hx,by omega⟩
theorem b9W(l:List BlkC)(top:Int):InvO l top []:=⟨fun x hx=>by simp at hx,by simp[hgs]⟩
theorem sameO{l:List BlkC}{top:Int}{L M:List BlkC}(hL:InvO l top L)(hM:InvO l top M)(h:∀ b∈l,a1n b=true→okO top b→b∈L)(h':∀ b∈l,a1n b=true→okO top b→b∈M):hsI L=hsI M∧evI L=evI M:=by
 have hm:∀ x,x∈L↔x∈M:=fun x=>⟨fun hx=>by obtain ⟨a,b,c⟩:=hL.sub x hx;exact h' x a b c,fun hx=>by obtain ⟨a,b,c⟩:=hM.sub x hx;exact h x a b c⟩
 have hp:(hgs L).Perm (hgs M):=(List.perm_ext_iff_of_nodup hL.nd hM.nd).2 fun a=>by
  simp only[hgs,List.mem_map]
  exact ⟨fun ⟨b,g1,g2⟩=>⟨b,(hm b).1 g1,g2⟩,fun ⟨b,g1,g2⟩=>⟨b,(hm b).2 g1,g2⟩⟩
 have hs:hsI L=hsI M:=rise_unique a3f (srtL_rise a3f hL.nd) (srtL_rise a3f hM.nd) ((srtL_perm _ _).trans (hp.trans (srtL_perm _ _).symm))
 refine ⟨hs, ?_⟩
 unfold evI dI
 rw[← hs]
 congr 1
 refine List.map_congr_left fun y hy=>?_
 obtain ⟨b,hb⟩:=Option.isSome_iff_exists.1 (mem_hsI.1 hy)
 obtain ⟨g1,g2⟩:=findH_some hb
 have:=findH_mem hM.nd ((hm b).1 g1)
 unfold a9I
 rw[hb, ← g2,this]
theorem b7z:∀ D:List BlkC,(∀ b∈D,b.e.length≤60)→(D.map (·.e.length)).sum≤60 * D.length
 | [],_=>by simp
 | b::D,h=>by
  have h1:=h b (by simp)
  have h2:=b7z D fun x hx=>h x (by simp[hx])
  simp only[List.map_cons,List.sum_cons,List.length_cons];omega
theorem goodO{l:List BlkC}(hl:a2W l){top:Int}{L:List BlkC}(h:InvO l top L)(hn:L.length≤100):IxG a0k top 90000 L:=by
 refine ⟨h.nd,fun b hb=>(h.sub b hb).2, ?_,fun b hb=>light_sm (lightO hl (h.sub b hb).1),by omega⟩
 have:=b7z (dI L) fun b hb=>(lightO hl (h.sub b ((dI_mem h.nd).1 hb)).1).1
 rw[b0m]at this
 omega
theorem feedO{l:List BlkC}(hc:cfB l)(hl:a2W l)(top:Int){F:List BlkC}(hF:∀ b∈F,b∈l∧a1n b=true):
  ∀ k,k≤F.length→InvO l top (a2b a0k top ((F.take k).map fun b=>a0V (a0Z b))).1∧(∀ b∈F.take k,okO top b→b∈(a2b a0k top ((F.take k).map fun b=>a0V (a0Z b))).1)∧(a2b a0k top ((F.take k).map fun b=>a0V (a0Z b))).1.length≤k
 | 0,_=>by simpa[a8U]using b9W l top
 | k+1,hk=>by
  obtain ⟨h1,h2,h3⟩:=feedO hc hl top hF k (by omega)
  have hkl:k<F.length:=by omega
  rw[List.take_add_one,List.getElem?_eq_getElem hkl,Option.toList_some,List.map_append,List.map_cons,List.map_nil,a7x]
  obtain ⟨g1,g2⟩:=hF F[k] (List.getElem_mem hkl)
  obtain ⟨s1,s2,s3,s4⟩:=stepO hc hl h1 g1 g2
  refine ⟨s1,fun b hb hok=>?_,Nat.le_trans s4 (by omega)⟩
  rcases List.mem_append.1 hb with hb|hb
  ·exact s3 b (h2 b hb hok)
  ·obtain rfl:b=F[k]:=by simpa using hb
   exact s2 hok
end
section
open Go.RowKit Classical
set_option maxRecDepth 100000
theorem all_ne{o:Nat→Option (List AV)}{x:Nat}(h:o x=none)(bs:List Nat)(hb:∀ z∈bs,o z≠none):∀ z∈bs, ¬ x=z∧¬ z=x:=fun z hz=>fr_ne h (hb z hz)
end
section
open Go.RowKit Classical
set_option maxRecDepth 100000
structure Hd (A:Prop):Prop where
 h:A
theorem cutH{A B:Prop}(f:Hd A→B)(a:A):B:=f ⟨a⟩
theorem sxLxn{A B:Prop}(h:B)(e:A=B:=by (simp (disch:=omega) only[*, ↓Ed,Eu, ↓reduceIte,reduceCtorEq,Nat.reduceAdd,Nat.reduceEqDiff,Nat.reduceLT,Nat.reduceLeDiff,Int.reduceToNat,Int.reduceEq,Int.reduceLT,Int.reduceLE,w64,List.length_append,List.length_map,Nat.mul_one,beq_self_eq_true,BlkC.cs,EvC.cs,PktC.cs,EntC.cs,KeyC.cs,a0i,Int.reduceAdd,a0f,a0e,a0h,a0j,a0s,a0r,a2w,a2v];first|done|rfl)):A:=e▸h
set_option maxHeartbeats 16000000 in
theorem a9p(l:List BlkC)(picks:List Int)(top:Int)(hl:l.length≤maxLen)(hE:∀ i,i<l.length→(l.getD i default).e.length≤maxLen):CP Tryz.prog 5 [.sl none 4 (a8G l),.sl none 1 (ixs picks),.int .i64 top] (.bool true):=by
 have hF:=a8y
 have hL:=a9Y none l hl hE
 refine a3o _ _ (by simp) ?_
 by_cases h1:a2W l
 rotate_left
 ·rw[decide_eq_false h1]at hL
  clear h1 hE
  simp only[a0u];refine sxLxn ?_
  repeat' ((first|exact tt|refine CallO_pure (hF) ?_|refine CallO_pure (hL) ?_|refine na fun b=>?_|refine nb fun b hb=>?_|refine iq ?_|(refine jq ?_ ?_<;>intro h h')|refine Two_intro ?_ ?_|exact wZ|fail)<;>try refine sxLxn ?_)
 rw[decide_eq_true h1]at hL
 by_cases h2:picks.length≤20
 rotate_left
 ·have f1:a0a (decide ((20:Int)<picks.length)=true):=fo
  clear h1 h2 hE
  simp only[a0u];refine sxLxn ?_
  repeat' ((first|exact tt|refine CallO_pure (hF) ?_|refine CallO_pure (hL) ?_|refine na fun b=>?_|refine nb fun b hb=>?_|refine iq ?_|(refine jq ?_ ?_<;>intro h h')|refine Two_intro ?_ ?_|exact wZ|fail)<;>try refine sxLxn ?_)
 have f1:a0a (decide ((20:Int)<picks.length)=false):=fo
 by_cases h3:top<0
 ·have f2:a0a (decide (top<0)=true):=fo
  clear h1 h2 hE h3
  simp only[a0u];refine sxLxn ?_
  repeat' ((first|exact tt|refine CallO_pure (hF) ?_|refine CallO_pure (hL) ?_|refine na fun b=>?_|refine nb fun b hb=>?_|refine iq ?_|(refine jq ?_ ?_<;>intro h h')|refine Two_intro ?_ ?_|exact wZ|fail)<;>try refine sxLxn ?_)
 have f2:a0a (decide (top<0)=false):=fo
 by_cases h4:1099511627776<top
 ·have f3:a0a (decide (1099511627776<top)=true):=fo
  clear h1 h2 hE h3 h4
  simp only[a0u];refine sxLxn ?_
  repeat' ((first|exact tt|refine CallO_pure (hF) ?_|refine CallO_pure (hL) ?_|refine na fun b=>?_|refine nb fun b hb=>?_|refine iq ?_|(refine jq ?_ ?_<;>intro h h')|refine Two_intro ?_ ?_|exact wZ|fail)<;>try refine sxLxn ?_)
 have f3:a0a (decide (1099511627776<top)=false):=fo
 have h20:=h1.1
 have hS:=fun i k (hi:i<l.length) (hk:k<l.length)=>b5x (l.getD i default) (l.getD k default) (light_sm (h1.2 i hi).2.2).1 (light_sm (h1.2 k hk).2.2).1
 simp only[a0u];refine sxLxn ?_
 repeat' ((first|exact tt|refine CallO_pure (hF) ?_|refine CallO_pure (hL) ?_|refine na fun b=>?_|refine nb fun b hb=>?_|refine iq ?_|(refine jq ?_ ?_<;>intro h h')|refine Two_intro ?_ ?_|exact wZ|fail)<;>try refine sxLxn ?_)
 clear f1 f2 f3 hL
 refine wpx_loop (fun i:Nat=>⟨lk [(0,.sl none 4 (a8G l)),(1,.sl none 1 (ixs picks)),(2,.int .i64 top),(7,.int .i64 (i:Int))],lk []⟩) (fun i=>i≤l.length∧∀ a b,a<i→b<a→(l.getD a default).h=(l.getD b default).h→l.getD a default=l.getD b default) (fun i=>l.length - i) 0 ⟨by omega,fun a b h=>by omega⟩ (Le_lit (by simp[LeL,lk])) ?_
 rintro i ⟨hi,hq⟩
 by_cases hil:i<l.length
 ·have f1:a0a (decide ((i:Int)<l.length)=true):=fo
  refine sxLxn ?_
  repeat' ((first|exact tt|refine na fun b=>?_|refine nb fun b hb=>?_|refine iq ?_|(refine jq ?_ ?_<;>intro h h')|refine Two_intro ?_ ?_|exact wZ|fail)<;>try refine sxLxn ?_)
  refine wpx_loop (fun k:Nat=>⟨lk [(0,.sl none 4 (a8G l)),(1,.sl none 1 (ixs picks)),(2,.int .i64 top),(7,.int .i64 (i:Int)),(8,.int .i64 (k:Int))],lk []⟩) (fun k=>k≤i∧∀ b,b<k→(l.getD i default).h=(l.getD b default).h→l.getD i default=l.getD b default) (fun k=>i - k) 0 ⟨by omega,fun b h=>by omega⟩ (Le_lit (by simp[LeL,lk])) ?_
  clear f1
  rintro k ⟨hk,hp⟩
  by_cases hkl:k<i
  ·have f1:a0a (decide ((k:Int)<i)=true):=fo
   have hSk:=hS i k hil (by omega)
   have hnext:((l.getD i default).h=(l.getD k default).h→l.getD i default=l.getD k default)→∀ b,b<k+1→(l.getD i default).h=(l.getD b default).h→l.getD i default=l.getD b default:=fun g b hb=>by
    by_cases e:b=k
    ·rw[e];exact g
    ·exact hp b (by omega)
   clear hS hp hq hE h1
   generalize hxi:l.getD i default=x at *
   generalize hxk:l.getD k default=y at *
   by_cases e1:x.h=y.h
   ·have f2:a0a (decide (x.h=y.h)=true):=fo
    by_cases e2:x=y
    ·have hn:=hnext (fun _=>e2)
     rw[decide_eq_true e2]at hSk
     clear hnext e1 e2
     refine sxLxn ?_
     repeat' ((first|exact tt|refine CallW_intro (hSk) ?_|refine na fun b=>?_|refine nb fun b hb=>?_|refine iq ?_|(refine jq ?_ ?_<;>intro h h')|refine Two_intro ?_ ?_|exact wZ|fail)<;>try refine sxLxn ?_)
     all_goals exact Round_lit (k+1) ⟨Le_lit (by simp[LeL,lk]),⟨by omega,hn⟩,by omega⟩
    ·rw[decide_eq_false e2]at hSk
     clear hnext e1 e2
     refine sxLxn ?_
     repeat' ((first|exact tt|refine CallW_intro (hSk) ?_|refine CallO_pure (hF) ?_|refine na fun b=>?_|refine nb fun b hb=>?_|refine iq ?_|(refine jq ?_ ?_<;>intro h h')|refine Two_intro ?_ ?_|exact wZ|fail)<;>try refine sxLxn ?_)
   ·have f2:a0a (decide (x.h=y.h)=false):=fo
    have hn:=hnext (fun e=>absurd e e1)
    clear hnext e1 hSk
    refine sxLxn ?_
    repeat' ((first|exact tt|refine na fun b=>?_|refine nb fun b hb=>?_|refine iq ?_|(refine jq ?_ ?_<;>intro h h')|refine Two_intro ?_ ?_|exact wZ|fail)<;>try refine sxLxn ?_)
    all_goals exact Round_lit (k+1) ⟨Le_lit (by simp[LeL,lk]),⟨by omega,hn⟩,by omega⟩
  obtain rfl:k=i:=by omega
  have f1:a0a (decide ((k:Int)<k)=false):=fo
  have hq':∀ a b,a<k+1→b<a→(l.getD a default).h=(l.getD b default).h→l.getD a default=l.getD b default:=fun a b ha hb=>by
   by_cases e:a=k
   ·rw[e];exact hp b (by omega)
   ·exact hq a b (by omega) hb
  clear hq hp hS hE h1
  refine sxLxn ?_
  repeat' ((first|exact tt|refine na fun b=>?_|refine nb fun b hb=>?_|refine iq ?_|(refine jq ?_ ?_<;>intro h h')|refine Two_intro ?_ ?_|exact wZ|fail)<;>try refine sxLxn ?_)
  all_goals exact Round_lit (k+1) ⟨Le_lit (by simp[LeL,lk]),⟨by omega,hq'⟩,by omega⟩
 obtain rfl:i=l.length:=by omega
 have f1:a0a (decide ((l.length:Int)<l.length)=false):=fo
 have hcf:cfB l:=by
  have one:∀ a b,a<l.length→b<l.length→(l.getD a default).h=(l.getD b default).h→l.getD a default=l.getD b default:=fun a b ha hb e=>by
   rcases Nat.lt_trichotomy a b with h|h|h
   ·exact (hq b a hb h e.symm).symm
   ·rw[h]
   ·exact hq a b ha h e
  intro x hx y hy e
  obtain ⟨a,ha,rfl⟩:=List.getElem_of_mem hx
  obtain ⟨b,hb,rfl⟩:=List.getElem_of_mem hy
  have:=one a b ha hb
  simp only[List.getD,List.getElem?_eq_getElem ha,List.getElem?_eq_getElem hb,Option.getD_some]at this
  exact this e
 have hR:=a6P none l (by omega) (fun i hi=>⟨by have:=(h1.2 i hi).1;omega,light_sm (h1.2 i hi).2.2,by have:=(h1.2 i hi).2.2.1;omega⟩)
 clear hq hS hE
 obtain ⟨F,hFl,hFm⟩:∃ F:List BlkC,a5L l=F.map (fun b=>a0V (a0Z b))∧∀ b,b∈F↔b∈l∧a1n b=true:=⟨l.filter a1n,rfl,fun b=>by simp⟩
 have hFn:F.length≤20:=by have:=b2x l;rw[hFl,List.length_map]at this;omega
 have hN:=b0Q a0k top (by decide) a4O ⟨by omega,by omega⟩
 have hlt:lightT (a5L l):=⟨by rw[hFl,List.length_map];omega,fun i hi=>by
  rw[hFl]at hi ⊢
  have hi':i<F.length:=by simpa using hi
  have h5:=(hFm F[i]).1 (List.getElem_mem hi')
  have:=(encO h1 h5.1 h5.2).2
  simpa[List.getD,hi']using this⟩
 have hFd:=fun p q h=>b5Q p q h a0k top (a5L l) hlt
 have hfo:=feedO hcf h1 top (F:=F) (fun b hb=>(hFm b).1 hb) F.length (Nat.le_refl _)
 rw[List.take_length, ← hFl]at hfo
 obtain ⟨o1,o2,o3⟩:=hfo
 have hrg:∀ k,k<F.length→(a5L l).getD k []=a0V (a0Z (F.getD k default)):=fun k hk=>by rw[hFl];simp[List.getD,hk]
 have hrl:(a5L l).length=F.length:=by rw[hFl,List.length_map]
 clear hlt hFl
 generalize a5L l=R at *
 generalize (a2b a0k top R).1=L1 at *
 generalize (a2b a0k top R).2=X1 at *
 refine sxLxn ?_
 repeat' ((first|exact tt|refine CallO_pure (hR) ?_|refine na fun b=>?_|refine nb fun b hb=>?_|refine iq ?_|(refine jq ?_ ?_<;>intro h h')|refine Two_intro ?_ ?_|exact wZ|fail)<;>try refine sxLxn ?_)
 refine CallO_exr hN (by simp[lk]) (fun x hx hf=>?_)
 obtain ⟨p,q⟩:=x
 simp only at hx
 clear hf
 simp (disch:=omega) only[hx,List.cons_append,List.nil_append, ↓Ed,Eu, ↓reduceIte,reduceCtorEq,Nat.reduceAdd,Nat.reduceEqDiff,Nat.reduceLT,Nat.reduceLeDiff,Int.reduceToNat,Int.reduceEq,Int.reduceLT,Int.reduceLE,w64,List.length_append,List.length_map,Nat.mul_one,beq_self_eq_true,BlkC.cs,EvC.cs,PktC.cs,EntC.cs,KeyC.cs,a0i,Int.reduceAdd,a0f,a0e,a0h,a0j,a0s,a0r,a2w,a2v]
 repeat' ((first|exact tt|refine na fun b=>?_|refine nb fun b hb=>?_|refine iq ?_|(refine jq ?_ ?_<;>intro h h')|refine Two_intro ?_ ?_|exact wZ|fail)<;>try refine sxLxn ?_)
 refine CallO_exr hN (by simp[lk]) (fun x hy hf=>?_)
 obtain ⟨p',q'⟩:=x
 simp only at hy hf
 have ep:(¬ p'=p∧¬ p=p')∧¬ p'=q∧¬ q=p':=by simpa using all_ne (hf p' [.str a0k,.int .i64 top,.mapv q'] (by simp[lk]) (by simp[lk])) [p,q] (by simp[lk,hx])
 have eq':(¬ q'=p∧¬ p=q')∧¬ q'=q∧¬ q=q':=by simpa using all_ne (hf q' [mpI []] (by simp[lk,hy]) (by simp[lk])) [p,q] (by simp[lk,hx])
 have hFd':=hFd p q hx
 clear hf hN hFd hR
 simp (disch:=omega) only[hx,hy,ep,eq',List.cons_append,List.nil_append, ↓Ed,Eu, ↓reduceIte,reduceCtorEq,Nat.reduceAdd,Nat.reduceEqDiff,Nat.reduceLT,Nat.reduceLeDiff,Int.reduceToNat,Int.reduceEq,Int.reduceLT,Int.reduceLE,w64,List.length_append,List.length_map,Nat.mul_one,beq_self_eq_true,BlkC.cs,EvC.cs,PktC.cs,EntC.cs,KeyC.cs,a0i,Int.reduceAdd,a0f,a0e,a0h,a0j,a0s,a0r,a2w,a2v]
 repeat' ((first|exact tt|refine c2 (hFd') ?_|refine na fun b=>?_|refine nb fun b hb=>?_|refine iq ?_|(refine jq ?_ ?_<;>intro h h')|refine Two_intro ?_ ?_|exact wZ|fail)<;>try refine sxLxn ?_)
 clear hFd' hF f1
 have hst:∀ k,k<F.length→∀ L,InvO l top L→(R.getD k []).length≤1000000∧InvO l top (a2n a0k top L (R.getD k [])).1∧(okO top (F.getD k default)→F.getD k default∈(a2n a0k top L (R.getD k [])).1)∧(∀ x∈L,x∈(a2n a0k top L (R.getD k [])).1)∧(a2n a0k top L (R.getD k [])).1.length≤L.length+1:=fun k hk L hI=>by
  have hb:=(hFm (F.getD k default)).1 (by simp[List.getD,hk])
  rw[hrg k hk]
  exact ⟨(encO h1 hb.1 hb.2).2,stepO hcf h1 hI hb.1 hb.2⟩
 have hsm:∀ L,InvO l top L→∀ b∈L,a7b b.e:=fun L hI b hb=>light_sm (lightO h1 (hI.sub b hb).1)
 have hA:=fun L s h h'=>a4j p' q' hy a0k top L s h h'
 refine wpx_loop (fun x:Nat × List BlkC=>⟨lk [(1,.sl none 1 (ixs picks)),(9,.sl (some 9) 1 (txs R)),(10,.ptr p 0),(12,.ptr p' 0),(14,.int .i64 (x.1:Int))],lk (ixO p q a0k top L1++ixO p' q' a0k top x.2)⟩) (fun x=>x.1≤picks.length∧InvO l top x.2∧x.2.length≤x.1) (fun x=>picks.length - x.1) (0,[]) ⟨by omega,b9W l top,by simp⟩ (Le_lit (by simp[LeL,lk,hx,hy,ep,eq'])) ?_
 rintro ⟨i,L⟩ ⟨i1,i2,i3⟩
 simp only at i1 i2 i3
 by_cases hil:i<picks.length∧0<F.length
 ·obtain ⟨hil,hF0⟩:=hil
  have f1:a0a (decide ((i:Int)<picks.length)=true):=fo
  have f2:a0a (decide ((0:Int)<F.length)=true):=fo
  generalize hv:picks.getD i 0=v at *
  by_cases hv0:0≤v
  ·have f3:a0a (decide (0≤v)=true):=fo
   obtain ⟨k,hk,hkl⟩:∃ k:Nat,v.tmod (F.length:Int)=(k:Int)∧k<F.length:=by
    have h5:=Int.tmod_nonneg (F.length:Int) hv0
    have h6:=Int.tmod_lt_of_pos v (show (0:Int)<F.length by omega)
    exact ⟨(v.tmod F.length).toNat,by omega,by omega⟩
   have hn0:¬ (F.length:Int)=0:=by omega
   obtain ⟨s0,s1,s2,s3,s4⟩:=hst k hkl L i2
   have hAk:=hA L _ s0 (hsm L i2)
   clear hst hA hsm hrg hcf h1 s0 s2 s3 o1 o2
   generalize hS:R.getD k []=S at *
   generalize a2n a0k top L S=Z at *
   simp (disch:=omega) only[hx,hy,ep,eq',hv,hk,hS,hrl,List.cons_append,List.nil_append, ↓Ed,Eu, ↓reduceIte,reduceCtorEq,Nat.reduceAdd,Nat.reduceEqDiff,Nat.reduceLT,Nat.reduceLeDiff,Int.reduceToNat,Int.reduceEq,Int.reduceLT,Int.reduceLE,w64,List.length_append,List.length_map,Nat.mul_one,beq_self_eq_true,BlkC.cs,EvC.cs,PktC.cs,EntC.cs,KeyC.cs,a0i,Int.reduceAdd,a0f,a0e,a0h,a0j,a0s,a0r,a2w,a2v]
   repeat' ((first|exact tt|refine c2 (hAk) ?_|refine na fun b=>?_|refine nb fun b hb=>?_|refine iq ?_|(refine jq ?_ ?_<;>intro h h')|refine Two_intro ?_ ?_|exact wZ|fail)<;>try refine sxLxn ?_)
   all_goals exact Round_lit (i+1,Z.1) ⟨Le_lit (by simp[LeL,lk,hx,hy,ep,eq']),⟨by show i+1≤_;omega,s1,by show Z.1.length≤i+1;omega⟩,by show picks.length - (i+1)<picks.length - i;omega⟩
  ·have f3:a0a (decide (0≤v)=false):=fo
   clear hst hA hsm hrg hcf h1 o1 o2
   simp (disch:=omega) only[hx,hy,ep,eq',hv,hrl,List.cons_append,List.nil_append, ↓Ed,Eu, ↓reduceIte,reduceCtorEq,Nat.reduceAdd,Nat.reduceEqDiff,Nat.reduceLT,Nat.reduceLeDiff,Int.reduceToNat,Int.reduceEq,Int.reduceLT,Int.reduceLE,w64,List.length_append,List.length_map,Nat.mul_one,beq_self_eq_true,BlkC.cs,EvC.cs,PktC.cs,EntC.cs,KeyC.cs,a0i,Int.reduceAdd,a0f,a0e,a0h,a0j,a0s,a0r,a2w,a2v]
   repeat' ((first|exact tt|refine na fun b=>?_|refine nb fun b hb=>?_|refine iq ?_|(refine jq ?_ ?_<;>intro h h')|refine Two_intro ?_ ?_|exact wZ|fail)<;>try refine sxLxn ?_)
   all_goals exact Round_lit (i+1,L) ⟨Le_lit (by simp[LeL,lk,hx,hy,ep,eq']),⟨by show i+1≤_;omega,i2,by show L.length≤i+1;omega⟩,by show picks.length - (i+1)<picks.length - i;omega⟩
 have hexit:a0a (decide ((i:Int)<picks.length)=false)∨(a0a (decide ((i:Int)<picks.length)=true)∧a0a (decide ((0:Int)<F.length)=false)):=by
  by_cases g:i<picks.length
  ·exact .inr ⟨decide_eq_true (by omega),decide_eq_false (by omega)⟩
  ·exact .inl (decide_eq_false (by omega))
 have i4:L.length≤20:=by omega
 clear i1 i3 hil
 refine' cutH (fun hr=>?main) ?hr
 case main=>
  rcases id hexit with f1 | ⟨f1,f2⟩
  all_goals
   simp (disch:=omega) only[hx,hy,ep,eq',hrl,List.cons_append,List.nil_append, ↓Ed,Eu, ↓reduceIte,reduceCtorEq,Nat.reduceAdd,Nat.reduceEqDiff,Nat.reduceLT,Nat.reduceLeDiff,Int.reduceToNat,Int.reduceEq,Int.reduceLT,Int.reduceLE,w64,List.length_append,List.length_map,Nat.mul_one,beq_self_eq_true,BlkC.cs,EvC.cs,PktC.cs,EntC.cs,KeyC.cs,a0i,Int.reduceAdd,a0f,a0e,a0h,a0j,a0s,a0r,a2w,a2v]
   repeat' ((first|exact tt|refine na fun b=>?_|refine nb fun b hb=>?_|refine iq ?_|(refine jq ?_ ?_<;>intro h h')|refine Two_intro ?_ ?_|exact wZ|fail)<;>try refine sxLxn ?_)
  all_goals exact wpx_loop (fun x:Nat × List BlkC=>⟨lk [(9,.sl (some 9) 1 (txs R)),(10,.ptr p 0),(12,.ptr p' 0),(15,.int .i64 ((F.length:Int) - 1 - (x.1:Int)))],lk (ixO p q a0k top L1++ixO p' q' a0k top x.2)⟩) (fun x=>x.1≤F.length∧InvO l top x.2∧x.2.length≤20+x.1∧∀ k,F.length - x.1≤k→k<F.length→okO top (F.getD k default)→F.getD k default∈x.2) (fun x=>F.length - x.1) (0,L) ⟨by omega,i2,by show L.length≤_;omega,fun k h h'=>absurd h (by show ¬ F.length - 0≤k;omega)⟩ (Le_lit (by simp[LeL,lk,hx,hy,ep,eq'])) hr.h
 case hr=>
  clear hexit i2 i4 L i
  rintro ⟨j,L⟩ ⟨i1,i2,i3,i4⟩
  simp only at i1 i2 i3 i4
  by_cases hjl:j<F.length
  ·have f1:a0a (decide ((0:Int)≤(F.length:Int) - 1 - (j:Int))=true):=fo
   obtain ⟨k,hk,hkl⟩:∃ k:Nat,(F.length:Int) - 1 - (j:Int)=(k:Int)∧k<F.length:=⟨F.length - 1 - j,by omega,by omega⟩
   obtain ⟨s0,s1,s2,s3,s4⟩:=hst k hkl L i2
   have hAk:=hA L _ s0 (hsm L i2)
   have i5:∀ z,F.length - (j+1)≤z→z<F.length→okO top (F.getD z default)→F.getD z default∈(a2n a0k top L (R.getD k [])).1:=fun z g1 g2 g3=>by
    by_cases e:z=k
    ·rw[e]at g3 ⊢;exact s2 g3
    ·exact s3 _ (i4 z (by omega) g2 g3)
   clear hst hA hsm hrg hcf h1 s0 s2 s3 o1 o2 i4
   generalize hS:R.getD k []=S at *
   generalize a2n a0k top L S=Z at *
   have hj1:(F.length:Int) - 1 - ((j+1:Nat):Int)=(k:Int) - 1:=by omega
   rw[hk]at f1
   rw[hk]
   simp (disch:=omega) only[hx,hy,ep,eq',hS,hrl,List.cons_append,List.nil_append, ↓Ed,Eu, ↓reduceIte,reduceCtorEq,Nat.reduceAdd,Nat.reduceEqDiff,Nat.reduceLT,Nat.reduceLeDiff,Int.reduceToNat,Int.reduceEq,Int.reduceLT,Int.reduceLE,w64,List.length_append,List.length_map,Nat.mul_one,beq_self_eq_true,BlkC.cs,EvC.cs,PktC.cs,EntC.cs,KeyC.cs,a0i,Int.reduceAdd,a0f,a0e,a0h,a0j,a0s,a0r,a2w,a2v]
   repeat' ((first|exact tt|refine c2 (hAk) ?_|refine na fun b=>?_|refine nb fun b hb=>?_|refine iq ?_|(refine jq ?_ ?_<;>intro h h')|refine Two_intro ?_ ?_|exact wZ|fail)<;>try refine sxLxn ?_)
   all_goals exact Round_lit (j+1,Z.1) ⟨Le_lit (by rw[hj1];simp[LeL,lk,hx,hy,ep,eq']),⟨by show j+1≤_;omega,s1,by show Z.1.length≤20+(j+1);omega,i5⟩,by show F.length - (j+1)<F.length - j;omega⟩
  obtain rfl:j=F.length:=by omega
  have f1:a0a (decide ((0:Int)≤(F.length:Int) - 1 - (F.length:Int))=false):=fo
  have hmem:∀ b∈l,a1n b=true→okO top b→b∈L:=fun b hb hm ho=>by
   obtain ⟨z,hz,e⟩:=List.getElem_of_mem ((hFm b).2 ⟨hb,hm⟩)
   have e':F.getD z default=b:=by rw[← e];simp[List.getD,hz]
   rw[← e']at ho ⊢
   exact i4 z (by omega) hz ho
  obtain ⟨w1,w2⟩:=sameO o1 i2 (fun b hb hm ho=>o2 b ((hFm b).2 ⟨hb,hm⟩) ho) hmem
  have hG1:=goodO h1 o1 (by omega)
  have hG2:=goodO h1 i2 (by omega)
  have hT1:=b0R p q hx a0k top L1 90000 hG1 (by omega)
  have hT2:=b0R p' q' hy a0k top L 90000 hG2 (by omega)
  have hH1:=a1O p q hx a0k top L1 hG1.nd (fun b hb=>(hG1.ok b hb).1) (by omega)
  have hH2:=a1O p' q' hy a0k top L hG2.nd (fun b hb=>(hG2.ok b hb).1) (by omega)
  have hI:=b2g (hsI L1) (by rw[a7R];omega)
  have hgd:Tgood 90000 (a4B (evI L1)):=(a9x _).mono (by rw[b1J];exact hG1.ev)
  rw[← w1]at hH2
  rw[← w2]at hT2
  clear hst hA hsm hrg hcf h1 o1 o2 i4 hmem hG1 hG2 w1 w2 i2
  generalize hsI L1=HS at *
  generalize evI L1=EV at *
  simp (disch:=omega) only[hx,hy,ep,eq',List.cons_append,List.nil_append, ↓Ed,Eu, ↓reduceIte,reduceCtorEq,Nat.reduceAdd,Nat.reduceEqDiff,Nat.reduceLT,Nat.reduceLeDiff,Int.reduceToNat,Int.reduceEq,Int.reduceLT,Int.reduceLE,w64,List.length_append,List.length_map,Nat.mul_one,beq_self_eq_true,BlkC.cs,EvC.cs,PktC.cs,EntC.cs,KeyC.cs,a0i,Int.reduceAdd,a0f,a0e,a0h,a0j,a0s,a0r,a2w,a2v]
  repeat' ((first|exact tt|refine na fun b=>?_|refine nb fun b hb=>?_|refine iq ?_|(refine jq ?_ ?_<;>intro h h')|refine Two_intro ?_ ?_|exact wZ|fail)<;>try refine sxLxn ?_)
  refine CallO_exr hT1 (lk_sub2 (by simp[lk,hx,hy,ep,eq']) (by simp[lk,hx,hy,ep,eq'])) (fun x hx1 hf=>?_)
  obtain ⟨c,m,n⟩:=x
  obtain ⟨hc,hm,hn,hcmn⟩:=hx1
  simp only at hc hm hn hcmn hf
  have ec:(¬ c=p'∧¬ p'=c)∧¬ c=q'∧¬ q'=c:=by simpa using all_ne (hf c [.mapv m,.mapv n] (by simp[lk,hc]) (by simp[lk,hc])) [p',q'] (by simp[lk,hx,hy,ep,eq'])
  have em:(¬ m=p'∧¬ p'=m)∧¬ m=q'∧¬ q'=m:=by simpa using all_ne (hf m [mpK (a4B EV).K] (by simp[lk,hm,hcmn]) (by simp[lk,hm])) [p',q'] (by simp[lk,hx,hy,ep,eq'])
  have en:(¬ n=p'∧¬ p'=n)∧¬ n=q'∧¬ q'=n:=by simpa using all_ne (hf n [mpC (a4B EV).C] (by simp[lk,hn,hcmn]) (by simp[lk,hn])) [p',q'] (by simp[lk,hx,hy,ep,eq'])
  clear hf hT1
  simp (disch:=omega) only[hx,hy,ep,eq',hc,hm,hn,hcmn,ec,em,en,List.cons_append,List.nil_append, ↓Ed,Eu, ↓reduceIte,reduceCtorEq,Nat.reduceAdd,Nat.reduceEqDiff,Nat.reduceLT,Nat.reduceLeDiff,Int.reduceToNat,Int.reduceEq,Int.reduceLT,Int.reduceLE,w64,List.length_append,List.length_map,Nat.mul_one,beq_self_eq_true,BlkC.cs,EvC.cs,PktC.cs,EntC.cs,KeyC.cs,a0i,Int.reduceAdd,a0f,a0e,a0h,a0j,a0s,a0r,a2w,a2v]
  repeat' ((first|exact tt|refine na fun b=>?_|refine nb fun b hb=>?_|refine iq ?_|(refine jq ?_ ?_<;>intro h h')|refine Two_intro ?_ ?_|exact wZ|fail)<;>try refine sxLxn ?_)
  refine CallO_exr hT2 (lk_sub2 (by simp[lk,hx,hy,ep,eq',hc,hm,hn,hcmn,ec,em,en]) (by simp[lk,hx,hy,ep,eq',hc,hm,hn,hcmn,ec,em,en])) (fun x hx2 hf=>?_)
  obtain ⟨c',m',n'⟩:=x
  obtain ⟨hc',hm',hn',hcmn'⟩:=hx2
  simp only at hc' hm' hn' hcmn' hf
  have ec':(¬ c'=p∧¬ p=c')∧(¬ c'=q∧¬ q=c')∧(¬ c'=c∧¬ c=c')∧(¬ c'=m∧¬ m=c')∧¬ c'=n∧¬ n=c':=by simpa using all_ne (hf c' [.mapv m',.mapv n'] (by simp[lk,hc']) (by simp[lk,hc'])) [p,q,c,m,n] (by simp[lk,hx,hy,ep,eq',hc,hm,hn,hcmn,ec,em,en])
  have em':(¬ m'=p∧¬ p=m')∧(¬ m'=q∧¬ q=m')∧(¬ m'=c∧¬ c=m')∧(¬ m'=m∧¬ m=m')∧¬ m'=n∧¬ n=m':=by simpa using all_ne (hf m' [mpK (a4B EV).K] (by simp[lk,hm',hcmn']) (by simp[lk,hm'])) [p,q,c,m,n] (by simp[lk,hx,hy,ep,eq',hc,hm,hn,hcmn,ec,em,en])
  have en':(¬ n'=p∧¬ p=n')∧(¬ n'=q∧¬ q=n')∧(¬ n'=c∧¬ c=n')∧(¬ n'=m∧¬ m=n')∧¬ n'=n∧¬ n=n':=by simpa using all_ne (hf n' [mpC (a4B EV).C] (by simp[lk,hn',hcmn']) (by simp[lk,hn'])) [p,q,c,m,n] (by simp[lk,hx,hy,ep,eq',hc,hm,hn,hcmn,ec,em,en])
  have hK1:=b4B c m n hcmn (a4B EV) hgd.k (by have:=hgd.lk;omega)
  have hK2:=b4B c' m' n' hcmn' (a4B EV) hgd.k (by have:=hgd.lk;omega)
  rw[show (a8f (a4B EV)).map KeyC.cs=kys (a8f (a4B EV)) from rfl]at hK1 hK2
  have hV1:=fun k=>b7D c m n hcmn (a4B EV) k
  have hV2:=fun k=>b7D c' m' n' hcmn' (a4B EV) k
  have hkl:(a8f (a4B EV)).length≤90000:=by
   rw[a8f,(srtL_perm _ _).length_eq,List.length_map]
   exact hgd.lk
  clear hf hT2 hgd f1 hjl i1 i3
  generalize a4B EV=T at *
  generalize a9H EV=BB at *
  generalize hKS:a8f T=KS at *
  simp (disch:=omega) only[hx,hy,ep,eq',hc,hm,hn,hcmn,ec,em,en,hc',hm',hn',hcmn',ec',em',en',List.cons_append,List.nil_append, ↓Ed,Eu, ↓reduceIte,reduceCtorEq,Nat.reduceAdd,Nat.reduceEqDiff,Nat.reduceLT,Nat.reduceLeDiff,Int.reduceToNat,Int.reduceEq,Int.reduceLT,Int.reduceLE,w64,List.length_append,List.length_map,Nat.mul_one,beq_self_eq_true,BlkC.cs,EvC.cs,PktC.cs,EntC.cs,KeyC.cs,a0i,Int.reduceAdd,a0f,a0e,a0h,a0j,a0s,a0r,a2w,a2v]
  repeat' ((first|exact tt|refine c2 (hH1) ?_|refine c2 (hH2) ?_|refine CallO_pure (hI) ?_|refine c3 (hK1) ?_|refine c3 (hK2) ?_|refine na fun b=>?_|refine nb fun b hb=>?_|refine iq ?_|(refine jq ?_ ?_<;>intro h h')|refine Two_intro ?_ ?_|exact wZ|fail)<;>try refine sxLxn ?_)
  clear hH1 hH2 hI hK1 hK2
  refine wpx_loop (fun i:Nat=>⟨lk [(16,.ptr c 0),(18,.ptr c' 0),(20,.sl (some 64) 4 (kys KS)),(21,.sl (some 64) 4 (kys KS)),(22,.int .i64 (i:Int))],lk (b1q c m n T++b1q c' m' n' T)⟩) (fun i=>i≤KS.length) (fun i=>KS.length - i) 0 (by omega) (Le_lit (by simp[LeL,lk,hx,hy,ep,eq',hc,hm,hn,hcmn,ec,em,en,hc',hm',hn',hcmn',ec',em',en'])) ?_
  intro i hi
  by_cases hil:i<KS.length
  ·have f1:a0a (decide ((i:Int)<KS.length)=true):=fo
   have g1:=hV1 (KS.getD i default)
   have g2:=hV2 (KS.getD i default)
   clear hV1 hV2 hKS
   generalize hk:KS.getD i default=k at *
   generalize (a2c T.K k).getD default=x at *
   generalize (a2c T.K k).isSome=bb at *
   simp (disch:=omega) only[hx,hy,ep,eq',hc,hm,hn,hcmn,ec,em,en,hc',hm',hn',hcmn',ec',em',en',hk,List.cons_append,List.nil_append, ↓Ed,Eu, ↓reduceIte,reduceCtorEq,Nat.reduceAdd,Nat.reduceEqDiff,Nat.reduceLT,Nat.reduceLeDiff,Int.reduceToNat,Int.reduceEq,Int.reduceLT,Int.reduceLE,w64,List.length_append,List.length_map,Nat.mul_one,beq_self_eq_true,BlkC.cs,EvC.cs,PktC.cs,EntC.cs,KeyC.cs,a0i,Int.reduceAdd,a0f,a0e,a0h,a0j,a0s,a0r,a2w,a2v]
   repeat' ((first|exact tt|refine c3 (g1) ?_|refine c3 (g2) ?_|refine na fun b=>?_|refine nb fun b hb=>?_|refine iq ?_|(refine jq ?_ ?_<;>intro h h')|refine Two_intro ?_ ?_|exact wZ|fail)<;>try refine sxLxn ?_)
   all_goals exact Round_lit (i+1) ⟨Le_lit (by simp[LeL,lk, *]),by omega,by omega⟩
  obtain rfl:i=KS.length:=by omega
  have f1:a0a (decide ((KS.length:Int)<KS.length)=false):=fo
  refine sxLxn ?_
  repeat' ((first|exact tt|refine na fun b=>?_|refine nb fun b hb=>?_|refine iq ?_|(refine jq ?_ ?_<;>intro h h')|refine Two_intro ?_ ?_|exact wZ|fail)<;>try refine sxLxn ?_)
end
section
set_option linter.all false
end
end Go.Proofs.YtgdhinnepnlihaaGreatDoor
