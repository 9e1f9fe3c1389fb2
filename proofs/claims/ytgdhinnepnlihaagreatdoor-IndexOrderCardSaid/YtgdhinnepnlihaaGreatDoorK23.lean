import Derived.Test.YtgdhinnepnlihaaGreatDoorK22
import Derived.Test.YtgdhinnepnlihaaGreatDoorK20
import Derived.Test.YtgdhinnepnlihaaGreatDoorK21
import Derived.Test.YtgdhinnepnlihaaGreatDoorK19
namespace Go.Proofs.YtgdhinnepnlihaaGreatDoor
set_option linter.all false
set_option maxHeartbeats 9000000
section
open Go.RowKit
set_option maxRecDepth 100000
def b2a(top:Int)(L:List BlkC):List RgP:=a1x (ofN (hsI L)) (max 1 0) (min top mxN)
theorem riseH{c:List UInt8}{top:Int}{n:Nat}{L:List BlkC}(h:IxG c top n L):RiseN (hsI L):=riseN_srt h.nd (hgs_bd fun b hb=>(h.ok b hb).1)
theorem sxIxc{A B:Prop}(h:B)(e:A=B:=by (simp (disch:=omega) only[*, ↓Ed,Eu, ↓reduceIte,reduceCtorEq,Nat.reduceAdd,Nat.reduceEqDiff,Nat.reduceLT,Nat.reduceLeDiff,Int.reduceToNat,Int.reduceEq,Int.reduceLT,Int.reduceLE,w64,List.length_append,List.length_map,Nat.mul_one,beq_self_eq_true,PktC.cs,EvC.cs,BlkC.cs,EntC.cs,KeyC.cs,a0i,Int.reduceAdd,a0f,a0e,a0h,a0j,ixO,a0O,gdE];first|done|rfl)):A:=e▸h
theorem a7F(p m:Nat)(hpm:¬ p=m∧¬ m=p)(c:List UInt8)(top:Int)(L:List BlkC)(n:Nat)(hG:IxG c top n L)(hn:n≤90000):
  CT Tryz.prog 14 [.ptr p 0] (lk (ixO p m c top L)) (fun r o=>r=.sl none 2 (rgs (b2a top L))∧o=lk (ixO p m c top L)):=by
 have hl:=hG.ln
 have hR:=riseH hG
 have hH:=a1O p m hpm c top L hG.nd (fun b hb=>(hG.ok b hb).1) (by omega)
 have hLen:=a7R L
 have hO:=b8Z (hsI L) hR (by omega)
 have hK:=b3z (ofN (hsI L)) 1 top (goodN hR).1 (by have:=(goodN hR).2;omega)
 unfold b2a
 clear hG hR hl hLen
 generalize ofN (hsI L)=X at *
 generalize a1x X (max 1 0) (min top mxN)=Y at *
 generalize ixs (hsI L)=Z at *
 refine a3h _ _ _ (by simp) ?_
 simp only[a1T];refine sxIxc ?_
 repeat' ((first|exact tt|refine c2 (hH) ?_|refine CallO_pure (hO) ?_|refine CallO_pure (hK) ?_|refine na fun b=>?_|refine nb fun b hb=>?_|refine iq ?_|(refine jq ?_ ?_<;>intro h h')|refine Two_intro ?_ ?_|exact wZ|fail)<;>try refine sxIxc ?_)
 all_goals exact ro_mk (by simp[LeL,lk,hpm,a0Q,arR]) (dom2' rfl)
theorem dom_p2{α:Type}{p q:Nat}{a b a' b':α}{r:List (Nat × α)}:∀ k cs,lk [(p,a),(q,b)] k=some cs→∃ cs',lk ((p,a')::(q,b')::r) k=some cs':=by
 intro k cs h
 rw[lk_cons,lk_cons]at h
 rw[lk_cons,lk_cons]
 by_cases h1:k=p
 ·rw[if_pos h1];exact ⟨_,rfl⟩
 rw[if_neg h1]at h ⊢
 by_cases h2:k=q
 ·rw[if_pos h2];exact ⟨_,rfl⟩
 ·rw[if_neg h2]at h;cases h
def Tx(p m:Nat)(x:Nat × Nat × Nat):Prop:=
 ((¬ x.1=p∧¬ p=x.1)∧¬ x.1=m∧¬ m=x.1)∧((¬ x.2.1=p∧¬ p=x.2.1)∧¬ x.2.1=m∧¬ m=x.2.1)∧((¬ x.2.2=p∧¬ p=x.2.2)∧¬ x.2.2=m∧¬ m=x.2.2)∧
  (¬ x.1=x.2.1∧¬ x.2.1=x.1)∧(¬ x.1=x.2.2∧¬ x.2.2=x.1)∧¬ x.2.1=x.2.2∧¬ x.2.2=x.2.1
set_option maxHeartbeats 8000000 in
theorem b0R(p q:Nat)(hpq:¬ p=q∧¬ q=p)(ch:List UInt8)(top:Int)(L:List BlkC)(N:Nat)(hG:IxG ch top N L)(hN:N≤90000):
  CT Tryz.prog 21 [.ptr p 0] (lk (ixO p q ch top L)) (fun r o=>∃ x:Nat × Nat × Nat,Tx p q x∧r=.tup [.ptr x.1 0,.int .i64 (a9H (evI L):Nat)]∧o=lk (ixO p q ch top L++b1q x.1 x.2.1 x.2.2 (a4B (evI L)))):=by
 have hl:=hG.ln
 have hH:=a1O p q hpq ch top L hG.nd (fun b hb=>(hG.ok b hb).1) (by omega)
 have hLen:=a7R L
 have hdl:=b0m L
 have hev:(evI L).length≤90000:=by rw[b1J];have:=hG.ev;omega
 have hD:=b9S L
 have hsm:=hG.sm
 have hall:evT (dI L) L.length 0=evI L:=by rw[← hdl,evT_all];rfl
 refine a3F _ _ _ (by simp) ?_
 simp only[a2r];refine sxIxc ?_
 repeat' ((first|exact tt|refine c2 (hH) ?_|(refine CallO_new3 (b7E) (NewB3_intro (fun c m n hc hm hn hcmn=>?_));simp only[ln_cons2,ln_nil,and_true]at hc hm hn)|refine na fun b=>?_|refine nb fun b hb=>?_|refine iq ?_|(refine jq ?_ ?_<;>intro h h')|refine Two_intro ?_ ?_|exact wZ|fail)<;>try refine sxIxc ?_)
 clear hH hG
 refine wpx_loop (fun i:Nat=>⟨lk [(0,.ptr p 0),(4,.ptr c 0),(5,.int .i64 (a9H (evT (dI L) i 0):Nat)),(12,.sl (some 3) 1 (ixs (hsI L))),(13,.int .i64 (L.length:Int)),(14,.int .i64 (i:Int))],lk (ixO p q ch top L++b1q c m n (a4B (evT (dI L) i 0)))⟩) (fun i=>i≤L.length) (fun i=>L.length - i) 0 (by omega) (Le_lit (by simp[LeL,lk,hpq,hc,hm,hn,hcmn,b8E,b2R,b3S])) ?_
 intro i hi
 by_cases hil:i<L.length
 ·have f1:a0a (decide ((i:Int)<L.length)=true):=fo
  obtain ⟨_,hf0⟩:=hD i hil
  obtain ⟨j0,hj0,hf,hv,_⟩:=lookH_yes hf0
  have hx:=a0e (hsI L) i (by omega)
  have hnx:=evT_i (D:=dI L) (i:=i) (by omega)
  have hEl:=fun j=>b4Q (dI L) i j (by omega)
  have hsi:=hsm ((dI L).getD i default) (findH_some hf0).1
  have hst:=fun j (h:j<((dI L).getD i default).e.length)=>evT_j (D:=dI L) (i:=i) h
  have hT0:evT (dI L) i 0=evT (dI L) i 0:=rfl
  clear hD hsm hf0 hall hT0
  change ∀ j,(evT (dI L) i j).length≤(evI L).length at hEl
  generalize (evI L).length=EL at *
  generalize hb:(dI L).getD i default=b at *
  generalize hh:(hsI L).getD i 0=h0 at *
  simp (disch:=omega) only[hpq,hc,hm,hn,hcmn,hx,hf,hv,List.cons_append,List.nil_append, ↓Ed,Eu, ↓reduceIte,reduceCtorEq,Nat.reduceAdd,Nat.reduceEqDiff,Nat.reduceLT,Nat.reduceLeDiff,Int.reduceToNat,Int.reduceEq,Int.reduceLT,Int.reduceLE,w64,List.length_append,List.length_map,Nat.mul_one,beq_self_eq_true,PktC.cs,EvC.cs,BlkC.cs,EntC.cs,KeyC.cs,a0i,Int.reduceAdd,a0f,a0e,a0h,a0j,ixO,a0O,gdE]
  repeat' ((first|exact tt|refine na fun b=>?_|refine nb fun b hb=>?_|refine iq ?_|(refine jq ?_ ?_<;>intro h h')|refine Two_intro ?_ ?_|exact wZ|fail)<;>try refine sxIxc ?_)
  clear hf hv hx hj0
  refine wpx_loop (fun j:Nat=>⟨lk [(0,.ptr p 0),(4,.ptr c 0),(5,.int .i64 (a9H (evT (dI L) i j):Nat)),(12,.sl (some 3) 1 (ixs (hsI L))),(13,.int .i64 (L.length:Int)),(14,.int .i64 (i:Int)),(24,.sl none 13 (evl b.e)),(25,.int .i64 (b.e.length:Int)),(26,.int .i64 (j:Int))],lk (ixO p q ch top L++b1q c m n (a4B (evT (dI L) i j)))⟩) (fun j=>j≤b.e.length) (fun j=>b.e.length - j) 0 (by omega) (Le_lit (by simp[LeL,lk,hpq,hc,hm,hn,hcmn])) ?_
  intro j hj
  by_cases hjl:j<b.e.length
  ·have f2:a0a (decide ((j:Int)<b.e.length)=true):=fo
   obtain ⟨b1,b2,b3,b4,b5⟩:=hsi.2 j hjl
   have hF:=b7C c m n hcmn (a4B (evT (dI L) i j)) (b.e.getD j default) (a9x _).k b1 b2 b3 b4 b5
   have hs:=hst j hjl
   have hT:a4B (evT (dI L) i (j+1))=(a1f (a4B (evT (dI L) i j)) (b.e.getD j default)).1:=by rw[hs];exact b2E _ _
   have hB:a9H (evT (dI L) i (j+1))=if (a1f (a4B (evT (dI L) i j)) (b.e.getD j default)).2=0 then a9H (evT (dI L) i j) else a9H (evT (dI L) i j)+1:=by rw[hs];exact b1D _ _
   have hle:=b4K (evT (dI L) i j)
   have hel:=hEl j
   have hbl:=hsi.1
   clear b1 b2 b3 b4 b5 hs hst hsi hEl hnx
   generalize he:b.e.getD j default=e at *
   generalize hE1:evT (dI L) i (j+1)=E1 at *
   generalize evT (dI L) i j=E0 at *
   generalize a9H E0=B0 at *
   rw[← hT]at hF
   by_cases hz:(a1f (a4B E0) e).2=0
   ·rw[if_pos hz]at hB
    rw[hz]at hF
    clear hT hz
    simp (disch:=omega) only[hpq,hc,hm,hn,hcmn,he,List.cons_append,List.nil_append, ↓Ed,Eu, ↓reduceIte,reduceCtorEq,Nat.reduceAdd,Nat.reduceEqDiff,Nat.reduceLT,Nat.reduceLeDiff,Int.reduceToNat,Int.reduceEq,Int.reduceLT,Int.reduceLE,w64,List.length_append,List.length_map,Nat.mul_one,beq_self_eq_true,PktC.cs,EvC.cs,BlkC.cs,EntC.cs,KeyC.cs,a0i,Int.reduceAdd,a0f,a0e,a0h,a0j,ixO,a0O,gdE]
    repeat' ((first|exact tt|refine c3 (hF) ?_|refine na fun b=>?_|refine nb fun b hb=>?_|refine iq ?_|(refine jq ?_ ?_<;>intro h h')|refine Two_intro ?_ ?_|exact wZ|fail)<;>try refine sxIxc ?_)
    all_goals exact Round_lit (j+1) ⟨Le_lit (by simp[LeL,lk,hpq,hc,hm,hn,hcmn,hE1,hB]),by omega,by omega⟩
   ·have f3:a0a (decide ((a1f (a4B E0) e).2=0)=false):=by simpa[a0a]using hz
    rw[if_neg hz]at hB
    clear hz
    generalize (a1f (a4B E0) e).2=R at *
    clear hT
    simp (disch:=omega) only[hpq,hc,hm,hn,hcmn,he,List.cons_append,List.nil_append, ↓Ed,Eu, ↓reduceIte,reduceCtorEq,Nat.reduceAdd,Nat.reduceEqDiff,Nat.reduceLT,Nat.reduceLeDiff,Int.reduceToNat,Int.reduceEq,Int.reduceLT,Int.reduceLE,w64,List.length_append,List.length_map,Nat.mul_one,beq_self_eq_true,PktC.cs,EvC.cs,BlkC.cs,EntC.cs,KeyC.cs,a0i,Int.reduceAdd,a0f,a0e,a0h,a0j,ixO,a0O,gdE]
    repeat' ((first|exact tt|refine c3 (hF) ?_|refine na fun b=>?_|refine nb fun b hb=>?_|refine iq ?_|(refine jq ?_ ?_<;>intro h h')|refine Two_intro ?_ ?_|exact wZ|fail)<;>try refine sxIxc ?_)
    all_goals exact Round_lit (j+1) ⟨Le_lit (by simp[LeL,lk,hpq,hc,hm,hn,hcmn,hE1,hB]),by omega,by omega⟩
  ·obtain rfl:j=b.e.length:=by omega
   have f2:a0a (decide ((b.e.length:Int)<b.e.length)=false):=fo
   have hbl:=hsi.1
   clear hst hsi hEl hdl
   simp (disch:=omega) only[hpq,hc,hm,hn,hcmn,List.cons_append,List.nil_append, ↓Ed,Eu, ↓reduceIte,reduceCtorEq,Nat.reduceAdd,Nat.reduceEqDiff,Nat.reduceLT,Nat.reduceLeDiff,Int.reduceToNat,Int.reduceEq,Int.reduceLT,Int.reduceLE,w64,List.length_append,List.length_map,Nat.mul_one,beq_self_eq_true,PktC.cs,EvC.cs,BlkC.cs,EntC.cs,KeyC.cs,a0i,Int.reduceAdd,a0f,a0e,a0h,a0j,ixO,a0O,gdE]
   repeat' ((first|exact tt|refine na fun b=>?_|refine nb fun b hb=>?_|refine iq ?_|(refine jq ?_ ?_<;>intro h h')|refine Two_intro ?_ ?_|exact wZ|fail)<;>try refine sxIxc ?_)
   all_goals exact Round_lit (i+1) ⟨Le_lit (by simp[LeL,lk,hpq,hc,hm,hn,hcmn,hnx]),by omega,by omega⟩
 obtain rfl:i=L.length:=by omega
 have f1:a0a (decide ((L.length:Int)<L.length)=false):=fo
 clear hD hsm hdl
 rw[hall]
 clear hall
 simp (disch:=omega) only[hpq,hc,hm,hn,hcmn,List.cons_append,List.nil_append, ↓Ed,Eu, ↓reduceIte,reduceCtorEq,Nat.reduceAdd,Nat.reduceEqDiff,Nat.reduceLT,Nat.reduceLeDiff,Int.reduceToNat,Int.reduceEq,Int.reduceLT,Int.reduceLE,w64,List.length_append,List.length_map,Nat.mul_one,beq_self_eq_true,PktC.cs,EvC.cs,BlkC.cs,EntC.cs,KeyC.cs,a0i,Int.reduceAdd,a0f,a0e,a0h,a0j,ixO,a0O,gdE]
 repeat' ((first|exact tt|refine na fun b=>?_|refine nb fun b hb=>?_|refine iq ?_|(refine jq ?_ ?_<;>intro h h')|refine Two_intro ?_ ?_|exact wZ|fail)<;>try refine sxIxc ?_)
 all_goals exact ro_exr (c,m,n) (by simp[LeL,lk,hpq,hc,hm,hn,hcmn,r_two,rl_cons,rl_nil,arR,al_int,al_ptr]) ⟨hc,hm,hn,hcmn⟩ dom_p2
end
section
open Go.RowKit
set_option maxRecDepth 100000
end
section
open Go.RowKit
set_option maxRecDepth 100000
theorem fr_ne{o:Nat→Option (List AV)}{b c:Nat}(h:o b=none)(hc:o c≠none):¬ b=c∧¬ c=b:=
 ⟨fun e=>hc (by rw[← e,h]),fun e=>hc (by rw[e,h])⟩
end
section
open Go.RowKit Classical
set_option maxRecDepth 100000
end
section
open Go.RowKit Classical
set_option maxRecDepth 100000
end
section
open Go.RowKit
set_option maxRecDepth 100000
theorem sxLxa{A B:Prop}(h:B)(e:A=B:=by (simp (disch:=omega) only[*, ↓Ed,Eu, ↓reduceIte,reduceCtorEq,Nat.reduceAdd,Nat.reduceEqDiff,Nat.reduceLT,Nat.reduceLeDiff,Int.reduceToNat,Int.reduceEq,Int.reduceLT,Int.reduceLE,w64,List.length_append,List.length_map,Nat.mul_one,beq_self_eq_true,BlkC.cs,a0i,Int.reduceAdd,a0f,a0e,a0h,a0j,a0B,a0A];first|done|rfl)):A:=e▸h
theorem b2g(l:List Int)(hl:l.length≤1000000):CP Tryz.prog 15 [.sl none 1 (ixs l),.sl none 1 (ixs l)] (.bool true):=by
 refine a6I _ _ (by simp) ?_
 simp only[a4c];refine sxLxa ?_
 repeat' ((first|exact tt|refine na fun b=>?_|refine nb fun b hb=>?_|refine iq ?_|(refine jq ?_ ?_<;>intro h h')|refine Two_intro ?_ ?_|exact wZ|fail)<;>try refine sxLxa ?_)
 refine wpx_loop (fun k:Nat=>⟨lk [(0,.sl none 1 (ixs l)),(1,.sl none 1 (ixs l)),(5,.int .i64 (k:Int))],lk []⟩) (fun k=>k≤l.length) (fun k=>l.length - k) 0 (by omega) (Le_lit (by simp[LeL,lk])) ?_
 intro k hk
 by_cases hkl:k<l.length
 ·have f1:a0a (decide ((k:Int)<l.length)=true):=fo
  generalize hx:l.getD k 0=x at *
  refine sxLxa ?_
  repeat' ((first|exact tt|refine na fun b=>?_|refine nb fun b hb=>?_|refine iq ?_|(refine jq ?_ ?_<;>intro h h')|refine Two_intro ?_ ?_|exact wZ|fail)<;>try refine sxLxa ?_)
  all_goals exact Round_lit (k+1) ⟨Le_lit (by simp[LeL,lk]),by omega,by omega⟩
 obtain rfl:k=l.length:=by omega
 have f1:a0a (decide ((l.length:Int)<l.length)=false):=fo
 refine sxLxa ?_
 repeat' ((first|exact tt|refine na fun b=>?_|refine nb fun b hb=>?_|refine iq ?_|(refine jq ?_ ?_<;>intro h h')|refine Two_intro ?_ ?_|exact wZ|fail)<;>try refine sxLxa ?_)
def a0k:List UInt8:=[97,108,112,104,97]
theorem a4O:a2X a0k=true:=by
 refine nameP_t ⟨by simp[a0k],by simp[a0k],fun j hj=>?_⟩
 have hj':j<5:=hj
 match j,hj' with
 | 0,_=>exact .inl (by decide)
 | 1,_=>exact .inl (by decide)
 | 2,_=>exact .inl (by decide)
 | 3,_=>exact .inl (by decide)
 | 4,_=>exact .inl (by decide)
def blkA:BlkC:=⟨a0k,2,0,[]⟩
theorem a5O:a1n blkA=true:=by
 simp[a1n,blkA,a4O,mxH]
theorem add_put{c:List UInt8}{top:Int}{L:List BlkC}{b:BlkC}(hm:a1n b=true)(hl:(a0Z b).length≤2147483647):a2n c top L (a0V (a0Z b))=
  ((if b.c≠c then (L,6) else if top<b.h then (L,1) else match a0I L b.h with
   | none=>(L++[b],0)
   | some b'=>if b'=b then (L,0) else (L,8)):List BlkC × Int):=by
 unfold a2n
 rw[openF_put hl]
 simp only[decB_enc hm]
 simp
 rfl
theorem encB_len{b:BlkC}(hm:a1n b=true):(a0Z b).length≤100+408 * b.e.length:=by
 obtain ⟨_,h1,_,_,_,h2⟩:=mayB_to hm
 have h3:=a7O h2
 have a1:=a0H b.c.length
 have a2:=a0H b.h
 have a3:=a0H b.t
 have a4:=a0H b.e.length
 simp only[a0Z,ptx,List.length_append]
 omega
theorem b6G:b2a 3 [blkA]=[(1,1),(3,3)]:=by
 show a1x (ofN [2]) (max 1 0) (min 3 mxN)=_
 decide
theorem c0y:IxG a0k 3 90000 [blkA]:=by
 have one:∀ b∈[blkA],b=blkA:=fun b hb=>by simpa using hb
 exact ⟨by simp[hgs],fun b hb=>by rw[one b hb];exact ⟨a5O,rfl,by decide⟩,by decide,fun b hb=>by rw[one b hb];exact a3I,by decide⟩
theorem a8y:CP Tryz.prog 9 [] (.bool true):=by
 have hE:=CP_wk (xs:=[.agg [.str a0k,.int .i64 2,.int .i64 0,.nils 139 13]]) (xs':=[.agg blkA.cs]) ⟨wk_agg ⟨Wk.rfl,Wk.rfl,Wk.rfl,b0h _ _,trivial⟩,trivial⟩ (b4r blkA (by decide) a3I (by decide))
 rw[a5O]at hE
 simp only[if_true]at hE
 have hlen:=encB_len a5O
 have hFr:=b2f (a0Z blkA) (by have:blkA.e.length=0:=rfl;omega)
 have hadd:a2n a0k 3 [] (a0V (a0Z blkA))=([blkA],0):=by
  rw[add_put a5O (by have:blkA.e.length=0:=rfl;omega)]
  simp[blkA,a0I]
 have hpl:(a0V (a0Z blkA)).length≤1000000:=by rw[(a1p _).1];have:blkA.e.length=0:=rfl;omega
 have hN:=b0Q a0k 3 (by decide) a4O (by omega)
 have hA:=fun p q h=>a4j p q h a0k 3 [] (a0V (a0Z blkA)) hpl (fun b hb=>by simp at hb)
 rw[hadd]at hA
 have hM:=fun p q h=>a7F p q h a0k 3 [blkA] 90000 c0y (by omega)
 rw[b6G]at hM
 simp only at hA
 clear hlen hadd hpl
 generalize a0V (a0Z blkA)=P at *
 generalize a0Z blkA=E at *
 refine a5g _ _ (by simp) ?_
 simp only[a3i];refine sxLxa ?_
 repeat' ((first|exact tt|refine na fun b=>?_|refine nb fun b hb=>?_|refine iq ?_|(refine jq ?_ ?_<;>intro h h')|refine Two_intro ?_ ?_|exact wZ|fail)<;>try refine sxLxa ?_)
 refine CallO_exr hN (by simp[lk]) (fun x hx hf=>?_)
 obtain ⟨p,q⟩:=x
 simp only at hx
 have hA':=hA p q hx
 have hM':=hM p q hx
 clear hA hM hN hf
 simp only[a0k]at hA' hM' hE
 rw[show rgs [(1,1),(3,3)]=[[.int .i64 1,.int .i64 1],[.int .i64 3,.int .i64 3]] from rfl]at hM'
 simp (disch:=omega) only[hx,a0k, ↓Ed,Eu, ↓reduceIte,reduceCtorEq,Nat.reduceAdd,Nat.reduceEqDiff,Nat.reduceLT,Nat.reduceLeDiff,Int.reduceToNat,Int.reduceEq,Int.reduceLT,Int.reduceLE,w64,List.length_append,List.length_map,Nat.mul_one,beq_self_eq_true,BlkC.cs,a0i,Int.reduceAdd,a0f,a0e,a0h,a0j,a0B,a0A]
 repeat' ((first|exact tt|refine CallO_pure (hE) ?_|refine CallO_pure (hFr) ?_|refine c2 (hA') ?_|refine na fun b=>?_|refine nb fun b hb=>?_|refine iq ?_|(refine jq ?_ ?_<;>intro h h')|refine Two_intro ?_ ?_|exact wZ|fail)<;>try refine sxLxa ?_)
 refine c2 hM' ?_
 have c2:((2:Nat):Int)=2:=rfl
 have g0:([[.int .i64 1,.int .i64 1],[.int .i64 3,.int .i64 3]]:List (List AV)).getD 0 []=[.int .i64 1,.int .i64 1]:=rfl
 have g1:([[.int .i64 1,.int .i64 1],[.int .i64 3,.int .i64 3]]:List (List AV)).getD 1 []=[.int .i64 3,.int .i64 3]:=rfl
 simp (disch:=omega) only[hx,g0,g1,c2, ↓Ed,Eu, ↓reduceIte,reduceCtorEq,Nat.reduceAdd,Nat.reduceEqDiff,Nat.reduceLT,Nat.reduceLeDiff,Int.reduceToNat,Int.reduceEq,Int.reduceLT,Int.reduceLE,w64,List.length_append,List.length_map,Nat.mul_one,beq_self_eq_true,BlkC.cs,a0i,Int.reduceAdd,a0f,a0e,a0h,a0j,a0B,a0A]
 repeat' ((first|exact tt|refine na fun b=>?_|refine nb fun b hb=>?_|refine iq ?_|(refine jq ?_ ?_<;>intro h h')|refine Two_intro ?_ ?_|exact wZ|fail)<;>try refine sxLxa ?_)
end
section
open Go.RowKit
set_option maxRecDepth 100000
def b0P(l:List BlkC)(k:Nat):Nat:=((l.take k).map (·.e.length)).sum
theorem b4A(l:List BlkC):b0P l 0=0:=by simp[b0P]
theorem sumE_s{l:List BlkC}{k:Nat}(h:k<l.length):b0P l (k+1)=b0P l k+(l.getD k default).e.length:=by
 unfold b0P
 have ht:l.take (k+1)=l.take k++[l.getD k default]:=by
  rw[List.take_add_one,List.getElem?_eq_getElem h];simp[List.getD,h]
 rw[ht];simp
def a2W(l:List BlkC):Prop:=l.length≤20∧∀ i,i<l.length→(l.getD i default).c.length≤60∧b0P l (i+1)≤60∧a2x (l.getD i default).e
theorem light_sm{l:List EvC}(h:a2x l):a7b l:=by
 refine ⟨by have:=h.1;omega,fun i hi=>?_⟩
 obtain ⟨⟨h1,h2,h3⟩,h4,h5⟩:=h.2 i hi
 exact ⟨by omega,by omega,by omega,by omega,by omega⟩
theorem sxLxe{A B:Prop}(h:B)(e:A=B:=by (simp (disch:=omega) only[*, ↓Ed,Eu, ↓reduceIte,reduceCtorEq,Nat.reduceAdd,Nat.reduceEqDiff,Nat.reduceLT,Nat.reduceLeDiff,Int.reduceToNat,Int.reduceEq,Int.reduceLT,Int.reduceLE,w64,List.length_append,List.length_map,Nat.mul_one,beq_self_eq_true,BlkC.cs,EvC.cs,PktC.cs,a0i,Int.reduceAdd,a0s,a0r,a0O];first|done|rfl)):A:=e▸h
open Classical in
set_option maxHeartbeats 4000000 in
theorem a9Y(own:Option Nat)(l:List BlkC)(hl:l.length≤maxLen)(hE:∀ i,i<l.length→(l.getD i default).e.length≤maxLen):CP Tryz.prog 10 [.sl own 4 (a8G l)] (.bool (decide (a2W l))):=by
 refine a5f _ _ (by simp) ?_
 by_cases h20:l.length≤20
 rotate_left
 ·rw[decide_eq_false (fun h=>h20 h.1)]
  have f1:a0a (decide ((20:Int)<l.length)=true):=fo
  simp only[a1Z];refine sxLxe ?_
  repeat' ((first|exact tt|refine na fun b=>?_|refine nb fun b hb=>?_|refine iq ?_|(refine jq ?_ ?_<;>intro h h')|refine Two_intro ?_ ?_|exact wZ|fail)<;>try refine sxLxe ?_)
 have f1:a0a (decide ((20:Int)<l.length)=false):=fo
 simp only[a1Z];refine sxLxe ?_
 repeat' ((first|exact tt|refine na fun b=>?_|refine nb fun b hb=>?_|refine iq ?_|(refine jq ?_ ?_<;>intro h h')|refine Two_intro ?_ ?_|exact wZ|fail)<;>try refine sxLxe ?_)
 refine wpx_loop (fun k:Nat=>⟨lk [(0,.sl none 4 (a8G l)),(3,.int .i64 (b0P l k:Nat)),(4,.int .i64 (k:Int))],lk []⟩) (fun k=>k≤l.length∧b0P l k≤60∧∀ i,i<k→(l.getD i default).c.length≤60∧b0P l (i+1)≤60∧a2x (l.getD i default).e) (fun k=>l.length - k) 0 ⟨by omega,by rw[b4A];omega,fun i h=>by omega⟩ (Le_lit (by simp[LeL,lk,b4A])) ?_
 rintro k ⟨k1,k2,k3⟩
 by_cases hkl:k<l.length
 ·have f2:a0a (decide ((k:Int)<l.length)=true):=fo
  have hs:=sumE_s hkl
  have hL:=b2h (.sl none 13 (evl (l.getD k default).e)) (l.getD k default).e rfl (hE k hkl)
  have hel:=hE k hkl
  have hno:(a2W l→False)→(decide (a2W l))=false:=fun h=>decide_eq_false h
  by_cases hc:(l.getD k default).c.length≤60
  rotate_left
  ·rw[hno (fun h=>hc (h.2 k hkl).1)]
   have f3:a0a (decide ((60:Int)<((l.getD k default).c.length:Int))=true):=fo
   clear hs k3 hno hL hc hE
   generalize hx:l.getD k default=x at *
   refine sxLxe ?_
   repeat' ((first|exact tt|refine na fun b=>?_|refine nb fun b hb=>?_|refine iq ?_|(refine jq ?_ ?_<;>intro h h')|refine Two_intro ?_ ?_|exact wZ|fail)<;>try refine sxLxe ?_)
  have f3:a0a (decide ((60:Int)<((l.getD k default).c.length:Int))=false):=fo
  by_cases he:(l.getD k default).e.length≤60
  rotate_left
  ·rw[hno (fun h=>he (h.2 k hkl).2.2.1)]
   rw[decide_eq_false (fun h=>he h.1)]at hL
   clear hs k3 hno hc he hE
   generalize hx:l.getD k default=x at *
   refine sxLxe ?_
   repeat' ((first|exact tt|refine CallO_pure (hL) ?_|refine na fun b=>?_|refine nb fun b hb=>?_|refine iq ?_|(refine jq ?_ ?_<;>intro h h')|refine Two_intro ?_ ?_|exact wZ|fail)<;>try refine sxLxe ?_)
  by_cases hq:b0P l (k+1)≤60
  rotate_left
  ·rw[hno (fun h=>hq (h.2 k hkl).2.1)]
   have f4:a0a (decide ((60:Int)<(b0P l k:Int)+((l.getD k default).e.length:Int))=true):=fo
   clear hs k3 hno hc hq hE hL
   generalize hx:l.getD k default=x at *
   refine sxLxe ?_
   repeat' ((first|exact tt|refine na fun b=>?_|refine nb fun b hb=>?_|refine iq ?_|(refine jq ?_ ?_<;>intro h h')|refine Two_intro ?_ ?_|exact wZ|fail)<;>try refine sxLxe ?_)
  have f4:a0a (decide ((60:Int)<(b0P l k:Int)+((l.getD k default).e.length:Int))=false):=fo
  by_cases hw:a2x (l.getD k default).e
  rotate_left
  ·rw[hno (fun h=>hw (h.2 k hkl).2.2)]
   rw[decide_eq_false hw]at hL
   clear hs k3 hno hc hq hE hw
   generalize hx:l.getD k default=x at *
   refine sxLxe ?_
   repeat' ((first|exact tt|refine CallO_pure (hL) ?_|refine na fun b=>?_|refine nb fun b hb=>?_|refine iq ?_|(refine jq ?_ ?_<;>intro h h')|refine Two_intro ?_ ?_|exact wZ|fail)<;>try refine sxLxe ?_)
  rw[decide_eq_true hw]at hL
  have hk3:∀ i,i<k+1→(l.getD i default).c.length≤60∧b0P l (i+1)≤60∧a2x (l.getD i default).e:=fun i hi=>by
   by_cases e:i=k
   ·rw[e];exact ⟨hc,hq,hw⟩
   ·exact k3 i (by omega)
  clear k3 hno hc hw hE
  generalize hS1:b0P l (k+1)=S1 at *
  generalize hx:l.getD k default=x at *
  refine sxLxe ?_
  repeat' ((first|exact tt|refine CallO_pure (hL) ?_|refine na fun b=>?_|refine nb fun b hb=>?_|refine iq ?_|(refine jq ?_ ?_<;>intro h h')|refine Two_intro ?_ ?_|exact wZ|fail)<;>try refine sxLxe ?_)
  all_goals exact Round_lit (k+1) ⟨Le_lit (by simp[LeL,lk,hS1,hs]),⟨by omega,by omega,hk3⟩,by omega⟩
 obtain rfl:k=l.length:=by omega
 have f2:a0a (decide ((l.length:Int)<l.length)=false):=fo
 rw[decide_eq_true (show a2W l from ⟨h20,k3⟩)]
 clear k3 hE
 refine sxLxe ?_
 repeat' ((first|exact tt|refine na fun b=>?_|refine nb fun b hb=>?_|refine iq ?_|(refine jq ?_ ?_<;>intro h h')|refine Two_intro ?_ ?_|exact wZ|fail)<;>try refine sxLxe ?_)
noncomputable def a5L (l:List BlkC):List (List UInt8):=(l.filter a1n).map fun b=>a0V (a0Z b)
theorem b3D:a5L []=[]:=rfl
theorem b2y(l:List BlkC)(b:BlkC):a5L (l++[b])=if a1n b=true then a5L l++[a0V (a0Z b)] else a5L l:=by
 unfold a5L
 rw[List.filter_append]
 by_cases h:a1n b=true
 ·rw[if_pos h];simp[List.filter_cons,h]
 ·rw[if_neg h];simp[List.filter_cons,h]
theorem b2x(l:List BlkC):(a5L l).length≤l.length:=by
 unfold a5L;rw[List.length_map];exact List.length_filter_le _ _
theorem take_snocB{l:List BlkC}{k:Nat}(h:k<l.length):l.take (k+1)=l.take k++[l.getD k default]:=by
 rw[List.take_add_one,List.getElem?_eq_getElem h];simp[List.getD,h]
def b7x(b:BlkC):Prop:=b.c.length≤1000000∧a7b b.e∧b.e.length≤100000
theorem b3V(l:List (List UInt8))(s:List UInt8):txs (l++[s])=txs l++[[.str s]]:=by simp[txs]
set_option maxHeartbeats 4000000 in
theorem a6P(own:Option Nat)(l:List BlkC)(hl:l.length≤100000)(hS:∀ i,i<l.length→b7x (l.getD i default)):CP Tryz.prog 12 [.sl own 4 (a8G l)] (.sl (some 9) 1 (txs (a5L l))):=by
 have hmx:(1000000:Nat)≤maxLen:=by unfold maxLen;decide
 refine a4p _ _ (by simp) ?_
 simp only[a2H];refine sxLxe ?_
 repeat' ((first|exact tt|refine na fun b=>?_|refine nb fun b hb=>?_|refine iq ?_|(refine jq ?_ ?_<;>intro h h')|refine Two_intro ?_ ?_|exact wZ|fail)<;>try refine sxLxe ?_)
 refine wpx_loop (fun k:Nat=>⟨lk [(0,.sl none 4 (a8G l)),(3,.sl (some 9) 1 (txs (a5L (l.take k)))),(4,.int .i64 (k:Int))],lk []⟩) (fun k=>k≤l.length) (fun k=>l.length - k) 0 (by omega) (Le_lit (by simp[LeL,lk,b3D,txs])) ?_
 intro k hk
 by_cases hkl:k<l.length
 ·have f1:a0a (decide ((k:Int)<l.length)=true):=fo
  obtain ⟨s1,s2,s3⟩:=hS k hkl
  have hE:=b4r (l.getD k default) s1 s2 s3
  have hr:a5L (l.take (k+1))=if a1n (l.getD k default)=true then a5L (l.take k)++[a0V (a0Z (l.getD k default))] else a5L (l.take k):=by rw[take_snocB hkl];exact b2y _ _
  have hle:=b2x (l.take k)
  have hlt:(l.take k).length≤k:=by rw[List.length_take];omega
  have hF:a1n (l.getD k default)=true→CP Tryz.prog 57 [.str (a0Z (l.getD k default))] (.tup [.str (a0V (a0Z (l.getD k default))),.int .i64 0]):=fun h=>b2f _ (by have:=encB_len h;omega)
  have htl:=a0h (a5L (l.take k))
  clear hS s1 s2 s3
  generalize hR1:a5L (l.take (k+1))=R1 at *
  generalize a5L (l.take k)=R0 at *
  generalize hx:l.getD k default=x at *
  by_cases hm:a1n x=true
  ·rw[if_pos hm]at hr
   rw[hm]at hE
   simp only[if_true]at hE
   have hF':=hF hm
   clear hF hm
   refine sxLxe ?_
   repeat' ((first|exact tt|refine CallO_pure (hE) ?_|refine CallO_pure (hF') ?_|refine na fun b=>?_|refine nb fun b hb=>?_|refine iq ?_|(refine jq ?_ ?_<;>intro h h')|refine Two_intro ?_ ?_|exact wZ|fail)<;>try refine sxLxe ?_)
   all_goals exact Round_lit (k+1) ⟨Le_lit (by simp[LeL,lk,hR1,hr,b3V]),by omega,by omega⟩
  ·rw[if_neg hm]at hr
   have hm':a1n x=false:=by simpa using hm
   rw[hm']at hE
   simp only[Bool.false_eq_true,if_false]at hE
   clear hF hm hm'
   refine sxLxe ?_
   repeat' ((first|exact tt|refine CallO_pure (hE) ?_|refine na fun b=>?_|refine nb fun b hb=>?_|refine iq ?_|(refine jq ?_ ?_<;>intro h h')|refine Two_intro ?_ ?_|exact wZ|fail)<;>try refine sxLxe ?_)
   all_goals exact Round_lit (k+1) ⟨Le_lit (by simp[LeL,lk,hR1,hr]),by omega,by omega⟩
 obtain rfl:k=l.length:=by omega
 have f1:a0a (decide ((l.length:Int)<l.length)=false):=fo
 clear hS
 simp (disch:=omega) only[List.take_length, ↓Ed,Eu, ↓reduceIte,reduceCtorEq,Nat.reduceAdd,Nat.reduceEqDiff,Nat.reduceLT,Nat.reduceLeDiff,Int.reduceToNat,Int.reduceEq,Int.reduceLT,Int.reduceLE,w64,List.length_append,List.length_map,Nat.mul_one,beq_self_eq_true,BlkC.cs,EvC.cs,PktC.cs,a0i,Int.reduceAdd,a0s,a0r,a0O]
 repeat' ((first|exact tt|refine na fun b=>?_|refine nb fun b hb=>?_|refine iq ?_|(refine jq ?_ ?_<;>intro h h')|refine Two_intro ?_ ?_|exact wZ|fail)<;>try refine sxLxe ?_)
end
section
open Go.RowKit Classical
set_option maxRecDepth 100000
abbrev atB(b:BlkC)(h:Int):BlkC:=⟨a0k,h,b.t,b.e⟩
theorem b9d(a b:BlkC):a5L [a,b]=if a1n a=true∧a1n b=true then [a0V (a0Z a),a0V (a0Z b)] else if a1n a=true then [a0V (a0Z a)] else if a1n b=true then [a0V (a0Z b)] else []:=by
 unfold a5L
 cases ha:a1n a<;>cases hb:a1n b<;>simp[List.filter_cons,ha,hb]
theorem b6u(b:BlkC):dI [b]=[b]:=by
 have hf:a0I [b] b.h=some b:=by simp[a0I]
 show [a9I [b] b.h]=[b]
 rw[a9I,hf];rfl
theorem ixg1{b:BlkC}{top:Int}(hm:a1n b=true)(hc:b.c=a0k)(ht:b.h≤top)(he:b.e.length≤60)(hs:a7b b.e):IxG a0k top 90000 [b]:=by
 have one:∀ x∈[b],x=b:=fun x hx=>by simpa using hx
 refine ⟨by simp[hgs],fun x hx=>?_, ?_,fun x hx=>?_,by simp⟩
 ·rw[one x hx];exact ⟨hm,hc,ht⟩
 ·rw[b6u];simp;omega
 ·rw[one x hx];exact hs
theorem sxLxf{A B:Prop}(h:B)(e:A=B:=by (simp (disch:=omega) only[*, ↓Ed,Eu, ↓reduceIte,reduceCtorEq,Nat.reduceAdd,Nat.reduceEqDiff,Nat.reduceLT,Nat.reduceLeDiff,Int.reduceToNat,Int.reduceEq,Int.reduceLT,Int.reduceLE,w64,List.length_append,List.length_map,Nat.mul_one,beq_self_eq_true,BlkC.cs,EvC.cs,PktC.cs,a0i,Int.reduceAdd,a0f,a0e,a0h,a0j];first|done|rfl)):A:=e▸h
set_option maxHeartbeats 8000000 in
theorem a9q(A B:BlkC)(top:Int)(ha:A.e.length≤maxLen)(hb:B.e.length≤maxLen):CP Tryz.prog 4 [.agg A.cs,.agg B.cs,.int .i64 top] (.bool true):=by
 have hF:=a8y
 have hL:=a9Y none [A,B] (by simp[maxLen]) (fun i hi=>by
  match i,hi with
  | 0,_=>exact ha
  | 1,_=>exact hb)
 rw[show a8G [A,B]=[A.cs,B.cs] from rfl]at hL
 refine a3p _ _ (by simp) ?_
 by_cases h1:a2W [A,B]
 rotate_left
 ·rw[decide_eq_false h1]at hL
  clear h1
  simp only[a0n];refine sxLxf ?_
  repeat' ((first|exact tt|refine CallO_pure (hF) ?_|refine CallO_pure (hL) ?_|refine na fun b=>?_|refine nb fun b hb=>?_|refine iq ?_|(refine jq ?_ ?_<;>intro h h')|refine Two_intro ?_ ?_|exact wZ|fail)<;>try refine sxLxf ?_)
 rw[decide_eq_true h1]at hL
 by_cases h2:0≤top∧top≤1099511627776
 rotate_left
 ·clear h1
  by_cases h3:top<0
  ·have f1:a0a (decide (top<0)=true):=fo
   clear h2 h3
   simp only[a0n];refine sxLxf ?_
   repeat' ((first|exact tt|refine CallO_pure (hF) ?_|refine CallO_pure (hL) ?_|refine na fun b=>?_|refine nb fun b hb=>?_|refine iq ?_|(refine jq ?_ ?_<;>intro h h')|refine Two_intro ?_ ?_|exact wZ|fail)<;>try refine sxLxf ?_)
  ·have f1:a0a (decide (top<0)=false):=fo
   have f2:a0a (decide (1099511627776<top)=true):=fo
   clear h2 h3
   simp only[a0n];refine sxLxf ?_
   repeat' ((first|exact tt|refine CallO_pure (hF) ?_|refine CallO_pure (hL) ?_|refine na fun b=>?_|refine nb fun b hb=>?_|refine iq ?_|(refine jq ?_ ?_<;>intro h h')|refine Two_intro ?_ ?_|exact wZ|fail)<;>try refine sxLxf ?_)
 have f1:a0a (decide (top<0)=false):=fo
 have f2:a0a (decide (1099511627776<top)=false):=fo
 have sa:a2x A.e:=(h1.2 0 (by simp)).2.2
 have sb:a2x B.e:=(h1.2 1 (by simp)).2.2
 have la:=sa.1
 have lb:=sb.1
 have ea:=light_sm sa
 have eb:=light_sm sb
 clear h1 sa sb
 have hR:=a6P none [atB A A.h,atB B A.h] (by simp) (fun i hi=>by
  match i,hi with
  | 0,_=>exact ⟨by simp[a0k],ea,by show A.e.length≤_;omega⟩
  | 1,_=>exact ⟨by simp[a0k],eb,by show B.e.length≤_;omega⟩)
 rw[show a8G [atB A A.h,atB B A.h]=[(atB A A.h).cs,(atB B A.h).cs] from rfl,b9d]at hR
 have hN:=b0Q a0k top (by decide) a4O h2
 have hlen:=a0h
 by_cases hm:a1n (atB A A.h)=true∧a1n (atB B A.h)=true
 rotate_left
 ·rw[if_neg hm]at hR
  have hr:∃ r:List (List UInt8),(if a1n (atB A A.h)=true then [a0V (a0Z (atB A A.h))] else if a1n (atB B A.h)=true then [a0V (a0Z (atB B A.h))] else [])=r∧¬ (r.length:Int)=2:=by
   refine ⟨_,rfl, ?_⟩
   split
   ·simp
   ·split<;>simp
  obtain ⟨r,hr1,hr2⟩:=hr
  rw[hr1]at hR
  have f3:a0a (decide ((r.length:Int)=2)=false):=by simpa[a0a]using hr2
  clear hr1 hr2 hm ea eb
  simp only[a0n];refine sxLxf ?_
  repeat' ((first|exact tt|refine CallO_pure (hF) ?_|refine CallO_pure (hL) ?_|refine CallO_pure (hR) ?_|refine na fun b=>?_|refine nb fun b hb=>?_|refine iq ?_|(refine jq ?_ ?_<;>intro h h')|refine Two_intro ?_ ?_|exact wZ|fail)<;>try refine sxLxf ?_)
  refine CallO_exr hN (by simp[lk]) (fun x hx hf=>?_)
  obtain ⟨p,q⟩:=x
  simp only at hx hf
  rename_i b0
  have hb':¬ b=b0∧¬ b0=b:=by simpa using hb
  have ep:(¬ p=b0∧¬ b0=p)∧¬ p=b∧¬ b=p:=⟨fr_ne (hf p [.str a0k,.int .i64 top,.mapv q] (by simp[lk]) (by simp[lk])) (by simp[lk,hb']),fr_ne (hf p [.str a0k,.int .i64 top,.mapv q] (by simp[lk]) (by simp[lk])) (by simp[lk,hb'])⟩
  have eq':(¬ q=b0∧¬ b0=q)∧¬ q=b∧¬ b=q:=⟨fr_ne (hf q [mpI []] (by simp[lk,hx]) (by simp[lk])) (by simp[lk,hb']),fr_ne (hf q [mpI []] (by simp[lk,hx]) (by simp[lk])) (by simp[lk,hb'])⟩
  clear hf hN hb
  simp (disch:=omega) only[hx,ep,eq',hb',List.cons_append,List.nil_append, ↓Ed,Eu, ↓reduceIte,reduceCtorEq,Nat.reduceAdd,Nat.reduceEqDiff,Nat.reduceLT,Nat.reduceLeDiff,Int.reduceToNat,Int.reduceEq,Int.reduceLT,Int.reduceLE,w64,List.length_append,List.length_map,Nat.mul_one,beq_self_eq_true,BlkC.cs,EvC.cs,PktC.cs,a0i,Int.reduceAdd,a0f,a0e,a0h,a0j]
  repeat' ((first|exact tt|refine CallO_pure (hF) ?_|refine na fun b=>?_|refine nb fun b hb=>?_|refine iq ?_|(refine jq ?_ ?_<;>intro h h')|refine Two_intro ?_ ?_|exact wZ|fail)<;>try refine sxLxf ?_)
 obtain ⟨ma,mb⟩:=hm
 rw[if_pos ⟨ma,mb⟩]at hR
 have ta:(a0Z (atB A A.h)).length≤2147483647:=by have:=encB_len ma;have:(atB A A.h).e.length=A.e.length:=rfl;omega
 have tb:(a0Z (atB B A.h)).length≤2147483647:=by have:=encB_len mb;have:(atB B A.h).e.length=B.e.length:=rfl;omega
 have pa:(a0V (a0Z (atB A A.h))).length≤1000000:=by rw[(a1p _).1];have:=encB_len ma;have:(atB A A.h).e.length=A.e.length:=rfl;omega
 have pb:(a0V (a0Z (atB B A.h))).length≤1000000:=by rw[(a1p _).1];have:=encB_len mb;have:(atB B A.h).e.length=B.e.length:=rfl;omega
 have a1:=fun L=>add_put (c:=a0k) (top:=top) (L:=L) ma ta
 have b1:=fun L=>add_put (c:=a0k) (top:=top) (L:=L) mb tb
 have hS:=b0a (atB A A.h) (atB B A.h) ea.1 eb.1
 have hT:=b0a (atB A A.h) (atB A A.h) ea.1 ea.1
 rw[decide_eq_true rfl]at hT
 rw[show txs [a0V (a0Z (atB A A.h)),a0V (a0Z (atB B A.h))]=[[.str (a0V (a0Z (atB A A.h)))],[.str (a0V (a0Z (atB B A.h)))]] from rfl]at hR
 have hA0:=fun p q h=>a4j p q h a0k top [] (a0V (a0Z (atB A A.h))) pa (fun b hb=>by simp at hb)
 by_cases ht:top<A.h
 ·have f3:a0a (decide (top<A.h)=true):=fo
  have a2:a2n a0k top [] (a0V (a0Z (atB A A.h)))=([],1):=by rw[a1];simp[ht]
  have b2:a2n a0k top [] (a0V (a0Z (atB B A.h)))=([],1):=by rw[b1];simp[ht]
  have hB0:=fun p q h=>a4j p q h a0k top [] (a0V (a0Z (atB B A.h))) pb (fun b hb=>by simp at hb)
  have hH:=fun p q h=>a1O p q h a0k top [] (by simp[hgs]) (fun b hb=>by simp at hb) (by simp)
  rw[a2]at hA0
  rw[b2]at hB0
  simp only at hA0 hB0
  clear a1 b1 a2 b2 pa pb ta tb ht ma mb hS hT ea eb
  generalize a0V (a0Z (atB A A.h))=P1 at *
  generalize a0V (a0Z (atB B A.h))=P2 at *
  have g0:([[.str P1],[.str P2]]:List (List AV)).getD 0 []=[.str P1]:=rfl
  have g1:([[.str P1],[.str P2]]:List (List AV)).getD 1 []=[.str P2]:=rfl
  have n2:((2:Nat):Int)=2:=rfl
  have n0:((0:Nat):Int)=0:=rfl
  have n1:((1:Nat):Int)=1:=rfl
  simp only[a0n];refine sxLxf ?_
  repeat' ((first|exact tt|refine CallO_pure (hF) ?_|refine CallO_pure (hL) ?_|refine CallO_pure (hR) ?_|refine na fun b=>?_|refine nb fun b hb=>?_|refine iq ?_|(refine jq ?_ ?_<;>intro h h')|refine Two_intro ?_ ?_|exact wZ|fail)<;>try refine sxLxf ?_)
  refine CallO_exr hN (by simp[lk]) (fun x hx hf=>?_)
  obtain ⟨p,q⟩:=x
  simp only at hx hf
  rename_i b0
  have hb':¬ b=b0∧¬ b0=b:=by simpa using hb
  have ep:(¬ p=b0∧¬ b0=p)∧¬ p=b∧¬ b=p:=⟨fr_ne (hf p [.str a0k,.int .i64 top,.mapv q] (by simp[lk]) (by simp[lk])) (by simp[lk,hb']),fr_ne (hf p [.str a0k,.int .i64 top,.mapv q] (by simp[lk]) (by simp[lk])) (by simp[lk,hb'])⟩
  have eq':(¬ q=b0∧¬ b0=q)∧¬ q=b∧¬ b=q:=⟨fr_ne (hf q [mpI []] (by simp[lk,hx]) (by simp[lk])) (by simp[lk,hb']),fr_ne (hf q [mpI []] (by simp[lk,hx]) (by simp[lk])) (by simp[lk,hb'])⟩
  have hA1:=hA0 p q hx
  have hB1:=hB0 p q hx
  have hH1:=hH p q hx
  clear hA0 hB0 hH hN hf
  rw[show ixs (hsI [])=[] from rfl]at hH1
  simp (disch:=omega) only[hx,List.cons_append,List.nil_append, ↓Ed,Eu, ↓reduceIte,reduceCtorEq,Nat.reduceAdd,Nat.reduceEqDiff,Nat.reduceLT,Nat.reduceLeDiff,Int.reduceToNat,Int.reduceEq,Int.reduceLT,Int.reduceLE,w64,List.length_append,List.length_map,Nat.mul_one,beq_self_eq_true,BlkC.cs,EvC.cs,PktC.cs,a0i,Int.reduceAdd,a0f,a0e,a0h,a0j]
  repeat' ((first|exact tt|refine CallO_pure (hF) ?_|refine c2 (hA1) ?_|refine c2 (hB1) ?_|refine c2 (hH1) ?_|refine na fun b=>?_|refine nb fun b hb=>?_|refine iq ?_|(refine jq ?_ ?_<;>intro h h')|refine Two_intro ?_ ?_|exact wZ|fail)<;>try refine sxLxf ?_)
 ·have f3:a0a (decide (top<A.h)=false):=fo
  have hG:=ixg1 (b:=atB A A.h) (top:=top) ma rfl (by show A.h≤top;omega) la ea
  have hf0:a0I [atB A A.h] A.h=some (atB A A.h):=by simp[a0I]
  have a2:a2n a0k top [] (a0V (a0Z (atB A A.h)))=([atB A A.h],0):=by rw[a1];simp[ht,a0I]
  have b2:a2n a0k top [atB A A.h] (a0V (a0Z (atB B A.h)))=([atB A A.h],if atB A A.h=atB B A.h then 0 else 8):=by
   rw[b1,if_neg (by simp),if_neg ht]
   show (match a0I [atB A A.h] A.h with|none=>_|some b'=>_)=_
   rw[hf0]
   simp only
   split<;>rfl
  have hB0:=fun p q h=>a4j p q h a0k top [atB A A.h] (a0V (a0Z (atB B A.h))) pb hG.sm
  have hH:=fun p q h=>a1O p q h a0k top [atB A A.h] hG.nd (fun b hb=>(hG.ok b hb).1) (by simp)
  have hK:=fun p q h=>b3R p q h a0k top [atB A A.h] A.h (fun b hb=>by
   have e:b=atB A A.h:=by simpa using hb
   rw[e];show A.e.length≤_;omega)
  unfold a9I at hK
  rw[hf0]at hK
  rw[a2]at hA0
  rw[b2]at hB0
  simp only[Option.getD_some,Option.isSome_some]at hA0 hB0 hK
  rw[show hsI [atB A A.h]=[A.h] from rfl,show ixs [A.h]=[[.int .i64 A.h]] from rfl]at hH
  clear a1 b1 a2 b2 pa pb ta tb ht ma mb ea eb hG hf0
  generalize a0V (a0Z (atB A A.h))=P1 at *
  generalize a0V (a0Z (atB B A.h))=P2 at *
  have g0:([[.str P1],[.str P2]]:List (List AV)).getD 0 []=[.str P1]:=rfl
  have g1:([[.str P1],[.str P2]]:List (List AV)).getD 1 []=[.str P2]:=rfl
  have n2:((2:Nat):Int)=2:=rfl
  have n0:((0:Nat):Int)=0:=rfl
  have n1:((1:Nat):Int)=1:=rfl
  by_cases hAB:atB A A.h=atB B A.h
  ·rw[if_pos hAB]at hB0
   rw[decide_eq_true hAB]at hS
   clear hAB
   simp only[a0n];refine sxLxf ?_
   repeat' ((first|exact tt|refine CallO_pure (hF) ?_|refine CallO_pure (hL) ?_|refine CallO_pure (hR) ?_|refine na fun b=>?_|refine nb fun b hb=>?_|refine iq ?_|(refine jq ?_ ?_<;>intro h h')|refine Two_intro ?_ ?_|exact wZ|fail)<;>try refine sxLxf ?_)
   refine CallO_exr hN (by simp[lk]) (fun x hx hf=>?_)
   obtain ⟨p,q⟩:=x
   simp only at hx hf
   rename_i b0
   have hb':¬ b=b0∧¬ b0=b:=by simpa using hb
   have ep:(¬ p=b0∧¬ b0=p)∧¬ p=b∧¬ b=p:=⟨fr_ne (hf p [.str a0k,.int .i64 top,.mapv q] (by simp[lk]) (by simp[lk])) (by simp[lk,hb']),fr_ne (hf p [.str a0k,.int .i64 top,.mapv q] (by simp[lk]) (by simp[lk])) (by simp[lk,hb'])⟩
   have eq':(¬ q=b0∧¬ b0=q)∧¬ q=b∧¬ b=q:=⟨fr_ne (hf q [mpI []] (by simp[lk,hx]) (by simp[lk])) (by simp[lk,hb']),fr_ne (hf q [mpI []] (by simp[lk,hx]) (by simp[lk])) (by simp[lk,hb'])⟩
   have hA1:=hA0 p q hx
   have hB1:=hB0 p q hx
   have hH1:=hH p q hx
   have hK1:=hK p q hx
   clear hA0 hB0 hH hN hf hK hb
   simp (disch:=omega) only[hx,ep,eq',hb',List.cons_append,List.nil_append, ↓Ed,Eu, ↓reduceIte,reduceCtorEq,Nat.reduceAdd,Nat.reduceEqDiff,Nat.reduceLT,Nat.reduceLeDiff,Int.reduceToNat,Int.reduceEq,Int.reduceLT,Int.reduceLE,w64,List.length_append,List.length_map,Nat.mul_one,beq_self_eq_true,BlkC.cs,EvC.cs,PktC.cs,a0i,Int.reduceAdd,a0f,a0e,a0h,a0j]
   repeat' ((first|exact tt|refine CallO_pure (hF) ?_|refine c2 (hA1) ?_|refine c2 (hB1) ?_|refine c2 (hH1) ?_|refine c2 (hK1) ?_|refine CallO_pure (hS) ?_|refine CallO_pure (hT) ?_|refine na fun b=>?_|refine nb fun b hb=>?_|refine iq ?_|(refine jq ?_ ?_<;>intro h h')|refine Two_intro ?_ ?_|exact wZ|fail)<;>try refine sxLxf ?_)
  ·rw[if_neg hAB]at hB0
   rw[decide_eq_false hAB]at hS
   clear hAB
   simp only[a0n];refine sxLxf ?_
   repeat' ((first|exact tt|refine CallO_pure (hF) ?_|refine CallO_pure (hL) ?_|refine CallO_pure (hR) ?_|refine na fun b=>?_|refine nb fun b hb=>?_|refine iq ?_|(refine jq ?_ ?_<;>intro h h')|refine Two_intro ?_ ?_|exact wZ|fail)<;>try refine sxLxf ?_)
   refine CallO_exr hN (by simp[lk]) (fun x hx hf=>?_)
   obtain ⟨p,q⟩:=x
   simp only at hx hf
   rename_i b0
   have hb':¬ b=b0∧¬ b0=b:=by simpa using hb
   have ep:(¬ p=b0∧¬ b0=p)∧¬ p=b∧¬ b=p:=⟨fr_ne (hf p [.str a0k,.int .i64 top,.mapv q] (by simp[lk]) (by simp[lk])) (by simp[lk,hb']),fr_ne (hf p [.str a0k,.int .i64 top,.mapv q] (by simp[lk]) (by simp[lk])) (by simp[lk,hb'])⟩
   have eq':(¬ q=b0∧¬ b0=q)∧¬ q=b∧¬ b=q:=⟨fr_ne (hf q [mpI []] (by simp[lk,hx]) (by simp[lk])) (by simp[lk,hb']),fr_ne (hf q [mpI []] (by simp[lk,hx]) (by simp[lk])) (by simp[lk,hb'])⟩
   have hA1:=hA0 p q hx
   have hB1:=hB0 p q hx
   have hH1:=hH p q hx
   have hK1:=hK p q hx
   clear hA0 hB0 hH hN hf hK hb
   simp (disch:=omega) only[hx,ep,eq',hb',List.cons_append,List.nil_append, ↓Ed,Eu, ↓reduceIte,reduceCtorEq,Nat.reduceAdd,Nat.reduceEqDiff,Nat.reduceLT,Nat.reduceLeDiff,Int.reduceToNat,Int.reduceEq,Int.reduceLT,Int.reduceLE,w64,List.length_append,List.length_map,Nat.mul_one,beq_self_eq_true,BlkC.cs,EvC.cs,PktC.cs,a0i,Int.reduceAdd,a0f,a0e,a0h,a0j]
   repeat' ((first|exact tt|refine CallO_pure (hF) ?_|refine c2 (hA1) ?_|refine c2 (hB1) ?_|refine c2 (hH1) ?_|refine c2 (hK1) ?_|refine CallO_pure (hS) ?_|refine CallO_pure (hT) ?_|refine na fun b=>?_|refine nb fun b hb=>?_|refine iq ?_|(refine jq ?_ ?_<;>intro h h')|refine Two_intro ?_ ?_|exact wZ|fail)<;>try refine sxLxf ?_)
end
section
open Go.RowKit
def a9E(f t:Int):List Int:=(List.range (t - f+1).toNat).map fun i:Nat=>f+(i:Int)
theorem a8C(f t:Int):(a9E f t).length=(t - f+1).toNat:=by simp[a9E]
theorem runL_mem{f t x:Int}:x∈a9E f t↔f≤x∧x≤t:=by
 simp only[a9E,List.mem_map,List.mem_range]
 exact ⟨fun ⟨i,h1,h2⟩=>by omega,fun h=>⟨(x - f).toNat,by omega,by omega⟩⟩
theorem runL_snoc{f t:Int}(h:f≤t+1):a9E f (t+1)=a9E f t++[t+1]:=by
 unfold a9E
 rw[show (t+1 - f+1).toNat=(t - f+1).toNat+1 by omega,List.range_succ,List.map_append]
 simp;omega
theorem runL_none{f t:Int}(h:t<f):a9E f t=[]:=by
 unfold a9E
 rw[show (t - f+1).toNat=0 by omega];rfl
def a1e(l:List RgP):List Int:=l.flatMap fun r=>a9E r.1 r.2
def Asr:Int→List RgP→Prop
 | _,[]=>True
 | f,r::l=>f≤r.1∧r.1≤r.2∧Asr (r.2+1) l
def szR(l:List RgP):Int:=(l.map fun r=>r.2 - r.1+1).sum
theorem b1C:∀ {l:List RgP} {f:Int},Asr f l→∀ r∈l,f≤r.1∧r.1≤r.2
 | [],_,_,r,h=>by simp at h
 | x::l,f,⟨a,b,c⟩,r,h=>by
  rcases List.mem_cons.1 h with rfl|h
  ·exact ⟨a,b⟩
  ·have:=b1C c r h;omega
theorem a9G:∀ {l:List RgP} {f:Int} {r:RgP},Asr f l→(∀ x∈l,x.2<r.1)→f≤r.1→r.1≤r.2→Asr f (l++[r])
 | [],_,_,_,_,h1,h2=>⟨h1,h2,trivial⟩
 | x::l,f,r,⟨a,b,c⟩,h,h1,h2=>⟨a,b,a9G c (fun y hy=>h y (List.mem_cons_of_mem _ hy)) (by have:=h x (List.mem_cons_self ..);omega) h2⟩
theorem b1B:∀ {l:List RgP} {f:Int} {b:RgP},Asr f (l++[b])→(∀ x∈l,x.2<b.1)∧Asr f l∧f≤b.1∧b.1≤b.2
 | [],_,_,⟨a,b,_⟩=>⟨by simp,trivial,a,b⟩
 | x::l,f,r,⟨a,b,c⟩=>by
  obtain ⟨h1,h2,h3,h4⟩:=b1B (l:=l) c
  refine ⟨fun y hy=>?_,⟨a,b,h2⟩,by omega,h4⟩
  rcases List.mem_cons.1 hy with rfl|hy
  ·omega
  ·exact h1 y hy
theorem b1p(l:List RgP)(n:Int):(l=[]∧a4A l n=[(n,n)])∨∃ l' b,l=l'++[b]∧a4A l n=if n - b.2<2 then l'++[(b.1,n)] else l'++[b]++[(n,n)]:=by
 rcases List.eq_nil_or_concat l with rfl | ⟨l',b,rfl⟩
 ·exact .inl ⟨rfl,rfl⟩
 ·refine .inr ⟨l',b,by simp, ?_⟩
  simp only[List.concat_eq_append,a4A,List.length_append,List.length_cons,List.length_nil,Nat.add_sub_cancel,List.getD]
  rw[if_neg (by omega),List.getElem?_append_right (Nat.le_refl _)]
  simp
theorem ofN_asr{l:List Int}(hr:l.Pairwise (· < ·)){f t:Int}(hb:∀ x∈l,f≤x∧x≤t):Asr f (ofN l)∧szR (ofN l)=l.length∧(∀ x∈l, ∃ r∈ofN l,r.1≤x∧x≤r.2)∧∀ r∈ofN l,r.2∈l:=by
 have key:∀ k,k≤l.length→Asr f (ofN (l.take k))∧szR (ofN (l.take k))=k∧(∀ x∈l.take k, ∃ r∈ofN (l.take k),r.1≤x∧x≤r.2)∧∀ r∈ofN (l.take k),r.2∈l.take k:=by
  intro k
  induction k with
  | zero=>intro _;simp[ofN,szR,Asr]
  | succ k ih=>
   intro hk
   obtain ⟨h1,h2,h3,h4⟩:=ih (by omega)
   have hn:=hb (l.getD k 0) (by simp[List.getD,show k<l.length by omega])
   have hlt:∀ x∈l.take k,x<l.getD k 0:=fun x hx=>by
    obtain ⟨i,hi,rfl⟩:=List.getElem_of_mem hx
    have hi':i<k∧i<l.length:=by simp at hi;omega
    have:=List.pairwise_iff_getElem.1 hr i k hi'.2 (by omega) hi'.1
    simpa[List.getD,show k<l.length by omega]using this
   rw[take_snocI (by omega),b0B]
   generalize l.getD k 0=n at *
   generalize l.take k=L at *
   rcases b1p (ofN L) n with ⟨e,g⟩ | ⟨l',b,e,g⟩
   ·rw[e]at h2 h3
    rw[g]
    refine ⟨⟨hn.1,Int.le_refl _,trivial⟩,by simp[szR]at h2 ⊢;omega,fun x hx=>?_,fun r hr=>?_⟩
    ·rcases List.mem_append.1 hx with hx|hx
     ·obtain ⟨r,hr,_⟩:=h3 x hx;simp at hr
     ·exact ⟨(n,n),by simp,by simp at hx;omega⟩
    ·simp at hr;subst hr;simp
   ·rw[e]at h1 h2 h3 h4
    rw[g]
    obtain ⟨g1,g2,g3,g4⟩:=b1B h1
    have hbn:=hlt b.2 (h4 b (by simp))
    split
    ·refine ⟨a9G g2 g1 g3 (by show b.1≤n;omega),by simp[szR]at h2 ⊢;omega,fun x hx=>?_,fun r hr=>?_⟩
     ·rcases List.mem_append.1 hx with hx|hx
      ·obtain ⟨r,hr,hx1,hx2⟩:=h3 x hx
       rcases List.mem_append.1 hr with hr|hr
       ·exact ⟨r,by simp[hr],hx1,hx2⟩
       ·obtain rfl:r=b:=by simpa using hr
        exact ⟨(r.1,n),by simp,hx1,by show x≤n;omega⟩
      ·obtain rfl:x=n:=by simpa using hx
       exact ⟨(b.1,x),by simp,by show b.1≤x;omega,Int.le_refl _⟩
     ·rcases List.mem_append.1 hr with hr|hr
      ·exact List.mem_append_left _ (h4 r (by simp[hr]))
      ·obtain rfl:r=(b.1,n):=by simpa using hr
       simp
    ·refine ⟨a9G h1 (fun x hx=>hlt _ (h4 x hx)) hn.1 (Int.le_refl _),by simp[szR]at h2 ⊢;omega,fun x hx=>?_,fun r hr=>?_⟩
     ·rcases List.mem_append.1 hx with hx|hx
      ·obtain ⟨r,hr,hx1⟩:=h3 x hx
       exact ⟨r,List.mem_append_left _ hr,hx1⟩
      ·obtain rfl:x=n:=by simpa using hx
       exact ⟨(x,x),by simp,Int.le_refl _,Int.le_refl _⟩
     ·rcases List.mem_append.1 hr with hr|hr
      ·exact List.mem_append_left _ (h4 r hr)
      ·obtain rfl:r=(n,n):=by simpa using hr
       simp
 have:=key l.length (Nat.le_refl _)
 rwa [List.take_length]at this
theorem b0x:∀ {l:List RgP} {f t x:Int},Asr f l→x∈a1e (a1x l f t)→f≤x∧x≤t∧∀ r∈l, ¬ (r.1≤x∧x≤r.2)
 | [],f,t,x,_,h=>by
  rw[a1x]at h
  split at h
  ·have:x∈a9E f t:=by simpa[a1e]using h
   have:=runL_mem.1 this
   exact ⟨this.1,this.2,by simp⟩
  ·simp[a1e]at h
 | r::l,f,t,x,⟨a,b,c⟩,h=>by
  rw[a1x,a1e,List.flatMap_append,List.mem_append]at h
  rw[show max f (r.2+1)=r.2+1 by omega]at h
  rcases h with h|h
  ·split at h
   ·have:x∈a9E f (min (r.1 - 1) t):=by simpa using h
    have:=runL_mem.1 this
    refine ⟨this.1,by omega,fun y hy=>?_⟩
    rcases List.mem_cons.1 hy with rfl|hy
    ·omega
    ·have:=b1C c y hy;omega
   ·simp at h
  ·have:=b0x c h
   refine ⟨by omega,this.2.1,fun y hy=>?_⟩
   rcases List.mem_cons.1 hy with rfl|hy
   ·omega
   ·exact this.2.2 y hy
theorem b1V:∀ {l:List RgP} {f t:Int},Asr f l→(∀ r∈l,r.2≤t)→f≤t+1→((a1e (a1x l f t)).length:Int)=t - f+1 - szR l
 | [],f,t,_,_,hf=>by
  rw[a1x]
  split
  ·simp[a1e,szR,a8C];omega
  ·simp[a1e,szR];omega
 | r::l,f,t,⟨a,b,c⟩,h,hf=>by
  have hr:=h r (by simp)
  have ih:=b1V (t:=t) c (fun x hx=>h x (by simp[hx])) (by omega)
  rw[a1x,a1e,List.flatMap_append,List.length_append]
  rw[show max f (r.2+1)=r.2+1 by omega]
  have e:((a1e (a1x l (r.2+1) t)).length:Int)=_:=ih
  unfold a1e at e
  have hs:szR (r::l)=(r.2 - r.1+1)+szR l:=by simp[szR]
  rw[hs]
  split
  ·simp[a8C]at e ⊢;omega
  ·simp at e ⊢;omega
theorem lacks_law{n:Nat}{T:List Int}(hr:T.Pairwise (· < ·))(hb:∀ x∈T,1≤x∧x≤n):(a1e (a1x (ofN T) 1 n)).length+T.length=n∧∀ x∈a1e (a1x (ofN T) 1 n),x ∉ T:=by
 obtain ⟨h1,h2,h3,h4⟩:=ofN_asr hr (f:=1) (t:=n) hb
 have h5:=b1V (t:=(n:Int)) h1 (fun r hr=>(hb _ (h4 r hr)).2) (by omega)
 refine ⟨by omega,fun x hx hT=>?_⟩
 obtain ⟨r,hr,hx1⟩:=h3 x hT
 exact (b0x h1 hx).2.2 r hr hx1
theorem openF_cut{b:List UInt8}(h:b.length≤2147483647):a0G ((a0V b).take ((a0V b).length - 1))=([],2):=by
 obtain ⟨h1,h2,h3,h4⟩:=a1p b
 have hl:((a0V b).take ((a0V b).length - 1)).length=7+b.length:=by rw[List.length_take];omega
 have hn:(a3C ((a0V b).take ((a0V b).length - 1))).2.2=2:=by
  unfold a3C
  rw[hl]
  split
  ·rfl
  ·rw[List.take_take,show min 4 ((a0V b).length - 1)=4 by omega,h2,a8i _ h,if_neg (by omega),if_pos (by omega)]
 unfold a0G
 rw[hn];rfl
theorem openF_bad{b:List UInt8}(h:b.length≤2147483647){x:UInt8}(hx:x≠(a0V b).getD 5 0):a0G ((a0V b).take 5++[x]++(a0V b).drop 6)=([],5):=by
 obtain ⟨h1,h2,h3,h4⟩:=a1p b
 have hs:=a8E b
 obtain ⟨q,hq⟩:∃ q,b0e b=q:=⟨_,rfl⟩
 rw[hq]at hs
 obtain ⟨a1,a2,a3,a4,rfl⟩:∃ a1 a2 a3 a4,q=[a1,a2,a3,a4]:=by
  match q,hs with
  | [a1,a2,a3,a4],_=>exact ⟨a1,a2,a3,a4,rfl⟩
 have hp:a0V b=[UInt8.ofNat (b.length / 16777216),UInt8.ofNat (b.length / 65536),UInt8.ofNat (b.length / 256),UInt8.ofNat b.length]++([a1,a2,a3,a4]++b):=by rw[a0V,hq]
 have hx':x≠a2:=by rw[hp]at hx;simpa using hx
 have e:(a0V b).take 5++[x]++(a0V b).drop 6=[UInt8.ofNat (b.length / 16777216),UInt8.ofNat (b.length / 65536),UInt8.ofNat (b.length / 256),UInt8.ofNat b.length]++([a1,x,a3,a4]++b):=by rw[hp];simp
 have hn:(a3C ((a0V b).take 5++[x]++(a0V b).drop 6)).2.2=5:=by
  rw[e]
  unfold a3C
  have t4:([UInt8.ofNat (b.length / 16777216),UInt8.ofNat (b.length / 65536),UInt8.ofNat (b.length / 256),UInt8.ofNat b.length]++([a1,x,a3,a4]++b)).take 4=[UInt8.ofNat (b.length / 16777216),UInt8.ofNat (b.length / 65536),UInt8.ofNat (b.length / 256),UInt8.ofNat b.length]:=by simp
  have tl:([UInt8.ofNat (b.length / 16777216),UInt8.ofNat (b.length / 65536),UInt8.ofNat (b.length / 256),UInt8.ofNat b.length]++([a1,x,a3,a4]++b)).length=8+b.length:=by simp;omega
  rw[t4,tl,a8i _ h,if_neg (by omega),if_neg (by omega),if_neg (by omega),show 8+b.length=b.length+8 by omega,if_neg]
  simp[hq]
  intro h1;exact absurd h1.symm hx'
 unfold a0G
 rw[hn];rfl
end
section
open Go.RowKit Classical
set_option maxRecDepth 100000
def b1c(how:List Int)(i:Nat):Int:=if i<how.length then how.getD i 0 else 0
def okP(l:List BlkC)(how:List Int)(i:Nat):Prop:=a1n (atB (l.getD i default) (i+1))=true∧b1c how i≠1∧b1c how i≠2∧b1c how i≠3
noncomputable def a0z (l:List BlkC) (how:List Int):Nat→List BlkC
 | 0=>[]
 | k+1=>if okP l how k then a0z l how k++[atB (l.getD k default) (k+1)] else a0z l how k
theorem kept_mem{l:List BlkC}{how:List Int}:∀ (k:Nat), ∀ b∈a0z l how k, ∃ i,i<k∧b=atB (l.getD i default) (i+1)∧a1n b=true
 | 0,b,h=>by simp[a0z]at h
 | k+1,b,h=>by
  rw[a0z]at h
  split at h
  ·rename_i ho
   rcases List.mem_append.1 h with h|h
   ·obtain ⟨i,h1,h2⟩:=kept_mem k b h
    exact ⟨i,by omega,h2⟩
   ·obtain rfl:b=_:=by simpa using h
    exact ⟨k,by omega,rfl,ho.1⟩
  ·obtain ⟨i,h1,h2⟩:=kept_mem k b h
   exact ⟨i,by omega,h2⟩
theorem kept_rise{l:List BlkC}{how:List Int}:∀ (k:Nat),(hgs (a0z l how k)).Pairwise (· < ·)∧(a0z l how k).length≤k
 | 0=>by simp[a0z,hgs]
 | k+1=>by
  obtain ⟨h1,h2⟩:=kept_rise (l:=l) (how:=how) k
  rw[a0z]
  split
  ·refine ⟨?_,by simp;omega⟩
   rw[hgs,List.map_append]
   refine List.pairwise_append.2 ⟨h1,by simp,fun a ha b hb=>?_⟩
   obtain ⟨x,hx,rfl⟩:=List.mem_map.1 ha
   obtain ⟨i,hi,e,_⟩:=kept_mem k x hx
   obtain rfl:b=_:=by simpa using hb
   rw[e];show (i:Int)+1<k+1;omega
  ·exact ⟨h1,by omega⟩
theorem kept_bd{l:List BlkC}{how:List Int}{k:Nat}:∀ x∈hgs (a0z l how k),1≤x∧x≤k:=fun x hx=>by
 obtain ⟨b,hb,rfl⟩:=List.mem_map.1 hx
 obtain ⟨i,hi,e,_⟩:=kept_mem k b hb
 rw[e]
 exact ⟨by show (1:Int)≤i+1;omega,by show (i:Int)+1≤k;omega⟩
theorem kept_no{l:List BlkC}{how:List Int}{k:Nat}{b:BlkC}(hb:b.h=k+1):a0I (a0z l how k) b.h=none:=by
 cases hf:a0I (a0z l how k) b.h with
 | none=>rfl
 | some x=>
  obtain ⟨h1,h2⟩:=findH_some hf
  have:=kept_bd x.h (List.mem_map.2 ⟨x,h1,rfl⟩)
  omega
theorem hsI_rise{L:List BlkC}(h:(hgs L).Pairwise (· < ·)):hsI L=hgs L:=by
 have hN:(hgs L).Nodup:=h.imp fun {a b} h=>by omega
 exact rise_unique a3f (srtL_rise a3f hN) (h.imp fun {a b} h=>by simpa[ltI]using h) (srtL_perm _ _)
theorem kept_good{l:List BlkC}(hl:a2W l)(how:List Int)(k:Nat)(hk:k≤l.length):IxG a0k l.length 90000 (a0z l how k):=by
 have hR:=kept_rise (l:=l) (how:=how) k
 have h20:=hl.1
 have hev:∀ b∈a0z l how k,a2x b.e∧a1n b=true∧b.c=a0k∧b.h≤l.length:=fun b hb=>by
  obtain ⟨i,hi,e,hm⟩:=kept_mem k b hb
  refine ⟨by rw[e];exact (hl.2 i (by omega)).2.2,hm,by rw[e],by rw[e];show (i:Int)+1≤_;omega⟩
 have hN:(hgs (a0z l how k)).Nodup:=hR.1.imp fun {a b} h=>by omega
 refine ⟨hN,fun b hb=>(hev b hb).2, ?_,fun b hb=>light_sm (hev b hb).1,by omega⟩
 have key:∀ D:List BlkC,(∀ b∈D,b.e.length≤60)→(D.map (·.e.length)).sum≤60 * D.length:=by
  intro D
  induction D with
  | nil=>simp
  | cons b D ih=>
   intro h
   have h1:=h b (by simp)
   have h2:=ih fun x hx=>h x (by simp[hx])
   simp only[List.map_cons,List.sum_cons,List.length_cons];omega
 have:=key (dI (a0z l how k)) fun b hb=>(hev b ((dI_mem hN).1 hb)).1.1
 rw[b0m]at this
 omega
theorem b5Y(x:UInt8):IntKind.wrap .u8 ((BitVec.ofInt (IntKind.bits .u8) (x.toNat:Int) ^^^ BitVec.ofInt (IntKind.bits .u8) 1).toNat:Int)=((x ^^^ 1).toNat:Int):=by
 have h:=x.toNat_lt
 show ((BitVec.ofInt 8 (x.toNat:Int) ^^^ 1#8).toNat:Int) % 256=_
 rw[BitVec.ofInt_natCast]
 have e:(x ^^^ 1).toNat=(BitVec.ofNat 8 x.toNat ^^^ 1#8).toNat:=by
  rw[UInt8.toNat_xor,BitVec.toNat_xor,BitVec.toNat_ofNat,Nat.mod_eq_of_lt (by omega)];rfl
 rw[e]
 have:=(BitVec.ofNat 8 x.toNat ^^^ 1#8).isLt
 omega
theorem b7R(x:UInt8):x ^^^ 1≠x:=by
 intro e
 have e':(x ^^^ 1).toNat=x.toNat:=by rw[e]
 rw[UInt8.toNat_xor]at e'
 have e2:x.toNat ^^^ 1=x.toNat:=e'
 have:(x.toNat ^^^ 1) ^^^ x.toNat=0:=by rw[e2];exact Nat.xor_self _
 rw[Nat.xor_comm x.toNat,Nat.xor_assoc,Nat.xor_self]at this
 simp at this
theorem add_rec{l:List BlkC}(how:List Int){k:Nat}(hk:k<l.length){B:BlkC}(hB:B=atB (l.getD k default) (k+1))(hm:a1n B=true)(hb:(a0Z B).length≤2147483647):
  a2n a0k l.length (a0z l how k) (a0V (a0Z B))=(a0z l how k++[B],0)∧a2n a0k l.length (a0z l how k++[B]) (a0V (a0Z B))=(a0z l how k++[B],0)∧
  a2n a0k l.length (a0z l how k) ((a0V (a0Z B)).take ((a0V (a0Z B)).length - 1))=(a0z l how k,2)∧
  a2n a0k l.length (a0z l how k) ((a0V (a0Z B)).take 5++[(a0V (a0Z B)).getD 5 0 ^^^ 1]++(a0V (a0Z B)).drop 6)=(a0z l how k,5):=by
 have hh:B.h=k+1:=by rw[hB]
 have hc:B.c=a0k:=by rw[hB]
 have ht:¬ ((l.length:Int)<B.h):=by omega
 have hf:=kept_no (l:=l) (how:=how) (k:=k) hh
 refine ⟨?_, ?_, ?_, ?_⟩
 ·rw[add_put hm hb,if_neg (by simp[hc]),if_neg ht,hf]
 ·have hf2:a0I (a0z l how k++[B]) B.h=some B:=by
   have:a0I (a0z l how k++[B]) B.h=(a0I (a0z l how k) B.h).or (a0I [B] B.h):=by unfold a0I;rw[List.find?_append]
   rw[this,hf];simp[a0I]
  rw[add_put hm hb,if_neg (by simp[hc]),if_neg ht,hf2];simp
 ·unfold a2n;rw[openF_cut hb];rfl
 ·unfold a2n;rw[openF_bad hb (b7R _)];rfl
theorem b1U:∀ {l:List RgP} {f t:Int}, ∀ r∈a1x l f t,f≤r.1∧r.1≤r.2∧r.2≤t
 | [],f,t,r,h=>by
  rw[a1x]at h
  split at h
  ·obtain rfl:r=(f,t):=by simpa using h
   exact ⟨Int.le_refl _,by assumption,Int.le_refl _⟩
  ·simp at h
 | x::l,f,t,r,h=>by
  rw[a1x]at h
  rcases List.mem_append.1 h with h|h
  ·split at h
   ·obtain rfl:r=(f,min (x.1 - 1) t):=by simpa using h
    exact ⟨Int.le_refl _,by show f≤min (x.1 - 1) t;omega,by show min (x.1 - 1) t≤t;omega⟩
   ·simp at h
  ·have:=b1U r h;omega
theorem a8W(a b:List RgP):a1e (a++b)=a1e a++a1e b:=List.flatMap_append
theorem flat_take{M:List RgP}{i:Nat}(h:i<M.length):a1e (M.take (i+1))=a1e (M.take i)++a9E (M.getD i default).1 (M.getD i default).2:=by
 have e:M.getD i default=M[i]:=by simp[List.getD,h]
 rw[e,List.take_add_one,List.getElem?_eq_getElem h,Option.toList_some,a8W]
 simp[a1e]
theorem flat_le{M:List RgP}{i:Nat}(h:i<M.length){x:Int}(hx:x≤(M.getD i default).2):(a1e (M.take i)++a9E (M.getD i default).1 x).length≤(a1e M).length:=by
 have h1:(a1e (M.take (i+1))).length≤(a1e M).length:=by
  have e:a1e M=a1e (M.take (i+1))++a1e (M.drop (i+1)):=by rw[← a8W,List.take_append_drop]
  rw[e,List.length_append];omega
 rw[flat_take h]at h1
 simp only[List.length_append,a8C]at h1 ⊢
 omega
end
end Go.Proofs.YtgdhinnepnlihaaGreatDoor
