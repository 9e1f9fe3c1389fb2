import Derived.Test.YtgdhinnepnlihaaGreatDoorK16
import Derived.Test.YtgdhinnepnlihaaGreatDoorK11
import Derived.Test.YtgdhinnepnlihaaGreatDoorK13
namespace Go.Proofs.YtgdhinnepnlihaaGreatDoor
set_option linter.all false
set_option maxHeartbeats 9000000
section
open Go.RowKit
set_option maxRecDepth 100000
theorem may_range{e:EvC}(h:a1k e=true):1≤e.k∧e.k≤7:=by
 unfold a1k at h;simp only[Bool.and_eq_true,decide_eq_true_eq]at h;exact h.1.1
theorem own_no{e:EvC}(h:a1k e=false):a2y e=([],0,0,false):=by unfold a2y;rw[h];rfl
theorem own_src{e:EvC}(h:a1k e=true)(hk:e.k=1∨e.k=4∨e.k=5):a2y e=(e.p.s,e.p.sc,e.p.q,true):=by unfold a2y;rw[if_pos h,if_pos hk]
theorem own_dst{e:EvC}(h:a1k e=true)(hk:e.k=2∨e.k=3):a2y e=(e.p.d,e.p.dc,e.p.q,true):=by unfold a2y;rw[if_pos h,if_neg (by omega),if_pos hk]
theorem own_close{e:EvC}(h:a1k e=true)(hk:e.k=6):a2y e=(e.e,e.ec,0,true):=by unfold a2y;rw[if_pos h,if_neg (by omega),if_neg (by omega),if_pos hk]
theorem own_up{e:EvC}(h:a1k e=true)(hk:e.k=7):a2y e=([],0,0,false):=by unfold a2y;rw[if_pos h,if_neg (by omega),if_neg (by omega),if_neg (by omega)]
def evl(l:List EvC):List (List AV):=l.map EvC.cs
theorem gdE(l:List EvC)(i:Nat)(h:i<l.length):(evl l).getD i []=(l.getD i default).cs:=by simp[evl,List.getD,h]
theorem a0O(l:List EvC):(evl l).length=l.length:=by simp[evl]
theorem sxEvc{A B:Prop}(h:B)(e:A=B:=by (simp (disch:=omega) only[*, ↓Ed,Eu, ↓reduceIte,reduceCtorEq,Nat.reduceAdd,Nat.reduceEqDiff,Nat.reduceLT,Nat.reduceLeDiff,Int.reduceToNat,Int.reduceEq,Int.reduceLT,Int.reduceLE,w64,List.length_append,List.length_map,Nat.mul_one,beq_self_eq_true,PktC.cs,EvC.cs,a0i,gdE,a0O];first|done|rfl)):A:=e▸h
set_option maxHeartbeats 8000000 in
theorem b6O(e:EvC)(h1:e.p.s.length≤1000000)(h2:e.p.d.length≤1000000)(h3:e.p.x.length≤1000000)(h4:e.e.length≤1000000)(h5:e.a.length≤1000000):CP Tryz.prog 132 [.agg e.cs] (.tup [.agg [.str (a2y e).1,.int .i64 (a2y e).2.1],.int .i64 (a2y e).2.2.1,.bool (a2y e).2.2.2]):=by
 have hM:=b0G e h1 h2 h3 h4 h5
 refine a9e _ _ (by simp) ?_
 by_cases hm:a1k e=true
 rotate_left
 ·have hm':a1k e=false:=by simpa using hm
  rw[own_no hm']
  rw[hm']at hM
  clear hm hm'
  simp only[a0U];refine sxEvc ?_
  repeat' ((first|exact tt|refine CallO_pure (hM) ?_|refine na fun b=>?_|refine nb fun b hb=>?_|refine iq ?_|(refine jq ?_ ?_<;>intro h h')|refine Two_intro ?_ ?_|exact wZ|fail)<;>try refine sxEvc ?_)
 have hr:=may_range hm
 rcases b0v e.k with ⟨k1,k2,k3,k4,k5,k6,k7,k8,k9,k10,k11,k12⟩ | ⟨k1,k2,k3,k4,k5,k6,k7,k8,k9,k10,k11,k12⟩ | ⟨k1,k2,k3,k4,k5,k6,k7,k8,k9,k10,k11,k12⟩ | ⟨k1,k2,k3,k4,k5,k6,k7,k8,k9,k10,k11,k12⟩ | ⟨k1,k2,k3,k4,k5,k6,k7,k8,k9,k10,k11,k12⟩ | ⟨k1,k2,k3,k4,k5,k6,k7,k8,k9,k10,k11,k12⟩ | ⟨k1,k2,k3,k4,k5,k6,k7,k8,k9,k10,k11,k12⟩ | ⟨k1,k2,k3,k4,k5,k6,k7,k8,k9,k10,k11,k12⟩ | ⟨k1,k2,k3,k4,k5,k6,k7,k8,k9,k10,k11,k12⟩
 ·rw[own_src hm (by have:e.k=1:=k12;omega)]
  rw[hm]at hM
  clear hm hr k12
  simp only[a0U];refine sxEvc ?_
  repeat' ((first|exact tt|refine CallO_pure (hM) ?_|refine na fun b=>?_|refine nb fun b hb=>?_|refine iq ?_|(refine jq ?_ ?_<;>intro h h')|refine Two_intro ?_ ?_|exact wZ|fail)<;>try refine sxEvc ?_)
 ·rw[own_dst hm (by have:e.k=2:=k12;omega)]
  rw[hm]at hM
  clear hm hr k12
  simp only[a0U];refine sxEvc ?_
  repeat' ((first|exact tt|refine CallO_pure (hM) ?_|refine na fun b=>?_|refine nb fun b hb=>?_|refine iq ?_|(refine jq ?_ ?_<;>intro h h')|refine Two_intro ?_ ?_|exact wZ|fail)<;>try refine sxEvc ?_)
 ·rw[own_src hm (by have:e.k=4:=k12;omega)]
  rw[hm]at hM
  clear hm hr k12
  simp only[a0U];refine sxEvc ?_
  repeat' ((first|exact tt|refine CallO_pure (hM) ?_|refine na fun b=>?_|refine nb fun b hb=>?_|refine iq ?_|(refine jq ?_ ?_<;>intro h h')|refine Two_intro ?_ ?_|exact wZ|fail)<;>try refine sxEvc ?_)
 ·rw[own_src hm (by have:e.k=5:=k12;omega)]
  rw[hm]at hM
  clear hm hr k12
  simp only[a0U];refine sxEvc ?_
  repeat' ((first|exact tt|refine CallO_pure (hM) ?_|refine na fun b=>?_|refine nb fun b hb=>?_|refine iq ?_|(refine jq ?_ ?_<;>intro h h')|refine Two_intro ?_ ?_|exact wZ|fail)<;>try refine sxEvc ?_)
 ·rw[own_dst hm (by have:e.k=3:=k12;omega)]
  rw[hm]at hM
  clear hm hr k12
  simp only[a0U];refine sxEvc ?_
  repeat' ((first|exact tt|refine CallO_pure (hM) ?_|refine na fun b=>?_|refine nb fun b hb=>?_|refine iq ?_|(refine jq ?_ ?_<;>intro h h')|refine Two_intro ?_ ?_|exact wZ|fail)<;>try refine sxEvc ?_)
 ·rw[own_close hm k12]
  rw[hm]at hM
  clear hm hr k12
  simp only[a0U];refine sxEvc ?_
  repeat' ((first|exact tt|refine CallO_pure (hM) ?_|refine na fun b=>?_|refine nb fun b hb=>?_|refine iq ?_|(refine jq ?_ ?_<;>intro h h')|refine Two_intro ?_ ?_|exact wZ|fail)<;>try refine sxEvc ?_)
 ·rw[own_up hm k12]
  rw[hm]at hM
  clear hm hr k12
  simp only[a0U];refine sxEvc ?_
  repeat' ((first|exact tt|refine CallO_pure (hM) ?_|refine na fun b=>?_|refine nb fun b hb=>?_|refine iq ?_|(refine jq ?_ ?_<;>intro h h')|refine Two_intro ?_ ?_|exact wZ|fail)<;>try refine sxEvc ?_)
 ·have:e.k<1:=k12
  omega
 ·have:7<e.k:=k12
  omega
def a6B(p:PktC):Prop:=p.s.length≤60∧p.d.length≤60∧p.x.length≤600
instance (p:PktC):Decidable (a6B p):=by unfold a6B;infer_instance
theorem b3t(p:PktC):CP Tryz.prog 116 [.agg p.cs] (.bool (decide (a6B p))):=by
 refine a3m _ _ (by simp) ?_
 by_cases h:a6B p
 ·rw[decide_eq_true h]
  obtain ⟨h1,h2,h3⟩:=h
  have f1:a0a (decide ((p.s.length:Int)≤60)=true):=fo
  have f2:a0a (decide ((p.d.length:Int)≤60)=true):=fo
  have f3:a0a (decide ((p.x.length:Int)≤600)=true):=fo
  simp only[a1h];refine sxEvc ?_
  repeat' ((first|exact tt|refine na fun b=>?_|refine nb fun b hb=>?_|refine iq ?_|(refine jq ?_ ?_<;>intro h h')|refine Two_intro ?_ ?_|exact wZ|fail)<;>try refine sxEvc ?_)
  all_goals (simp only[a0a,Hn]at *;omega)
 ·rw[decide_eq_false h]
  have F:a0a (¬ (p.s.length≤60∧p.d.length≤60∧p.x.length≤600)):=h
  clear h
  simp only[a1h];refine sxEvc ?_
  repeat' ((first|exact tt|refine na fun b=>?_|refine nb fun b hb=>?_|refine iq ?_|(refine jq ?_ ?_<;>intro h h')|refine Two_intro ?_ ?_|exact wZ|fail)<;>try refine sxEvc ?_)
  all_goals (simp only[a0a,Hn]at *;omega)
def b0y(e:EvC):Prop:=a6B e.p∧e.a.length≤100∧e.e.length≤60
def a2x(l:List EvC):Prop:=l.length≤60∧∀ i,i<l.length→b0y (l.getD i default)
open Classical in
theorem b2h(g:AV)(l:List EvC)(hg:g.alias=.sl none 13 (evl l))(hl:l.length≤maxLen):CP Tryz.prog 58 [g] (.bool (decide (a2x l))):=by
 have hm:maxLen=9223372036854775807:=rfl
 refine a3l _ _ (by simp) ?_
 by_cases h6:l.length≤60
 rotate_left
 ·have f1:a0a (decide (60<(l.length:Int))=true):=fo
  rw[decide_eq_false (fun h=>h6 h.1)]
  simp only[a1g];refine sxEvc ?_
  repeat' ((first|exact tt|refine na fun b=>?_|refine nb fun b hb=>?_|refine iq ?_|(refine jq ?_ ?_<;>intro h h')|refine Two_intro ?_ ?_|exact wZ|fail)<;>try refine sxEvc ?_)
 have f1:a0a (decide (60<(l.length:Int))=false):=fo
 simp only[a1g];refine sxEvc ?_
 repeat' ((first|exact tt|refine na fun b=>?_|refine nb fun b hb=>?_|refine iq ?_|(refine jq ?_ ?_<;>intro h h')|refine Two_intro ?_ ?_|exact wZ|fail)<;>try refine sxEvc ?_)
 refine wpx_loop (fun k:Nat=>⟨lk [(0,.sl none 13 (evl l)),(3,.int .i64 (k:Int))],lk []⟩) (fun k=>k≤l.length∧a0a (∀ i,i<k→b0y (l.getD i default))) (fun k=>l.length - k) 0 ⟨by omega,fun i hi=>by omega⟩ (Le_lit (by simp[LeL,lk])) ?_
 rintro k ⟨k1,k2⟩
 by_cases hk:k<l.length
 ·have f5:a0a (decide ((k:Int)<l.length)=true):=fo
  have hP:=b3t (l.getD k default).p
  by_cases he:b0y (l.getD k default)
  ·have hN:a0a (∀ i,i<k+1→b0y (l.getD i default)):=fun i hi=>by
    by_cases e:i=k
    ·subst e;exact he
    ·exact k2 i (by omega)
   obtain ⟨e1,e2,e3⟩:=he
   rw[decide_eq_true e1]at hP
   have f6:a0a (decide (100<((l.getD k default).a.length:Int))=false):=fo
   have f7:a0a (decide (60<((l.getD k default).e.length:Int))=false):=fo
   clear k2 e1
   refine sxEvc ?_
   repeat' ((first|exact tt|refine CallO_pure (hP) ?_|refine na fun b=>?_|refine nb fun b hb=>?_|refine iq ?_|(refine jq ?_ ?_<;>intro h h')|refine Two_intro ?_ ?_|exact wZ|fail)<;>try refine sxEvc ?_)
   all_goals exact Round_lit (k+1) ⟨Le_lit (by simp[LeL,lk]),⟨by omega,hN⟩,by omega⟩
  ·rw[decide_eq_false (fun h=>he (h.2 k hk))]
   have F:a0a (¬ (decide (a6B (l.getD k default).p)=true∧(l.getD k default).a.length≤100∧(l.getD k default).e.length≤60)):=fun h=>he ⟨of_decide_eq_true h.1,h.2⟩
   generalize decide (a6B (l.getD k default).p)=B at hP F
   clear k2 he
   cases B
   all_goals (refine sxEvc ?_;try exact tt)
   all_goals repeat' ((first|exact tt|refine CallO_pure (hP) ?_|refine na fun b=>?_|refine nb fun b hb=>?_|refine iq ?_|(refine jq ?_ ?_<;>intro h h')|refine Two_intro ?_ ?_|exact wZ|fail)<;>try refine sxEvc ?_)
   all_goals (exfalso;simp only[a0a,Hn]at *;apply F;exact ⟨trivial,by omega,by omega⟩)
 ·have f5:a0a (decide ((k:Int)<l.length)=false):=fo
  have hT:a2x l:=⟨h6,fun i hi=>k2 i (by omega)⟩
  rw[decide_eq_true hT]
  clear k2
  refine sxEvc ?_
  repeat' ((first|exact tt|refine na fun b=>?_|refine nb fun b hb=>?_|refine iq ?_|(refine jq ?_ ?_<;>intro h h')|refine Two_intro ?_ ?_|exact wZ|fail)<;>try refine sxEvc ?_)
end
section
open Go.RowKit
set_option maxRecDepth 100000
theorem b1u(s:List UInt8)(n bad least most:Int):a2B s n bad least most 1 1=a1Q s least most (n,bad):=by
 have hb:=b2d s n
 simp only[a2B,a4o,a4I,a1Q]
 by_cases h1:bad=0
 ·by_cases h2:(nx s n).2.2=0
  ·by_cases h3:(nx s n).1<least<;>by_cases h4:most<(nx s n).1<;>simp[h1,h2,h3,h4]
  ·have h5:=(hb h2).1
   by_cases h3:(0:Int)<least<;>by_cases h4:most<0<;>simp[h1,h2,h5,h3,h4]
 ·by_cases h3:(0:Int)<least<;>by_cases h4:most<0<;>simp[h1,h3,h4]
theorem a4U(b:Nat)(s:List UInt8)(x:Int × Int)(least most:Int)(hs:s.length≤281474976710656):
  CT Tryz.prog 120 [.ptr b 0,.int .i64 least,.int .i64 most] (lk [(b,rd s x.1 x.2)])
   (fun r o=>r=.int .i64 (a1Q s least most x).1∧o=lk [(b,rd s (a1Q s least most x).2.1 (a1Q s least most x).2.2)]):=by
 have:=b6L b s x.1 x.2 least most (by omega)
 rw[b1u]at this
 exact this
theorem a5k(b:Nat)(s:List UInt8)(x:Int × Int)(most:Int)(hs:s.length≤281474976710656)(hl:0≤most)(hn:inT s x):
  CT Tryz.prog 119 [.ptr b 0,.int .i64 most] (lk [(b,rd s x.1 x.2)])
   (fun r o=>r=.str (a0x s most x).1∧o=lk [(b,rd s (a0x s most x).2.1 (a0x s most x).2.2)]):=b7a b s x.1 x.2 most hs hl hn
theorem sxRde{A B:Prop}(h:B)(e:A=B:=by (simp (disch:=omega) only[*, ↓Ed,Eu, ↓reduceIte,reduceCtorEq,Nat.reduceAdd,Nat.reduceEqDiff,Nat.reduceLT,Nat.reduceLeDiff,Int.reduceToNat,Int.reduceEq,Int.reduceLT,Int.reduceLE,w64,List.length_append,List.length_map,PktC.cs,EvC.cs,Int.reduceAdd];first|done|rfl)):A:=e▸h
theorem b5F(b:Nat)(s:List UInt8)(x:Int × Int)(most:Int)(hs:s.length≤281474976710656)(hm:0≤most):
  CT Tryz.prog 121 [.ptr b 0,.int .i64 most] (lk [(b,rd s x.1 x.2)])
   (fun r o=>r=.int .i64 (a2g s most x).1∧o=lk [(b,rd s (a2g s most x).2.1 (a2g s most x).2.2)]):=by
 have hW:=b0H b s x.1 x.2 0 most 0 4 (by omega)
 have hb:=b2d s x.1
 have hg:=a6C s x.1
 have e:a2B s x.1 x.2 0 most 0 4=a2g s most x:=by
  simp only[a2B,a4o,a4I,a2g]
  by_cases h1:x.2=0
  ·by_cases h2:(nx s x.1).2.2=0
   ·by_cases h4:most<(nx s x.1).1<;>simp[h1,h2,h4,show ¬ (nx s x.1).1<0 by omega]
   ·have h5:=(hb h2).1
    simp[h1,h2,h5,show ¬ most<0 by omega]
  ·simp[h1,show ¬ most<0 by omega]
 rw[e]at hW
 refine a3G _ _ _ (by simp) ?_
 simp only[a2u];refine sxRde ?_
 repeat' ((first|exact tt|refine c1 (hW) ?_|refine na fun b=>?_|refine nb fun b hb=>?_|refine iq ?_|(refine jq ?_ ?_<;>intro h h')|refine Two_intro ?_ ?_|exact wZ|fail)<;>try refine sxRde ?_)
 all_goals exact ro_mk (by simp[LeL,lk,a0Q,arR,rd]) dom1
theorem b9b(b:Nat)(s:List UInt8)(x:Int × Int):CT Tryz.prog 122 [.ptr b 0] (lk [(b,rd s x.1 x.2)]) (fun r o=>r=.int .i64 x.2∧o=lk [(b,rd s x.1 x.2)]):=by
 refine a4x _ _ _ (by simp) ?_
 simp only[a2R];refine sxRde ?_
 repeat' ((first|exact tt|refine na fun b=>?_|refine nb fun b hb=>?_|refine iq ?_|(refine jq ?_ ?_<;>intro h h')|refine Two_intro ?_ ?_|exact wZ|fail)<;>try refine sxRde ?_)
 all_goals exact ro_mk (by simp[LeL,lk,a0Q,arR,rd]) dom1
theorem b4v(b:Nat)(s:List UInt8)(x:Int × Int)(hs:s.length≤281474976710656)(hx:inT s x):
  CT Tryz.prog 279 [.ptr b 0] (lk [(b,rd s x.1 x.2)])
   (fun r o=>r=.agg [.str (a0x s 12 x).1,.int .i64 (a1Q s 0 999 (a0x s 12 x).2).1]∧o=lk [(b,rd s (a1Q s 0 999 (a0x s 12 x).2).2.1 (a1Q s 0 999 (a0x s 12 x).2).2.2)]):=by
 have h1:=a5k b s x 12 hs (by omega) hx
 generalize a0x s 12 x=a at *
 have h2:=a4U b s a.2 0 999 hs
 generalize a1Q s 0 999 a.2=c at *
 refine a7l _ _ _ (by simp) ?_
 simp only[a5s];refine sxRde ?_
 repeat' ((first|exact tt|refine c1 (h1) ?_|refine c1 (h2) ?_|refine na fun b=>?_|refine nb fun b hb=>?_|refine iq ?_|(refine jq ?_ ?_<;>intro h h')|refine Two_intro ?_ ?_|exact wZ|fail)<;>try refine sxRde ?_)
 all_goals exact ro_mk (by simp[LeL,lk,hb,a0Q,arR,view,ldR,rd]) dom1
theorem b5H(b:Nat)(s:List UInt8)(x:Int × Int)(hs:s.length≤281474976710656)(hx:inT s x):
  CT Tryz.prog 230 [.ptr b 0] (lk [(b,rd s x.1 x.2)])
   (fun r o=>r=.agg (a8B s x).1.cs∧o=lk [(b,rd s (a8B s x).2.1 (a8B s x).2.2)]):=by
 have h1:=b4v b s x hs hx
 have i2:=a0W s 0 999 _ (a1l s 12 x hx)
 have h2:=b4v b s _ hs i2
 have i4:=a0W s 0 999 _ (a1l s 12 _ i2)
 have h5:=a4U b s (a1Q s 0 999 (a0x s 12 (a1Q s 0 999 (a0x s 12 x).2).2).2).2 1 mxH hs
 have i5:=a0W s 1 mxH _ i4
 have h6:=a5k b s _ 200 hs (by omega) i5
 unfold a8B
 simp only
 generalize (a0x s 12 x)=a at *
 generalize (a1Q s 0 999 a.2)=c at *
 generalize (a0x s 12 c.2)=d at *
 generalize (a1Q s 0 999 d.2)=e at *
 generalize (a1Q s 1 mxH e.2)=q at *
 generalize (a0x s 200 q.2)=t at *
 have h7:=a4U b s t.2 0 mxH hs
 generalize (a1Q s 0 mxH t.2)=u at *
 have h8:=a4U b s u.2 0 mxH hs
 generalize (a1Q s 0 mxH u.2)=v at *
 clear i2 i4 i5
 simp only[mxH]at h5 h7 h8
 refine a6N _ _ _ (by simp) ?_
 simp only[a4F];refine sxRde ?_
 repeat' ((first|exact tt|refine c1 (h1) ?_|refine c1 (h2) ?_|refine c1 (h5) ?_|refine c1 (h6) ?_|refine c1 (h7) ?_|refine c1 (h8) ?_|refine na fun b=>?_|refine nb fun b hb=>?_|refine iq ?_|(refine jq ?_ ?_<;>intro h h')|refine Two_intro ?_ ?_|exact wZ|fail)<;>try refine sxRde ?_)
 rename_i b2 hb2
 exact ro_mk (by simp[LeL,lk,hb,hb2,a0Q,arR,view,ldR,rd]) dom1
end
section
open Go.RowKit
set_option maxRecDepth 100000
theorem pkz:(default:PktC)=⟨[],0,[],0,0,[],0,0⟩:=rfl
theorem evz:(default:EvC)=⟨0,⟨[],0,[],0,0,[],0,0⟩,[],[],0,0⟩:=rfl
theorem sxRdf{A B:Prop}(h:B)(e:A=B:=by (simp (disch:=omega) only[*, ↓Ed,Eu, ↓reduceIte,reduceCtorEq,Nat.reduceAdd,Nat.reduceEqDiff,Nat.reduceLT,Nat.reduceLeDiff,Int.reduceToNat,Int.reduceEq,Int.reduceLT,Int.reduceLE,w64,List.length_append,List.length_map,PktC.cs,EvC.cs,Int.reduceAdd,pkz,evz];first|done|rfl)):A:=e▸h
theorem b5G(b:Nat)(s:List UInt8)(x:Int × Int)(hs:s.length≤281474976710656)(hx:inT s x):
  CT Tryz.prog 186 [.ptr b 0] (lk [(b,rd s x.1 x.2)])
   (fun r o=>r=.agg (a1z s x).1.cs∧o=lk [(b,rd s (a1z s x).2.1 (a1z s x).2.2)]):=by
 have hk:=a4U b s x 1 7 hs
 have hc:=b1n s 1 7 x
 have ik:=a0W s 1 7 x hx
 unfold a1z
 simp only
 generalize a1Q s 1 7 x=k at *
 have hP:=a8x k.1
 have hR:=b5H b s k.2 hs ik
 have iR:=b5J s k.2 ik
 refine a7k _ _ _ (by simp) ?_
 by_cases h6:k.1=6
 ·rw[if_pos h6]
  rw[decide_eq_false (by omega:¬ (1≤k.1∧k.1≤5))]at hP
  have t1:=a5k b s k.2 12 hs (by omega) ik
  generalize a0x s 12 k.2=a at *
  have t2:=a4U b s a.2 0 999 hs
  generalize a1Q s 0 999 a.2=c at *
  have f3:a0a (decide (k.1=3)=false):=fo
  have f6:a0a (decide (k.1=6)=true):=fo
  clear h6 hc ik iR hR
  simp only[a1E];refine sxRdf ?_
  repeat' ((first|exact tt|refine c1 (hk) ?_|refine CallO_pure (hP) ?_|refine c1 (t1) ?_|refine c1 (t2) ?_|refine na fun b=>?_|refine nb fun b hb=>?_|refine iq ?_|(refine jq ?_ ?_<;>intro h h')|refine Two_intro ?_ ?_|exact wZ|fail)<;>try refine sxRdf ?_)
  rename_i b2 hb2
  exact ro_mk (by simp[LeL,lk,hb,hb2,a0Q,arR,view,ldR,rd,pkz]) dom1
 rw[if_neg h6]
 have f6:a0a (decide (k.1=6)=false):=fo
 by_cases h7:k.1=7
 ·rw[if_pos h7]
  rw[decide_eq_false (by omega:¬ (1≤k.1∧k.1≤5))]at hP
  have t2:=a4U b s k.2 1 mxH hs
  generalize a1Q s 1 mxH k.2=c at *
  have f3:a0a (decide (k.1=3)=false):=fo
  have f7:a0a (decide (k.1=7)=true):=fo
  simp only[mxH]at t2
  clear h6 h7 hc ik iR hR
  simp only[a1E];refine sxRdf ?_
  repeat' ((first|exact tt|refine c1 (hk) ?_|refine CallO_pure (hP) ?_|refine c1 (t2) ?_|refine na fun b=>?_|refine nb fun b hb=>?_|refine iq ?_|(refine jq ?_ ?_<;>intro h h')|refine Two_intro ?_ ?_|exact wZ|fail)<;>try refine sxRdf ?_)
  rename_i b2 hb2
  exact ro_mk (by simp[LeL,lk,hb,hb2,a0Q,arR,view,ldR,rd,pkz]) dom1
 rw[if_neg h7]
 have f7:a0a (decide (k.1=7)=false):=fo
 by_cases h3:k.1=3
 ·rw[if_pos h3]
  rw[decide_eq_true (by omega:(1≤k.1∧k.1≤5))]at hP
  have t2:=a5k b s _ 32 hs (by omega) iR
  generalize a8B s k.2=p at *
  generalize a0x s 32 p.2=c at *
  have f3:a0a (decide (k.1=3)=true):=fo
  clear h6 h7 h3 hc ik iR
  simp only[a1E];refine sxRdf ?_
  repeat' ((first|exact tt|refine c1 (hk) ?_|refine CallO_pure (hP) ?_|refine c1 (hR) ?_|refine c1 (t2) ?_|refine na fun b=>?_|refine nb fun b hb=>?_|refine iq ?_|(refine jq ?_ ?_<;>intro h h')|refine Two_intro ?_ ?_|exact wZ|fail)<;>try refine sxRdf ?_)
  rename_i b2 hb2
  exact ro_mk (by simp[LeL,lk,hb,hb2,a0Q,arR,view,ldR,rd,pkz]) dom1
 rw[if_neg h3]
 have f3:a0a (decide (k.1=3)=false):=fo
 by_cases h5:1≤k.1∧k.1≤5
 ·rw[decide_eq_true h5]at hP
  generalize a8B s k.2=p at *
  clear h6 h7 h3 hc ik iR h5
  simp only[a1E];refine sxRdf ?_
  repeat' ((first|exact tt|refine c1 (hk) ?_|refine CallO_pure (hP) ?_|refine c1 (hR) ?_|refine na fun b=>?_|refine nb fun b hb=>?_|refine iq ?_|(refine jq ?_ ?_<;>intro h h')|refine Two_intro ?_ ?_|exact wZ|fail)<;>try refine sxRdf ?_)
  rename_i b2 hb2
  exact ro_mk (by simp[LeL,lk,hb,hb2,a0Q,arR,view,ldR,rd,pkz]) dom1
 ·rw[decide_eq_false h5]at hP
  have he:k.2.2≠0:=by
   rcases hc with ⟨_,h⟩ | ⟨h1,h2,_⟩
   ·exact h
   ·omega
  rw[b0L s k.2 he]
  clear h6 h7 h3 hc ik iR h5 he hR
  simp only[a1E];refine sxRdf ?_
  repeat' ((first|exact tt|refine c1 (hk) ?_|refine CallO_pure (hP) ?_|refine na fun b=>?_|refine nb fun b hb=>?_|refine iq ?_|(refine jq ?_ ?_<;>intro h h')|refine Two_intro ?_ ?_|exact wZ|fail)<;>try refine sxRdf ?_)
  rename_i b2 hb2
  exact ro_mk (by simp[LeL,lk,hb,hb2,a0Q,arR,view,ldR,rd,pkz]) dom1
theorem b4w(b:Nat)(s:List UInt8)(x:Int × Int):CT Tryz.prog 124 [.ptr b 0] (lk [(b,rd s x.1 x.2)]) (fun r o=>r=.int .i64 (rend s x)∧o=lk [(b,rd s x.1 x.2)]):=b8W b s x.1 x.2
theorem b7c(s:List UInt8)(hs:s.length≤1000000):CP Tryz.prog 123 [.str s] (.tup [.agg (a6V s).1.cs,.int .i64 (a6V s).2]):=by
 have hN:=b4s s 0 (by omega)
 refine a6F _ _ (by simp) ?_
 by_cases h0:(nx s 0).2.2=0
 rotate_left
 ·rw[b2X s h0]
  have f1:a0a (decide ((nx s 0).2.2=0)=false):=by simp only[a0a,Hn];exact h0
  clear h0
  generalize nx s 0=n at *
  simp only[a1w];refine sxRdf ?_
  repeat' ((first|exact tt|refine CallO_pure (hN) ?_|refine na fun b=>?_|refine nb fun b hb=>?_|refine iq ?_|(refine jq ?_ ?_<;>intro h h')|refine Two_intro ?_ ?_|exact wZ|fail)<;>try refine sxRdf ?_)
  all_goals trace_state
 rw[h0]at hN
 clear h0
 have hR:=fun b=>b5G b s (0,0) (by omega) ⟨by simp,by simp⟩
 have hl:=a7B s (0,0)
 have hE:=fun b=>b4w b s (a1z s (0,0)).2
 have hM:=b0G (a1z s (0,0)).1 (by omega) (by omega) (by omega) (by omega) (by omega)
 unfold a6V
 generalize a1z s (0,0)=v at *
 generalize rend s v.2=e at *
 clear hl
 generalize nx s 0=n at *
 by_cases he:e=0
 rotate_left
 ·rw[if_pos he]
  have f1:a0a (decide (e=0)=false):=by simp only[a0a,Hn];exact he
  clear he hM
  simp only[a1w];refine sxRdf ?_
  repeat' ((first|exact tt|refine CallO_pure (hN) ?_|refine CallO_new (b8e s) ?_|refine c1 (hR _) ?_|refine c1 (hE _) ?_|refine na fun b=>?_|refine nb fun b hb=>?_|refine iq ?_|(refine jq ?_ ?_<;>intro h h')|refine Two_intro ?_ ?_|exact wZ|fail)<;>try refine sxRdf ?_)
  all_goals trace_state
 rw[if_neg (by simp[he])]
 rw[he]at hE
 clear he
 cases hm:a1k v.1
 ·rw[if_pos rfl]
  rw[hm]at hM
  clear hm
  simp only[a1w];refine sxRdf ?_
  repeat' ((first|exact tt|refine CallO_pure (hN) ?_|refine CallO_new (b8e s) ?_|refine c1 (hR _) ?_|refine c1 (hE _) ?_|refine CallO_pure (hM) ?_|refine na fun b=>?_|refine nb fun b hb=>?_|refine iq ?_|(refine jq ?_ ?_<;>intro h h')|refine Two_intro ?_ ?_|exact wZ|fail)<;>try refine sxRdf ?_)
  all_goals trace_state
 ·rw[if_neg (by simp)]
  rw[hm]at hM
  clear hm
  simp only[a1w];refine sxRdf ?_
  repeat' ((first|exact tt|refine CallO_pure (hN) ?_|refine CallO_new (b8e s) ?_|refine c1 (hR _) ?_|refine c1 (hE _) ?_|refine CallO_pure (hM) ?_|refine na fun b=>?_|refine nb fun b hb=>?_|refine iq ?_|(refine jq ?_ ?_<;>intro h h')|refine Two_intro ?_ ?_|exact wZ|fail)<;>try refine sxRdf ?_)
  all_goals trace_state
end
section
open Go.RowKit
set_option maxRecDepth 100000
end
section
open Go.RowKit
set_option maxRecDepth 100000
structure BlkC where
 c:List UInt8
 h:Int
 t:Int
 e:List EvC
 deriving DecidableEq,Inhabited
abbrev BlkC.cs(b:BlkC):List AV:=[.str b.c,.int .i64 b.h,.int .i64 b.t,.sl none 13 (evl b.e)]
def evS(e:EvC):Prop:=e.p.s.length≤1000000∧e.p.d.length≤1000000∧e.p.x.length≤1000000∧e.e.length≤1000000∧e.a.length≤1000000
def a7b(l:List EvC):Prop:=l.length≤2000000000∧∀ i,i<l.length→evS (l.getD i default)
noncomputable def a1n (b:BlkC):Bool:=a2X b.c&&decide (1≤b.h∧b.h≤mxH)&&decide (0≤b.t∧b.t≤mxH)&&(decide (b.e.length≤1073741824)&&b.e.all a1k)
theorem all_take{l:List EvC}{f:EvC→Bool}{k:Nat}(h:k<l.length):(l.take (k+1)).all f=((l.take k).all f&&f (l.getD k default)):=by
 rw[List.take_succ,List.getElem?_eq_getElem h]
 show (l.take k++[l[k]]).all f=_
 rw[List.all_append];simp[List.getD,h]
theorem all_no{l:List EvC}{f:EvC→Bool}{k:Nat}(h:k<l.length)(hf:f (l.getD k default)=false):l.all f=false:=by
 rw[List.all_eq_false]
 exact ⟨l[k],List.getElem_mem h,by simpa[List.getD,h]using hf⟩
theorem h_eMay{l:List EvC}(h:a7b l){i:Nat}(hi:i<l.length):CP Tryz.prog 133 [.agg (l.getD i default).cs] (.bool (a1k (l.getD i default))):=by
 obtain ⟨h1,h2,h3,h4,h5⟩:=h.2 i hi
 exact b0G _ h1 h2 h3 h4 h5
theorem h_rMay{l:List EvC}(h:a7b l){i:Nat}(hi:i<l.length):CP Tryz.prog 177 [.agg (l.getD i default).cs] (.bool (a1k (l.getD i default))):=by
 obtain ⟨h1,h2,h3,h4,h5⟩:=h.2 i hi
 exact b2q _ h1 h2 h3 h4 h5
theorem sxBka{A B:Prop}(h:B)(e:A=B:=by (simp (disch:=omega) only[*, ↓Ed,Eu, ↓reduceIte,reduceCtorEq,Nat.reduceAdd,Nat.reduceEqDiff,Nat.reduceLT,Nat.reduceLeDiff,Int.reduceToNat,Int.reduceEq,Int.reduceLT,Int.reduceLE,w64,List.length_append,List.length_map,PktC.cs,EvC.cs,BlkC.cs,Int.reduceAdd,a0O,gdE,a8T];first|done|rfl)):A:=e▸h
theorem b6P(l m:List EvC)(hl:l.length≤2000000000)(hm:m.length≤2000000000):CP Tryz.prog 67 [.sl none 13 (evl l),.sl none 13 (evl m)] (.bool (decide (l=m))):=by
 refine a1C _ _ (by simp) ?_
 by_cases hlm:l.length=m.length
 rotate_left
 ·rw[decide_eq_false (fun e=>hlm (by rw[e]))]
  have f1:a0a (decide ((l.length:Int)=m.length)=false):=fo
  clear hlm
  simp only[a0w];refine sxBka ?_
  repeat' ((first|exact tt|refine na fun b=>?_|refine nb fun b hb=>?_|refine iq ?_|(refine jq ?_ ?_<;>intro h h')|refine Two_intro ?_ ?_|exact wZ|fail)<;>try refine sxBka ?_)
 have f1:a0a (decide ((l.length:Int)=m.length)=true):=fo
 have hlm':a0a (l.length=m.length):=hlm
 clear hlm
 simp only[a0w];refine sxBka ?_
 repeat' ((first|exact tt|refine na fun b=>?_|refine nb fun b hb=>?_|refine iq ?_|(refine jq ?_ ?_<;>intro h h')|refine Two_intro ?_ ?_|exact wZ|fail)<;>try refine sxBka ?_)
 clear f1
 refine wpx_loop (fun k:Nat=>⟨lk [(0,.sl none 13 (evl l)),(1,.sl none 13 (evl m)),(12,.int .i64 (l.length:Int)),(13,.int .i64 (k:Int))],lk []⟩) (fun k=>k≤l.length∧a0a (∀ j,j<k→l.getD j default=m.getD j default)) (fun k=>l.length - k) 0 ⟨by omega,fun j hj=>by omega⟩ (Le_lit (by simp[LeL,lk])) ?_
 rintro k ⟨k1,k2⟩
 by_cases hk:k<l.length
 ·have f2:a0a (decide ((k:Int)<l.length)=true):=fo
  have hkm:k<m.length:=by have:=(show l.length=m.length from hlm');omega
  by_cases he:l.getD k default=m.getD k default
  ·have k3:a0a (∀ j,j<k+1→l.getD j default=m.getD j default):=fun j hj=>by
    by_cases e:j=k
    ·subst e;exact he
    ·exact k2 j (by omega)
   have d1:a0a (decide (l.getD k default=m.getD k default)=true):=decide_eq_true he
   clear he k2
   generalize hx:l.getD k default=x at *
   generalize hy:m.getD k default=y at *
   refine sxBka ?_
   repeat' ((first|exact tt|refine na fun b=>?_|refine nb fun b hb=>?_|refine iq ?_|(refine jq ?_ ?_<;>intro h h')|refine Two_intro ?_ ?_|exact wZ|fail)<;>try refine sxBka ?_)
   all_goals exact Round_lit (k+1) ⟨Le_lit (by simp[LeL,lk]),⟨by omega,k3⟩,by omega⟩
  ·have d1:a0a (decide (l.getD k default=m.getD k default)=false):=decide_eq_false he
   rw[decide_eq_false (fun e=>he (by rw[e]))]
   clear he k2
   generalize hx:l.getD k default=x at *
   generalize hy:m.getD k default=y at *
   refine sxBka ?_
   repeat' ((first|exact tt|refine na fun b=>?_|refine nb fun b hb=>?_|refine iq ?_|(refine jq ?_ ?_<;>intro h h')|refine Two_intro ?_ ?_|exact wZ|fail)<;>try refine sxBka ?_)
 obtain rfl:k=l.length:=by omega
 have f2:a0a (decide ((l.length:Int)<l.length)=false):=fo
 rw[decide_eq_true (List.ext_getElem hlm' fun j h1 h2=>by
  have:=k2 j h1
  simpa[List.getD,h1,h2]using this)]
 clear k2
 refine sxBka ?_
 repeat' ((first|exact tt|refine na fun b=>?_|refine nb fun b hb=>?_|refine iq ?_|(refine jq ?_ ?_<;>intro h h')|refine Two_intro ?_ ?_|exact wZ|fail)<;>try refine sxBka ?_)
theorem b0a(a b:BlkC)(ha:a.e.length≤2000000000)(hb:b.e.length≤2000000000):CP Tryz.prog 18 [.agg a.cs,.agg b.cs] (.bool (decide (a=b))):=by
 have hE:=b6P a.e b.e ha hb
 refine a8j _ _ (by simp) ?_
 have hd:decide (a=b)=(decide (a.c=b.c)&&(decide (a.h=b.h)&&(decide (a.t=b.t)&&decide (a.e=b.e)))):=by
  obtain ⟨a1,a2,a3,a4⟩:=a;obtain ⟨b1,b2,b3,b4⟩:=b
  rw[Bool.eq_iff_iff];simp
 rw[hd]
 clear hd
 generalize hc:decide (a.c=b.c)=d1 at *
 generalize hh:decide (a.h=b.h)=d2 at *
 generalize ht:decide (a.t=b.t)=d3 at *
 generalize decide (a.e=b.e)=d4 at *
 cases d1<;>cases d2<;>cases d3
 all_goals (simp only[a5o];refine sxBka ?_;try exact tt)
 all_goals repeat' ((first|exact tt|refine CallO_pure (hE) ?_|refine na fun b=>?_|refine nb fun b hb=>?_|refine iq ?_|(refine jq ?_ ?_<;>intro h h')|refine Two_intro ?_ ?_|exact wZ|fail)<;>try refine sxBka ?_)
 all_goals rfl
theorem b5x(a q:BlkC)(ha:a.e.length≤2000000000)(hq:q.e.length≤2000000000):CP Tryz.prog 19 [.agg a.cs,.agg q.cs] (.bool (decide (a=q))):=by
 refine a3S _ _ (by simp) ?_
 have hd:decide (a=q)=(decide (a.c=q.c)&&(decide (a.h=q.h)&&(decide (a.t=q.t)&&decide (a.e=q.e)))):=by
  obtain ⟨a1,a2,a3,a4⟩:=a;obtain ⟨b1,b2,b3,b4⟩:=q
  rw[Bool.eq_iff_iff];simp
 rw[hd]
 clear hd
 obtain ⟨ac,ah,at',l⟩:=a
 obtain ⟨qc,qh,qt,m⟩:=q
 simp only at ha hq ⊢
 generalize hc:decide (ac=qc)=d1 at *
 generalize hh:decide (ah=qh)=d2 at *
 generalize ht:decide (at'=qt)=d3 at *
 by_cases hlm:l.length=m.length
 rotate_left
 ·rw[decide_eq_false (fun e=>hlm (by rw[e]))]
  have f1:a0a (decide ((l.length:Int)=m.length)=false):=fo
  clear hlm
  cases d1<;>cases d2<;>cases d3
  all_goals (simp only[a0D];refine sxBka ?_;try exact tt)
  all_goals repeat' ((first|exact tt|refine na fun b=>?_|refine nb fun b hb=>?_|refine iq ?_|(refine jq ?_ ?_<;>intro h h')|refine Two_intro ?_ ?_|exact wZ|fail)<;>try refine sxBka ?_)
  all_goals rfl
 have f1:a0a (decide ((l.length:Int)=m.length)=true):=fo
 have hlm':a0a (l.length=m.length):=hlm
 clear hlm
 cases d1
 ·simp only[a0D];refine sxBka ?_
  repeat' ((first|exact tt|refine na fun b=>?_|refine nb fun b hb=>?_|refine iq ?_|(refine jq ?_ ?_<;>intro h h')|refine Two_intro ?_ ?_|exact wZ|fail)<;>try refine sxBka ?_)
  all_goals rfl
 cases d2
 ·simp only[a0D];refine sxBka ?_
  repeat' ((first|exact tt|refine na fun b=>?_|refine nb fun b hb=>?_|refine iq ?_|(refine jq ?_ ?_<;>intro h h')|refine Two_intro ?_ ?_|exact wZ|fail)<;>try refine sxBka ?_)
  all_goals rfl
 cases d3
 ·simp only[a0D];refine sxBka ?_
  repeat' ((first|exact tt|refine na fun b=>?_|refine nb fun b hb=>?_|refine iq ?_|(refine jq ?_ ?_<;>intro h h')|refine Two_intro ?_ ?_|exact wZ|fail)<;>try refine sxBka ?_)
  all_goals rfl
 simp only[a0D];refine sxBka ?_
 repeat' ((first|exact tt|refine na fun b=>?_|refine nb fun b hb=>?_|refine iq ?_|(refine jq ?_ ?_<;>intro h h')|refine Two_intro ?_ ?_|exact wZ|fail)<;>try refine sxBka ?_)
 rename_i b1
 clear f1
 refine wpx_loop (fun k:Nat=>⟨lk [(2,.ptr b1 0),(3,.ptr b 0),(5,.int .i64 (k:Int))],lk [(b1,BlkC.cs ⟨ac,ah,at',l⟩),(b,BlkC.cs ⟨qc,qh,qt,m⟩)]⟩) (fun k=>k≤l.length∧a0a (∀ j,j<k→l.getD j default=m.getD j default)) (fun k=>l.length - k) 0 ⟨by omega,fun j hj=>by omega⟩ (Le_lit (by simp[LeL,lk,hb])) ?_
 rintro k ⟨k1,k2⟩
 by_cases hk:k<l.length
 ·have f2:a0a (decide ((k:Int)<l.length)=true):=fo
  have hkm:k<m.length:=by have:=(show l.length=m.length from hlm');omega
  by_cases he:l.getD k default=m.getD k default
  ·have k3:a0a (∀ j,j<k+1→l.getD j default=m.getD j default):=fun j hj=>by
    by_cases e:j=k
    ·subst e;exact he
    ·exact k2 j (by omega)
   have d1:a0a (decide (l.getD k default=m.getD k default)=true):=decide_eq_true he
   clear he k2
   generalize hx:l.getD k default=x at *
   generalize hy:m.getD k default=y at *
   refine sxBka ?_
   repeat' ((first|exact tt|refine na fun b=>?_|refine nb fun b hb=>?_|refine iq ?_|(refine jq ?_ ?_<;>intro h h')|refine Two_intro ?_ ?_|exact wZ|fail)<;>try refine sxBka ?_)
   all_goals exact Round_lit (k+1) ⟨Le_lit (by simp[LeL,lk,hb]),⟨by omega,k3⟩,by omega⟩
  ·have d1:a0a (decide (l.getD k default=m.getD k default)=false):=decide_eq_false he
   rw[decide_eq_false (fun e:l=m=>he (by rw[e]))]
   clear he k2
   generalize hx:l.getD k default=x at *
   generalize hy:m.getD k default=y at *
   refine sxBka ?_
   repeat' ((first|exact tt|refine na fun b=>?_|refine nb fun b hb=>?_|refine iq ?_|(refine jq ?_ ?_<;>intro h h')|refine Two_intro ?_ ?_|exact wZ|fail)<;>try refine sxBka ?_)
   all_goals rfl
 obtain rfl:k=l.length:=by omega
 have f2:a0a (decide ((l.length:Int)<l.length)=false):=fo
 rw[decide_eq_true (show l=m from List.ext_getElem hlm' fun j h1 h2=>by
  have:=k2 j h1
  simpa[List.getD,h1,h2]using this)]
 clear k2
 refine sxBka ?_
 repeat' ((first|exact tt|refine na fun b=>?_|refine nb fun b hb=>?_|refine iq ?_|(refine jq ?_ ?_<;>intro h h')|refine Two_intro ?_ ?_|exact wZ|fail)<;>try refine sxBka ?_)
 all_goals rfl
theorem b6N(q:BlkC)(hc:q.c.length≤1000000)(hE:a7b q.e):CP Tryz.prog 125 [.agg q.cs] (.bool (a1n q)):=by
 have hN:=b2i q.c (by omega)
 refine a9c _ _ (by simp) ?_
 obtain ⟨c,h,t,l⟩:=q
 simp only at hc hE hN ⊢
 have hl:l.length≤2000000000:=hE.1
 by_cases h1:a2X c=true
 rotate_left
 ·have h1':a2X c=false:=by simpa using h1
  rw[show a1n ⟨c,h,t,l⟩=false by simp[a1n,h1']]
  rw[h1']at hN
  clear h1 h1' hE
  simp only[a3c];refine sxBka ?_
  repeat' ((first|exact tt|refine CallO_pure (hN) ?_|refine na fun b=>?_|refine nb fun b hb=>?_|refine iq ?_|(refine jq ?_ ?_<;>intro h h')|refine Two_intro ?_ ?_|exact wZ|fail)<;>try refine sxBka ?_)
 rw[h1]at hN
 by_cases h2:(1≤h∧h≤mxH)∧0≤t∧t≤mxH
 rotate_left
 ·rw[show a1n ⟨c,h,t,l⟩=false by
   simp only[a1n,h1,Bool.true_and]
   by_cases g:(1≤h∧h≤mxH)
   ·have g2:¬ (0≤t∧t≤mxH):=fun g3=>h2 ⟨g,g3⟩
    simp[g2]
   ·simp[g]]
  clear h1 hE
  have h3:a0a (¬ ((1≤h∧h≤1099511627776)∧0≤t∧t≤1099511627776)):=h2
  clear h2
  simp only[a3c];refine sxBka ?_
  repeat' ((first|exact tt|refine CallO_pure (hN) ?_|refine na fun b=>?_|refine nb fun b hb=>?_|refine iq ?_|(refine jq ?_ ?_<;>intro h h')|refine Two_intro ?_ ?_|exact wZ|fail)<;>try refine sxBka ?_)
  all_goals exact (h3 ⟨⟨by omega,by omega⟩,by omega,by omega⟩).elim
 have g1:a0a (decide (h<1)=false):=fo
 have g2:a0a (decide (1099511627776<h)=false):=by simp only[a0a,Hn];have h5:h≤1099511627776:=h2.1.2;omega
 have g3:a0a (decide (t<0)=false):=fo
 have g4:a0a (decide (1099511627776<t)=false):=by simp only[a0a,Hn];have h5:t≤1099511627776:=h2.2.2;omega
 have hB:a1n ⟨c,h,t,l⟩=(decide (l.length≤1073741824)&&l.all a1k):=by
  simp only[a1n,h1,decide_eq_true h2.1,decide_eq_true h2.2,Bool.true_and]
 rw[hB]
 clear h1 h2 hB
 simp only[a3c];refine sxBka ?_
 repeat' ((first|exact tt|refine CallO_pure (hN) ?_|refine na fun b=>?_|refine nb fun b hb=>?_|refine iq ?_|(refine jq ?_ ?_<;>intro h h')|refine Two_intro ?_ ?_|exact wZ|fail)<;>try refine sxBka ?_)
 clear hN g1 g2 g3 g4
 refine wpx_loop (fun k:Nat=>⟨lk [(1,.ptr b 0),(30,.sl none 13 (evl l)),(31,.int .i64 (l.length:Int)),(32,.int .i64 (k:Int))],lk [(b,BlkC.cs ⟨c,h,t,l⟩)]⟩) (fun k=>k≤l.length∧a0a ((l.take k).all a1k=true)) (fun k=>l.length - k) 0 ⟨by omega,by simp[a0a]⟩ (Le_lit (by simp[LeL,lk])) ?_
 rintro k ⟨k1,k2⟩
 by_cases hk:k<l.length
 ·have f2:a0a (decide ((k:Int)<l.length)=true):=fo
  have hM:=h_eMay hE hk
  have hs:=all_take (f:=a1k) hk
  cases hm:a1k (l.getD k default)
  ·rw[all_no hk hm,Bool.and_false]
   rw[hm]at hM
   clear hs hm k2 hE
   generalize hx:l.getD k default=x at *
   refine sxBka ?_
   repeat' ((first|exact tt|refine CallO_pure (hM) ?_|refine na fun b=>?_|refine nb fun b hb=>?_|refine iq ?_|(refine jq ?_ ?_<;>intro h h')|refine Two_intro ?_ ?_|exact wZ|fail)<;>try refine sxBka ?_)
  ·have k3:a0a ((l.take (k+1)).all a1k=true):=by show (l.take (k+1)).all a1k=true;rw[hs,hm,show (l.take k).all a1k=true from k2];rfl
   rw[hm]at hM
   clear hs hm k2 hE
   generalize hx:l.getD k default=x at *
   refine sxBka ?_
   repeat' ((first|exact tt|refine CallO_pure (hM) ?_|refine na fun b=>?_|refine nb fun b hb=>?_|refine iq ?_|(refine jq ?_ ?_<;>intro h h')|refine Two_intro ?_ ?_|exact wZ|fail)<;>try refine sxBka ?_)
   all_goals exact Round_lit (k+1) ⟨Le_lit (by simp[LeL,lk, *]),⟨by omega,k3⟩,by omega⟩
 obtain rfl:k=l.length:=by omega
 have f2:a0a (decide ((l.length:Int)<l.length)=false):=fo
 have hall:l.all a1k=true:=by have:=(show (l.take l.length).all a1k=true from k2);rwa [List.take_length]at this
 rw[hall,Bool.and_true]
 have hdd:decide (l.length≤1073741824)=decide ((l.length:Int)≤1073741824):=by rw[Bool.eq_iff_iff,decide_eq_true_eq,decide_eq_true_eq];omega
 rw[hdd]
 clear k2 hall hE hdd
 refine sxBka ?_
 repeat' ((first|exact tt|refine na fun b=>?_|refine nb fun b hb=>?_|refine iq ?_|(refine jq ?_ ?_<;>intro h h')|refine Two_intro ?_ ?_|exact wZ|fail)<;>try refine sxBka ?_)
theorem b5v(q:BlkC)(hc:q.c.length≤1000000)(hE:a7b q.e):CP Tryz.prog 111 [.agg q.cs] (.bool (a1n q)):=by
 have hN:=b2r q.c (by omega)
 refine a4q _ _ (by simp) ?_
 obtain ⟨c,h,t,l⟩:=q
 simp only at hc hE hN ⊢
 have hl:l.length≤2000000000:=hE.1
 by_cases h1:a2X c=true
 rotate_left
 ·have h1':a2X c=false:=by simpa using h1
  rw[show a1n ⟨c,h,t,l⟩=false by simp[a1n,h1']]
  rw[h1']at hN
  clear h1 h1' hE
  simp only[a1c];refine sxBka ?_
  repeat' ((first|exact tt|refine CallO_pure (hN) ?_|refine na fun b=>?_|refine nb fun b hb=>?_|refine iq ?_|(refine jq ?_ ?_<;>intro h h')|refine Two_intro ?_ ?_|exact wZ|fail)<;>try refine sxBka ?_)
 rw[h1]at hN
 by_cases h2:((1≤h∧h≤mxH)∧0≤t∧t≤mxH)∧l.length≤1073741824
 rotate_left
 ·rw[show a1n ⟨c,h,t,l⟩=false by
   simp only[a1n,h1,Bool.true_and]
   by_cases g:(1≤h∧h≤mxH)
   ·by_cases g2:(0≤t∧t≤mxH)
    ·have g3:¬ l.length≤1073741824:=fun g3=>h2 ⟨⟨g,g2⟩,g3⟩
     simp[g3]
    ·simp[g2]
   ·simp[g]]
  clear h1 hE
  have h3:a0a (¬ (((1≤h∧h≤1099511627776)∧0≤t∧t≤1099511627776)∧l.length≤1073741824)):=h2
  clear h2
  simp only[a1c];refine sxBka ?_
  repeat' ((first|exact tt|refine CallO_pure (hN) ?_|refine na fun b=>?_|refine nb fun b hb=>?_|refine iq ?_|(refine jq ?_ ?_<;>intro h h')|refine Two_intro ?_ ?_|exact wZ|fail)<;>try refine sxBka ?_)
  all_goals exact (h3 ⟨⟨⟨by omega,by omega⟩,by omega,by omega⟩,by omega⟩).elim
 obtain ⟨⟨h2,h2'⟩,h2''⟩:=h2
 have g1:a0a (decide (h<1)=false):=fo
 have g2:a0a (decide (1099511627776<h)=false):=by simp only[a0a,Hn];have h5:h≤1099511627776:=h2.2;omega
 have g3:a0a (decide (t<0)=false):=fo
 have g4:a0a (decide (1099511627776<t)=false):=by simp only[a0a,Hn];have h5:t≤1099511627776:=h2'.2;omega
 have g5:a0a (decide (1073741824<(l.length:Int))=false):=fo
 have hB:a1n ⟨c,h,t,l⟩=l.all a1k:=by
  simp only[a1n,h1,decide_eq_true h2,decide_eq_true h2',decide_eq_true h2'',Bool.true_and]
 rw[hB]
 clear h1 h2 h2' hB
 simp only[a1c];refine sxBka ?_
 repeat' ((first|exact tt|refine CallO_pure (hN) ?_|refine na fun b=>?_|refine nb fun b hb=>?_|refine iq ?_|(refine jq ?_ ?_<;>intro h h')|refine Two_intro ?_ ?_|exact wZ|fail)<;>try refine sxBka ?_)
 clear hN g1 g2 g3 g4 g5
 refine wpx_loop (fun k:Nat=>⟨lk [(1,.ptr b 0),(3,.int .i64 (k:Int))],lk [(b,BlkC.cs ⟨c,h,t,l⟩)]⟩) (fun k=>k≤l.length∧a0a ((l.take k).all a1k=true)) (fun k=>l.length - k) 0 ⟨by omega,by simp[a0a]⟩ (Le_lit (by simp[LeL,lk])) ?_
 rintro k ⟨k1,k2⟩
 by_cases hk:k<l.length
 ·have f2:a0a (decide ((k:Int)<l.length)=true):=fo
  have hM:=h_rMay hE hk
  have hs:=all_take (f:=a1k) hk
  cases hm:a1k (l.getD k default)
  ·rw[all_no hk hm]
   rw[hm]at hM
   clear hs hm k2 hE
   generalize hx:l.getD k default=x at *
   refine sxBka ?_
   repeat' ((first|exact tt|refine CallO_pure (hM) ?_|refine na fun b=>?_|refine nb fun b hb=>?_|refine iq ?_|(refine jq ?_ ?_<;>intro h h')|refine Two_intro ?_ ?_|exact wZ|fail)<;>try refine sxBka ?_)
  ·have k3:a0a ((l.take (k+1)).all a1k=true):=by show (l.take (k+1)).all a1k=true;rw[hs,hm,show (l.take k).all a1k=true from k2];rfl
   rw[hm]at hM
   clear hs hm k2 hE
   generalize hx:l.getD k default=x at *
   refine sxBka ?_
   repeat' ((first|exact tt|refine CallO_pure (hM) ?_|refine na fun b=>?_|refine nb fun b hb=>?_|refine iq ?_|(refine jq ?_ ?_<;>intro h h')|refine Two_intro ?_ ?_|exact wZ|fail)<;>try refine sxBka ?_)
   all_goals exact Round_lit (k+1) ⟨Le_lit (by simp[LeL,lk]),⟨by omega,k3⟩,by omega⟩
 obtain rfl:k=l.length:=by omega
 have f2:a0a (decide ((l.length:Int)<l.length)=false):=fo
 have hall:l.all a1k=true:=by have:=(show (l.take l.length).all a1k=true from k2);rwa [List.take_length]at this
 rw[hall]
 clear k2 hall hE
 refine sxBka ?_
 repeat' ((first|exact tt|refine na fun b=>?_|refine nb fun b hb=>?_|refine iq ?_|(refine jq ?_ ?_<;>intro h h')|refine Two_intro ?_ ?_|exact wZ|fail)<;>try refine sxBka ?_)
end
section
open Go.RowKit
def Wk(a a':AV):Prop:=∀ (W:World) (U:Nat→Nat→Prop) (v:Value),VR W U v a→VR W U v a'
theorem Wk.rfl{a:AV}:Wk a a:=fun _ _ _ h=>h
theorem b0h(e sz:Nat):Wk (.nils e sz) (.sl none sz []):=fun _ _ _ h=>h.alias
theorem b7O(o:Option Nat)(sz:Nat)(els:List (List AV)):Wk (.sl o sz els) (.sl none sz els):=fun _ _ _ h=>h.alias
def Wks:List AV→List AV→Prop
 | [],[]=>True
 | a::l,a'::l'=>Wk a a'∧Wks l l'
 | _,_=>False
theorem b0V:∀ {l l':List AV},Wks l l'→l.length=l'.length∧∀ (i:Nat) (c d:AV),l[i]?=some c→l'[i]?=some d→Wk c d
 | [],[],_=>⟨by simp,fun i c d h=>by simp at h⟩
 | a::l,a'::l',h=>by
  obtain ⟨h1,h2⟩:=b0V h.2
  refine ⟨by simp[h1],fun i c d hc hd=>?_⟩
  cases i with
  | zero=>simp at hc hd;subst hc hd;exact h.1
  | succ i=>exact h2 i c d (by simpa using hc) (by simpa using hd)
 | [],_::_,h=>h.elim
 | _::_,[],h=>h.elim
theorem wk_agg{cs ds:List AV}(h:Wks cs ds):Wk (.agg cs) (.agg ds):=by
 obtain ⟨h1,h2⟩:=b0V h
 intro W U v hv
 cases hv with
 | agg vs _ hl h' h3=>
  refine .agg vs ds (by omega) (fun i u d hu hd=>?_) h3
  have hi:i<cs.length:=by have:=(List.getElem?_eq_some_iff.1 hd).1;omega
  exact h2 i _ d (List.getElem?_eq_getElem hi) hd W U u (h' i u _ hu (List.getElem?_eq_getElem hi))
theorem wk_tup{cs ds:List AV}(h:Wks cs ds):Wk (.tup cs) (.tup ds):=by
 obtain ⟨h1,h2⟩:=b0V h
 intro W U v hv
 cases hv with
 | tup vs _ hl h'=>
  refine .tup vs ds (by omega) (fun i u d hu hd=>?_)
  have hi:i<cs.length:=by have:=(List.getElem?_eq_some_iff.1 hd).1;omega
  exact h2 i _ d (List.getElem?_eq_getElem hi) hd W U u (h' i u _ hu (List.getElem?_eq_getElem hi))
theorem CP_wk{P:Program}{f:Nat}{xs xs':List AV}{r:AV}(h:Wks xs xs')(hc:CP P f xs' r):CP P f xs r:=by
 obtain ⟨h1,h2⟩:=b0V h
 intro W U vs hG hl hv
 refine hc W U vs hG (by omega) fun i v c hvi hci=>?_
 have hi:i<xs.length:=by have:=(List.getElem?_eq_some_iff.1 hci).1;omega
 exact h2 i _ c (List.getElem?_eq_getElem hi) hci W U v (hv i v _ hvi (List.getElem?_eq_getElem hi))
def b4l:AV→Prop
 | .sl (some _) _ _=>False
 | _=>True
theorem own_none{W:World}{U:Nat→Nat→Prop}{B:Nat→Prop}{v:Value}{r:AV}(h:b4l r):Own1 W U B v r:=by
 unfold Own1
 split
 ·exact h.elim
 ·trivial
theorem CP_rs{P:Program}{f:Nat}{xs:List AV}{r r':AV}(h:Wk r r')(hn:b4l r')(hc:CP P f xs r):CP P f xs r':=by
 intro W U vs hG hl hv
 refine (hc W U vs hG hl hv).mono fun e W' ⟨v,U',e1,e2,e3,e4⟩=>⟨v,U',e1,h W' U' v e2,own_none hn,e4⟩
theorem a9P:lk []=(fun _=>none:Nat→Option (List AV)):=funext fun _=>rfl
theorem CP_okf{P:Program}{ac:ACode}{rs:List AR}{f n:Nat}{xs:List AV}{r:AV}(h:OKF P ac rs f n)(hl:xs.length≤n)(hw:wpx P ac (b1m rs (lk []) (fun r' _=>r'=r)) ⟨lk (num 0 (xs.map AV.alias)),lk []⟩):CP P f xs r:=
 CP_of_CT (h _ _ _ hl (by rw[a9P]at hw;exact hw))
end
section
open Go.RowKit
set_option maxRecDepth 100000
theorem b4R:evl []=[]:=rfl
theorem b3b(L:List EvC)(x:EvC):evl (L++[x])=evl L++[x.cs]:=by simp[evl]
theorem bkz:(default:BlkC)=⟨[],0,0,[]⟩:=rfl
noncomputable def a3Y (s:List UInt8):Nat→(Int × Int)→List EvC→List EvC × (Int × Int) × Int
 | 0,x,L=>(L,x,0)
 | n+1,x,L=>
  if (a0x s 1000 x).2.2≠0 then (L,(a0x s 1000 x).2,0)
  else if (a6V (a0x s 1000 x).1).2≠0 then (L,(a0x s 1000 x).2,(a6V (a0x s 1000 x).1).2)
  else a3Y s n (a0x s 1000 x).2 (L++[(a6V (a0x s 1000 x).1).1])
noncomputable def b1M (s:List UInt8) (c:List UInt8) (h t:Int) (L:List EvC) (x:Int × Int):BlkC × Int:=
 if rend s x≠0 then (default,rend s x) else if a1n ⟨c,h,t,L⟩=false then (default,1) else (⟨c,h,t,L⟩,0)
noncomputable def b3E (s:List UInt8) (c:List UInt8) (h t:Int) (R:List EvC × (Int × Int) × Int):BlkC × Int:=
 if R.2.2≠0 then (default,R.2.2) else b1M s c h t R.1 R.2.1
theorem a7y(s:List UInt8)(c:List UInt8)(h t:Int)(L:List EvC)(x:Int × Int):
  (a0a (decide (rend s x=0)=false)∧b1M s c h t L x=(default,rend s x))∨(rend s x=0∧a1n ⟨c,h,t,L⟩=false∧b1M s c h t L x=(default,1))∨
   (rend s x=0∧a1n ⟨c,h,t,L⟩=true∧b1M s c h t L x=(⟨c,h,t,L⟩,0)):=by
 unfold b1M
 by_cases h0:rend s x=0
 ·cases hm:a1n ⟨c,h,t,L⟩
  ·exact .inr (.inl ⟨h0,rfl,by simp[h0]⟩)
  ·exact .inr (.inr ⟨h0,rfl,by simp[h0]⟩)
 ·exact .inl ⟨by simpa[a0a]using h0,by simp[h0]⟩
noncomputable def a3L (s:List UInt8):BlkC × Int:=
 let a:=a0x s 12 (0,0)
 let h:=a1Q s 1 mxH a.2
 let t:=a1Q s 0 mxH h.2
 let n:=a2g s 1073741824 t.2
 let R:=a3Y s n.1.toNat n.2 []
 b3E s a.1 h.1 t.1 R
def evc(L:List EvC):AV:=if L=[] then .nils 139 13 else .sl (some 139) 13 (evl L)
theorem a3A:evc []=.nils 139 13:=rfl
theorem evc_ne{L:List EvC}(h:L≠[]):evc L=.sl (some 139) 13 (evl L):=if_neg h
abbrev BlkC.cs0(b:BlkC):List AV:=[.str b.c,.int .i64 b.h,.int .i64 b.t,evc b.e]
def evr(L:List EvC):AV:=if L=[] then .nils 139 13 else .sl none 13 (evl L)
theorem b4S:evr []=.nils 139 13:=rfl
theorem evr_ne{L:List EvC}(h:L≠[]):evr L=.sl none 13 (evl L):=if_neg h
abbrev BlkC.cs1(b:BlkC):List AV:=[.str b.c,.int .i64 b.h,.int .i64 b.t,evr b.e]
theorem b5X(b:BlkC):Wk (.agg b.cs1) (.agg b.cs):=by
 refine wk_agg ⟨Wk.rfl,Wk.rfl,Wk.rfl, ?_,trivial⟩
 by_cases h:b.e=[]
 ·rw[h];exact b0h _ _
 ·rw[evr_ne h];exact Wk.rfl
theorem b7N(b:BlkC):Wk (.agg b.cs0) (.agg b.cs):=by
 refine wk_agg ⟨Wk.rfl,Wk.rfl,Wk.rfl, ?_,trivial⟩
 by_cases h:b.e=[]
 ·rw[h];exact b0h _ _
 ·rw[evc_ne h];exact b7O _ _ _
theorem b5m(q:BlkC)(hc:q.c.length≤1000000)(hE:a7b q.e):CP Tryz.prog 125 [.agg q.cs0] (.bool (a1n q)):=CP_wk (xs':=[.agg q.cs]) ⟨b7N q,trivial⟩ (b6N q hc hE)
theorem b0q(L:List EvC)(x:EvC):evc (L++[x])=.sl (some 139) 13 (evl L++[x.cs]):=by rw[evc_ne (by simp),b3b]
theorem b1K(x:EvC):evc [x]=.sl (some 139) 13 [x.cs]:=rfl
theorem b1Z:1073741825≤maxLen:=by unfold maxLen;decide
theorem evsS_snoc{s:List UInt8}(hs:s.length≤1000000){L:List EvC}(h:a7b L)(hl:L.length<2000000000)(x:Int × Int):a7b (L++[(a6V (a0x s 1000 x).1).1]):=by
 refine ⟨by simp;omega,fun i hi=>?_⟩
 by_cases hi':i<L.length
 ·have:=h.2 i hi'
  rwa [show (L++[(a6V (a0x s 1000 x).1).1]).getD i default=L.getD i default by simp[List.getD,List.getElem?_append_left hi']]
 ·have e:i=L.length:=by simp at hi;omega
  subst e
  rw[show (L++[(a6V (a0x s 1000 x).1).1]).getD L.length default=(a6V (a0x s 1000 x).1).1 by simp[List.getD]]
  have h1:=b2Y (a0x s 1000 x).1
  have h2:=a1V s 1000 x
  exact ⟨by omega,by omega,by omega,by omega,by omega⟩
theorem sxBkb{A B:Prop}(h:B)(e:A=B:=by (simp (disch:=omega) only[*, ↓Ed,Eu, ↓reduceIte,reduceCtorEq,Nat.reduceAdd,Nat.reduceEqDiff,Nat.reduceLT,Nat.reduceLeDiff,Int.reduceToNat,Int.reduceEq,Int.reduceLT,Int.reduceLE,w64,List.length_append,List.length_map,PktC.cs,EvC.cs,BlkC.cs0,BlkC.cs1,Int.reduceAdd,pkz,evz,bkz,b4R,a3A,b4S];first|done|rfl)):A:=e▸h
theorem b7b(s:List UInt8)(hs:s.length≤1000000):CP Tryz.prog 61 [.str s] (.tup [.agg (a3L s).1.cs,.int .i64 (a3L s).2]):=by
 refine CP_rs (r:=.tup [.agg (a3L s).1.cs1,.int .i64 (a3L s).2]) (wk_tup ⟨b5X _,Wk.rfl,trivial⟩) trivial ?_
 have h1:=fun b=>a5k b s (0,0) 12 (by omega) (by omega) ⟨by simp,by simp⟩
 have i1:=a1l s 12 (0,0) ⟨by simp,by simp⟩
 have l1:=a1V s 12 (0,0)
 refine a6D _ _ (by simp) ?_
 generalize hD:a3L s=D
 unfold a3L at hD
 simp only at hD
 generalize a0x s 12 (0,0)=a at *
 have h2:=fun b=>a4U b s a.2 1 mxH (by omega)
 have i2:=a0W s 1 mxH a.2 i1
 generalize a1Q s 1 mxH a.2=h at *
 have h3:=fun b=>a4U b s h.2 0 mxH (by omega)
 have i3:=a0W s 0 mxH h.2 i2
 generalize a1Q s 0 mxH h.2=t at *
 have h4:=fun b=>b5F b s t.2 1073741824 (by omega) (by omega)
 have i4:=a6S s 1073741824 t.2 i3
 have g4:=b2w s 1073741824 t.2 (by omega)
 generalize a2g s 1073741824 t.2=n at *
 obtain ⟨N,hN⟩:∃ N:Nat,n.1=N:=⟨n.1.toNat,by omega⟩
 rw[hN]at h4 g4 hD
 rw[Int.toNat_natCast]at hD
 simp only[mxH]at h2 h3
 clear i1 i2 i3 hN
 have hD':a0a (b3E s a.1 h.1 t.1 (a3Y s N n.2 [])=D):=hD
 clear hD
 simp only[a3Z];refine sxBkb ?_
 repeat' ((first|exact tt|refine CallO_new (b8e s) ?_|refine c1 (h1 _) ?_|refine c1 (h2 _) ?_|refine c1 (h3 _) ?_|refine c1 (h4 _) ?_|refine na fun b=>?_|refine nb fun b hb=>?_|refine iq ?_|(refine jq ?_ ?_<;>intro h h')|refine Two_intro ?_ ?_|exact wZ|fail)<;>try refine sxBkb ?_)
 rename_i b2 b1 hb1
 refine wpx_loop (fun x:Nat × (Int × Int) × List EvC=>⟨lk [(2,.ptr b2 0),(4,.ptr b1 0),(5,.ptr b 0),(22,.int .i64 (N:Int)),(23,.int .i64 (x.1:Int))],lk [(b1,rd s x.2.1.1 x.2.1.2),(b2,[.str [],.int .i64 0,.int .i64 0,.sl (some 139) 13 []]),(b,[.str a.1,.int .i64 h.1,.int .i64 t.1,evc x.2.2])]⟩)
  (fun x=>x.1≤N∧inT s x.2.1∧a7b x.2.2∧x.2.2.length≤x.1∧a0a (b3E s a.1 h.1 t.1 (a3Y s (N - x.1) x.2.1 x.2.2)=D))
  (fun x=>N - x.1) (0,n.2,[]) ⟨by omega,i4,⟨by simp,fun i hi=>by simp at hi⟩,by simp,hD'⟩ (Le_lit (by simp[LeL,lk,hb,hb1,a3A])) ?_
 clear h1 h2 h3 h4 i4 hD'
 rintro ⟨k,y,L⟩ ⟨k1,k2,k3,k4,k5⟩
 simp only at k1 k2 k3 k4 k5 ⊢
 have hX:∀ z:Int × Int,CP Tryz.prog 125 [.agg (⟨a.1,h.1,t.1,L⟩:BlkC).cs0] (.bool (a1n ⟨a.1,h.1,t.1,L⟩))∧∀ b,CT Tryz.prog 124 [.ptr b 0] (lk [(b,rd s z.1 z.2)]) (fun r o=>r=.int .i64 (rend s z)∧o=lk [(b,rd s z.1 z.2)]):=fun z=>⟨b5m _ (by simp only;omega) k3,fun b=>b4w b s z⟩
 by_cases hk:k<N
 rotate_left
 ·obtain rfl:k=N:=by omega
  have f1:a0a (decide ((k:Int)<k)=false):=fo
  rw[Nat.sub_self,a3Y]at k5
  have k6:b1M s a.1 h.1 t.1 L y=D:=k5
  subst k6
  obtain ⟨hM,hE⟩:=hX y
  have hc:=a7y s a.1 h.1 t.1 L y
  clear k5 hk hX k3
  generalize rend s y=e at *
  generalize hm:a1n ⟨a.1,h.1,t.1,L⟩=m at *
  clear hm
  by_cases hL:L=[]
  ·subst hL
   rw[a3A]
   simp only[BlkC.cs0,a3A]at hM
   rcases hc with ⟨r2,r3⟩ | ⟨rfl,rfl,r3⟩ | ⟨rfl,rfl,r3⟩
   all_goals (rw[r3];clear r3;try simp only[BlkC.cs1,evr_ne hL];try clear hL)
   ·refine sxBkb ?_
    repeat' ((first|exact tt|refine c1 (hE _) ?_|refine na fun b=>?_|refine nb fun b hb=>?_|refine iq ?_|(refine jq ?_ ?_<;>intro h h')|refine Two_intro ?_ ?_|exact wZ|fail)<;>try refine sxBkb ?_)
   ·refine sxBkb ?_
    repeat' ((first|exact tt|refine c1 (hE _) ?_|refine CallO_pure (hM) ?_|refine na fun b=>?_|refine nb fun b hb=>?_|refine iq ?_|(refine jq ?_ ?_<;>intro h h')|refine Two_intro ?_ ?_|exact wZ|fail)<;>try refine sxBkb ?_)
   ·refine sxBkb ?_
    repeat' ((first|exact tt|refine c1 (hE _) ?_|refine CallO_pure (hM) ?_|refine na fun b=>?_|refine nb fun b hb=>?_|refine iq ?_|(refine jq ?_ ?_<;>intro h h')|refine Two_intro ?_ ?_|exact wZ|fail)<;>try refine sxBkb ?_)
  ·rw[evc_ne hL]
   simp only[BlkC.cs0,evc_ne hL]at hM
   rcases hc with ⟨r2,r3⟩ | ⟨rfl,rfl,r3⟩ | ⟨rfl,rfl,r3⟩
   all_goals (rw[r3];clear r3;try simp only[BlkC.cs1,evr_ne hL];try clear hL)
   ·refine sxBkb ?_
    repeat' ((first|exact tt|refine c1 (hE _) ?_|refine na fun b=>?_|refine nb fun b hb=>?_|refine iq ?_|(refine jq ?_ ?_<;>intro h h')|refine Two_intro ?_ ?_|exact wZ|fail)<;>try refine sxBkb ?_)
   ·refine sxBkb ?_
    repeat' ((first|exact tt|refine c1 (hE _) ?_|refine CallO_pure (hM) ?_|refine na fun b=>?_|refine nb fun b hb=>?_|refine iq ?_|(refine jq ?_ ?_<;>intro h h')|refine Two_intro ?_ ?_|exact wZ|fail)<;>try refine sxBkb ?_)
   ·refine sxBkb ?_
    repeat' ((first|exact tt|refine c1 (hE _) ?_|refine CallO_pure (hM) ?_|refine na fun b=>?_|refine nb fun b hb=>?_|refine iq ?_|(refine jq ?_ ?_<;>intro h h')|refine Two_intro ?_ ?_|exact wZ|fail)<;>try refine sxBkb ?_)
 have f1:a0a (decide ((k:Int)<N)=true):=fo
 obtain ⟨m,hm⟩:∃ m,N - k=m+1:=⟨N - k - 1,by omega⟩
 have hm':N - (k+1)=m:=by omega
 rw[hm,a3Y]at k5
 have q1:=fun b=>a5k b s y 1000 (by omega) (by omega) k2
 have j1:=a1l s 1000 y k2
 have j2:=a1V s 1000 y
 have j3:=evsS_snoc hs k3 (by omega) y
 generalize a0x s 1000 y=w at *
 have q2:=fun b=>b9b b s w.2
 by_cases e1:w.2.2=0
 rotate_left
 ·rw[if_pos e1]at k5
  have k6:b1M s a.1 h.1 t.1 L w.2=D:=k5
  subst k6
  have f2:a0a (decide (w.2.2=0)=false):=by simp only[a0a,Hn];exact e1
  obtain ⟨hM,hE⟩:=hX w.2
  have hc:=a7y s a.1 h.1 t.1 L w.2
  clear k5 hk hX k3 j1 j2 j3 k2 k1 hm hm' e1 k4
  generalize rend s w.2=e at *
  generalize hm:a1n ⟨a.1,h.1,t.1,L⟩=m at *
  clear hm
  by_cases hL:L=[]
  ·subst hL
   rw[a3A]
   simp only[BlkC.cs0,a3A]at hM
   rcases hc with ⟨r2,r3⟩ | ⟨rfl,rfl,r3⟩ | ⟨rfl,rfl,r3⟩
   all_goals (rw[r3];clear r3;try simp only[BlkC.cs1,evr_ne hL];try clear hL)
   ·refine sxBkb ?_
    repeat' ((first|exact tt|refine c1 (q1 _) ?_|refine c1 (q2 _) ?_|refine c1 (hE _) ?_|refine na fun b=>?_|refine nb fun b hb=>?_|refine iq ?_|(refine jq ?_ ?_<;>intro h h')|refine Two_intro ?_ ?_|exact wZ|fail)<;>try refine sxBkb ?_)
   ·refine sxBkb ?_
    repeat' ((first|exact tt|refine c1 (q1 _) ?_|refine c1 (q2 _) ?_|refine c1 (hE _) ?_|refine CallO_pure (hM) ?_|refine na fun b=>?_|refine nb fun b hb=>?_|refine iq ?_|(refine jq ?_ ?_<;>intro h h')|refine Two_intro ?_ ?_|exact wZ|fail)<;>try refine sxBkb ?_)
   ·refine sxBkb ?_
    repeat' ((first|exact tt|refine c1 (q1 _) ?_|refine c1 (q2 _) ?_|refine c1 (hE _) ?_|refine CallO_pure (hM) ?_|refine na fun b=>?_|refine nb fun b hb=>?_|refine iq ?_|(refine jq ?_ ?_<;>intro h h')|refine Two_intro ?_ ?_|exact wZ|fail)<;>try refine sxBkb ?_)
  ·rw[evc_ne hL]
   simp only[BlkC.cs0,evc_ne hL]at hM
   rcases hc with ⟨r2,r3⟩ | ⟨rfl,rfl,r3⟩ | ⟨rfl,rfl,r3⟩
   all_goals (rw[r3];clear r3;try simp only[BlkC.cs1,evr_ne hL];try clear hL)
   ·refine sxBkb ?_
    repeat' ((first|exact tt|refine c1 (q1 _) ?_|refine c1 (q2 _) ?_|refine c1 (hE _) ?_|refine na fun b=>?_|refine nb fun b hb=>?_|refine iq ?_|(refine jq ?_ ?_<;>intro h h')|refine Two_intro ?_ ?_|exact wZ|fail)<;>try refine sxBkb ?_)
   ·refine sxBkb ?_
    repeat' ((first|exact tt|refine c1 (q1 _) ?_|refine c1 (q2 _) ?_|refine c1 (hE _) ?_|refine CallO_pure (hM) ?_|refine na fun b=>?_|refine nb fun b hb=>?_|refine iq ?_|(refine jq ?_ ?_<;>intro h h')|refine Two_intro ?_ ?_|exact wZ|fail)<;>try refine sxBkb ?_)
   ·refine sxBkb ?_
    repeat' ((first|exact tt|refine c1 (q1 _) ?_|refine c1 (q2 _) ?_|refine c1 (hE _) ?_|refine CallO_pure (hM) ?_|refine na fun b=>?_|refine nb fun b hb=>?_|refine iq ?_|(refine jq ?_ ?_<;>intro h h')|refine Two_intro ?_ ?_|exact wZ|fail)<;>try refine sxBkb ?_)
 rw[if_neg (by simpa using e1)]at k5
 have q3:=b7c w.1 (by omega)
 have f3:a0a (decide (w.2.2=0)=true):=by simp only[a0a,Hn];exact e1
 clear hX
 generalize a6V w.1=d at *
 by_cases e2:d.2=0
 rotate_left
 ·rw[if_pos e2]at k5
  have k6:(default,d.2)=D:=by rw[← (show b3E s a.1 h.1 t.1 (L,w.2,d.2)=D from k5)];exact (if_pos e2).symm
  subst k6
  have f2:a0a (decide (d.2=0)=false):=by simp only[a0a,Hn];exact e2
  clear k5 k3 j1 j2 j3 k2 k1 hm hm' e1 e2 k4
  by_cases hL:L=[]
  ·subst hL
   rw[a3A]
   refine sxBkb ?_
   repeat' ((first|exact tt|refine c1 (q1 _) ?_|refine c1 (q2 _) ?_|refine CallO_pure (q3) ?_|refine na fun b=>?_|refine nb fun b hb=>?_|refine iq ?_|(refine jq ?_ ?_<;>intro h h')|refine Two_intro ?_ ?_|exact wZ|fail)<;>try refine sxBkb ?_)
  ·rw[evc_ne hL]
   clear hL
   refine sxBkb ?_
   repeat' ((first|exact tt|refine c1 (q1 _) ?_|refine c1 (q2 _) ?_|refine CallO_pure (q3) ?_|refine na fun b=>?_|refine nb fun b hb=>?_|refine iq ?_|(refine jq ?_ ?_<;>intro h h')|refine Two_intro ?_ ?_|exact wZ|fail)<;>try refine sxBkb ?_)
 rw[if_neg (by simpa using e2)]at k5
 rw[e2]at q3
 have rdx:k+1≤N∧inT s w.2∧a7b (L++[d.1])∧(L++[d.1]).length≤k+1∧a0a (b3E s a.1 h.1 t.1 (a3Y s (N - (k+1)) w.2 (L++[d.1]))=D):=⟨by omega,j1,j3,by simp;omega,by rw[hm'];exact k5⟩
 clear k5 k3 j1 j2 j3 k2 k1 hm hm' e1 e2
 by_cases hL:L=[]
 ·subst hL
  rw[a3A]
  refine sxBkb ?_
  repeat' ((first|exact tt|refine c1 (q1 _) ?_|refine c1 (q2 _) ?_|refine CallO_pure (q3) ?_|refine na fun b=>?_|refine nb fun b hb=>?_|refine iq ?_|(refine jq ?_ ?_<;>intro h h')|refine Two_intro ?_ ?_|exact wZ|fail)<;>try refine sxBkb ?_)
  rename_i b' hb'
  exact ⟨⟨by omega,by have:=b1Z;omega⟩,Round_lit (k+1,w.2,_++[d.1]) ⟨Le_lit (by simp[LeL,lk,hb,hb1,hb',b0q,b1K,evl,EvC.cs,PktC.cs]),rdx,by simp only;omega⟩⟩
 ·rw[evc_ne hL]
  clear hL
  refine sxBkb ?_
  repeat' ((first|exact tt|refine c1 (q1 _) ?_|refine c1 (q2 _) ?_|refine CallO_pure (q3) ?_|refine na fun b=>?_|refine nb fun b hb=>?_|refine iq ?_|(refine jq ?_ ?_<;>intro h h')|refine Two_intro ?_ ?_|exact wZ|fail)<;>try refine sxBkb ?_)
  rename_i b' hb'
  have hel:=a0O L
  exact ⟨⟨by omega,by have:=b1Z;omega⟩,Round_lit (k+1,w.2,_++[d.1]) ⟨Le_lit (by simp[LeL,lk,hb,hb1,hb',b0q,b1K,evl,EvC.cs,PktC.cs]),rdx,by simp only;omega⟩⟩
end
section
open Go.RowKit
set_option maxRecDepth 100000
end
end Go.Proofs.YtgdhinnepnlihaaGreatDoor
