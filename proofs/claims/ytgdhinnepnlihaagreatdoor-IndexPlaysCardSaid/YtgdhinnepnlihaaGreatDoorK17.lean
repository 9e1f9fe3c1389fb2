import Derived.Test.YtgdhinnepnlihaaGreatDoorK16
import Derived.Test.YtgdhinnepnlihaaGreatDoorK11
import Derived.Test.YtgdhinnepnlihaaGreatDoorK13
namespace Go.Proofs.YtgdhinnepnlihaaGreatDoor
set_option linter.all false
set_option maxHeartbeats 9000000
section
open Go.RowKit
set_option maxRecDepth 100000
theorem may_range{e:EvC}(h:a1e e=true):1≤e.k∧e.k≤7:=by
 unfold a1e at h;simp only[Bool.and_eq_true,decide_eq_true_eq]at h;exact h.1.1
theorem own_no{e:EvC}(h:a1e e=false):a1B e=([],0,0,false):=by unfold a1B;rw[h];rfl
theorem own_src{e:EvC}(h:a1e e=true)(hk:e.k=1∨e.k=4∨e.k=5):a1B e=(e.p.s,e.p.sc,e.p.q,true):=by unfold a1B;rw[if_pos h,if_pos hk]
theorem own_dst{e:EvC}(h:a1e e=true)(hk:e.k=2∨e.k=3):a1B e=(e.p.d,e.p.dc,e.p.q,true):=by unfold a1B;rw[if_pos h,if_neg (by omega),if_pos hk]
theorem own_close{e:EvC}(h:a1e e=true)(hk:e.k=6):a1B e=(e.e,e.ec,0,true):=by unfold a1B;rw[if_pos h,if_neg (by omega),if_neg (by omega),if_pos hk]
theorem own_up{e:EvC}(h:a1e e=true)(hk:e.k=7):a1B e=([],0,0,false):=by unfold a1B;rw[if_pos h,if_neg (by omega),if_neg (by omega),if_neg (by omega)]
def evl(l:List EvC):List (List AV):=l.map EvC.cs
theorem gdE(l:List EvC)(i:Nat)(h:i<l.length):(evl l).getD i []=(l.getD i default).cs:=by simp[evl,List.getD,h]
theorem a0D(l:List EvC):(evl l).length=l.length:=by simp[evl]
theorem sxEvc{A B:Prop}(h:B)(e:A=B:=by (simp (disch:=omega) only[*, ↓Ed,Eu, ↓reduceIte,reduceCtorEq,Nat.reduceAdd,Nat.reduceEqDiff,Nat.reduceLT,Nat.reduceLeDiff,Int.reduceToNat,Int.reduceEq,Int.reduceLT,Int.reduceLE,w64,List.length_append,List.length_map,Nat.mul_one,beq_self_eq_true,PktC.cs,EvC.cs,a0h,gdE,a0D];first|done|rfl)):A:=e▸h
set_option maxHeartbeats 8000000 in
theorem b8F(e:EvC)(h1:e.p.s.length≤1000000)(h2:e.p.d.length≤1000000)(h3:e.p.x.length≤1000000)(h4:e.e.length≤1000000)(h5:e.a.length≤1000000):CP Tryz.prog 132 [.agg e.cs] (.tup [.agg [.str (a1B e).1,.int .i64 (a1B e).2.1],.int .i64 (a1B e).2.2.1,.bool (a1B e).2.2.2]):=by
 have hM:=b2g e h1 h2 h3 h4 h5
 refine b0E _ _ (by simp) ?_
 by_cases hm:a1e e=true
 rotate_left
 ·have hm':a1e e=false:=by simpa using hm
  rw[own_no hm']
  rw[hm']at hM
  clear hm hm'
  simp only[a1l];refine sxEvc ?_
  repeat' ((first|exact tt|refine CallO_pure (hM) ?_|refine na fun b=>?_|refine nb fun b hb=>?_|refine iq ?_|(refine jq ?_ ?_<;>intro h h')|refine Two_intro ?_ ?_|exact wZ|fail)<;>try refine sxEvc ?_)
 have hr:=may_range hm
 rcases a8d e.k with ⟨k1,k2,k3,k4,k5,k6,k7,k8,k9,k10,k11,k12⟩ | ⟨k1,k2,k3,k4,k5,k6,k7,k8,k9,k10,k11,k12⟩ | ⟨k1,k2,k3,k4,k5,k6,k7,k8,k9,k10,k11,k12⟩ | ⟨k1,k2,k3,k4,k5,k6,k7,k8,k9,k10,k11,k12⟩ | ⟨k1,k2,k3,k4,k5,k6,k7,k8,k9,k10,k11,k12⟩ | ⟨k1,k2,k3,k4,k5,k6,k7,k8,k9,k10,k11,k12⟩ | ⟨k1,k2,k3,k4,k5,k6,k7,k8,k9,k10,k11,k12⟩ | ⟨k1,k2,k3,k4,k5,k6,k7,k8,k9,k10,k11,k12⟩ | ⟨k1,k2,k3,k4,k5,k6,k7,k8,k9,k10,k11,k12⟩
 ·rw[own_src hm (by have:e.k=1:=k12;omega)]
  rw[hm]at hM
  clear hm hr k12
  simp only[a1l];refine sxEvc ?_
  repeat' ((first|exact tt|refine CallO_pure (hM) ?_|refine na fun b=>?_|refine nb fun b hb=>?_|refine iq ?_|(refine jq ?_ ?_<;>intro h h')|refine Two_intro ?_ ?_|exact wZ|fail)<;>try refine sxEvc ?_)
 ·rw[own_dst hm (by have:e.k=2:=k12;omega)]
  rw[hm]at hM
  clear hm hr k12
  simp only[a1l];refine sxEvc ?_
  repeat' ((first|exact tt|refine CallO_pure (hM) ?_|refine na fun b=>?_|refine nb fun b hb=>?_|refine iq ?_|(refine jq ?_ ?_<;>intro h h')|refine Two_intro ?_ ?_|exact wZ|fail)<;>try refine sxEvc ?_)
 ·rw[own_src hm (by have:e.k=4:=k12;omega)]
  rw[hm]at hM
  clear hm hr k12
  simp only[a1l];refine sxEvc ?_
  repeat' ((first|exact tt|refine CallO_pure (hM) ?_|refine na fun b=>?_|refine nb fun b hb=>?_|refine iq ?_|(refine jq ?_ ?_<;>intro h h')|refine Two_intro ?_ ?_|exact wZ|fail)<;>try refine sxEvc ?_)
 ·rw[own_src hm (by have:e.k=5:=k12;omega)]
  rw[hm]at hM
  clear hm hr k12
  simp only[a1l];refine sxEvc ?_
  repeat' ((first|exact tt|refine CallO_pure (hM) ?_|refine na fun b=>?_|refine nb fun b hb=>?_|refine iq ?_|(refine jq ?_ ?_<;>intro h h')|refine Two_intro ?_ ?_|exact wZ|fail)<;>try refine sxEvc ?_)
 ·rw[own_dst hm (by have:e.k=3:=k12;omega)]
  rw[hm]at hM
  clear hm hr k12
  simp only[a1l];refine sxEvc ?_
  repeat' ((first|exact tt|refine CallO_pure (hM) ?_|refine na fun b=>?_|refine nb fun b hb=>?_|refine iq ?_|(refine jq ?_ ?_<;>intro h h')|refine Two_intro ?_ ?_|exact wZ|fail)<;>try refine sxEvc ?_)
 ·rw[own_close hm k12]
  rw[hm]at hM
  clear hm hr k12
  simp only[a1l];refine sxEvc ?_
  repeat' ((first|exact tt|refine CallO_pure (hM) ?_|refine na fun b=>?_|refine nb fun b hb=>?_|refine iq ?_|(refine jq ?_ ?_<;>intro h h')|refine Two_intro ?_ ?_|exact wZ|fail)<;>try refine sxEvc ?_)
 ·rw[own_up hm k12]
  rw[hm]at hM
  clear hm hr k12
  simp only[a1l];refine sxEvc ?_
  repeat' ((first|exact tt|refine CallO_pure (hM) ?_|refine na fun b=>?_|refine nb fun b hb=>?_|refine iq ?_|(refine jq ?_ ?_<;>intro h h')|refine Two_intro ?_ ?_|exact wZ|fail)<;>try refine sxEvc ?_)
 ·have:e.k<1:=k12
  omega
 ·have:7<e.k:=k12
  omega
set_option maxHeartbeats 8000000 in
theorem b6e(e:EvC)(h1:e.p.s.length≤1000000)(h2:e.p.d.length≤1000000)(h3:e.p.x.length≤1000000)(h4:e.e.length≤1000000)(h5:e.a.length≤1000000):CP Tryz.prog 199 [.agg e.cs] (.tup [.agg [.str (a1B e).1,.int .i64 (a1B e).2.1],.int .i64 (a1B e).2.2.1,.bool (a1B e).2.2.2]):=by
 have hM:=a6F e h1 h2 h3 h4 h5
 refine a8J _ _ (by simp) ?_
 by_cases hm:a1e e=true
 rotate_left
 ·have hm':a1e e=false:=by simpa using hm
  rw[own_no hm']
  rw[hm']at hM
  clear hm hm'
  simp only[a0Q];refine sxEvc ?_
  repeat' ((first|exact tt|refine CallO_pure (hM) ?_|refine na fun b=>?_|refine nb fun b hb=>?_|refine iq ?_|(refine jq ?_ ?_<;>intro h h')|refine Two_intro ?_ ?_|exact wZ|fail)<;>try refine sxEvc ?_)
 have hr:=may_range hm
 rcases a8d e.k with ⟨k1,k2,k3,k4,k5,k6,k7,k8,k9,k10,k11,k12⟩ | ⟨k1,k2,k3,k4,k5,k6,k7,k8,k9,k10,k11,k12⟩ | ⟨k1,k2,k3,k4,k5,k6,k7,k8,k9,k10,k11,k12⟩ | ⟨k1,k2,k3,k4,k5,k6,k7,k8,k9,k10,k11,k12⟩ | ⟨k1,k2,k3,k4,k5,k6,k7,k8,k9,k10,k11,k12⟩ | ⟨k1,k2,k3,k4,k5,k6,k7,k8,k9,k10,k11,k12⟩ | ⟨k1,k2,k3,k4,k5,k6,k7,k8,k9,k10,k11,k12⟩ | ⟨k1,k2,k3,k4,k5,k6,k7,k8,k9,k10,k11,k12⟩ | ⟨k1,k2,k3,k4,k5,k6,k7,k8,k9,k10,k11,k12⟩
 ·rw[own_src hm (by have:e.k=1:=k12;omega)]
  rw[hm]at hM
  clear hm hr k12
  simp only[a0Q];refine sxEvc ?_
  repeat' ((first|exact tt|refine CallO_pure (hM) ?_|refine na fun b=>?_|refine nb fun b hb=>?_|refine iq ?_|(refine jq ?_ ?_<;>intro h h')|refine Two_intro ?_ ?_|exact wZ|fail)<;>try refine sxEvc ?_)
 ·rw[own_dst hm (by have:e.k=2:=k12;omega)]
  rw[hm]at hM
  clear hm hr k12
  simp only[a0Q];refine sxEvc ?_
  repeat' ((first|exact tt|refine CallO_pure (hM) ?_|refine na fun b=>?_|refine nb fun b hb=>?_|refine iq ?_|(refine jq ?_ ?_<;>intro h h')|refine Two_intro ?_ ?_|exact wZ|fail)<;>try refine sxEvc ?_)
 ·rw[own_src hm (by have:e.k=4:=k12;omega)]
  rw[hm]at hM
  clear hm hr k12
  simp only[a0Q];refine sxEvc ?_
  repeat' ((first|exact tt|refine CallO_pure (hM) ?_|refine na fun b=>?_|refine nb fun b hb=>?_|refine iq ?_|(refine jq ?_ ?_<;>intro h h')|refine Two_intro ?_ ?_|exact wZ|fail)<;>try refine sxEvc ?_)
 ·rw[own_src hm (by have:e.k=5:=k12;omega)]
  rw[hm]at hM
  clear hm hr k12
  simp only[a0Q];refine sxEvc ?_
  repeat' ((first|exact tt|refine CallO_pure (hM) ?_|refine na fun b=>?_|refine nb fun b hb=>?_|refine iq ?_|(refine jq ?_ ?_<;>intro h h')|refine Two_intro ?_ ?_|exact wZ|fail)<;>try refine sxEvc ?_)
 ·rw[own_dst hm (by have:e.k=3:=k12;omega)]
  rw[hm]at hM
  clear hm hr k12
  simp only[a0Q];refine sxEvc ?_
  repeat' ((first|exact tt|refine CallO_pure (hM) ?_|refine na fun b=>?_|refine nb fun b hb=>?_|refine iq ?_|(refine jq ?_ ?_<;>intro h h')|refine Two_intro ?_ ?_|exact wZ|fail)<;>try refine sxEvc ?_)
 ·rw[own_close hm k12]
  rw[hm]at hM
  clear hm hr k12
  simp only[a0Q];refine sxEvc ?_
  repeat' ((first|exact tt|refine CallO_pure (hM) ?_|refine na fun b=>?_|refine nb fun b hb=>?_|refine iq ?_|(refine jq ?_ ?_<;>intro h h')|refine Two_intro ?_ ?_|exact wZ|fail)<;>try refine sxEvc ?_)
 ·rw[own_up hm k12]
  rw[hm]at hM
  clear hm hr k12
  simp only[a0Q];refine sxEvc ?_
  repeat' ((first|exact tt|refine CallO_pure (hM) ?_|refine na fun b=>?_|refine nb fun b hb=>?_|refine iq ?_|(refine jq ?_ ?_<;>intro h h')|refine Two_intro ?_ ?_|exact wZ|fail)<;>try refine sxEvc ?_)
 ·have:e.k<1:=k12
  omega
 ·have:7<e.k:=k12
  omega
def b5Z(p:PktC):Prop:=p.s.length≤60∧p.d.length≤60∧p.x.length≤600
instance (p:PktC):Decidable (b5Z p):=by unfold b5Z;infer_instance
end
section
open Go.RowKit
set_option maxRecDepth 100000
theorem b3a(s:List UInt8)(n bad least most:Int):a2X s n bad least most 1 1=a1F s least most (n,bad):=by
 have hb:=b3K s n
 simp only[a2X,a5q,a5O,a1F]
 by_cases h1:bad=0
 ·by_cases h2:(nx s n).2.2=0
  ·by_cases h3:(nx s n).1<least<;>by_cases h4:most<(nx s n).1<;>simp[h1,h2,h3,h4]
  ·have h5:=(hb h2).1
   by_cases h3:(0:Int)<least<;>by_cases h4:most<0<;>simp[h1,h2,h5,h3,h4]
 ·by_cases h3:(0:Int)<least<;>by_cases h4:most<0<;>simp[h1,h3,h4]
theorem a6j(b:Nat)(s:List UInt8)(x:Int × Int)(least most:Int)(hs:s.length≤281474976710656):
  CT Tryz.prog 120 [.ptr b 0,.int .i64 least,.int .i64 most] (lk [(b,rd s x.1 x.2)])
   (fun r o=>r=.int .i64 (a1F s least most x).1∧o=lk [(b,rd s (a1F s least most x).2.1 (a1F s least most x).2.2)]):=by
 have:=b8C b s x.1 x.2 least most (by omega)
 rw[b3a]at this
 exact this
theorem a6G(b:Nat)(s:List UInt8)(x:Int × Int)(most:Int)(hs:s.length≤281474976710656)(hl:0≤most)(hn:inT s x):
  CT Tryz.prog 119 [.ptr b 0,.int .i64 most] (lk [(b,rd s x.1 x.2)])
   (fun r o=>r=.str (a0w s most x).1∧o=lk [(b,rd s (a0w s most x).2.1 (a0w s most x).2.2)]):=b8R b s x.1 x.2 most hs hl hn
theorem sxRde{A B:Prop}(h:B)(e:A=B:=by (simp (disch:=omega) only[*, ↓Ed,Eu, ↓reduceIte,reduceCtorEq,Nat.reduceAdd,Nat.reduceEqDiff,Nat.reduceLT,Nat.reduceLeDiff,Int.reduceToNat,Int.reduceEq,Int.reduceLT,Int.reduceLE,w64,List.length_append,List.length_map,PktC.cs,EvC.cs,Int.reduceAdd];first|done|rfl)):A:=e▸h
theorem b7r(b:Nat)(s:List UInt8)(x:Int × Int)(most:Int)(hs:s.length≤281474976710656)(hm:0≤most):
  CT Tryz.prog 121 [.ptr b 0,.int .i64 most] (lk [(b,rd s x.1 x.2)])
   (fun r o=>r=.int .i64 (a1j s most x).1∧o=lk [(b,rd s (a1j s most x).2.1 (a1j s most x).2.2)]):=by
 have hW:=b2j b s x.1 x.2 0 most 0 4 (by omega)
 have hb:=b3K s x.1
 have hg:=a7b s x.1
 have e:a2X s x.1 x.2 0 most 0 4=a1j s most x:=by
  simp only[a2X,a5q,a5O,a1j]
  by_cases h1:x.2=0
  ·by_cases h2:(nx s x.1).2.2=0
   ·by_cases h4:most<(nx s x.1).1<;>simp[h1,h2,h4,show ¬ (nx s x.1).1<0 by omega]
   ·have h5:=(hb h2).1
    simp[h1,h2,h5,show ¬ most<0 by omega]
  ·simp[h1,show ¬ most<0 by omega]
 rw[e]at hW
 refine a4B _ _ _ (by simp) ?_
 simp only[a2S];refine sxRde ?_
 repeat' ((first|exact tt|refine c1 (hW) ?_|refine na fun b=>?_|refine nb fun b hb=>?_|refine iq ?_|(refine jq ?_ ?_<;>intro h h')|refine Two_intro ?_ ?_|exact wZ|fail)<;>try refine sxRde ?_)
 all_goals exact ro_mk (by simp[LeL,lk,a0z,arR,rd]) dom1
theorem c0P(b:Nat)(s:List UInt8)(x:Int × Int):CT Tryz.prog 122 [.ptr b 0] (lk [(b,rd s x.1 x.2)]) (fun r o=>r=.int .i64 x.2∧o=lk [(b,rd s x.1 x.2)]):=by
 refine a5B _ _ _ (by simp) ?_
 simp only[a3x];refine sxRde ?_
 repeat' ((first|exact tt|refine na fun b=>?_|refine nb fun b hb=>?_|refine iq ?_|(refine jq ?_ ?_<;>intro h h')|refine Two_intro ?_ ?_|exact wZ|fail)<;>try refine sxRde ?_)
 all_goals exact ro_mk (by simp[LeL,lk,a0z,arR,rd]) dom1
theorem b3S(b:Nat)(s:List UInt8)(x:Int × Int)(most:Int)(hs:s.length≤281474976710656):
  CT Tryz.prog 196 [.ptr b 0,.int .i64 most] (lk [(b,rr s x)])
   (fun r o=>r=.int .i64 (a1j s most x).1∧o=lk [(b,rr s (a1j s most x).2)]):=by
 refine a4X _ _ _ (by simp) ?_
 simp only[a3f];refine sxRde ?_
 repeat' ((first|exact tt|refine CallW_intro (a8s _ _ (by omega)) ?_|refine na fun b=>?_|refine nb fun b hb=>?_|refine iq ?_|(refine jq ?_ ?_<;>intro h h')|refine Two_intro ?_ ?_|exact wZ|fail)<;>try refine sxRde ?_)
 all_goals (try simp only[a0a,Hn]at *)
 all_goals first
  | (exact ro_mk (by simp[LeL,lk,a0z,arR,rr,a1j, *]) dom1)
  | (exact ro_mk (by simp[LeL,lk,a0z,arR,rr,a1j, *];omega) dom1)
  | skip
theorem b6h(b:Nat)(s:List UInt8)(x:Int × Int)(hs:s.length≤281474976710656)(hx:inT s x):
  CT Tryz.prog 279 [.ptr b 0] (lk [(b,rd s x.1 x.2)])
   (fun r o=>r=.agg [.str (a0w s 12 x).1,.int .i64 (a1F s 0 999 (a0w s 12 x).2).1]∧o=lk [(b,rd s (a1F s 0 999 (a0w s 12 x).2).2.1 (a1F s 0 999 (a0w s 12 x).2).2.2)]):=by
 have h1:=a6G b s x 12 hs (by omega) hx
 generalize a0w s 12 x=a at *
 have h2:=a6j b s a.2 0 999 hs
 generalize a1F s 0 999 a.2=c at *
 refine a8P _ _ _ (by simp) ?_
 simp only[a6R];refine sxRde ?_
 repeat' ((first|exact tt|refine c1 (h1) ?_|refine c1 (h2) ?_|refine na fun b=>?_|refine nb fun b hb=>?_|refine iq ?_|(refine jq ?_ ?_<;>intro h h')|refine Two_intro ?_ ?_|exact wZ|fail)<;>try refine sxRde ?_)
 all_goals exact ro_mk (by simp[LeL,lk,hb,a0z,arR,view,ldR,rd]) dom1
theorem b7t(b:Nat)(s:List UInt8)(x:Int × Int)(hs:s.length≤281474976710656)(hx:inT s x):
  CT Tryz.prog 230 [.ptr b 0] (lk [(b,rd s x.1 x.2)])
   (fun r o=>r=.agg (a7y s x).1.cs∧o=lk [(b,rd s (a7y s x).2.1 (a7y s x).2.2)]):=by
 have h1:=b6h b s x hs hx
 have i2:=a0Z s 0 999 _ (a1g s 12 x hx)
 have h2:=b6h b s _ hs i2
 have i4:=a0Z s 0 999 _ (a1g s 12 _ i2)
 have h5:=a6j b s (a1F s 0 999 (a0w s 12 (a1F s 0 999 (a0w s 12 x).2).2).2).2 1 mxH hs
 have i5:=a0Z s 1 mxH _ i4
 have h6:=a6G b s _ 200 hs (by omega) i5
 unfold a7y
 simp only
 generalize (a0w s 12 x)=a at *
 generalize (a1F s 0 999 a.2)=c at *
 generalize (a0w s 12 c.2)=d at *
 generalize (a1F s 0 999 d.2)=e at *
 generalize (a1F s 1 mxH e.2)=q at *
 generalize (a0w s 200 q.2)=t at *
 have h7:=a6j b s t.2 0 mxH hs
 generalize (a1F s 0 mxH t.2)=u at *
 have h8:=a6j b s u.2 0 mxH hs
 generalize (a1F s 0 mxH u.2)=v at *
 clear i2 i4 i5
 simp only[mxH]at h5 h7 h8
 refine a8p _ _ _ (by simp) ?_
 simp only[a5J];refine sxRde ?_
 repeat' ((first|exact tt|refine c1 (h1) ?_|refine c1 (h2) ?_|refine c1 (h5) ?_|refine c1 (h6) ?_|refine c1 (h7) ?_|refine c1 (h8) ?_|refine na fun b=>?_|refine nb fun b hb=>?_|refine iq ?_|(refine jq ?_ ?_<;>intro h h')|refine Two_intro ?_ ?_|exact wZ|fail)<;>try refine sxRde ?_)
 rename_i b2 hb2
 exact ro_mk (by simp[LeL,lk,hb,hb2,a0z,arR,view,ldR,rd]) dom1
theorem b4d(b:Nat)(s:List UInt8)(x:Int × Int)(hs:s.length≤281474976710656):
  CT Tryz.prog 249 [.ptr b 0] (lk [(b,rr s x)])
   (fun r o=>r=.agg (a7y s x).1.cs∧o=lk [(b,rr s (a7y s x).2)]):=by
 have h1:=a3U b s x 12 hs
 have h2:=a3m b s (a0w s 12 x).2 0 999 hs
 have h3:=a3U b s (a1F s 0 999 (a0w s 12 x).2).2 12 hs
 unfold a7y
 simp only
 generalize (a0w s 12 x)=a at *
 generalize (a1F s 0 999 a.2)=c at *
 generalize (a0w s 12 c.2)=d at *
 have h4:=a3m b s d.2 0 999 hs
 generalize (a1F s 0 999 d.2)=e at *
 have h5:=a3m b s e.2 1 mxH hs
 generalize (a1F s 1 mxH e.2)=q at *
 have h6:=a3U b s q.2 200 hs
 generalize (a0w s 200 q.2)=t at *
 have h7:=a3m b s t.2 0 mxH hs
 generalize (a1F s 0 mxH t.2)=u at *
 have h8:=a3m b s u.2 0 mxH hs
 generalize (a1F s 0 mxH u.2)=v at *
 simp only[mxH]at h5 h7 h8
 refine a4A _ _ _ (by simp) ?_
 simp only[a2Q];refine sxRde ?_
 repeat' ((first|exact tt|refine c1 (h1) ?_|refine c1 (h2) ?_|refine c1 (h3) ?_|refine c1 (h4) ?_|refine c1 (h5) ?_|refine c1 (h6) ?_|refine c1 (h7) ?_|refine c1 (h8) ?_|refine na fun b=>?_|refine nb fun b hb=>?_|refine iq ?_|(refine jq ?_ ?_<;>intro h h')|refine Two_intro ?_ ?_|exact wZ|fail)<;>try refine sxRde ?_)
 rename_i b2 hb2
 exact ro_mk (by simp[LeL,lk,hb,hb2,a0z,arR,view,ldR,rr]) dom1
end
section
open Go.RowKit
set_option maxRecDepth 100000
theorem pkz:(default:PktC)=⟨[],0,[],0,0,[],0,0⟩:=rfl
theorem evz:(default:EvC)=⟨0,⟨[],0,[],0,0,[],0,0⟩,[],[],0,0⟩:=rfl
theorem sxRdf{A B:Prop}(h:B)(e:A=B:=by (simp (disch:=omega) only[*, ↓Ed,Eu, ↓reduceIte,reduceCtorEq,Nat.reduceAdd,Nat.reduceEqDiff,Nat.reduceLT,Nat.reduceLeDiff,Int.reduceToNat,Int.reduceEq,Int.reduceLT,Int.reduceLE,w64,List.length_append,List.length_map,PktC.cs,EvC.cs,Int.reduceAdd,pkz,evz];first|done|rfl)):A:=e▸h
theorem b7s(b:Nat)(s:List UInt8)(x:Int × Int)(hs:s.length≤281474976710656)(hx:inT s x):
  CT Tryz.prog 186 [.ptr b 0] (lk [(b,rd s x.1 x.2)])
   (fun r o=>r=.agg (a1n s x).1.cs∧o=lk [(b,rd s (a1n s x).2.1 (a1n s x).2.2)]):=by
 have hk:=a6j b s x 1 7 hs
 have hc:=b2X s 1 7 x
 have ik:=a0Z s 1 7 x hx
 unfold a1n
 simp only
 generalize a1F s 1 7 x=k at *
 have hP:=a9X k.1
 have hR:=b7t b s k.2 hs ik
 have iR:=b7v s k.2 ik
 refine a8O _ _ _ (by simp) ?_
 by_cases h6:k.1=6
 ·rw[if_pos h6]
  rw[decide_eq_false (by omega:¬ (1≤k.1∧k.1≤5))]at hP
  have t1:=a6G b s k.2 12 hs (by omega) ik
  generalize a0w s 12 k.2=a at *
  have t2:=a6j b s a.2 0 999 hs
  generalize a1F s 0 999 a.2=c at *
  have f3:a0a (decide (k.1=3)=false):=fo
  have f6:a0a (decide (k.1=6)=true):=fo
  clear h6 hc ik iR hR
  simp only[a1Y];refine sxRdf ?_
  repeat' ((first|exact tt|refine c1 (hk) ?_|refine CallO_pure (hP) ?_|refine c1 (t1) ?_|refine c1 (t2) ?_|refine na fun b=>?_|refine nb fun b hb=>?_|refine iq ?_|(refine jq ?_ ?_<;>intro h h')|refine Two_intro ?_ ?_|exact wZ|fail)<;>try refine sxRdf ?_)
  rename_i b2 hb2
  exact ro_mk (by simp[LeL,lk,hb,hb2,a0z,arR,view,ldR,rd,pkz]) dom1
 rw[if_neg h6]
 have f6:a0a (decide (k.1=6)=false):=fo
 by_cases h7:k.1=7
 ·rw[if_pos h7]
  rw[decide_eq_false (by omega:¬ (1≤k.1∧k.1≤5))]at hP
  have t2:=a6j b s k.2 1 mxH hs
  generalize a1F s 1 mxH k.2=c at *
  have f3:a0a (decide (k.1=3)=false):=fo
  have f7:a0a (decide (k.1=7)=true):=fo
  simp only[mxH]at t2
  clear h6 h7 hc ik iR hR
  simp only[a1Y];refine sxRdf ?_
  repeat' ((first|exact tt|refine c1 (hk) ?_|refine CallO_pure (hP) ?_|refine c1 (t2) ?_|refine na fun b=>?_|refine nb fun b hb=>?_|refine iq ?_|(refine jq ?_ ?_<;>intro h h')|refine Two_intro ?_ ?_|exact wZ|fail)<;>try refine sxRdf ?_)
  rename_i b2 hb2
  exact ro_mk (by simp[LeL,lk,hb,hb2,a0z,arR,view,ldR,rd,pkz]) dom1
 rw[if_neg h7]
 have f7:a0a (decide (k.1=7)=false):=fo
 by_cases h3:k.1=3
 ·rw[if_pos h3]
  rw[decide_eq_true (by omega:(1≤k.1∧k.1≤5))]at hP
  have t2:=a6G b s _ 32 hs (by omega) iR
  generalize a7y s k.2=p at *
  generalize a0w s 32 p.2=c at *
  have f3:a0a (decide (k.1=3)=true):=fo
  clear h6 h7 h3 hc ik iR
  simp only[a1Y];refine sxRdf ?_
  repeat' ((first|exact tt|refine c1 (hk) ?_|refine CallO_pure (hP) ?_|refine c1 (hR) ?_|refine c1 (t2) ?_|refine na fun b=>?_|refine nb fun b hb=>?_|refine iq ?_|(refine jq ?_ ?_<;>intro h h')|refine Two_intro ?_ ?_|exact wZ|fail)<;>try refine sxRdf ?_)
  rename_i b2 hb2
  exact ro_mk (by simp[LeL,lk,hb,hb2,a0z,arR,view,ldR,rd,pkz]) dom1
 rw[if_neg h3]
 have f3:a0a (decide (k.1=3)=false):=fo
 by_cases h5:1≤k.1∧k.1≤5
 ·rw[decide_eq_true h5]at hP
  generalize a7y s k.2=p at *
  clear h6 h7 h3 hc ik iR h5
  simp only[a1Y];refine sxRdf ?_
  repeat' ((first|exact tt|refine c1 (hk) ?_|refine CallO_pure (hP) ?_|refine c1 (hR) ?_|refine na fun b=>?_|refine nb fun b hb=>?_|refine iq ?_|(refine jq ?_ ?_<;>intro h h')|refine Two_intro ?_ ?_|exact wZ|fail)<;>try refine sxRdf ?_)
  rename_i b2 hb2
  exact ro_mk (by simp[LeL,lk,hb,hb2,a0z,arR,view,ldR,rd,pkz]) dom1
 ·rw[decide_eq_false h5]at hP
  have he:k.2.2≠0:=by
   rcases hc with ⟨_,h⟩ | ⟨h1,h2,_⟩
   ·exact h
   ·omega
  rw[b2n s k.2 he]
  clear h6 h7 h3 hc ik iR h5 he hR
  simp only[a1Y];refine sxRdf ?_
  repeat' ((first|exact tt|refine c1 (hk) ?_|refine CallO_pure (hP) ?_|refine na fun b=>?_|refine nb fun b hb=>?_|refine iq ?_|(refine jq ?_ ?_<;>intro h h')|refine Two_intro ?_ ?_|exact wZ|fail)<;>try refine sxRdf ?_)
  rename_i b2 hb2
  exact ro_mk (by simp[LeL,lk,hb,hb2,a0z,arR,view,ldR,rd,pkz]) dom1
theorem b6i(b:Nat)(s:List UInt8)(x:Int × Int):CT Tryz.prog 124 [.ptr b 0] (lk [(b,rd s x.1 x.2)]) (fun r o=>r=.int .i64 (rend s x)∧o=lk [(b,rd s x.1 x.2)]):=c0L b s x.1 x.2
theorem b8T(s:List UInt8)(hs:s.length≤1000000):CP Tryz.prog 123 [.str s] (.tup [.agg (a6W s).1.cs,.int .i64 (a6W s).2]):=by
 have hN:=b6b s 0 (by omega)
 refine a8h _ _ (by simp) ?_
 by_cases h0:(nx s 0).2.2=0
 rotate_left
 ·rw[b4B s h0]
  have f1:a0a (decide ((nx s 0).2.2=0)=false):=by simp only[a0a,Hn];exact h0
  clear h0
  generalize nx s 0=n at *
  simp only[a1O];refine sxRdf ?_
  repeat' ((first|exact tt|refine CallO_pure (hN) ?_|refine na fun b=>?_|refine nb fun b hb=>?_|refine iq ?_|(refine jq ?_ ?_<;>intro h h')|refine Two_intro ?_ ?_|exact wZ|fail)<;>try refine sxRdf ?_)
  all_goals trace_state
 rw[h0]at hN
 clear h0
 have hR:=fun b=>b7s b s (0,0) (by omega) ⟨by simp,by simp⟩
 have hl:=a6H s (0,0)
 have hE:=fun b=>b6i b s (a1n s (0,0)).2
 have hM:=b2g (a1n s (0,0)).1 (by omega) (by omega) (by omega) (by omega) (by omega)
 unfold a6W
 generalize a1n s (0,0)=v at *
 generalize rend s v.2=e at *
 clear hl
 generalize nx s 0=n at *
 by_cases he:e=0
 rotate_left
 ·rw[if_pos he]
  have f1:a0a (decide (e=0)=false):=by simp only[a0a,Hn];exact he
  clear he hM
  simp only[a1O];refine sxRdf ?_
  repeat' ((first|exact tt|refine CallO_pure (hN) ?_|refine CallO_new (b9T s) ?_|refine c1 (hR _) ?_|refine c1 (hE _) ?_|refine na fun b=>?_|refine nb fun b hb=>?_|refine iq ?_|(refine jq ?_ ?_<;>intro h h')|refine Two_intro ?_ ?_|exact wZ|fail)<;>try refine sxRdf ?_)
  all_goals trace_state
 rw[if_neg (by simp[he])]
 rw[he]at hE
 clear he
 cases hm:a1e v.1
 ·rw[if_pos rfl]
  rw[hm]at hM
  clear hm
  simp only[a1O];refine sxRdf ?_
  repeat' ((first|exact tt|refine CallO_pure (hN) ?_|refine CallO_new (b9T s) ?_|refine c1 (hR _) ?_|refine c1 (hE _) ?_|refine CallO_pure (hM) ?_|refine na fun b=>?_|refine nb fun b hb=>?_|refine iq ?_|(refine jq ?_ ?_<;>intro h h')|refine Two_intro ?_ ?_|exact wZ|fail)<;>try refine sxRdf ?_)
  all_goals trace_state
 ·rw[if_neg (by simp)]
  rw[hm]at hM
  clear hm
  simp only[a1O];refine sxRdf ?_
  repeat' ((first|exact tt|refine CallO_pure (hN) ?_|refine CallO_new (b9T s) ?_|refine c1 (hR _) ?_|refine c1 (hE _) ?_|refine CallO_pure (hM) ?_|refine na fun b=>?_|refine nb fun b hb=>?_|refine iq ?_|(refine jq ?_ ?_<;>intro h h')|refine Two_intro ?_ ?_|exact wZ|fail)<;>try refine sxRdf ?_)
  all_goals trace_state
end
section
open Go.RowKit
set_option maxRecDepth 100000
theorem sxRdg{A B:Prop}(h:B)(e:A=B:=by (simp (disch:=omega) only[*, ↓Ed,Eu, ↓reduceIte,reduceCtorEq,Nat.reduceAdd,Nat.reduceEqDiff,Nat.reduceLT,Nat.reduceLeDiff,Int.reduceToNat,Int.reduceEq,Int.reduceLT,Int.reduceLE,w64,List.length_append,List.length_map,PktC.cs,EvC.cs,Int.reduceAdd,pkz,evz];first|done|rfl)):A:=e▸h
set_option maxHeartbeats 1000000 in
theorem c0R(s:List UInt8)(hs:s.length≤1000000):CP Tryz.prog 197 [.str s] (.tup [.agg (a6W s).1.cs,.int .i64 (a6W s).2]):=by
 have hk:=fun b=>a3m b s (0,0) 1 7 (by omega)
 have hl:=a6H s (0,0)
 have hE:=fun b=>b3T b s (a1n s (0,0)).2
 have hM:=a6F (a1n s (0,0)).1 (by omega) (by omega) (by omega) (by omega) (by omega)
 refine a4g _ _ (by simp) ?_
 unfold a6W
 generalize hv:a1n s (0,0)=v at *
 unfold a1n at hv
 simp only at hv
 generalize hkk:a1F s 1 7 (0,0)=k at *
 clear hl
 have hR:=fun b=>b4d b s k.2 (by omega)
 have fin:∀ e:Int,rend s v.2=e→((e≠0∧a0a (decide (e=0)=false))∨(e=0∧a1e v.1=false)∨(e=0∧a1e v.1=true)):=fun e _=>by
  by_cases h:e=0
  ·cases hm:a1e v.1
   ·exact .inr (.inl ⟨h,rfl⟩)
   ·exact .inr (.inr ⟨h,rfl⟩)
  ·exact .inl ⟨h,by simp only[a0a,Hn];exact h⟩
 have fin':=fin _ rfl
 clear fin
 generalize rend s v.2=e at *
 generalize a1e v.1=m at *
 by_cases h6:k.1=6
 ·rw[if_pos h6]at hv
  have t1:=fun b=>a3U b s k.2 12 (by omega)
  generalize a0w s 12 k.2=a at *
  have t2:=fun b=>a3m b s a.2 0 999 (by omega)
  generalize a1F s 0 999 a.2=c at *
  have f6:a0a (decide (k.1=6)=true):=fo
  subst hv
  clear h6 hkk hR
  rcases fin' with ⟨g1,g2⟩ | ⟨rfl,rfl⟩ | ⟨rfl,rfl⟩
  ·rw[if_pos g1]
   clear g1 hM
   simp only[a0j];refine sxRdg ?_
   repeat' ((first|exact tt|refine c1 (hk _) ?_|refine c1 (t1 _) ?_|refine c1 (t2 _) ?_|refine c1 (hE _) ?_|refine na fun b=>?_|refine nb fun b hb=>?_|refine iq ?_|(refine jq ?_ ?_<;>intro h h')|refine Two_intro ?_ ?_|exact wZ|fail)<;>try refine sxRdg ?_)
  ·rw[if_neg (by simp),if_pos rfl]
   simp only[a0j];refine sxRdg ?_
   repeat' ((first|exact tt|refine c1 (hk _) ?_|refine c1 (t1 _) ?_|refine c1 (t2 _) ?_|refine c1 (hE _) ?_|refine CallO_pure (hM) ?_|refine na fun b=>?_|refine nb fun b hb=>?_|refine iq ?_|(refine jq ?_ ?_<;>intro h h')|refine Two_intro ?_ ?_|exact wZ|fail)<;>try refine sxRdg ?_)
  ·rw[if_neg (by simp),if_neg (by simp)]
   simp only[a0j];refine sxRdg ?_
   repeat' ((first|exact tt|refine c1 (hk _) ?_|refine c1 (t1 _) ?_|refine c1 (t2 _) ?_|refine c1 (hE _) ?_|refine CallO_pure (hM) ?_|refine na fun b=>?_|refine nb fun b hb=>?_|refine iq ?_|(refine jq ?_ ?_<;>intro h h')|refine Two_intro ?_ ?_|exact wZ|fail)<;>try refine sxRdg ?_)
 rw[if_neg h6]at hv
 have f6:a0a (decide (k.1=6)=false):=fo
 by_cases h7:k.1=7
 ·rw[if_pos h7]at hv
  have t2:=fun b=>a3m b s k.2 1 mxH (by omega)
  simp only[mxH]at t2
  generalize a1F s 1 1099511627776 k.2=c at *
  have f7:a0a (decide (k.1=7)=true):=fo
  subst hv
  clear h6 h7 hkk hR
  rcases fin' with ⟨g1,g2⟩ | ⟨rfl,rfl⟩ | ⟨rfl,rfl⟩
  ·rw[if_pos g1]
   clear g1 hM
   simp only[a0j];refine sxRdg ?_
   repeat' ((first|exact tt|refine c1 (hk _) ?_|refine c1 (t2 _) ?_|refine c1 (hE _) ?_|refine na fun b=>?_|refine nb fun b hb=>?_|refine iq ?_|(refine jq ?_ ?_<;>intro h h')|refine Two_intro ?_ ?_|exact wZ|fail)<;>try refine sxRdg ?_)
  ·rw[if_neg (by simp),if_pos rfl]
   simp only[a0j];refine sxRdg ?_
   repeat' ((first|exact tt|refine c1 (hk _) ?_|refine c1 (t2 _) ?_|refine c1 (hE _) ?_|refine CallO_pure (hM) ?_|refine na fun b=>?_|refine nb fun b hb=>?_|refine iq ?_|(refine jq ?_ ?_<;>intro h h')|refine Two_intro ?_ ?_|exact wZ|fail)<;>try refine sxRdg ?_)
  ·rw[if_neg (by simp),if_neg (by simp)]
   simp only[a0j];refine sxRdg ?_
   repeat' ((first|exact tt|refine c1 (hk _) ?_|refine c1 (t2 _) ?_|refine c1 (hE _) ?_|refine CallO_pure (hM) ?_|refine na fun b=>?_|refine nb fun b hb=>?_|refine iq ?_|(refine jq ?_ ?_<;>intro h h')|refine Two_intro ?_ ?_|exact wZ|fail)<;>try refine sxRdg ?_)
 rw[if_neg h7]at hv
 have f7:a0a (decide (k.1=7)=false):=fo
 by_cases h3:k.1=3
 ·rw[if_pos h3]at hv
  generalize a7y s k.2=p at *
  have t2:=fun b=>a3U b s p.2 32 (by omega)
  generalize a0w s 32 p.2=c at *
  have f3:a0a (decide (k.1=3)=true):=fo
  subst hv
  clear h6 h7 h3 hkk
  rcases fin' with ⟨g1,g2⟩ | ⟨rfl,rfl⟩ | ⟨rfl,rfl⟩
  ·rw[if_pos g1]
   clear g1 hM
   simp only[a0j];refine sxRdg ?_
   repeat' ((first|exact tt|refine c1 (hk _) ?_|refine c1 (hR _) ?_|refine c1 (t2 _) ?_|refine c1 (hE _) ?_|refine na fun b=>?_|refine nb fun b hb=>?_|refine iq ?_|(refine jq ?_ ?_<;>intro h h')|refine Two_intro ?_ ?_|exact wZ|fail)<;>try refine sxRdg ?_)
  ·rw[if_neg (by simp),if_pos rfl]
   simp only[a0j];refine sxRdg ?_
   repeat' ((first|exact tt|refine c1 (hk _) ?_|refine c1 (hR _) ?_|refine c1 (t2 _) ?_|refine c1 (hE _) ?_|refine CallO_pure (hM) ?_|refine na fun b=>?_|refine nb fun b hb=>?_|refine iq ?_|(refine jq ?_ ?_<;>intro h h')|refine Two_intro ?_ ?_|exact wZ|fail)<;>try refine sxRdg ?_)
  ·rw[if_neg (by simp),if_neg (by simp)]
   simp only[a0j];refine sxRdg ?_
   repeat' ((first|exact tt|refine c1 (hk _) ?_|refine c1 (hR _) ?_|refine c1 (t2 _) ?_|refine c1 (hE _) ?_|refine CallO_pure (hM) ?_|refine na fun b=>?_|refine nb fun b hb=>?_|refine iq ?_|(refine jq ?_ ?_<;>intro h h')|refine Two_intro ?_ ?_|exact wZ|fail)<;>try refine sxRdg ?_)
 rw[if_neg h3]at hv
 have f3:a0a (decide (k.1=3)=false):=fo
 generalize a7y s k.2=p at *
 subst hv
 clear h6 h7 h3 hkk
 rcases fin' with ⟨g1,g2⟩ | ⟨rfl,rfl⟩ | ⟨rfl,rfl⟩
 ·rw[if_pos g1]
  clear g1 hM
  simp only[a0j];refine sxRdg ?_
  repeat' ((first|exact tt|refine c1 (hk _) ?_|refine c1 (hR _) ?_|refine c1 (hE _) ?_|refine na fun b=>?_|refine nb fun b hb=>?_|refine iq ?_|(refine jq ?_ ?_<;>intro h h')|refine Two_intro ?_ ?_|exact wZ|fail)<;>try refine sxRdg ?_)
 ·rw[if_neg (by simp),if_pos rfl]
  simp only[a0j];refine sxRdg ?_
  repeat' ((first|exact tt|refine c1 (hk _) ?_|refine c1 (hR _) ?_|refine c1 (hE _) ?_|refine CallO_pure (hM) ?_|refine na fun b=>?_|refine nb fun b hb=>?_|refine iq ?_|(refine jq ?_ ?_<;>intro h h')|refine Two_intro ?_ ?_|exact wZ|fail)<;>try refine sxRdg ?_)
 ·rw[if_neg (by simp),if_neg (by simp)]
  simp only[a0j];refine sxRdg ?_
  repeat' ((first|exact tt|refine c1 (hk _) ?_|refine c1 (hR _) ?_|refine c1 (hE _) ?_|refine CallO_pure (hM) ?_|refine na fun b=>?_|refine nb fun b hb=>?_|refine iq ?_|(refine jq ?_ ?_<;>intro h h')|refine Two_intro ?_ ?_|exact wZ|fail)<;>try refine sxRdg ?_)
end
section
open Go.RowKit
set_option maxRecDepth 100000
structure BlkC where
 c:List UInt8
 h:Int
 t:Int
 e:List EvC
 deriving DecidableEq,Inhabited
abbrev BlkC.cs(b:BlkC):List AV:=[.str b.c,.int .i64 b.h,.int .i64 b.t,.sl none 13 (evl b.e)]
def evS(e:EvC):Prop:=e.p.s.length≤1000000∧e.p.d.length≤1000000∧e.p.x.length≤1000000∧e.e.length≤1000000∧e.a.length≤1000000
def a8F(l:List EvC):Prop:=l.length≤2000000000∧∀ i,i<l.length→evS (l.getD i default)
noncomputable def a3J (b:BlkC):Bool:=a2T b.c&&decide (1≤b.h∧b.h≤mxH)&&decide (0≤b.t∧b.t≤mxH)&&(decide (b.e.length≤1073741824)&&b.e.all a1e)
theorem all_take{l:List EvC}{f:EvC→Bool}{k:Nat}(h:k<l.length):(l.take (k+1)).all f=((l.take k).all f&&f (l.getD k default)):=by
 rw[List.take_succ,List.getElem?_eq_getElem h]
 show (l.take k++[l[k]]).all f=_
 rw[List.all_append];simp[List.getD,h]
theorem all_no{l:List EvC}{f:EvC→Bool}{k:Nat}(h:k<l.length)(hf:f (l.getD k default)=false):l.all f=false:=by
 rw[List.all_eq_false]
 exact ⟨l[k],List.getElem_mem h,by simpa[List.getD,h]using hf⟩
theorem h_eMay{l:List EvC}(h:a8F l){i:Nat}(hi:i<l.length):CP Tryz.prog 133 [.agg (l.getD i default).cs] (.bool (a1e (l.getD i default))):=by
 obtain ⟨h1,h2,h3,h4,h5⟩:=h.2 i hi
 exact b2g _ h1 h2 h3 h4 h5
theorem h_rMay{l:List EvC}(h:a8F l){i:Nat}(hi:i<l.length):CP Tryz.prog 177 [.agg (l.getD i default).cs] (.bool (a1e (l.getD i default))):=by
 obtain ⟨h1,h2,h3,h4,h5⟩:=h.2 i hi
 exact a6F _ h1 h2 h3 h4 h5
theorem sxBka{A B:Prop}(h:B)(e:A=B:=by (simp (disch:=omega) only[*, ↓Ed,Eu, ↓reduceIte,reduceCtorEq,Nat.reduceAdd,Nat.reduceEqDiff,Nat.reduceLT,Nat.reduceLeDiff,Int.reduceToNat,Int.reduceEq,Int.reduceLT,Int.reduceLE,w64,List.length_append,List.length_map,PktC.cs,EvC.cs,BlkC.cs,Int.reduceAdd,a0D,gdE,b0u];first|done|rfl)):A:=e▸h
theorem b8G(l m:List EvC)(hl:l.length≤2000000000)(hm:m.length≤2000000000):CP Tryz.prog 67 [.sl none 13 (evl l),.sl none 13 (evl m)] (.bool (decide (l=m))):=by
 refine a1W _ _ (by simp) ?_
 by_cases hlm:l.length=m.length
 rotate_left
 ·rw[decide_eq_false (fun e=>hlm (by rw[e]))]
  have f1:a0a (decide ((l.length:Int)=m.length)=false):=fo
  clear hlm
  simp only[a0C];refine sxBka ?_
  repeat' ((first|exact tt|refine na fun b=>?_|refine nb fun b hb=>?_|refine iq ?_|(refine jq ?_ ?_<;>intro h h')|refine Two_intro ?_ ?_|exact wZ|fail)<;>try refine sxBka ?_)
 have f1:a0a (decide ((l.length:Int)=m.length)=true):=fo
 have hlm':a0a (l.length=m.length):=hlm
 clear hlm
 simp only[a0C];refine sxBka ?_
 repeat' ((first|exact tt|refine na fun b=>?_|refine nb fun b hb=>?_|refine iq ?_|(refine jq ?_ ?_<;>intro h h')|refine Two_intro ?_ ?_|exact wZ|fail)<;>try refine sxBka ?_)
 clear f1
 refine wpx_loop (fun k:Nat=>⟨lk [(0,.sl none 13 (evl l)),(1,.sl none 13 (evl m)),(12,.int .i64 (l.length:Int)),(13,.int .i64 (k:Int))],lk []⟩) (fun k=>k≤l.length∧a0a (∀ j,j<k→l.getD j default=m.getD j default)) (fun k=>l.length - k) 0 ⟨by omega,fun j hj=>by omega⟩ (Le_lit (by simp[LeL,lk])) ?_
 rintro k ⟨k1,k2⟩
 by_cases hk:k<l.length
 ·have f2:a0a (decide ((k:Int)<l.length)=true):=fo
  have hkm:k<m.length:=by have:=(show l.length=m.length from hlm');omega
  by_cases he:l.getD k default=m.getD k default
  ·have k3:a0a (∀ j,j<k+1→l.getD j default=m.getD j default):=fun j hj=>by
    by_cases e:j=k
    ·subst e;exact he
    ·exact k2 j (by omega)
   have d1:a0a (decide (l.getD k default=m.getD k default)=true):=decide_eq_true he
   clear he k2
   generalize hx:l.getD k default=x at *
   generalize hy:m.getD k default=y at *
   refine sxBka ?_
   repeat' ((first|exact tt|refine na fun b=>?_|refine nb fun b hb=>?_|refine iq ?_|(refine jq ?_ ?_<;>intro h h')|refine Two_intro ?_ ?_|exact wZ|fail)<;>try refine sxBka ?_)
   all_goals exact Round_lit (k+1) ⟨Le_lit (by simp[LeL,lk]),⟨by omega,k3⟩,by omega⟩
  ·have d1:a0a (decide (l.getD k default=m.getD k default)=false):=decide_eq_false he
   rw[decide_eq_false (fun e=>he (by rw[e]))]
   clear he k2
   generalize hx:l.getD k default=x at *
   generalize hy:m.getD k default=y at *
   refine sxBka ?_
   repeat' ((first|exact tt|refine na fun b=>?_|refine nb fun b hb=>?_|refine iq ?_|(refine jq ?_ ?_<;>intro h h')|refine Two_intro ?_ ?_|exact wZ|fail)<;>try refine sxBka ?_)
 obtain rfl:k=l.length:=by omega
 have f2:a0a (decide ((l.length:Int)<l.length)=false):=fo
 rw[decide_eq_true (List.ext_getElem hlm' fun j h1 h2=>by
  have:=k2 j h1
  simpa[List.getD,h1,h2]using this)]
 clear k2
 refine sxBka ?_
 repeat' ((first|exact tt|refine na fun b=>?_|refine nb fun b hb=>?_|refine iq ?_|(refine jq ?_ ?_<;>intro h h')|refine Two_intro ?_ ?_|exact wZ|fail)<;>try refine sxBka ?_)
theorem b6Y(a b:BlkC)(ha:a.e.length≤2000000000)(hb:b.e.length≤2000000000):CP Tryz.prog 18 [.agg a.cs,.agg b.cs] (.bool (decide (a=b))):=by
 have hE:=b8G a.e b.e ha hb
 refine a9J _ _ (by simp) ?_
 have hd:decide (a=b)=(decide (a.c=b.c)&&(decide (a.h=b.h)&&(decide (a.t=b.t)&&decide (a.e=b.e)))):=by
  obtain ⟨a1,a2,a3,a4⟩:=a;obtain ⟨b1,b2,b3,b4⟩:=b
  rw[Bool.eq_iff_iff];simp
 rw[hd]
 clear hd
 generalize hc:decide (a.c=b.c)=d1 at *
 generalize hh:decide (a.h=b.h)=d2 at *
 generalize ht:decide (a.t=b.t)=d3 at *
 generalize decide (a.e=b.e)=d4 at *
 cases d1<;>cases d2<;>cases d3
 all_goals (simp only[a6N];refine sxBka ?_;try exact tt)
 all_goals repeat' ((first|exact tt|refine CallO_pure (hE) ?_|refine na fun b=>?_|refine nb fun b hb=>?_|refine iq ?_|(refine jq ?_ ?_<;>intro h h')|refine Two_intro ?_ ?_|exact wZ|fail)<;>try refine sxBka ?_)
 all_goals rfl
theorem b1y(a q:BlkC)(ha:a.e.length≤2000000000)(hq:q.e.length≤2000000000):CP Tryz.prog 19 [.agg a.cs,.agg q.cs] (.bool (decide (a=q))):=by
 refine a4T _ _ (by simp) ?_
 have hd:decide (a=q)=(decide (a.c=q.c)&&(decide (a.h=q.h)&&(decide (a.t=q.t)&&decide (a.e=q.e)))):=by
  obtain ⟨a1,a2,a3,a4⟩:=a;obtain ⟨b1,b2,b3,b4⟩:=q
  rw[Bool.eq_iff_iff];simp
 rw[hd]
 clear hd
 obtain ⟨ac,ah,at',l⟩:=a
 obtain ⟨qc,qh,qt,m⟩:=q
 simp only at ha hq ⊢
 generalize hc:decide (ac=qc)=d1 at *
 generalize hh:decide (ah=qh)=d2 at *
 generalize ht:decide (at'=qt)=d3 at *
 by_cases hlm:l.length=m.length
 rotate_left
 ·rw[decide_eq_false (fun e=>hlm (by rw[e]))]
  have f1:a0a (decide ((l.length:Int)=m.length)=false):=fo
  clear hlm
  cases d1<;>cases d2<;>cases d3
  all_goals (simp only[a0M];refine sxBka ?_;try exact tt)
  all_goals repeat' ((first|exact tt|refine na fun b=>?_|refine nb fun b hb=>?_|refine iq ?_|(refine jq ?_ ?_<;>intro h h')|refine Two_intro ?_ ?_|exact wZ|fail)<;>try refine sxBka ?_)
  all_goals rfl
 have f1:a0a (decide ((l.length:Int)=m.length)=true):=fo
 have hlm':a0a (l.length=m.length):=hlm
 clear hlm
 cases d1
 ·simp only[a0M];refine sxBka ?_
  repeat' ((first|exact tt|refine na fun b=>?_|refine nb fun b hb=>?_|refine iq ?_|(refine jq ?_ ?_<;>intro h h')|refine Two_intro ?_ ?_|exact wZ|fail)<;>try refine sxBka ?_)
  all_goals rfl
 cases d2
 ·simp only[a0M];refine sxBka ?_
  repeat' ((first|exact tt|refine na fun b=>?_|refine nb fun b hb=>?_|refine iq ?_|(refine jq ?_ ?_<;>intro h h')|refine Two_intro ?_ ?_|exact wZ|fail)<;>try refine sxBka ?_)
  all_goals rfl
 cases d3
 ·simp only[a0M];refine sxBka ?_
  repeat' ((first|exact tt|refine na fun b=>?_|refine nb fun b hb=>?_|refine iq ?_|(refine jq ?_ ?_<;>intro h h')|refine Two_intro ?_ ?_|exact wZ|fail)<;>try refine sxBka ?_)
  all_goals rfl
 simp only[a0M];refine sxBka ?_
 repeat' ((first|exact tt|refine na fun b=>?_|refine nb fun b hb=>?_|refine iq ?_|(refine jq ?_ ?_<;>intro h h')|refine Two_intro ?_ ?_|exact wZ|fail)<;>try refine sxBka ?_)
 rename_i b1
 clear f1
 refine wpx_loop (fun k:Nat=>⟨lk [(2,.ptr b1 0),(3,.ptr b 0),(5,.int .i64 (k:Int))],lk [(b1,BlkC.cs ⟨ac,ah,at',l⟩),(b,BlkC.cs ⟨qc,qh,qt,m⟩)]⟩) (fun k=>k≤l.length∧a0a (∀ j,j<k→l.getD j default=m.getD j default)) (fun k=>l.length - k) 0 ⟨by omega,fun j hj=>by omega⟩ (Le_lit (by simp[LeL,lk,hb])) ?_
 rintro k ⟨k1,k2⟩
 by_cases hk:k<l.length
 ·have f2:a0a (decide ((k:Int)<l.length)=true):=fo
  have hkm:k<m.length:=by have:=(show l.length=m.length from hlm');omega
  by_cases he:l.getD k default=m.getD k default
  ·have k3:a0a (∀ j,j<k+1→l.getD j default=m.getD j default):=fun j hj=>by
    by_cases e:j=k
    ·subst e;exact he
    ·exact k2 j (by omega)
   have d1:a0a (decide (l.getD k default=m.getD k default)=true):=decide_eq_true he
   clear he k2
   generalize hx:l.getD k default=x at *
   generalize hy:m.getD k default=y at *
   refine sxBka ?_
   repeat' ((first|exact tt|refine na fun b=>?_|refine nb fun b hb=>?_|refine iq ?_|(refine jq ?_ ?_<;>intro h h')|refine Two_intro ?_ ?_|exact wZ|fail)<;>try refine sxBka ?_)
   all_goals exact Round_lit (k+1) ⟨Le_lit (by simp[LeL,lk,hb]),⟨by omega,k3⟩,by omega⟩
  ·have d1:a0a (decide (l.getD k default=m.getD k default)=false):=decide_eq_false he
   rw[decide_eq_false (fun e:l=m=>he (by rw[e]))]
   clear he k2
   generalize hx:l.getD k default=x at *
   generalize hy:m.getD k default=y at *
   refine sxBka ?_
   repeat' ((first|exact tt|refine na fun b=>?_|refine nb fun b hb=>?_|refine iq ?_|(refine jq ?_ ?_<;>intro h h')|refine Two_intro ?_ ?_|exact wZ|fail)<;>try refine sxBka ?_)
   all_goals rfl
 obtain rfl:k=l.length:=by omega
 have f2:a0a (decide ((l.length:Int)<l.length)=false):=fo
 rw[decide_eq_true (show l=m from List.ext_getElem hlm' fun j h1 h2=>by
  have:=k2 j h1
  simpa[List.getD,h1,h2]using this)]
 clear k2
 refine sxBka ?_
 repeat' ((first|exact tt|refine na fun b=>?_|refine nb fun b hb=>?_|refine iq ?_|(refine jq ?_ ?_<;>intro h h')|refine Two_intro ?_ ?_|exact wZ|fail)<;>try refine sxBka ?_)
 all_goals rfl
theorem b8E(q:BlkC)(hc:q.c.length≤1000000)(hE:a8F q.e):CP Tryz.prog 125 [.agg q.cs] (.bool (a3J q)):=by
 have hN:=b0P q.c (by omega)
 refine b0C _ _ (by simp) ?_
 obtain ⟨c,h,t,l⟩:=q
 simp only at hc hE hN ⊢
 have hl:l.length≤2000000000:=hE.1
 by_cases h1:a2T c=true
 rotate_left
 ·have h1':a2T c=false:=by simpa using h1
  rw[show a3J ⟨c,h,t,l⟩=false by simp[a3J,h1']]
  rw[h1']at hN
  clear h1 h1' hE
  simp only[a3L];refine sxBka ?_
  repeat' ((first|exact tt|refine CallO_pure (hN) ?_|refine na fun b=>?_|refine nb fun b hb=>?_|refine iq ?_|(refine jq ?_ ?_<;>intro h h')|refine Two_intro ?_ ?_|exact wZ|fail)<;>try refine sxBka ?_)
 rw[h1]at hN
 by_cases h2:(1≤h∧h≤mxH)∧0≤t∧t≤mxH
 rotate_left
 ·rw[show a3J ⟨c,h,t,l⟩=false by
   simp only[a3J,h1,Bool.true_and]
   by_cases g:(1≤h∧h≤mxH)
   ·have g2:¬ (0≤t∧t≤mxH):=fun g3=>h2 ⟨g,g3⟩
    simp[g2]
   ·simp[g]]
  clear h1 hE
  have h3:a0a (¬ ((1≤h∧h≤1099511627776)∧0≤t∧t≤1099511627776)):=h2
  clear h2
  simp only[a3L];refine sxBka ?_
  repeat' ((first|exact tt|refine CallO_pure (hN) ?_|refine na fun b=>?_|refine nb fun b hb=>?_|refine iq ?_|(refine jq ?_ ?_<;>intro h h')|refine Two_intro ?_ ?_|exact wZ|fail)<;>try refine sxBka ?_)
  all_goals exact (h3 ⟨⟨by omega,by omega⟩,by omega,by omega⟩).elim
 have g1:a0a (decide (h<1)=false):=fo
 have g2:a0a (decide (1099511627776<h)=false):=by simp only[a0a,Hn];have h5:h≤1099511627776:=h2.1.2;omega
 have g3:a0a (decide (t<0)=false):=fo
 have g4:a0a (decide (1099511627776<t)=false):=by simp only[a0a,Hn];have h5:t≤1099511627776:=h2.2.2;omega
 have hB:a3J ⟨c,h,t,l⟩=(decide (l.length≤1073741824)&&l.all a1e):=by
  simp only[a3J,h1,decide_eq_true h2.1,decide_eq_true h2.2,Bool.true_and]
 rw[hB]
 clear h1 h2 hB
 simp only[a3L];refine sxBka ?_
 repeat' ((first|exact tt|refine CallO_pure (hN) ?_|refine na fun b=>?_|refine nb fun b hb=>?_|refine iq ?_|(refine jq ?_ ?_<;>intro h h')|refine Two_intro ?_ ?_|exact wZ|fail)<;>try refine sxBka ?_)
 clear hN g1 g2 g3 g4
 refine wpx_loop (fun k:Nat=>⟨lk [(1,.ptr b 0),(30,.sl none 13 (evl l)),(31,.int .i64 (l.length:Int)),(32,.int .i64 (k:Int))],lk [(b,BlkC.cs ⟨c,h,t,l⟩)]⟩) (fun k=>k≤l.length∧a0a ((l.take k).all a1e=true)) (fun k=>l.length - k) 0 ⟨by omega,by simp[a0a]⟩ (Le_lit (by simp[LeL,lk])) ?_
 rintro k ⟨k1,k2⟩
 by_cases hk:k<l.length
 ·have f2:a0a (decide ((k:Int)<l.length)=true):=fo
  have hM:=h_eMay hE hk
  have hs:=all_take (f:=a1e) hk
  cases hm:a1e (l.getD k default)
  ·rw[all_no hk hm,Bool.and_false]
   rw[hm]at hM
   clear hs hm k2 hE
   generalize hx:l.getD k default=x at *
   refine sxBka ?_
   repeat' ((first|exact tt|refine CallO_pure (hM) ?_|refine na fun b=>?_|refine nb fun b hb=>?_|refine iq ?_|(refine jq ?_ ?_<;>intro h h')|refine Two_intro ?_ ?_|exact wZ|fail)<;>try refine sxBka ?_)
  ·have k3:a0a ((l.take (k+1)).all a1e=true):=by show (l.take (k+1)).all a1e=true;rw[hs,hm,show (l.take k).all a1e=true from k2];rfl
   rw[hm]at hM
   clear hs hm k2 hE
   generalize hx:l.getD k default=x at *
   refine sxBka ?_
   repeat' ((first|exact tt|refine CallO_pure (hM) ?_|refine na fun b=>?_|refine nb fun b hb=>?_|refine iq ?_|(refine jq ?_ ?_<;>intro h h')|refine Two_intro ?_ ?_|exact wZ|fail)<;>try refine sxBka ?_)
   all_goals exact Round_lit (k+1) ⟨Le_lit (by simp[LeL,lk, *]),⟨by omega,k3⟩,by omega⟩
 obtain rfl:k=l.length:=by omega
 have f2:a0a (decide ((l.length:Int)<l.length)=false):=fo
 have hall:l.all a1e=true:=by have:=(show (l.take l.length).all a1e=true from k2);rwa [List.take_length]at this
 rw[hall,Bool.and_true]
 have hdd:decide (l.length≤1073741824)=decide ((l.length:Int)≤1073741824):=by rw[Bool.eq_iff_iff,decide_eq_true_eq,decide_eq_true_eq];omega
 rw[hdd]
 clear k2 hall hE hdd
 refine sxBka ?_
 repeat' ((first|exact tt|refine na fun b=>?_|refine nb fun b hb=>?_|refine iq ?_|(refine jq ?_ ?_<;>intro h h')|refine Two_intro ?_ ?_|exact wZ|fail)<;>try refine sxBka ?_)
theorem b4a(q:BlkC)(hc:q.c.length≤1000000)(hE:a8F q.e):CP Tryz.prog 111 [.agg q.cs] (.bool (a3J q)):=by
 have hN:=b1x q.c (by omega)
 refine a5r _ _ (by simp) ?_
 obtain ⟨c,h,t,l⟩:=q
 simp only at hc hE hN ⊢
 have hl:l.length≤2000000000:=hE.1
 by_cases h1:a2T c=true
 rotate_left
 ·have h1':a2T c=false:=by simpa using h1
  rw[show a3J ⟨c,h,t,l⟩=false by simp[a3J,h1']]
  rw[h1']at hN
  clear h1 h1' hE
  simp only[a1t];refine sxBka ?_
  repeat' ((first|exact tt|refine CallO_pure (hN) ?_|refine na fun b=>?_|refine nb fun b hb=>?_|refine iq ?_|(refine jq ?_ ?_<;>intro h h')|refine Two_intro ?_ ?_|exact wZ|fail)<;>try refine sxBka ?_)
 rw[h1]at hN
 by_cases h2:((1≤h∧h≤mxH)∧0≤t∧t≤mxH)∧l.length≤1073741824
 rotate_left
 ·rw[show a3J ⟨c,h,t,l⟩=false by
   simp only[a3J,h1,Bool.true_and]
   by_cases g:(1≤h∧h≤mxH)
   ·by_cases g2:(0≤t∧t≤mxH)
    ·have g3:¬ l.length≤1073741824:=fun g3=>h2 ⟨⟨g,g2⟩,g3⟩
     simp[g3]
    ·simp[g2]
   ·simp[g]]
  clear h1 hE
  have h3:a0a (¬ (((1≤h∧h≤1099511627776)∧0≤t∧t≤1099511627776)∧l.length≤1073741824)):=h2
  clear h2
  simp only[a1t];refine sxBka ?_
  repeat' ((first|exact tt|refine CallO_pure (hN) ?_|refine na fun b=>?_|refine nb fun b hb=>?_|refine iq ?_|(refine jq ?_ ?_<;>intro h h')|refine Two_intro ?_ ?_|exact wZ|fail)<;>try refine sxBka ?_)
  all_goals exact (h3 ⟨⟨⟨by omega,by omega⟩,by omega,by omega⟩,by omega⟩).elim
 obtain ⟨⟨h2,h2'⟩,h2''⟩:=h2
 have g1:a0a (decide (h<1)=false):=fo
 have g2:a0a (decide (1099511627776<h)=false):=by simp only[a0a,Hn];have h5:h≤1099511627776:=h2.2;omega
 have g3:a0a (decide (t<0)=false):=fo
 have g4:a0a (decide (1099511627776<t)=false):=by simp only[a0a,Hn];have h5:t≤1099511627776:=h2'.2;omega
 have g5:a0a (decide (1073741824<(l.length:Int))=false):=fo
 have hB:a3J ⟨c,h,t,l⟩=l.all a1e:=by
  simp only[a3J,h1,decide_eq_true h2,decide_eq_true h2',decide_eq_true h2'',Bool.true_and]
 rw[hB]
 clear h1 h2 h2' hB
 simp only[a1t];refine sxBka ?_
 repeat' ((first|exact tt|refine CallO_pure (hN) ?_|refine na fun b=>?_|refine nb fun b hb=>?_|refine iq ?_|(refine jq ?_ ?_<;>intro h h')|refine Two_intro ?_ ?_|exact wZ|fail)<;>try refine sxBka ?_)
 clear hN g1 g2 g3 g4 g5
 refine wpx_loop (fun k:Nat=>⟨lk [(1,.ptr b 0),(3,.int .i64 (k:Int))],lk [(b,BlkC.cs ⟨c,h,t,l⟩)]⟩) (fun k=>k≤l.length∧a0a ((l.take k).all a1e=true)) (fun k=>l.length - k) 0 ⟨by omega,by simp[a0a]⟩ (Le_lit (by simp[LeL,lk])) ?_
 rintro k ⟨k1,k2⟩
 by_cases hk:k<l.length
 ·have f2:a0a (decide ((k:Int)<l.length)=true):=fo
  have hM:=h_rMay hE hk
  have hs:=all_take (f:=a1e) hk
  cases hm:a1e (l.getD k default)
  ·rw[all_no hk hm]
   rw[hm]at hM
   clear hs hm k2 hE
   generalize hx:l.getD k default=x at *
   refine sxBka ?_
   repeat' ((first|exact tt|refine CallO_pure (hM) ?_|refine na fun b=>?_|refine nb fun b hb=>?_|refine iq ?_|(refine jq ?_ ?_<;>intro h h')|refine Two_intro ?_ ?_|exact wZ|fail)<;>try refine sxBka ?_)
  ·have k3:a0a ((l.take (k+1)).all a1e=true):=by show (l.take (k+1)).all a1e=true;rw[hs,hm,show (l.take k).all a1e=true from k2];rfl
   rw[hm]at hM
   clear hs hm k2 hE
   generalize hx:l.getD k default=x at *
   refine sxBka ?_
   repeat' ((first|exact tt|refine CallO_pure (hM) ?_|refine na fun b=>?_|refine nb fun b hb=>?_|refine iq ?_|(refine jq ?_ ?_<;>intro h h')|refine Two_intro ?_ ?_|exact wZ|fail)<;>try refine sxBka ?_)
   all_goals exact Round_lit (k+1) ⟨Le_lit (by simp[LeL,lk]),⟨by omega,k3⟩,by omega⟩
 obtain rfl:k=l.length:=by omega
 have f2:a0a (decide ((l.length:Int)<l.length)=false):=fo
 have hall:l.all a1e=true:=by have:=(show (l.take l.length).all a1e=true from k2);rwa [List.take_length]at this
 rw[hall]
 clear k2 hall hE
 refine sxBka ?_
 repeat' ((first|exact tt|refine na fun b=>?_|refine nb fun b hb=>?_|refine iq ?_|(refine jq ?_ ?_<;>intro h h')|refine Two_intro ?_ ?_|exact wZ|fail)<;>try refine sxBka ?_)
end
section
open Go.RowKit
def Wk(a a':AV):Prop:=∀ (W:World) (U:Nat→Nat→Prop) (v:Value),VR W U v a→VR W U v a'
theorem Wk.rfl{a:AV}:Wk a a:=fun _ _ _ h=>h
theorem b1E(e sz:Nat):Wk (.nils e sz) (.sl none sz []):=fun _ _ _ h=>h.alias
theorem b9E(o:Option Nat)(sz:Nat)(els:List (List AV)):Wk (.sl o sz els) (.sl none sz els):=fun _ _ _ h=>h.alias
def Wks:List AV→List AV→Prop
 | [],[]=>True
 | a::l,a'::l'=>Wk a a'∧Wks l l'
 | _,_=>False
theorem b2B:∀ {l l':List AV},Wks l l'→l.length=l'.length∧∀ (i:Nat) (c d:AV),l[i]?=some c→l'[i]?=some d→Wk c d
 | [],[],_=>⟨by simp,fun i c d h=>by simp at h⟩
 | a::l,a'::l',h=>by
  obtain ⟨h1,h2⟩:=b2B h.2
  refine ⟨by simp[h1],fun i c d hc hd=>?_⟩
  cases i with
  | zero=>simp at hc hd;subst hc hd;exact h.1
  | succ i=>exact h2 i c d (by simpa using hc) (by simpa using hd)
 | [],_::_,h=>h.elim
 | _::_,[],h=>h.elim
theorem wk_agg{cs ds:List AV}(h:Wks cs ds):Wk (.agg cs) (.agg ds):=by
 obtain ⟨h1,h2⟩:=b2B h
 intro W U v hv
 cases hv with
 | agg vs _ hl h' h3=>
  refine .agg vs ds (by omega) (fun i u d hu hd=>?_) h3
  have hi:i<cs.length:=by have:=(List.getElem?_eq_some_iff.1 hd).1;omega
  exact h2 i _ d (List.getElem?_eq_getElem hi) hd W U u (h' i u _ hu (List.getElem?_eq_getElem hi))
theorem wk_tup{cs ds:List AV}(h:Wks cs ds):Wk (.tup cs) (.tup ds):=by
 obtain ⟨h1,h2⟩:=b2B h
 intro W U v hv
 cases hv with
 | tup vs _ hl h'=>
  refine .tup vs ds (by omega) (fun i u d hu hd=>?_)
  have hi:i<cs.length:=by have:=(List.getElem?_eq_some_iff.1 hd).1;omega
  exact h2 i _ d (List.getElem?_eq_getElem hi) hd W U u (h' i u _ hu (List.getElem?_eq_getElem hi))
theorem CP_wk{P:Program}{f:Nat}{xs xs':List AV}{r:AV}(h:Wks xs xs')(hc:CP P f xs' r):CP P f xs r:=by
 obtain ⟨h1,h2⟩:=b2B h
 intro W U vs hG hl hv
 refine hc W U vs hG (by omega) fun i v c hvi hci=>?_
 have hi:i<xs.length:=by have:=(List.getElem?_eq_some_iff.1 hci).1;omega
 exact h2 i _ c (List.getElem?_eq_getElem hi) hci W U v (hv i v _ hvi (List.getElem?_eq_getElem hi))
def b5V:AV→Prop
 | .sl (some _) _ _=>False
 | _=>True
theorem own_none{W:World}{U:Nat→Nat→Prop}{B:Nat→Prop}{v:Value}{r:AV}(h:b5V r):Own1 W U B v r:=by
 unfold Own1
 split
 ·exact h.elim
 ·trivial
theorem CP_rs{P:Program}{f:Nat}{xs:List AV}{r r':AV}(h:Wk r r')(hn:b5V r')(hc:CP P f xs r):CP P f xs r':=by
 intro W U vs hG hl hv
 refine (hc W U vs hG hl hv).mono fun e W' ⟨v,U',e1,e2,e3,e4⟩=>⟨v,U',e1,h W' U' v e2,own_none hn,e4⟩
theorem a9G:lk []=(fun _=>none:Nat→Option (List AV)):=funext fun _=>rfl
theorem CP_okf{P:Program}{ac:ACode}{rs:List AR}{f n:Nat}{xs:List AV}{r:AV}(h:OKF P ac rs f n)(hl:xs.length≤n)(hw:wpx P ac (b2W rs (lk []) (fun r' _=>r'=r)) ⟨lk (num 0 (xs.map AV.alias)),lk []⟩):CP P f xs r:=
 CP_of_CT (h _ _ _ hl (by rw[a9G]at hw;exact hw))
end
end Go.Proofs.YtgdhinnepnlihaaGreatDoor
