import Derived.Test.YtfgihnhoocnmdaaGreatDoorK17
import Derived.Test.YtfgihnhoocnmdaaGreatDoorK16
import Derived.Test.YtfgihnhoocnmdaaGreatDoorK12
namespace Go.Proofs.YtfgihnhoocnmdaaGreatDoor
set_option linter.all false
set_option maxHeartbeats 9000000
section
set_option maxRecDepth 100000


abbrev rd(s:List UInt8)(n:Int)(bad:Int):List AV:=[.str s,.int .i64 n,.int .i64 bad]
theorem sxWir{A B:Prop}(h:B)(e:A=B:=by (simp (disch:=omega) only[*, ↓Ed,Eu, ↓reduceIte,reduceCtorEq,Nat.reduceAdd,Nat.reduceEqDiff,Nat.reduceLT,Nat.reduceLeDiff,Int.reduceToNat,Int.reduceEq,Int.reduceLT,Int.reduceLE,w64,List.length_map];first|done|rfl)):A:=e▸h
theorem c2L(s:List UInt8):CT Tryz.prog 114 [.str s] (fun _=>none) (fun r o=>∃ b,r=.ptr b 0∧o=lk [(b,rd s 0 0)]):=by
 refine b2x _ _ _ (by simp) ?_
 rw[show (fun _=>none:Nat→Option (List AV))=lk [] from rfl]
 simp only[b1l];refine sxWir ?_
 repeat' ((first|exact tt|refine na fun b=>?_|refine nb fun b hb=>?_|refine iq ?_|(refine jq ?_ ?_<;>intro h h')|refine Two_intro ?_ ?_|exact wZ|fail)<;>try refine sxWir ?_)
 exact ro_new (b:=b) (by simp[LeL,lk,a1a,arR])
def a6b(bad e:Int):Int:=if bad=0 then e else bad
theorem b4X(b:Nat)(s:List UInt8)(n bad e:Int):CT Tryz.prog 172 [.ptr b 0,.int .i64 e] (lk [(b,rd s n bad)]) (fun r o=>r=.tup []∧o=lk [(b,rd s n (a6b bad e))]):=by
 refine a4f _ _ _ (by simp) ?_
 simp only[a2w];refine sxWir ?_
 repeat' ((first|exact tt|refine na fun b=>?_|refine nb fun b hb=>?_|refine iq ?_|(refine jq ?_ ?_<;>intro h h')|refine Two_intro ?_ ?_|exact wZ|fail)<;>try refine sxWir ?_)
 all_goals simp only[a0d,Hn]at h
 all_goals exact ro_mk (by simp[LeL,lk,r_nil,a6b,h]) dom1
theorem c2n(b:Nat)(s:List UInt8)(n bad:Int):CT Tryz.prog 117 [.ptr b 0] (lk [(b,rd s n bad)]) (fun r o=>r=.int .i64 (if bad=0∧n<s.length then 3 else bad)∧o=lk [(b,rd s n bad)]):=by
 refine a4V _ _ _ (by simp) ?_
 simp only[a2F];refine sxWir ?_
 repeat' ((first|exact tt|refine na fun b=>?_|refine nb fun b hb=>?_|refine iq ?_|(refine jq ?_ ?_<;>intro h h')|refine Two_intro ?_ ?_|exact wZ|fail)<;>try refine sxWir ?_)
 all_goals simp only[a0d,Hn]at *
 all_goals exact ro_mk (by simp[LeL,lk,a1a,arR, *]) dom1
def a5x(s:List UInt8)(n bad:Int):Int × Int × Int:=
 if bad=0 then (nx s n) else (0,n,bad)
theorem b9Z(b:Nat)(s:List UInt8)(n bad:Int)(hs:s.length≤4611686018427387904):
  CT Tryz.prog 171 [.ptr b 0] (lk [(b,rd s n bad)]) (fun r o=>r=.tup [.int .i64 (a5x s n bad).1,.int .i64 (a5x s n bad).2.1]∧o=lk [(b,rd s n (a5x s n bad).2.2)]):=by
 refine a4g _ _ _ (by simp) ?_
 simp only[a2x];refine sxWir ?_
 repeat' ((first|exact tt|(refine CallW_intro (b9G _ _ hs) ?_;simp (disch:=omega) only[*, ↓Ed,Eu, ↓reduceIte,reduceCtorEq,Nat.reduceAdd,Nat.reduceEqDiff,Nat.reduceLT,Nat.reduceLeDiff,Int.reduceToNat,Int.reduceEq,Int.reduceLT,Int.reduceLE,w64,List.length_map])|refine c1 (b4X _ _ _ _ _) ?_|refine na fun b=>?_|refine nb fun b hb=>?_|refine iq ?_|(refine jq ?_ ?_<;>intro h h')|refine Two_intro ?_ ?_|exact wZ|fail)<;>try refine sxWir ?_)
 all_goals simp only[a0d,Hn]at h
 all_goals exact ro_mk (by simp[LeL,lk,r_two,b2p,arR,AV.alias,a5x,a6b,h]) dom1
theorem c2o:CT Tryz.prog 186 [] (fun _=>none) (fun r o=>∃ b,r=.ptr b 0∧o=lk [(b,[.nils 5 1,.bool false])]):=by
 refine b1E _ _ _ (by simp) ?_
 rw[show (fun _=>none:Nat→Option (List AV))=lk [] from rfl]
 simp only[a9z];refine sxWir ?_
 repeat' ((first|exact tt|refine na fun b=>?_|refine nb fun b hb=>?_|refine iq ?_|(refine jq ?_ ?_<;>intro h h')|refine Two_intro ?_ ?_|exact wZ|fail)<;>try refine sxWir ?_)
 all_goals exact ro_new (b:=b) (by simp[LeL,lk,a1a,arR])

abbrev wrc(out:List UInt8)(bad:Bool):List AV:=[.sl (some 5) 1 (btl out),.bool bad]
theorem c1N(b:Nat)(out s:List UInt8)(bad:Bool)(hl:out.length+s.length≤1000000):
  CT Tryz.prog 219 [.ptr b 0,.str s] (lk [(b,wrc out bad)]) (fun r o=>r=.tup []∧o=lk [(b,wrc (if bad then out else out++s) bad)]):=by
 have hm:=a7o
 refine a2n _ _ _ (by simp) ?_
 simp only[a1z];refine sxWir ?_
 repeat' ((first|exact tt|refine na fun b=>?_|refine nb fun b hb=>?_|refine iq ?_|(refine jq ?_ ?_<;>intro h h')|refine Two_intro ?_ ?_|exact wZ|fail)<;>try refine sxWir ?_)
 all_goals simp only[a0d,Hn]at h
 all_goals exact ro_mk (by simp[LeL,lk,r_nil,btl,wrc,h]) dom1
abbrev wr0(bad:Bool):List AV:=[.nils 5 1,.bool bad]
theorem c1O(b:Nat)(s:List UInt8)(hl:s.length≤1000000):
  CT Tryz.prog 219 [.ptr b 0,.str s] (lk [(b,wr0 false)]) (fun r o=>r=.tup []∧o=lk [(b,wrc s false)]):=by
 have hm:=a7o
 refine a2n _ _ _ (by simp) ?_
 simp only[a1z];refine sxWir ?_
 repeat' ((first|exact tt|refine na fun b=>?_|refine nb fun b hb=>?_|refine iq ?_|(refine jq ?_ ?_<;>intro h h')|refine Two_intro ?_ ?_|exact wZ|fail)<;>try refine sxWir ?_)
 all_goals exact ro_mk (by simp[LeL,lk,r_nil,btl,wrc]) dom1
theorem c0G(b:Nat)(out:List UInt8)(bad:Bool):CT Tryz.prog 190 [.ptr b 0] (lk [(b,wrc out bad)])
  (fun r o=>r=.tup [.str (if bad then [] else out),.int .i64 (if bad then 1 else 0)]∧o=lk [(b,wrc out bad)]):=by
 refine a3N _ _ _ (by simp) ?_
 simp only[a2k];refine sxWir ?_
 repeat' ((first|exact tt|refine na fun b=>?_|refine nb fun b hb=>?_|refine iq ?_|(refine jq ?_ ?_<;>intro h h')|refine Two_intro ?_ ?_|exact wZ|fail)<;>try refine sxWir ?_)
 all_goals simp only[a0d,Hn]at h
 all_goals exact ro_mk (by simp[LeL,lk,r_two,b2p,arR,AV.alias,h]) dom1
theorem b9L(b:Nat)(out:List UInt8)(bad:Bool)(v:Int)(hl:out.length≤900000):
  CT Tryz.prog 187 [.ptr b 0,.int .i64 v] (lk [(b,wrc out bad)])
   (fun r o=>r=.tup []∧o=lk [(b,wrc (if bad||decide (pn v=[]) then out else out++pn v) (bad||decide (pn v=[])))]):=by
 have h8:=a0I v
 refine a2m _ _ _ (by simp) ?_
 simp only[a1y];refine sxWir ?_
 repeat' ((first|exact tt|refine CallO_pure (c0I _) ?_|refine c1 (c1N _ out (pn v) _ (by omega)) ?_|refine na fun b=>?_|refine nb fun b hb=>?_|refine iq ?_|(refine jq ?_ ?_<;>intro h h')|refine Two_intro ?_ ?_|exact wZ|fail)<;>try refine sxWir ?_)
 all_goals simp only[a0d,Hn]at h
 all_goals exact ro_mk (by simp[LeL,lk,r_nil,wrc,h]) dom1
def c1u(v:Int)(w:List UInt8 × Bool):List UInt8 × Bool:=(if w.2||decide (pn v=[]) then w.1 else w.1++pn v,w.2||decide (pn v=[]))
def b8s(s:List UInt8)(w:List UInt8 × Bool):List UInt8 × Bool:=
 let w1:=c1u s.length w
 (if w1.2 then w1.1 else w1.1++s,w1.2)
theorem c0M(b:Nat)(out s:List UInt8)(bad:Bool)(hl:out.length≤500000)(hs:s.length≤400000):
  CT Tryz.prog 189 [.ptr b 0,.str s] (lk [(b,wrc out bad)])
   (fun r o=>r=.tup []∧o=lk [(b,wrc (b8s s (out,bad)).1 (b8s s (out,bad)).2)]):=by
 have h8:=a0I s.length
 have hw:(c1u s.length (out,bad)).1.length≤600000:=by
  simp only[c1u]
  split
  ·omega
  ·simp only[List.length_append];omega
 refine a4i _ _ _ (by simp) ?_
 simp only[a2y];refine sxWir ?_
 repeat' ((first|exact tt|refine c1 (b9L _ out bad _ (by omega)) ?_|refine c1 (c1N _ (c1u s.length (out,bad)).1 s _ (by omega)) ?_|refine na fun b=>?_|refine nb fun b hb=>?_|refine iq ?_|(refine jq ?_ ?_<;>intro h h')|refine Two_intro ?_ ?_|exact wZ|fail)<;>try refine sxWir ?_)
 all_goals exact ro_mk (by simp[LeL,lk,r_nil,wrc,b8s,c1u]) dom1

def a2V(s:List UInt8)(n bad least most below above:Int):Int × Int × Int:=
 let v:=a5x s n bad
 let b2:=if v.1<least then a6b v.2.2 below else v.2.2
 let b3:=if most<v.1 then a6b b2 above else b2
 if b3=0 then (v.1,v.2.1,0) else (0,n,b3)
theorem b7S(b:Nat)(s:List UInt8)(n bad least most below above:Int)(hs:s.length≤4611686018427387904):
  CT Tryz.prog 170 [.ptr b 0,.int .i64 least,.int .i64 most,.int .i64 below,.int .i64 above] (lk [(b,rd s n bad)])
   (fun r o=>r=.int .i64 (a2V s n bad least most below above).1∧o=lk [(b,rd s (a2V s n bad least most below above).2.1 (a2V s n bad least most below above).2.2)]):=by
 refine a3v _ _ _ (by simp) ?_
 simp only[a1Y];refine sxWir ?_
 repeat' ((first|exact tt|refine c1 (b9Z _ _ _ _ hs) ?_|refine c1 (b4X _ _ _ _ _) ?_|refine na fun b=>?_|refine nb fun b hb=>?_|refine iq ?_|(refine jq ?_ ?_<;>intro h h')|refine Two_intro ?_ ?_|exact wZ|fail)<;>try refine sxWir ?_)
 all_goals simp only[a0d,Hn]at *
 all_goals exact ro_mk (by simp[LeL,lk,a1a,arR,rd,a2V, *]) dom1
theorem c1L(b:Nat)(s:List UInt8)(n bad least most:Int)(hs:s.length≤4611686018427387904):
  CT Tryz.prog 115 [.ptr b 0,.int .i64 least,.int .i64 most] (lk [(b,rd s n bad)])
   (fun r o=>r=.int .i64 (a2V s n bad least most 1 1).1∧o=lk [(b,rd s (a2V s n bad least most 1 1).2.1 (a2V s n bad least most 1 1).2.2)]):=by
 refine a4W _ _ _ (by simp) ?_
 simp only[a2G];refine sxWir ?_
 repeat' ((first|exact tt|refine c1 (b7S _ _ _ _ _ _ _ _ hs) ?_|refine na fun b=>?_|refine nb fun b hb=>?_|refine iq ?_|(refine jq ?_ ?_<;>intro h h')|refine Two_intro ?_ ?_|exact wZ|fail)<;>try refine sxWir ?_)
 all_goals exact ro_mk (by simp[LeL,lk,a1a,arR,rd]) dom1
def a9I(s:List UInt8)(n bad most:Int):List UInt8 × Int × Int:=
 let v:=a5x s n bad
 let b2:=if most<v.1 then a6b v.2.2 4 else v.2.2
 let b3:=if (s.length:Int) - v.2.1<v.1 then a6b b2 2 else b2
 if b3=0 then ((s.take (v.2.1+v.1).toNat).drop v.2.1.toNat,v.2.1+v.1,0) else ([],n,b3)
theorem b6u(s:List UInt8)(n bad:Int)(hn:0≤n∧n≤s.length):0≤(a5x s n bad).1∧(a5x s n bad).1<72057594037927936∧0≤(a5x s n bad).2.1∧(a5x s n bad).2.1≤s.length:=by
 unfold a5x
 split
 ·exact b3b s n
 ·simp only;omega
theorem b9a(b:Int):(a6b b 2=0)=False:=by simp only[a6b,eq_iff_iff,iff_false];split<;>omega
theorem c0J(b:Nat)(s:List UInt8)(n bad most:Int)(hs:s.length≤281474976710656)(hn:0≤n∧n≤s.length):
  CT Tryz.prog 116 [.ptr b 0,.int .i64 most] (lk [(b,rd s n bad)])
   (fun r o=>r=.str (a9I s n bad most).1∧o=lk [(b,rd s (a9I s n bad most).2.1 (a9I s n bad most).2.2)]):=by
 have hv:=b6u s n bad hn
 have hr:a9I s n bad most=(let v:=a5x s n bad
  let b2:=if most<v.1 then a6b v.2.2 4 else v.2.2
  let b3:=if (s.length:Int) - v.2.1<v.1 then a6b b2 2 else b2
  if b3=0 then ((s.take (v.2.1+v.1).toNat).drop v.2.1.toNat,v.2.1+v.1,0) else ([],n,b3)):=rfl
 rw[hr]
 refine a4e _ _ _ (by simp) ?_
 simp only[a2v];refine sxWir ?_
 repeat' ((first|exact tt|refine c1 (b9Z _ s _ _ (by omega)) ?_|refine c1 (b4X _ _ _ _ _) ?_|refine CallW_intro (b2C _ (by simp;omega)) ?_|(simp[a0d,b9a]at h;done)|refine na fun b=>?_|refine nb fun b hb=>?_|refine iq ?_|(refine jq ?_ ?_<;>intro h h')|refine Two_intro ?_ ?_|exact wZ|fail)<;>try refine sxWir ?_)
 all_goals exact ro_mk (by simp only[a0d,Hn]at *;simp[LeL,lk,a1a,arR,rd,b9a, *]) dom1
theorem b5W(s:List UInt8)(n bad least most:Int)(hl:least≤0∧0≤most):a2V s n bad least most 1 1=a8k s least most (n,bad):=by
 have hb:=b9j s n
 simp only[a2V,a5x,a6b,a8k]
 by_cases h1:bad=0
 ·by_cases h2:(nx s n).2.2=0
  ·by_cases h3:(nx s n).1<least<;>by_cases h4:most<(nx s n).1<;>simp[h1,h2,h3,h4]
  ·have h5:=(hb h2).1
   simp[h1,h2,h5,show ¬ (0<least) by omega,show ¬ (most<0) by omega]
 ·simp[h1,show ¬ (0<least) by omega,show ¬ (most<0) by omega]
theorem c1m(s:List UInt8)(n bad most:Int)(hl:0≤most)(hn:0≤n∧n≤s.length):a9I s n bad most=a5h s most (n,bad):=by
 have hb:=b9j s n
 simp only[a9I,a5x,a6b,a5h]
 by_cases h1:bad=0
 ·by_cases h2:(nx s n).2.2=0
  ·by_cases h3:most<(nx s n).1<;>by_cases h4:(s.length:Int) - (nx s n).2.1<(nx s n).1<;>simp[h1,h2,h3,h4]
  ·have h5:=hb h2
   simp[h1,h2,h5,show ¬ (most<0) by omega]
 ·simp[h1,show ¬ (most<0) by omega,show ¬ ((s.length:Int) - n<0) by omega]
theorem c2t(b:Nat)(s:List UInt8)(n bad least most:Int)(hs:s.length≤281474976710656)(hl:least≤0∧0≤most):
  CT Tryz.prog 115 [.ptr b 0,.int .i64 least,.int .i64 most] (lk [(b,rd s n bad)])
   (fun r o=>r=.int .i64 (a8k s least most (n,bad)).1∧o=lk [(b,rd s (a8k s least most (n,bad)).2.1 (a8k s least most (n,bad)).2.2)]):=by
 rw[← b5W s n bad least most hl]
 exact c1L b s n bad least most (by omega)
theorem c1S(b:Nat)(s:List UInt8)(n bad most:Int)(hs:s.length≤281474976710656)(hl:0≤most)(hn:0≤n∧n≤s.length):
  CT Tryz.prog 116 [.ptr b 0,.int .i64 most] (lk [(b,rd s n bad)])
   (fun r o=>r=.str (a5h s most (n,bad)).1∧o=lk [(b,rd s (a5h s most (n,bad)).2.1 (a5h s most (n,bad)).2.2)]):=by
 rw[← c1m s n bad most hl hn]
 exact c0J b s n bad most hs hn
end
section
set_option maxRecDepth 100000
abbrev rr(s:List UInt8)(x:Int × Int):List AV:=[.str s,.int .i64 x.1,.int .i64 x.2]
theorem sxRrd{A B:Prop}(h:B)(e:A=B:=by (simp (disch:=omega) only[*, ↓Ed,Eu, ↓reduceIte,reduceCtorEq,Nat.reduceAdd,Nat.reduceEqDiff,Nat.reduceLT,Nat.reduceLeDiff,Int.reduceToNat,Int.reduceEq,Int.reduceLT,Int.reduceLE,w64];first|done|rfl)):A:=e▸h
theorem b0L(b:Nat)(s:List UInt8)(x:Int × Int)(least most:Int)(hs:s.length≤281474976710656):
  CT Tryz.prog 175 [.ptr b 0,.int .i64 least,.int .i64 most] (lk [(b,rr s x)])
   (fun r o=>r=.int .i64 (a8k s least most x).1∧o=lk [(b,rr s (a8k s least most x).2)]):=by
 refine a5K _ _ _ (by simp) ?_
 simp only[a3g];refine sxRrd ?_
 repeat' ((first|exact tt|refine CallW_intro (a8r _ _ (by omega)) ?_|refine na fun b=>?_|refine nb fun b hb=>?_|refine iq ?_|(refine jq ?_ ?_<;>intro h h')|refine Two_intro ?_ ?_|exact wZ|fail)<;>try refine sxRrd ?_)
 all_goals (try simp only[a0d,Hn]at *)
 all_goals first
  | (exact ro_mk (by simp[LeL,lk,a1a,arR,rr,a8k, *]) dom1)
  | (exact ro_mk (by simp[LeL,lk,a1a,arR,rr,a8k, *];omega) dom1)
  | skip
theorem b6X(b:Nat)(s:List UInt8)(x:Int × Int)(most:Int)(hs:s.length≤281474976710656):
  CT Tryz.prog 176 [.ptr b 0,.int .i64 most] (lk [(b,rr s x)])
   (fun r o=>r=.str (a5h s most x).1∧o=lk [(b,rr s (a5h s most x).2)]):=by
 have hx:=b3b s x.1
 refine a4S _ _ _ (by simp) ?_
 simp only[a2E];refine sxRrd ?_
 repeat' ((first|exact tt|refine CallW_intro (a8r _ _ (by omega)) ?_|refine na fun b=>?_|refine nb fun b hb=>?_|refine iq ?_|(refine jq ?_ ?_<;>intro h h')|refine Two_intro ?_ ?_|exact wZ|fail)<;>try refine sxRrd ?_)
 all_goals (try simp only[a0d,Hn]at *)
 all_goals first
  | (exact ro_mk (by simp[LeL,lk,a1a,arR,rr,a5h, *]) dom1)
  | skip
theorem c0K(b:Nat)(s:List UInt8)(x:Int × Int):
  CT Tryz.prog 177 [.ptr b 0] (lk [(b,rr s x)])
   (fun r o=>r=.int .i64 (rend s x)∧o=lk [(b,rr s x)]):=by
 refine a5J _ _ _ (by simp) ?_
 simp only[a3f];refine sxRrd ?_
 repeat' ((first|exact tt|refine na fun b=>?_|refine nb fun b hb=>?_|refine iq ?_|(refine jq ?_ ?_<;>intro h h')|refine Two_intro ?_ ?_|exact wZ|fail)<;>try refine sxRrd ?_)
 all_goals (try simp only[a0d,Hn]at *)
 all_goals (exact ro_mk (by simp[LeL,lk,a1a,arR,rr,rend, *]) dom1)
theorem b4Q(s:List UInt8)(hs:s.length≤281474976710656):CP Tryz.prog 194 [.str s] (.str (pn s.length++s)):=by
 have h8:=a0I s.length
 refine a5H _ _ (by simp) ?_
 simp only[a2D];refine sxRrd ?_
 repeat' ((first|exact tt|refine CallO_pure (b0H _) ?_|refine na fun b=>?_|refine nb fun b hb=>?_|refine iq ?_|(refine jq ?_ ?_<;>intro h h')|refine Two_intro ?_ ?_|exact wZ|fail)<;>try refine sxRrd ?_)
end
section
structure Es where
 p:List UInt8
 c:Int
 o:Bool
 cl:Bool
 st:Int
abbrev Es.cs(x:Es):List AV:=[.str x.p,.int .i64 x.c,.bool x.o,.bool x.cl,.int .i64 x.st]
noncomputable def Es.may (x:Es):Bool:=a1S x.p x.c&&(if x.cl&&x.o then decide (1≤x.st)&&decide (x.st≤1099511627777) else decide (x.st=0))
def a3w(b:Bool):Int:=if b then 1 else 0
def Es.enc(x:Es):List UInt8:=pn (a3w x.cl)++pn (a3w x.o)++(pn x.p.length++x.p)++pn x.c++pn x.st
noncomputable def a4H (x:Es):List UInt8 × Int:=if x.may then (x.enc,0) else ([],1)
def Es.zero:Es:=⟨[],0,false,false,0⟩
def dcl(v:List UInt8):=a8k v 0 1 (0,0)
def dor(v:List UInt8):=a8k v 0 1 (dcl v).2
def dpo(v:List UInt8):=a5h v 12 (dor v).2
def dch(v:List UInt8):=a8k v 0 999 (dpo v).2
def dst(v:List UInt8):=a8k v 0 1099511627777 (dch v).2
def Es.of(v:List UInt8):Es:=⟨(dpo v).1,(dch v).1,decide ((dor v).1=1),decide ((dcl v).1=1),(dst v).1⟩
noncomputable def a7J (v:List UInt8):Es × Int:=
 if rend v (dst v).2≠0 then (Es.zero,rend v (dst v).2) else if (Es.of v).may then (Es.of v,0) else (Es.zero,1)
end
section
theorem b1q:∀ (f v:Nat) (r:List UInt8) (b:Bool),v<128 ^ (f+1)→(b=true∨0<v)→a2h (f+1) (a9F v++r) b=((v:Int),(a9F v).length,0)
 | f,v,r,b,hv,hb=>by
  by_cases hl:v<128
  ·have e:(UInt8.ofNat v).toNat=v:=by rw[UInt8.toNat_ofNat'];omega
   rw[put7_lo hl,List.cons_append,a2h,e,if_pos hl,if_neg (by rintro ⟨h1,h2⟩;subst h2;simp at hb;omega)]
   simp
  ·have e:(UInt8.ofNat (v % 128+128)).toNat=v % 128+128:=by rw[UInt8.toNat_ofNat'];omega
   cases f with
   | zero=>simp at hv;omega
   | succ f=>
    rw[put7_hi (by omega),List.cons_append,a2h,e,if_neg (by omega),b1q f (v / 128) r false (by rw[Nat.pow_succ]at hv;omega) (.inr (by omega))]
    simp
    omega
theorem b3d(a r:List UInt8)(v:Int)(h:0≤v∧v≤72057594037927935):nx (a++(pn v++r)) a.length=(v,((a++pn v).length:Int),0):=by
 rw[nx_in (by simp)]
 have:pn v=a9F v.toNat:=by simp only[pn,if_pos h]
 rw[List.drop_left,this,b1q 7 v.toNat r true (by omega) (.inl rfl)]
 simp[b4y];omega
theorem a7q(a r:List UInt8)(v least most:Int)(h:0≤v∧v≤72057594037927935)(g:least≤v∧v≤most):a8k (a++(pn v++r)) least most ((a.length:Int),0)=(v,((a++pn v).length:Int),0):=by
 simp only[a8k,b3d a r v h,ne_eq,not_true_eq_false,if_false]
 rw[if_neg (by omega)]
theorem b5y(a t r:List UInt8)(most:Int)(h:t.length≤100000)(g:(t.length:Int)≤most):a5h (a++((pn t.length++t)++r)) most ((a.length:Int),0)=(t,((a++(pn t.length++t)).length:Int),0):=by
 have e:a++((pn t.length++t)++r)=a++(pn t.length++(t++r)):=by simp
 have hn:=b3d a (t++r) t.length ⟨by omega,by omega⟩
 simp only[a5h,e,hn,ne_eq,not_true_eq_false,if_false]
 rw[if_neg (by omega),if_neg (by simp;omega)]
 refine Prod.ext ?_ (Prod.ext ?_ rfl)
 ·simp only
  have e1:(((a++pn t.length).length:Int)+t.length).toNat=(a++pn t.length).length+t.length:=by omega
  have e2:(((a++pn t.length).length:Int)).toNat=(a++pn t.length).length:=by omega
  rw[e1,e2, ← List.append_assoc,List.take_append,List.take_of_length_le (by omega)]
  rw[List.drop_left]
  simp
 ·simp;omega
theorem c1w(b:Bool):decide (a3w b=1)=b:=by cases b<;>simp[a3w]
theorem b8v(b:Bool):0≤a3w b∧a3w b≤1:=by cases b<;>decide
theorem may_in{x:Es}(h:x.may=true):x.p.length≤12∧0≤x.c∧x.c≤999∧0≤x.st∧x.st≤1099511627777:=by
 simp only[Es.may,a1S,Bool.and_eq_true,decide_eq_true_eq]at h
 obtain ⟨⟨⟨h1,h2⟩,h3⟩,h4⟩:=h
 refine ⟨(nameP_iff.1 h1).2.1,h2,h3, ?_⟩
 split at h4
 ·simp only[Bool.and_eq_true,decide_eq_true_eq]at h4;omega
 ·simp only[decide_eq_true_eq]at h4;omega
theorem dec_enc{x:Es}(h:x.may=true)(r:List UInt8):Es.of (x.enc++r)=x∧(dst (x.enc++r)).2=((x.enc.length:Int),0):=by
 have hi:=may_in h
 have b1:=b8v x.cl
 have b2:=b8v x.o
 let a1:=pn (a3w x.cl)
 let a2:=a1++pn (a3w x.o)
 let a3:=a2++(pn x.p.length++x.p)
 let a4:=a3++pn x.c
 have e0:x.enc++r=[]++(pn (a3w x.cl)++(pn (a3w x.o)++(pn x.p.length++x.p)++pn x.c++pn x.st++r)):=by simp[Es.enc]
 have e1:x.enc++r=a1++(pn (a3w x.o)++((pn x.p.length++x.p)++pn x.c++pn x.st++r)):=by simp[Es.enc,a1]
 have e2:x.enc++r=a2++((pn x.p.length++x.p)++(pn x.c++pn x.st++r)):=by simp[Es.enc,a1,a2]
 have e3:x.enc++r=a3++(pn x.c++(pn x.st++r)):=by simp[Es.enc,a1,a2,a3]
 have e4:x.enc++r=a4++(pn x.st++r):=by simp[Es.enc,a1,a2,a3,a4]
 have d1:dcl (x.enc++r)=(a3w x.cl,(a1.length:Int),0):=by
  have:=a7q [] (pn (a3w x.o)++(pn x.p.length++x.p)++pn x.c++pn x.st++r) (a3w x.cl) 0 1 (by omega) (by omega)
  rw[← e0]at this
  exact this
 have d2:dor (x.enc++r)=(a3w x.o,(a2.length:Int),0):=by
  have:=a7q a1 ((pn x.p.length++x.p)++pn x.c++pn x.st++r) (a3w x.o) 0 1 (by omega) (by omega)
  rw[← e1]at this
  rw[dor,d1];exact this
 have d3:dpo (x.enc++r)=(x.p,(a3.length:Int),0):=by
  have:=b5y a2 x.p (pn x.c++pn x.st++r) 12 (by omega) (by omega)
  rw[← e2]at this
  rw[dpo,d2];exact this
 have d4:dch (x.enc++r)=(x.c,(a4.length:Int),0):=by
  have:=a7q a3 (pn x.st++r) x.c 0 999 (by omega) (by omega)
  rw[← e3]at this
  rw[dch,d3];exact this
 have d5:dst (x.enc++r)=(x.st,(x.enc.length:Int),0):=by
  have:=a7q a4 r x.st 0 1099511627777 (by omega) (by omega)
  rw[← e4]at this
  rw[dst,d4];exact this
 refine ⟨?_,by rw[d5]⟩
 rw[Es.of,d1,d2,d3,d4,d5]
 simp only[c1w]
theorem dec_back{x:Es}(h:x.may=true):a7J x.enc=(x,0):=by
 have:=dec_enc h []
 rw[List.append_nil]at this
 simp only[a7J,this.2,this.1,rend,h]
 simp
theorem enc_len{x:Es}(h:x.may=true):x.enc.length≤64:=by
 have h1:=a0I (a3w x.cl);have h2:=a0I (a3w x.o);have h3:=a0I x.p.length;have h4:=a0I x.c;have h5:=a0I x.st
 have:=may_in h
 simp[Es.enc];omega
end
section
set_option maxRecDepth 100000
theorem sxEnd{A B:Prop}(h:B)(e:A=B:=by (simp (disch:=omega) only[*, ↓Ed,Eu, ↓reduceIte,reduceCtorEq,Nat.reduceAdd,Nat.reduceEqDiff,Nat.reduceLT,Nat.reduceLeDiff,Int.reduceToNat,Int.reduceEq,Int.reduceLT,Int.reduceLE,w64,List.length_map,List.length_append];first|done|rfl)):A:=e▸h
theorem c2p(b:Bool):CP Tryz.prog 188 [.bool b] (.int .i64 (a3w b)):=by
 refine b2c _ _ (by simp) ?_
 simp only[a9n];refine sxEnd ?_
 repeat' ((first|exact tt|refine na fun b=>?_|refine nb fun b hb=>?_|refine iq ?_|(refine jq ?_ ?_<;>intro h h')|refine Two_intro ?_ ?_|exact wZ|fail)<;>try refine sxEnd ?_)
 all_goals (try simp only[a0d,Hn]at *)
 all_goals simp[a3w, *]
theorem c2r(b:Bool):CP Tryz.prog 193 [.bool b] (.int .i64 (a3w b)):=by
 refine a8c _ _ (by simp) ?_
 simp only[a4s];refine sxEnd ?_
 repeat' ((first|exact tt|refine na fun b=>?_|refine nb fun b hb=>?_|refine iq ?_|(refine jq ?_ ?_<;>intro h h')|refine Two_intro ?_ ?_|exact wZ|fail)<;>try refine sxEnd ?_)
 all_goals (try simp only[a0d,Hn]at *)
 all_goals simp[a3w, *]
theorem a8x(n:Int):CP Tryz.prog 121 [.int .i64 n] (.bool (decide (1≤n)&&decide (n≤1099511627777))):=by
 refine a7V _ _ (by simp) ?_
 simp only[a4n];refine sxEnd ?_
 repeat' ((first|exact tt|refine na fun b=>?_|refine nb fun b hb=>?_|refine iq ?_|(refine jq ?_ ?_<;>intro h h')|refine Two_intro ?_ ?_|exact wZ|fail)<;>try refine sxEnd ?_)
 all_goals (try simp only[a0d,Hn]at *)
 all_goals simp[*]
theorem b4T(x:Es)(hs:x.p.length≤4611686018427387904):CP Tryz.prog 118 [.agg x.cs] (.bool x.may):=by
 refine b2a _ _ (by simp) ?_
 simp only[a9l,Es.cs, ↓Ed,Eu, ↓reduceIte,reduceCtorEq,Nat.reduceAdd,Nat.reduceEqDiff,Nat.reduceLT,Nat.reduceLeDiff,Int.reduceToNat,Int.reduceEq,Int.reduceLT,Int.reduceLE,w64,List.length_map,List.length_append]
 repeat' ((first|exact tt|refine CallO_pure (a8z _ _ hs) ?_|refine CallO_pure (a8x _) ?_|refine na fun b=>?_|refine nb fun b hb=>?_|refine iq ?_|(refine jq ?_ ?_<;>intro h h')|refine Two_intro ?_ ?_|exact wZ|fail)<;>try refine sxEnd ?_)
 all_goals (try simp only[a0d,Hn]at *)
 all_goals simp[Es.may, *]
theorem a9C(x:Es)(hs:x.p.length≤4611686018427387904):CP Tryz.prog 178 [.agg x.cs] (.bool x.may):=by
 refine a3Y _ _ (by simp) ?_
 simp only[a2d,Es.cs, ↓Ed,Eu, ↓reduceIte,reduceCtorEq,Nat.reduceAdd,Nat.reduceEqDiff,Nat.reduceLT,Nat.reduceLeDiff,Int.reduceToNat,Int.reduceEq,Int.reduceLT,Int.reduceLE,w64,List.length_map,List.length_append]
 repeat' ((first|exact tt|refine CallO_pure (a2U _ _ hs) ?_|refine na fun b=>?_|refine nb fun b hb=>?_|refine iq ?_|(refine jq ?_ ?_<;>intro h h')|refine Two_intro ?_ ?_|exact wZ|fail)<;>try refine sxEnd ?_)
 all_goals (try simp only[a0d,Hn]at *)
 all_goals simp[Es.may, *]
theorem b0w(x:Es)(hs:x.p.length≤100000):CP Tryz.prog 151 [.agg x.cs] (.tup [.str (a4H x).1,.int .i64 (a4H x).2]):=by
 have h1:=a0I (a3w x.cl);have h2:=a0I (a3w x.o);have h3:=a0I x.p.length;have h4:=a0I x.c;have h5:=a0I x.st
 refine a2P _ _ (by simp) ?_
 simp only[a1t,Es.cs, ↓Ed,Eu, ↓reduceIte,reduceCtorEq,Nat.reduceAdd,Nat.reduceEqDiff,Nat.reduceLT,Nat.reduceLeDiff,Int.reduceToNat,Int.reduceEq,Int.reduceLT,Int.reduceLE,w64,List.length_map,List.length_append]
 repeat' ((first|exact tt|refine CallO_pure (a9C x (by omega)) ?_|refine CallW_intro (c2r _) ?_|refine CallW_intro (b0H _) ?_|refine CallW_intro (b4Q _ (by omega)) ?_|refine na fun b=>?_|refine nb fun b hb=>?_|refine iq ?_|(refine jq ?_ ?_<;>intro h h')|refine Two_intro ?_ ?_|exact wZ|fail)<;>try refine sxEnd ?_)
 all_goals (try simp only[a0d,Hn]at *)
 all_goals simp[a4H,Es.enc, *]
theorem b0M(b:Nat)(out:List UInt8)(v:Int)(hv:0≤v∧v≤72057594037927935)(hl:out.length≤900000):
  CT Tryz.prog 187 [.ptr b 0,.int .i64 v] (lk [(b,wrc out false)]) (fun r o=>r=.tup []∧o=lk [(b,wrc (out++pn v) false)]):=by
 have h:pn v≠[]:=fun e=>(b5p v).1 e hv
 have:=b9L b out false v hl
 simpa only[h,decide_false,Bool.or_self,Bool.false_eq_true,if_false]using this
theorem c0L(b:Nat)(v:Int)(hv:0≤v∧v≤72057594037927935):
  CT Tryz.prog 187 [.ptr b 0,.int .i64 v] (lk [(b,wr0 false)]) (fun r o=>r=.tup []∧o=lk [(b,wrc (pn v) false)]):=by
 have h:pn v≠[]:=fun e=>(b5p v).1 e hv
 have hd:decide (pn v=[])=false:=decide_eq_false h
 have h8:=a0I v
 refine a2m _ _ _ (by simp) ?_
 simp only[a1y];refine sxEnd ?_
 repeat' ((first|exact tt|refine CallO_pure (c0I _) ?_|refine c1 (c1O _ (pn v) (by omega)) ?_|refine na fun b=>?_|refine nb fun b hb=>?_|refine iq ?_|(refine jq ?_ ?_<;>intro h h')|refine Two_intro ?_ ?_|exact wZ|fail)<;>try refine sxEnd ?_)
 all_goals exact ro_mk (by simp[LeL,lk,r_nil,wrc]) dom1
theorem b4R(b:Nat)(out s:List UInt8)(hl:out.length≤500000)(hs:s.length≤400000):
  CT Tryz.prog 189 [.ptr b 0,.str s] (lk [(b,wrc out false)]) (fun r o=>r=.tup []∧o=lk [(b,wrc (out++(pn s.length++s)) false)]):=by
 have h:pn (s.length:Int)≠[]:=fun e=>(b5p _).1 e ⟨by omega,by omega⟩
 have:=c0M b out s false hl hs
 simp only[b8s,c1u,h,decide_false,Bool.or_self,Bool.false_eq_true,if_false]at this
 simpa only[List.append_assoc]using this
theorem b4o(b:Bool):0≤a3w b∧a3w b≤72057594037927935:=by cases b<;>decide
theorem b6W(x:Es)(hs:x.p.length≤100000):CP Tryz.prog 143 [.agg x.cs] (.tup [.str (a4H x).1,.int .i64 (a4H x).2]):=by
 have h1:=a0I (a3w x.cl);have h2:=a0I (a3w x.o);have h3:=a0I x.p.length;have h4:=a0I x.c;have h5:=a0I x.st
 refine a8O _ _ (by simp) ?_
 simp only[a4Z,Es.cs, ↓Ed,Eu, ↓reduceIte,reduceCtorEq,Nat.reduceAdd,Nat.reduceEqDiff,Nat.reduceLT,Nat.reduceLeDiff,Int.reduceToNat,Int.reduceEq,Int.reduceLT,Int.reduceLE,w64,List.length_map,List.length_append]
 by_cases hm:x.may=true
 ·have hi:=may_in hm
  have he:a4H x=(x.enc,0):=by simp[a4H,hm]
  have hx:a0d (x.may=true):=hm
  rw[he]
  let o1:=pn (a3w x.cl)++pn (a3w x.o)
  let o2:=o1++(pn x.p.length++x.p)
  let o3:=o2++pn x.c
  repeat' ((first|exact tt|refine CallO_pure (b4T x (by omega)) ?_|refine CallO_new (c2o) ?_|refine CallO_pure (c2p _) ?_|refine c1 (c0L _ _ (b4o _)) ?_|refine c1 (b0M _ (pn (a3w x.cl)) (a3w x.o) (b4o _) (by omega)) ?_|refine c1 (b4R _ o1 x.p (by simp only[o1,List.length_append];omega) (by omega)) ?_|refine c1 (b0M _ o2 x.c (by omega) (by simp only[o1,o2,List.length_append];omega)) ?_|refine c1 (b0M _ o3 x.st (by omega) (by simp only[o1,o2,o3,List.length_append];omega)) ?_|refine c1 (c0G _ (o3++pn x.st) false) ?_|refine na fun b=>?_|refine nb fun b hb=>?_|refine iq ?_|(refine jq ?_ ?_<;>intro h h')|refine Two_intro ?_ ?_|exact wZ|fail)<;>try refine sxEnd ?_)
  simp[Es.enc,o1,o2,o3]
 ·have hx:a0d (x.may=false):=Bool.eq_false_iff.2 hm
  repeat' ((first|exact tt|refine CallO_pure (b4T x (by omega)) ?_|refine na fun b=>?_|refine nb fun b hb=>?_|refine iq ?_|(refine jq ?_ ?_<;>intro h h')|refine Two_intro ?_ ?_|exact wZ|fail)<;>try refine sxEnd ?_)
  simp[a4H,hm]
theorem b8t(b:Nat)(s:List UInt8)(x:Int × Int)(least most:Int)(hs:s.length≤281474976710656)(hl:least≤0∧0≤most):
  CT Tryz.prog 115 [.ptr b 0,.int .i64 least,.int .i64 most] (lk [(b,rd s x.1 x.2)])
   (fun r o=>r=.int .i64 (a8k s least most x).1∧o=lk [(b,rd s (a8k s least most x).2.1 (a8k s least most x).2.2)]):=c2t b s x.1 x.2 least most hs hl
theorem c2c(b:Nat)(s:List UInt8)(x:Int × Int)(most:Int)(hs:s.length≤281474976710656)(hl:0≤most)(hn:0≤x.1∧x.1≤s.length):
  CT Tryz.prog 116 [.ptr b 0,.int .i64 most] (lk [(b,rd s x.1 x.2)])
   (fun r o=>r=.str (a5h s most x).1∧o=lk [(b,rd s (a5h s most x).2.1 (a5h s most x).2.2)]):=c1S b s x.1 x.2 most hs hl hn
theorem c2D(b:Nat)(s:List UInt8)(x:Int × Int):CT Tryz.prog 117 [.ptr b 0] (lk [(b,rd s x.1 x.2)]) (fun r o=>r=.int .i64 (rend s x)∧o=lk [(b,rd s x.1 x.2)]):=c2n b s x.1 x.2
theorem b9l(v:List UInt8)(hs:v.length≤100000):(Es.of v).p.length≤100000:=by
 simp only[Es.of,dpo,a5h];repeat' split
 all_goals (simp;try omega)
theorem decP_ok{v:List UInt8}(h:rend v (dst v).2=0)(g:(Es.of v).may=true):a7J v=(Es.of v,0):=by simp only[a7J,h,g,ne_eq,not_true_eq_false,if_false,if_true]
theorem decP_no{v:List UInt8}(h:rend v (dst v).2=0)(g:(Es.of v).may=false):a7J v=(Es.zero,1):=by simp only[a7J,h,g,ne_eq,not_true_eq_false,if_false,Bool.false_eq_true]
theorem decP_bad{v:List UInt8}(h:¬ rend v (dst v).2=0):a7J v=(Es.zero,rend v (dst v).2):=by simp only[a7J,h,ne_eq,not_false_eq_true,if_true]
theorem b6U(v:List UInt8)(hs:v.length≤100000):CP Tryz.prog 53 [.str v] (.tup [.agg (a7J v).1.cs,.int .i64 (a7J v).2]):=by
 have hm:=b9l v hs
 have h1:=b5x v 0 1 (0,0) (by simp)
 have h2:=b5x v 0 1 (dcl v).2 h1
 refine a8L _ _ (by simp) ?_
 simp only[a4Y];refine sxEnd ?_
 repeat' ((first|exact tt|refine CallO_new (c2L _) ?_|refine c1 (b8t _ v (0,0) 0 1 (by omega) (by omega)) ?_|refine c1 (b8t _ v (dcl v).2 0 1 (by omega) (by omega)) ?_|refine c1 (c2c _ v (dor v).2 12 (by omega) (by omega) h2) ?_|refine c1 (b8t _ v (dpo v).2 0 999 (by omega) (by omega)) ?_|refine c1 (b8t _ v (dch v).2 0 1099511627777 (by omega) (by omega)) ?_|refine c1 (c2D _ v (dst v).2) ?_|refine CallO_pure (b4T (Es.of v) (by omega)) ?_|refine na fun b=>?_|refine nb fun b hb=>?_|refine iq ?_|(refine jq ?_ ?_<;>intro h h')|refine Two_intro ?_ ?_|exact wZ|fail)<;>try refine sxEnd ?_)
 all_goals (try simp only[a0d,Hn]at *)
 all_goals first|rw[decP_ok (by assumption) (by assumption)]|rw[decP_no (by assumption) (by assumption)]|rw[decP_bad (by assumption)]
 all_goals simp[Es.of,Es.zero,dcl,dor,dpo,dch,dst]
 all_goals exact ⟨rfl,rfl⟩
theorem b0t(v:List UInt8)(hs:v.length≤100000):CP Tryz.prog 126 [.str v] (.tup [.agg (a7J v).1.cs,.int .i64 (a7J v).2]):=by
 have hm:=b9l v hs
 refine a2O _ _ (by simp) ?_
 simp only[a1s];refine sxEnd ?_
 repeat' ((first|exact tt|refine c1 (b0L _ v (0,0) 0 1 (by omega)) ?_|refine c1 (b0L _ v (dcl v).2 0 1 (by omega)) ?_|refine c1 (b6X _ v (dor v).2 12 (by omega)) ?_|refine c1 (b0L _ v (dpo v).2 0 999 (by omega)) ?_|refine c1 (b0L _ v (dch v).2 0 1099511627777 (by omega)) ?_|refine c1 (c0K _ v (dst v).2) ?_|refine CallO_pure (a9C (Es.of v) (by omega)) ?_|refine na fun b=>?_|refine nb fun b hb=>?_|refine iq ?_|(refine jq ?_ ?_<;>intro h h')|refine Two_intro ?_ ?_|exact wZ|fail)<;>try refine sxEnd ?_)
 all_goals (try simp only[a0d,Hn]at *)
 all_goals first|rw[decP_ok (by assumption) (by assumption)]|rw[decP_no (by assumption) (by assumption)]|rw[decP_bad (by assumption)]
 all_goals simp[Es.of,Es.zero,dcl,dor,dpo,dch,dst]
 all_goals exact ⟨rfl,rfl⟩
end
section
open Go.RowKit Go.Lib
set_option maxRecDepth 100000
theorem a7P(k:Int)(p:List UInt8)(c q:Int):(ofP k p c q).length≤160:=by
 rcases @ofP_q k p c q with h|h
 ·rw[h];simp
 ·exact q_len h
structure StI (L:List PrP):Prop where
 rise:a2Q L
 may:∀ q∈L,a0Z q.1 q.2=true
 len:L.length≤1000
theorem StI.getS_len{L:List PrP}(h:StI L)(k:List UInt8):(a4E L k).length≤64:=by
 cases hh:a1G L k with
 | false=>rw[getS_f hh];simp
 | true=>
  have hl:=has_lt hh
  rw[getS_t hh]
  have hm:L.getD (a0v L k) default∈L:=by rw[List.getD,List.getElem?_eq_getElem hl,Option.getD_some];exact List.getElem_mem hl
  have:=h.may _ hm
  simp only[a0Z,decide_eq_true_eq]at this
  exact this.2.2.2
def stD(s:Nat):StS→Prop
 | none=>True
 | some (g,_)=>¬ g=s∧¬ s=g
theorem stOk.d{s:Nat}{L:List PrP}{x:StS}(h:stOk s L x):stD s x:=by
 rcases x with _ | ⟨g,cap⟩
 ·trivial
 ·exact h.1
theorem a1q(s:Nat):stD s none=True:=rfl
theorem a0L(s g cap:Nat):stD s (some (g,cap))=(¬ g=s∧¬ s=g):=rfl
noncomputable def a3k (L:List PrP) (p:List UInt8) (c:Int):Es × Bool:=
 ((a7J (a4E L (ofP 7 p c 0))).1,a1G L (ofP 7 p c 0)&&decide ((a7J (a4E L (ofP 7 p c 0))).2=0))
theorem sxEnq{A B:Prop}(h:B)(e:A=B:=by (simp (disch:=omega) only[*, ↓Ed,Eu, ↓reduceIte,reduceCtorEq,Nat.reduceAdd,Nat.reduceEqDiff,Nat.reduceLT,Nat.reduceLeDiff,Int.reduceToNat,Int.reduceEq,Int.reduceLT,Int.reduceLE,w64];first|done|rfl)):A:=e▸h
set_option maxHeartbeats 4000000 in
theorem b5K(s:Nat)(L:List PrP)(hI:StI L)(p:List UInt8)(c:Int)(hp:p.length≤1000000)(x:StS)(hx:stOk s L x):
  CT Tryz.prog 18 [.ptr s 0,.agg [.str p,.int .i64 c]] (lk (stO s L x)) (fun r o=>r=.tup [.agg (a3k L p c).1.cs,.bool (a3k L p c).2]∧o=lk (stO s L x)):=by
 have hF:=c0m s L hI.rise (by have:=hI.len;omega) (ofP 7 p c 0) x hx
 have hO:=b5k 7 p c 0 hp
 have hv:=hI.getS_len (ofP 7 p c 0)
 have hD:=b6U (a4E L (ofP 7 p c 0)) (by omega)
 have hgs:=hx.d
 unfold a3k
 clear hI hx
 generalize ofP 7 p c 0=k at *
 generalize a4E L k=v at *
 generalize a1G L k=ok at *
 refine b1C _ _ _ (by simp) ?_
 rcases ok with _|_<;>rcases x with _ | ⟨g,cap⟩
 all_goals
  simp only[a1q,a0L,a0f,a0b]at hgs hF ⊢
  simp only[a9j];refine sxEnq ?_
  repeat' ((first|exact tt|refine CallO_pure (hO) ?_|refine CallO_pure (hD) ?_|refine c1 (hF) ?_|refine c2 (hF) ?_|refine na fun b=>?_|refine nb fun b hb=>?_|refine iq ?_|(refine jq ?_ ?_<;>intro h h')|refine Two_intro ?_ ?_|exact wZ|fail)<;>try refine sxEnq ?_)
  all_goals exact ro_mk (by simp[LeL,lk,r_two,rl_cons,rl_nil,arR,al_agg,al_bool,view,l_all, *]) (a2B _)
noncomputable def c1s (L:List PrP) (p:List UInt8) (c:Int) (x:Es):List PrP:=if (a4H x).2=0 then a7f L (ofP 7 p c 0) (a4H x).1 else L
noncomputable def c1R (p:List UInt8) (c:Int) (x:Es):Int:=if (a4H x).2=0 then b3Y (ofP 7 p c 0) (a4H x).1 else (a4H x).2
theorem b6j(x:Es)(h:x.p.length≤100000):(a4H x).1.length≤1000000:=by
 unfold a4H
 split
 ·have h1:=fun n=>a0I n
  have a:=h1 (a3w x.cl);have b:=h1 (a3w x.o);have c:=h1 x.p.length;have d:=h1 x.c;have e:=h1 x.st
  simp only[Es.enc,List.length_append];omega
 ·simp
set_option maxHeartbeats 8000000 in
theorem c1Y(s:Nat)(L:List PrP)(hI:StI L)(p:List UInt8)(c:Int)(hp:p.length≤1000000)(e:Es)(he:e.p.length≤100000)(x:StS)(hx:stOk s L x):
  CT Tryz.prog 73 [.ptr s 0,.agg [.str p,.int .i64 c],.agg e.cs] (lk (stO s L x)) (b8j s L (c1s L p c e) x (c1R p c e)):=by
 have hl:=hI.len
 have hS:=b3K s L hI.rise (by omega) (ofP 7 p c 0) (a4H e).1 (by have:=a7P 7 p c 0;omega) (b6j e he) x hx
 have hO:=b5k 7 p c 0 hp
 have hE:=b6W e he
 have hgs:=hx.d
 unfold c1s c1R
 generalize ofP 7 p c 0=k at *
 generalize a4H e=z at *
 refine b1D _ _ _ (by simp) ?_
 by_cases hz:z.2=0
 ·rw[if_pos hz,if_pos hz]
  clear hI hx
  generalize a7f L k z.1=L' at *
  generalize b3Y k z.1=E at *
  rw[hz]at hE
  rcases x with _ | ⟨g,cap⟩
  all_goals
   simp only[a1q,a0L,a0f,a0b]at hgs hS ⊢
   simp only[a5R];refine sxEnq ?_
   repeat' ((first|exact tt|refine CallO_pure (hO) ?_|refine CallO_pure (hE) ?_|((refine c_set0 hS (fun h0=>?_) (fun b c hn h2 hc=>?_))<;>(try simp only[ln_cons2,ln_nil,and_true]at hn))|((refine c_set1 hS (fun c hc=>?_) (fun b c hn h2 hc=>?_))<;>(try simp only[ln_cons2,ln_nil,and_true]at hn))|refine na fun b=>?_|refine nb fun b hb=>?_|refine iq ?_|(refine jq ?_ ?_<;>intro h h')|refine Two_intro ?_ ?_|exact wZ|fail)<;>try refine sxEnq ?_)
   all_goals first
   | exact ro_st (L:=L) (x:=none) none ⟨by first|exact h0|exact hx,fun _=>rfl⟩ (by simp[a1a,arR,lk];done) (by first|(simp[*,LeL,lk,a0f,ov_cons,ov_nil,del_cons,del_nil];done)|fail)
   | exact ro_st (L:=L) (x:=none) (some (b,c)) ⟨⟨h2,hc⟩,fun h=>by cases h⟩ (by simp[a1a,arR,lk];done) (by first|(simp[*,LeL,lk,a0b,a0f,ov_cons,ov_nil,del_cons,del_nil];done)|fail)
   | exact ro_st (L:=L) (x:=some (g,cap)) (some (g,c)) ⟨⟨hgs,hc⟩,fun h=>by cases h⟩ (by simp[a1a,arR,lk];done) (by first|(simp[*,LeL,lk,a0b,ov_cons,ov_nil,del_cons,del_nil];done)|fail)
   | exact ro_st (L:=L) (x:=some (g,cap)) (some (b,c)) ⟨⟨h2,hc⟩,fun h=>by cases h⟩ (by simp[a1a,arR,lk];done) (by first|(simp[*,LeL,lk,a0b,ov_cons,ov_nil,del_cons,del_nil];done)|fail)
   | exact ro_st (L:=L) (x:=some (g,cap)) (some (g,cap)) ⟨hx,fun h=>by cases h⟩ (by simp[a1a,arR,lk];done) (by first|(simp[*,LeL,lk,a0b,ov_cons,ov_nil,del_cons,del_nil];done)|fail)
 ·rw[if_neg hz,if_neg hz]
  have f1:a0d (decide (z.2=0)=false):=by simp only[a0d,Hn];exact hz
  clear hS
  rcases x with _ | ⟨g,cap⟩
  all_goals
   simp only[a1q,a0L,a0f,a0b]at hgs ⊢
   simp only[a5R];refine sxEnq ?_
   repeat' ((first|exact tt|refine CallO_pure (hO) ?_|refine CallO_pure (hE) ?_|refine na fun b=>?_|refine nb fun b hb=>?_|refine iq ?_|(refine jq ?_ ?_<;>intro h h')|refine Two_intro ?_ ?_|exact wZ|fail)<;>try refine sxEnq ?_)
   all_goals first
   | exact ro_st (L:=L) (x:=none) none ⟨by first|exact h0|exact hx,fun _=>rfl⟩ (by simp[a1a,arR,lk];done) (by first|(simp[*,LeL,lk,a0f,ov_cons,ov_nil,del_cons,del_nil];done)|fail)
   | exact ro_st (L:=L) (x:=none) (some (b,c)) ⟨⟨h2,hc⟩,fun h=>by cases h⟩ (by simp[a1a,arR,lk];done) (by first|(simp[*,LeL,lk,a0b,a0f,ov_cons,ov_nil,del_cons,del_nil];done)|fail)
   | exact ro_st (L:=L) (x:=some (g,cap)) (some (g,c)) ⟨⟨hgs,hc⟩,fun h=>by cases h⟩ (by simp[a1a,arR,lk];done) (by first|(simp[*,LeL,lk,a0b,ov_cons,ov_nil,del_cons,del_nil];done)|fail)
   | exact ro_st (L:=L) (x:=some (g,cap)) (some (b,c)) ⟨⟨h2,hc⟩,fun h=>by cases h⟩ (by simp[a1a,arR,lk];done) (by first|(simp[*,LeL,lk,a0b,ov_cons,ov_nil,del_cons,del_nil];done)|fail)
   | exact ro_st (L:=L) (x:=some (g,cap)) (some (g,cap)) ⟨hx,fun h=>by cases h⟩ (by simp[a1a,arR,lk];done) (by first|(simp[*,LeL,lk,a0b,ov_cons,ov_nil,del_cons,del_nil];done)|fail)
end
section
open Go.RowKit Go.Lib
set_option maxRecDepth 100000
def okK(k:Int):Bool:=decide (4≤k)&&decide (k≤6)
theorem sxEnr{A B:Prop}(h:B)(e:A=B:=by (simp (disch:=omega) only[*, ↓Ed,Eu, ↓reduceIte,reduceCtorEq,Nat.reduceAdd,Nat.reduceEqDiff,Nat.reduceLT,Nat.reduceLeDiff,Int.reduceToNat,Int.reduceEq,Int.reduceLT,Int.reduceLE,w64];first|done|rfl)):A:=e▸h
theorem b0O(k:Int):CP Tryz.prog 74 [.int .i64 k] (.bool (okK k)):=by
 refine b0e _ _ (by simp) ?_
 unfold okK
 simp only[a6E];refine sxEnr ?_
 repeat' ((first|exact tt|refine na fun b=>?_|refine nb fun b hb=>?_|refine iq ?_|(refine jq ?_ ?_<;>intro h h')|refine Two_intro ?_ ?_|exact wZ|fail)<;>try refine sxEnr ?_)
 all_goals (first|rw[Bool.true_and]|(rw[decide_eq_false (by omega:¬ 4≤k)];rfl))
def okN(k n:Int):Bool:=okK k&&(decide (1≤n)&&decide (n≤1099511627777))
noncomputable def c1g (L:List PrP) (k:Int) (p:List UInt8) (c n:Int):List PrP:=if okN k n=true then a7f L (ofP k p c 0) (pn n) else L
noncomputable def b3Z (k:Int) (p:List UInt8) (c n:Int):Int:=if okN k n=true then b3Y (ofP k p c 0) (pn n) else 1
set_option maxHeartbeats 8000000 in
theorem a6C(s:Nat)(L:List PrP)(hI:StI L)(k:Int)(p:List UInt8)(c:Int)(hp:p.length≤1000000)(n:Int)(x:StS)(hx:stOk s L x):
  CT Tryz.prog 56 [.ptr s 0,.int .i64 k,.agg [.str p,.int .i64 c],.int .i64 n] (lk (stO s L x)) (b8j s L (c1g L k p c n) x (b3Z k p c n)):=by
 have hl:=hI.len
 have hS:=b3K s L hI.rise (by omega) (ofP k p c 0) (pn n) (by have:=a7P k p c 0;omega) (by have:=a0I n;omega) x hx
 have hO:=b5k k p c 0 hp
 have hU:=c0I n
 have hN:=b0O k
 have hC:=a8x n
 have hgs:=hx.d
 unfold c1g b3Z okN
 generalize ofP k p c 0=key at *
 generalize pn n=v at *
 generalize okK k=a at *
 generalize (decide (1≤n)&&decide (n≤1099511627777))=b at *
 refine a7h _ _ _ (by simp) ?_
 cases a with
 | true=>
  cases b with
  | true=>
   simp only[Bool.and_self,if_true]
   clear hI hx
   generalize a7f L key v=L' at *
   generalize b3Y key v=E at *
   rcases x with _ | ⟨g,cap⟩
   all_goals
    simp only[a1q,a0L,a0f,a0b]at hgs hS ⊢
    simp only[a1N];refine sxEnr ?_
    repeat' ((first|exact tt|refine CallO_pure (hO) ?_|refine CallO_pure (hU) ?_|refine CallO_pure (hN) ?_|refine CallO_pure (hC) ?_|((refine c_set0 hS (fun h0=>?_) (fun b c hn h2 hc=>?_))<;>(try simp only[ln_cons2,ln_nil,and_true]at hn))|((refine c_set1 hS (fun c hc=>?_) (fun b c hn h2 hc=>?_))<;>(try simp only[ln_cons2,ln_nil,and_true]at hn))|refine na fun b=>?_|refine nb fun b hb=>?_|refine iq ?_|(refine jq ?_ ?_<;>intro h h')|refine Two_intro ?_ ?_|exact wZ|fail)<;>try refine sxEnr ?_)
    all_goals first
    | exact ro_st (L:=L) (x:=none) none ⟨by first|exact h0|exact hx,fun _=>rfl⟩ (by simp[a1a,arR,lk];done) (by first|(simp[*,LeL,lk,a0f,ov_cons,ov_nil,del_cons,del_nil];done)|fail)
    | exact ro_st (L:=L) (x:=none) (some (b,c)) ⟨⟨h2,hc⟩,fun h=>by cases h⟩ (by simp[a1a,arR,lk];done) (by first|(simp[*,LeL,lk,a0b,a0f,ov_cons,ov_nil,del_cons,del_nil];done)|fail)
    | exact ro_st (L:=L) (x:=some (g,cap)) (some (g,c)) ⟨⟨hgs,hc⟩,fun h=>by cases h⟩ (by simp[a1a,arR,lk];done) (by first|(simp[*,LeL,lk,a0b,ov_cons,ov_nil,del_cons,del_nil];done)|fail)
    | exact ro_st (L:=L) (x:=some (g,cap)) (some (b,c)) ⟨⟨h2,hc⟩,fun h=>by cases h⟩ (by simp[a1a,arR,lk];done) (by first|(simp[*,LeL,lk,a0b,ov_cons,ov_nil,del_cons,del_nil];done)|fail)
    | exact ro_st (L:=L) (x:=some (g,cap)) (some (g,cap)) ⟨hx,fun h=>by cases h⟩ (by simp[a1a,arR,lk];done) (by first|(simp[*,LeL,lk,a0b,ov_cons,ov_nil,del_cons,del_nil];done)|fail)
  | false=>
   simp only[Bool.and_false,Bool.false_and,Bool.false_eq_true,if_false]
   clear hS
   rcases x with _ | ⟨g,cap⟩
   all_goals
    simp only[a1q,a0L,a0f,a0b]at hgs ⊢
    simp only[a1N];refine sxEnr ?_
    repeat' ((first|exact tt|refine CallO_pure (hO) ?_|refine CallO_pure (hU) ?_|refine CallO_pure (hN) ?_|refine CallO_pure (hC) ?_|refine na fun b=>?_|refine nb fun b hb=>?_|refine iq ?_|(refine jq ?_ ?_<;>intro h h')|refine Two_intro ?_ ?_|exact wZ|fail)<;>try refine sxEnr ?_)
    all_goals first
    | exact ro_st (L:=L) (x:=none) none ⟨by first|exact h0|exact hx,fun _=>rfl⟩ (by simp[a1a,arR,lk];done) (by first|(simp[*,LeL,lk,a0f,ov_cons,ov_nil,del_cons,del_nil];done)|fail)
    | exact ro_st (L:=L) (x:=none) (some (b,c)) ⟨⟨h2,hc⟩,fun h=>by cases h⟩ (by simp[a1a,arR,lk];done) (by first|(simp[*,LeL,lk,a0b,a0f,ov_cons,ov_nil,del_cons,del_nil];done)|fail)
    | exact ro_st (L:=L) (x:=some (g,cap)) (some (g,c)) ⟨⟨hgs,hc⟩,fun h=>by cases h⟩ (by simp[a1a,arR,lk];done) (by first|(simp[*,LeL,lk,a0b,ov_cons,ov_nil,del_cons,del_nil];done)|fail)
    | exact ro_st (L:=L) (x:=some (g,cap)) (some (b,c)) ⟨⟨h2,hc⟩,fun h=>by cases h⟩ (by simp[a1a,arR,lk];done) (by first|(simp[*,LeL,lk,a0b,ov_cons,ov_nil,del_cons,del_nil];done)|fail)
    | exact ro_st (L:=L) (x:=some (g,cap)) (some (g,cap)) ⟨hx,fun h=>by cases h⟩ (by simp[a1a,arR,lk];done) (by first|(simp[*,LeL,lk,a0b,ov_cons,ov_nil,del_cons,del_nil];done)|fail)
 | false=>
  simp only[Bool.and_false,Bool.false_and,Bool.false_eq_true,if_false]
  clear hS
  rcases x with _ | ⟨g,cap⟩
  all_goals
   simp only[a1q,a0L,a0f,a0b]at hgs ⊢
   simp only[a1N];refine sxEnr ?_
   repeat' ((first|exact tt|refine CallO_pure (hO) ?_|refine CallO_pure (hU) ?_|refine CallO_pure (hN) ?_|refine CallO_pure (hC) ?_|refine na fun b=>?_|refine nb fun b hb=>?_|refine iq ?_|(refine jq ?_ ?_<;>intro h h')|refine Two_intro ?_ ?_|exact wZ|fail)<;>try refine sxEnr ?_)
   all_goals first
   | exact ro_st (L:=L) (x:=none) none ⟨by first|exact h0|exact hx,fun _=>rfl⟩ (by simp[a1a,arR,lk];done) (by first|(simp[*,LeL,lk,a0f,ov_cons,ov_nil,del_cons,del_nil];done)|fail)
   | exact ro_st (L:=L) (x:=none) (some (b,c)) ⟨⟨h2,hc⟩,fun h=>by cases h⟩ (by simp[a1a,arR,lk];done) (by first|(simp[*,LeL,lk,a0b,a0f,ov_cons,ov_nil,del_cons,del_nil];done)|fail)
   | exact ro_st (L:=L) (x:=some (g,cap)) (some (g,c)) ⟨⟨hgs,hc⟩,fun h=>by cases h⟩ (by simp[a1a,arR,lk];done) (by first|(simp[*,LeL,lk,a0b,ov_cons,ov_nil,del_cons,del_nil];done)|fail)
   | exact ro_st (L:=L) (x:=some (g,cap)) (some (b,c)) ⟨⟨h2,hc⟩,fun h=>by cases h⟩ (by simp[a1a,arR,lk];done) (by first|(simp[*,LeL,lk,a0b,ov_cons,ov_nil,del_cons,del_nil];done)|fail)
   | exact ro_st (L:=L) (x:=some (g,cap)) (some (g,cap)) ⟨hx,fun h=>by cases h⟩ (by simp[a1a,arR,lk];done) (by first|(simp[*,LeL,lk,a0b,ov_cons,ov_nil,del_cons,del_nil];done)|fail)
noncomputable def a5w (L:List PrP) (k:Int) (p:List UInt8) (c:Int):Int:=
 if okK k=true∧(nx (a4E L (ofP k p c 0)) 0).2.2=0∧¬ (nx (a4E L (ofP k p c 0)) 0).2.1<((a4E L (ofP k p c 0)).length:Int) then (nx (a4E L (ofP k p c 0)) 0).1 else 0
set_option maxHeartbeats 8000000 in
theorem b5P(s:Nat)(L:List PrP)(hI:StI L)(k:Int)(p:List UInt8)(c:Int)(hp:p.length≤1000000)(x:StS)(hx:stOk s L x):
  CT Tryz.prog 54 [.ptr s 0,.int .i64 k,.agg [.str p,.int .i64 c]] (lk (stO s L x)) (fun r o=>r=.int .i64 (a5w L k p c)∧o=lk (stO s L x)):=by
 have hF:=c0m s L hI.rise (by have:=hI.len;omega) (ofP k p c 0) x hx
 have hO:=b5k k p c 0 hp
 have hv:=hI.getS_len (ofP k p c 0)
 have hD:=b9G (a4E L (ofP k p c 0)) 0 (by omega)
 have hN:=b0O k
 have hgs:=hx.d
 unfold a5w
 clear hI hx
 generalize ofP k p c 0=key at *
 generalize a4E L key=v at *
 generalize nx v 0=z at *
 generalize okK k=a at *
 generalize a1G L key=ok at *
 refine b0n _ _ _ (by simp) ?_
 by_cases h1:a=true∧z.2.2=0∧¬ z.2.1<(v.length:Int)
 ·rw[if_pos h1]
  obtain ⟨rfl,h2,h3⟩:=h1
  have f2:a0d (decide (z.2.2=0)=true):=by simp only[a0d,Hn];exact h2
  have f3:a0d (decide (z.2.1<(v.length:Int))=false):=by simp only[a0d,Hn];exact h3
  clear h2 h3
  rcases x with _ | ⟨g,cap⟩
  all_goals
   simp only[a1q,a0L,a0f,a0b]at hgs hF ⊢
   simp only[a4F];refine sxEnr ?_
   repeat' ((first|exact tt|refine CallO_pure (hO) ?_|refine CallO_pure (hD) ?_|refine CallO_pure (hN) ?_|refine c1 (hF) ?_|refine c2 (hF) ?_|refine na fun b=>?_|refine nb fun b hb=>?_|refine iq ?_|(refine jq ?_ ?_<;>intro h h')|refine Two_intro ?_ ?_|exact wZ|fail)<;>try refine sxEnr ?_)
   all_goals exact ro_mk (by simp[LeL,lk,a1a,arR, *]) (a2B _)
 ·rw[if_neg h1]
  rcases x with _ | ⟨g,cap⟩
  all_goals
   simp only[a1q,a0L,a0f,a0b]at hgs hF ⊢
   simp only[a4F];refine sxEnr ?_
   repeat' ((first|exact tt|refine CallO_pure (hO) ?_|refine CallO_pure (hD) ?_|refine CallO_pure (hN) ?_|refine c1 (hF) ?_|refine c2 (hF) ?_|refine na fun b=>?_|refine nb fun b hb=>?_|refine iq ?_|(refine jq ?_ ?_<;>intro h h')|refine Two_intro ?_ ?_|exact wZ|fail)<;>try refine sxEnr ?_)
   all_goals first|exact ro_mk (by first|(simp[LeL,lk,a1a,arR, *];done)|fail) (a2B _)|(exfalso;apply h1;simp only[a0d,Hn]at *;refine ⟨by assumption,by omega,by omega⟩)
end
section
open Go.RowKit Go.Sort Go.Shelf
set_option maxRecDepth 100000
abbrev enC(x:a9L):List AV:=[.str x.1,.int .i64 x.2]
end
section
open Go.RowKit Go.Lib
set_option maxRecDepth 100000
abbrev enR(l:List a9L):List (List AV):=l.map enC
section
variable {P:Program} {d:Option Nat} {s:St} {K:St→Prop}
end
theorem take_snocA{α:Type}[Inhabited α]{l:List α}{k:Nat}(h:k<l.length):l.take (k+1)=l.take k++[l.getD k default]:=by
 rw[List.take_succ,List.getElem?_eq_getElem h];simp[List.getD,h]
end
section
open Go.RowKit Go.Lib
set_option maxRecDepth 100000
abbrev prV(L:List PrP):AV:=.sl none 2 (prR L)
theorem has_c'{L:List PrP}{k:List UInt8}(h:a0v L k<L.length):a1G L k=decide ((L.getD (a0v L k) default).1=k):=by simp[a1G,h]
theorem sxDlp{A B:Prop}(h:B)(e:A=B:=by (simp (disch:=omega) only[*, ↓Ed,Eu, ↓reduceIte,reduceCtorEq,Nat.reduceAdd,Nat.reduceEqDiff,Nat.reduceLT,Nat.reduceLeDiff,Int.reduceToNat,Int.reduceEq,Int.reduceLT,Int.reduceLE,w64,a0w,a1g];first|done|rfl)):A:=e▸h
theorem b5m(L:List PrP)(hb:L.length≤100000)(k:List UInt8):CP Tryz.prog 84 [prV L,.str k] (.tup [.int .i64 (a0v L k:Nat),.bool (a1G L k)]):=by
 have hp:=a5y L k
 have hpb:=a3l k L
 have hpa:=b0m k L
 refine a6s _ _ (by simp) ?_
 simp only[a2Z];refine sxDlp ?_
 repeat' ((first|exact tt|refine na fun b=>?_|refine nb fun b hb=>?_|refine iq ?_|(refine jq ?_ ?_<;>intro h h')|refine Two_intro ?_ ?_|exact wZ|fail)<;>try refine sxDlp ?_)
 refine wpx_loop (fun i:Nat=>⟨lk [(0,prV L),(1,.str k),(6,.int .i64 (i:Int))],lk []⟩) (fun i=>i≤a0v L k) (fun i=>a0v L k - i) 0 (by omega) (Le_lit (by simp[LeL,lk])) ?_
 intro i hi
 by_cases hlt:i<a0v L k
 ·have f1:a0d (decide ((i:Int)<L.length)=true):=fo
  have f2:a0d (Op.bytesLess (L.getD i default).1 k=true):=hpb i hlt
  clear hpb hpa
  refine sxDlp ?_
  repeat' ((first|exact tt|refine na fun b=>?_|refine nb fun b hb=>?_|refine iq ?_|(refine jq ?_ ?_<;>intro h h')|refine Two_intro ?_ ?_|exact wZ|fail)<;>try refine sxDlp ?_)
  all_goals exact Round_lit (i+1) ⟨Le_lit (by simp[LeL,lk]),hlt,by omega⟩
 ·obtain rfl:i=a0v L k:=by omega
  by_cases hl:a0v L k<L.length
  ·have f1:a0d (decide (((a0v L k:Nat):Int)<L.length)=true):=fo
   have f2:a0d (Op.bytesLess (L.getD (a0v L k) default).1 k=false):=hpa hl
   rw[has_c' hl]
   clear hpb hpa hlt
   generalize a0v L k=i at *
   refine sxDlp ?_
   repeat' ((first|exact tt|refine na fun b=>?_|refine nb fun b hb=>?_|refine iq ?_|(refine jq ?_ ?_<;>intro h h')|refine Two_intro ?_ ?_|exact wZ|fail)<;>try refine sxDlp ?_)
  ·have f1:a0d (decide (((a0v L k:Nat):Int)<L.length)=false):=fo
   rw[has_f hl]
   clear hpb hpa hlt
   generalize a0v L k=i at *
   refine sxDlp ?_
   repeat' ((first|exact tt|refine na fun b=>?_|refine nb fun b hb=>?_|refine iq ?_|(refine jq ?_ ?_<;>intro h h')|refine Two_intro ?_ ?_|exact wZ|fail)<;>try refine sxDlp ?_)
theorem b9M(L:List PrP)(hb:L.length≤100000)(k:List UInt8):CP Tryz.prog 125 [prV L,.str k] (.tup [.str (a4E L k),.bool (a1G L k)]):=by
 have hP:=b5m L hb k
 refine a8a _ _ (by simp) ?_
 cases hh:a1G L k with
 | false=>
  rw[getS_f hh]
  rw[hh]at hP
  simp only[a2z];refine sxDlp ?_
  repeat' ((first|exact tt|refine CallO_pure (hP) ?_|refine na fun b=>?_|refine nb fun b hb=>?_|refine iq ?_|(refine jq ?_ ?_<;>intro h h')|refine Two_intro ?_ ?_|exact wZ|fail)<;>try refine sxDlp ?_)
 | true=>
  have hl:=has_lt hh
  rw[getS_t hh]
  rw[hh]at hP
  clear hh
  simp only[a2z];refine sxDlp ?_
  repeat' ((first|exact tt|refine CallO_pure (hP) ?_|refine na fun b=>?_|refine nb fun b hb=>?_|refine iq ?_|(refine jq ?_ ?_<;>intro h h')|refine Two_intro ?_ ?_|exact wZ|fail)<;>try refine sxDlp ?_)
theorem c1d(L:List PrP)(k v:List UInt8):((prR L).take (a0v L k)++[[.str k,.str v]])++(prR L).drop (if a1G L k=true then a0v L k+1 else a0v L k)=prR (a2f L k v):=by
 simp only[prR,a2f,List.map_append,List.map_take,List.map_drop,List.map_cons,List.map_nil]
theorem a9D(L:List PrP)(hb:L.length≤100000)(k v:List UInt8):CP Tryz.prog 38 [prV L,.str k,.str v] (.sl (some 102) 2 (prR (a2f L k v))):=by
 have hP:=b5m L hb k
 have hp:=a5y L k
 have hl:=a0w L
 have hS:=c1d L k v
 have hmx:=a9Z
 have e1:(prR L).take L.length=prR L:=by rw[← hl];exact List.take_length
 refine a8b _ _ (by simp) ?_
 cases hh:a1G L k with
 | false=>
  rw[hh]at hP hS
  rw[if_neg (by simp)]at hS
  rw[← hS]
  generalize a0v L k=i at *
  clear hh hS
  simp only[a2A];refine sxDlp ?_
  repeat' ((first|exact tt|refine CallO_pure (hP) ?_|refine na fun b=>?_|refine nb fun b hb=>?_|refine iq ?_|(refine jq ?_ ?_<;>intro h h')|refine Two_intro ?_ ?_|exact wZ|fail)<;>try refine sxDlp ?_)
  all_goals ((try rw[show ((i:Int)+1).toNat=i+1 by omega]);simp only[e1,List.length_take,List.length_drop,List.length_append,List.length_cons,List.length_nil,hl,and_true];omega)
 | true=>
  have hlt:=has_lt hh
  rw[hh]at hP hS
  rw[if_pos rfl]at hS
  rw[← hS]
  generalize a0v L k=i at *
  clear hh hS
  simp only[a2A];refine sxDlp ?_
  repeat' ((first|exact tt|refine CallO_pure (hP) ?_|refine na fun b=>?_|refine nb fun b hb=>?_|refine iq ?_|(refine jq ?_ ?_<;>intro h h')|refine Two_intro ?_ ?_|exact wZ|fail)<;>try refine sxDlp ?_)
  all_goals ((try rw[show ((i:Int)+1).toNat=i+1 by omega]);simp only[e1,List.length_take,List.length_drop,List.length_append,List.length_cons,List.length_nil,hl,and_true];omega)
theorem b1H(k v:List UInt8)(hk:k.length≤1000000)(hv:v.length≤1000000):CP Tryz.prog 40 [.str k,.str v] (.bool (a0Z k v)):=by
 refine a4P _ _ (by simp) ?_
 unfold a0Z
 by_cases h:1≤k.length∧k.length≤160∧1≤v.length∧v.length≤64
 ·rw[decide_eq_true h]
  simp only[a1n];refine sxDlp ?_
  repeat' ((first|exact tt|refine na fun b=>?_|refine nb fun b hb=>?_|refine iq ?_|(refine jq ?_ ?_<;>intro h h')|refine Two_intro ?_ ?_|exact wZ|fail)<;>try refine sxDlp ?_)
  all_goals (simp only[a0d,Hn]at *;omega)
 ·rw[decide_eq_false h]
  simp only[a1n];refine sxDlp ?_
  repeat' ((first|exact tt|refine na fun b=>?_|refine nb fun b hb=>?_|refine iq ?_|(refine jq ?_ ?_<;>intro h h')|refine Two_intro ?_ ?_|exact wZ|fail)<;>try refine sxDlp ?_)
  all_goals (simp only[a0d,Hn]at *;omega)
end
section
open Go.RowKit Go.Lib
set_option maxRecDepth 100000
theorem b9k:(nx [] 0).2.2≠0:=by decide
theorem b6f:(a7J []).2≠0∧(a7J []).1=Es.zero:=by
 have h:rend [] (dst []).2≠0:=by decide
 have e:a7J []=(Es.zero,rend [] (dst []).2):=by unfold a7J;rw[if_pos h]
 rw[e];exact ⟨h,rfl⟩
theorem getE_f{L:List PrP}{p:List UInt8}{c:Int}(h:a1G L (ofP 7 p c 0)=false):a3k L p c=(Es.zero,false):=by
 unfold a3k
 rw[getS_f h,h,b6f.2];rfl
theorem getE_t{L:List PrP}{p:List UInt8}{c:Int}(h:a1G L (ofP 7 p c 0)=true):a3k L p c=((a7J (a4E L (ofP 7 p c 0))).1,decide ((a7J (a4E L (ofP 7 p c 0))).2=0)):=by
 unfold a3k
 rw[h,Bool.true_and]
theorem sxDlq{A B:Prop}(h:B)(e:A=B:=by (simp (disch:=omega) only[*, ↓Ed,Eu, ↓reduceIte,reduceCtorEq,Nat.reduceAdd,Nat.reduceEqDiff,Nat.reduceLT,Nat.reduceLeDiff,Int.reduceToNat,Int.reduceEq,Int.reduceLT,Int.reduceLE,w64,a0w,a1g];first|done|rfl)):A:=e▸h
theorem a8y(L:List PrP)(hI:StI L)(p:List UInt8)(c:Int)(hp:p.length≤1000000):CP Tryz.prog 59 [prV L,.agg [.str p,.int .i64 c]] (.tup [.agg (a3k L p c).1.cs,.bool (a3k L p c).2]):=by
 have hl:=hI.len
 have hG:=b9M L (by omega) (ofP 7 p c 0)
 have hO:=b3T 7 p c 0 hp
 have hv:=hI.getS_len (ofP 7 p c 0)
 have hD:=b0t (a4E L (ofP 7 p c 0)) (by omega)
 refine a3V _ _ (by simp) ?_
 cases hh:a1G L (ofP 7 p c 0) with
 | false=>
  rw[getE_f hh]
  rw[hh]at hG
  clear hI hh
  generalize ofP 7 p c 0=k at *
  generalize a4E L k=v at *
  simp only[a1i];refine sxDlq ?_
  repeat' ((first|exact tt|refine CallO_pure (hO) ?_|refine CallO_pure (hG) ?_|refine na fun b=>?_|refine nb fun b hb=>?_|refine iq ?_|(refine jq ?_ ?_<;>intro h h')|refine Two_intro ?_ ?_|exact wZ|fail)<;>try refine sxDlq ?_)
  all_goals rfl
 | true=>
  rw[getE_t hh]
  rw[hh]at hG
  clear hI hh
  generalize ofP 7 p c 0=k at *
  generalize a4E L k=v at *
  generalize a7J v=z at *
  simp only[a1i];refine sxDlq ?_
  repeat' ((first|exact tt|refine CallO_pure (hO) ?_|refine CallO_pure (hG) ?_|refine CallO_pure (hD) ?_|refine na fun b=>?_|refine nb fun b hb=>?_|refine iq ?_|(refine jq ?_ ?_<;>intro h h')|refine Two_intro ?_ ?_|exact wZ|fail)<;>try refine sxDlq ?_)
theorem b2F(L:List PrP)(hb:L.length≤1000)(p:List UInt8)(c:Int)(hp:p.length≤1000000)(e:Es)(he:e.p.length≤100000):CP Tryz.prog 83 [prV L,.agg [.str p,.int .i64 c],.agg e.cs] (.sl (some 102) 2 (prR (a2f L (ofP 7 p c 0) (a4H e).1))):=by
 have hS:=a9D L (by omega) (ofP 7 p c 0) (a4H e).1
 have hO:=b3T 7 p c 0 hp
 have hE:=b0w e he
 refine a3Z _ _ (by simp) ?_
 simp only[a2i];refine sxDlq ?_
 repeat' ((first|exact tt|refine CallO_pure (hO) ?_|refine CallO_pure (hS) ?_|refine CallO_pure (hE) ?_|refine na fun b=>?_|refine nb fun b hb=>?_|refine iq ?_|(refine jq ?_ ?_<;>intro h h')|refine Two_intro ?_ ?_|exact wZ|fail)<;>try refine sxDlq ?_)
theorem a9E(L:List PrP)(hb:L.length≤1000)(k:Int)(p:List UInt8)(c:Int)(hp:p.length≤1000000)(n:Int):CP Tryz.prog 61 [prV L,.int .i64 k,.agg [.str p,.int .i64 c],.int .i64 n] (.sl (some 102) 2 (prR (a2f L (ofP k p c 0) (pn n)))):=by
 have hS:=a9D L (by omega) (ofP k p c 0) (pn n)
 have hO:=b3T k p c 0 hp
 have hE:=b0H n
 refine a4R _ _ (by simp) ?_
 simp only[a2q];refine sxDlq ?_
 repeat' ((first|exact tt|refine CallO_pure (hO) ?_|refine CallO_pure (hS) ?_|refine CallO_pure (hE) ?_|refine na fun b=>?_|refine nb fun b hb=>?_|refine iq ?_|(refine jq ?_ ?_<;>intro h h')|refine Two_intro ?_ ?_|exact wZ|fail)<;>try refine sxDlq ?_)
theorem b5h(L:List PrP)(hI:StI L)(k:Int)(p:List UInt8)(c:Int)(hp:p.length≤1000000):CP Tryz.prog 60 [prV L,.int .i64 k,.agg [.str p,.int .i64 c]] (.int .i64 (a5w L k p c)):=by
 have hl:=hI.len
 have hG:=b9M L (by omega) (ofP k p c 0)
 have hO:=b3T k p c 0 hp
 have hv:=hI.getS_len (ofP k p c 0)
 have hD:=a8r (a4E L (ofP k p c 0)) 0 (by omega)
 have hx:=b3b (a4E L (ofP k p c 0)) 0
 have hz:a1G L (ofP k p c 0)=false→(nx (a4E L (ofP k p c 0)) 0).2.2≠0:=fun h=>by rw[getS_f h];exact b9k
 unfold a5w okK
 clear hI
 generalize ofP k p c 0=key at *
 generalize a4E L key=v at *
 generalize nx v 0=z at *
 generalize a1G L key=ok at *
 refine a7a _ _ (by simp) ?_
 by_cases h1:(decide (4≤k)&&decide (k≤6))=true∧z.2.2=0∧¬ z.2.1<(v.length:Int)
 ·rw[if_pos h1]
  cases ok with
  | false=>exact absurd h1.2.1 (hz rfl)
  | true=>
   clear hz
   simp only[Bool.and_eq_true,decide_eq_true_eq]at h1
   obtain ⟨⟨k1,k2⟩,h2,h3⟩:=h1
   have f2:a0d (decide (z.2.2=0)=true):=by simp only[a0d,Hn];exact h2
   have f3:a0d (decide (z.2.1=(v.length:Int))=true):=fo
   have f4:a0d (decide (k<4)=false):=fo
   have f5:a0d (decide (6<k)=false):=fo
   clear h2 h3
   simp only[a2g];refine sxDlq ?_
   repeat' ((first|exact tt|refine CallO_pure (hO) ?_|refine CallO_pure (hG) ?_|refine CallO_pure (hD) ?_|refine na fun b=>?_|refine nb fun b hb=>?_|refine iq ?_|(refine jq ?_ ?_<;>intro h h')|refine Two_intro ?_ ?_|exact wZ|fail)<;>try refine sxDlq ?_)
 ·rw[if_neg h1]
  simp only[Bool.and_eq_true,decide_eq_true_eq]at h1
  clear hz
  cases ok
  all_goals
   simp only[a2g];refine sxDlq ?_
   repeat' ((first|exact tt|refine CallO_pure (hO) ?_|refine CallO_pure (hG) ?_|refine CallO_pure (hD) ?_|refine na fun b=>?_|refine nb fun b hb=>?_|refine iq ?_|(refine jq ?_ ?_<;>intro h h')|refine Two_intro ?_ ?_|exact wZ|fail)<;>try refine sxDlq ?_)
  all_goals (simp only[a0d,Hn]at *;omega)
end
end Go.Proofs.YtfgihnhoocnmdaaGreatDoor
