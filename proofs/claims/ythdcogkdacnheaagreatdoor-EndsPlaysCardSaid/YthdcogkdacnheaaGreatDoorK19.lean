import Derived.Test.YthdcogkdacnheaaGreatDoorK18
import Derived.Test.YthdcogkdacnheaaGreatDoorK16
import Derived.Test.YthdcogkdacnheaaGreatDoorK12
import Derived.Test.YthdcogkdacnheaaGreatDoorK17
namespace Go.Proofs.YthdcogkdacnheaaGreatDoor
set_option linter.all false
set_option maxHeartbeats 9000000
section
set_option maxRecDepth 100000


abbrev rd(s:List UInt8)(n:Int)(bad:Int):List AV:=[.str s,.int .i64 n,.int .i64 bad]
theorem sxWir{A B:Prop}(h:B)(e:A=B:=by (simp (disch:=omega) only[*, ↓Ed,Eu, ↓reduceIte,reduceCtorEq,Nat.reduceAdd,Nat.reduceEqDiff,Nat.reduceLT,Nat.reduceLeDiff,Int.reduceToNat,Int.reduceEq,Int.reduceLT,Int.reduceLE,w64,List.length_map];first|done|rfl)):A:=e▸h
theorem b7C(s:List UInt8):CT Tryz.prog 81 [.str s] (fun _=>none) (fun r o=>∃ b,r=.ptr b 0∧o=lk [(b,rd s 0 0)]):=by
 refine a8V _ _ _ (by simp) ?_
 rw[show (fun _=>none:Nat→Option (List AV))=lk [] from rfl]
 simp only[a7T];refine sxWir ?_
 repeat' ((first|exact tt|refine na fun b=>?_|refine nb fun b hb=>?_|refine iq ?_|(refine jq ?_ ?_<;>intro h h')|refine Two_intro ?_ ?_|exact wZ|fail)<;>try refine sxWir ?_)
 exact ro_new (b:=b) (by simp[LeL,lk,a0P,arR])
def a4I(bad e:Int):Int:=if bad=0 then e else bad
theorem b0H(b:Nat)(s:List UInt8)(n bad e:Int):CT Tryz.prog 103 [.ptr b 0,.int .i64 e] (lk [(b,rd s n bad)]) (fun r o=>r=.tup []∧o=lk [(b,rd s n (a4I bad e))]):=by
 refine a3E _ _ _ (by simp) ?_
 simp only[a2f];refine sxWir ?_
 repeat' ((first|exact tt|refine na fun b=>?_|refine nb fun b hb=>?_|refine iq ?_|(refine jq ?_ ?_<;>intro h h')|refine Two_intro ?_ ?_|exact wZ|fail)<;>try refine sxWir ?_)
 all_goals simp only[a0f,Hn]at h
 all_goals exact ro_mk (by simp[LeL,lk,r_nil,a4I,h]) dom1
theorem b6g(b:Nat)(s:List UInt8)(n bad:Int):CT Tryz.prog 84 [.ptr b 0] (lk [(b,rd s n bad)]) (fun r o=>r=.int .i64 (if bad=0∧n<s.length then 3 else bad)∧o=lk [(b,rd s n bad)]):=by
 refine a4d _ _ _ (by simp) ?_
 simp only[a2s];refine sxWir ?_
 repeat' ((first|exact tt|refine na fun b=>?_|refine nb fun b hb=>?_|refine iq ?_|(refine jq ?_ ?_<;>intro h h')|refine Two_intro ?_ ?_|exact wZ|fail)<;>try refine sxWir ?_)
 all_goals simp only[a0f,Hn]at *
 all_goals exact ro_mk (by simp[LeL,lk,a0P,arR, *]) dom1
def a4q(s:List UInt8)(n bad:Int):Int × Int × Int:=
 if bad=0 then (nx s n) else (0,n,bad)
theorem b2w(b:Nat)(s:List UInt8)(n bad:Int)(hs:s.length≤4611686018427387904):
  CT Tryz.prog 102 [.ptr b 0] (lk [(b,rd s n bad)]) (fun r o=>r=.tup [.int .i64 (a4q s n bad).1,.int .i64 (a4q s n bad).2.1]∧o=lk [(b,rd s n (a4q s n bad).2.2)]):=by
 refine a3F _ _ _ (by simp) ?_
 simp only[a2g];refine sxWir ?_
 repeat' ((first|exact tt|(refine CallW_intro (b2t _ _ hs) ?_;simp (disch:=omega) only[*, ↓Ed,Eu, ↓reduceIte,reduceCtorEq,Nat.reduceAdd,Nat.reduceEqDiff,Nat.reduceLT,Nat.reduceLeDiff,Int.reduceToNat,Int.reduceEq,Int.reduceLT,Int.reduceLE,w64,List.length_map])|refine c1 (b0H _ _ _ _ _) ?_|refine na fun b=>?_|refine nb fun b hb=>?_|refine iq ?_|(refine jq ?_ ?_<;>intro h h')|refine Two_intro ?_ ?_|exact wZ|fail)<;>try refine sxWir ?_)
 all_goals simp only[a0f,Hn]at h
 all_goals exact ro_mk (by simp[LeL,lk,r_two,b0O,arR,AV.alias,a4q,a4I,h]) dom1
theorem b6h:CT Tryz.prog 64 [] (fun _=>none) (fun r o=>∃ b,r=.ptr b 0∧o=lk [(b,[.nils 5 1,.bool false])]):=by
 refine a8p _ _ _ (by simp) ?_
 rw[show (fun _=>none:Nat→Option (List AV))=lk [] from rfl]
 simp only[a6L];refine sxWir ?_
 repeat' ((first|exact tt|refine na fun b=>?_|refine nb fun b hb=>?_|refine iq ?_|(refine jq ?_ ?_<;>intro h h')|refine Two_intro ?_ ?_|exact wZ|fail)<;>try refine sxWir ?_)
 all_goals exact ro_new (b:=b) (by simp[LeL,lk,a0P,arR])

abbrev wrc(out:List UInt8)(bad:Bool):List AV:=[.sl (some 5) 1 (btl out),.bool bad]
theorem b4C(b:Nat)(out s:List UInt8)(bad:Bool)(hl:out.length+s.length≤1000000):
  CT Tryz.prog 97 [.ptr b 0,.str s] (lk [(b,wrc out bad)]) (fun r o=>r=.tup []∧o=lk [(b,wrc (if bad then out else out++s) bad)]):=by
 have hm:=a5r
 refine a1V _ _ _ (by simp) ?_
 simp only[a1q];refine sxWir ?_
 repeat' ((first|exact tt|refine na fun b=>?_|refine nb fun b hb=>?_|refine iq ?_|(refine jq ?_ ?_<;>intro h h')|refine Two_intro ?_ ?_|exact wZ|fail)<;>try refine sxWir ?_)
 all_goals simp only[a0f,Hn]at h
 all_goals exact ro_mk (by simp[LeL,lk,r_nil,btl,wrc,h]) dom1
abbrev wr0(bad:Bool):List AV:=[.nils 5 1,.bool bad]
theorem b4D(b:Nat)(s:List UInt8)(hl:s.length≤1000000):
  CT Tryz.prog 97 [.ptr b 0,.str s] (lk [(b,wr0 false)]) (fun r o=>r=.tup []∧o=lk [(b,wrc s false)]):=by
 have hm:=a5r
 refine a1V _ _ _ (by simp) ?_
 simp only[a1q];refine sxWir ?_
 repeat' ((first|exact tt|refine na fun b=>?_|refine nb fun b hb=>?_|refine iq ?_|(refine jq ?_ ?_<;>intro h h')|refine Two_intro ?_ ?_|exact wZ|fail)<;>try refine sxWir ?_)
 all_goals exact ro_mk (by simp[LeL,lk,r_nil,btl,wrc]) dom1
theorem b2Y(b:Nat)(out:List UInt8)(bad:Bool):CT Tryz.prog 67 [.ptr b 0] (lk [(b,wrc out bad)])
  (fun r o=>r=.tup [.str (if bad then [] else out),.int .i64 (if bad then 1 else 0)]∧o=lk [(b,wrc out bad)]):=by
 refine a3m _ _ _ (by simp) ?_
 simp only[a1S];refine sxWir ?_
 repeat' ((first|exact tt|refine na fun b=>?_|refine nb fun b hb=>?_|refine iq ?_|(refine jq ?_ ?_<;>intro h h')|refine Two_intro ?_ ?_|exact wZ|fail)<;>try refine sxWir ?_)
 all_goals simp only[a0f,Hn]at h
 all_goals exact ro_mk (by simp[LeL,lk,r_two,b0O,arR,AV.alias,h]) dom1
theorem b2u(b:Nat)(out:List UInt8)(bad:Bool)(v:Int)(hl:out.length≤900000):
  CT Tryz.prog 65 [.ptr b 0,.int .i64 v] (lk [(b,wrc out bad)])
   (fun r o=>r=.tup []∧o=lk [(b,wrc (if bad||decide (pn v=[]) then out else out++pn v) (bad||decide (pn v=[])))]):=by
 have h8:=a0M v
 refine a1U _ _ _ (by simp) ?_
 simp only[a1p];refine sxWir ?_
 repeat' ((first|exact tt|refine CallO_pure (b2Z _) ?_|refine c1 (b4C _ out (pn v) _ (by omega)) ?_|refine na fun b=>?_|refine nb fun b hb=>?_|refine iq ?_|(refine jq ?_ ?_<;>intro h h')|refine Two_intro ?_ ?_|exact wZ|fail)<;>try refine sxWir ?_)
 all_goals simp only[a0f,Hn]at h
 all_goals exact ro_mk (by simp[LeL,lk,r_nil,wrc,h]) dom1
def b3R(v:Int)(w:List UInt8 × Bool):List UInt8 × Bool:=(if w.2||decide (pn v=[]) then w.1 else w.1++pn v,w.2||decide (pn v=[]))
def b1S(s:List UInt8)(w:List UInt8 × Bool):List UInt8 × Bool:=
 let w1:=b3R s.length w
 (if w1.2 then w1.1 else w1.1++s,w1.2)
theorem b3e(b:Nat)(out s:List UInt8)(bad:Bool)(hl:out.length≤500000)(hs:s.length≤400000):
  CT Tryz.prog 66 [.ptr b 0,.str s] (lk [(b,wrc out bad)])
   (fun r o=>r=.tup []∧o=lk [(b,wrc (b1S s (out,bad)).1 (b1S s (out,bad)).2)]):=by
 have h8:=a0M s.length
 have hw:(b3R s.length (out,bad)).1.length≤600000:=by
  simp only[b3R]
  split
  ·omega
  ·simp only[List.length_append];omega
 refine a3G _ _ _ (by simp) ?_
 simp only[a2h];refine sxWir ?_
 repeat' ((first|exact tt|refine c1 (b2u _ out bad _ (by omega)) ?_|refine c1 (b4C _ (b3R s.length (out,bad)).1 s _ (by omega)) ?_|refine na fun b=>?_|refine nb fun b hb=>?_|refine iq ?_|(refine jq ?_ ?_<;>intro h h')|refine Two_intro ?_ ?_|exact wZ|fail)<;>try refine sxWir ?_)
 all_goals exact ro_mk (by simp[LeL,lk,r_nil,wrc,b1S,b3R]) dom1

def a2H(s:List UInt8)(n bad least most below above:Int):Int × Int × Int:=
 let v:=a4q s n bad
 let b2:=if v.1<least then a4I v.2.2 below else v.2.2
 let b3:=if most<v.1 then a4I b2 above else b2
 if b3=0 then (v.1,v.2.1,0) else (0,n,b3)
theorem b1G(b:Nat)(s:List UInt8)(n bad least most below above:Int)(hs:s.length≤4611686018427387904):
  CT Tryz.prog 101 [.ptr b 0,.int .i64 least,.int .i64 most,.int .i64 below,.int .i64 above] (lk [(b,rd s n bad)])
   (fun r o=>r=.int .i64 (a2H s n bad least most below above).1∧o=lk [(b,rd s (a2H s n bad least most below above).2.1 (a2H s n bad least most below above).2.2)]):=by
 refine a2S _ _ _ (by simp) ?_
 simp only[a1G];refine sxWir ?_
 repeat' ((first|exact tt|refine c1 (b2w _ _ _ _ hs) ?_|refine c1 (b0H _ _ _ _ _) ?_|refine na fun b=>?_|refine nb fun b hb=>?_|refine iq ?_|(refine jq ?_ ?_<;>intro h h')|refine Two_intro ?_ ?_|exact wZ|fail)<;>try refine sxWir ?_)
 all_goals simp only[a0f,Hn]at *
 all_goals exact ro_mk (by simp[LeL,lk,a0P,arR,rd,a2H, *]) dom1
theorem b4A(b:Nat)(s:List UInt8)(n bad least most:Int)(hs:s.length≤4611686018427387904):
  CT Tryz.prog 82 [.ptr b 0,.int .i64 least,.int .i64 most] (lk [(b,rd s n bad)])
   (fun r o=>r=.int .i64 (a2H s n bad least most 1 1).1∧o=lk [(b,rd s (a2H s n bad least most 1 1).2.1 (a2H s n bad least most 1 1).2.2)]):=by
 refine a4e _ _ _ (by simp) ?_
 simp only[a2t];refine sxWir ?_
 repeat' ((first|exact tt|refine c1 (b1G _ _ _ _ _ _ _ _ hs) ?_|refine na fun b=>?_|refine nb fun b hb=>?_|refine iq ?_|(refine jq ?_ ?_<;>intro h h')|refine Two_intro ?_ ?_|exact wZ|fail)<;>try refine sxWir ?_)
 all_goals exact ro_mk (by simp[LeL,lk,a0P,arR,rd]) dom1
def a6W(s:List UInt8)(n bad most:Int):List UInt8 × Int × Int:=
 let v:=a4q s n bad
 let b2:=if most<v.1 then a4I v.2.2 4 else v.2.2
 let b3:=if (s.length:Int) - v.2.1<v.1 then a4I b2 2 else b2
 if b3=0 then ((s.take (v.2.1+v.1).toNat).drop v.2.1.toNat,v.2.1+v.1,0) else ([],n,b3)
theorem b1y(s:List UInt8)(n bad:Int)(hn:0≤n∧n≤s.length):0≤(a4q s n bad).1∧(a4q s n bad).1<72057594037927936∧0≤(a4q s n bad).2.1∧(a4q s n bad).2.1≤s.length:=by
 unfold a4q
 split
 ·exact a9w s n
 ·simp only;omega
theorem b2h(b:Int):(a4I b 2=0)=False:=by simp only[a4I,eq_iff_iff,iff_false];split<;>omega
theorem b3a(b:Nat)(s:List UInt8)(n bad most:Int)(hs:s.length≤281474976710656)(hn:0≤n∧n≤s.length):
  CT Tryz.prog 83 [.ptr b 0,.int .i64 most] (lk [(b,rd s n bad)])
   (fun r o=>r=.str (a6W s n bad most).1∧o=lk [(b,rd s (a6W s n bad most).2.1 (a6W s n bad most).2.2)]):=by
 have hv:=b1y s n bad hn
 have hr:a6W s n bad most=(let v:=a4q s n bad
  let b2:=if most<v.1 then a4I v.2.2 4 else v.2.2
  let b3:=if (s.length:Int) - v.2.1<v.1 then a4I b2 2 else b2
  if b3=0 then ((s.take (v.2.1+v.1).toNat).drop v.2.1.toNat,v.2.1+v.1,0) else ([],n,b3)):=rfl
 rw[hr]
 refine a3D _ _ _ (by simp) ?_
 simp only[a2e];refine sxWir ?_
 repeat' ((first|exact tt|refine c1 (b2w _ s _ _ (by omega)) ?_|refine c1 (b0H _ _ _ _ _) ?_|refine CallW_intro (a7x _ (by simp;omega)) ?_|(simp[a0f,b2h]at h;done)|refine na fun b=>?_|refine nb fun b hb=>?_|refine iq ?_|(refine jq ?_ ?_<;>intro h h')|refine Two_intro ?_ ?_|exact wZ|fail)<;>try refine sxWir ?_)
 all_goals exact ro_mk (by simp only[a0f,Hn]at *;simp[LeL,lk,a0P,arR,rd,b2h, *]) dom1
theorem b1e(s:List UInt8)(n bad least most:Int)(hl:least≤0∧0≤most):a2H s n bad least most 1 1=a6C s least most (n,bad):=by
 have hb:=b2l s n
 simp only[a2H,a4q,a4I,a6C]
 by_cases h1:bad=0
 ·by_cases h2:(nx s n).2.2=0
  ·by_cases h3:(nx s n).1<least<;>by_cases h4:most<(nx s n).1<;>simp[h1,h2,h3,h4]
  ·have h5:=(hb h2).1
   simp[h1,h2,h5,show ¬ (0<least) by omega,show ¬ (most<0) by omega]
 ·simp[h1,show ¬ (0<least) by omega,show ¬ (most<0) by omega]
theorem b3B(s:List UInt8)(n bad most:Int)(hl:0≤most)(hn:0≤n∧n≤s.length):a6W s n bad most=a4f s most (n,bad):=by
 have hb:=b2l s n
 simp only[a6W,a4q,a4I,a4f]
 by_cases h1:bad=0
 ·by_cases h2:(nx s n).2.2=0
  ·by_cases h3:most<(nx s n).1<;>by_cases h4:(s.length:Int) - (nx s n).2.1<(nx s n).1<;>simp[h1,h2,h3,h4]
  ·have h5:=hb h2
   simp[h1,h2,h5,show ¬ (most<0) by omega]
 ·simp[h1,show ¬ (most<0) by omega,show ¬ ((s.length:Int) - n<0) by omega]
theorem b6l(b:Nat)(s:List UInt8)(n bad least most:Int)(hs:s.length≤281474976710656)(hl:least≤0∧0≤most):
  CT Tryz.prog 82 [.ptr b 0,.int .i64 least,.int .i64 most] (lk [(b,rd s n bad)])
   (fun r o=>r=.int .i64 (a6C s least most (n,bad)).1∧o=lk [(b,rd s (a6C s least most (n,bad)).2.1 (a6C s least most (n,bad)).2.2)]):=by
 rw[← b1e s n bad least most hl]
 exact b4A b s n bad least most (by omega)
theorem b4G(b:Nat)(s:List UInt8)(n bad most:Int)(hs:s.length≤281474976710656)(hl:0≤most)(hn:0≤n∧n≤s.length):
  CT Tryz.prog 83 [.ptr b 0,.int .i64 most] (lk [(b,rd s n bad)])
   (fun r o=>r=.str (a4f s most (n,bad)).1∧o=lk [(b,rd s (a4f s most (n,bad)).2.1 (a4f s most (n,bad)).2.2)]):=by
 rw[← b3B s n bad most hl hn]
 exact b3a b s n bad most hs hn
end
section
set_option maxRecDepth 100000
abbrev rr(s:List UInt8)(x:Int × Int):List AV:=[.str s,.int .i64 x.1,.int .i64 x.2]
theorem sxRrd{A B:Prop}(h:B)(e:A=B:=by (simp (disch:=omega) only[*, ↓Ed,Eu, ↓reduceIte,reduceCtorEq,Nat.reduceAdd,Nat.reduceEqDiff,Nat.reduceLT,Nat.reduceLeDiff,Int.reduceToNat,Int.reduceEq,Int.reduceLT,Int.reduceLE,w64];first|done|rfl)):A:=e▸h
theorem a7C(b:Nat)(s:List UInt8)(x:Int × Int)(least most:Int)(hs:s.length≤281474976710656):
  CT Tryz.prog 85 [.ptr b 0,.int .i64 least,.int .i64 most] (lk [(b,rr s x)])
   (fun r o=>r=.int .i64 (a6C s least most x).1∧o=lk [(b,rr s (a6C s least most x).2)]):=by
 refine a4x _ _ _ (by simp) ?_
 simp only[a2P];refine sxRrd ?_
 repeat' ((first|exact tt|refine CallW_intro (a6b _ _ (by omega)) ?_|refine na fun b=>?_|refine nb fun b hb=>?_|refine iq ?_|(refine jq ?_ ?_<;>intro h h')|refine Two_intro ?_ ?_|exact wZ|fail)<;>try refine sxRrd ?_)
 all_goals (try simp only[a0f,Hn]at *)
 all_goals first
  | (exact ro_mk (by simp[LeL,lk,a0P,arR,rr,a6C, *]) dom1)
  | (exact ro_mk (by simp[LeL,lk,a0P,arR,rr,a6C, *];omega) dom1)
  | skip
theorem b1E(b:Nat)(s:List UInt8)(x:Int × Int)(most:Int)(hs:s.length≤281474976710656):
  CT Tryz.prog 86 [.ptr b 0,.int .i64 most] (lk [(b,rr s x)])
   (fun r o=>r=.str (a4f s most x).1∧o=lk [(b,rr s (a4f s most x).2)]):=by
 have hx:=a9w s x.1
 refine a3Z _ _ _ (by simp) ?_
 simp only[a2r];refine sxRrd ?_
 repeat' ((first|exact tt|refine CallW_intro (a6b _ _ (by omega)) ?_|refine na fun b=>?_|refine nb fun b hb=>?_|refine iq ?_|(refine jq ?_ ?_<;>intro h h')|refine Two_intro ?_ ?_|exact wZ|fail)<;>try refine sxRrd ?_)
 all_goals (try simp only[a0f,Hn]at *)
 all_goals first
  | (exact ro_mk (by simp[LeL,lk,a0P,arR,rr,a4f, *]) dom1)
  | skip
theorem b3b(b:Nat)(s:List UInt8)(x:Int × Int):
  CT Tryz.prog 87 [.ptr b 0] (lk [(b,rr s x)])
   (fun r o=>r=.int .i64 (rend s x)∧o=lk [(b,rr s x)]):=by
 refine a4w _ _ _ (by simp) ?_
 simp only[a2O];refine sxRrd ?_
 repeat' ((first|exact tt|refine na fun b=>?_|refine nb fun b hb=>?_|refine iq ?_|(refine jq ?_ ?_<;>intro h h')|refine Two_intro ?_ ?_|exact wZ|fail)<;>try refine sxRrd ?_)
 all_goals (try simp only[a0f,Hn]at *)
 all_goals (exact ro_mk (by simp[LeL,lk,a0P,arR,rr,rend, *]) dom1)
theorem b0E(s:List UInt8)(hs:s.length≤281474976710656):CP Tryz.prog 72 [.str s] (.str (pn s.length++s)):=by
 have h8:=a0M s.length
 refine a4u _ _ (by simp) ?_
 simp only[a2q];refine sxRrd ?_
 repeat' ((first|exact tt|refine CallO_pure (a7B _) ?_|refine na fun b=>?_|refine nb fun b hb=>?_|refine iq ?_|(refine jq ?_ ?_<;>intro h h')|refine Two_intro ?_ ?_|exact wZ|fail)<;>try refine sxRrd ?_)
end
section
structure Es where
 p:List UInt8
 c:Int
 o:Bool
 cl:Bool
 st:Int
abbrev Es.cs(x:Es):List AV:=[.str x.p,.int .i64 x.c,.bool x.o,.bool x.cl,.int .i64 x.st]
noncomputable def Es.may (x:Es):Bool:=a1E x.p x.c&&(if x.cl&&x.o then decide (1≤x.st)&&decide (x.st≤1099511627777) else decide (x.st=0))
def a2I(b:Bool):Int:=if b then 1 else 0
def Es.enc(x:Es):List UInt8:=pn (a2I x.cl)++pn (a2I x.o)++(pn x.p.length++x.p)++pn x.c++pn x.st
noncomputable def a3d (x:Es):List UInt8 × Int:=if x.may then (x.enc,0) else ([],1)
def Es.zero:Es:=⟨[],0,false,false,0⟩
def dcl(v:List UInt8):=a6C v 0 1 (0,0)
def dor(v:List UInt8):=a6C v 0 1 (dcl v).2
def dpo(v:List UInt8):=a4f v 12 (dor v).2
def dch(v:List UInt8):=a6C v 0 999 (dpo v).2
def dst(v:List UInt8):=a6C v 0 1099511627777 (dch v).2
def Es.of(v:List UInt8):Es:=⟨(dpo v).1,(dch v).1,decide ((dor v).1=1),decide ((dcl v).1=1),(dst v).1⟩
noncomputable def a6q (v:List UInt8):Es × Int:=
 if rend v (dst v).2≠0 then (Es.zero,rend v (dst v).2) else if (Es.of v).may then (Es.of v,0) else (Es.zero,1)
end
section
theorem a8h:∀ (f v:Nat) (r:List UInt8) (b:Bool),v<128 ^ (f+1)→(b=true∨0<v)→a2n (f+1) (a6S v++r) b=((v:Int),(a6S v).length,0)
 | f,v,r,b,hv,hb=>by
  by_cases hl:v<128
  ·have e:(UInt8.ofNat v).toNat=v:=by rw[UInt8.toNat_ofNat'];omega
   rw[put7_lo hl,List.cons_append,a2n,e,if_pos hl,if_neg (by rintro ⟨h1,h2⟩;subst h2;simp at hb;omega)]
   simp
  ·have e:(UInt8.ofNat (v % 128+128)).toNat=v % 128+128:=by rw[UInt8.toNat_ofNat'];omega
   cases f with
   | zero=>simp at hv;omega
   | succ f=>
    rw[put7_hi (by omega),List.cons_append,a2n,e,if_neg (by omega),a8h f (v / 128) r false (by rw[Nat.pow_succ]at hv;omega) (.inr (by omega))]
    simp
    omega
theorem a9x(a r:List UInt8)(v:Int)(h:0≤v∧v≤72057594037927935):nx (a++(pn v++r)) a.length=(v,((a++pn v).length:Int),0):=by
 rw[nx_in (by simp)]
 have:pn v=a6S v.toNat:=by simp only[pn,if_pos h]
 rw[List.drop_left,this,a8h 7 v.toNat r true (by omega) (.inl rfl)]
 simp[b0s];omega
theorem a5t(a r:List UInt8)(v least most:Int)(h:0≤v∧v≤72057594037927935)(g:least≤v∧v≤most):a6C (a++(pn v++r)) least most ((a.length:Int),0)=(v,((a++pn v).length:Int),0):=by
 simp only[a6C,a9x a r v h,ne_eq,not_true_eq_false,if_false]
 rw[if_neg (by omega)]
theorem b0R(a t r:List UInt8)(most:Int)(h:t.length≤100000)(g:(t.length:Int)≤most):a4f (a++((pn t.length++t)++r)) most ((a.length:Int),0)=(t,((a++(pn t.length++t)).length:Int),0):=by
 have e:a++((pn t.length++t)++r)=a++(pn t.length++(t++r)):=by simp
 have hn:=a9x a (t++r) t.length ⟨by omega,by omega⟩
 simp only[a4f,e,hn,ne_eq,not_true_eq_false,if_false]
 rw[if_neg (by omega),if_neg (by simp;omega)]
 refine Prod.ext ?_ (Prod.ext ?_ rfl)
 ·simp only
  have e1:(((a++pn t.length).length:Int)+t.length).toNat=(a++pn t.length).length+t.length:=by omega
  have e2:(((a++pn t.length).length:Int)).toNat=(a++pn t.length).length:=by omega
  rw[e1,e2, ← List.append_assoc,List.take_append,List.take_of_length_le (by omega)]
  rw[List.drop_left]
  simp
 ·simp;omega
theorem b4f(b:Bool):decide (a2I b=1)=b:=by cases b<;>simp[a2I]
theorem b2a(b:Bool):0≤a2I b∧a2I b≤1:=by cases b<;>decide
theorem may_in{x:Es}(h:x.may=true):x.p.length≤12∧0≤x.c∧x.c≤999∧0≤x.st∧x.st≤1099511627777:=by
 simp only[Es.may,a1E,Bool.and_eq_true,decide_eq_true_eq]at h
 obtain ⟨⟨⟨h1,h2⟩,h3⟩,h4⟩:=h
 refine ⟨(nameP_iff.1 h1).2.1,h2,h3, ?_⟩
 split at h4
 ·simp only[Bool.and_eq_true,decide_eq_true_eq]at h4;omega
 ·simp only[decide_eq_true_eq]at h4;omega
theorem dec_enc{x:Es}(h:x.may=true)(r:List UInt8):Es.of (x.enc++r)=x∧(dst (x.enc++r)).2=((x.enc.length:Int),0):=by
 have hi:=may_in h
 have b1:=b2a x.cl
 have b2:=b2a x.o
 let a1:=pn (a2I x.cl)
 let a2:=a1++pn (a2I x.o)
 let a3:=a2++(pn x.p.length++x.p)
 let a4:=a3++pn x.c
 have e0:x.enc++r=[]++(pn (a2I x.cl)++(pn (a2I x.o)++(pn x.p.length++x.p)++pn x.c++pn x.st++r)):=by simp[Es.enc]
 have e1:x.enc++r=a1++(pn (a2I x.o)++((pn x.p.length++x.p)++pn x.c++pn x.st++r)):=by simp[Es.enc,a1]
 have e2:x.enc++r=a2++((pn x.p.length++x.p)++(pn x.c++pn x.st++r)):=by simp[Es.enc,a1,a2]
 have e3:x.enc++r=a3++(pn x.c++(pn x.st++r)):=by simp[Es.enc,a1,a2,a3]
 have e4:x.enc++r=a4++(pn x.st++r):=by simp[Es.enc,a1,a2,a3,a4]
 have d1:dcl (x.enc++r)=(a2I x.cl,(a1.length:Int),0):=by
  have:=a5t [] (pn (a2I x.o)++(pn x.p.length++x.p)++pn x.c++pn x.st++r) (a2I x.cl) 0 1 (by omega) (by omega)
  rw[← e0]at this
  exact this
 have d2:dor (x.enc++r)=(a2I x.o,(a2.length:Int),0):=by
  have:=a5t a1 ((pn x.p.length++x.p)++pn x.c++pn x.st++r) (a2I x.o) 0 1 (by omega) (by omega)
  rw[← e1]at this
  rw[dor,d1];exact this
 have d3:dpo (x.enc++r)=(x.p,(a3.length:Int),0):=by
  have:=b0R a2 x.p (pn x.c++pn x.st++r) 12 (by omega) (by omega)
  rw[← e2]at this
  rw[dpo,d2];exact this
 have d4:dch (x.enc++r)=(x.c,(a4.length:Int),0):=by
  have:=a5t a3 (pn x.st++r) x.c 0 999 (by omega) (by omega)
  rw[← e3]at this
  rw[dch,d3];exact this
 have d5:dst (x.enc++r)=(x.st,(x.enc.length:Int),0):=by
  have:=a5t a4 r x.st 0 1099511627777 (by omega) (by omega)
  rw[← e4]at this
  rw[dst,d4];exact this
 refine ⟨?_,by rw[d5]⟩
 rw[Es.of,d1,d2,d3,d4,d5]
 simp only[b4f]
theorem dec_back{x:Es}(h:x.may=true):a6q x.enc=(x,0):=by
 have:=dec_enc h []
 rw[List.append_nil]at this
 simp only[a6q,this.2,this.1,rend,h]
 simp
theorem enc_len{x:Es}(h:x.may=true):x.enc.length≤64:=by
 have h1:=a0M (a2I x.cl);have h2:=a0M (a2I x.o);have h3:=a0M x.p.length;have h4:=a0M x.c;have h5:=a0M x.st
 have:=may_in h
 simp[Es.enc];omega
end
section
set_option maxRecDepth 100000
theorem sxEnd{A B:Prop}(h:B)(e:A=B:=by (simp (disch:=omega) only[*, ↓Ed,Eu, ↓reduceIte,reduceCtorEq,Nat.reduceAdd,Nat.reduceEqDiff,Nat.reduceLT,Nat.reduceLeDiff,Int.reduceToNat,Int.reduceEq,Int.reduceLT,Int.reduceLE,w64,List.length_map,List.length_append];first|done|rfl)):A:=e▸h
theorem b3f(b:Bool):CP Tryz.prog 60 [.bool b] (.int .i64 (a2I b)):=by
 refine a8R _ _ (by simp) ?_
 simp only[a6H, ↓Ed,Eu, ↓reduceIte,reduceCtorEq,Nat.reduceAdd,Nat.reduceEqDiff,Nat.reduceLT,Nat.reduceLeDiff,Int.reduceToNat,Int.reduceEq,Int.reduceLT,Int.reduceLE,w64,List.length_map,List.length_append]
 repeat' ((first|refine NewB_intro0 (fun b=>?_)|(refine NewB_intro (fun b hb=>?_);simp only[ln_cons2,ln_nil,and_true]at hb)|(with_reducible apply wA;focus exact OM_a)|((first|refine gW_sp ?_|refine condW_sp ?_|refine pickW_sp ?_);(try refine Sp_n ?_);(first|refine wT ?_|refine wF ?_|refine wL (fun h h'=>?_) (fun h h'=>?_)|refine wE (fun h h'=>?_) (fun h h'=>?_)|refine Sp_split (fun h=>?_) (fun h=>?_))<;>(try (exfalso;omega)))|refine TreeW_intro (by rfl) ?_|refine TreeW_all ?_|refine a0a ?_|refine Two_intro ?_ ?_|exact wZ|fail)<;>(try refine sxEnd ?_)<;>(try exact True.intro))
 all_goals (try simp only[a0f,Bool.not_eq_true',Bool.not_eq_false',decide_eq_true_eq,decide_eq_false_iff_not]at *)
 all_goals simp[a2I, *]
theorem b6j(b:Bool):CP Tryz.prog 71 [.bool b] (.int .i64 (a2I b)):=by
 refine a5X _ _ (by simp) ?_
 simp only[a3I, ↓Ed,Eu, ↓reduceIte,reduceCtorEq,Nat.reduceAdd,Nat.reduceEqDiff,Nat.reduceLT,Nat.reduceLeDiff,Int.reduceToNat,Int.reduceEq,Int.reduceLT,Int.reduceLE,w64,List.length_map,List.length_append]
 repeat' ((first|refine NewB_intro0 (fun b=>?_)|(refine NewB_intro (fun b hb=>?_);simp only[ln_cons2,ln_nil,and_true]at hb)|(with_reducible apply wA;focus exact OM_a)|((first|refine gW_sp ?_|refine condW_sp ?_|refine pickW_sp ?_);(try refine Sp_n ?_);(first|refine wT ?_|refine wF ?_|refine wL (fun h h'=>?_) (fun h h'=>?_)|refine wE (fun h h'=>?_) (fun h h'=>?_)|refine Sp_split (fun h=>?_) (fun h=>?_))<;>(try (exfalso;omega)))|refine TreeW_intro (by rfl) ?_|refine TreeW_all ?_|refine a0a ?_|refine Two_intro ?_ ?_|exact wZ|fail)<;>(try refine sxEnd ?_)<;>(try exact True.intro))
 all_goals (try simp only[a0f,Bool.not_eq_true',Bool.not_eq_false',decide_eq_true_eq,decide_eq_false_iff_not]at *)
 all_goals simp[a2I, *]
theorem a6c(n:Int):CP Tryz.prog 37 [.int .i64 n] (.bool (decide (1≤n)&&decide (n≤1099511627777))):=by
 refine a5U _ _ (by simp) ?_
 simp only[a3H, ↓Ed,Eu, ↓reduceIte,reduceCtorEq,Nat.reduceAdd,Nat.reduceEqDiff,Nat.reduceLT,Nat.reduceLeDiff,Int.reduceToNat,Int.reduceEq,Int.reduceLT,Int.reduceLE,w64,List.length_map,List.length_append]
 repeat' ((first|refine NewB_intro0 (fun b=>?_)|(refine NewB_intro (fun b hb=>?_);simp only[ln_cons2,ln_nil,and_true]at hb)|(with_reducible apply wA;focus exact OM_a)|((first|refine gW_sp ?_|refine condW_sp ?_|refine pickW_sp ?_);(try refine Sp_n ?_);(first|refine wT ?_|refine wF ?_|refine wL (fun h h'=>?_) (fun h h'=>?_)|refine wE (fun h h'=>?_) (fun h h'=>?_)|refine Sp_split (fun h=>?_) (fun h=>?_))<;>(try (exfalso;omega)))|refine TreeW_intro (by rfl) ?_|refine TreeW_all ?_|refine a0a ?_|refine Two_intro ?_ ?_|exact wZ|fail)<;>(try refine sxEnd ?_)<;>(try exact True.intro))
 all_goals (try simp only[a0f,Bool.not_eq_true',Bool.not_eq_false',decide_eq_true_eq,decide_eq_false_iff_not]at *)
 all_goals simp[*]
theorem b0G(x:Es)(hs:x.p.length≤4611686018427387904):CP Tryz.prog 63 [.agg x.cs] (.bool x.may):=by
 refine a8Q _ _ (by simp) ?_
 simp only[a6G,Es.cs, ↓Ed,Eu, ↓reduceIte,reduceCtorEq,Nat.reduceAdd,Nat.reduceEqDiff,Nat.reduceLT,Nat.reduceLeDiff,Int.reduceToNat,Int.reduceEq,Int.reduceLT,Int.reduceLE,w64,List.length_map,List.length_append]
 repeat' ((first|refine CallO_pure (a6e _ _ hs) ?_|refine CallO_pure (a6c _) ?_|refine NewB_intro0 (fun b=>?_)|(refine NewB_intro (fun b hb=>?_);simp only[ln_cons2,ln_nil,and_true]at hb)|(with_reducible apply wA;focus exact OM_a)|((first|refine gW_sp ?_|refine condW_sp ?_|refine pickW_sp ?_);(try refine Sp_n ?_);(first|refine wT ?_|refine wF ?_|refine wL (fun h h'=>?_) (fun h h'=>?_)|refine wE (fun h h'=>?_) (fun h h'=>?_)|refine Sp_split (fun h=>?_) (fun h=>?_))<;>(try (exfalso;omega)))|refine TreeW_intro (by rfl) ?_|refine TreeW_all ?_|refine a0a ?_|refine Two_intro ?_ ?_|exact wZ|fail)<;>(try refine sxEnd ?_)<;>(try exact True.intro))
 all_goals (try simp only[a0f,Bool.not_eq_true',Bool.not_eq_false',decide_eq_true_eq,decide_eq_false_iff_not]at *)
 all_goals simp[Es.may, *]
theorem a4Q(x:Es)(hs:x.p.length≤4611686018427387904):CP Tryz.prog 8 [.agg x.cs] (.bool x.may):=by
 refine a3A _ _ (by simp) ?_
 simp only[a1O,Es.cs, ↓Ed,Eu, ↓reduceIte,reduceCtorEq,Nat.reduceAdd,Nat.reduceEqDiff,Nat.reduceLT,Nat.reduceLeDiff,Int.reduceToNat,Int.reduceEq,Int.reduceLT,Int.reduceLE,w64,List.length_map,List.length_append]
 repeat' ((first|refine CallO_pure (a1u _ _ hs) ?_|refine NewB_intro0 (fun b=>?_)|(refine NewB_intro (fun b hb=>?_);simp only[ln_cons2,ln_nil,and_true]at hb)|(with_reducible apply wA;focus exact OM_a)|((first|refine gW_sp ?_|refine condW_sp ?_|refine pickW_sp ?_);(try refine Sp_n ?_);(first|refine wT ?_|refine wF ?_|refine wL (fun h h'=>?_) (fun h h'=>?_)|refine wE (fun h h'=>?_) (fun h h'=>?_)|refine Sp_split (fun h=>?_) (fun h=>?_))<;>(try (exfalso;omega)))|refine TreeW_intro (by rfl) ?_|refine TreeW_all ?_|refine a0a ?_|refine Two_intro ?_ ?_|exact wZ|fail)<;>(try refine sxEnd ?_)<;>(try exact True.intro))
 all_goals (try simp only[a0f,Bool.not_eq_true',Bool.not_eq_false',decide_eq_true_eq,decide_eq_false_iff_not]at *)
 all_goals simp[Es.may, *]
theorem a1v(x:Es):CP Tryz.prog 9 [.agg x.cs] (.agg x.cs):=by
 refine a5h _ _ (by simp) ?_
 simp only[a2X,Es.cs, ↓Ed,Eu, ↓reduceIte,reduceCtorEq,Nat.reduceAdd,Nat.reduceEqDiff,Nat.reduceLT,Nat.reduceLeDiff,Int.reduceToNat,Int.reduceEq,Int.reduceLT,Int.reduceLE,w64,List.length_map,List.length_append]
 repeat' ((first|refine NewB_intro0 (fun b=>?_)|(refine NewB_intro (fun b hb=>?_);simp only[ln_cons2,ln_nil,and_true]at hb)|(with_reducible apply wA;focus exact OM_a)|((first|refine gW_sp ?_|refine condW_sp ?_|refine pickW_sp ?_);(try refine Sp_n ?_);(first|refine wT ?_|refine wF ?_|refine wL (fun h h'=>?_) (fun h h'=>?_)|refine wE (fun h h'=>?_) (fun h h'=>?_)|refine Sp_split (fun h=>?_) (fun h=>?_))<;>(try (exfalso;omega)))|refine TreeW_intro (by rfl) ?_|refine TreeW_all ?_|refine a0a ?_|refine Two_intro ?_ ?_|exact wZ|fail)<;>(try refine sxEnd ?_)<;>(try exact True.intro))
theorem a7z(x:Es)(hs:x.p.length≤100000):CP Tryz.prog 35 [.agg x.cs] (.tup [.str (a3d x).1,.int .i64 (a3d x).2]):=by
 have h1:=a0M (a2I x.cl);have h2:=a0M (a2I x.o);have h3:=a0M x.p.length;have h4:=a0M x.c;have h5:=a0M x.st
 refine a2G _ _ (by simp) ?_
 simp only[a1n,Es.cs, ↓Ed,Eu, ↓reduceIte,reduceCtorEq,Nat.reduceAdd,Nat.reduceEqDiff,Nat.reduceLT,Nat.reduceLeDiff,Int.reduceToNat,Int.reduceEq,Int.reduceLT,Int.reduceLE,w64,List.length_map,List.length_append]
 repeat' ((first|refine CallO_pure (a4Q x (by omega)) ?_|refine CallW_intro (b6j _) ?_|refine CallW_intro (a7B _) ?_|refine CallW_intro (b0E _ (by omega)) ?_|refine NewB_intro0 (fun b=>?_)|(refine NewB_intro (fun b hb=>?_);simp only[ln_cons2,ln_nil,and_true]at hb)|(with_reducible apply wA;focus exact OM_a)|((first|refine gW_sp ?_|refine condW_sp ?_|refine pickW_sp ?_);(try refine Sp_n ?_);(first|refine wT ?_|refine wF ?_|refine wL (fun h h'=>?_) (fun h h'=>?_)|refine wE (fun h h'=>?_) (fun h h'=>?_)|refine Sp_split (fun h=>?_) (fun h=>?_))<;>(try (exfalso;omega)))|refine TreeW_intro (by rfl) ?_|refine TreeW_all ?_|refine a0a ?_|refine Two_intro ?_ ?_|exact wZ|fail)<;>(try refine sxEnd ?_)<;>(try exact True.intro))
 all_goals (try simp only[a0f,Bool.not_eq_true',Bool.not_eq_false',decide_eq_true_eq,decide_eq_false_iff_not]at *)
 all_goals simp[a3d,Es.enc, *]
theorem a7E(b:Nat)(out:List UInt8)(v:Int)(hv:0≤v∧v≤72057594037927935)(hl:out.length≤900000):
  CT Tryz.prog 65 [.ptr b 0,.int .i64 v] (lk [(b,wrc out false)]) (fun r o=>r=.tup []∧o=lk [(b,wrc (out++pn v) false)]):=by
 have h:pn v≠[]:=fun e=>(b0J v).1 e hv
 have:=b2u b out false v hl
 simpa only[h,decide_false,Bool.or_self,Bool.false_eq_true,if_false]using this
theorem b3d(b:Nat)(v:Int)(hv:0≤v∧v≤72057594037927935):
  CT Tryz.prog 65 [.ptr b 0,.int .i64 v] (lk [(b,wr0 false)]) (fun r o=>r=.tup []∧o=lk [(b,wrc (pn v) false)]):=by
 have h:pn v≠[]:=fun e=>(b0J v).1 e hv
 have hd:decide (pn v=[])=false:=decide_eq_false h
 have h8:=a0M v
 refine a1U _ _ _ (by simp) ?_
 simp only[a1p,hd, ↓Ed,Eu, ↓reduceIte,reduceCtorEq,Nat.reduceAdd,Nat.reduceEqDiff,Nat.reduceLT,Nat.reduceLeDiff,Int.reduceToNat,Int.reduceEq,Int.reduceLT,Int.reduceLE,w64,List.length_map,List.length_append]
 repeat' ((first|refine CallO_pure (b2Z _) ?_|refine c1 (b4D _ (pn v) (by omega)) ?_|refine NewB_intro0 (fun b=>?_)|(refine NewB_intro (fun b hb=>?_);simp only[ln_cons2,ln_nil,and_true]at hb)|(with_reducible apply wA;focus exact OM_a)|((first|refine gW_sp ?_|refine condW_sp ?_|refine pickW_sp ?_);(try refine Sp_n ?_);(first|refine wT ?_|refine wF ?_|refine wL (fun h h'=>?_) (fun h h'=>?_)|refine wE (fun h h'=>?_) (fun h h'=>?_)|refine Sp_split (fun h=>?_) (fun h=>?_))<;>(try (exfalso;omega)))|refine TreeW_intro (by rfl) ?_|refine TreeW_all ?_|refine a0a ?_|refine Two_intro ?_ ?_|exact wZ|fail)<;>(try refine sxEnd ?_)<;>(try exact True.intro))
 all_goals exact ro_mk (by simp[LeL,lk,r_nil,wrc]) dom1
theorem b0F(b:Nat)(out s:List UInt8)(hl:out.length≤500000)(hs:s.length≤400000):
  CT Tryz.prog 66 [.ptr b 0,.str s] (lk [(b,wrc out false)]) (fun r o=>r=.tup []∧o=lk [(b,wrc (out++(pn s.length++s)) false)]):=by
 have h:pn (s.length:Int)≠[]:=fun e=>(b0J _).1 e ⟨by omega,by omega⟩
 have:=b3e b out s false hl hs
 simp only[b1S,b3R,h,decide_false,Bool.or_self,Bool.false_eq_true,if_false]at this
 simpa only[List.append_assoc]using this
theorem b0h(b:Bool):0≤a2I b∧a2I b≤72057594037927935:=by cases b<;>decide
theorem a9y(x:Es)(hs:x.p.length≤100000):CP Tryz.prog 32 [.agg x.cs] (.tup [.str (a3d x).1,.int .i64 (a3d x).2]):=by
 have h1:=a0M (a2I x.cl);have h2:=a0M (a2I x.o);have h3:=a0M x.p.length;have h4:=a0M x.c;have h5:=a0M x.st
 refine a6y _ _ (by simp) ?_
 simp only[a4l,Es.cs, ↓Ed,Eu, ↓reduceIte,reduceCtorEq,Nat.reduceAdd,Nat.reduceEqDiff,Nat.reduceLT,Nat.reduceLeDiff,Int.reduceToNat,Int.reduceEq,Int.reduceLT,Int.reduceLE,w64,List.length_map,List.length_append]
 by_cases hm:x.may=true
 ·have hi:=may_in hm
  have he:a3d x=(x.enc,0):=by simp[a3d,hm]
  have hx:a0f (x.may=true):=hm
  rw[he]
  let o1:=pn (a2I x.cl)++pn (a2I x.o)
  let o2:=o1++(pn x.p.length++x.p)
  let o3:=o2++pn x.c
  repeat' ((first|refine CallO_pure (b0G x (by omega)) ?_|refine CallO_new (b6h) ?_|refine CallO_pure (b3f _) ?_|refine c1 (b3d _ _ (b0h _)) ?_|refine c1 (a7E _ (pn (a2I x.cl)) (a2I x.o) (b0h _) (by omega)) ?_|refine c1 (b0F _ o1 x.p (by simp only[o1,List.length_append];omega) (by omega)) ?_|refine c1 (a7E _ o2 x.c (by omega) (by simp only[o1,o2,List.length_append];omega)) ?_|refine c1 (a7E _ o3 x.st (by omega) (by simp only[o1,o2,o3,List.length_append];omega)) ?_|refine c1 (b2Y _ (o3++pn x.st) false) ?_|refine NewB_intro0 (fun b=>?_)|(refine NewB_intro (fun b hb=>?_);simp only[ln_cons2,ln_nil,and_true]at hb)|(with_reducible apply wA;focus exact OM_a)|((first|refine gW_sp ?_|refine condW_sp ?_|refine pickW_sp ?_);(try refine Sp_n ?_);(first|refine wT ?_|refine wF ?_|refine wL (fun h h'=>?_) (fun h h'=>?_)|refine wE (fun h h'=>?_) (fun h h'=>?_)|refine Sp_split (fun h=>?_) (fun h=>?_))<;>(try (exfalso;omega)))|refine TreeW_intro (by rfl) ?_|refine TreeW_all ?_|refine a0a ?_|refine Two_intro ?_ ?_|exact wZ|fail)<;>(try refine sxEnd ?_)<;>(try exact True.intro))
  simp[Es.enc,o1,o2,o3]
 ·have hx:a0f (x.may=false):=Bool.eq_false_iff.2 hm
  repeat' ((first|refine CallO_pure (b0G x (by omega)) ?_|refine NewB_intro0 (fun b=>?_)|(refine NewB_intro (fun b hb=>?_);simp only[ln_cons2,ln_nil,and_true]at hb)|(with_reducible apply wA;focus exact OM_a)|((first|refine gW_sp ?_|refine condW_sp ?_|refine pickW_sp ?_);(try refine Sp_n ?_);(first|refine wT ?_|refine wF ?_|refine wL (fun h h'=>?_) (fun h h'=>?_)|refine wE (fun h h'=>?_) (fun h h'=>?_)|refine Sp_split (fun h=>?_) (fun h=>?_))<;>(try (exfalso;omega)))|refine TreeW_intro (by rfl) ?_|refine TreeW_all ?_|refine a0a ?_|refine Two_intro ?_ ?_|exact wZ|fail)<;>(try refine sxEnd ?_)<;>(try exact True.intro))
  simp[a3d,hm]
theorem b1T(b:Nat)(s:List UInt8)(x:Int × Int)(least most:Int)(hs:s.length≤281474976710656)(hl:least≤0∧0≤most):
  CT Tryz.prog 82 [.ptr b 0,.int .i64 least,.int .i64 most] (lk [(b,rd s x.1 x.2)])
   (fun r o=>r=.int .i64 (a6C s least most x).1∧o=lk [(b,rd s (a6C s least most x).2.1 (a6C s least most x).2.2)]):=b6l b s x.1 x.2 least most hs hl
theorem b5h(b:Nat)(s:List UInt8)(x:Int × Int)(most:Int)(hs:s.length≤281474976710656)(hl:0≤most)(hn:0≤x.1∧x.1≤s.length):
  CT Tryz.prog 83 [.ptr b 0,.int .i64 most] (lk [(b,rd s x.1 x.2)])
   (fun r o=>r=.str (a4f s most x).1∧o=lk [(b,rd s (a4f s most x).2.1 (a4f s most x).2.2)]):=b4G b s x.1 x.2 most hs hl hn
theorem b6W(b:Nat)(s:List UInt8)(x:Int × Int):CT Tryz.prog 84 [.ptr b 0] (lk [(b,rd s x.1 x.2)]) (fun r o=>r=.int .i64 (rend s x)∧o=lk [(b,rd s x.1 x.2)]):=b6g b s x.1 x.2
theorem b2n(v:List UInt8)(hs:v.length≤100000):(Es.of v).p.length≤100000:=by
 simp only[Es.of,dpo,a4f];repeat' split
 all_goals (simp;try omega)
theorem decP_ok{v:List UInt8}(h:rend v (dst v).2=0)(g:(Es.of v).may=true):a6q v=(Es.of v,0):=by simp only[a6q,h,g,ne_eq,not_true_eq_false,if_false,if_true]
theorem decP_no{v:List UInt8}(h:rend v (dst v).2=0)(g:(Es.of v).may=false):a6q v=(Es.zero,1):=by simp only[a6q,h,g,ne_eq,not_true_eq_false,if_false,Bool.false_eq_true]
theorem decP_bad{v:List UInt8}(h:¬ rend v (dst v).2=0):a6q v=(Es.zero,rend v (dst v).2):=by simp only[a6q,h,ne_eq,not_false_eq_true,if_true]
theorem b1B(v:List UInt8)(hs:v.length≤100000):CP Tryz.prog 48 [.str v] (.tup [.agg (a6q v).1.cs,.int .i64 (a6q v).2]):=by
 have hm:=b2n v hs
 have h1:=b0Q v 0 1 (0,0) (by simp)
 have h2:=b0Q v 0 1 (dcl v).2 h1
 refine a6x _ _ (by simp) ?_
 simp only[a4k, ↓Ed,Eu, ↓reduceIte,reduceCtorEq,Nat.reduceAdd,Nat.reduceEqDiff,Nat.reduceLT,Nat.reduceLeDiff,Int.reduceToNat,Int.reduceEq,Int.reduceLT,Int.reduceLE,w64,List.length_map,List.length_append]
 repeat' ((first|refine CallO_new (b7C _) ?_|refine c1 (b1T _ v (0,0) 0 1 (by omega) (by omega)) ?_|refine c1 (b1T _ v (dcl v).2 0 1 (by omega) (by omega)) ?_|refine c1 (b5h _ v (dor v).2 12 (by omega) (by omega) h2) ?_|refine c1 (b1T _ v (dpo v).2 0 999 (by omega) (by omega)) ?_|refine c1 (b1T _ v (dch v).2 0 1099511627777 (by omega) (by omega)) ?_|refine c1 (b6W _ v (dst v).2) ?_|refine CallO_pure (b0G (Es.of v) (by omega)) ?_|refine NewB_intro0 (fun b=>?_)|(refine NewB_intro (fun b hb=>?_);simp only[ln_cons2,ln_nil,and_true]at hb)|(with_reducible apply wA;focus exact OM_a)|((first|refine gW_sp ?_|refine condW_sp ?_|refine pickW_sp ?_);(try refine Sp_n ?_);(first|refine wT ?_|refine wF ?_|refine wL (fun h h'=>?_) (fun h h'=>?_)|refine wE (fun h h'=>?_) (fun h h'=>?_)|refine Sp_split (fun h=>?_) (fun h=>?_))<;>(try (exfalso;omega)))|refine TreeW_intro (by rfl) ?_|refine TreeW_all ?_|refine a0a ?_|refine Two_intro ?_ ?_|exact wZ|fail)<;>(try refine sxEnd ?_)<;>(try exact True.intro))
 all_goals (try simp only[a0f,Bool.not_eq_true',Bool.not_eq_false',decide_eq_true_eq,decide_eq_false_iff_not]at *)
 all_goals first|rw[decP_ok (by assumption) (by assumption)]|rw[decP_no (by assumption) (by assumption)]|rw[decP_bad (by assumption)]
 all_goals simp[Es.of,Es.zero,dcl,dor,dpo,dch,dst]
 all_goals exact ⟨rfl,rfl⟩
theorem a7y(v:List UInt8)(hs:v.length≤100000):CP Tryz.prog 50 [.str v] (.tup [.agg (a6q v).1.cs,.int .i64 (a6q v).2]):=by
 have hm:=b2n v hs
 refine a2F _ _ (by simp) ?_
 simp only[a1m, ↓Ed,Eu, ↓reduceIte,reduceCtorEq,Nat.reduceAdd,Nat.reduceEqDiff,Nat.reduceLT,Nat.reduceLeDiff,Int.reduceToNat,Int.reduceEq,Int.reduceLT,Int.reduceLE,w64,List.length_map,List.length_append]
 repeat' ((first|refine c1 (a7C _ v (0,0) 0 1 (by omega)) ?_|refine c1 (a7C _ v (dcl v).2 0 1 (by omega)) ?_|refine c1 (b1E _ v (dor v).2 12 (by omega)) ?_|refine c1 (a7C _ v (dpo v).2 0 999 (by omega)) ?_|refine c1 (a7C _ v (dch v).2 0 1099511627777 (by omega)) ?_|refine c1 (b3b _ v (dst v).2) ?_|refine CallO_pure (a4Q (Es.of v) (by omega)) ?_|refine NewB_intro0 (fun b=>?_)|(refine NewB_intro (fun b hb=>?_);simp only[ln_cons2,ln_nil,and_true]at hb)|(with_reducible apply wA;focus exact OM_a)|((first|refine gW_sp ?_|refine condW_sp ?_|refine pickW_sp ?_);(try refine Sp_n ?_);(first|refine wT ?_|refine wF ?_|refine wL (fun h h'=>?_) (fun h h'=>?_)|refine wE (fun h h'=>?_) (fun h h'=>?_)|refine Sp_split (fun h=>?_) (fun h=>?_))<;>(try (exfalso;omega)))|refine TreeW_intro (by rfl) ?_|refine TreeW_all ?_|refine a0a ?_|refine Two_intro ?_ ?_|exact wZ|fail)<;>(try refine sxEnd ?_)<;>(try exact True.intro))
 all_goals (try simp only[a0f,Bool.not_eq_true',Bool.not_eq_false',decide_eq_true_eq,decide_eq_false_iff_not]at *)
 all_goals first|rw[decP_ok (by assumption) (by assumption)]|rw[decP_no (by assumption) (by assumption)]|rw[decP_bad (by assumption)]
 all_goals simp[Es.of,Es.zero,dcl,dor,dpo,dch,dst]
 all_goals exact ⟨rfl,rfl⟩
end
section
open Go.RowKit Go.Lib
set_option maxRecDepth 100000
theorem a5T(k:Int)(p:List UInt8)(c q:Int):(ofP k p c q).length≤160:=by
 rcases @ofP_q k p c q with h|h
 ·rw[h];simp
 ·exact q_len h
structure StI (L:List PrP):Prop where
 rise:a2a L
 may:∀ q∈L,a1T q.1 q.2=true
 len:L.length≤1000
theorem StI.getS_len{L:List PrP}(h:StI L)(k:List UInt8):(a4g L k).length≤64:=by
 cases hh:a1I L k with
 | false=>rw[getS_f hh];simp
 | true=>
  have hl:=has_lt hh
  rw[getS_t hh]
  have hm:L.getD (a0z L k) default∈L:=by rw[List.getD,List.getElem?_eq_getElem hl,Option.getD_some];exact List.getElem_mem hl
  have:=h.may _ hm
  simp only[a1T,decide_eq_true_eq]at this
  exact this.2.2.2
def stD(s:Nat):StS→Prop
 | none=>True
 | some (g,_)=>¬ g=s∧¬ s=g
theorem stOk.d{s:Nat}{L:List PrP}{x:StS}(h:stOk s L x):stD s x:=by
 rcases x with _ | ⟨g,cap⟩
 ·trivial
 ·exact h.1
theorem a3p(s:Nat):stD s none=True:=rfl
theorem a1K(s g cap:Nat):stD s (some (g,cap))=(¬ g=s∧¬ s=g):=rfl
noncomputable def a2R (L:List PrP) (p:List UInt8) (c:Int):Es × Bool:=
 ((a6q (a4g L (ofP 7 p c 0))).1,a1I L (ofP 7 p c 0)&&decide ((a6q (a4g L (ofP 7 p c 0))).2=0))
theorem sxEnq{A B:Prop}(h:B)(e:A=B:=by (simp (disch:=omega) only[*, ↓Ed,Eu, ↓reduceIte,reduceCtorEq,Nat.reduceAdd,Nat.reduceEqDiff,Nat.reduceLT,Nat.reduceLeDiff,Int.reduceToNat,Int.reduceEq,Int.reduceLT,Int.reduceLE,w64];first|done|rfl)):A:=e▸h
set_option maxHeartbeats 4000000 in
theorem a1g(s:Nat)(L:List PrP)(hI:StI L)(p:List UInt8)(c:Int)(hp:p.length≤1000000)(x:StS)(hx:stOk s L x):
  CT Tryz.prog 18 [.ptr s 0,.agg [.str p,.int .i64 c]] (lk (stO s L x)) (fun r o=>r=.tup [.agg (a2R L p c).1.cs,.bool (a2R L p c).2]∧o=lk (stO s L x)):=by
 have hF:=b2C s L hI.rise (by have:=hI.len;omega) (ofP 7 p c 0) x hx
 have hO:=a9Z 7 p c 0 hp
 have hv:=hI.getS_len (ofP 7 p c 0)
 have hD:=b1B (a4g L (ofP 7 p c 0)) (by omega)
 have hgs:=hx.d
 unfold a2R
 clear hI hx
 generalize ofP 7 p c 0=k at *
 generalize a4g L k=v at *
 generalize a1I L k=ok at *
 refine a8n _ _ _ (by simp) ?_
 rcases ok with _|_<;>rcases x with _ | ⟨g,cap⟩
 all_goals
  simp only[a3p,a1K,a0d,a0b]at hgs hF ⊢
  simp (disch:=omega) only[a6F, ↓Ed,Eu, ↓reduceIte,reduceCtorEq,Nat.reduceAdd,Nat.reduceEqDiff,Nat.reduceLT,Nat.reduceLeDiff,Int.reduceToNat,Int.reduceEq,Int.reduceLT,Int.reduceLE,w64]
  repeat' ((first|refine CallO_pure (hO) ?_|refine CallO_pure (hD) ?_|refine c1 (hF) ?_|refine c2 (hF) ?_|refine NewB_intro0 (fun b=>?_)|(refine NewB_intro (fun b hb=>?_);simp only[ln_cons2,ln_nil,and_true]at hb)|(with_reducible apply wA;focus exact OM_a)|((first|refine gW_sp ?_|refine condW_sp ?_|refine pickW_sp ?_);(try refine Sp_n ?_);(first|refine wT ?_|refine wF ?_|refine wL (fun h h'=>?_) (fun h h'=>?_)|refine wE (fun h h'=>?_) (fun h h'=>?_)|refine Sp_split (fun h=>?_) (fun h=>?_))<;>(try (exfalso;omega)))|refine TreeW_intro (by rfl) ?_|refine TreeW_all ?_|refine a0a ?_|refine Two_intro ?_ ?_|exact wZ|fail)<;>(try refine sxEnq ?_)<;>(try exact True.intro))
  all_goals exact ro_mk (by simp[LeL,lk,r_two,rl_cons,rl_nil,arR,al_agg,al_bool,view,l_all, *]) (a1X _)
noncomputable def b3q (L:List PrP) (p:List UInt8) (c:Int) (x:Es):List PrP:=if (a3d x).2=0 then a6T L (ofP 7 p c 0) (a3d x).1 else L
noncomputable def b3r (p:List UInt8) (c:Int) (x:Es):Int:=if (a3d x).2=0 then b0U (ofP 7 p c 0) (a3d x).1 else (a3d x).2
theorem b1r(x:Es)(h:x.p.length≤100000):(a3d x).1.length≤1000000:=by
 unfold a3d
 split
 ·have h1:=fun n=>a0M n
  have a:=h1 (a2I x.cl);have b:=h1 (a2I x.o);have c:=h1 x.p.length;have d:=h1 x.c;have e:=h1 x.st
  simp only[Es.enc,List.length_append];omega
 ·simp
set_option maxHeartbeats 8000000 in
theorem b2B(s:Nat)(L:List PrP)(hI:StI L)(p:List UInt8)(c:Int)(hp:p.length≤1000000)(e:Es)(he:e.p.length≤100000)(x:StS)(hx:stOk s L x):
  CT Tryz.prog 10 [.ptr s 0,.agg [.str p,.int .i64 c],.agg e.cs] (lk (stO s L x)) (b1K s L (b3q L p c e) x (b3r p c e)):=by
 have hl:=hI.len
 have hS:=a9L s L hI.rise (by omega) (ofP 7 p c 0) (a3d e).1 (by have:=a5T 7 p c 0;omega) (b1r e he) x hx
 have hO:=a9Z 7 p c 0 hp
 have hE:=a9y e he
 have hgs:=hx.d
 unfold b3q b3r
 generalize ofP 7 p c 0=k at *
 generalize a3d e=z at *
 refine a8o _ _ _ (by simp) ?_
 by_cases hz:z.2=0
 ·rw[if_pos hz,if_pos hz]
  clear hI hx
  generalize a6T L k z.1=L' at *
  generalize b0U k z.1=E at *
  rw[hz]at hE
  rcases x with _ | ⟨g,cap⟩
  all_goals
   simp only[a3p,a1K,a0d,a0b]at hgs hS ⊢
   simp (disch:=omega) only[a4H, ↓Ed,Eu, ↓reduceIte,reduceCtorEq,Nat.reduceAdd,Nat.reduceEqDiff,Nat.reduceLT,Nat.reduceLeDiff,Int.reduceToNat,Int.reduceEq,Int.reduceLT,Int.reduceLE,w64]
   repeat' ((first|refine CallO_pure (hO) ?_|refine CallO_pure (hE) ?_|((refine c_set0 hS (fun h0=>?_) (fun b c hn h2 hc=>?_))<;>(try simp only[ln_cons2,ln_nil,and_true]at hn))|((refine c_set1 hS (fun c hc=>?_) (fun b c hn h2 hc=>?_))<;>(try simp only[ln_cons2,ln_nil,and_true]at hn))|refine NewB_intro0 (fun b=>?_)|(refine NewB_intro (fun b hb=>?_);simp only[ln_cons2,ln_nil,and_true]at hb)|(with_reducible apply wA;focus exact OM_a)|((first|refine gW_sp ?_|refine condW_sp ?_|refine pickW_sp ?_);(try refine Sp_n ?_);(first|refine wT ?_|refine wF ?_|refine wL (fun h h'=>?_) (fun h h'=>?_)|refine wE (fun h h'=>?_) (fun h h'=>?_)|refine Sp_split (fun h=>?_) (fun h=>?_))<;>(try (exfalso;omega)))|refine TreeW_intro (by rfl) ?_|refine TreeW_all ?_|refine a0a ?_|refine Two_intro ?_ ?_|exact wZ|fail)<;>(try refine sxEnq ?_)<;>(try exact True.intro))
   all_goals first
   | exact ro_st (L:=L) (x:=none) none ⟨by first|exact h0|exact hx,fun _=>rfl⟩ (by simp[a0P,arR,lk];done) (by first|(simp[*,LeL,lk,a0d,ov_cons,ov_nil,del_cons,del_nil];done)|fail)
   | exact ro_st (L:=L) (x:=none) (some (b,c)) ⟨⟨h2,hc⟩,fun h=>by cases h⟩ (by simp[a0P,arR,lk];done) (by first|(simp[*,LeL,lk,a0b,a0d,ov_cons,ov_nil,del_cons,del_nil];done)|fail)
   | exact ro_st (L:=L) (x:=some (g,cap)) (some (g,c)) ⟨⟨hgs,hc⟩,fun h=>by cases h⟩ (by simp[a0P,arR,lk];done) (by first|(simp[*,LeL,lk,a0b,ov_cons,ov_nil,del_cons,del_nil];done)|fail)
   | exact ro_st (L:=L) (x:=some (g,cap)) (some (b,c)) ⟨⟨h2,hc⟩,fun h=>by cases h⟩ (by simp[a0P,arR,lk];done) (by first|(simp[*,LeL,lk,a0b,ov_cons,ov_nil,del_cons,del_nil];done)|fail)
   | exact ro_st (L:=L) (x:=some (g,cap)) (some (g,cap)) ⟨hx,fun h=>by cases h⟩ (by simp[a0P,arR,lk];done) (by first|(simp[*,LeL,lk,a0b,ov_cons,ov_nil,del_cons,del_nil];done)|fail)
 ·rw[if_neg hz,if_neg hz]
  have f1:a0f (decide (z.2=0)=false):=by simp only[a0f,Bool.not_eq_true',Bool.not_eq_false',decide_eq_true_eq,decide_eq_false_iff_not];exact hz
  clear hS
  rcases x with _ | ⟨g,cap⟩
  all_goals
   simp only[a3p,a1K,a0d,a0b]at hgs ⊢
   simp (disch:=omega) only[a4H, ↓Ed,Eu, ↓reduceIte,reduceCtorEq,Nat.reduceAdd,Nat.reduceEqDiff,Nat.reduceLT,Nat.reduceLeDiff,Int.reduceToNat,Int.reduceEq,Int.reduceLT,Int.reduceLE,w64]
   repeat' ((first|refine CallO_pure (hO) ?_|refine CallO_pure (hE) ?_|refine NewB_intro0 (fun b=>?_)|(refine NewB_intro (fun b hb=>?_);simp only[ln_cons2,ln_nil,and_true]at hb)|(with_reducible apply wA;focus exact OM_a)|((first|refine gW_sp ?_|refine condW_sp ?_|refine pickW_sp ?_);(try refine Sp_n ?_);(first|refine wT ?_|refine wF ?_|refine wL (fun h h'=>?_) (fun h h'=>?_)|refine wE (fun h h'=>?_) (fun h h'=>?_)|refine Sp_split (fun h=>?_) (fun h=>?_))<;>(try (exfalso;omega)))|refine TreeW_intro (by rfl) ?_|refine TreeW_all ?_|refine a0a ?_|refine Two_intro ?_ ?_|exact wZ|fail)<;>(try refine sxEnq ?_)<;>(try exact True.intro))
   all_goals first
   | exact ro_st (L:=L) (x:=none) none ⟨by first|exact h0|exact hx,fun _=>rfl⟩ (by simp[a0P,arR,lk];done) (by first|(simp[*,LeL,lk,a0d,ov_cons,ov_nil,del_cons,del_nil];done)|fail)
   | exact ro_st (L:=L) (x:=none) (some (b,c)) ⟨⟨h2,hc⟩,fun h=>by cases h⟩ (by simp[a0P,arR,lk];done) (by first|(simp[*,LeL,lk,a0b,a0d,ov_cons,ov_nil,del_cons,del_nil];done)|fail)
   | exact ro_st (L:=L) (x:=some (g,cap)) (some (g,c)) ⟨⟨hgs,hc⟩,fun h=>by cases h⟩ (by simp[a0P,arR,lk];done) (by first|(simp[*,LeL,lk,a0b,ov_cons,ov_nil,del_cons,del_nil];done)|fail)
   | exact ro_st (L:=L) (x:=some (g,cap)) (some (b,c)) ⟨⟨h2,hc⟩,fun h=>by cases h⟩ (by simp[a0P,arR,lk];done) (by first|(simp[*,LeL,lk,a0b,ov_cons,ov_nil,del_cons,del_nil];done)|fail)
   | exact ro_st (L:=L) (x:=some (g,cap)) (some (g,cap)) ⟨hx,fun h=>by cases h⟩ (by simp[a0P,arR,lk];done) (by first|(simp[*,LeL,lk,a0b,ov_cons,ov_nil,del_cons,del_nil];done)|fail)
end
section
open Go.RowKit Go.Lib
set_option maxRecDepth 100000
def okK(k:Int):Bool:=decide (4≤k)&&decide (k≤6)
theorem sxEnr{A B:Prop}(h:B)(e:A=B:=by (simp (disch:=omega) only[*, ↓Ed,Eu, ↓reduceIte,reduceCtorEq,Nat.reduceAdd,Nat.reduceEqDiff,Nat.reduceLT,Nat.reduceLeDiff,Int.reduceToNat,Int.reduceEq,Int.reduceLT,Int.reduceLE,w64];first|done|rfl)):A:=e▸h
theorem a7G(k:Int):CP Tryz.prog 36 [.int .i64 k] (.bool (okK k)):=by
 refine a7r _ _ (by simp) ?_
 unfold okK
 simp (disch:=omega) only[a4X, ↓Ed,Eu, ↓reduceIte,reduceCtorEq,Nat.reduceAdd,Nat.reduceEqDiff,Nat.reduceLT,Nat.reduceLeDiff,Int.reduceToNat,Int.reduceEq,Int.reduceLT,Int.reduceLE,w64]
 repeat' ((first|refine NewB_intro0 (fun b=>?_)|(refine NewB_intro (fun b hb=>?_);simp only[ln_cons2,ln_nil,and_true]at hb)|(with_reducible apply wA;focus exact OM_a)|((first|refine gW_sp ?_|refine condW_sp ?_|refine pickW_sp ?_);(try refine Sp_n ?_);(first|refine wT ?_|refine wF ?_|refine wL (fun h h'=>?_) (fun h h'=>?_)|refine wE (fun h h'=>?_) (fun h h'=>?_)|refine Sp_split (fun h=>?_) (fun h=>?_))<;>(try (exfalso;omega)))|refine TreeW_intro (by rfl) ?_|refine TreeW_all ?_|refine a0a ?_|refine Two_intro ?_ ?_|exact wZ|fail)<;>(try refine sxEnr ?_)<;>(try exact True.intro))
 all_goals (first|rw[Bool.true_and]|(rw[decide_eq_false (by omega:¬ 4≤k)];rfl))
def okN(k n:Int):Bool:=okK k&&(decide (1≤n)&&decide (n≤1099511627777))
noncomputable def b3u (L:List PrP) (k:Int) (p:List UInt8) (c n:Int):List PrP:=if okN k n=true then a6T L (ofP k p c 0) (pn n) else L
noncomputable def a9a (k:Int) (p:List UInt8) (c n:Int):Int:=if okN k n=true then b0U (ofP k p c 0) (pn n) else 1
set_option maxHeartbeats 8000000 in
theorem a4S(s:Nat)(L:List PrP)(hI:StI L)(k:Int)(p:List UInt8)(c:Int)(hp:p.length≤1000000)(n:Int)(x:StS)(hx:stOk s L x):
  CT Tryz.prog 12 [.ptr s 0,.int .i64 k,.agg [.str p,.int .i64 c],.int .i64 n] (lk (stO s L x)) (b1K s L (b3u L k p c n) x (a9a k p c n)):=by
 have hl:=hI.len
 have hS:=a9L s L hI.rise (by omega) (ofP k p c 0) (pn n) (by have:=a5T k p c 0;omega) (by have:=a0M n;omega) x hx
 have hO:=a9Z k p c 0 hp
 have hU:=b2Z n
 have hN:=a7G k
 have hC:=a6c n
 have hgs:=hx.d
 unfold b3u a9a okN
 generalize ofP k p c 0=key at *
 generalize pn n=v at *
 generalize okK k=a at *
 generalize (decide (1≤n)&&decide (n≤1099511627777))=b at *
 refine a5n _ _ _ (by simp) ?_
 cases a with
 | true=>
  cases b with
  | true=>
   simp only[Bool.and_self,if_true]
   clear hI hx
   generalize a6T L key v=L' at *
   generalize b0U key v=E at *
   rcases x with _ | ⟨g,cap⟩
   all_goals
    simp only[a3p,a1K,a0d,a0b]at hgs hS ⊢
    simp (disch:=omega) only[a1t, ↓Ed,Eu, ↓reduceIte,reduceCtorEq,Nat.reduceAdd,Nat.reduceEqDiff,Nat.reduceLT,Nat.reduceLeDiff,Int.reduceToNat,Int.reduceEq,Int.reduceLT,Int.reduceLE,w64]
    repeat' ((first|refine CallO_pure (hO) ?_|refine CallO_pure (hU) ?_|refine CallO_pure (hN) ?_|refine CallO_pure (hC) ?_|((refine c_set0 hS (fun h0=>?_) (fun b c hn h2 hc=>?_))<;>(try simp only[ln_cons2,ln_nil,and_true]at hn))|((refine c_set1 hS (fun c hc=>?_) (fun b c hn h2 hc=>?_))<;>(try simp only[ln_cons2,ln_nil,and_true]at hn))|refine NewB_intro0 (fun b=>?_)|(refine NewB_intro (fun b hb=>?_);simp only[ln_cons2,ln_nil,and_true]at hb)|(with_reducible apply wA;focus exact OM_a)|((first|refine gW_sp ?_|refine condW_sp ?_|refine pickW_sp ?_);(try refine Sp_n ?_);(first|refine wT ?_|refine wF ?_|refine wL (fun h h'=>?_) (fun h h'=>?_)|refine wE (fun h h'=>?_) (fun h h'=>?_)|refine Sp_split (fun h=>?_) (fun h=>?_))<;>(try (exfalso;omega)))|refine TreeW_intro (by rfl) ?_|refine TreeW_all ?_|refine a0a ?_|refine Two_intro ?_ ?_|exact wZ|fail)<;>(try refine sxEnr ?_)<;>(try exact True.intro))
    all_goals first
    | exact ro_st (L:=L) (x:=none) none ⟨by first|exact h0|exact hx,fun _=>rfl⟩ (by simp[a0P,arR,lk];done) (by first|(simp[*,LeL,lk,a0d,ov_cons,ov_nil,del_cons,del_nil];done)|fail)
    | exact ro_st (L:=L) (x:=none) (some (b,c)) ⟨⟨h2,hc⟩,fun h=>by cases h⟩ (by simp[a0P,arR,lk];done) (by first|(simp[*,LeL,lk,a0b,a0d,ov_cons,ov_nil,del_cons,del_nil];done)|fail)
    | exact ro_st (L:=L) (x:=some (g,cap)) (some (g,c)) ⟨⟨hgs,hc⟩,fun h=>by cases h⟩ (by simp[a0P,arR,lk];done) (by first|(simp[*,LeL,lk,a0b,ov_cons,ov_nil,del_cons,del_nil];done)|fail)
    | exact ro_st (L:=L) (x:=some (g,cap)) (some (b,c)) ⟨⟨h2,hc⟩,fun h=>by cases h⟩ (by simp[a0P,arR,lk];done) (by first|(simp[*,LeL,lk,a0b,ov_cons,ov_nil,del_cons,del_nil];done)|fail)
    | exact ro_st (L:=L) (x:=some (g,cap)) (some (g,cap)) ⟨hx,fun h=>by cases h⟩ (by simp[a0P,arR,lk];done) (by first|(simp[*,LeL,lk,a0b,ov_cons,ov_nil,del_cons,del_nil];done)|fail)
  | false=>
   simp only[Bool.and_false,Bool.false_and,Bool.false_eq_true,if_false]
   clear hS
   rcases x with _ | ⟨g,cap⟩
   all_goals
    simp only[a3p,a1K,a0d,a0b]at hgs ⊢
    simp (disch:=omega) only[a1t, ↓Ed,Eu, ↓reduceIte,reduceCtorEq,Nat.reduceAdd,Nat.reduceEqDiff,Nat.reduceLT,Nat.reduceLeDiff,Int.reduceToNat,Int.reduceEq,Int.reduceLT,Int.reduceLE,w64]
    repeat' ((first|refine CallO_pure (hO) ?_|refine CallO_pure (hU) ?_|refine CallO_pure (hN) ?_|refine CallO_pure (hC) ?_|refine NewB_intro0 (fun b=>?_)|(refine NewB_intro (fun b hb=>?_);simp only[ln_cons2,ln_nil,and_true]at hb)|(with_reducible apply wA;focus exact OM_a)|((first|refine gW_sp ?_|refine condW_sp ?_|refine pickW_sp ?_);(try refine Sp_n ?_);(first|refine wT ?_|refine wF ?_|refine wL (fun h h'=>?_) (fun h h'=>?_)|refine wE (fun h h'=>?_) (fun h h'=>?_)|refine Sp_split (fun h=>?_) (fun h=>?_))<;>(try (exfalso;omega)))|refine TreeW_intro (by rfl) ?_|refine TreeW_all ?_|refine a0a ?_|refine Two_intro ?_ ?_|exact wZ|fail)<;>(try refine sxEnr ?_)<;>(try exact True.intro))
    all_goals first
    | exact ro_st (L:=L) (x:=none) none ⟨by first|exact h0|exact hx,fun _=>rfl⟩ (by simp[a0P,arR,lk];done) (by first|(simp[*,LeL,lk,a0d,ov_cons,ov_nil,del_cons,del_nil];done)|fail)
    | exact ro_st (L:=L) (x:=none) (some (b,c)) ⟨⟨h2,hc⟩,fun h=>by cases h⟩ (by simp[a0P,arR,lk];done) (by first|(simp[*,LeL,lk,a0b,a0d,ov_cons,ov_nil,del_cons,del_nil];done)|fail)
    | exact ro_st (L:=L) (x:=some (g,cap)) (some (g,c)) ⟨⟨hgs,hc⟩,fun h=>by cases h⟩ (by simp[a0P,arR,lk];done) (by first|(simp[*,LeL,lk,a0b,ov_cons,ov_nil,del_cons,del_nil];done)|fail)
    | exact ro_st (L:=L) (x:=some (g,cap)) (some (b,c)) ⟨⟨h2,hc⟩,fun h=>by cases h⟩ (by simp[a0P,arR,lk];done) (by first|(simp[*,LeL,lk,a0b,ov_cons,ov_nil,del_cons,del_nil];done)|fail)
    | exact ro_st (L:=L) (x:=some (g,cap)) (some (g,cap)) ⟨hx,fun h=>by cases h⟩ (by simp[a0P,arR,lk];done) (by first|(simp[*,LeL,lk,a0b,ov_cons,ov_nil,del_cons,del_nil];done)|fail)
 | false=>
  simp only[Bool.and_false,Bool.false_and,Bool.false_eq_true,if_false]
  clear hS
  rcases x with _ | ⟨g,cap⟩
  all_goals
   simp only[a3p,a1K,a0d,a0b]at hgs ⊢
   simp (disch:=omega) only[a1t, ↓Ed,Eu, ↓reduceIte,reduceCtorEq,Nat.reduceAdd,Nat.reduceEqDiff,Nat.reduceLT,Nat.reduceLeDiff,Int.reduceToNat,Int.reduceEq,Int.reduceLT,Int.reduceLE,w64]
   repeat' ((first|refine CallO_pure (hO) ?_|refine CallO_pure (hU) ?_|refine CallO_pure (hN) ?_|refine CallO_pure (hC) ?_|refine NewB_intro0 (fun b=>?_)|(refine NewB_intro (fun b hb=>?_);simp only[ln_cons2,ln_nil,and_true]at hb)|(with_reducible apply wA;focus exact OM_a)|((first|refine gW_sp ?_|refine condW_sp ?_|refine pickW_sp ?_);(try refine Sp_n ?_);(first|refine wT ?_|refine wF ?_|refine wL (fun h h'=>?_) (fun h h'=>?_)|refine wE (fun h h'=>?_) (fun h h'=>?_)|refine Sp_split (fun h=>?_) (fun h=>?_))<;>(try (exfalso;omega)))|refine TreeW_intro (by rfl) ?_|refine TreeW_all ?_|refine a0a ?_|refine Two_intro ?_ ?_|exact wZ|fail)<;>(try refine sxEnr ?_)<;>(try exact True.intro))
   all_goals first
   | exact ro_st (L:=L) (x:=none) none ⟨by first|exact h0|exact hx,fun _=>rfl⟩ (by simp[a0P,arR,lk];done) (by first|(simp[*,LeL,lk,a0d,ov_cons,ov_nil,del_cons,del_nil];done)|fail)
   | exact ro_st (L:=L) (x:=none) (some (b,c)) ⟨⟨h2,hc⟩,fun h=>by cases h⟩ (by simp[a0P,arR,lk];done) (by first|(simp[*,LeL,lk,a0b,a0d,ov_cons,ov_nil,del_cons,del_nil];done)|fail)
   | exact ro_st (L:=L) (x:=some (g,cap)) (some (g,c)) ⟨⟨hgs,hc⟩,fun h=>by cases h⟩ (by simp[a0P,arR,lk];done) (by first|(simp[*,LeL,lk,a0b,ov_cons,ov_nil,del_cons,del_nil];done)|fail)
   | exact ro_st (L:=L) (x:=some (g,cap)) (some (b,c)) ⟨⟨h2,hc⟩,fun h=>by cases h⟩ (by simp[a0P,arR,lk];done) (by first|(simp[*,LeL,lk,a0b,ov_cons,ov_nil,del_cons,del_nil];done)|fail)
   | exact ro_st (L:=L) (x:=some (g,cap)) (some (g,cap)) ⟨hx,fun h=>by cases h⟩ (by simp[a0P,arR,lk];done) (by first|(simp[*,LeL,lk,a0b,ov_cons,ov_nil,del_cons,del_nil];done)|fail)
noncomputable def a6w (L:List PrP) (k:Int) (p:List UInt8) (c:Int):Int:=
 if okK k=true∧(nx (a4g L (ofP k p c 0)) 0).2.2=0∧¬ (nx (a4g L (ofP k p c 0)) 0).2.1<((a4g L (ofP k p c 0)).length:Int) then (nx (a4g L (ofP k p c 0)) 0).1 else 0
set_option maxHeartbeats 8000000 in
theorem a7K(s:Nat)(L:List PrP)(hI:StI L)(k:Int)(p:List UInt8)(c:Int)(hp:p.length≤1000000)(x:StS)(hx:stOk s L x):
  CT Tryz.prog 20 [.ptr s 0,.int .i64 k,.agg [.str p,.int .i64 c]] (lk (stO s L x)) (fun r o=>r=.int .i64 (a6w L k p c)∧o=lk (stO s L x)):=by
 have hF:=b2C s L hI.rise (by have:=hI.len;omega) (ofP k p c 0) x hx
 have hO:=a9Z k p c 0 hp
 have hv:=hI.getS_len (ofP k p c 0)
 have hD:=b2t (a4g L (ofP k p c 0)) 0 (by omega)
 have hN:=a7G k
 have hgs:=hx.d
 unfold a6w
 clear hI hx
 generalize ofP k p c 0=key at *
 generalize a4g L key=v at *
 generalize nx v 0=z at *
 generalize okK k=a at *
 generalize a1I L key=ok at *
 refine a7s _ _ _ (by simp) ?_
 by_cases h1:a=true∧z.2.2=0∧¬ z.2.1<(v.length:Int)
 ·rw[if_pos h1]
  obtain ⟨rfl,h2,h3⟩:=h1
  have f2:a0f (decide (z.2.2=0)=true):=by simp only[a0f,Bool.not_eq_true',Bool.not_eq_false',decide_eq_true_eq,decide_eq_false_iff_not];exact h2
  have f3:a0f (decide (z.2.1<(v.length:Int))=false):=by simp only[a0f,Bool.not_eq_true',Bool.not_eq_false',decide_eq_true_eq,decide_eq_false_iff_not];exact h3
  clear h2 h3
  rcases x with _ | ⟨g,cap⟩
  all_goals
   simp only[a3p,a1K,a0d,a0b]at hgs hF ⊢
   simp (disch:=omega) only[a3R, ↓Ed,Eu, ↓reduceIte,reduceCtorEq,Nat.reduceAdd,Nat.reduceEqDiff,Nat.reduceLT,Nat.reduceLeDiff,Int.reduceToNat,Int.reduceEq,Int.reduceLT,Int.reduceLE,w64]
   repeat' ((first|refine CallO_pure (hO) ?_|refine CallO_pure (hD) ?_|refine CallO_pure (hN) ?_|refine c1 (hF) ?_|refine c2 (hF) ?_|refine NewB_intro0 (fun b=>?_)|(refine NewB_intro (fun b hb=>?_);simp only[ln_cons2,ln_nil,and_true]at hb)|(with_reducible apply wA;focus exact OM_a)|((first|refine gW_sp ?_|refine condW_sp ?_|refine pickW_sp ?_);(try refine Sp_n ?_);(first|refine wT ?_|refine wF ?_|refine wL (fun h h'=>?_) (fun h h'=>?_)|refine wE (fun h h'=>?_) (fun h h'=>?_)|refine Sp_split (fun h=>?_) (fun h=>?_))<;>(try (exfalso;omega)))|refine TreeW_intro (by rfl) ?_|refine TreeW_all ?_|refine a0a ?_|refine Two_intro ?_ ?_|exact wZ|fail)<;>(try refine sxEnr ?_)<;>(try exact True.intro))
   all_goals exact ro_mk (by simp[LeL,lk,a0P,arR, *]) (a1X _)
 ·rw[if_neg h1]
  rcases x with _ | ⟨g,cap⟩
  all_goals
   simp only[a3p,a1K,a0d,a0b]at hgs hF ⊢
   simp (disch:=omega) only[a3R, ↓Ed,Eu, ↓reduceIte,reduceCtorEq,Nat.reduceAdd,Nat.reduceEqDiff,Nat.reduceLT,Nat.reduceLeDiff,Int.reduceToNat,Int.reduceEq,Int.reduceLT,Int.reduceLE,w64]
   repeat' ((first|refine CallO_pure (hO) ?_|refine CallO_pure (hD) ?_|refine CallO_pure (hN) ?_|refine c1 (hF) ?_|refine c2 (hF) ?_|refine NewB_intro0 (fun b=>?_)|(refine NewB_intro (fun b hb=>?_);simp only[ln_cons2,ln_nil,and_true]at hb)|(with_reducible apply wA;focus exact OM_a)|((first|refine gW_sp ?_|refine condW_sp ?_|refine pickW_sp ?_);(try refine Sp_n ?_);(first|refine wT ?_|refine wF ?_|refine wL (fun h h'=>?_) (fun h h'=>?_)|refine wE (fun h h'=>?_) (fun h h'=>?_)|refine Sp_split (fun h=>?_) (fun h=>?_))<;>(try (exfalso;omega)))|refine TreeW_intro (by rfl) ?_|refine TreeW_all ?_|refine a0a ?_|refine Two_intro ?_ ?_|exact wZ|fail)<;>(try refine sxEnr ?_)<;>(try exact True.intro))
   all_goals first|exact ro_mk (by first|(simp[LeL,lk,a0P,arR, *];done)|fail) (a1X _)|(exfalso;apply h1;simp only[a0f,Bool.not_eq_true',Bool.not_eq_false',decide_eq_true_eq,decide_eq_false_iff_not]at *;refine ⟨by assumption,by omega,by omega⟩)
end
end Go.Proofs.YthdcogkdacnheaaGreatDoor
