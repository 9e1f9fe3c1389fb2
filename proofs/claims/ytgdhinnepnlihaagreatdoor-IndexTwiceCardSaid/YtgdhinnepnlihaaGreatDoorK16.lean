import Derived.Test.YtgdhinnepnlihaaGreatDoorK13
import Derived.Test.YtgdhinnepnlihaaGreatDoorK11
import Derived.Test.YtgdhinnepnlihaaGreatDoorK15
import Derived.Test.YtgdhinnepnlihaaGreatDoorK14
import Derived.Test.YtgdhinnepnlihaaGreatDoorK12
namespace Go.Proofs.YtgdhinnepnlihaaGreatDoor
set_option linter.all false
set_option maxHeartbeats 9000000
section
set_option maxRecDepth 100000
theorem b7B(l:List UInt8):(⟨l.toArray⟩:ByteArray).size=l.length:=by simp[ByteArray.size]
theorem a9u(s:List UInt8)(hs:s.length≤281474976710656):CP Tryz.prog 159 [.str s] (.str s):=
 CP_lib (vs:=[.string ⟨s.toArray⟩]) (v:=.string ⟨s.toArray⟩) rfl (by simp) rfl fun W=>Tryz.stringslite_Clone _ W (by rw[b7B];exact hs)
theorem sxLia{A B:Prop}(h:B)(e:A=B:=by (simp (disch:=omega) only[*, ↓Ed,Eu, ↓reduceIte,reduceCtorEq,Nat.reduceAdd,Nat.reduceEqDiff,Nat.reduceLT,Nat.reduceLeDiff,Int.reduceToNat,Int.reduceEq,Int.reduceLT,Int.reduceLE,w64];first|done|rfl)):A:=e▸h
theorem b2e(s:List UInt8)(hs:s.length≤281474976710656):CP Tryz.prog 90 [.str s] (.str s):=by
 refine a5K _ _ (by simp) ?_
 simp only[a3z];refine sxLia ?_
 repeat' ((first|exact tt|refine CallO_pure (a9u _ (by omega)) ?_|refine na fun b=>?_|refine nb fun b hb=>?_|refine iq ?_|(refine jq ?_ ?_<;>intro h h')|refine Two_intro ?_ ?_|exact wZ|fail)<;>try refine sxLia ?_)
end
section
def a1Q(s:List UInt8)(least most:Int)(x:Int × Int):Int × Int × Int:=
 if x.2≠0 then (0,x.1,x.2) else if (nx s x.1).2.2≠0 then (0,x.1,(nx s x.1).2.2)
 else if (nx s x.1).1<least∨most<(nx s x.1).1 then (0,x.1,1) else ((nx s x.1).1,(nx s x.1).2.1,0)
def a0x(s:List UInt8)(most:Int)(x:Int × Int):List UInt8 × Int × Int:=
 if x.2≠0 then ([],x.1,x.2) else if (nx s x.1).2.2≠0 then ([],x.1,(nx s x.1).2.2)
 else if most<(nx s x.1).1 then ([],x.1,4) else if (s.length:Int) - (nx s x.1).2.1<(nx s x.1).1 then ([],x.1,2)
 else ((s.take ((nx s x.1).2.1+(nx s x.1).1).toNat).drop (nx s x.1).2.1.toNat,(nx s x.1).2.1+(nx s x.1).1,0)
def rend(s:List UInt8)(x:Int × Int):Int:=if x.2=0∧x.1<s.length then 3 else x.2
theorem a6C(s:List UInt8)(n:Int):0≤(nx s n).1∧(nx s n).1<72057594037927936∧0≤(nx s n).2.1∧(nx s n).2.1≤s.length:=by
 unfold nx
 split
 ·have hb:=b0u 8 (s.drop n.toNat) true
  generalize a2C 8 (s.drop n.toNat) true=g at hb
  obtain ⟨v,k,e⟩:=g
  simp only[List.length_drop]at hb ⊢
  split
  ·simp only;omega
  ·simp only;omega
 ·simp only;omega
theorem b2d(s:List UInt8)(n:Int)(h:(nx s n).2.2≠0):(nx s n).1=0∧(nx s n).2.1=0:=by
 unfold nx at h ⊢
 split
 ·rename_i hn
  rw[if_pos hn]at h
  generalize a2C 8 (s.drop n.toNat) true=g at h ⊢
  obtain ⟨v,k,e⟩:=g
  simp only at h ⊢
  split
  ·rename_i he;rw[if_pos he]at h;simp at h
  ·simp
 ·simp
theorem b5I(s:List UInt8)(least most:Int)(x:Int × Int)(h:0≤x.1∧x.1≤s.length):0≤(a1Q s least most x).2.1∧(a1Q s least most x).2.1≤s.length:=by
 have:=a6C s x.1
 unfold a1Q
 split
 ·exact h
 split
 ·exact h
 split
 ·exact h
 ·simp only;omega
theorem b3J(s:List UInt8)(most:Int)(x:Int × Int)(h:0≤x.1∧x.1≤s.length):0≤(a0x s most x).2.1∧(a0x s most x).2.1≤s.length:=by
 have:=a6C s x.1
 unfold a0x
 split
 ·exact h
 split
 ·exact h
 split
 ·exact h
 split
 ·exact h
 ·simp only;omega
end
section
set_option maxRecDepth 100000


abbrev rd(s:List UInt8)(n:Int)(bad:Int):List AV:=[.str s,.int .i64 n,.int .i64 bad]
theorem sxWir{A B:Prop}(h:B)(e:A=B:=by (simp (disch:=omega) only[*, ↓Ed,Eu, ↓reduceIte,reduceCtorEq,Nat.reduceAdd,Nat.reduceEqDiff,Nat.reduceLT,Nat.reduceLeDiff,Int.reduceToNat,Int.reduceEq,Int.reduceLT,Int.reduceLE,w64,List.length_map];first|done|rfl)):A:=e▸h
theorem b8e(s:List UInt8):CT Tryz.prog 118 [.str s] (fun _=>none) (fun r o=>∃ b,r=.ptr b 0∧o=lk [(b,rd s 0 0)]):=by
 refine a9X _ _ _ (by simp) ?_
 rw[show (fun _=>none:Nat→Option (List AV))=lk [] from rfl]
 simp only[a8Q];refine sxWir ?_
 repeat' ((first|exact tt|refine na fun b=>?_|refine nb fun b hb=>?_|refine iq ?_|(refine jq ?_ ?_<;>intro h h')|refine Two_intro ?_ ?_|exact wZ|fail)<;>try refine sxWir ?_)
 exact ro_new (b:=b) (by simp[LeL,lk,a0Q,arR])
def a4I(bad e:Int):Int:=if bad=0 then e else bad
theorem b2l(b:Nat)(s:List UInt8)(n bad e:Int):CT Tryz.prog 184 [.ptr b 0,.int .i64 e] (lk [(b,rd s n bad)]) (fun r o=>r=.tup []∧o=lk [(b,rd s n (a4I bad e))]):=by
 refine a3W _ _ _ (by simp) ?_
 simp only[a2J];refine sxWir ?_
 repeat' ((first|exact tt|refine na fun b=>?_|refine nb fun b hb=>?_|refine iq ?_|(refine jq ?_ ?_<;>intro h h')|refine Two_intro ?_ ?_|exact wZ|fail)<;>try refine sxWir ?_)
 all_goals simp only[a0a,Hn]at h
 all_goals exact ro_mk (by simp[LeL,lk,r_nil,a4I,h]) dom1
theorem b8W(b:Nat)(s:List UInt8)(n bad:Int):CT Tryz.prog 124 [.ptr b 0] (lk [(b,rd s n bad)]) (fun r o=>r=.int .i64 (if bad=0∧n<s.length then 3 else bad)∧o=lk [(b,rd s n bad)]):=by
 refine a4w _ _ _ (by simp) ?_
 simp only[a2Q];refine sxWir ?_
 repeat' ((first|exact tt|refine na fun b=>?_|refine nb fun b hb=>?_|refine iq ?_|(refine jq ?_ ?_<;>intro h h')|refine Two_intro ?_ ?_|exact wZ|fail)<;>try refine sxWir ?_)
 all_goals simp only[a0a,Hn]at *
 all_goals exact ro_mk (by simp[LeL,lk,a0Q,arR, *]) dom1
def a4o(s:List UInt8)(n bad:Int):Int × Int × Int:=
 if bad=0 then (nx s n) else (0,n,bad)
theorem b4t(b:Nat)(s:List UInt8)(n bad:Int)(hs:s.length≤4611686018427387904):
  CT Tryz.prog 183 [.ptr b 0] (lk [(b,rd s n bad)]) (fun r o=>r=.tup [.int .i64 (a4o s n bad).1,.int .i64 (a4o s n bad).2.1]∧o=lk [(b,rd s n (a4o s n bad).2.2)]):=by
 refine a3X _ _ _ (by simp) ?_
 simp only[a2K];refine sxWir ?_
 repeat' ((first|exact tt|(refine CallW_intro (b4s _ _ hs) ?_;simp (disch:=omega) only[*, ↓Ed,Eu, ↓reduceIte,reduceCtorEq,Nat.reduceAdd,Nat.reduceEqDiff,Nat.reduceLT,Nat.reduceLeDiff,Int.reduceToNat,Int.reduceEq,Int.reduceLT,Int.reduceLE,w64,List.length_map])|refine c1 (b2l _ _ _ _ _) ?_|refine na fun b=>?_|refine nb fun b hb=>?_|refine iq ?_|(refine jq ?_ ?_<;>intro h h')|refine Two_intro ?_ ?_|exact wZ|fail)<;>try refine sxWir ?_)
 all_goals simp only[a0a,Hn]at h
 all_goals exact ro_mk (by simp[LeL,lk,r_two,b2O,arR,AV.alias,a4o,a4I,h]) dom1
def a2B(s:List UInt8)(n bad least most below above:Int):Int × Int × Int:=
 let v:=a4o s n bad
 let b2:=if v.1<least then a4I v.2.2 below else v.2.2
 let b3:=if most<v.1 then a4I b2 above else b2
 if b3=0 then (v.1,v.2.1,0) else (0,n,b3)
theorem b0H(b:Nat)(s:List UInt8)(n bad least most below above:Int)(hs:s.length≤4611686018427387904):
  CT Tryz.prog 185 [.ptr b 0,.int .i64 least,.int .i64 most,.int .i64 below,.int .i64 above] (lk [(b,rd s n bad)])
   (fun r o=>r=.int .i64 (a2B s n bad least most below above).1∧o=lk [(b,rd s (a2B s n bad least most below above).2.1 (a2B s n bad least most below above).2.2)]):=by
 refine a3t _ _ _ (by simp) ?_
 simp only[a2e];refine sxWir ?_
 repeat' ((first|exact tt|refine c1 (b4t _ _ _ _ hs) ?_|refine c1 (b2l _ _ _ _ _) ?_|refine na fun b=>?_|refine nb fun b hb=>?_|refine iq ?_|(refine jq ?_ ?_<;>intro h h')|refine Two_intro ?_ ?_|exact wZ|fail)<;>try refine sxWir ?_)
 all_goals simp only[a0a,Hn]at *
 all_goals exact ro_mk (by simp[LeL,lk,a0Q,arR,rd,a2B, *]) dom1
theorem b6L(b:Nat)(s:List UInt8)(n bad least most:Int)(hs:s.length≤4611686018427387904):
  CT Tryz.prog 120 [.ptr b 0,.int .i64 least,.int .i64 most] (lk [(b,rd s n bad)])
   (fun r o=>r=.int .i64 (a2B s n bad least most 1 1).1∧o=lk [(b,rd s (a2B s n bad least most 1 1).2.1 (a2B s n bad least most 1 1).2.2)]):=by
 refine a4y _ _ _ (by simp) ?_
 simp only[a2S];refine sxWir ?_
 repeat' ((first|exact tt|refine c1 (b0H _ _ _ _ _ _ _ _ hs) ?_|refine na fun b=>?_|refine nb fun b hb=>?_|refine iq ?_|(refine jq ?_ ?_<;>intro h h')|refine Two_intro ?_ ?_|exact wZ|fail)<;>try refine sxWir ?_)
 all_goals exact ro_mk (by simp[LeL,lk,a0Q,arR,rd]) dom1
def a7C(s:List UInt8)(n bad most:Int):List UInt8 × Int × Int:=
 let v:=a4o s n bad
 let b2:=if most<v.1 then a4I v.2.2 4 else v.2.2
 let b3:=if (s.length:Int) - v.2.1<v.1 then a4I b2 2 else b2
 if b3=0 then ((s.take (v.2.1+v.1).toNat).drop v.2.1.toNat,v.2.1+v.1,0) else ([],n,b3)
theorem b3n(s:List UInt8)(n bad:Int)(hn:0≤n∧n≤s.length):0≤(a4o s n bad).1∧(a4o s n bad).1<72057594037927936∧0≤(a4o s n bad).2.1∧(a4o s n bad).2.1≤s.length:=by
 unfold a4o
 split
 ·exact a6C s n
 ·simp only;omega
theorem b4k(b:Int):(a4I b 2=0)=False:=by simp only[a4I,eq_iff_iff,iff_false];split<;>omega
theorem b5l(b:Nat)(s:List UInt8)(n bad most:Int)(hs:s.length≤281474976710656)(hn:0≤n∧n≤s.length):
  CT Tryz.prog 119 [.ptr b 0,.int .i64 most] (lk [(b,rd s n bad)])
   (fun r o=>r=.str (a7C s n bad most).1∧o=lk [(b,rd s (a7C s n bad most).2.1 (a7C s n bad most).2.2)]):=by
 have hv:=b3n s n bad hn
 have hr:a7C s n bad most=(let v:=a4o s n bad
  let b2:=if most<v.1 then a4I v.2.2 4 else v.2.2
  let b3:=if (s.length:Int) - v.2.1<v.1 then a4I b2 2 else b2
  if b3=0 then ((s.take (v.2.1+v.1).toNat).drop v.2.1.toNat,v.2.1+v.1,0) else ([],n,b3)):=rfl
 rw[hr]
 refine a3V _ _ _ (by simp) ?_
 simp only[a2I];refine sxWir ?_
 repeat' ((first|exact tt|refine c1 (b4t _ s _ _ (by omega)) ?_|refine c1 (b2l _ _ _ _ _) ?_|refine CallW_intro (b2e _ (by simp;omega)) ?_|(simp[a0a,b4k]at h;done)|refine na fun b=>?_|refine nb fun b hb=>?_|refine iq ?_|(refine jq ?_ ?_<;>intro h h')|refine Two_intro ?_ ?_|exact wZ|fail)<;>try refine sxWir ?_)
 all_goals exact ro_mk (by simp only[a0a,Hn]at *;simp[LeL,lk,a0Q,arR,rd,b4k, *]) dom1
theorem b5R(s:List UInt8)(n bad most:Int)(hl:0≤most)(hn:0≤n∧n≤s.length):a7C s n bad most=a0x s most (n,bad):=by
 have hb:=b2d s n
 simp only[a7C,a4o,a4I,a0x]
 by_cases h1:bad=0
 ·by_cases h2:(nx s n).2.2=0
  ·by_cases h3:most<(nx s n).1<;>by_cases h4:(s.length:Int) - (nx s n).2.1<(nx s n).1<;>simp[h1,h2,h3,h4]
  ·have h5:=hb h2
   simp[h1,h2,h5,show ¬ (most<0) by omega]
 ·simp[h1,show ¬ (most<0) by omega,show ¬ ((s.length:Int) - n<0) by omega]
theorem b7a(b:Nat)(s:List UInt8)(n bad most:Int)(hs:s.length≤281474976710656)(hl:0≤most)(hn:0≤n∧n≤s.length):
  CT Tryz.prog 119 [.ptr b 0,.int .i64 most] (lk [(b,rd s n bad)])
   (fun r o=>r=.str (a0x s most (n,bad)).1∧o=lk [(b,rd s (a0x s most (n,bad)).2.1 (a0x s most (n,bad)).2.2)]):=by
 rw[← b5R s n bad most hl hn]
 exact b5l b s n bad most hs hn
end
section
set_option maxRecDepth 100000
theorem sxRrd{A B:Prop}(h:B)(e:A=B:=by (simp (disch:=omega) only[*, ↓Ed,Eu, ↓reduceIte,reduceCtorEq,Nat.reduceAdd,Nat.reduceEqDiff,Nat.reduceLT,Nat.reduceLeDiff,Int.reduceToNat,Int.reduceEq,Int.reduceLT,Int.reduceLE,w64];first|done|rfl)):A:=e▸h
theorem b2k(s:List UInt8)(hs:s.length≤281474976710656):CP Tryz.prog 112 [.str s] (.str (pn s.length++s)):=by
 have h8:=a0H s.length
 refine a4Q _ _ (by simp) ?_
 simp only[a2P];refine sxRrd ?_
 repeat' ((first|exact tt|refine CallO_pure (a1I _) ?_|refine na fun b=>?_|refine nb fun b hb=>?_|refine iq ?_|(refine jq ?_ ?_<;>intro h h')|refine Two_intro ?_ ?_|exact wZ|fail)<;>try refine sxRrd ?_)
end
section
open Go.RowKit
def a2g(s:List UInt8)(most:Int)(x:Int × Int):Int × Int × Int:=
 if x.2≠0 then (0,x.1,x.2) else if (nx s x.1).2.2≠0 then (0,x.1,(nx s x.1).2.2)
 else if most<(nx s x.1).1 then (0,x.1,4) else ((nx s x.1).1,(nx s x.1).2.1,0)
def inT(s:List UInt8)(x:Int × Int):Prop:=0≤x.1∧x.1≤s.length
theorem a6S(s:List UInt8)(most:Int)(x:Int × Int)(h:inT s x):inT s (a2g s most x).2:=by
 have:=a6C s x.1
 unfold a2g inT at *
 split
 ·exact h
 split
 ·exact h
 split
 ·exact h
 ·simp only;omega
theorem b2w(s:List UInt8)(most:Int)(x:Int × Int)(hm:0≤most):0≤(a2g s most x).1∧(a2g s most x).1≤most:=by
 have:=a6C s x.1
 unfold a2g
 split
 ·exact ⟨Int.le_refl _,hm⟩
 split
 ·exact ⟨Int.le_refl _,hm⟩
 split
 ·exact ⟨Int.le_refl _,hm⟩
 ·simp only;omega
theorem a0W(s:List UInt8)(l m:Int)(x:Int × Int)(h:inT s x):inT s (a1Q s l m x).2:=b5I s l m x h
theorem a1l(s:List UInt8)(m:Int)(x:Int × Int)(h:inT s x):inT s (a0x s m x).2:=b3J s m x h
theorem a1V(s:List UInt8)(m:Int)(x:Int × Int):(a0x s m x).1.length≤s.length:=by
 unfold a0x
 split
 ·simp
 split
 ·simp
 split
 ·simp
 split
 ·simp
 ·simp;omega
theorem b3H(s:List UInt8)(l m:Int)(x:Int × Int)(h:x.2≠0):a1Q s l m x=(0,x):=by unfold a1Q;rw[if_pos h]
theorem b2z(s:List UInt8)(m:Int)(x:Int × Int)(h:x.2≠0):a0x s m x=([],x):=by unfold a0x;rw[if_pos h]
theorem b1n(s:List UInt8)(l m:Int)(x:Int × Int):((a1Q s l m x).1=0∧(a1Q s l m x).2.2≠0)∨(l≤(a1Q s l m x).1∧(a1Q s l m x).1≤m∧(a1Q s l m x).2.2=0):=by
 unfold a1Q
 split
 ·rename_i h;exact .inl ⟨rfl,h⟩
 split
 ·rename_i h;exact .inl ⟨rfl,h⟩
 split
 ·exact .inl ⟨rfl,by simp⟩
 ·refine .inr ⟨?_, ?_,rfl⟩<;>simp only<;>omega
abbrev mxH:Int:=1099511627776
def a8B(s:List UInt8)(x:Int × Int):PktC × (Int × Int):=
 let a:=a0x s 12 x
 let b:=a1Q s 0 999 a.2
 let c:=a0x s 12 b.2
 let d:=a1Q s 0 999 c.2
 let q:=a1Q s 1 mxH d.2
 let t:=a0x s 200 q.2
 let u:=a1Q s 0 mxH t.2
 let v:=a1Q s 0 mxH u.2
 (⟨a.1,b.1,c.1,d.1,q.1,t.1,u.1,v.1⟩,v.2)
theorem b5J(s:List UInt8)(x:Int × Int)(h:inT s x):inT s (a8B s x).2:=
 a0W _ _ _ _ (a0W _ _ _ _ (a1l _ _ _ (a0W _ _ _ _ (a0W _ _ _ _ (a1l _ _ _ (a0W _ _ _ _ (a1l _ _ _ h)))))))
theorem b0L(s:List UInt8)(x:Int × Int)(h:x.2≠0):a8B s x=(default,x):=by
 unfold a8B
 simp only[b2z s _ x h,b3H s _ _ x h]
 rfl
theorem b3I(s:List UInt8)(x:Int × Int):(a8B s x).1.s.length≤s.length∧(a8B s x).1.d.length≤s.length∧(a8B s x).1.x.length≤s.length:=
 ⟨a1V _ _ _,a1V _ _ _,a1V _ _ _⟩
def a1z(s:List UInt8)(x:Int × Int):EvC × (Int × Int):=
 let k:=a1Q s 1 7 x
 if k.1=6 then (⟨k.1,default,[],(a0x s 12 k.2).1,(a1Q s 0 999 (a0x s 12 k.2).2).1,0⟩,(a1Q s 0 999 (a0x s 12 k.2).2).2)
 else if k.1=7 then (⟨k.1,default,[],[],0,(a1Q s 1 mxH k.2).1⟩,(a1Q s 1 mxH k.2).2)
 else if k.1=3 then (⟨k.1,(a8B s k.2).1,(a0x s 32 (a8B s k.2).2).1,[],0,0⟩,(a0x s 32 (a8B s k.2).2).2)
 else (⟨k.1,(a8B s k.2).1,[],[],0,0⟩,(a8B s k.2).2)
theorem a7B(s:List UInt8)(x:Int × Int):(a1z s x).1.p.s.length≤s.length∧(a1z s x).1.p.d.length≤s.length∧(a1z s x).1.p.x.length≤s.length∧(a1z s x).1.e.length≤s.length∧(a1z s x).1.a.length≤s.length:=by
 have hp:=b3I s (a1Q s 1 7 x).2
 unfold a1z
 simp only
 split
 ·exact ⟨Nat.zero_le _,Nat.zero_le _,Nat.zero_le _,a1V _ _ _,Nat.zero_le _⟩
 split
 ·exact ⟨Nat.zero_le _,Nat.zero_le _,Nat.zero_le _,Nat.zero_le _,Nat.zero_le _⟩
 split
 ·exact ⟨hp.1,hp.2.1,hp.2.2,Nat.zero_le _,a1V _ _ _⟩
 ·exact ⟨hp.1,hp.2.1,hp.2.2,Nat.zero_le _,Nat.zero_le _⟩
noncomputable def a6V (s:List UInt8):EvC × Int:=
 if rend s (a1z s (0,0)).2≠0 then (default,rend s (a1z s (0,0)).2) else if a1k (a1z s (0,0)).1=false then (default,1) else ((a1z s (0,0)).1,0)
theorem b2X(s:List UInt8)(h:(nx s 0).2.2≠0):a6V s=(default,(nx s 0).2.2):=by
 have hk:a1Q s 1 7 (0,0)=(0,0,(nx s 0).2.2):=by
  unfold a1Q;simp[h]
 have hr:(a1z s (0,0)).2=(0,(nx s 0).2.2):=by
  unfold a1z
  rw[hk]
  simp[b0L s (0,(nx s 0).2.2) h]
 unfold a6V
 rw[hr]
 have he:rend s (0,(nx s 0).2.2)=(nx s 0).2.2:=by unfold rend;simp[h]
 rw[he,if_pos h]
theorem b2Y(s:List UInt8):(a6V s).1.p.s.length≤s.length∧(a6V s).1.p.d.length≤s.length∧(a6V s).1.p.x.length≤s.length∧(a6V s).1.e.length≤s.length∧(a6V s).1.a.length≤s.length:=by
 unfold a6V
 split
 ·exact ⟨Nat.zero_le _,Nat.zero_le _,Nat.zero_le _,Nat.zero_le _,Nat.zero_le _⟩
 split
 ·exact ⟨Nat.zero_le _,Nat.zero_le _,Nat.zero_le _,Nat.zero_le _,Nat.zero_le _⟩
 ·exact a7B s (0,0)
end
section
set_option maxRecDepth 100000
theorem a0i(s:List UInt8):(s=([]:List UInt8))=(s.length=0):=by simp[List.length_eq_zero_iff]
theorem sxPna{A B:Prop}(h:B)(e:A=B:=by (simp (disch:=omega) only[*, ↓Ed,Eu, ↓reduceIte,reduceCtorEq,Nat.reduceAdd,Nat.reduceEqDiff,Nat.reduceLT,Nat.reduceLeDiff,Int.reduceToNat,Int.reduceEq,Int.reduceLT,Int.reduceLE,w64,a0i];first|done|rfl)):A:=e▸h
set_option maxHeartbeats 4000000 in
theorem b2i(s:List UInt8)(hs:s.length≤4611686018427387904):CP Tryz.prog 59 [.str s] (.bool (a2X s)):=by
 refine a9h _ _ (by simp) ?_
 simp only[a6c];refine sxPna ?_
 repeat' ((first|exact tt|refine na fun b=>?_|refine nb fun b hb=>?_|refine iq ?_|(refine jq ?_ ?_<;>intro h h')|refine Two_intro ?_ ?_|exact wZ|fail)<;>try refine sxPna ?_)
 refine wpx_loop (fun k:Nat=>⟨lk [(0,.str s),(7,.int .i64 s.length),(8,.int .i64 k)],lk []⟩) (fun k=>k≤s.length∧a0a (∀ j,j<k→b0C s j)) (fun k=>s.length - k) 0 ⟨by omega,fun j h=>by omega⟩ (Le_lit (by simp[LeL,lk])) ?_
 intro k ⟨h1,h2⟩
 refine sxPna ?_
 repeat' ((first|exact tt|refine na fun b=>?_|refine nb fun b hb=>?_|refine iq ?_|(refine jq ?_ ?_<;>intro h h')|refine Two_intro ?_ ?_|exact wZ|fail)<;>try refine sxPna ?_)
 all_goals simp only[a0a,Hn,a0i]at *
 all_goals first
  | (refine Round_lit (k+1) ⟨Le_lit (by simp[LeL,lk]),⟨by omega,name_step h2 (by unfold b0C;omega)⟩,by omega⟩;done)
  | (refine name_bad (k:=k) (by omega) (by unfold b0C;omega);done)
  | (exact (nameP_f fun g=>g.1 (List.eq_nil_of_length_eq_zero (by omega))).symm)
  | (rw[name_dec (by omega) h2,decide_eq_decide];omega)
  | skip
theorem b2n(p:List UInt8)(c:Int)(hs:p.length≤4611686018427387904):CP Tryz.prog 110 [.agg [.str p,.int .i64 c]] (.bool (a8g p c)):=by
 refine a9S _ _ (by simp) ?_
 simp only[a7s];refine sxPna ?_
 repeat' ((first|exact tt|refine CallO_pure (b2i p hs) ?_|refine na fun b=>?_|refine nb fun b hb=>?_|refine iq ?_|(refine jq ?_ ?_<;>intro h h')|refine Two_intro ?_ ?_|exact wZ|fail)<;>try refine sxPna ?_)
 all_goals (try simp only[a0a,Hn]at *)
 all_goals simp[a8g, *]
theorem b2r(s:List UInt8)(hs:s.length≤4611686018427387904):CP Tryz.prog 25 [.str s] (.bool (a2X s)):=by
 refine a6J _ _ (by simp) ?_
 simp only[a4d];refine sxPna ?_
 repeat' ((first|exact tt|refine na fun b=>?_|refine nb fun b hb=>?_|refine iq ?_|(refine jq ?_ ?_<;>intro h h')|refine Two_intro ?_ ?_|exact wZ|fail)<;>try refine sxPna ?_)
 case' refine_2.refine_2.refine_2.refine_2=>
  refine wpx_loop (fun k:Nat=>⟨lk [(0,.str s),(3,.int .i64 k)],lk []⟩) (fun k=>k≤s.length∧a0a (∀ j,j<k→b0C s j)) (fun k=>s.length - k) 0 ⟨by omega,fun j h=>by omega⟩ (Le_lit (by simp[LeL,lk])) ?_
  intro k ⟨h1,h2⟩
  have h97:k=0→97≤(s.getD k 0).toNat∧(s.getD k 0).toNat≤122:=fun e=>by subst e;simp only[a0a,Hn]at *;exact ⟨by omega,by omega⟩
  refine sxPna ?_
  repeat' ((first|exact tt|refine na fun b=>?_|refine nb fun b hb=>?_|refine iq ?_|(refine jq ?_ ?_<;>intro h h')|refine Two_intro ?_ ?_|exact wZ|fail)<;>try refine sxPna ?_)
 all_goals simp only[a0a,Hn]at *
 all_goals first
  | (refine Round_lit (k+1) ⟨Le_lit (by simp[LeL,lk]),⟨by omega,name_step h2 (by unfold b0C;omega)⟩,by omega⟩;done)
  | (refine name_bad (k:=k) (by omega) (by unfold b0C;omega);done)
  | (rw[name_dec (k:=k) (by omega) h2];exact (decide_eq_true ⟨by omega,by omega⟩).symm)
  | (exact (nameP_f fun g=>by have:=g.2.1;have:=g.2.2 0 (by omega);unfold b0C at this;omega).symm)
  | (refine (nameP_f fun g=>?_).symm;have h0:=List.length_pos_iff.2 g.1;omega)
  | skip
theorem a8w(p:List UInt8)(c:Int)(hs:p.length≤4611686018427387904):CP Tryz.prog 31 [.agg [.str p,.int .i64 c]] (.bool (a8g p c)):=by
 refine a5h _ _ (by simp) ?_
 simp only[a3j];refine sxPna ?_
 repeat' ((first|exact tt|refine CallO_pure (b2r p hs) ?_|refine na fun b=>?_|refine nb fun b hb=>?_|refine iq ?_|(refine jq ?_ ?_<;>intro h h')|refine Two_intro ?_ ?_|exact wZ|fail)<;>try refine sxPna ?_)
 all_goals (try simp only[a0a,Hn]at *)
 all_goals simp[a8g, *]
end
section
open Go.RowKit
set_option maxRecDepth 100000
theorem sxEva{A B:Prop}(h:B)(e:A=B:=by (simp (disch:=omega) only[*, ↓Ed,Eu, ↓reduceIte,reduceCtorEq,Nat.reduceAdd,Nat.reduceEqDiff,Nat.reduceLT,Nat.reduceLeDiff,Int.reduceToNat,Int.reduceEq,Int.reduceLT,Int.reduceLE,w64,List.length_append,List.length_map,Nat.mul_one,beq_self_eq_true,PktC.cs,EvC.cs,a8z,a8T,a0i];first|done|rfl)):A:=e▸h
theorem a6Q(v a b:Int):CP Tryz.prog 240 [.int .i64 v,.int .i64 a,.int .i64 b] (.bool (decide (a≤v∧v≤b))):=by
 refine a5j _ _ (by simp) ?_
 by_cases h:a≤v∧v≤b
 ·have f1:a0a (decide (a≤v)=true):=fo
  have f2:a0a (decide (v≤b)=true):=fo
  rw[decide_eq_true h]
  clear h
  simp only[a2a];refine sxEva ?_
  repeat' ((first|exact tt|refine na fun b=>?_|refine nb fun b hb=>?_|refine iq ?_|(refine jq ?_ ?_<;>intro h h')|refine Two_intro ?_ ?_|exact wZ|fail)<;>try refine sxEva ?_)
  all_goals (simp only[a0a,Hn]at *;omega)
 ·have F:a0a (¬ (a≤v∧v≤b)):=h
  rw[decide_eq_false h]
  clear h
  simp only[a2a];refine sxEva ?_
  repeat' ((first|exact tt|refine na fun b=>?_|refine nb fun b hb=>?_|refine iq ?_|(refine jq ?_ ?_<;>intro h h')|refine Two_intro ?_ ?_|exact wZ|fail)<;>try refine sxEva ?_)
  all_goals (simp only[a0a,Hn]at *;omega)
theorem a2z(a b:PktC):CP Tryz.prog 137 [.agg a.cs,.agg b.cs] (.bool (decide (a=b))):=by
 refine a7i _ _ (by simp) ?_
 simp only[a4G];refine sxEva ?_
 repeat' ((first|exact tt|refine na fun b=>?_|refine nb fun b hb=>?_|refine iq ?_|(refine jq ?_ ?_<;>intro h h')|refine Two_intro ?_ ?_|exact wZ|fail)<;>try refine sxEva ?_)
theorem b6T(p:PktC)(h1:p.s.length≤1000000)(h2:p.d.length≤1000000)(h3:p.x.length≤1000000):CP Tryz.prog 192 [.agg p.cs] (.bool (a5G p)):=by
 have a1:=b2n p.s p.sc (by omega)
 have a2:=b2n p.d p.dc (by omega)
 have a3:=a6Q p.th 0 1099511627776
 have a4:=a6Q p.ta 0 1099511627776
 have a5:=a6Q p.q 1 1099511627776
 unfold a5G
 generalize a8g p.s p.sc=A at *
 generalize a8g p.d p.dc=B at *
 generalize decide (0≤p.th∧p.th≤1099511627776)=C at *
 generalize decide (0≤p.ta∧p.ta≤1099511627776)=D at *
 generalize decide (1≤p.q∧p.q≤1099511627776)=E at *
 refine a8q _ _ (by simp) ?_
 cases A<;>cases B<;>cases C<;>cases D<;>cases E
 all_goals (simp only[a5r];refine sxEva ?_;try exact tt)
 all_goals repeat' ((first|exact tt|refine CallO_pure (a1) ?_|refine CallO_pure (a2) ?_|refine CallO_pure (a3) ?_|refine CallO_pure (a4) ?_|refine CallO_pure (a5) ?_|refine na fun b=>?_|refine nb fun b hb=>?_|refine iq ?_|(refine jq ?_ ?_<;>intro h h')|refine Two_intro ?_ ?_|exact wZ|fail)<;>try refine sxEva ?_)
 all_goals (try simp)
 all_goals (try omega)
theorem b5w(p:PktC)(h1:p.s.length≤1000000)(h2:p.d.length≤1000000)(h3:p.x.length≤1000000):CP Tryz.prog 225 [.agg p.cs] (.bool (a5G p)):=by
 have a1:=a8w p.s p.sc (by omega)
 have a2:=a8w p.d p.dc (by omega)
 refine a3Q _ _ (by simp) ?_
 by_cases H:a5G p=true
 ·rw[H]
  simp only[a5G,Bool.and_eq_true,decide_eq_true_eq]at H
  obtain ⟨⟨⟨⟨⟨g1,g2⟩,g3,g4⟩,g5,g6⟩,g7,g8⟩,g9⟩:=H
  rw[g1]at a1
  rw[g2]at a2
  have e1:a0a (decide (1≤p.q)=true):=fo
  have e2:a0a (decide (p.q≤1099511627776)=true):=fo
  have e3:a0a (decide ((p.x.length:Int)≤200)=true):=fo
  have e4:a0a (decide (0≤p.th)=true):=fo
  have e5:a0a (decide (p.th≤1099511627776)=true):=fo
  have e6:a0a (decide (0≤p.ta)=true):=fo
  have e7:a0a (decide (p.ta≤1099511627776)=true):=fo
  clear g1 g2 g3 g4 g5 g6 g7 g8 g9
  simp only[a1B];refine sxEva ?_
  repeat' ((first|exact tt|refine CallO_pure (a1) ?_|refine CallO_pure (a2) ?_|refine na fun b=>?_|refine nb fun b hb=>?_|refine iq ?_|(refine jq ?_ ?_<;>intro h h')|refine Two_intro ?_ ?_|exact wZ|fail)<;>try refine sxEva ?_)
  all_goals (simp only[a0a,Hn]at *;omega)
 ·have H':a5G p=false:=by simpa using H
  rw[H']
  have F:a0a (a8g p.s p.sc=true→a8g p.d p.dc=true→¬ ((0≤p.th∧p.th≤1099511627776)∧(0≤p.ta∧p.ta≤1099511627776)∧(1≤p.q∧p.q≤1099511627776)∧p.x.length≤200)):=by
   intro b1 b2 ⟨b3,b4,b5,b6⟩
   exact H (by simp only[a5G,b1,b2,decide_eq_true b3,decide_eq_true b4,decide_eq_true b5,decide_eq_true b6];rfl)
  clear H H'
  cases hA:a8g p.s p.sc<;>cases hB:a8g p.d p.dc
  all_goals rw[hA]at a1
  all_goals rw[hB]at a2
  all_goals rw[hA,hB]at F
  all_goals clear hA hB
  all_goals (simp only[a1B];refine sxEva ?_;try exact tt)
  all_goals repeat' ((first|exact tt|refine CallO_pure (a1) ?_|refine CallO_pure (a2) ?_|refine na fun b=>?_|refine nb fun b hb=>?_|refine iq ?_|(refine jq ?_ ?_<;>intro h h')|refine Two_intro ?_ ?_|exact wZ|fail)<;>try refine sxEva ?_)
  all_goals (simp only[a0a,Hn]at *;first|omega|(have F':=F trivial trivial;omega))
theorem b6U(n:Int):CP Tryz.prog 189 [.int .i64 n] (.bool (decide (1≤n∧n≤7))):=by
 refine a8k _ _ (by simp) ?_
 by_cases h:1≤n∧n≤7
 ·have f1:a0a (decide (1≤n)=true):=fo
  have f2:a0a (decide (n≤7)=true):=fo
  rw[decide_eq_true h]
  clear h
  simp only[a3w];refine sxEva ?_
  repeat' ((first|exact tt|refine na fun b=>?_|refine nb fun b hb=>?_|refine iq ?_|(refine jq ?_ ?_<;>intro h h')|refine Two_intro ?_ ?_|exact wZ|fail)<;>try refine sxEva ?_)
  all_goals (simp only[a0a,Hn]at *;omega)
 ·have F:a0a (¬ (1≤n∧n≤7)):=h
  rw[decide_eq_false h]
  clear h
  simp only[a3w];refine sxEva ?_
  repeat' ((first|exact tt|refine na fun b=>?_|refine nb fun b hb=>?_|refine iq ?_|(refine jq ?_ ?_<;>intro h h')|refine Two_intro ?_ ?_|exact wZ|fail)<;>try refine sxEva ?_)
  all_goals (simp only[a0a,Hn]at *;omega)
theorem a8x(n:Int):CP Tryz.prog 191 [.int .i64 n] (.bool (decide (1≤n∧n≤5))):=by
 refine a6G _ _ (by simp) ?_
 by_cases h:1≤n∧n≤5
 ·have f1:a0a (decide (1≤n)=true):=fo
  have f2:a0a (decide (n≤5)=true):=fo
  rw[decide_eq_true h]
  clear h
  simp only[a2L];refine sxEva ?_
  repeat' ((first|exact tt|refine na fun b=>?_|refine nb fun b hb=>?_|refine iq ?_|(refine jq ?_ ?_<;>intro h h')|refine Two_intro ?_ ?_|exact wZ|fail)<;>try refine sxEva ?_)
  all_goals (simp only[a0a,Hn]at *;omega)
 ·have F:a0a (¬ (1≤n∧n≤5)):=h
  rw[decide_eq_false h]
  clear h
  simp only[a2L];refine sxEva ?_
  repeat' ((first|exact tt|refine na fun b=>?_|refine nb fun b hb=>?_|refine iq ?_|(refine jq ?_ ?_<;>intro h h')|refine Two_intro ?_ ?_|exact wZ|fail)<;>try refine sxEva ?_)
  all_goals (simp only[a0a,Hn]at *;omega)
theorem b4m(k:Int):k=1∨k=2∨k=3∨k=4∨k=5∨k=6∨k=7∨(a0a (decide (1≤k∧k≤7)=false)∧a0a (decide (1≤k∧k≤5)=false)∧a0a (decide (k=1)=false)∧a0a (decide (k=2)=false)∧a0a (decide (k=3)=false)∧a0a (decide (k=4)=false)∧a0a (decide (k=5)=false)∧a0a (decide (k=6)=false)∧a0a (decide (k=7)=false)∧∀ p a e ec h,a1K ⟨k,p,a,e,ec,h⟩=⟨k,default,[],[],0,0⟩):=by
 by_cases h:1≤k∧k≤7
 ·omega
 ·refine .inr (.inr (.inr (.inr (.inr (.inr (.inr ⟨decide_eq_false h,decide_eq_false (by omega),decide_eq_false (by omega),decide_eq_false (by omega),decide_eq_false (by omega),decide_eq_false (by omega),decide_eq_false (by omega),decide_eq_false (by omega),decide_eq_false (by omega),fun p a e ec h2=>?_⟩))))))
  simp only[a1K]
  rw[if_neg (by omega),if_neg (by omega),if_neg (by omega),if_neg (by omega)]
theorem pk0:(default:PktC)=⟨[],0,[],0,0,[],0,0⟩:=rfl
theorem b5k(e:EvC):CP Tryz.prog 190 [.agg e.cs] (.agg (a1K e).cs):=by
 have hk:=a8x e.k
 refine a7f _ _ (by simp) ?_
 obtain ⟨k,p,a,en,ec,h⟩:=e
 simp only at hk
 rcases b4m k with rfl|rfl|rfl|rfl|rfl|rfl|rfl | ⟨_,f0,f1,f2,f3,f4,f5,f6,f7,hP⟩
 rotate_right
 ·rw[hP]
  rw[show decide (1≤k∧k≤5)=false from f0]at hk
  clear hP f0
  simp only[a3d];refine sxEva ?_
  repeat' ((first|exact tt|refine CallO_pure (hk) ?_|refine na fun b=>?_|refine nb fun b hb=>?_|refine iq ?_|(refine jq ?_ ?_<;>intro h h')|refine Two_intro ?_ ?_|exact wZ|fail)<;>try refine sxEva ?_)
  all_goals simp[pk0]
 all_goals simp only[a3d,a1K, ↓Ed,Eu, ↓reduceIte,reduceCtorEq,Nat.reduceAdd,Nat.reduceEqDiff,Nat.reduceLT,Nat.reduceLeDiff,Int.reduceToNat,Int.reduceEq,Int.reduceLT,Int.reduceLE,w64,List.length_append,List.length_map,Nat.mul_one,beq_self_eq_true,PktC.cs,EvC.cs,a8z,a8T,a0i]
 all_goals repeat' ((first|exact tt|refine CallO_pure (hk) ?_|refine na fun b=>?_|refine nb fun b hb=>?_|refine iq ?_|(refine jq ?_ ?_<;>intro h h')|refine Two_intro ?_ ?_|exact wZ|fail)<;>try refine sxEva ?_)
 all_goals simp[pk0]
theorem b3y(e:EvC):CP Tryz.prog 224 [.agg e.cs] (.agg (a1K e).cs):=by
 refine a3D _ _ (by simp) ?_
 obtain ⟨k,p,a,en,ec,h⟩:=e
 rcases b4m k with rfl|rfl|rfl|rfl|rfl|rfl|rfl | ⟨_,f0,f1,f2,f3,f4,f5,f6,f7,hP⟩
 rotate_right
 ·rw[hP]
  clear hP f0
  simp only[a1u];refine sxEva ?_
  repeat' ((first|exact tt|refine na fun b=>?_|refine nb fun b hb=>?_|refine iq ?_|(refine jq ?_ ?_<;>intro h h')|refine Two_intro ?_ ?_|exact wZ|fail)<;>try refine sxEva ?_)
  all_goals simp[pk0]
 all_goals simp only[a1u,a1K, ↓Ed,Eu, ↓reduceIte,reduceCtorEq,Nat.reduceAdd,Nat.reduceEqDiff,Nat.reduceLT,Nat.reduceLeDiff,Int.reduceToNat,Int.reduceEq,Int.reduceLT,Int.reduceLE,w64,List.length_append,List.length_map,Nat.mul_one,beq_self_eq_true,PktC.cs,EvC.cs,a8z,a8T,a0i]
 all_goals repeat' ((first|exact tt|refine na fun b=>?_|refine nb fun b hb=>?_|refine iq ?_|(refine jq ?_ ?_<;>intro h h')|refine Two_intro ?_ ?_|exact wZ|fail)<;>try refine sxEva ?_)
 all_goals simp[pk0]
end
section
open Go.RowKit
set_option maxRecDepth 100000
theorem b0v(k:Int):(a0a (decide (k=1)=true)∧a0a (decide (k=2)=false)∧a0a (decide (k=3)=false)∧a0a (decide (k=4)=false)∧a0a (decide (k=5)=false)∧a0a (decide (k=6)=false)∧a0a (decide (k=7)=false)∧a0a (decide (1≤k∧k≤7)=true)∧a0a (decide (1≤k∧k≤5)=true)∧a0a (decide (k<1)=false)∧a0a (decide (7<k)=false)∧a0a (k=1))∨(a0a (decide (k=1)=false)∧a0a (decide (k=2)=true)∧a0a (decide (k=3)=false)∧a0a (decide (k=4)=false)∧a0a (decide (k=5)=false)∧a0a (decide (k=6)=false)∧a0a (decide (k=7)=false)∧a0a (decide (1≤k∧k≤7)=true)∧a0a (decide (1≤k∧k≤5)=true)∧a0a (decide (k<1)=false)∧a0a (decide (7<k)=false)∧a0a (k=2))∨(a0a (decide (k=1)=false)∧a0a (decide (k=2)=false)∧a0a (decide (k=3)=false)∧a0a (decide (k=4)=true)∧a0a (decide (k=5)=false)∧a0a (decide (k=6)=false)∧a0a (decide (k=7)=false)∧a0a (decide (1≤k∧k≤7)=true)∧a0a (decide (1≤k∧k≤5)=true)∧a0a (decide (k<1)=false)∧a0a (decide (7<k)=false)∧a0a (k=4))∨(a0a (decide (k=1)=false)∧a0a (decide (k=2)=false)∧a0a (decide (k=3)=false)∧a0a (decide (k=4)=false)∧a0a (decide (k=5)=true)∧a0a (decide (k=6)=false)∧a0a (decide (k=7)=false)∧a0a (decide (1≤k∧k≤7)=true)∧a0a (decide (1≤k∧k≤5)=true)∧a0a (decide (k<1)=false)∧a0a (decide (7<k)=false)∧a0a (k=5))∨(a0a (decide (k=1)=false)∧a0a (decide (k=2)=false)∧a0a (decide (k=3)=true)∧a0a (decide (k=4)=false)∧a0a (decide (k=5)=false)∧a0a (decide (k=6)=false)∧a0a (decide (k=7)=false)∧a0a (decide (1≤k∧k≤7)=true)∧a0a (decide (1≤k∧k≤5)=true)∧a0a (decide (k<1)=false)∧a0a (decide (7<k)=false)∧a0a (k=3))∨(a0a (decide (k=1)=false)∧a0a (decide (k=2)=false)∧a0a (decide (k=3)=false)∧a0a (decide (k=4)=false)∧a0a (decide (k=5)=false)∧a0a (decide (k=6)=true)∧a0a (decide (k=7)=false)∧a0a (decide (1≤k∧k≤7)=true)∧a0a (decide (1≤k∧k≤5)=false)∧a0a (decide (k<1)=false)∧a0a (decide (7<k)=false)∧a0a (k=6))∨(a0a (decide (k=1)=false)∧a0a (decide (k=2)=false)∧a0a (decide (k=3)=false)∧a0a (decide (k=4)=false)∧a0a (decide (k=5)=false)∧a0a (decide (k=6)=false)∧a0a (decide (k=7)=true)∧a0a (decide (1≤k∧k≤7)=true)∧a0a (decide (1≤k∧k≤5)=false)∧a0a (decide (k<1)=false)∧a0a (decide (7<k)=false)∧a0a (k=7))∨(a0a (decide (k=1)=false)∧a0a (decide (k=2)=false)∧a0a (decide (k=3)=false)∧a0a (decide (k=4)=false)∧a0a (decide (k=5)=false)∧a0a (decide (k=6)=false)∧a0a (decide (k=7)=false)∧a0a (decide (1≤k∧k≤7)=false)∧a0a (decide (1≤k∧k≤5)=false)∧a0a (decide (k<1)=true)∧a0a (decide (7<k)=false)∧a0a (k<1))∨(a0a (decide (k=1)=false)∧a0a (decide (k=2)=false)∧a0a (decide (k=3)=false)∧a0a (decide (k=4)=false)∧a0a (decide (k=5)=false)∧a0a (decide (k=6)=false)∧a0a (decide (k=7)=false)∧a0a (decide (1≤k∧k≤7)=false)∧a0a (decide (1≤k∧k≤5)=false)∧a0a (decide (k<1)=false)∧a0a (decide (7<k)=true)∧a0a (7<k)):=by
 have h:k=1∨k=2∨k=4∨k=5∨k=3∨k=6∨k=7∨k<1∨7<k:=by omega
 rcases h with rfl|rfl|rfl|rfl|rfl|rfl|rfl|h|h
 ·exact Or.inl ⟨by simp only[a0a];decide,by simp only[a0a];decide,by simp only[a0a];decide,by simp only[a0a];decide,by simp only[a0a];decide,by simp only[a0a];decide,by simp only[a0a];decide,by simp only[a0a];decide,by simp only[a0a];decide,by simp only[a0a];decide,by simp only[a0a];decide,rfl⟩
 ·exact Or.inr (Or.inl ⟨by simp only[a0a];decide,by simp only[a0a];decide,by simp only[a0a];decide,by simp only[a0a];decide,by simp only[a0a];decide,by simp only[a0a];decide,by simp only[a0a];decide,by simp only[a0a];decide,by simp only[a0a];decide,by simp only[a0a];decide,by simp only[a0a];decide,rfl⟩)
 ·exact Or.inr (Or.inr (Or.inl ⟨by simp only[a0a];decide,by simp only[a0a];decide,by simp only[a0a];decide,by simp only[a0a];decide,by simp only[a0a];decide,by simp only[a0a];decide,by simp only[a0a];decide,by simp only[a0a];decide,by simp only[a0a];decide,by simp only[a0a];decide,by simp only[a0a];decide,rfl⟩))
 ·exact Or.inr (Or.inr (Or.inr (Or.inl ⟨by simp only[a0a];decide,by simp only[a0a];decide,by simp only[a0a];decide,by simp only[a0a];decide,by simp only[a0a];decide,by simp only[a0a];decide,by simp only[a0a];decide,by simp only[a0a];decide,by simp only[a0a];decide,by simp only[a0a];decide,by simp only[a0a];decide,rfl⟩)))
 ·exact Or.inr (Or.inr (Or.inr (Or.inr (Or.inl ⟨by simp only[a0a];decide,by simp only[a0a];decide,by simp only[a0a];decide,by simp only[a0a];decide,by simp only[a0a];decide,by simp only[a0a];decide,by simp only[a0a];decide,by simp only[a0a];decide,by simp only[a0a];decide,by simp only[a0a];decide,by simp only[a0a];decide,rfl⟩))))
 ·exact Or.inr (Or.inr (Or.inr (Or.inr (Or.inr (Or.inl ⟨by simp only[a0a];decide,by simp only[a0a];decide,by simp only[a0a];decide,by simp only[a0a];decide,by simp only[a0a];decide,by simp only[a0a];decide,by simp only[a0a];decide,by simp only[a0a];decide,by simp only[a0a];decide,by simp only[a0a];decide,by simp only[a0a];decide,rfl⟩)))))
 ·exact Or.inr (Or.inr (Or.inr (Or.inr (Or.inr (Or.inr (Or.inl ⟨by simp only[a0a];decide,by simp only[a0a];decide,by simp only[a0a];decide,by simp only[a0a];decide,by simp only[a0a];decide,by simp only[a0a];decide,by simp only[a0a];decide,by simp only[a0a];decide,by simp only[a0a];decide,by simp only[a0a];decide,by simp only[a0a];decide,rfl⟩))))))
 ·exact Or.inr (Or.inr (Or.inr (Or.inr (Or.inr (Or.inr (Or.inr (Or.inl ⟨by simp only[a0a,decide_eq_true_eq,decide_eq_false_iff_not];omega,by simp only[a0a,decide_eq_true_eq,decide_eq_false_iff_not];omega,by simp only[a0a,decide_eq_true_eq,decide_eq_false_iff_not];omega,by simp only[a0a,decide_eq_true_eq,decide_eq_false_iff_not];omega,by simp only[a0a,decide_eq_true_eq,decide_eq_false_iff_not];omega,by simp only[a0a,decide_eq_true_eq,decide_eq_false_iff_not];omega,by simp only[a0a,decide_eq_true_eq,decide_eq_false_iff_not];omega,by simp only[a0a,decide_eq_true_eq,decide_eq_false_iff_not];omega,by simp only[a0a,decide_eq_true_eq,decide_eq_false_iff_not];omega,by simp only[a0a,decide_eq_true_eq,decide_eq_false_iff_not];omega,by simp only[a0a,decide_eq_true_eq,decide_eq_false_iff_not];omega,h⟩)))))))
 ·exact Or.inr (Or.inr (Or.inr (Or.inr (Or.inr (Or.inr (Or.inr (Or.inr (⟨by simp only[a0a,decide_eq_true_eq,decide_eq_false_iff_not];omega,by simp only[a0a,decide_eq_true_eq,decide_eq_false_iff_not];omega,by simp only[a0a,decide_eq_true_eq,decide_eq_false_iff_not];omega,by simp only[a0a,decide_eq_true_eq,decide_eq_false_iff_not];omega,by simp only[a0a,decide_eq_true_eq,decide_eq_false_iff_not];omega,by simp only[a0a,decide_eq_true_eq,decide_eq_false_iff_not];omega,by simp only[a0a,decide_eq_true_eq,decide_eq_false_iff_not];omega,by simp only[a0a,decide_eq_true_eq,decide_eq_false_iff_not];omega,by simp only[a0a,decide_eq_true_eq,decide_eq_false_iff_not];omega,by simp only[a0a,decide_eq_true_eq,decide_eq_false_iff_not];omega,by simp only[a0a,decide_eq_true_eq,decide_eq_false_iff_not];omega,h⟩))))))))
theorem may_pk{e:EvC}(h:1≤e.k∧e.k≤7)(h3:¬ e.k=3)(h6:¬ e.k=6)(h7:¬ e.k=7):a1k e=(decide (e=a1K e)&&a5G e.p):=by
 unfold a1k b0g;rw[decide_eq_true h,if_neg h3,if_neg h6,if_neg h7,Bool.true_and]
theorem may_3{e:EvC}(h:e.k=3):a1k e=(decide (e=a1K e)&&(a5G e.p&&decide (1≤e.a.length∧e.a.length≤32))):=by
 unfold a1k b0g;rw[decide_eq_true (by omega:1≤e.k∧e.k≤7),if_pos h,Bool.true_and]
theorem may_6{e:EvC}(h:e.k=6):a1k e=(decide (e=a1K e)&&a8g e.e e.ec):=by
 unfold a1k b0g;rw[decide_eq_true (by omega:1≤e.k∧e.k≤7),if_neg (by omega),if_pos h,Bool.true_and]
theorem may_7{e:EvC}(h:e.k=7):a1k e=(decide (e=a1K e)&&decide (1≤e.h∧e.h≤1099511627776)):=by
 unfold a1k b0g;rw[decide_eq_true (by omega:1≤e.k∧e.k≤7),if_neg (by omega),if_neg (by omega),if_pos h,Bool.true_and]
theorem may_out{e:EvC}(h:¬ (1≤e.k∧e.k≤7)):a1k e=false:=by
 unfold a1k;rw[decide_eq_false h];simp
theorem sxEvb{A B:Prop}(h:B)(e:A=B:=by (simp (disch:=omega) only[*, ↓Ed,Eu, ↓reduceIte,reduceCtorEq,Nat.reduceAdd,Nat.reduceEqDiff,Nat.reduceLT,Nat.reduceLeDiff,Int.reduceToNat,Int.reduceEq,Int.reduceLT,Int.reduceLE,w64,List.length_append,List.length_map,Nat.mul_one,beq_self_eq_true,PktC.cs,EvC.cs,a8z,a8T,a0i];first|done|rfl)):A:=e▸h
set_option maxHeartbeats 8000000 in
theorem b0G(e:EvC)(h1:e.p.s.length≤1000000)(h2:e.p.d.length≤1000000)(h3:e.p.x.length≤1000000)(h4:e.e.length≤1000000)(h5:e.a.length≤1000000):CP Tryz.prog 133 [.agg e.cs] (.bool (a1k e)):=by
 have hK:=b6U e.k
 have hPl:=b5k e
 have hPk:=a8x e.k
 have hM:=b6T e.p h1 h2 h3
 have hE:=b2n e.e e.ec (by omega)
 have hD:=hE
 refine a9d _ _ (by simp) ?_
 have hB:decide (e=a1K e)=true∨decide (e=a1K e)=false:=by cases decide (e=a1K e)<;>simp
 rcases b0v e.k with ⟨k1,k2,k3,k4,k5,k6,k7,k8,k9,k10,k11,k12⟩ | ⟨k1,k2,k3,k4,k5,k6,k7,k8,k9,k10,k11,k12⟩ | ⟨k1,k2,k3,k4,k5,k6,k7,k8,k9,k10,k11,k12⟩ | ⟨k1,k2,k3,k4,k5,k6,k7,k8,k9,k10,k11,k12⟩ | ⟨k1,k2,k3,k4,k5,k6,k7,k8,k9,k10,k11,k12⟩ | ⟨k1,k2,k3,k4,k5,k6,k7,k8,k9,k10,k11,k12⟩ | ⟨k1,k2,k3,k4,k5,k6,k7,k8,k9,k10,k11,k12⟩ | ⟨k1,k2,k3,k4,k5,k6,k7,k8,k9,k10,k11,k12⟩ | ⟨k1,k2,k3,k4,k5,k6,k7,k8,k9,k10,k11,k12⟩
 ·rw[may_pk (by have:e.k=1:=k12;omega) (by have:e.k=1:=k12;omega) (by have:e.k=1:=k12;omega) (by have:e.k=1:=k12;omega)]
  clear k12
  rcases hB with hB|hB
  all_goals rw[hB]
  all_goals generalize a5G e.p=M at *
  all_goals cases M
  all_goals (simp only[a0N];refine sxEvb ?_;try exact tt)
  all_goals repeat' ((first|exact tt|refine CallW_intro (hK) ?_|refine CallW_intro (hPl) ?_|refine CallW_intro (hPk) ?_|refine CallW_intro (hM) ?_|refine CallO_pure (hE) ?_|refine na fun b=>?_|refine nb fun b hb=>?_|refine iq ?_|(refine jq ?_ ?_<;>intro h h')|refine Two_intro ?_ ?_|exact wZ|fail)<;>try refine sxEvb ?_)
  all_goals (try rfl)
  all_goals (try (rw[Bool.true_and,Bool.true_and,decide_eq_decide];simp only[a0a,Hn]at *;omega))
 ·rw[may_pk (by have:e.k=2:=k12;omega) (by have:e.k=2:=k12;omega) (by have:e.k=2:=k12;omega) (by have:e.k=2:=k12;omega)]
  clear k12
  rcases hB with hB|hB
  all_goals rw[hB]
  all_goals generalize a5G e.p=M at *
  all_goals cases M
  all_goals (simp only[a0N];refine sxEvb ?_;try exact tt)
  all_goals repeat' ((first|exact tt|refine CallW_intro (hK) ?_|refine CallW_intro (hPl) ?_|refine CallW_intro (hPk) ?_|refine CallW_intro (hM) ?_|refine CallO_pure (hE) ?_|refine na fun b=>?_|refine nb fun b hb=>?_|refine iq ?_|(refine jq ?_ ?_<;>intro h h')|refine Two_intro ?_ ?_|exact wZ|fail)<;>try refine sxEvb ?_)
  all_goals (try rfl)
  all_goals (try (rw[Bool.true_and,Bool.true_and,decide_eq_decide];simp only[a0a,Hn]at *;omega))
 ·rw[may_pk (by have:e.k=4:=k12;omega) (by have:e.k=4:=k12;omega) (by have:e.k=4:=k12;omega) (by have:e.k=4:=k12;omega)]
  clear k12
  rcases hB with hB|hB
  all_goals rw[hB]
  all_goals generalize a5G e.p=M at *
  all_goals cases M
  all_goals (simp only[a0N];refine sxEvb ?_;try exact tt)
  all_goals repeat' ((first|exact tt|refine CallW_intro (hK) ?_|refine CallW_intro (hPl) ?_|refine CallW_intro (hPk) ?_|refine CallW_intro (hM) ?_|refine CallO_pure (hE) ?_|refine na fun b=>?_|refine nb fun b hb=>?_|refine iq ?_|(refine jq ?_ ?_<;>intro h h')|refine Two_intro ?_ ?_|exact wZ|fail)<;>try refine sxEvb ?_)
  all_goals (try rfl)
  all_goals (try (rw[Bool.true_and,Bool.true_and,decide_eq_decide];simp only[a0a,Hn]at *;omega))
 ·rw[may_pk (by have:e.k=5:=k12;omega) (by have:e.k=5:=k12;omega) (by have:e.k=5:=k12;omega) (by have:e.k=5:=k12;omega)]
  clear k12
  rcases hB with hB|hB
  all_goals rw[hB]
  all_goals generalize a5G e.p=M at *
  all_goals cases M
  all_goals (simp only[a0N];refine sxEvb ?_;try exact tt)
  all_goals repeat' ((first|exact tt|refine CallW_intro (hK) ?_|refine CallW_intro (hPl) ?_|refine CallW_intro (hPk) ?_|refine CallW_intro (hM) ?_|refine CallO_pure (hE) ?_|refine na fun b=>?_|refine nb fun b hb=>?_|refine iq ?_|(refine jq ?_ ?_<;>intro h h')|refine Two_intro ?_ ?_|exact wZ|fail)<;>try refine sxEvb ?_)
  all_goals (try rfl)
  all_goals (try (rw[Bool.true_and,Bool.true_and,decide_eq_decide];simp only[a0a,Hn]at *;omega))
 ·rw[may_3 (show e.k=3 from k12)]
  clear k12
  rcases hB with hB|hB
  all_goals rw[hB]
  all_goals generalize a5G e.p=M at *
  all_goals cases M
  all_goals (simp only[a0N];refine sxEvb ?_;try exact tt)
  all_goals repeat' ((first|exact tt|refine CallW_intro (hK) ?_|refine CallW_intro (hPl) ?_|refine CallW_intro (hPk) ?_|refine CallW_intro (hM) ?_|refine CallO_pure (hE) ?_|refine na fun b=>?_|refine nb fun b hb=>?_|refine iq ?_|(refine jq ?_ ?_<;>intro h h')|refine Two_intro ?_ ?_|exact wZ|fail)<;>try refine sxEvb ?_)
  all_goals (try rfl)
  all_goals (try (rw[Bool.true_and,Bool.true_and,decide_eq_decide];simp only[a0a,Hn]at *;omega))
  all_goals (try (simp only[a0a,Hn,Bool.true_and,Bool.false_and,Bool.and_false]at *;first|omega|(symm;simp;omega)))
 ·rw[may_6 (show e.k=6 from k12)]
  clear k12
  rcases hB with hB|hB
  all_goals rw[hB]
  all_goals generalize a8g e.e e.ec=M at *
  all_goals cases M
  all_goals (simp only[a0N];refine sxEvb ?_;try exact tt)
  all_goals repeat' ((first|exact tt|refine CallW_intro (hK) ?_|refine CallW_intro (hPl) ?_|refine CallW_intro (hPk) ?_|refine CallW_intro (hM) ?_|refine CallO_pure (hE) ?_|refine na fun b=>?_|refine nb fun b hb=>?_|refine iq ?_|(refine jq ?_ ?_<;>intro h h')|refine Two_intro ?_ ?_|exact wZ|fail)<;>try refine sxEvb ?_)
  all_goals (try rfl)
  all_goals (try (rw[Bool.true_and,Bool.true_and,decide_eq_decide];simp only[a0a,Hn]at *;omega))
 ·rw[may_7 (show e.k=7 from k12)]
  clear k12
  rcases hB with hB|hB
  all_goals rw[hB]
  all_goals (simp only[a0N];refine sxEvb ?_;try exact tt)
  all_goals repeat' ((first|exact tt|refine CallW_intro (hK) ?_|refine CallW_intro (hPl) ?_|refine CallW_intro (hPk) ?_|refine CallW_intro (hM) ?_|refine CallO_pure (hE) ?_|refine na fun b=>?_|refine nb fun b hb=>?_|refine iq ?_|(refine jq ?_ ?_<;>intro h h')|refine Two_intro ?_ ?_|exact wZ|fail)<;>try refine sxEvb ?_)
  all_goals (try rfl)
  all_goals (try (rw[Bool.true_and,Bool.true_and,decide_eq_decide];simp only[a0a,Hn]at *;omega))
  all_goals (try (simp only[a0a,Hn,Bool.true_and,Bool.false_and]at *;first|omega|(symm;simp;omega)))
 ·rw[may_out (by have:e.k<1:=k12;omega)]
  clear k12
  rcases hB with hB|hB
  all_goals (simp only[a0N];refine sxEvb ?_;try exact tt)
  all_goals repeat' ((first|exact tt|refine CallW_intro (hK) ?_|refine CallW_intro (hPl) ?_|refine CallW_intro (hPk) ?_|refine CallW_intro (hM) ?_|refine CallO_pure (hE) ?_|refine na fun b=>?_|refine nb fun b hb=>?_|refine iq ?_|(refine jq ?_ ?_<;>intro h h')|refine Two_intro ?_ ?_|exact wZ|fail)<;>try refine sxEvb ?_)
  all_goals (try rfl)
  all_goals (try (rw[Bool.true_and,Bool.true_and,decide_eq_decide];simp only[a0a,Hn]at *;omega))
 ·rw[may_out (by have:7<e.k:=k12;omega)]
  clear k12
  rcases hB with hB|hB
  all_goals (simp only[a0N];refine sxEvb ?_;try exact tt)
  all_goals repeat' ((first|exact tt|refine CallW_intro (hK) ?_|refine CallW_intro (hPl) ?_|refine CallW_intro (hPk) ?_|refine CallW_intro (hM) ?_|refine CallO_pure (hE) ?_|refine na fun b=>?_|refine nb fun b hb=>?_|refine iq ?_|(refine jq ?_ ?_<;>intro h h')|refine Two_intro ?_ ?_|exact wZ|fail)<;>try refine sxEvb ?_)
  all_goals (try rfl)
  all_goals (try (rw[Bool.true_and,Bool.true_and,decide_eq_decide];simp only[a0a,Hn]at *;omega))
set_option maxHeartbeats 8000000 in
theorem b2q(e:EvC)(h1:e.p.s.length≤1000000)(h2:e.p.d.length≤1000000)(h3:e.p.x.length≤1000000)(h4:e.e.length≤1000000)(h5:e.a.length≤1000000):CP Tryz.prog 177 [.agg e.cs] (.bool (a1k e)):=by
 have hPl:=b3y e
 have hM:=b5w e.p h1 h2 h3
 have hE:=a8w e.e e.ec (by omega)
 refine a4r _ _ (by simp) ?_
 have hB:decide (e=a1K e)=true∨decide (e=a1K e)=false:=by cases decide (e=a1K e)<;>simp
 rcases b0v e.k with ⟨k1,k2,k3,k4,k5,k6,k7,k8,k9,k10,k11,k12⟩ | ⟨k1,k2,k3,k4,k5,k6,k7,k8,k9,k10,k11,k12⟩ | ⟨k1,k2,k3,k4,k5,k6,k7,k8,k9,k10,k11,k12⟩ | ⟨k1,k2,k3,k4,k5,k6,k7,k8,k9,k10,k11,k12⟩ | ⟨k1,k2,k3,k4,k5,k6,k7,k8,k9,k10,k11,k12⟩ | ⟨k1,k2,k3,k4,k5,k6,k7,k8,k9,k10,k11,k12⟩ | ⟨k1,k2,k3,k4,k5,k6,k7,k8,k9,k10,k11,k12⟩ | ⟨k1,k2,k3,k4,k5,k6,k7,k8,k9,k10,k11,k12⟩ | ⟨k1,k2,k3,k4,k5,k6,k7,k8,k9,k10,k11,k12⟩
 ·rw[may_pk (by have:e.k=1:=k12;omega) (by have:e.k=1:=k12;omega) (by have:e.k=1:=k12;omega) (by have:e.k=1:=k12;omega)]
  clear k12
  rcases hB with hB|hB
  all_goals rw[hB]
  all_goals generalize a5G e.p=M at *
  all_goals cases M
  all_goals (simp only[a0l];refine sxEvb ?_;try exact tt)
  all_goals repeat' ((first|exact tt|refine CallW_intro (hPl) ?_|refine CallO_pure (hM) ?_|refine CallO_pure (hE) ?_|refine na fun b=>?_|refine nb fun b hb=>?_|refine iq ?_|(refine jq ?_ ?_<;>intro h h')|refine Two_intro ?_ ?_|exact wZ|fail)<;>try refine sxEvb ?_)
  all_goals (try rfl)
  all_goals (try (rw[Bool.true_and,Bool.true_and,decide_eq_decide];simp only[a0a,Hn]at *;omega))
 ·rw[may_pk (by have:e.k=2:=k12;omega) (by have:e.k=2:=k12;omega) (by have:e.k=2:=k12;omega) (by have:e.k=2:=k12;omega)]
  clear k12
  rcases hB with hB|hB
  all_goals rw[hB]
  all_goals generalize a5G e.p=M at *
  all_goals cases M
  all_goals (simp only[a0l];refine sxEvb ?_;try exact tt)
  all_goals repeat' ((first|exact tt|refine CallW_intro (hPl) ?_|refine CallO_pure (hM) ?_|refine CallO_pure (hE) ?_|refine na fun b=>?_|refine nb fun b hb=>?_|refine iq ?_|(refine jq ?_ ?_<;>intro h h')|refine Two_intro ?_ ?_|exact wZ|fail)<;>try refine sxEvb ?_)
  all_goals (try rfl)
  all_goals (try (rw[Bool.true_and,Bool.true_and,decide_eq_decide];simp only[a0a,Hn]at *;omega))
 ·rw[may_pk (by have:e.k=4:=k12;omega) (by have:e.k=4:=k12;omega) (by have:e.k=4:=k12;omega) (by have:e.k=4:=k12;omega)]
  clear k12
  rcases hB with hB|hB
  all_goals rw[hB]
  all_goals generalize a5G e.p=M at *
  all_goals cases M
  all_goals (simp only[a0l];refine sxEvb ?_;try exact tt)
  all_goals repeat' ((first|exact tt|refine CallW_intro (hPl) ?_|refine CallO_pure (hM) ?_|refine CallO_pure (hE) ?_|refine na fun b=>?_|refine nb fun b hb=>?_|refine iq ?_|(refine jq ?_ ?_<;>intro h h')|refine Two_intro ?_ ?_|exact wZ|fail)<;>try refine sxEvb ?_)
  all_goals (try rfl)
  all_goals (try (rw[Bool.true_and,Bool.true_and,decide_eq_decide];simp only[a0a,Hn]at *;omega))
 ·rw[may_pk (by have:e.k=5:=k12;omega) (by have:e.k=5:=k12;omega) (by have:e.k=5:=k12;omega) (by have:e.k=5:=k12;omega)]
  clear k12
  rcases hB with hB|hB
  all_goals rw[hB]
  all_goals generalize a5G e.p=M at *
  all_goals cases M
  all_goals (simp only[a0l];refine sxEvb ?_;try exact tt)
  all_goals repeat' ((first|exact tt|refine CallW_intro (hPl) ?_|refine CallO_pure (hM) ?_|refine CallO_pure (hE) ?_|refine na fun b=>?_|refine nb fun b hb=>?_|refine iq ?_|(refine jq ?_ ?_<;>intro h h')|refine Two_intro ?_ ?_|exact wZ|fail)<;>try refine sxEvb ?_)
  all_goals (try rfl)
  all_goals (try (rw[Bool.true_and,Bool.true_and,decide_eq_decide];simp only[a0a,Hn]at *;omega))
 ·rw[may_3 (show e.k=3 from k12)]
  clear k12
  rcases hB with hB|hB
  all_goals rw[hB]
  all_goals generalize a5G e.p=M at *
  all_goals cases M
  all_goals (simp only[a0l];refine sxEvb ?_;try exact tt)
  all_goals repeat' ((first|exact tt|refine CallW_intro (hPl) ?_|refine CallO_pure (hM) ?_|refine CallO_pure (hE) ?_|refine na fun b=>?_|refine nb fun b hb=>?_|refine iq ?_|(refine jq ?_ ?_<;>intro h h')|refine Two_intro ?_ ?_|exact wZ|fail)<;>try refine sxEvb ?_)
  all_goals (try rfl)
  all_goals (try (rw[Bool.true_and,Bool.true_and,decide_eq_decide];simp only[a0a,Hn]at *;omega))
  all_goals (try (simp only[a0a,Hn,Bool.true_and,Bool.false_and,Bool.and_false]at *;first|omega|(symm;simp;omega)))
 ·rw[may_6 (show e.k=6 from k12)]
  clear k12
  rcases hB with hB|hB
  all_goals rw[hB]
  all_goals generalize a8g e.e e.ec=M at *
  all_goals cases M
  all_goals (simp only[a0l];refine sxEvb ?_;try exact tt)
  all_goals repeat' ((first|exact tt|refine CallW_intro (hPl) ?_|refine CallO_pure (hM) ?_|refine CallO_pure (hE) ?_|refine na fun b=>?_|refine nb fun b hb=>?_|refine iq ?_|(refine jq ?_ ?_<;>intro h h')|refine Two_intro ?_ ?_|exact wZ|fail)<;>try refine sxEvb ?_)
  all_goals (try rfl)
  all_goals (try (rw[Bool.true_and,Bool.true_and,decide_eq_decide];simp only[a0a,Hn]at *;omega))
 ·rw[may_7 (show e.k=7 from k12)]
  clear k12
  rcases hB with hB|hB
  all_goals rw[hB]
  all_goals (simp only[a0l];refine sxEvb ?_;try exact tt)
  all_goals repeat' ((first|exact tt|refine CallW_intro (hPl) ?_|refine CallO_pure (hM) ?_|refine CallO_pure (hE) ?_|refine na fun b=>?_|refine nb fun b hb=>?_|refine iq ?_|(refine jq ?_ ?_<;>intro h h')|refine Two_intro ?_ ?_|exact wZ|fail)<;>try refine sxEvb ?_)
  all_goals (try rfl)
  all_goals (try (rw[Bool.true_and,Bool.true_and,decide_eq_decide];simp only[a0a,Hn]at *;omega))
  all_goals (try (simp only[a0a,Hn,Bool.true_and,Bool.false_and]at *;first|omega|(symm;simp;omega)))
 ·rw[may_out (by have:e.k<1:=k12;omega)]
  clear k12
  rcases hB with hB|hB
  all_goals (simp only[a0l];refine sxEvb ?_;try exact tt)
  all_goals repeat' ((first|exact tt|refine CallW_intro (hPl) ?_|refine CallO_pure (hM) ?_|refine CallO_pure (hE) ?_|refine na fun b=>?_|refine nb fun b hb=>?_|refine iq ?_|(refine jq ?_ ?_<;>intro h h')|refine Two_intro ?_ ?_|exact wZ|fail)<;>try refine sxEvb ?_)
  all_goals (try rfl)
  all_goals (try (rw[Bool.true_and,Bool.true_and,decide_eq_decide];simp only[a0a,Hn]at *;omega))
 ·rw[may_out (by have:7<e.k:=k12;omega)]
  clear k12
  rcases hB with hB|hB
  all_goals (simp only[a0l];refine sxEvb ?_;try exact tt)
  all_goals repeat' ((first|exact tt|refine CallW_intro (hPl) ?_|refine CallO_pure (hM) ?_|refine CallO_pure (hE) ?_|refine na fun b=>?_|refine nb fun b hb=>?_|refine iq ?_|(refine jq ?_ ?_<;>intro h h')|refine Two_intro ?_ ?_|exact wZ|fail)<;>try refine sxEvb ?_)
  all_goals (try rfl)
  all_goals (try (rw[Bool.true_and,Bool.true_and,decide_eq_decide];simp only[a0a,Hn]at *;omega))
end
end Go.Proofs.YtgdhinnepnlihaaGreatDoor
