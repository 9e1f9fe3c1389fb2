import Derived.Test.YtgdhinnepnlihaaGreatDoorK17
import Derived.Test.YtgdhinnepnlihaaGreatDoorK10
import Derived.Test.YtgdhinnepnlihaaGreatDoorK13
import Derived.Test.YtgdhinnepnlihaaGreatDoorK11
import Derived.Test.YtgdhinnepnlihaaGreatDoorK15
import Derived.Lib.Join
import Derived.Shelf.Strings.Repeat
import Derived.Shelf.Strings.OnBuilder
namespace Go.Proofs.YtgdhinnepnlihaaGreatDoor
set_option linter.all false
set_option maxHeartbeats 9000000
section
open Go.RowKit
set_option maxRecDepth 100000
theorem b3u:evl []=[]:=rfl
theorem b4I(L:List EvC)(x:EvC):evl (L++[x])=evl L++[x.cs]:=by simp[evl]
theorem bkz:(default:BlkC)=⟨[],0,0,[]⟩:=rfl
noncomputable def a3n (s:List UInt8):Nat→(Int × Int)→List EvC→List EvC × (Int × Int) × Int
 | 0,x,L=>(L,x,0)
 | n+1,x,L=>
  if (a0w s 1000 x).2.2≠0 then (L,(a0w s 1000 x).2,0)
  else if (a6W (a0w s 1000 x).1).2≠0 then (L,(a0w s 1000 x).2,(a6W (a0w s 1000 x).1).2)
  else a3n s n (a0w s 1000 x).2 (L++[(a6W (a0w s 1000 x).1).1])
noncomputable def b2J (s:List UInt8) (c:List UInt8) (h t:Int) (L:List EvC) (x:Int × Int):BlkC × Int:=
 if rend s x≠0 then (default,rend s x) else if a3J ⟨c,h,t,L⟩=false then (default,1) else (⟨c,h,t,L⟩,0)
noncomputable def b2U (s:List UInt8) (c:List UInt8) (h t:Int) (R:List EvC × (Int × Int) × Int):BlkC × Int:=
 if R.2.2≠0 then (default,R.2.2) else b2J s c h t R.1 R.2.1
theorem a4F(s:List UInt8)(c:List UInt8)(h t:Int)(L:List EvC)(x:Int × Int):
  (a0a (decide (rend s x=0)=false)∧b2J s c h t L x=(default,rend s x))∨(rend s x=0∧a3J ⟨c,h,t,L⟩=false∧b2J s c h t L x=(default,1))∨
   (rend s x=0∧a3J ⟨c,h,t,L⟩=true∧b2J s c h t L x=(⟨c,h,t,L⟩,0)):=by
 unfold b2J
 by_cases h0:rend s x=0
 ·cases hm:a3J ⟨c,h,t,L⟩
  ·exact .inr (.inl ⟨h0,rfl,by simp[h0]⟩)
  ·exact .inr (.inr ⟨h0,rfl,by simp[h0]⟩)
 ·exact .inl ⟨by simpa[a0a]using h0,by simp[h0]⟩
noncomputable def a3z (s:List UInt8):BlkC × Int:=
 let a:=a0w s 12 (0,0)
 let h:=a1F s 1 mxH a.2
 let t:=a1F s 0 mxH h.2
 let n:=a1j s 1073741824 t.2
 let R:=a3n s n.1.toNat n.2 []
 b2U s a.1 h.1 t.1 R
def evc(L:List EvC):AV:=if L=[] then .nils 139 13 else .sl (some 139) 13 (evl L)
theorem a1M:evc []=.nils 139 13:=rfl
theorem evc_ne{L:List EvC}(h:L≠[]):evc L=.sl (some 139) 13 (evl L):=if_neg h
abbrev BlkC.cs0(b:BlkC):List AV:=[.str b.c,.int .i64 b.h,.int .i64 b.t,evc b.e]
def evr(L:List EvC):AV:=if L=[] then .nils 139 13 else .sl none 13 (evl L)
theorem b3v:evr []=.nils 139 13:=rfl
theorem evr_ne{L:List EvC}(h:L≠[]):evr L=.sl none 13 (evl L):=if_neg h
abbrev BlkC.cs1(b:BlkC):List AV:=[.str b.c,.int .i64 b.h,.int .i64 b.t,evr b.e]
theorem b4q(b:BlkC):Wk (.agg b.cs1) (.agg b.cs):=by
 refine wk_agg ⟨Wk.rfl,Wk.rfl,Wk.rfl, ?_,trivial⟩
 by_cases h:b.e=[]
 ·rw[h];exact b1E _ _
 ·rw[evr_ne h];exact Wk.rfl
theorem b6p(b:BlkC):Wk (.agg b.cs0) (.agg b.cs):=by
 refine wk_agg ⟨Wk.rfl,Wk.rfl,Wk.rfl, ?_,trivial⟩
 by_cases h:b.e=[]
 ·rw[h];exact b1E _ _
 ·rw[evc_ne h];exact b9E _ _ _
theorem b6X(q:BlkC)(hc:q.c.length≤1000000)(hE:a8F q.e):CP Tryz.prog 125 [.agg q.cs0] (.bool (a3J q)):=CP_wk (xs':=[.agg q.cs]) ⟨b6p q,trivial⟩ (b8E q hc hE)
theorem b5i(q:BlkC)(hc:q.c.length≤1000000)(hE:a8F q.e):CP Tryz.prog 111 [.agg q.cs0] (.bool (a3J q)):=CP_wk (xs':=[.agg q.cs]) ⟨b6p q,trivial⟩ (b4a q hc hE)
theorem a7u(L:List EvC)(x:EvC):evc (L++[x])=.sl (some 139) 13 (evl L++[x.cs]):=by rw[evc_ne (by simp),b4I]
theorem a9x(x:EvC):evc [x]=.sl (some 139) 13 [x.cs]:=rfl
theorem a9H:1073741825≤maxLen:=by unfold maxLen;decide
theorem evsS_snoc{s:List UInt8}(hs:s.length≤1000000){L:List EvC}(h:a8F L)(hl:L.length<2000000000)(x:Int × Int):a8F (L++[(a6W (a0w s 1000 x).1).1]):=by
 refine ⟨by simp;omega,fun i hi=>?_⟩
 by_cases hi':i<L.length
 ·have:=h.2 i hi'
  rwa [show (L++[(a6W (a0w s 1000 x).1).1]).getD i default=L.getD i default by simp[List.getD,List.getElem?_append_left hi']]
 ·have e:i=L.length:=by simp at hi;omega
  subst e
  rw[show (L++[(a6W (a0w s 1000 x).1).1]).getD L.length default=(a6W (a0w s 1000 x).1).1 by simp[List.getD]]
  have h1:=b4C (a0w s 1000 x).1
  have h2:=a1R s 1000 x
  exact ⟨by omega,by omega,by omega,by omega,by omega⟩
theorem sxBkb{A B:Prop}(h:B)(e:A=B:=by (simp (disch:=omega) only[*, ↓Ed,Eu, ↓reduceIte,reduceCtorEq,Nat.reduceAdd,Nat.reduceEqDiff,Nat.reduceLT,Nat.reduceLeDiff,Int.reduceToNat,Int.reduceEq,Int.reduceLT,Int.reduceLE,w64,List.length_append,List.length_map,PktC.cs,EvC.cs,BlkC.cs0,BlkC.cs1,Int.reduceAdd,pkz,evz,bkz,b3u,a1M,b3v];first|done|rfl)):A:=e▸h
theorem b8S(s:List UInt8)(hs:s.length≤1000000):CP Tryz.prog 61 [.str s] (.tup [.agg (a3z s).1.cs,.int .i64 (a3z s).2]):=by
 refine CP_rs (r:=.tup [.agg (a3z s).1.cs1,.int .i64 (a3z s).2]) (wk_tup ⟨b4q _,Wk.rfl,trivial⟩) trivial ?_
 have h1:=fun b=>a6G b s (0,0) 12 (by omega) (by omega) ⟨by simp,by simp⟩
 have i1:=a1g s 12 (0,0) ⟨by simp,by simp⟩
 have l1:=a1R s 12 (0,0)
 refine a8f _ _ (by simp) ?_
 generalize hD:a3z s=D
 unfold a3z at hD
 simp only at hD
 generalize a0w s 12 (0,0)=a at *
 have h2:=fun b=>a6j b s a.2 1 mxH (by omega)
 have i2:=a0Z s 1 mxH a.2 i1
 generalize a1F s 1 mxH a.2=h at *
 have h3:=fun b=>a6j b s h.2 0 mxH (by omega)
 have i3:=a0Z s 0 mxH h.2 i2
 generalize a1F s 0 mxH h.2=t at *
 have h4:=fun b=>b7r b s t.2 1073741824 (by omega) (by omega)
 have i4:=a6k s 1073741824 t.2 i3
 have g4:=b0V s 1073741824 t.2 (by omega)
 generalize a1j s 1073741824 t.2=n at *
 obtain ⟨N,hN⟩:∃ N:Nat,n.1=N:=⟨n.1.toNat,by omega⟩
 rw[hN]at h4 g4 hD
 rw[Int.toNat_natCast]at hD
 simp only[mxH]at h2 h3
 clear i1 i2 i3 hN
 have hD':a0a (b2U s a.1 h.1 t.1 (a3n s N n.2 [])=D):=hD
 clear hD
 simp only[a5b];refine sxBkb ?_
 repeat' ((first|exact tt|refine CallO_new (b9T s) ?_|refine c1 (h1 _) ?_|refine c1 (h2 _) ?_|refine c1 (h3 _) ?_|refine c1 (h4 _) ?_|refine na fun b=>?_|refine nb fun b hb=>?_|refine iq ?_|(refine jq ?_ ?_<;>intro h h')|refine Two_intro ?_ ?_|exact wZ|fail)<;>try refine sxBkb ?_)
 rename_i b2 b1 hb1
 refine wpx_loop (fun x:Nat × (Int × Int) × List EvC=>⟨lk [(2,.ptr b2 0),(4,.ptr b1 0),(5,.ptr b 0),(22,.int .i64 (N:Int)),(23,.int .i64 (x.1:Int))],lk [(b1,rd s x.2.1.1 x.2.1.2),(b2,[.str [],.int .i64 0,.int .i64 0,.sl (some 139) 13 []]),(b,[.str a.1,.int .i64 h.1,.int .i64 t.1,evc x.2.2])]⟩)
  (fun x=>x.1≤N∧inT s x.2.1∧a8F x.2.2∧x.2.2.length≤x.1∧a0a (b2U s a.1 h.1 t.1 (a3n s (N - x.1) x.2.1 x.2.2)=D))
  (fun x=>N - x.1) (0,n.2,[]) ⟨by omega,i4,⟨by simp,fun i hi=>by simp at hi⟩,by simp,hD'⟩ (Le_lit (by simp[LeL,lk,hb,hb1,a1M])) ?_
 clear h1 h2 h3 h4 i4 hD'
 rintro ⟨k,y,L⟩ ⟨k1,k2,k3,k4,k5⟩
 simp only at k1 k2 k3 k4 k5 ⊢
 have hX:∀ z:Int × Int,CP Tryz.prog 125 [.agg (⟨a.1,h.1,t.1,L⟩:BlkC).cs0] (.bool (a3J ⟨a.1,h.1,t.1,L⟩))∧∀ b,CT Tryz.prog 124 [.ptr b 0] (lk [(b,rd s z.1 z.2)]) (fun r o=>r=.int .i64 (rend s z)∧o=lk [(b,rd s z.1 z.2)]):=fun z=>⟨b6X _ (by simp only;omega) k3,fun b=>b6i b s z⟩
 by_cases hk:k<N
 rotate_left
 ·obtain rfl:k=N:=by omega
  have f1:a0a (decide ((k:Int)<k)=false):=fo
  rw[Nat.sub_self,a3n]at k5
  have k6:b2J s a.1 h.1 t.1 L y=D:=k5
  subst k6
  obtain ⟨hM,hE⟩:=hX y
  have hc:=a4F s a.1 h.1 t.1 L y
  clear k5 hk hX k3
  generalize rend s y=e at *
  generalize hm:a3J ⟨a.1,h.1,t.1,L⟩=m at *
  clear hm
  by_cases hL:L=[]
  ·subst hL
   rw[a1M]
   simp only[BlkC.cs0,a1M]at hM
   rcases hc with ⟨r2,r3⟩ | ⟨rfl,rfl,r3⟩ | ⟨rfl,rfl,r3⟩
   all_goals (rw[r3];clear r3;try simp only[BlkC.cs1,evr_ne hL];try clear hL)
   ·refine sxBkb ?_
    repeat' ((first|exact tt|refine c1 (hE _) ?_|refine na fun b=>?_|refine nb fun b hb=>?_|refine iq ?_|(refine jq ?_ ?_<;>intro h h')|refine Two_intro ?_ ?_|exact wZ|fail)<;>try refine sxBkb ?_)
   ·refine sxBkb ?_
    repeat' ((first|exact tt|refine c1 (hE _) ?_|refine CallO_pure (hM) ?_|refine na fun b=>?_|refine nb fun b hb=>?_|refine iq ?_|(refine jq ?_ ?_<;>intro h h')|refine Two_intro ?_ ?_|exact wZ|fail)<;>try refine sxBkb ?_)
   ·refine sxBkb ?_
    repeat' ((first|exact tt|refine c1 (hE _) ?_|refine CallO_pure (hM) ?_|refine na fun b=>?_|refine nb fun b hb=>?_|refine iq ?_|(refine jq ?_ ?_<;>intro h h')|refine Two_intro ?_ ?_|exact wZ|fail)<;>try refine sxBkb ?_)
  ·rw[evc_ne hL]
   simp only[BlkC.cs0,evc_ne hL]at hM
   rcases hc with ⟨r2,r3⟩ | ⟨rfl,rfl,r3⟩ | ⟨rfl,rfl,r3⟩
   all_goals (rw[r3];clear r3;try simp only[BlkC.cs1,evr_ne hL];try clear hL)
   ·refine sxBkb ?_
    repeat' ((first|exact tt|refine c1 (hE _) ?_|refine na fun b=>?_|refine nb fun b hb=>?_|refine iq ?_|(refine jq ?_ ?_<;>intro h h')|refine Two_intro ?_ ?_|exact wZ|fail)<;>try refine sxBkb ?_)
   ·refine sxBkb ?_
    repeat' ((first|exact tt|refine c1 (hE _) ?_|refine CallO_pure (hM) ?_|refine na fun b=>?_|refine nb fun b hb=>?_|refine iq ?_|(refine jq ?_ ?_<;>intro h h')|refine Two_intro ?_ ?_|exact wZ|fail)<;>try refine sxBkb ?_)
   ·refine sxBkb ?_
    repeat' ((first|exact tt|refine c1 (hE _) ?_|refine CallO_pure (hM) ?_|refine na fun b=>?_|refine nb fun b hb=>?_|refine iq ?_|(refine jq ?_ ?_<;>intro h h')|refine Two_intro ?_ ?_|exact wZ|fail)<;>try refine sxBkb ?_)
 have f1:a0a (decide ((k:Int)<N)=true):=fo
 obtain ⟨m,hm⟩:∃ m,N - k=m+1:=⟨N - k - 1,by omega⟩
 have hm':N - (k+1)=m:=by omega
 rw[hm,a3n]at k5
 have q1:=fun b=>a6G b s y 1000 (by omega) (by omega) k2
 have j1:=a1g s 1000 y k2
 have j2:=a1R s 1000 y
 have j3:=evsS_snoc hs k3 (by omega) y
 generalize a0w s 1000 y=w at *
 have q2:=fun b=>c0P b s w.2
 by_cases e1:w.2.2=0
 rotate_left
 ·rw[if_pos e1]at k5
  have k6:b2J s a.1 h.1 t.1 L w.2=D:=k5
  subst k6
  have f2:a0a (decide (w.2.2=0)=false):=by simp only[a0a,Hn];exact e1
  obtain ⟨hM,hE⟩:=hX w.2
  have hc:=a4F s a.1 h.1 t.1 L w.2
  clear k5 hk hX k3 j1 j2 j3 k2 k1 hm hm' e1 k4
  generalize rend s w.2=e at *
  generalize hm:a3J ⟨a.1,h.1,t.1,L⟩=m at *
  clear hm
  by_cases hL:L=[]
  ·subst hL
   rw[a1M]
   simp only[BlkC.cs0,a1M]at hM
   rcases hc with ⟨r2,r3⟩ | ⟨rfl,rfl,r3⟩ | ⟨rfl,rfl,r3⟩
   all_goals (rw[r3];clear r3;try simp only[BlkC.cs1,evr_ne hL];try clear hL)
   ·refine sxBkb ?_
    repeat' ((first|exact tt|refine c1 (q1 _) ?_|refine c1 (q2 _) ?_|refine c1 (hE _) ?_|refine na fun b=>?_|refine nb fun b hb=>?_|refine iq ?_|(refine jq ?_ ?_<;>intro h h')|refine Two_intro ?_ ?_|exact wZ|fail)<;>try refine sxBkb ?_)
   ·refine sxBkb ?_
    repeat' ((first|exact tt|refine c1 (q1 _) ?_|refine c1 (q2 _) ?_|refine c1 (hE _) ?_|refine CallO_pure (hM) ?_|refine na fun b=>?_|refine nb fun b hb=>?_|refine iq ?_|(refine jq ?_ ?_<;>intro h h')|refine Two_intro ?_ ?_|exact wZ|fail)<;>try refine sxBkb ?_)
   ·refine sxBkb ?_
    repeat' ((first|exact tt|refine c1 (q1 _) ?_|refine c1 (q2 _) ?_|refine c1 (hE _) ?_|refine CallO_pure (hM) ?_|refine na fun b=>?_|refine nb fun b hb=>?_|refine iq ?_|(refine jq ?_ ?_<;>intro h h')|refine Two_intro ?_ ?_|exact wZ|fail)<;>try refine sxBkb ?_)
  ·rw[evc_ne hL]
   simp only[BlkC.cs0,evc_ne hL]at hM
   rcases hc with ⟨r2,r3⟩ | ⟨rfl,rfl,r3⟩ | ⟨rfl,rfl,r3⟩
   all_goals (rw[r3];clear r3;try simp only[BlkC.cs1,evr_ne hL];try clear hL)
   ·refine sxBkb ?_
    repeat' ((first|exact tt|refine c1 (q1 _) ?_|refine c1 (q2 _) ?_|refine c1 (hE _) ?_|refine na fun b=>?_|refine nb fun b hb=>?_|refine iq ?_|(refine jq ?_ ?_<;>intro h h')|refine Two_intro ?_ ?_|exact wZ|fail)<;>try refine sxBkb ?_)
   ·refine sxBkb ?_
    repeat' ((first|exact tt|refine c1 (q1 _) ?_|refine c1 (q2 _) ?_|refine c1 (hE _) ?_|refine CallO_pure (hM) ?_|refine na fun b=>?_|refine nb fun b hb=>?_|refine iq ?_|(refine jq ?_ ?_<;>intro h h')|refine Two_intro ?_ ?_|exact wZ|fail)<;>try refine sxBkb ?_)
   ·refine sxBkb ?_
    repeat' ((first|exact tt|refine c1 (q1 _) ?_|refine c1 (q2 _) ?_|refine c1 (hE _) ?_|refine CallO_pure (hM) ?_|refine na fun b=>?_|refine nb fun b hb=>?_|refine iq ?_|(refine jq ?_ ?_<;>intro h h')|refine Two_intro ?_ ?_|exact wZ|fail)<;>try refine sxBkb ?_)
 rw[if_neg (by simpa using e1)]at k5
 have q3:=b8T w.1 (by omega)
 have f3:a0a (decide (w.2.2=0)=true):=by simp only[a0a,Hn];exact e1
 clear hX
 generalize a6W w.1=d at *
 by_cases e2:d.2=0
 rotate_left
 ·rw[if_pos e2]at k5
  have k6:(default,d.2)=D:=by rw[← (show b2U s a.1 h.1 t.1 (L,w.2,d.2)=D from k5)];exact (if_pos e2).symm
  subst k6
  have f2:a0a (decide (d.2=0)=false):=by simp only[a0a,Hn];exact e2
  clear k5 k3 j1 j2 j3 k2 k1 hm hm' e1 e2 k4
  by_cases hL:L=[]
  ·subst hL
   rw[a1M]
   refine sxBkb ?_
   repeat' ((first|exact tt|refine c1 (q1 _) ?_|refine c1 (q2 _) ?_|refine CallO_pure (q3) ?_|refine na fun b=>?_|refine nb fun b hb=>?_|refine iq ?_|(refine jq ?_ ?_<;>intro h h')|refine Two_intro ?_ ?_|exact wZ|fail)<;>try refine sxBkb ?_)
  ·rw[evc_ne hL]
   clear hL
   refine sxBkb ?_
   repeat' ((first|exact tt|refine c1 (q1 _) ?_|refine c1 (q2 _) ?_|refine CallO_pure (q3) ?_|refine na fun b=>?_|refine nb fun b hb=>?_|refine iq ?_|(refine jq ?_ ?_<;>intro h h')|refine Two_intro ?_ ?_|exact wZ|fail)<;>try refine sxBkb ?_)
 rw[if_neg (by simpa using e2)]at k5
 rw[e2]at q3
 have rdx:k+1≤N∧inT s w.2∧a8F (L++[d.1])∧(L++[d.1]).length≤k+1∧a0a (b2U s a.1 h.1 t.1 (a3n s (N - (k+1)) w.2 (L++[d.1]))=D):=⟨by omega,j1,j3,by simp;omega,by rw[hm'];exact k5⟩
 clear k5 k3 j1 j2 j3 k2 k1 hm hm' e1 e2
 by_cases hL:L=[]
 ·subst hL
  rw[a1M]
  refine sxBkb ?_
  repeat' ((first|exact tt|refine c1 (q1 _) ?_|refine c1 (q2 _) ?_|refine CallO_pure (q3) ?_|refine na fun b=>?_|refine nb fun b hb=>?_|refine iq ?_|(refine jq ?_ ?_<;>intro h h')|refine Two_intro ?_ ?_|exact wZ|fail)<;>try refine sxBkb ?_)
  rename_i b' hb'
  exact ⟨⟨by omega,by have:=a9H;omega⟩,Round_lit (k+1,w.2,_++[d.1]) ⟨Le_lit (by simp[LeL,lk,hb,hb1,hb',a7u,a9x,evl,EvC.cs,PktC.cs]),rdx,by simp only;omega⟩⟩
 ·rw[evc_ne hL]
  clear hL
  refine sxBkb ?_
  repeat' ((first|exact tt|refine c1 (q1 _) ?_|refine c1 (q2 _) ?_|refine CallO_pure (q3) ?_|refine na fun b=>?_|refine nb fun b hb=>?_|refine iq ?_|(refine jq ?_ ?_<;>intro h h')|refine Two_intro ?_ ?_|exact wZ|fail)<;>try refine sxBkb ?_)
  rename_i b' hb'
  have hel:=a0D L
  exact ⟨⟨by omega,by have:=a9H;omega⟩,Round_lit (k+1,w.2,_++[d.1]) ⟨Le_lit (by simp[LeL,lk,hb,hb1,hb',a7u,a9x,evl,EvC.cs,PktC.cs]),rdx,by simp only;omega⟩⟩
end
section
open Go.RowKit
set_option maxRecDepth 100000
theorem b2T(s:List UInt8)(m:Int)(x:Int × Int)(h:0<(a1j s m x).1):(a1j s m x).2.2=0:=by
 unfold a1j at h ⊢
 split
 ·rename_i h1;rw[if_pos h1]at h;simp at h
 rename_i h1;rw[if_neg h1]at h
 split
 ·rename_i h2;rw[if_pos h2]at h;simp at h
 rename_i h2;rw[if_neg h2]at h
 split
 ·rename_i h3;rw[if_pos h3]at h;simp at h
 ·rfl
theorem sxBkc{A B:Prop}(h:B)(e:A=B:=by (simp (disch:=omega) only[*, ↓Ed,Eu, ↓reduceIte,reduceCtorEq,Nat.reduceAdd,Nat.reduceEqDiff,Nat.reduceLT,Nat.reduceLeDiff,Int.reduceToNat,Int.reduceEq,Int.reduceLT,Int.reduceLE,w64,List.length_append,List.length_map,PktC.cs,EvC.cs,BlkC.cs0,BlkC.cs1,Int.reduceAdd,pkz,evz,bkz,b3u,a1M,b3v];first|done|rfl)):A:=e▸h
theorem c0Q(s:List UInt8)(hs:s.length≤1000000):CP Tryz.prog 144 [.str s] (.tup [.agg (a3z s).1.cs,.int .i64 (a3z s).2]):=by
 refine CP_rs (r:=.tup [.agg (a3z s).1.cs1,.int .i64 (a3z s).2]) (wk_tup ⟨b4q _,Wk.rfl,trivial⟩) trivial ?_
 have h1:=fun b=>a3U b s (0,0) 12 (by omega)
 have i1:=a1g s 12 (0,0) ⟨by simp,by simp⟩
 have l1:=a1R s 12 (0,0)
 refine a4f _ _ (by simp) ?_
 generalize hD:a3z s=D
 unfold a3z at hD
 simp only at hD
 generalize a0w s 12 (0,0)=a at *
 have h2:=fun b=>a3m b s a.2 1 mxH (by omega)
 have i2:=a0Z s 1 mxH a.2 i1
 generalize a1F s 1 mxH a.2=h at *
 have h3:=fun b=>a3m b s h.2 0 mxH (by omega)
 have i3:=a0Z s 0 mxH h.2 i2
 generalize a1F s 0 mxH h.2=t at *
 have h4:=fun b=>b3S b s t.2 1073741824 (by omega)
 have i4:=a6k s 1073741824 t.2 i3
 have g4:=b0V s 1073741824 t.2 (by omega)
 have n4:0<(a1j s 1073741824 t.2).1→(a1j s 1073741824 t.2).2.2=0:=b2T s _ t.2
 generalize a1j s 1073741824 t.2=n at *
 obtain ⟨N,hN⟩:∃ N:Nat,n.1=N:=⟨n.1.toNat,by omega⟩
 rw[hN]at h4 g4 hD n4
 rw[Int.toNat_natCast]at hD
 simp only[mxH]at h2 h3
 clear i1 i2 i3 hN
 have n4:(0:Nat)<N→n.2.2=0:=fun h=>n4 (by omega)
 have hD':a0a (b2U s a.1 h.1 t.1 (a3n s N n.2 [])=D):=hD
 clear hD
 simp only[a2r];refine sxBkc ?_
 repeat' ((first|exact tt|refine c1 (h1 _) ?_|refine c1 (h2 _) ?_|refine c1 (h3 _) ?_|refine c1 (h4 _) ?_|refine na fun b=>?_|refine nb fun b hb=>?_|refine iq ?_|(refine jq ?_ ?_<;>intro h h')|refine Two_intro ?_ ?_|exact wZ|fail)<;>try refine sxBkc ?_)
 rename_i b2 b1 hb1
 refine wpx_loop (fun x:Nat × (Int × Int) × List EvC=>⟨lk [(2,.ptr b2 0),(4,.ptr b1 0),(5,.ptr b 0),(6,.int .i64 (N:Int)),(7,.int .i64 (x.1:Int))],lk [(b1,rr s x.2.1),(b2,[.str [],.int .i64 0,.int .i64 0,.sl (some 139) 13 []]),(b,[.str a.1,.int .i64 h.1,.int .i64 t.1,evc x.2.2])]⟩)
  (fun x=>x.1≤N∧inT s x.2.1∧a8F x.2.2∧x.2.2.length≤x.1∧(x.1<N→x.2.1.2=0)∧a0a (b2U s a.1 h.1 t.1 (a3n s (N - x.1) x.2.1 x.2.2)=D))
  (fun x=>N - x.1) (0,n.2,[]) ⟨by omega,i4,⟨by simp,fun i hi=>by simp at hi⟩,by simp,n4,hD'⟩ (Le_lit (by simp[LeL,lk,hb,hb1,a1M])) ?_
 clear h1 h2 h3 h4 i4 hD'
 rintro ⟨k,y,L⟩ ⟨k1,k2,k3,k4,k7,k5⟩
 simp only at k1 k2 k3 k4 k5 k7 ⊢
 have hX:∀ z:Int × Int,CP Tryz.prog 111 [.agg (⟨a.1,h.1,t.1,L⟩:BlkC).cs0] (.bool (a3J ⟨a.1,h.1,t.1,L⟩))∧∀ b,CT Tryz.prog 168 [.ptr b 0] (lk [(b,rr s z)]) (fun r o=>r=.int .i64 (rend s z)∧o=lk [(b,rr s z)]):=fun z=>⟨b5i _ (by simp only;omega) k3,fun b=>b3T b s z⟩
 by_cases hk:k<N
 rotate_left
 ·obtain rfl:k=N:=by omega
  have f1:a0a (decide ((k:Int)<k)=false):=fo
  rw[Nat.sub_self,a3n]at k5
  have k6:b2J s a.1 h.1 t.1 L y=D:=k5
  subst k6
  obtain ⟨hM,hE⟩:=hX y
  have hc:=a4F s a.1 h.1 t.1 L y
  clear k5 hk hX k3 k7
  generalize rend s y=e at *
  generalize hm:a3J ⟨a.1,h.1,t.1,L⟩=m at *
  clear hm
  by_cases hL:L=[]
  ·subst hL
   rw[a1M]
   simp only[BlkC.cs0,a1M]at hM
   rcases hc with ⟨r2,r3⟩ | ⟨rfl,rfl,r3⟩ | ⟨rfl,rfl,r3⟩
   all_goals (rw[r3];clear r3;try simp only[BlkC.cs1,evr_ne hL];try clear hL)
   ·refine sxBkc ?_
    repeat' ((first|exact tt|refine c1 (hE _) ?_|refine na fun b=>?_|refine nb fun b hb=>?_|refine iq ?_|(refine jq ?_ ?_<;>intro h h')|refine Two_intro ?_ ?_|exact wZ|fail)<;>try refine sxBkc ?_)
   ·refine sxBkc ?_
    repeat' ((first|exact tt|refine c1 (hE _) ?_|refine CallO_pure (hM) ?_|refine na fun b=>?_|refine nb fun b hb=>?_|refine iq ?_|(refine jq ?_ ?_<;>intro h h')|refine Two_intro ?_ ?_|exact wZ|fail)<;>try refine sxBkc ?_)
   ·refine sxBkc ?_
    repeat' ((first|exact tt|refine c1 (hE _) ?_|refine CallO_pure (hM) ?_|refine na fun b=>?_|refine nb fun b hb=>?_|refine iq ?_|(refine jq ?_ ?_<;>intro h h')|refine Two_intro ?_ ?_|exact wZ|fail)<;>try refine sxBkc ?_)
  ·rw[evc_ne hL]
   simp only[BlkC.cs0,evc_ne hL]at hM
   rcases hc with ⟨r2,r3⟩ | ⟨rfl,rfl,r3⟩ | ⟨rfl,rfl,r3⟩
   all_goals (rw[r3];clear r3;try simp only[BlkC.cs1,evr_ne hL];try clear hL)
   ·refine sxBkc ?_
    repeat' ((first|exact tt|refine c1 (hE _) ?_|refine na fun b=>?_|refine nb fun b hb=>?_|refine iq ?_|(refine jq ?_ ?_<;>intro h h')|refine Two_intro ?_ ?_|exact wZ|fail)<;>try refine sxBkc ?_)
   ·refine sxBkc ?_
    repeat' ((first|exact tt|refine c1 (hE _) ?_|refine CallO_pure (hM) ?_|refine na fun b=>?_|refine nb fun b hb=>?_|refine iq ?_|(refine jq ?_ ?_<;>intro h h')|refine Two_intro ?_ ?_|exact wZ|fail)<;>try refine sxBkc ?_)
   ·refine sxBkc ?_
    repeat' ((first|exact tt|refine c1 (hE _) ?_|refine CallO_pure (hM) ?_|refine na fun b=>?_|refine nb fun b hb=>?_|refine iq ?_|(refine jq ?_ ?_<;>intro h h')|refine Two_intro ?_ ?_|exact wZ|fail)<;>try refine sxBkc ?_)
 have f1:a0a (decide ((k:Int)<N)=true):=fo
 have f4:a0a (decide (y.2=0)=true):=by simp only[a0a,Hn];exact k7 hk
 obtain ⟨m,hm⟩:∃ m,N - k=m+1:=⟨N - k - 1,by omega⟩
 have hm':N - (k+1)=m:=by omega
 rw[hm,a3n]at k5
 have q1:=fun b=>a3U b s y 1000 (by omega)
 have j1:=a1g s 1000 y k2
 have j2:=a1R s 1000 y
 have j3:=evsS_snoc hs k3 (by omega) y
 generalize a0w s 1000 y=w at *
 by_cases e1:w.2.2=0
 rotate_left
 ·rw[if_pos e1]at k5
  have k6:b2J s a.1 h.1 t.1 L w.2=D:=k5
  subst k6
  have f2:a0a (decide (w.2.2=0)=false):=by simp only[a0a,Hn];exact e1
  obtain ⟨hM,hE⟩:=hX w.2
  have hc:=a4F s a.1 h.1 t.1 L w.2
  clear k5 hk hX k3 k7 j1 j2 j3 k2 k1 hm hm' e1 k4
  generalize rend s w.2=e at *
  generalize hm:a3J ⟨a.1,h.1,t.1,L⟩=m at *
  clear hm
  by_cases hL:L=[]
  ·subst hL
   rw[a1M]
   simp only[BlkC.cs0,a1M]at hM
   rcases hc with ⟨r2,r3⟩ | ⟨rfl,rfl,r3⟩ | ⟨rfl,rfl,r3⟩
   all_goals (rw[r3];clear r3;try simp only[BlkC.cs1,evr_ne hL];try clear hL)
   ·refine sxBkc ?_
    repeat' ((first|exact tt|refine c1 (q1 _) ?_|refine c1 (hE _) ?_|refine na fun b=>?_|refine nb fun b hb=>?_|refine iq ?_|(refine jq ?_ ?_<;>intro h h')|refine Two_intro ?_ ?_|exact wZ|fail)<;>try refine sxBkc ?_)
   ·refine sxBkc ?_
    repeat' ((first|exact tt|refine c1 (q1 _) ?_|refine c1 (hE _) ?_|refine CallO_pure (hM) ?_|refine na fun b=>?_|refine nb fun b hb=>?_|refine iq ?_|(refine jq ?_ ?_<;>intro h h')|refine Two_intro ?_ ?_|exact wZ|fail)<;>try refine sxBkc ?_)
   ·refine sxBkc ?_
    repeat' ((first|exact tt|refine c1 (q1 _) ?_|refine c1 (hE _) ?_|refine CallO_pure (hM) ?_|refine na fun b=>?_|refine nb fun b hb=>?_|refine iq ?_|(refine jq ?_ ?_<;>intro h h')|refine Two_intro ?_ ?_|exact wZ|fail)<;>try refine sxBkc ?_)
  ·rw[evc_ne hL]
   simp only[BlkC.cs0,evc_ne hL]at hM
   rcases hc with ⟨r2,r3⟩ | ⟨rfl,rfl,r3⟩ | ⟨rfl,rfl,r3⟩
   all_goals (rw[r3];clear r3;try simp only[BlkC.cs1,evr_ne hL];try clear hL)
   ·refine sxBkc ?_
    repeat' ((first|exact tt|refine c1 (q1 _) ?_|refine c1 (hE _) ?_|refine na fun b=>?_|refine nb fun b hb=>?_|refine iq ?_|(refine jq ?_ ?_<;>intro h h')|refine Two_intro ?_ ?_|exact wZ|fail)<;>try refine sxBkc ?_)
   ·refine sxBkc ?_
    repeat' ((first|exact tt|refine c1 (q1 _) ?_|refine c1 (hE _) ?_|refine CallO_pure (hM) ?_|refine na fun b=>?_|refine nb fun b hb=>?_|refine iq ?_|(refine jq ?_ ?_<;>intro h h')|refine Two_intro ?_ ?_|exact wZ|fail)<;>try refine sxBkc ?_)
   ·refine sxBkc ?_
    repeat' ((first|exact tt|refine c1 (q1 _) ?_|refine c1 (hE _) ?_|refine CallO_pure (hM) ?_|refine na fun b=>?_|refine nb fun b hb=>?_|refine iq ?_|(refine jq ?_ ?_<;>intro h h')|refine Two_intro ?_ ?_|exact wZ|fail)<;>try refine sxBkc ?_)
 rw[if_neg (by simpa using e1)]at k5
 have q3:=c0R w.1 (by omega)
 have f3:a0a (decide (w.2.2=0)=true):=by simp only[a0a,Hn];exact e1
 clear hX
 generalize a6W w.1=d at *
 by_cases e2:d.2=0
 rotate_left
 ·rw[if_pos e2]at k5
  have k6:(default,d.2)=D:=by rw[← (show b2U s a.1 h.1 t.1 (L,w.2,d.2)=D from k5)];exact (if_pos e2).symm
  subst k6
  have f2:a0a (decide (d.2=0)=false):=by simp only[a0a,Hn];exact e2
  clear k5 k3 k7 j1 j2 j3 k2 k1 hm hm' e1 e2 k4
  by_cases hL:L=[]
  ·subst hL
   rw[a1M]
   refine sxBkc ?_
   repeat' ((first|exact tt|refine c1 (q1 _) ?_|refine CallO_pure (q3) ?_|refine na fun b=>?_|refine nb fun b hb=>?_|refine iq ?_|(refine jq ?_ ?_<;>intro h h')|refine Two_intro ?_ ?_|exact wZ|fail)<;>try refine sxBkc ?_)
  ·rw[evc_ne hL]
   clear hL
   refine sxBkc ?_
   repeat' ((first|exact tt|refine c1 (q1 _) ?_|refine CallO_pure (q3) ?_|refine na fun b=>?_|refine nb fun b hb=>?_|refine iq ?_|(refine jq ?_ ?_<;>intro h h')|refine Two_intro ?_ ?_|exact wZ|fail)<;>try refine sxBkc ?_)
 rw[if_neg (by simpa using e2)]at k5
 rw[e2]at q3
 have rdx:k+1≤N∧inT s w.2∧a8F (L++[d.1])∧(L++[d.1]).length≤k+1∧(k+1<N→w.2.2=0)∧a0a (b2U s a.1 h.1 t.1 (a3n s (N - (k+1)) w.2 (L++[d.1]))=D):=⟨by omega,j1,j3,by simp;omega,fun _=>e1,by rw[hm'];exact k5⟩
 clear k5 k3 k7 j1 j2 j3 k2 k1 hm hm' e1 e2
 by_cases hL:L=[]
 ·subst hL
  rw[a1M]
  refine sxBkc ?_
  repeat' ((first|exact tt|refine c1 (q1 _) ?_|refine CallO_pure (q3) ?_|refine na fun b=>?_|refine nb fun b hb=>?_|refine iq ?_|(refine jq ?_ ?_<;>intro h h')|refine Two_intro ?_ ?_|exact wZ|fail)<;>try refine sxBkc ?_)
  rename_i b' hb'
  exact ⟨⟨by omega,by have:=a9H;omega⟩,Round_lit (k+1,w.2,_++[d.1]) ⟨Le_lit (by simp[LeL,lk,hb,hb1,hb',a7u,a9x,evl,EvC.cs,PktC.cs]),rdx,by simp only;omega⟩⟩
 ·rw[evc_ne hL]
  clear hL
  refine sxBkc ?_
  repeat' ((first|exact tt|refine c1 (q1 _) ?_|refine CallO_pure (q3) ?_|refine na fun b=>?_|refine nb fun b hb=>?_|refine iq ?_|(refine jq ?_ ?_<;>intro h h')|refine Two_intro ?_ ?_|exact wZ|fail)<;>try refine sxBkc ?_)
  rename_i b' hb'
  have hel:=a0D L
  exact ⟨⟨by omega,by have:=a9H;omega⟩,Round_lit (k+1,w.2,_++[d.1]) ⟨Le_lit (by simp[LeL,lk,hb,hb1,hb',a7u,a9x,evl,EvC.cs,PktC.cs]),rdx,by simp only;omega⟩⟩
end
section
open Go.RowKit
abbrev Wd:=BitVec 32
def wI(x:Wd):Int:=(x.toNat:Int)
abbrev aW(x:Wd):AV:=.int .u32 (wI x)
theorem wrap_u32(n:Int):IntKind.wrap .u32 n=n % 4294967296:=rfl
theorem b9C(x:Wd):0≤wI x∧wI x<4294967296:=by
 have:=x.isLt
 unfold wI;omega
theorem b2z(x:Wd):wI x % 4294967296=wI x:=Int.emod_eq_of_lt (b9C x).1 (b9C x).2
theorem b7O(x:Wd):BitVec.ofInt 32 (wI x)=x:=by
 unfold wI;simp
theorem b4m(x y:Wd):IntKind.wrap .u32 (wI x+wI y)=wI (x+y):=by
 rw[wrap_u32];unfold wI;rw[BitVec.toNat_add];omega
theorem b4p(x y:Wd):IntKind.wrap .u32 ((BitVec.ofInt (IntKind.bits .u32) (wI x) ^^^ BitVec.ofInt (IntKind.bits .u32) (wI y)).toNat)=wI (x ^^^ y):=by
 show IntKind.wrap .u32 (((BitVec.ofInt 32 (wI x)) ^^^ (BitVec.ofInt 32 (wI y))).toNat:Int)=_
 rw[b7O,b7O,wrap_u32];exact b2z _
theorem b4n(x y:Wd):IntKind.wrap .u32 ((BitVec.ofInt (IntKind.bits .u32) (wI x) &&& BitVec.ofInt (IntKind.bits .u32) (wI y)).toNat)=wI (x &&& y):=by
 show IntKind.wrap .u32 (((BitVec.ofInt 32 (wI x)) &&& (BitVec.ofInt 32 (wI y))).toNat:Int)=_
 rw[b7O,b7O,wrap_u32];exact b2z _
theorem b6o(x y:Wd):IntKind.wrap .u32 ((BitVec.ofInt (IntKind.bits .u32) (wI x) ||| BitVec.ofInt (IntKind.bits .u32) (wI y)).toNat)=wI (x ||| y):=by
 show IntKind.wrap .u32 (((BitVec.ofInt 32 (wI x)) ||| (BitVec.ofInt 32 (wI y))).toNat:Int)=_
 rw[b7O,b7O,wrap_u32];exact b2z _
theorem b4o(x:Wd):IntKind.wrap .u32 ((BitVec.ofInt (IntKind.bits .u32) (if IntKind.signed .u32=true then -1 else IntKind.max .u32) ^^^ BitVec.ofInt (IntKind.bits .u32) (wI x)).toNat)=wI (~~~x):=by
 show IntKind.wrap .u32 (((BitVec.ofInt 32 4294967295) ^^^ (BitVec.ofInt 32 (wI x))).toNat:Int)=_
 rw[b7O,wrap_u32,show BitVec.ofInt 32 4294967295=BitVec.allOnes 32 from rfl,BitVec.allOnes_xor];exact b2z _
theorem a9Y(m:Nat):((2:Int) ^ m)=((2 ^ m:Nat):Int):=by
 induction m with
 | zero=>rfl
 | succ m ih=>rw[Int.pow_succ,ih,Nat.pow_succ];rfl
theorem a7s(x:Wd)(n:Nat):(wI x).fdiv (2 ^ (min n (IntKind.bits .u32)))=wI (x >>> n):=by
 show (wI x).fdiv (2 ^ (min n 32))=_
 unfold wI
 rw[BitVec.toNat_ushiftRight,Nat.shiftRight_eq_div_pow,a9Y,Int.fdiv_eq_ediv_of_nonneg _ (Int.natCast_nonneg _)]
 have key:x.toNat / 2 ^ (min n 32)=x.toNat / 2 ^ n:=by
  rcases Nat.le_total n 32 with h|h
  ·rw[Nat.min_eq_left h]
  ·rw[Nat.min_eq_right h,Nat.div_eq_of_lt x.isLt,Nat.div_eq_of_lt (Nat.lt_of_lt_of_le x.isLt (Nat.pow_le_pow_right (by omega) h))]
 rw[← key];rfl
theorem b1b(x:Wd)(n:Nat):IntKind.wrap .u32 (wI x * 2 ^ (min n (IntKind.bits .u32)))=wI (x <<< n):=by
 show IntKind.wrap .u32 (wI x * 2 ^ (min n 32))=_
 rw[wrap_u32]
 unfold wI
 rw[BitVec.toNat_shiftLeft,Nat.shiftLeft_eq,a9Y]
 have key:x.toNat * 2 ^ (min n 32) % 4294967296=x.toNat * 2 ^ n % 2 ^ 32:=by
  rcases Nat.le_total n 32 with h|h
  ·rw[Nat.min_eq_left h]
  ·rw[Nat.min_eq_right h]
   have h1:x.toNat * 2 ^ n % 2 ^ 32=0:=by
    rw[show n=32+(n - 32) by omega,Nat.pow_add, ← Nat.mul_assoc,Nat.mul_right_comm]
    exact Nat.mul_mod_left _ _
   rw[h1];exact Nat.mul_mod_left _ _
 rw[← key];rfl
theorem b9D(b:UInt8):IntKind.wrap .u32 (b.toNat:Int)=wI (BitVec.ofNat 32 b.toNat):=by
 rw[wrap_u32];unfold wI
 have:=b.toNat_lt
 rw[BitVec.toNat_ofNat];omega
def wB(x:Wd):UInt8:=UInt8.ofNat x.toNat
theorem b5J(x:Wd):IntKind.wrap .u8 (wI x)=((wB x).toNat:Int):=by
 show wI x % 256=_
 unfold wB wI
 rw[UInt8.toNat_ofNat'];omega
def rot(x:Wd)(n:Nat):Wd:=(x <<< (32 - n)) ||| (x >>> n)
theorem c0U(x:Wd)(n:Nat):(x >>> n) ||| (x <<< (32 - n))=rot x n:=BitVec.or_comm _ _
structure S8 where
 a:Wd
 b:Wd
 c:Wd
 d:Wd
 e:Wd
 f:Wd
 g:Wd
 h:Wd
abbrev S8.l(s:S8):List Wd:=[s.a,s.b,s.c,s.d,s.e,s.f,s.g,s.h]
abbrev S8.c8(s:S8):List AV:=[aW s.a,aW s.b,aW s.c,aW s.d,aW s.e,aW s.f,aW s.g,aW s.h]
def stepT(s:S8)(k w:Wd):Wd:=s.h+((rot s.e 6 ^^^ rot s.e 11) ^^^ rot s.e 25)+((s.e &&& s.f) ^^^ (~~~s.e &&& s.g))+k+w
def b7z(s:S8):Wd:=((rot s.a 2 ^^^ rot s.a 13) ^^^ rot s.a 22)+(((s.a &&& s.b) ^^^ (s.a &&& s.c)) ^^^ (s.b &&& s.c))
def b4h(s:S8)(k w:Wd):S8:=⟨stepT s k w+b7z s,s.a,s.b,s.c,s.d+stepT s k w,s.e,s.f,s.g⟩
def b2F(b:List UInt8)(i:Nat):Wd:=BitVec.ofNat 32 (b.getD i 0).toNat
def b5O(b:List UInt8)(i:Nat):Wd:=((b2F b (4 * i) <<< 24 ||| b2F b (4 * i+1) <<< 16) ||| b2F b (4 * i+2) <<< 8) ||| b2F b (4 * i+3)
def nxW(l:List Wd)(i:Nat):Wd:=l.getD (i - 16) 0+((rot (l.getD (i - 15) 0) 7 ^^^ rot (l.getD (i - 15) 0) 18) ^^^ (l.getD (i - 15) 0) >>> 3)+l.getD (i - 7) 0+((rot (l.getD (i - 2) 0) 17 ^^^ rot (l.getD (i - 2) 0) 19) ^^^ (l.getD (i - 2) 0) >>> 10)
def sched(b:List UInt8):Nat→List Wd
 | 0=>[]
 | i+1=>sched b i++[if i<16 then b5O b i else nxW (sched b i) i]
theorem a1C(b:List UInt8)(n:Nat):(sched b n).length=n:=by
 induction n with
 | zero=>rfl
 | succ n ih=>simp[sched,ih]
def a7z(b:List UInt8)(n:Nat):List Wd:=sched b n++List.replicate (64 - n) 0
theorem a7A(b:List UInt8)(n:Nat)(h:n≤64):(a7z b n).length=64:=by simp[a7z,a1C];omega
theorem b5v(b:List UInt8)(n i:Nat)(h:i<n):(a7z b n).getD i 0=(sched b n).getD i 0:=by
 simp only[a7z,List.getD]
 rw[List.getElem?_append_left (by rw[a1C];exact h)]
theorem a7B(b:List UInt8)(n:Nat)(h:n<64)(x:Wd)(hx:x=if n<16 then b5O b n else nxW (sched b n) n):(a7z b n).set n x=a7z b (n+1):=by
 subst hx
 unfold a7z
 rw[List.set_append_right _ _ (by rw[a1C];exact Nat.le_refl n),a1C,Nat.sub_self,show 64 - n=(64 - (n+1))+1 by omega,List.replicate_succ,List.set_cons_zero,sched]
 simp
def shaK:List Wd:=[
  0x428a2f98,0x71374491,0xb5c0fbcf,0xe9b5dba5,0x3956c25b,0x59f111f1,0x923f82a4,0xab1c5ed5,
  0xd807aa98,0x12835b01,0x243185be,0x550c7dc3,0x72be5d74,0x80deb1fe,0x9bdc06a7,0xc19bf174,
  0xe49b69c1,0xefbe4786,0x0fc19dc6,0x240ca1cc,0x2de92c6f,0x4a7484aa,0x5cb0a9dc,0x76f988da,
  0x983e5152,0xa831c66d,0xb00327c8,0xbf597fc7,0xc6e00bf3,0xd5a79147,0x06ca6351,0x14292967,
  0x27b70a85,0x2e1b2138,0x4d2c6dfc,0x53380d13,0x650a7354,0x766a0abb,0x81c2c92e,0x92722c85,
  0xa2bfe8a1,0xa81a664b,0xc24b8b70,0xc76c51a3,0xd192e819,0xd6990624,0xf40e3585,0x106aa070,
  0x19a4c116,0x1e376c08,0x2748774c,0x34b0bcb5,0x391c0cb3,0x4ed8aa4a,0x5b9cca4f,0x682e6ff3,
  0x748f82ee,0x78a5636f,0x84c87814,0x8cc70208,0x90befffa,0xa4506ceb,0xbef9a3f7,0xc67178f2]
def sha0:S8:=⟨0x6a09e667,0xbb67ae85,0x3c6ef372,0xa54ff53a,0x510e527f,0x9b05688c,0x1f83d9ab,0x5be0cd19⟩
def b1f(s:S8)(W:List Wd):Nat→S8
 | 0=>s
 | i+1=>b4h (b1f s W i) (shaK.getD i 0) (W.getD i 0)
def b6s(s t:S8):S8:=⟨s.a+t.a,s.b+t.b,s.c+t.c,s.d+t.d,s.e+t.e,s.f+t.f,s.g+t.g,s.h+t.h⟩
def b6M(s:S8)(b:List UInt8):S8:=b6s s (b1f s (sched b 64) 64)
def a9j(b:List UInt8):Nat→S8
 | 0=>sha0
 | n+1=>b6M (a9j b n) ((b.drop (64 * n)).take 64)
def len8(n:Nat):List UInt8:=(List.range 8).map fun k=>UInt8.ofNat (n * 8 / 2 ^ (8 * (7 - k)))
def a3K(s:List UInt8):List UInt8:=s++(128::List.replicate ((119 - s.length % 64) % 64) 0++len8 s.length)
def b6a(s:S8)(i:Nat):UInt8:=wB ((s.l.getD (i / 4) 0) >>> (24 - 8 * (i % 4)))
def a6p(s:S8):List UInt8:=(List.range 32).map (b6a s)
def a9V(s:S8)(i:Nat):List UInt8:=(List.range i).map (b6a s)++List.replicate (32 - i) 0
theorem a7w(s:S8)(i:Nat)(h:i≤32):(a9V s i).length=32:=by simp[a9V];omega
theorem b2b(s:S8)(i:Nat)(h:i<32)(x:UInt8)(hx:x=b6a s i):(a9V s i).set i x=a9V s (i+1):=by
 subst hx
 unfold a9V
 have e:((List.range i).map (b6a s)).length=i:=by simp
 rw[List.set_append_right _ _ (by rw[e];exact Nat.le_refl i),e,Nat.sub_self,show 32 - i=(32 - (i+1))+1 by omega,List.replicate_succ,List.set_cons_zero,List.range_succ]
 simp
theorem b2a(s:S8):a9V s 32=a6p s:=by simp[a9V,a6p]
def b5x(s:List UInt8):List UInt8:=a6p (a9j (a3K s) ((a3K s).length / 64))
theorem a6m(s:List UInt8):(b5x s).length=32:=by simp[b5x,a6p]
theorem b2k(s:List UInt8):(a3K s).length=64 * ((a3K s).length / 64)∧64≤(a3K s).length:=by
 have h:(a3K s).length=s.length+(1+(119 - s.length % 64) % 64+8):=by simp[a3K,len8];omega
 omega
end
section
open Go.RowKit
set_option maxRecDepth 100000
theorem b6U(own:Option Nat)(z:List UInt8)(l:List (List UInt8))(hn:l.length≤140737488355328)(hl:(Lib.join l z).length≤140737488355328):CP Tryz.prog 274 [.sl own 1 (l.map fun p=>[AV.str p]),.str z] (.str (Lib.join l z)):=by
 intro W U us hG hlen hu
 match us,hlen with
 | [v,w],_=>
  have hw:=(hu 1 w _ rfl rfl).str_inv
  subst hw
  have hv:=hu 0 v _ rfl rfl
  generalize hels:(l.map fun p=>[AV.str p])=els at hv
  cases hv with
  | sl A cap _ _ b o _ f hcap hmax hA hs hc hvv=>
   by_cases h0:l=[]
   ·subst h0
    simp at hels
    subst hels
    refine (Tryz.strings_Join_none A cap ⟨z.toArray⟩ W).mono ?_
    rintro e W' ⟨rfl,rfl⟩
    exact ⟨_,U,rfl,.str [],trivial,Ext.refl _ _⟩
   ·have hll:els.length=l.length:=by simp[← hels]
    have hlt:0<els.length:=by rw[hll];exact List.length_pos_iff.2 h0
    obtain rfl:=hA hlt
    have hx:els.length=(l.map fun p=>(⟨p.toArray⟩:ByteArray)).length:=by simp[hll]
    have hj:((l.map fun p=>(⟨p.toArray⟩:ByteArray)).map (·.data.toList))=l:=by simp[List.map_map,Function.comp_def]
    have hbk:b<W.heap.size:=World.block_lt_of_cell? W ⟨b,o+0 * 1+0,none⟩ (hc 0 0 hlt (by omega)).1
    have:=Tryz.strings_Join b o cap (l.map fun p=>(⟨p.toArray⟩:ByteArray)) ⟨z.toArray⟩ W (fun j x hx=>by
     simp only[List.getElem?_map,Option.map_eq_some_iff]at hx
     obtain ⟨p,hp,rfl⟩:=hx
     have hjl:j<els.length:=by rw[hll];exact (List.getElem?_eq_some_iff.1 hp).1
     have h1:=(hc j 0 hjl (by omega)).1
     have h2:=hvv j [AV.str p] 0 (.str p) (by rw[← hels];simp[hp]) rfl
     rw[show o+j * 1+0=o+j by omega]at h1
     rw[h1]
     generalize f j 0=y at h2
     cases h2
     rfl) hbk (by rw[← hx,hll];exact hn) (by rw[← hx];exact hcap) (by rw[hj];exact hl)
    rw[hj, ← hx]at this
    refine this.mono ?_
    rintro e W' ⟨rfl,hB⟩
    exact ⟨_,U,rfl,.str _,trivial,⟨hB,fun _ _ _=>Iff.rfl⟩⟩
theorem a5S:∀ l:List (List UInt8),Lib.join l []=l.flatten
 | []=>rfl
 | [x]=>by simp[Lib.join,List.intercalate]
 | x::y::l=>by
  have:=a5S (y::l)
  simp only[Lib.join,List.intercalate]at this ⊢
  simp[List.intersperse,this]
theorem b2m:∀ n,Lib.repeatL [0] n=List.replicate n 0
 | 0=>rfl
 | n+1=>by rw[Lib.repeatL,b2m n,List.replicate_succ];rfl
theorem b8D(n:Nat)(hn:n≤1000000):CP Tryz.prog 275 [.str [0],.int .i64 (n:Int)] (.str (List.replicate n 0)):=
 CP_lib (vs:=[.string ⟨#[0]⟩,.int .i64 (n:Int)]) (v:=.string ⟨(List.replicate n (0:UInt8)).toArray⟩) rfl (by simp) rfl fun W=>
  (Tryz.strings_Repeat ⟨#[0]⟩ n W (by omega) (by have:(⟨#[0]⟩:ByteArray).size=1:=rfl;rw[this];omega)).mono fun e w' ⟨h1,h2⟩=>⟨by rw[h1, ← b2m],h2⟩
theorem b8V:∀ a:Fin 32,1≤a.val→IntKind.wrap .u64 ((BitVec.ofInt 64 (IntKind.wrap .u64 (0 - (a.val:Int))) &&& BitVec.ofInt 64 31).toNat:Int)=((32 - a.val:Nat):Int):=by decide
theorem rl1(a:Nat)(h:1≤a∧a≤31):IntKind.wrap .u64 ((BitVec.ofInt (IntKind.bits .u64) (IntKind.wrap .u64 (0 - (a:Int))) &&& BitVec.ofInt (IntKind.bits .u64) 31).toNat:Int)=((32 - a:Nat):Int):=b8V ⟨a,by omega⟩ h.1
theorem rl2(a:Nat)(h:1≤a∧a≤31):IntKind.wrap .u64 (32 - ((32 - a:Nat):Int))=(a:Int):=by
 show (32 - ((32 - a:Nat):Int)) % 18446744073709551616=a
 omega
theorem nn(n:Nat):(0≤(n:Int))=True:=by simp
theorem b6j(x:Wd)(a:Nat):(x <<< (32 - a)) ||| (x >>> a)=rot x a:=rfl
theorem sxShj{A B:Prop}(h:B)(e:A=B:=by (simp (disch:=omega) only[*, ↓Ed,Eu, ↓reduceIte,reduceCtorEq,Nat.reduceAdd,Nat.reduceEqDiff,Nat.reduceLT,Nat.reduceLeDiff,Int.reduceToNat,Int.reduceEq,Int.reduceLT,Int.reduceLE,w64,List.length_append,List.length_map,b6o,b1b,a7s,Int.toNat_natCast,nn,b6j];first|done|rfl)):A:=e▸h
theorem b0R(x:Wd)(a:Nat)(h:1≤a∧a≤31):CP Tryz.prog 325 [aW x,.int .i64 (0 - (a:Int))] (aW (rot x a)):=by
 refine a4O _ _ (by simp) ?_
 simp only[a2L,rl1 a h,rl2 a h,b6o,b1b,a7s,Int.toNat_natCast,nn, ↓Ed,Eu, ↓reduceIte,reduceCtorEq,Nat.reduceAdd,Nat.reduceEqDiff,Nat.reduceLT,Nat.reduceLeDiff,Int.reduceToNat,Int.reduceEq,Int.reduceLT,Int.reduceLE,w64,List.length_append,List.length_map,b6o,b1b,a7s,Int.toNat_natCast,nn,b6j]
 repeat' ((first|exact tt|refine na fun b=>?_|refine nb fun b hb=>?_|refine iq ?_|(refine jq ?_ ?_<;>intro h h')|refine Two_intro ?_ ?_|exact wZ|fail)<;>try refine sxShj ?_)
end
section
open Go.RowKit
set_option maxRecDepth 100000
abbrev z64:List AV:=[.int .u32 0,.int .u32 0,.int .u32 0,.int .u32 0,.int .u32 0,.int .u32 0,.int .u32 0,.int .u32 0,.int .u32 0,.int .u32 0,.int .u32 0,.int .u32 0,.int .u32 0,.int .u32 0,.int .u32 0,.int .u32 0,.int .u32 0,.int .u32 0,.int .u32 0,.int .u32 0,.int .u32 0,.int .u32 0,.int .u32 0,.int .u32 0,.int .u32 0,.int .u32 0,.int .u32 0,.int .u32 0,.int .u32 0,.int .u32 0,.int .u32 0,.int .u32 0,.int .u32 0,.int .u32 0,.int .u32 0,.int .u32 0,.int .u32 0,.int .u32 0,.int .u32 0,.int .u32 0,.int .u32 0,.int .u32 0,.int .u32 0,.int .u32 0,.int .u32 0,.int .u32 0,.int .u32 0,.int .u32 0,.int .u32 0,.int .u32 0,.int .u32 0,.int .u32 0,.int .u32 0,.int .u32 0,.int .u32 0,.int .u32 0,.int .u32 0,.int .u32 0,.int .u32 0,.int .u32 0,.int .u32 0,.int .u32 0,.int .u32 0,.int .u32 0]
theorem b6q(s:List UInt8):(a7z s 0).map aW=z64:=rfl
theorem b2q:([.int .u32 1116352408,.int .u32 1899447441,.int .u32 3049323471,.int .u32 3921009573,.int .u32 961987163,.int .u32 1508970993,.int .u32 2453635748,.int .u32 2870763221,.int .u32 3624381080,.int .u32 310598401,.int .u32 607225278,.int .u32 1426881987,.int .u32 1925078388,.int .u32 2162078206,.int .u32 2614888103,.int .u32 3248222580,.int .u32 3835390401,.int .u32 4022224774,.int .u32 264347078,.int .u32 604807628,.int .u32 770255983,.int .u32 1249150122,.int .u32 1555081692,.int .u32 1996064986,.int .u32 2554220882,.int .u32 2821834349,.int .u32 2952996808,.int .u32 3210313671,.int .u32 3336571891,.int .u32 3584528711,.int .u32 113926993,.int .u32 338241895,.int .u32 666307205,.int .u32 773529912,.int .u32 1294757372,.int .u32 1396182291,.int .u32 1695183700,.int .u32 1986661051,.int .u32 2177026350,.int .u32 2456956037,.int .u32 2730485921,.int .u32 2820302411,.int .u32 3259730800,.int .u32 3345764771,.int .u32 3516065817,.int .u32 3600352804,.int .u32 4094571909,.int .u32 275423344,.int .u32 430227734,.int .u32 506948616,.int .u32 659060556,.int .u32 883997877,.int .u32 958139571,.int .u32 1322822218,.int .u32 1537002063,.int .u32 1747873779,.int .u32 1955562222,.int .u32 2024104815,.int .u32 2227730452,.int .u32 2361852424,.int .u32 2428436474,.int .u32 2756734187,.int .u32 3204031479,.int .u32 3329325298]:List AV)=shaK.map aW:=rfl
end
section
open Go.RowKit
set_option maxRecDepth 100000
theorem c2a(i:Nat):(4 * (i:Int)).toNat=4 * i:=by omega
theorem b9y(i:Nat):(4 * (i:Int)+1).toNat=4 * i+1:=by omega
theorem b9z(i:Nat):(4 * (i:Int)+2).toNat=4 * i+2:=by omega
theorem b9A(i:Nat):(4 * (i:Int)+3).toNat=4 * i+3:=by omega
theorem c0v(i k:Nat):((i:Int) - (k:Int)).toNat=i - k:=by omega
theorem b8o(i:Nat):((i:Int) - 16).toNat=i - 16:=by omega
theorem b8p(i:Nat):((i:Int) - 15).toNat=i - 15:=by omega
theorem b8q(i:Nat):((i:Int) - 7).toNat=i - 7:=by omega
theorem c1Z(i:Nat):((i:Int) - 2).toNat=i - 2:=by omega
theorem b0l(l:List Wd)(i:Nat)(hi:i<l.length)(K:AV→Prop):RK (ldR none ((l.map aW).drop i)) K=K (aW (l.getD i 0)):=by
 rw[List.drop_eq_getElem_cons (by simpa using hi)]
 apply propext
 simp[RK,ldR,AV.alias,List.getD,hi]
theorem a9s(l:List Wd)(i:Nat)(x:Wd)(hi:i<l.length):splice (l.map aW) i [aW x]=(l.set i x).map aW:=by
 induction l generalizing i with
 | nil=>simp at hi
 | cons y l ih=>cases i with
  | zero=>simp[splice]
  | succ i=>simp only[List.map_cons,splice,List.set_cons_succ];rw[ih i (by simpa using hi)]
theorem b6l(s:List UInt8)(i n:Nat)(h:n<i∧i≤64)(K:AV→Prop):RK (ldR none (((a7z s i).map aW).drop n)) K=K (aW ((sched s i).getD n 0)):=by
 rw[b0l _ _ (by rw[a7A s i h.2];omega),b5v s i n h.1]
theorem a3F(s:List UInt8)(i:Nat)(h:i≤64):((a7z s i).map aW).length=64:=by rw[List.length_map,a7A s i h]
theorem a2w:∀ (z X:List AV),z.length=X.length→splice z 0 X=X
 | [],[],_=>rfl
 | [],_::_,h=>by simp at h
 | _::_,[],h=>by simp at h
 | _::z,x::X,h=>by
  show x::splice z 0 X=x::X
  rw[a2w z X (by simpa using h)]
theorem a6I(l:List Wd):(l.map aW).map AV.store=l.map aW:=by
 rw[List.map_map];rfl
theorem sxSha{A B:Prop}(h:B)(e:A=B:=by (simp (disch:=omega) only[*, ↓Ed,Eu, ↓reduceIte,reduceCtorEq,Nat.reduceAdd,Nat.reduceEqDiff,Nat.reduceLT,Nat.reduceLeDiff,Int.reduceToNat,Int.reduceEq,Int.reduceLT,Int.reduceLE,w64,List.length_append,List.length_map,b6o,b4n,b4p,b4m,b4o,b1b,a7s,b9D,Int.toNat_natCast,nn,c0v,b8o,b8p,b8q,c1Z,c2a,b9y,b9z,b9A,Nat.mul_one,Nat.zero_add,Int.reduceAdd,b6l,a3F];first|done|rfl)):A:=e▸h
theorem b6f(w:Wd)(a b c:Nat)(ha:1≤a∧a≤31)(hb:1≤b∧b≤31)(hc:1≤c∧c≤31):CP Tryz.prog 306 [aW w,.int .i64 (a:Int),.int .i64 (b:Int),.int .i64 (c:Int)] (aW ((rot w a ^^^ rot w b) ^^^ rot w c)):=by
 refine b1q _ _ (by simp) ?_
 simp only[a8X];refine sxSha ?_
 repeat' ((first|exact tt|refine CallO_pure (b0R w a ha) ?_|refine CallO_pure (b0R w b hb) ?_|refine CallO_pure (b0R w c hc) ?_|refine na fun b=>?_|refine nb fun b hb=>?_|refine iq ?_|(refine jq ?_ ?_<;>intro h h')|refine Two_intro ?_ ?_|exact wZ|fail)<;>try refine sxSha ?_)
theorem b4b(w:Wd)(a b c:Nat)(ha:1≤a∧a≤31)(hb:1≤b∧b≤31):CP Tryz.prog 324 [aW w,.int .i64 (a:Int),.int .i64 (b:Int),.int .i64 (c:Int)] (aW ((rot w a ^^^ rot w b) ^^^ w >>> c)):=by
 refine b0J _ _ (by simp) ?_
 simp only[a7K];refine sxSha ?_
 repeat' ((first|exact tt|refine CallW_intro (b0R w a ha) ?_|refine CallW_intro (b0R w b hb) ?_|refine na fun b=>?_|refine nb fun b hb=>?_|refine iq ?_|(refine jq ?_ ?_<;>intro h h')|refine Two_intro ?_ ?_|exact wZ|fail)<;>try refine sxSha ?_)
theorem b5l(w:Wd):CP Tryz.prog 324 [aW w,.int .i64 7,.int .i64 18,.int .i64 3] (aW ((rot w 7 ^^^ rot w 18) ^^^ w >>> 3)):=b4b w 7 18 3 (by omega) (by omega)
theorem b5m(w:Wd):CP Tryz.prog 324 [aW w,.int .i64 17,.int .i64 19,.int .i64 10] (aW ((rot w 17 ^^^ rot w 19) ^^^ w >>> 10)):=b4b w 17 19 10 (by omega) (by omega)
theorem b5n(s:List UInt8)(hs:s.length=64):CP Tryz.prog 305 [.str s] (.agg ((sched s 64).map aW)):=by
 refine a9S _ _ (by simp) ?_
 simp only[a6T];refine sxSha ?_
 repeat' ((first|exact tt|refine na fun b=>?_|refine nb fun b hb=>?_|refine iq ?_|(refine jq ?_ ?_<;>intro h h')|refine Two_intro ?_ ?_|exact wZ|fail)<;>try refine sxSha ?_)
 rename_i r
 obtain ⟨z,hz,hzl⟩:∃ z:List AV,z64=z∧z.length=64:=⟨_,rfl,rfl⟩
 refine wpx_loop (fun i:Nat=>⟨lk [(0,.str s),(2,.ptr r 0),(3,.ptr b 0),(5,.int .i64 (i:Int))],lk [(r,z),(b,(a7z s i).map aW)]⟩) (fun i=>i≤64) (fun i=>64 - i) 0 (by omega) (Le_lit (by rw[← hz,b6q s];simp[LeL,lk,hb])) ?_
 clear hz
 intro i hi
 by_cases hlt:i<64
 ·have f1:a0a (decide ((i:Int)<64)=true):=fo
  have l64:(a7z s i).length=64:=a7A s i hi
  by_cases h16:i<16
  ·have f2:a0a (decide ((i:Int)<16)=true):=fo
   have hS:=a9s (a7z s i) i (b5O s i) (by omega)
   rw[a7B s i hlt (b5O s i) (by rw[if_pos h16])]at hS
   have hX:=a3F s i hi
   generalize (a7z s i).map aW=X at *
   clear l64
   simp only[b5O,b2F]at hS
   refine sxSha ?_
   repeat' ((first|exact tt|refine na fun b=>?_|refine nb fun b hb=>?_|refine iq ?_|(refine jq ?_ ?_<;>intro h h')|refine Two_intro ?_ ?_|exact wZ|fail)<;>try refine sxSha ?_)
   all_goals exact Round_lit (i+1) ⟨Le_lit (by simp[LeL,lk,hb]),by omega,by omega⟩
  ·have f2:a0a (decide ((i:Int)<16)=false):=fo
   have hS:=a9s (a7z s i) i (nxW (sched s i) i) (by omega)
   rw[a7B s i hlt (nxW (sched s i) i) (by rw[if_neg h16])]at hS
   have hX:=a3F s i hi
   clear l64
   simp only[nxW]at hS
   refine sxSha ?_
   repeat' ((first|exact tt|refine CallW_intro (b5l _) ?_|refine CallW_intro (b5m _) ?_|refine na fun b=>?_|refine nb fun b hb=>?_|refine iq ?_|(refine jq ?_ ?_<;>intro h h')|refine Two_intro ?_ ?_|exact wZ|fail)<;>try refine sxSha ?_)
   all_goals exact Round_lit (i+1) ⟨Le_lit (by simp[LeL,lk,hb]),by omega,by omega⟩
 ·have f1:a0a (decide ((i:Int)<64)=false):=fo
  obtain rfl:i=64:=by omega
  have hX:(a7z s 64)=sched s 64:=by simp[a7z]
  have hL:((sched s 64).map aW).length=64:=by rw[List.length_map,a1C]
  rw[hX]
  have hT:List.take 64 ((sched s 64).map aW)=(sched s 64).map aW:=List.take_of_length_le (by omega)
  have hP:=a2w z ((sched s 64).map aW) (by omega)
  have hS:=a6I (sched s 64)
  clear hX
  generalize (sched s 64).map aW=X at *
  refine sxSha ?_
  repeat' ((first|exact tt|refine na fun b=>?_|refine nb fun b hb=>?_|refine iq ?_|(refine jq ?_ ?_<;>intro h h')|refine Two_intro ?_ ?_|exact wZ|fail)<;>try refine sxSha ?_)
end
section
open Go.RowKit
set_option maxRecDepth 100000
theorem b5u(s:List UInt8)(n:Nat)(h:n<64)(K:AV→Prop):RK (ldR none (((sched s 64).map aW).drop n)) K=K (aW ((sched s 64).getD n 0)):=b0l _ _ (by rw[a1C];exact h) K
theorem b9O(n:Nat)(h:n<64)(K:AV→Prop):RK (ldR none ((shaK.map aW).drop n)) K=K (aW (shaK.getD n 0)):=b0l _ _ h K
theorem b7o(w:Wd):CP Tryz.prog 306 [aW w,.int .i64 6,.int .i64 11,.int .i64 25] (aW ((rot w 6 ^^^ rot w 11) ^^^ rot w 25)):=b6f w 6 11 25 (by omega) (by omega) (by omega)
theorem b7p(w:Wd):CP Tryz.prog 306 [aW w,.int .i64 2,.int .i64 13,.int .i64 22] (aW ((rot w 2 ^^^ rot w 13) ^^^ rot w 22)):=b6f w 2 13 22 (by omega) (by omega) (by omega)
def a6L(h s:S8)(i:Nat):List AV:=[aW (if 0<i then h.a+s.a else h.a),aW (if 1<i then h.b+s.b else h.b),aW (if 2<i then h.c+s.c else h.c),aW (if 3<i then h.d+s.d else h.d),
 aW (if 4<i then h.e+s.e else h.e),aW (if 5<i then h.f+s.f else h.f),aW (if 6<i then h.g+s.g else h.g),aW (if 7<i then h.h+s.h else h.h)]
abbrev z8:List AV:=[.int .u32 0,.int .u32 0,.int .u32 0,.int .u32 0,.int .u32 0,.int .u32 0,.int .u32 0,.int .u32 0]
theorem sxShb{A B:Prop}(h:B)(e:A=B:=by (simp (disch:=omega) only[*, ↓Ed,Eu, ↓reduceIte,reduceCtorEq,Nat.reduceAdd,Nat.reduceEqDiff,Nat.reduceLT,Nat.reduceLeDiff,Int.reduceToNat,Int.reduceEq,Int.reduceLT,Int.reduceLE,w64,List.length_append,List.length_map,b6o,b4n,b4p,b4m,b4o,b1b,a7s,b9D,Int.toNat_natCast,nn,Nat.mul_one,Nat.zero_add,Int.reduceAdd,b5u,b9O,a1C,S8.c8,a6L];first|done|rfl)):A:=e▸h
set_option maxHeartbeats 2000000 in
theorem c0M(h:S8)(c:List UInt8)(hc:c.length=64):CP Tryz.prog 278 [.agg h.c8,.str c] (.agg (b6M h c).c8):=by
 refine b2R _ _ (by simp) ?_
 have hS:=b5n c hc
 simp (disch:=omega) only[b0o,b2q, ↓Ed,Eu, ↓reduceIte,reduceCtorEq,Nat.reduceAdd,Nat.reduceEqDiff,Nat.reduceLT,Nat.reduceLeDiff,Int.reduceToNat,Int.reduceEq,Int.reduceLT,Int.reduceLE,w64,List.length_append,List.length_map,b6o,b4n,b4p,b4m,b4o,b1b,a7s,b9D,Int.toNat_natCast,nn,Nat.mul_one,Nat.zero_add,Int.reduceAdd,b5u,b9O,a1C,S8.c8,a6L]
 repeat' ((first|exact tt|refine CallO_pure (hS) ?_|refine na fun b=>?_|refine nb fun b hb=>?_|refine iq ?_|(refine jq ?_ ?_<;>intro h h')|refine Two_intro ?_ ?_|exact wZ|fail)<;>try refine sxShb ?_)
 rename_i bh br hbr
 clear hS
 have hL:((sched c 64).map aW).length=64:=by rw[List.length_map,a1C]
 refine wpx_loop (fun i:Nat=>⟨lk [(2,.ptr bh 0),(4,.ptr br 0),(5,.ptr b 0),(13,.agg ((sched c 64).map aW)),(14,.int .i64 (i:Int))],lk [(bh,h.c8),(br,z8),(b,(b1f h (sched c 64) i).c8)]⟩) (fun i=>i≤64) (fun i=>64 - i) 0 (by omega) (Le_lit (by simp[LeL,lk,hb,hbr,b1f])) ?_
 intro i hi
 by_cases hlt:i<64
 ·have f1:a0a (decide ((i:Int)<64)=true):=fo
  have hR:b1f h (sched c 64) (i+1)=b4h (b1f h (sched c 64) i) (shaK.getD i 0) ((sched c 64).getD i 0):=rfl
  generalize b1f h (sched c 64) i=S at *
  simp (disch:=omega) only[hb,hbr,hL,b2q, ↓Ed,Eu, ↓reduceIte,reduceCtorEq,Nat.reduceAdd,Nat.reduceEqDiff,Nat.reduceLT,Nat.reduceLeDiff,Int.reduceToNat,Int.reduceEq,Int.reduceLT,Int.reduceLE,w64,List.length_append,List.length_map,b6o,b4n,b4p,b4m,b4o,b1b,a7s,b9D,Int.toNat_natCast,nn,Nat.mul_one,Nat.zero_add,Int.reduceAdd,b5u,b9O,a1C,S8.c8,a6L]
  repeat' ((first|exact tt|refine CallW_intro (b7o _) ?_|refine CallW_intro (b7p _) ?_|refine na fun b=>?_|refine nb fun b hb=>?_|refine iq ?_|(refine jq ?_ ?_<;>intro h h')|refine Two_intro ?_ ?_|exact wZ|fail)<;>try refine sxShb ?_)
  all_goals exact Round_lit (i+1) ⟨Le_lit (by simp[-List.getD_eq_getElem?_getD,LeL,lk,hb,hbr,hR,b4h,stepT,b7z]),by omega,by omega⟩
 have f1:a0a (decide ((i:Int)<64)=false):=fo
 obtain rfl:i=64:=by omega
 have hM:b6M h c=b6s h (b1f h (sched c 64) 64):=rfl
 rw[hM]
 generalize b1f h (sched c 64) 64=S at *
 clear hL hM hlt hi
 refine sxShb ?_
 repeat' ((first|exact tt|refine na fun b=>?_|refine nb fun b hb=>?_|refine iq ?_|(refine jq ?_ ?_<;>intro h h')|refine Two_intro ?_ ?_|exact wZ|fail)<;>try refine sxShb ?_)
 clear f1
 refine wpx_loop (fun i:Nat=>⟨lk [(2,.ptr bh 0),(4,.ptr br 0),(5,.ptr b 0),(85,.int .i64 (i:Int))],lk [(bh,a6L h S i),(br,z8),(b,S.c8)]⟩) (fun i=>i≤8) (fun i=>8 - i) 0 (by omega) (Le_lit (by simp[LeL,lk,hb,hbr,a6L])) ?_
 intro i hi
 by_cases hlt:i<8
 ·have hc8:i=0∨i=1∨i=2∨i=3∨i=4∨i=5∨i=6∨i=7:=by omega
  rcases hc8 with rfl|rfl|rfl|rfl|rfl|rfl|rfl|rfl
  all_goals (refine sxShb ?_;try exact tt)
  all_goals repeat' ((first|exact tt|refine na fun b=>?_|refine nb fun b hb=>?_|refine iq ?_|(refine jq ?_ ?_<;>intro h h')|refine Two_intro ?_ ?_|exact wZ|fail)<;>try refine sxShb ?_)
  all_goals first|exact Round_lit 1 ⟨Le_lit (by simp[LeL,lk,hb,hbr,a6L]),by omega,by omega⟩|exact Round_lit 2 ⟨Le_lit (by simp[LeL,lk,hb,hbr,a6L]),by omega,by omega⟩|exact Round_lit 3 ⟨Le_lit (by simp[LeL,lk,hb,hbr,a6L]),by omega,by omega⟩|exact Round_lit 4 ⟨Le_lit (by simp[LeL,lk,hb,hbr,a6L]),by omega,by omega⟩|exact Round_lit 5 ⟨Le_lit (by simp[LeL,lk,hb,hbr,a6L]),by omega,by omega⟩|exact Round_lit 6 ⟨Le_lit (by simp[LeL,lk,hb,hbr,a6L]),by omega,by omega⟩|exact Round_lit 7 ⟨Le_lit (by simp[LeL,lk,hb,hbr,a6L]),by omega,by omega⟩|exact Round_lit 8 ⟨Le_lit (by simp[LeL,lk,hb,hbr,a6L]),by omega,by omega⟩
 have f1:a0a (decide ((i:Int)<8)=false):=fo
 obtain rfl:i=8:=by omega
 have hA:a6L h S 8=(b6s h S).c8:=rfl
 rw[hA]
 generalize b6s h S=R
 clear hA hlt hi
 refine sxShb ?_
 repeat' ((first|exact tt|refine na fun b=>?_|refine nb fun b hb=>?_|refine iq ?_|(refine jq ?_ ?_<;>intro h h')|refine Two_intro ?_ ?_|exact wZ|fail)<;>try refine sxShb ?_)
end
section
open Go.RowKit
set_option maxRecDepth 100000
theorem k0:((0:Nat):Int)=0:=rfl
theorem k1:((1:Nat):Int)=1:=rfl
theorem k2:((2:Nat):Int)=2:=rfl
theorem k3:((3:Nat):Int)=3:=rfl
theorem k4:((4:Nat):Int)=4:=rfl
theorem k5n:((5:Nat):Int)=5:=rfl
theorem k6:((6:Nat):Int)=6:=rfl
theorem k7:((7:Nat):Int)=7:=rfl
def byL(n k:Nat):UInt8:=UInt8.ofNat (n * 8 / 2 ^ (8 * k))
def b3F(n i:Nat):List AV:=[byC (if 7<i then byL n 7 else 0),byC (if 6<i then byL n 6 else 0),byC (if 5<i then byL n 5 else 0),byC (if 4<i then byL n 4 else 0),byC (if 3<i then byL n 3 else 0),byC (if 2<i then byL n 2 else 0),byC (if 1<i then byL n 1 else 0),byC (if 0<i then byL n 0 else 0)]
theorem c2l(n:Nat)(h:n≤281474976710656):IntKind.wrap .u64 (IntKind.wrap .u64 (n:Int) * 2 ^ (min 3 (IntKind.bits .u64)))=((n * 8:Nat):Int):=by
 show ((n:Int) % 18446744073709551616 * 8) % 18446744073709551616=_
 omega
theorem b9P(m k:Nat):IntKind.wrap .u8 (((m:Nat):Int).fdiv (2 ^ k))=((UInt8.ofNat (m / 2 ^ k)).toNat:Int):=by
 show ((m:Int).fdiv (2 ^ k)) % 256=_
 rw[a9Y,Int.fdiv_eq_ediv_of_nonneg _ (Int.natCast_nonneg _),UInt8.toNat_ofNat']
 rfl
theorem sxShc{A B:Prop}(h:B)(e:A=B:=by (simp (disch:=omega) only[*, ↓Ed,Eu, ↓reduceIte,reduceCtorEq,Nat.reduceAdd,Nat.reduceEqDiff,Nat.reduceLT,Nat.reduceLeDiff,Int.reduceToNat,Int.reduceEq,Int.reduceLT,Int.reduceLE,w64,List.length_append,List.length_map,Int.toNat_natCast,nn,Nat.mul_one,Nat.zero_add,Int.reduceAdd,b3F,Int.reduceSub,Int.reduceMul,b9P,c2l,k0,k1,k2,k3,k4,k5n,k6,k7];first|done|rfl)):A:=e▸h
theorem b8L(n:Nat)(h:n≤281474976710656):CP Tryz.prog 276 [.int .i64 (n:Int)] (.str (len8 n)):=by
 refine a9R _ _ (by simp) ?_
 simp only[a6S];refine sxShc ?_
 repeat' ((first|exact tt|refine na fun b=>?_|refine nb fun b hb=>?_|refine iq ?_|(refine jq ?_ ?_<;>intro h h')|refine Two_intro ?_ ?_|exact wZ|fail)<;>try refine sxShc ?_)
 refine wpx_loop (fun i:Nat=>⟨lk [(0,.int .i64 (n:Int)),(3,.ptr b 0),(5,.int .i64 (i:Int))],lk [(b,b3F n i)]⟩) (fun i=>i≤8) (fun i=>8 - i) 0 (by omega) (Le_lit (by simp[LeL,lk,b3F,byC])) ?_
 intro i hi
 by_cases hlt:i<8
 ·have f1:a0a (decide ((i:Int)<8)=true):=fo
  have hc8:i=0∨i=1∨i=2∨i=3∨i=4∨i=5∨i=6∨i=7:=by omega
  rcases hc8 with rfl|rfl|rfl|rfl|rfl|rfl|rfl|rfl
  all_goals (refine sxShc ?_;try exact tt)
  all_goals repeat' ((first|exact tt|refine na fun b=>?_|refine nb fun b hb=>?_|refine iq ?_|(refine jq ?_ ?_<;>intro h h')|refine Two_intro ?_ ?_|exact wZ|fail)<;>try refine sxShc ?_)
  all_goals first|exact Round_lit 1 ⟨Le_lit (by simp[LeL,lk,b3F,byC,byL,IntKind.bits]),by omega,by omega⟩|exact Round_lit 2 ⟨Le_lit (by simp[LeL,lk,b3F,byC,byL,IntKind.bits]),by omega,by omega⟩|exact Round_lit 3 ⟨Le_lit (by simp[LeL,lk,b3F,byC,byL,IntKind.bits]),by omega,by omega⟩|exact Round_lit 4 ⟨Le_lit (by simp[LeL,lk,b3F,byC,byL,IntKind.bits]),by omega,by omega⟩|exact Round_lit 5 ⟨Le_lit (by simp[LeL,lk,b3F,byC,byL,IntKind.bits]),by omega,by omega⟩|exact Round_lit 6 ⟨Le_lit (by simp[LeL,lk,b3F,byC,byL,IntKind.bits]),by omega,by omega⟩|exact Round_lit 7 ⟨Le_lit (by simp[LeL,lk,b3F,byC,byL,IntKind.bits]),by omega,by omega⟩|exact Round_lit 8 ⟨Le_lit (by simp[LeL,lk,b3F,byC,byL,IntKind.bits]),by omega,by omega⟩
 have f1:a0a (decide ((i:Int)<8)=false):=fo
 obtain rfl:i=8:=by omega
 refine sxShc ?_
 repeat' ((first|exact tt|refine BytesO_intro (len8 n) rfl rfl ?_|refine na fun b=>?_|refine nb fun b hb=>?_|refine iq ?_|(refine jq ?_ ?_<;>intro h h')|refine Two_intro ?_ ?_|exact wZ|fail)<;>try refine sxShc ?_)
abbrev hcs(l:List UInt8):List AV:=l.map byC
theorem b7n(l:List UInt8)(hl:l.length=32):CP Tryz.prog 228 [.agg (hcs l)] (.str l):=by
 refine b1p _ _ (by simp) ?_
 have hs:(hcs l).map AV.store=hcs l:=by rw[List.map_map];rfl
 have ht:List.take 32 (hcs l)=hcs l:=List.take_of_length_le (by simp[hl])
 have h0:0<(hcs l).length:=by simp[hl]
 simp only[a8W];refine sxShc ?_
 repeat' ((first|exact tt|refine BytesO_intro l rfl hl ?_|refine na fun b=>?_|refine nb fun b hb=>?_|refine iq ?_|(refine jq ?_ ?_<;>intro h h')|refine Two_intro ?_ ?_|exact wZ|fail)<;>try refine sxShc ?_)
end
end Go.Proofs.YtgdhinnepnlihaaGreatDoor
