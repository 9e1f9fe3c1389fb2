import Derived.Test.YtgdhinnepnlihaaGreatDoorK24
import Derived.Test.YtgdhinnepnlihaaGreatDoorK20
import Derived.Test.YtgdhinnepnlihaaGreatDoorK22
import Derived.Test.YtgdhinnepnlihaaGreatDoorK23
namespace Go.Proofs.YtgdhinnepnlihaaGreatDoor
set_option linter.all false
set_option maxHeartbeats 9000000
section
open Go.RowKit
set_option maxRecDepth 100000
theorem mxI(a b:Int):(if a<b then b else a)=max a b:=by omega
theorem mnI(a b:Int):(if b<a then b else a)=min a b:=by omega
theorem b7P(e sz:Nat):Wk (.hnil e sz) (.sl none sz []):=fun W U v h=>by cases h;exact VR.nil _ _
abbrev RS:=Option (Nat × Nat)
def rsV(e:Nat)(o:List RgP):RS→AV
 | none=>.hnil e 2
 | some x=>.hsl x.1 e 2 o.length x.2
def rsO(o:List RgP):RS→List (Nat × List AV)
 | none=>[]
 | some x=>[(x.1,hcR x.2 o)]
def a8w(o:List RgP):RS→Prop
 | none=>o=[]
 | some x=>o.length≤x.2
theorem lackP_drop{l:List RgP}{k:Nat}(h:k<l.length)(f t:Int):a1P (l.drop k) f t=(if f<(l.getD k default).1∧f≤t then [(f,min ((l.getD k default).1 - 1) t)] else [])++a1P (l.drop (k+1)) (max f ((l.getD k default).2+1)) t:=by
 rw[List.drop_eq_getElem_cons h,a1P]
 simp[List.getD,h]
theorem lackP_end{l:List RgP}{k:Nat}(h:l.length≤k)(f t:Int):a1P (l.drop k) f t=if f≤t then [(f,t)] else []:=by
 rw[List.drop_eq_nil_of_le h,a1P]
theorem rf_pl{s:St}{rs:List AR}{n:Nat}{els:List (List AV)}(h:a0z s rs (.sl none n els)):b4u s rs (lk []) (fun r' _=>r'=.sl none n els):=by
 rw[a9G];exact rf_pure (o3:=[]) h (fun b cs hb=>by cases hb) rfl
theorem ofN_lt{l:List Int}(h:RiseN l){k:Nat}(hk:k<l.length):∀ i,i<(ofN (l.take k)).length→((ofN (l.take k)).getD i default).1≤((ofN (l.take k)).getD i default).2∧((ofN (l.take k)).getD i default).2<l.getD k 0:=by
 obtain ⟨g1,g2,g3,g4⟩:=ofN_good h k (by omega)
 have key:∀ j i,i+j+1=(ofN (l.take k)).length→((ofN (l.take k)).getD i default).2≤((ofN (l.take k)).getD ((ofN (l.take k)).length - 1) default).2:=by
  intro j
  induction j with
  | zero=>intro i hi;rw[show (ofN (l.take k)).length - 1=i by omega];exact Int.le_refl _
  | succ j ih=>
   intro i hi
   have h1:=g1.gap i (by omega)
   have h2:=ih (i+1) (by omega)
   have h3:=g1.bd (i+1) (by omega)
   omega
 intro i hi
 have h1:=g1.bd i hi
 have h2:=key ((ofN (l.take k)).length - 1 - i) i (by omega)
 have h3:=g4 (k - 1) (by omega)
 have h4:=h.2 (k - 1) (by omega)
 rw[show k - 1+1=k by omega]at h4
 omega
theorem sxSpc{A B:Prop}(h:B)(e:A=B:=by (simp (disch:=omega) only[*, ↓Ed,Eu, ↓reduceIte,reduceCtorEq,Nat.reduceAdd,Nat.reduceEqDiff,Nat.reduceLT,Nat.reduceLeDiff,Int.reduceToNat,Int.reduceEq,Int.reduceLT,Int.reduceLE,mxI,mnI,w64,List.length_append,List.length_map,Int.reduceAdd,a0q,a0p,a0e,a0d];first|done|rfl)):A:=e▸h
theorem b2d(l:List Int)(h:RiseN l)(hl:l.length≤100000):CP Tryz.prog 148 [.sl none 1 (ixs l)] (.sl none 2 (rgs (ofN l))):=by
 have hg:=ofN_good h
 refine CP_okf a5u (by simp) ?_
 simp only[a3v];refine sxSpc ?_
 repeat' ((first|exact tt|refine na fun b=>?_|refine nb fun b hb=>?_|refine iq ?_|(refine jq ?_ ?_<;>intro h h')|refine Two_intro ?_ ?_|exact wZ|fail)<;>try refine sxSpc ?_)
 refine wpx_loop (fun k:Nat=>⟨lk [(0,.sl none 1 (ixs l)),(3,if k=0 then .hnil 226 2 else .sl none 2 (rgs (ofN (l.take k)))),(4,.int .i64 (k:Int))],lk []⟩) (fun k=>k≤l.length) (fun k=>l.length - k) 0 (by omega) (Le_lit (by simp[LeL,lk])) ?_
 intro k hk
 by_cases hkl:k<l.length
 ·have f1:a0a (decide ((k:Int)<l.length)=true):=fo
  have hb:=h.1 k hkl
  simp only[mxN]at hb
  have hs:=ofN_take hkl
  by_cases hk0:k=0
  ·subst hk0
   have hA:=CP_wk (xs:=[.hnil 226 2,.int .i64 (l.getD 0 0)]) (xs':=[.sl none 2 (rgs []),.int .i64 (l.getD 0 0)]) ⟨b7P _ _,Wk.rfl,trivial⟩ (b3L (l.getD 0 0) hb)
   have hs':ofN (l.take 1)=[(l.getD 0 0,l.getD 0 0)]:=hs
   clear hs hg h hb
   generalize hx:l.getD 0 0=x at *
   refine sxSpc ?_
   repeat' ((first|exact tt|refine CallO_pure (hA) ?_|refine na fun b=>?_|refine nb fun b hb=>?_|refine iq ?_|(refine jq ?_ ?_<;>intro h h')|refine Two_intro ?_ ?_|exact wZ|fail)<;>try refine sxSpc ?_)
   all_goals exact Round_lit 1 ⟨Le_lit (by simp[LeL,lk,hs']),by omega,by omega⟩
  ·obtain ⟨g1,g2,g3,g4⟩:=hg k hk
   have hlt:=ofN_lt h hkl
   have h0:0<(ofN (l.take k)).length:=by omega
   have hA:=b3M (ofN (l.take k)) (l.getD k 0) g1 h0 (by omega) hb hlt
   rw[← hs]at hA
   clear hs hg h hb hlt g1 g2 g3 g4 h0
   have hk1:¬ k+1=0:=by omega
   generalize hx:l.getD k 0=x at *
   refine sxSpc ?_
   repeat' ((first|exact tt|refine CallO_pure (hA) ?_|refine na fun b=>?_|refine nb fun b hb=>?_|refine iq ?_|(refine jq ?_ ?_<;>intro h h')|refine Two_intro ?_ ?_|exact wZ|fail)<;>try refine sxSpc ?_)
   all_goals exact Round_lit (k+1) ⟨Le_lit (by simp[LeL,lk]),by omega,by omega⟩
 obtain rfl:k=l.length:=by omega
 have f1:a0a (decide ((l.length:Int)<l.length)=false):=fo
 clear hg h hk
 by_cases hk0:l.length=0
 ·obtain rfl:l=[]:=List.eq_nil_of_length_eq_zero hk0
  refine sxSpc ?_
  repeat' ((first|exact tt|refine na fun b=>?_|refine nb fun b hb=>?_|refine iq ?_|(refine jq ?_ ?_<;>intro h h')|refine Two_intro ?_ ?_|exact wZ|fail)<;>try refine sxSpc ?_)
  all_goals exact rf_hnil (e:=226) (by simp[a0z,arR,lk])
 ·simp (disch:=omega) only[if_neg hk0,List.take_length, ↓Ed,Eu, ↓reduceIte,reduceCtorEq,Nat.reduceAdd,Nat.reduceEqDiff,Nat.reduceLT,Nat.reduceLeDiff,Int.reduceToNat,Int.reduceEq,Int.reduceLT,Int.reduceLE,mxI,mnI,w64,List.length_append,List.length_map,Int.reduceAdd,a0q,a0p,a0e,a0d]
  repeat' ((first|exact tt|refine na fun b=>?_|refine nb fun b hb=>?_|refine iq ?_|(refine jq ?_ ?_<;>intro h h')|refine Two_intro ?_ ?_|exact wZ|fail)<;>try refine sxSpc ?_)
  all_goals exact rf_pl (by simp[a0z,arR,lk])
set_option maxHeartbeats 4000000 in
theorem b2f(l:List RgP)(f t:Int)(h:GoodR l)(hl:l.length≤100000):CP Tryz.prog 147 [.sl none 2 (rgs l),.int .i64 f,.int .i64 t] (.sl none 2 (rgs (a1P l (max f 0) (min t mxN)))):=by
 refine CP_okf a6d (by simp) ?_
 simp only[a4c];refine sxSpc ?_
 repeat' ((first|exact tt|refine na fun b=>?_|refine nb fun b hb=>?_|refine iq ?_|(refine jq ?_ ?_<;>intro h h')|refine Two_intro ?_ ?_|exact wZ|fail)<;>try refine sxSpc ?_)
 have hT:min t mxN≤72057594037927935:=by simp only[mxN];omega
 have hF:0≤max f 0:=by omega
 rw[show min t 72057594037927935=min t mxN from rfl]
 generalize min t mxN=T at *
 generalize max f 0=F at *
 generalize hR:a1P l F T=R
 refine wpx_loop (fun x:Nat × Int × List RgP × RS=>⟨lk [(0,.sl none 2 (rgs l)),(7,rsV 226 x.2.2.1 x.2.2.2),(8,.int .i64 x.2.1),(9,.int .i64 T),(10,.int .i64 (x.1:Int))],lk (rsO x.2.2.1 x.2.2.2)⟩) (fun x=>x.1≤l.length∧a8w x.2.2.1 x.2.2.2∧x.2.2.1.length≤x.1∧0≤x.2.1∧x.2.2.1++a1P (l.drop x.1) x.2.1 T=R) (fun x=>l.length - x.1) (0,F,[],none) ⟨by simp,rfl,by simp,hF,by simpa using hR⟩ (Le_lit (by simp[LeL,lk,rsV,rsO])) ?_
 rintro ⟨k,a,o,fm⟩ ⟨i1,i2,i3,i4,i6⟩
 simp only at i1 i2 i3 i4 i6
 clear hR hF
 by_cases hk:k<l.length
 ·have f1:a0a (decide ((k:Int)<l.length)=true):=fo
  obtain ⟨b1,b2,b3⟩:=h.bd k hk
  simp only[mxN]at b3
  rw[lackP_drop hk]at i6
  clear h
  generalize hx:l.getD k default=x at *
  by_cases ha:a≤T
  rotate_left
  ·have f2:a0a (decide (a≤T)=false):=fo
   have hRo:o=R:=by rw[if_neg (by omega),b0A _ _ _ (by omega)]at i6;simpa using i6
   subst hRo
   clear i6
   rcases fm with _ | ⟨g,cap⟩
   ·obtain rfl:o=[]:=i2
    simp (disch:=omega) only[rsV,rsO,hx, ↓Ed,Eu, ↓reduceIte,reduceCtorEq,Nat.reduceAdd,Nat.reduceEqDiff,Nat.reduceLT,Nat.reduceLeDiff,Int.reduceToNat,Int.reduceEq,Int.reduceLT,Int.reduceLE,mxI,mnI,w64,List.length_append,List.length_map,Int.reduceAdd,a0q,a0p,a0e,a0d]
    repeat' ((first|exact tt|refine na fun b=>?_|refine nb fun b hb=>?_|refine iq ?_|(refine jq ?_ ?_<;>intro h h')|refine Two_intro ?_ ?_|exact wZ|fail)<;>try refine sxSpc ?_)
    all_goals exact rf_hnil (e:=226) (by simp[a0z,arR,lk])
   ·simp only[a8w]at i2
    simp (disch:=omega) only[rsV,rsO,hx, ↓Ed,Eu, ↓reduceIte,reduceCtorEq,Nat.reduceAdd,Nat.reduceEqDiff,Nat.reduceLT,Nat.reduceLeDiff,Int.reduceToNat,Int.reduceEq,Int.reduceLT,Int.reduceLE,mxI,mnI,w64,List.length_append,List.length_map,Int.reduceAdd,a0q,a0p,a0e,a0d]
    repeat' ((first|exact tt|refine na fun b=>?_|refine nb fun b hb=>?_|refine iq ?_|(refine jq ?_ ?_<;>intro h h')|refine Two_intro ?_ ?_|exact wZ|fail)<;>try refine sxSpc ?_)
    all_goals exact rf_row (e:=226) (g:=g) (cap:=cap) (by simp[a0z,arR,lk]) (by simp[lk]) rfl
  have f2:a0a (decide (a≤T)=true):=fo
  by_cases hsk:x.2<a
  ·have f3:a0a (decide (x.2<a)=true):=fo
   have hR2:o++a1P (l.drop (k+1)) a T=R:=by rw[if_neg (by omega),show max a (x.2+1)=a by omega]at i6;simpa using i6
   clear i6
   rcases fm with _ | ⟨g,cap⟩
   ·obtain rfl:o=[]:=i2
    simp (disch:=omega) only[rsV,rsO,hx, ↓Ed,Eu, ↓reduceIte,reduceCtorEq,Nat.reduceAdd,Nat.reduceEqDiff,Nat.reduceLT,Nat.reduceLeDiff,Int.reduceToNat,Int.reduceEq,Int.reduceLT,Int.reduceLE,mxI,mnI,w64,List.length_append,List.length_map,Int.reduceAdd,a0q,a0p,a0e,a0d]
    repeat' ((first|exact tt|refine na fun b=>?_|refine nb fun b hb=>?_|refine iq ?_|(refine jq ?_ ?_<;>intro h h')|refine Two_intro ?_ ?_|exact wZ|fail)<;>try refine sxSpc ?_)
    all_goals exact Round_lit (k+1,a,[],none) ⟨Le_lit (by simp[LeL,lk,rsV,rsO]),⟨hk,rfl,by simp,i4,hR2⟩,by simp only;omega⟩
   ·simp only[a8w]at i2
    simp (disch:=omega) only[rsV,rsO,hx, ↓Ed,Eu, ↓reduceIte,reduceCtorEq,Nat.reduceAdd,Nat.reduceEqDiff,Nat.reduceLT,Nat.reduceLeDiff,Int.reduceToNat,Int.reduceEq,Int.reduceLT,Int.reduceLE,mxI,mnI,w64,List.length_append,List.length_map,Int.reduceAdd,a0q,a0p,a0e,a0d]
    repeat' ((first|exact tt|refine na fun b=>?_|refine nb fun b hb=>?_|refine iq ?_|(refine jq ?_ ?_<;>intro h h')|refine Two_intro ?_ ?_|exact wZ|fail)<;>try refine sxSpc ?_)
    all_goals exact Round_lit (k+1,a,o,some (g,cap)) ⟨Le_lit (by simp[LeL,lk,rsV,rsO]),⟨hk,i2,by simp only;omega,i4,hR2⟩,by simp only;omega⟩
  have f3:a0a (decide (x.2<a)=false):=fo
  rw[show max a (x.2+1)=x.2+1 by omega]at i6
  by_cases hlt:a<x.1
  ·have f4:a0a (decide (a<x.1)=true):=fo
   rw[if_pos (by omega)]at i6
   have hR2:(o++[(a,min (x.1 - 1) T)])++a1P (l.drop (k+1)) (x.2+1) T=R:=by simpa using i6
   clear i6
   rcases fm with _ | ⟨g,cap⟩
   ·obtain rfl:o=[]:=i2
    simp (disch:=omega) only[rsV,rsO,hx, ↓Ed,Eu, ↓reduceIte,reduceCtorEq,Nat.reduceAdd,Nat.reduceEqDiff,Nat.reduceLT,Nat.reduceLeDiff,Int.reduceToNat,Int.reduceEq,Int.reduceLT,Int.reduceLE,mxI,mnI,w64,List.length_append,List.length_map,Int.reduceAdd,a0q,a0p,a0e,a0d]
    repeat' ((first|exact tt|(refine rhapB (a,min (x.1 - 1) T) (NewB_intro0 (fun b cap hc=>?_)))|refine na fun b=>?_|refine nb fun b hb=>?_|refine iq ?_|(refine jq ?_ ?_<;>intro h h')|refine Two_intro ?_ ?_|exact wZ|fail)<;>try refine sxSpc ?_)
    all_goals exact Round_lit (k+1,x.2+1,[(a,min (x.1 - 1) T)],some (b,cap)) ⟨Le_lit (by simp[LeL,lk,rsV,rsO]),⟨hk,by simpa[a8w]using hc,by simp,by simp only;omega,hR2⟩,by simp only;omega⟩
   ·simp only[a8w]at i2
    simp (disch:=omega) only[rsV,rsO,hx, ↓Ed,Eu, ↓reduceIte,reduceCtorEq,Nat.reduceAdd,Nat.reduceEqDiff,Nat.reduceLT,Nat.reduceLeDiff,Int.reduceToNat,Int.reduceEq,Int.reduceLT,Int.reduceLE,mxI,mnI,w64,List.length_append,List.length_map,Int.reduceAdd,a0q,a0p,a0e,a0d]
    repeat' ((first|exact tt|(refine rhapC (a,min (x.1 - 1) T) (NewB_intro (fun b hb cap' hc=>?_)) (by omega) (by omega);simp only[upd_del,del_cons,del_nil, *,if_true,if_false,ln_cons2,ln_nil,and_true]at hb)|refine na fun b=>?_|refine nb fun b hb=>?_|refine iq ?_|(refine jq ?_ ?_<;>intro h h')|refine Two_intro ?_ ?_|exact wZ|fail)<;>try refine sxSpc ?_)
    all_goals exact Round_lit (k+1,x.2+1,o++[(a,min (x.1 - 1) T)],some (b,cap')) ⟨Le_lit (by simp[LeL,lk,rsV,rsO]),⟨hk,by simp only[a8w,List.length_append,List.length_cons,List.length_nil];omega,by simp only[List.length_append,List.length_cons,List.length_nil];omega,by simp only;omega,hR2⟩,by simp only;omega⟩
  ·have f4:a0a (decide (a<x.1)=false):=fo
   rw[if_neg (by omega)]at i6
   have hR2:o++a1P (l.drop (k+1)) (x.2+1) T=R:=by simpa using i6
   clear i6
   rcases fm with _ | ⟨g,cap⟩
   ·obtain rfl:o=[]:=i2
    simp (disch:=omega) only[rsV,rsO,hx, ↓Ed,Eu, ↓reduceIte,reduceCtorEq,Nat.reduceAdd,Nat.reduceEqDiff,Nat.reduceLT,Nat.reduceLeDiff,Int.reduceToNat,Int.reduceEq,Int.reduceLT,Int.reduceLE,mxI,mnI,w64,List.length_append,List.length_map,Int.reduceAdd,a0q,a0p,a0e,a0d]
    repeat' ((first|exact tt|refine na fun b=>?_|refine nb fun b hb=>?_|refine iq ?_|(refine jq ?_ ?_<;>intro h h')|refine Two_intro ?_ ?_|exact wZ|fail)<;>try refine sxSpc ?_)
    all_goals exact Round_lit (k+1,x.2+1,[],none) ⟨Le_lit (by simp[LeL,lk,rsV,rsO]),⟨hk,rfl,by simp,by simp only;omega,hR2⟩,by simp only;omega⟩
   ·simp only[a8w]at i2
    simp (disch:=omega) only[rsV,rsO,hx, ↓Ed,Eu, ↓reduceIte,reduceCtorEq,Nat.reduceAdd,Nat.reduceEqDiff,Nat.reduceLT,Nat.reduceLeDiff,Int.reduceToNat,Int.reduceEq,Int.reduceLT,Int.reduceLE,mxI,mnI,w64,List.length_append,List.length_map,Int.reduceAdd,a0q,a0p,a0e,a0d]
    repeat' ((first|exact tt|refine na fun b=>?_|refine nb fun b hb=>?_|refine iq ?_|(refine jq ?_ ?_<;>intro h h')|refine Two_intro ?_ ?_|exact wZ|fail)<;>try refine sxSpc ?_)
    all_goals exact Round_lit (k+1,x.2+1,o,some (g,cap)) ⟨Le_lit (by simp[LeL,lk,rsV,rsO]),⟨hk,i2,by simp only;omega,by simp only;omega,hR2⟩,by simp only;omega⟩
 obtain rfl:k=l.length:=by omega
 have f1:a0a (decide ((l.length:Int)<l.length)=false):=fo
 rw[lackP_end (Nat.le_refl _)]at i6
 clear hk h
 by_cases ha:a≤T
 ·have f2:a0a (decide (a≤T)=true):=fo
  rw[if_pos ha]at i6
  subst i6
  rcases fm with _ | ⟨g,cap⟩
  ·obtain rfl:o=[]:=i2
   simp (disch:=omega) only[rsV,rsO, ↓Ed,Eu, ↓reduceIte,reduceCtorEq,Nat.reduceAdd,Nat.reduceEqDiff,Nat.reduceLT,Nat.reduceLeDiff,Int.reduceToNat,Int.reduceEq,Int.reduceLT,Int.reduceLE,mxI,mnI,w64,List.length_append,List.length_map,Int.reduceAdd,a0q,a0p,a0e,a0d]
   repeat' ((first|exact tt|(refine rhapB (a,T) (NewB_intro0 (fun b cap hc=>?_)))|refine na fun b=>?_|refine nb fun b hb=>?_|refine iq ?_|(refine jq ?_ ?_<;>intro h h')|refine Two_intro ?_ ?_|exact wZ|fail)<;>try refine sxSpc ?_)
   all_goals exact rf_row (e:=226) (g:=b) (cap:=cap) (by simp[a0z,arR,lk]) (by simp[lk]) rfl
  ·simp only[a8w]at i2
   simp (disch:=omega) only[rsV,rsO, ↓Ed,Eu, ↓reduceIte,reduceCtorEq,Nat.reduceAdd,Nat.reduceEqDiff,Nat.reduceLT,Nat.reduceLeDiff,Int.reduceToNat,Int.reduceEq,Int.reduceLT,Int.reduceLE,mxI,mnI,w64,List.length_append,List.length_map,Int.reduceAdd,a0q,a0p,a0e,a0d]
   repeat' ((first|exact tt|(refine rhapC (a,T) (NewB_intro (fun b hb cap' hc=>?_)) (by omega) (by omega);simp only[upd_del,del_cons,del_nil, *,if_true,if_false,ln_cons2,ln_nil,and_true]at hb)|refine na fun b=>?_|refine nb fun b hb=>?_|refine iq ?_|(refine jq ?_ ?_<;>intro h h')|refine Two_intro ?_ ?_|exact wZ|fail)<;>try refine sxSpc ?_)
   all_goals exact rf_row (e:=226) (g:=b) (n:=o.length+1) (cap:=cap') (by simp[a0z,arR,lk]) (by simp[lk,hb]) (by simp)
 ·have f2:a0a (decide (a≤T)=false):=fo
  rw[if_neg ha,List.append_nil]at i6
  subst i6
  rcases fm with _ | ⟨g,cap⟩
  ·obtain rfl:o=[]:=i2
   simp (disch:=omega) only[rsV,rsO, ↓Ed,Eu, ↓reduceIte,reduceCtorEq,Nat.reduceAdd,Nat.reduceEqDiff,Nat.reduceLT,Nat.reduceLeDiff,Int.reduceToNat,Int.reduceEq,Int.reduceLT,Int.reduceLE,mxI,mnI,w64,List.length_append,List.length_map,Int.reduceAdd,a0q,a0p,a0e,a0d]
   repeat' ((first|exact tt|refine na fun b=>?_|refine nb fun b hb=>?_|refine iq ?_|(refine jq ?_ ?_<;>intro h h')|refine Two_intro ?_ ?_|exact wZ|fail)<;>try refine sxSpc ?_)
   all_goals exact rf_hnil (e:=226) (by simp[a0z,arR,lk])
  ·simp only[a8w]at i2
   simp (disch:=omega) only[rsV,rsO, ↓Ed,Eu, ↓reduceIte,reduceCtorEq,Nat.reduceAdd,Nat.reduceEqDiff,Nat.reduceLT,Nat.reduceLeDiff,Int.reduceToNat,Int.reduceEq,Int.reduceLT,Int.reduceLE,mxI,mnI,w64,List.length_append,List.length_map,Int.reduceAdd,a0q,a0p,a0e,a0d]
   repeat' ((first|exact tt|refine na fun b=>?_|refine nb fun b hb=>?_|refine iq ?_|(refine jq ?_ ?_<;>intro h h')|refine Two_intro ?_ ?_|exact wZ|fail)<;>try refine sxSpc ?_)
   all_goals exact rf_row (e:=226) (g:=g) (cap:=cap) (by simp[a0z,arR,lk]) (by simp[lk]) rfl
set_option maxHeartbeats 4000000 in
theorem b2i(l:List RgP)(f t:Int)(h:GoodR l)(hl:l.length≤100000):CP Tryz.prog 62 [.sl none 2 (rgs l),.int .i64 f,.int .i64 t] (.sl none 2 (rgs (a1P l (max f 0) (min t mxN)))):=by
 have hGd:=b7m l h (by omega)
 refine CP_okf a8N (by simp) ?_
 simp only[a6U];refine sxSpc ?_
 repeat' ((first|exact tt|refine CallO_pure (hGd) ?_|refine na fun b=>?_|refine nb fun b hb=>?_|refine iq ?_|(refine jq ?_ ?_<;>intro h h')|refine Two_intro ?_ ?_|exact wZ|fail)<;>try refine sxSpc ?_)
 clear hGd
 have hT:min t mxN≤72057594037927935:=by simp only[mxN];omega
 have hF:0≤max f 0:=by omega
 rw[show min t 72057594037927935=min t mxN from rfl]
 generalize min t mxN=T at *
 generalize max f 0=F at *
 generalize hR:a1P l F T=R
 refine wpx_loop (fun x:Nat × Int × List RgP × RS=>⟨lk [(1,.int .i64 x.2.1),(2,.int .i64 T),(7,rsV 40 x.2.2.1 x.2.2.2),(17,.sl none 2 (rgs l)),(18,.int .i64 (l.length:Int)),(19,.int .i64 (x.1:Int))],lk (rsO x.2.2.1 x.2.2.2)⟩) (fun x=>x.1≤l.length∧a8w x.2.2.1 x.2.2.2∧x.2.2.1.length≤x.1∧0≤x.2.1∧x.2.2.1++a1P (l.drop x.1) x.2.1 T=R) (fun x=>l.length - x.1) (0,F,[],none) ⟨by simp,rfl,by simp,hF,by simpa using hR⟩ (Le_lit (by simp[LeL,lk,rsV,rsO])) ?_
 rintro ⟨k,a,o,fm⟩ ⟨i1,i2,i3,i4,i6⟩
 simp only at i1 i2 i3 i4 i6
 clear hR hF
 by_cases hk:k<l.length
 ·have f1:a0a (decide ((k:Int)<l.length)=true):=fo
  obtain ⟨b1,b2,b3⟩:=h.bd k hk
  simp only[mxN]at b3
  rw[lackP_drop hk]at i6
  clear h
  generalize hx:l.getD k default=x at *
  by_cases hlt:a<x.1∧a≤T
  ·have f4:a0a (decide (a<x.1)=true):=fo
   have f5:a0a (decide (a≤T)=true):=fo
   rw[if_pos (by omega)]at i6
   have hR2:(o++[(a,min (x.1 - 1) T)])++a1P (l.drop (k+1)) (max a (x.2+1)) T=R:=by simpa using i6
   clear i6
   rcases fm with _ | ⟨g,cap⟩
   ·obtain rfl:o=[]:=i2
    simp (disch:=omega) only[rsV,rsO,hx, ↓Ed,Eu, ↓reduceIte,reduceCtorEq,Nat.reduceAdd,Nat.reduceEqDiff,Nat.reduceLT,Nat.reduceLeDiff,Int.reduceToNat,Int.reduceEq,Int.reduceLT,Int.reduceLE,mxI,mnI,w64,List.length_append,List.length_map,Int.reduceAdd,a0q,a0p,a0e,a0d]
    repeat' ((first|exact tt|(refine rhapB (a,min (x.1 - 1) T) (NewB_intro (fun b hb cap hc=>?_));simp only[ln_cons2,ln_nil,and_true]at hb)|refine na fun b=>?_|refine nb fun b hb=>?_|refine iq ?_|(refine jq ?_ ?_<;>intro h h')|refine Two_intro ?_ ?_|exact wZ|fail)<;>try refine sxSpc ?_)
    all_goals exact Round_lit (k+1,max a (x.2+1),[(a,min (x.1 - 1) T)],some (b,cap)) ⟨Le_lit (by simp[LeL,lk,rsV,rsO,hb]),⟨hk,by simpa[a8w]using hc,by simp,by simp only;omega,hR2⟩,by simp only;omega⟩
   ·simp only[a8w]at i2
    simp (disch:=omega) only[rsV,rsO,hx, ↓Ed,Eu, ↓reduceIte,reduceCtorEq,Nat.reduceAdd,Nat.reduceEqDiff,Nat.reduceLT,Nat.reduceLeDiff,Int.reduceToNat,Int.reduceEq,Int.reduceLT,Int.reduceLE,mxI,mnI,w64,List.length_append,List.length_map,Int.reduceAdd,a0q,a0p,a0e,a0d]
    repeat' ((first|exact tt|(refine rhapC (a,min (x.1 - 1) T) (NewB_intro (fun b hb cap' hc=>?_)) (by omega) (by omega);simp only[upd_del,del_cons,del_nil, *,if_true,if_false,ln_cons2,ln_nil,and_true]at hb)|refine na fun b=>?_|refine nb fun b hb=>?_|refine iq ?_|(refine jq ?_ ?_<;>intro h h')|refine Two_intro ?_ ?_|exact wZ|fail)<;>try refine sxSpc ?_)
    all_goals exact Round_lit (k+1,max a (x.2+1),o++[(a,min (x.1 - 1) T)],some (b,cap')) ⟨Le_lit (by simp[LeL,lk,rsV,rsO,hb]),⟨hk,by simp only[a8w,List.length_append,List.length_cons,List.length_nil];omega,by simp only[List.length_append,List.length_cons,List.length_nil];omega,by simp only;omega,hR2⟩,by simp only;omega⟩
  rw[if_neg hlt]at i6
  by_cases hq:a<x.1
  ·have f4:a0a (decide (a<x.1)=true):=fo
   have f5:a0a (decide (a≤T)=false):=fo
   have hR2:o++a1P (l.drop (k+1)) (max a (x.2+1)) T=R:=by simpa using i6
   clear i6
   rcases fm with _ | ⟨g,cap⟩
   ·obtain rfl:o=[]:=i2
    simp (disch:=omega) only[rsV,rsO,hx, ↓Ed,Eu, ↓reduceIte,reduceCtorEq,Nat.reduceAdd,Nat.reduceEqDiff,Nat.reduceLT,Nat.reduceLeDiff,Int.reduceToNat,Int.reduceEq,Int.reduceLT,Int.reduceLE,mxI,mnI,w64,List.length_append,List.length_map,Int.reduceAdd,a0q,a0p,a0e,a0d]
    repeat' ((first|exact tt|refine na fun b=>?_|refine nb fun b hb=>?_|refine iq ?_|(refine jq ?_ ?_<;>intro h h')|refine Two_intro ?_ ?_|exact wZ|fail)<;>try refine sxSpc ?_)
    all_goals exact Round_lit (k+1,max a (x.2+1),[],none) ⟨Le_lit (by simp[LeL,lk,rsV,rsO]),⟨hk,rfl,by simp,by simp only;omega,hR2⟩,by simp only;omega⟩
   ·simp only[a8w]at i2
    simp (disch:=omega) only[rsV,rsO,hx, ↓Ed,Eu, ↓reduceIte,reduceCtorEq,Nat.reduceAdd,Nat.reduceEqDiff,Nat.reduceLT,Nat.reduceLeDiff,Int.reduceToNat,Int.reduceEq,Int.reduceLT,Int.reduceLE,mxI,mnI,w64,List.length_append,List.length_map,Int.reduceAdd,a0q,a0p,a0e,a0d]
    repeat' ((first|exact tt|refine na fun b=>?_|refine nb fun b hb=>?_|refine iq ?_|(refine jq ?_ ?_<;>intro h h')|refine Two_intro ?_ ?_|exact wZ|fail)<;>try refine sxSpc ?_)
    all_goals exact Round_lit (k+1,max a (x.2+1),o,some (g,cap)) ⟨Le_lit (by simp[LeL,lk,rsV,rsO]),⟨hk,i2,by simp only;omega,by simp only;omega,hR2⟩,by simp only;omega⟩
  ·have f4:a0a (decide (a<x.1)=false):=fo
   have hR2:o++a1P (l.drop (k+1)) (max a (x.2+1)) T=R:=by simpa using i6
   clear i6
   rcases fm with _ | ⟨g,cap⟩
   ·obtain rfl:o=[]:=i2
    simp (disch:=omega) only[rsV,rsO,hx, ↓Ed,Eu, ↓reduceIte,reduceCtorEq,Nat.reduceAdd,Nat.reduceEqDiff,Nat.reduceLT,Nat.reduceLeDiff,Int.reduceToNat,Int.reduceEq,Int.reduceLT,Int.reduceLE,mxI,mnI,w64,List.length_append,List.length_map,Int.reduceAdd,a0q,a0p,a0e,a0d]
    repeat' ((first|exact tt|refine na fun b=>?_|refine nb fun b hb=>?_|refine iq ?_|(refine jq ?_ ?_<;>intro h h')|refine Two_intro ?_ ?_|exact wZ|fail)<;>try refine sxSpc ?_)
    all_goals exact Round_lit (k+1,max a (x.2+1),[],none) ⟨Le_lit (by simp[LeL,lk,rsV,rsO]),⟨hk,rfl,by simp,by simp only;omega,hR2⟩,by simp only;omega⟩
   ·simp only[a8w]at i2
    simp (disch:=omega) only[rsV,rsO,hx, ↓Ed,Eu, ↓reduceIte,reduceCtorEq,Nat.reduceAdd,Nat.reduceEqDiff,Nat.reduceLT,Nat.reduceLeDiff,Int.reduceToNat,Int.reduceEq,Int.reduceLT,Int.reduceLE,mxI,mnI,w64,List.length_append,List.length_map,Int.reduceAdd,a0q,a0p,a0e,a0d]
    repeat' ((first|exact tt|refine na fun b=>?_|refine nb fun b hb=>?_|refine iq ?_|(refine jq ?_ ?_<;>intro h h')|refine Two_intro ?_ ?_|exact wZ|fail)<;>try refine sxSpc ?_)
    all_goals exact Round_lit (k+1,max a (x.2+1),o,some (g,cap)) ⟨Le_lit (by simp[LeL,lk,rsV,rsO]),⟨hk,i2,by simp only;omega,by simp only;omega,hR2⟩,by simp only;omega⟩
 obtain rfl:k=l.length:=by omega
 have f1:a0a (decide ((l.length:Int)<l.length)=false):=fo
 rw[lackP_end (Nat.le_refl _)]at i6
 clear hk h
 by_cases ha:a≤T
 ·have f2:a0a (decide (a≤T)=true):=fo
  rw[if_pos ha]at i6
  subst i6
  rcases fm with _ | ⟨g,cap⟩
  ·obtain rfl:o=[]:=i2
   simp (disch:=omega) only[rsV,rsO, ↓Ed,Eu, ↓reduceIte,reduceCtorEq,Nat.reduceAdd,Nat.reduceEqDiff,Nat.reduceLT,Nat.reduceLeDiff,Int.reduceToNat,Int.reduceEq,Int.reduceLT,Int.reduceLE,mxI,mnI,w64,List.length_append,List.length_map,Int.reduceAdd,a0q,a0p,a0e,a0d]
   repeat' ((first|exact tt|(refine rhapB (a,T) (NewB_intro0 (fun b cap hc=>?_)))|refine na fun b=>?_|refine nb fun b hb=>?_|refine iq ?_|(refine jq ?_ ?_<;>intro h h')|refine Two_intro ?_ ?_|exact wZ|fail)<;>try refine sxSpc ?_)
   all_goals exact rf_row (e:=40) (g:=b) (cap:=cap) (by simp[a0z,arR,lk]) (by simp[lk]) rfl
  ·simp only[a8w]at i2
   simp (disch:=omega) only[rsV,rsO, ↓Ed,Eu, ↓reduceIte,reduceCtorEq,Nat.reduceAdd,Nat.reduceEqDiff,Nat.reduceLT,Nat.reduceLeDiff,Int.reduceToNat,Int.reduceEq,Int.reduceLT,Int.reduceLE,mxI,mnI,w64,List.length_append,List.length_map,Int.reduceAdd,a0q,a0p,a0e,a0d]
   repeat' ((first|exact tt|(refine rhapC (a,T) (NewB_intro (fun b hb cap' hc=>?_)) (by omega) (by omega);simp only[upd_del,del_cons,del_nil, *,if_true,if_false,ln_cons2,ln_nil,and_true]at hb)|refine na fun b=>?_|refine nb fun b hb=>?_|refine iq ?_|(refine jq ?_ ?_<;>intro h h')|refine Two_intro ?_ ?_|exact wZ|fail)<;>try refine sxSpc ?_)
   all_goals exact rf_row (e:=40) (g:=b) (n:=o.length+1) (cap:=cap') (by simp[a0z,arR,lk]) (by simp[lk,hb]) (by simp)
 ·have f2:a0a (decide (a≤T)=false):=fo
  rw[if_neg ha,List.append_nil]at i6
  subst i6
  rcases fm with _ | ⟨g,cap⟩
  ·obtain rfl:o=[]:=i2
   simp (disch:=omega) only[rsV,rsO, ↓Ed,Eu, ↓reduceIte,reduceCtorEq,Nat.reduceAdd,Nat.reduceEqDiff,Nat.reduceLT,Nat.reduceLeDiff,Int.reduceToNat,Int.reduceEq,Int.reduceLT,Int.reduceLE,mxI,mnI,w64,List.length_append,List.length_map,Int.reduceAdd,a0q,a0p,a0e,a0d]
   repeat' ((first|exact tt|refine na fun b=>?_|refine nb fun b hb=>?_|refine iq ?_|(refine jq ?_ ?_<;>intro h h')|refine Two_intro ?_ ?_|exact wZ|fail)<;>try refine sxSpc ?_)
   all_goals exact rf_hnil (e:=40) (by simp[a0z,arR,lk])
  ·simp only[a8w]at i2
   simp (disch:=omega) only[rsV,rsO, ↓Ed,Eu, ↓reduceIte,reduceCtorEq,Nat.reduceAdd,Nat.reduceEqDiff,Nat.reduceLT,Nat.reduceLeDiff,Int.reduceToNat,Int.reduceEq,Int.reduceLT,Int.reduceLE,mxI,mnI,w64,List.length_append,List.length_map,Int.reduceAdd,a0q,a0p,a0e,a0d]
   repeat' ((first|exact tt|refine na fun b=>?_|refine nb fun b hb=>?_|refine iq ?_|(refine jq ?_ ?_<;>intro h h')|refine Two_intro ?_ ?_|exact wZ|fail)<;>try refine sxSpc ?_)
   all_goals exact rf_row (e:=40) (g:=g) (cap:=cap) (by simp[a0z,arR,lk]) (by simp[lk]) rfl
end
section
open Go.RowKit Classical
set_option maxRecDepth 100000
section
variable {d:Option Nat} {s:St} {K:St→Prop}
theorem hapA0{e:Nat}{own:Option Nat}(h0:KS (St.put s d (.hnil e 14)) K):b0i e 14 112 d s K (.hnil e 14) (.sl own 14 []):=
 entRow.hap_nil (m:=[]) (entRow.src_sl s.o own []) ⟨by simp,by simp[maxLen]⟩ (fun _=>h0) (fun h=>by simp at h)
theorem hapD0{e g n cap:Nat}{own:Option Nat}{l:List EntC}(h1:a6K (upd s.o g none) (fun b=>∀ cap',n≤cap'→KS (St.put ⟨s.t,upd (upd s.o g none) b (some (hcE cap' l))⟩ d (.hsl b e 14 n cap')) K))
  (hb:n≤100000:=by omega) (hcp:n≤cap:=by omega) (hg:s.o g=some (hcE cap l):=by first|((repeat (first|exact lk_hd _ _ _|(refine lk_tl ?_ ?_;(focus (first|assumption|(simp only[*,not_false_eq_true];done))))));done)|fail) (hl:l.length=n:=by first|rfl|omega|fail):b0i e 14 112 d s K (.hsl g e 14 n cap) (.sl own 14 []):=by
 have ht:l.take n=l:=by rw[← hl,List.take_length]
 refine entRow.hap_row (m:=[]) hg (entRow.src_sl s.o own []) ⟨by omega,by omega⟩ ⟨by simp only[List.length_nil];omega,by simp only[List.length_nil,maxLen];omega⟩ ?_
 rw[ht,List.append_nil];exact h1
end
theorem dom_g{p:Nat}{a c:List AV}{r:List (Nat × List AV)}:∀ b' cs,lk [(p,a)] b'=some cs→∃ cs',lk ((p,c)::r) b'=some cs':=by
 intro b' cs h
 rw[lk_cons]at h ⊢
 by_cases hb:b'=p
 ·rw[if_pos hb];exact ⟨_,rfl⟩
 ·rw[if_neg hb]at h;cases h
abbrev Gx:=(AV × AV) ⊕ Fx
def Gx.ok(x:Gx)(b:Nat)(t:Tb):Prop:=match x with
 | .inl y=>y.1.alias=.sl none 4 (kys (dOf t).K)∧y.2.alias=.sl none 2 (ens (dOf t).C)∧t.K=[]
 | .inr y=>y.ok b t
abbrev Gx.o(x:Gx)(b:Nat)(t:Tb):List (Nat × List AV):=match x with
 | .inl y=>[(b,[y.1,.nils 223 14,y.2])]
 | .inr x=>[(b,[x.k,.hsl x.g 223 14 (dOf t).E.length x.cap,x.c]),(x.g,hcE x.cap (dOf t).E)]
theorem sxDtc{A B:Prop}(h:B)(e:A=B:=by (simp (disch:=omega) only[*, ↓Ed,Eu, ↓reduceIte,reduceCtorEq,Nat.reduceAdd,Nat.reduceEqDiff,Nat.reduceLT,Nat.reduceLeDiff,Int.reduceToNat,Int.reduceEq,Int.reduceLT,Int.reduceLE,w64,List.length_append,List.length_map,Nat.mul_one,beq_self_eq_true,PktC.cs,EvC.cs,EntC.cs,KeyC.cs,a0h,Int.reduceAdd,a0l,a0u,a1b,a4t,List.take_nil,List.drop_nil,List.length_nil];first|done|rfl)):A:=e▸h
set_option maxHeartbeats 8000000 in
theorem b5D(p:Nat)(kc cc:AV)(t:Tb)(hk:kc.alias=.sl none 4 (kys (dOf t).K))(hcc:cc.alias=.sl none 2 (ens (dOf t).C))(ht:Tgood 90000 t)(ht0:t.K=[])
  (e:EvC) (h1:e.p.s.length≤1000000) (h2:e.p.d.length≤1000000) (h3:e.p.x.length≤1000000) (h4:e.e.length≤1000000) (h5:e.a.length≤1000000):
  CT Tryz.prog 145 [.ptr p 0,.agg e.cs] (lk [(p,[kc,.nils 223 14,cc])])
   (fun r o=>r=.int .i64 (a0T t e).2∧∃ x:Gx,x.ok p (a0T t e).1∧o=lk (x.o p (a0T t e).1)):=by
 have hO:=b6e e h1 h2 h3 h4 h5
 have hM:=a6F e h1 h2 h3 h4 h5
 have same:Gx.ok (.inl (kc,cc)) p t:=⟨hk,hcc,ht0⟩
 refine a2f _ _ _ (by simp) ?_
 by_cases hm:a1e e=true
 rotate_left
 ·have hm':a1e e=false:=by simpa using hm
  rw[own_no hm']at hO
  rw[fold_no hm']
  rw[hm']at hM
  clear hm hm' ht
  simp only[a0f];refine sxDtc ?_
  repeat' ((first|exact tt|refine CallO_pure (hM) ?_|refine CallO_pure (hO) ?_|refine na fun b=>?_|refine nb fun b hb=>?_|refine iq ?_|(refine jq ?_ ?_<;>intro h h')|refine Two_intro ?_ ?_|exact wZ|fail)<;>try refine sxDtc ?_)
  all_goals exact ro_ex (.inl (kc,cc)) (by simp[LeL,lk,a0z,arR]) same dom_g
 have hr:=may_range hm
 have hF:=fun k=>b4j p kc (.nils 223 14) cc (dOf t).K hk (srtL_rise keySTO ht.k) (by rw[a5k];have:=ht.lk;omega) k
 rcases a8d e.k with ⟨k1,k2,k3,k4,k5,k6,k7,k8,k9,k10,k11,k12⟩ | ⟨k1,k2,k3,k4,k5,k6,k7,k8,k9,k10,k11,k12⟩ | ⟨k1,k2,k3,k4,k5,k6,k7,k8,k9,k10,k11,k12⟩ | ⟨k1,k2,k3,k4,k5,k6,k7,k8,k9,k10,k11,k12⟩ | ⟨k1,k2,k3,k4,k5,k6,k7,k8,k9,k10,k11,k12⟩ | ⟨k1,k2,k3,k4,k5,k6,k7,k8,k9,k10,k11,k12⟩ | ⟨k1,k2,k3,k4,k5,k6,k7,k8,k9,k10,k11,k12⟩ | ⟨k1,k2,k3,k4,k5,k6,k7,k8,k9,k10,k11,k12⟩ | ⟨k1,k2,k3,k4,k5,k6,k7,k8,k9,k10,k11,k12⟩
 rotate_left 5
 ·have hS:=b2v p kc (.nils 223 14) cc (dOf t).C hcc (srtL_rise endSTO ht.c) (by rw[b1M];have:=ht.lc;omega) (e.e,e.ec)
  rw[fold_cl hm k12]
  rw[hm]at hM
  by_cases hcm:((e.e,e.ec):a1D)∈t.C
  ·have hcm':((e.e,e.ec):a1D)∈(dOf t).C:=mem_closS.2 hcm
   rw[if_pos hcm,if_pos hcm]
   rw[if_pos hcm',if_pos hcm']at hS
   clear hm hr k12 ht hF hcm hcm' hO
   simp only[a0f];refine sxDtc ?_
   repeat' ((first|exact tt|refine CallO_pure (hM) ?_|refine c1 (hS) ?_|refine na fun b=>?_|refine nb fun b hb=>?_|refine iq ?_|(refine jq ?_ ?_<;>intro h h')|refine Two_intro ?_ ?_|exact wZ|fail)<;>try refine sxDtc ?_)
   all_goals exact ro_ex (.inl (kc,cc)) (by simp[LeL,lk,a0z,arR]) same dom_g
  ·have hcm':¬ ((e.e,e.ec):a1D)∈(dOf t).C:=fun h=>hcm (mem_closS.1 h)
   rw[if_neg hcm,if_neg hcm]
   rw[if_neg hcm',if_neg hcm']at hS
   have hT:a0a ((dOf ⟨t.K,t.C++[(e.e,e.ec)]⟩).K=(dOf t).K∧(⟨t.K,t.C++[(e.e,e.ec)]⟩:Tb).K=[]∧(dOf ⟨t.K,t.C++[(e.e,e.ec)]⟩).C=(dOf t).C.take (plL a0E (e.e,e.ec) (dOf t).C)++[(e.e,e.ec)]++(dOf t).C.drop (plL a0E (e.e,e.ec) (dOf t).C)):=⟨rfl,ht0,clos_new ht.c hcm⟩
   generalize (⟨t.K,t.C++[(e.e,e.ec)]⟩:Tb)=T at hT ⊢
   generalize (dOf t).C.take (plL a0E (e.e,e.ec) (dOf t).C)++[(e.e,e.ec)]++(dOf t).C.drop (plL a0E (e.e,e.ec) (dOf t).C)=C' at hT hS
   clear hm hr k12 ht hF hcm hcm' hO same
   simp only[a0f];refine sxDtc ?_
   repeat' ((first|exact tt|refine CallO_pure (hM) ?_|refine c1 (hS) ?_|refine na fun b=>?_|refine nb fun b hb=>?_|refine iq ?_|(refine jq ?_ ?_<;>intro h h')|refine Two_intro ?_ ?_|exact wZ|fail)<;>try refine sxDtc ?_)
   all_goals (obtain ⟨t1,t2,t3⟩:=hT)
   all_goals exact ro_ex (.inl (kc,.sl (some 56) 2 (ens C'))) (by simp[LeL,lk,a0z,arR]) ⟨by rw[t1];exact hk,by rw[t3];rfl,t2⟩ dom_g
 ·rw[own_up hm k12]at hO
  rw[fold_up hm k12]
  rw[hm]at hM
  clear hm hr k12 ht hF
  simp only[a0f];refine sxDtc ?_
  repeat' ((first|exact tt|refine CallO_pure (hM) ?_|refine CallO_pure (hO) ?_|refine na fun b=>?_|refine nb fun b hb=>?_|refine iq ?_|(refine jq ?_ ?_<;>intro h h')|refine Two_intro ?_ ?_|exact wZ|fail)<;>try refine sxDtc ?_)
  all_goals exact ro_ex (.inl (kc,cc)) (by simp[LeL,lk,a0z,arR]) same dom_g
 ·have:e.k<1:=k12
  omega
 ·have:7<e.k:=k12
  omega
 rotate_left
 all_goals
  have hk1:e.k=_:=k12
  have d1:decide (e.k=1)=_:=k1
  have d4:decide (e.k=4)=_:=k4
  have d5:decide (e.k=5)=_:=k5
  have d6:decide (e.k=6)=_:=k6
  have d7:decide (e.k=7)=_:=k7
  have hkk:1≤e.k∧e.k≤5:=by omega
  have hMD:=fun x=>b3X x e
  have hMk:=fun x=>b2h x e.k
  have hokk:(a1B e).2.2.2=true:=by
   first|rw[own_src hm (by omega)]|rw[own_dst hm (by omega)]
  rw[hokk]at hO
  first
  | have hke:a1p e=⟨(a1B e).1,(a1B e).2.1,true,(a1B e).2.2.1⟩:=by unfold a1p;rw[show b0N e.k=true by rw[hk1];rfl]
  | have hke:a1p e=⟨(a1B e).1,(a1B e).2.1,false,(a1B e).2.2.1⟩:=by unfold a1p;rw[show b0N e.k=false by rw[hk1];rfl]
  replace hF:=hF (a1p e)
  rw[key_in]at hF
  cases hf0:a0O t.K (a1p e) with
  | none=>
   rw[fold_new hm hkk hf0]
   have hT:a0a ((dOf ⟨t.K++[(a1p e,a0R (a6X e.p) e)],t.C⟩).K=(dOf t).K.take (plL a0t (a1p e) (dOf t).K)++[a1p e]++(dOf t).K.drop (plL a0t (a1p e) (dOf t).K)∧
     (dOf ⟨t.K++[(a1p e,a0R (a6X e.p) e)],t.C⟩).E=(dOf t).E.take (plL a0t (a1p e) (dOf t).K)++[a0R (a6X e.p) e]++(dOf t).E.drop (plL a0t (a1p e) (dOf t).K)∧
     (dOf ⟨t.K++[(a1p e,a0R (a6X e.p) e)],t.C⟩).C=(dOf t).C):=by
    rw[dOf_new ht.k (x:=a0R (a6X e.p) e) hf0];exact ⟨rfl,rfl,rfl⟩
   generalize (⟨t.K++[(a1p e,a0R (a6X e.p) e)],t.C⟩:Tb)=T at hT ⊢
   rw[hf0]at hF
   rw[hm]at hM
   have hple:=pl_le a0t (a1p e) (dOf t).K
   have hMD0:=hMD (a6X e.p)
   generalize hi:plL a0t (a1p e) (dOf t).K=i at *
   rw[hke]at hF
   simp only[Option.isSome_none]at hF
   clear hMD hMk hm hr k12 hf0 hokk hkk hk1 same
   generalize a1B e=OW at *
   simp only[a0f,hk,a6X, ↓Ed,Eu, ↓reduceIte,reduceCtorEq,Nat.reduceAdd,Nat.reduceEqDiff,Nat.reduceLT,Nat.reduceLeDiff,Int.reduceToNat,Int.reduceEq,Int.reduceLT,Int.reduceLE,w64,List.length_append,List.length_map,Nat.mul_one,beq_self_eq_true,PktC.cs,EvC.cs,EntC.cs,KeyC.cs,a0h,Int.reduceAdd,a0l,a0u,a1b,a4t,List.take_nil,List.drop_nil,List.length_nil]
   repeat' ((first|exact tt|refine CallO_pure (hM) ?_|refine CallO_pure (hO) ?_|refine c1 (hF) ?_|refine CallW_intro (hMD0) ?_|refine na fun b=>?_|refine nb fun b hb=>?_|refine iq ?_|(refine jq ?_ ?_<;>intro h h')|refine Two_intro ?_ ?_|exact wZ|fail)<;>try refine sxDtc ?_)
   have hdr:List.take (dOf t).K.length (kys (dOf t).K)=kys (dOf t).K:=by rw[← a0l,List.take_length]
   have hKl:(dOf t).K.length≤90000:=by rw[a5k];exact ht.lk
   have hEl:=a9a t
   simp only[hdr]
   refine ⟨⟨by simp only[a1w,a0l,List.length_take];omega,by simp only[a1w,a0l,List.length_take,maxLen];omega⟩,⟨by simp only[a1w,a0l,List.length_take];omega,by simp only[a1w,a0l,List.length_take,maxLen];omega⟩,Nat.le_refl _,
    ⟨by simp only[a1w,a4H,a0l,List.length_take,List.length_drop];omega,by simp only[a1w,a4H,a0l,List.length_take,List.length_drop,maxLen];omega⟩, ?_⟩
   generalize hKK:List.take i (kys (dOf t).K)=KK
   generalize hKL:List.drop i (kys (dOf t).K)=KL
   clear hdr hF hM hO
   have hE:(dOf t).E=[]:=List.eq_nil_of_length_eq_zero (by rw[hEl,a5k,ht0];rfl)
   have hN0:(dOf t).K.length=0:=by rw[a5k,ht0];rfl
   clear hEl
   rw[hE]at hT
   clear hE
   generalize (dOf t).K.length=N at *
   have hi0:a0a (i=0):=by show i=0;omega
   subst hN0
   generalize hY:a0R (a6X e.p) e=y at *
   repeat' ((first|exact tt|refine CallW_intro (hMD0) ?_|refine hapA0 ?_|(refine hapB y (NewB_intro (fun bB hbB cB hcB=>?_));simp only[ln_cons2,ln_nil,and_true]at hbB)|(refine hapD0 (NewB_intro (fun bD hbD cD hcD=>?_));simp only[upd_del,del_cons,del_nil, *,if_true,if_false,ln_cons2,ln_nil,and_true]at hbD)|refine na fun b=>?_|refine nb fun b hb=>?_|refine iq ?_|(refine jq ?_ ?_<;>intro h h')|refine Two_intro ?_ ?_|exact wZ|fail)<;>try refine sxDtc ?_)
   all_goals
    obtain ⟨t1,t2,t3⟩:=hT
    have l2:(dOf T).E=[y]:=by rw[t2];simp
    refine ro_ex (.inr ⟨.sl (some 224) 4 (KK++[(a1p e).cs]++KL),cc,bD,cD,[]⟩) ⟨by simp[a0z,arR,lk], ?_⟩ ⟨?_, ?_, ?_, ?_⟩ dom_g
    rotate_left
    ·show AV.sl none 4 _=_
     rw[t1,a9E,a9E, ← a1w, ← a4H,hKK,hKL];rfl
    ·rw[t3];exact hcc
    ·first|exact hbD.1|exact hbD
    ·show (dOf T).E.length≤cD
     rw[l2];exact hcD
    ·simp[LeL,lk,hbD,l2,hke]
  | some x=>rw[ht0]at hf0;cases hf0
end
section
open Go.RowKit Classical
set_option maxRecDepth 100000
end
section
open Go.RowKit Classical
set_option maxRecDepth 100000
theorem ent_nth{t:Tb}(i:Nat)(hi:i<(dOf t).K.length):a0O t.K ((dOf t).K.getD i default)=some ((dOf t).E.getD i default):=by
 have hi':i<(a0i t).length:=hi
 have hm:(a0i t).getD i default∈a0i t:=by
  rw[List.getD,List.getElem?_eq_getElem hi',Option.getD_some];exact List.getElem_mem hi'
 obtain ⟨x,hx⟩:=Option.isSome_iff_exists.1 (mem_keysS.1 hm)
 show a0O t.K ((a0i t).getD i default)=some (((a0i t).map (a9c t)).getD i default)
 have e:((a0i t).map (a9c t)).getD i default=a9c t ((a0i t).getD i default):=by
  simp only[List.getD,List.getElem?_map,List.getElem?_eq_getElem hi',Option.map_some,Option.getD_some]
 rw[e,hx]
 simp only[a9c,hx,Option.getD_some]
theorem dom4{α:Type}{b d f h:Nat}{c c' e e' g g' i i':α}:∀ b' cs,lk [(b,c),(d,e),(f,g),(h,i)] b'=some cs→∃ cs',lk [(b,c'),(d,e'),(f,g'),(h,i')] b'=some cs':=by
 intro b' cs hq
 rw[lk_cons]at hq ⊢
 by_cases hb:b'=b
 ·rw[if_pos hb];exact ⟨_,rfl⟩
 ·rw[if_neg hb]at hq ⊢;exact dom3 b' cs hq
theorem dom5{α:Type}{b d f h j:Nat}{c c' e e' g g' i i' k k':α}:∀ b' cs,lk [(b,c),(d,e),(f,g),(h,i),(j,k)] b'=some cs→∃ cs',lk [(b,c'),(d,e'),(f,g'),(h,i'),(j,k')] b'=some cs':=by
 intro b' cs hq
 rw[lk_cons]at hq ⊢
 by_cases hb:b'=b
 ·rw[if_pos hb];exact ⟨_,rfl⟩
 ·rw[if_neg hb]at hq ⊢;exact dom4 b' cs hq
theorem sxDte{A B:Prop}(h:B)(e:A=B:=by (simp (disch:=omega) only[*, ↓Ed,Eu, ↓reduceIte,reduceCtorEq,Nat.reduceAdd,Nat.reduceEqDiff,Nat.reduceLT,Nat.reduceLeDiff,Int.reduceToNat,Int.reduceEq,Int.reduceLT,Int.reduceLE,w64,List.length_append,List.length_map,Nat.mul_one,beq_self_eq_true,PktC.cs,EvC.cs,EntC.cs,KeyC.cs,a0h,Int.reduceAdd,a0l,a0u,a1b,a4t];first|done|rfl)):A:=e▸h
theorem b7D(c m n p g:Nat)(hh:(¬ c=m∧¬ m=c)∧(¬ c=n∧¬ n=c)∧¬ m=n∧¬ n=m)(hp:(¬ p=c∧¬ c=p)∧(¬ p=m∧¬ m=p)∧¬ p=n∧¬ n=p)
  (hg:(¬ g=c∧¬ c=g)∧(¬ g=m∧¬ m=g)∧(¬ g=n∧¬ n=g)∧¬ g=p∧¬ p=g) (kc cc:AV) (cap:Nat) (t:Tb) (hk:kc.alias=.sl none 4 (kys (dOf t).K)) (hcc:cc.alias=.sl none 2 (ens (dOf t).C))
  (ht:Tgood 90000 t) (hcap:(dOf t).E.length≤cap):
  CT Tryz.prog 75 [.ptr c 0,.ptr p 0] (lk (b0f c m n t++[(p,[kc,.hsl g 223 14 (dOf t).E.length cap,cc]),(g,hcE cap (dOf t).E)]))
   (fun r o=>r=.bool true∧o=lk (b0f c m n t++[(p,[kc,.hsl g 223 14 (dOf t).E.length cap,cc]),(g,hcE cap (dOf t).E)])):=by
 have hK:=b4i c m n hh t ht.k (by have:=ht.lk;omega)
 have hC:=b2t c m n hh t ht.c (by have:=ht.lc;omega)
 have hKl:(dOf t).K.length≤90000:=by rw[a5k];exact ht.lk
 have hCl:(dOf t).C.length≤90000:=by rw[b1M];exact ht.lc
 have hEl:=a9a t
 rw[show (a0i t).map KeyC.cs=kys (dOf t).K from rfl]at hK
 rw[show ((a5L t).map fun e=>[AV.str e.1,.int .i64 e.2])=ens (dOf t).C from rfl]at hC
 refine a3C _ _ _ (by simp) ?_
 simp only[a2O,hh,hp,hg,hk,hcc,List.cons_append,List.nil_append, ↓Ed,Eu, ↓reduceIte,reduceCtorEq,Nat.reduceAdd,Nat.reduceEqDiff,Nat.reduceLT,Nat.reduceLeDiff,Int.reduceToNat,Int.reduceEq,Int.reduceLT,Int.reduceLE,w64,List.length_append,List.length_map,Nat.mul_one,beq_self_eq_true,PktC.cs,EvC.cs,EntC.cs,KeyC.cs,a0h,Int.reduceAdd,a0l,a0u,a1b,a4t]
 repeat' ((first|exact tt|refine c3 (hK) ?_|refine c3 (hC) ?_|refine na fun b=>?_|refine nb fun b hb=>?_|refine iq ?_|(refine jq ?_ ?_<;>intro h h')|refine Two_intro ?_ ?_|exact wZ|fail)<;>try refine sxDte ?_)
 refine wpx_loop (fun i:Nat=>⟨lk [(0,.ptr c 0),(1,.ptr p 0),(5,.sl (some 64) 4 (kys (dOf t).K)),(6,.int .i64 (i:Int))],lk [(c,[.mapv m,.mapv n]),(m,[mpK t.K]),(n,[mpC t.C]),(p,[kc,.hsl g 223 14 (dOf t).K.length cap,cc]),(g,hcE cap (dOf t).E)]⟩) (fun i=>i≤(dOf t).K.length) (fun i=>(dOf t).K.length - i) 0 (by omega) (Le_lit (by simp[LeL,lk,hh,hp,hg])) ?_
 intro i hi
 by_cases hlt:i<(dOf t).K.length
 ·have f1:a0a (decide ((i:Int)<(dOf t).K.length)=true):=fo
  have hG:=b9t c m n hh t ((dOf t).K.getD i default)
  rw[ent_nth i hlt]at hG
  simp only[Option.isSome_some,Option.getD_some]at hG
  have hTk:List.take 14 (List.drop (i * 14) (hcE cap (dOf t).E))=((dOf t).E.getD i default).cs:=entRow.drop_take cap (dOf t).E i default (by omega)
  have hL1:14≤(List.drop (i * 14) (hcE cap (dOf t).E)).length:=by
   rw[List.length_drop,show (hcE cap (dOf t).E).length=cap * 14 by unfold hcE;rw[entRow.len_hc,Nat.max_eq_left hcap]];omega
  generalize hkx:(dOf t).K.getD i default=k at *
  generalize (dOf t).E.getD i default=x at *
  simp only[EntC.cs]at hTk
  clear hK hC
  refine sxDte ?_
  repeat' ((first|exact tt|refine c3 (hG) ?_|refine na fun b=>?_|refine nb fun b hb=>?_|refine iq ?_|(refine jq ?_ ?_<;>intro h h')|refine Two_intro ?_ ?_|exact wZ|fail)<;>try refine sxDte ?_)
  all_goals first|exact Round_lit (i+1) ⟨Le_lit (by simp[LeL,lk,hh,hp,hg]),by omega,by omega⟩|trace_state
 have hie:i=(dOf t).K.length:=by omega
 subst hie
 have f1:a0a (decide (((dOf t).K.length:Int)<(dOf t).K.length)=false):=fo
 clear hK
 refine sxDte ?_
 repeat' ((first|exact tt|refine c3 (hC) ?_|refine na fun b=>?_|refine nb fun b hb=>?_|refine iq ?_|(refine jq ?_ ?_<;>intro h h')|refine Two_intro ?_ ?_|exact wZ|fail)<;>try refine sxDte ?_)
 refine wpx_loop (fun i:Nat=>⟨lk [(0,.ptr c 0),(1,.ptr p 0),(10,.sl (some 56) 2 (ens (dOf t).C)),(11,.int .i64 (i:Int))],lk [(c,[.mapv m,.mapv n]),(m,[mpK t.K]),(n,[mpC t.C]),(p,[kc,.hsl g 223 14 (dOf t).K.length cap,cc]),(g,hcE cap (dOf t).E)]⟩) (fun i=>i≤(dOf t).C.length) (fun i=>(dOf t).C.length - i) 0 (by omega) (Le_lit (by simp[LeL,lk,hh,hp,hg])) ?_
 intro i hi
 clear f1 hC
 by_cases hlt:i<(dOf t).C.length
 ·have f1:a0a (decide ((i:Int)<(dOf t).C.length)=true):=fo
  generalize hkx:(dOf t).C.getD i default=k at *
  refine sxDte ?_
  repeat' ((first|exact tt|refine na fun b=>?_|refine nb fun b hb=>?_|refine iq ?_|(refine jq ?_ ?_<;>intro h h')|refine Two_intro ?_ ?_|exact wZ|fail)<;>try refine sxDte ?_)
  all_goals first|exact Round_lit (i+1) ⟨Le_lit (by simp[LeL,lk,hh,hp,hg]),by omega,by omega⟩|trace_state
 have hie:i=(dOf t).C.length:=by omega
 subst hie
 have f1:a0a (decide (((dOf t).C.length:Int)<(dOf t).C.length)=false):=fo
 refine sxDte ?_
 repeat' ((first|exact tt|refine na fun b=>?_|refine nb fun b hb=>?_|refine iq ?_|(refine jq ?_ ?_<;>intro h h')|refine Two_intro ?_ ?_|exact wZ|fail)<;>try refine sxDte ?_)
 all_goals exact ro_mk (by simp[LeL,lk,hh,hp,hg,a0z,arR]) dom5
theorem b7C(c m n p:Nat)(hh:(¬ c=m∧¬ m=c)∧(¬ c=n∧¬ n=c)∧¬ m=n∧¬ n=m)(hp:(¬ p=c∧¬ c=p)∧(¬ p=m∧¬ m=p)∧¬ p=n∧¬ n=p)(kc cc:AV)(t:Tb)(hk:kc.alias=.sl none 4 (kys (dOf t).K))(hcc:cc.alias=.sl none 2 (ens (dOf t).C))
  (ht:Tgood 90000 t) (ht0:t.K=[]):
  CT Tryz.prog 75 [.ptr c 0,.ptr p 0] (lk (b0f c m n t++[(p,[kc,.nils 223 14,cc])]))
   (fun r o=>r=.bool true∧o=lk (b0f c m n t++[(p,[kc,.nils 223 14,cc])])):=by
 have hK:=b4i c m n hh t ht.k (by have:=ht.lk;omega)
 have hC:=b2t c m n hh t ht.c (by have:=ht.lc;omega)
 have hKl:(dOf t).K.length≤90000:=by rw[a5k];exact ht.lk
 have hN0:a0a ((dOf t).K.length=0):=by show (dOf t).K.length=0;rw[a5k,ht0];rfl
 clear ht0
 have hCl:(dOf t).C.length≤90000:=by rw[b1M];exact ht.lc
 have hEl:=a9a t
 rw[show (a0i t).map KeyC.cs=kys (dOf t).K from rfl]at hK
 rw[show ((a5L t).map fun e=>[AV.str e.1,.int .i64 e.2])=ens (dOf t).C from rfl]at hC
 refine a3C _ _ _ (by simp) ?_
 simp only[a2O,hh,hp,hk,hcc,List.cons_append,List.nil_append, ↓Ed,Eu, ↓reduceIte,reduceCtorEq,Nat.reduceAdd,Nat.reduceEqDiff,Nat.reduceLT,Nat.reduceLeDiff,Int.reduceToNat,Int.reduceEq,Int.reduceLT,Int.reduceLE,w64,List.length_append,List.length_map,Nat.mul_one,beq_self_eq_true,PktC.cs,EvC.cs,EntC.cs,KeyC.cs,a0h,Int.reduceAdd,a0l,a0u,a1b,a4t]
 repeat' ((first|exact tt|refine c3 (hK) ?_|refine c3 (hC) ?_|refine na fun b=>?_|refine nb fun b hb=>?_|refine iq ?_|(refine jq ?_ ?_<;>intro h h')|refine Two_intro ?_ ?_|exact wZ|fail)<;>try refine sxDte ?_)
 refine wpx_loop (fun i:Nat=>⟨lk [(0,.ptr c 0),(1,.ptr p 0),(5,.sl (some 64) 4 (kys (dOf t).K)),(6,.int .i64 (i:Int))],lk [(c,[.mapv m,.mapv n]),(m,[mpK t.K]),(n,[mpC t.C]),(p,[kc,.nils 223 14,cc])]⟩) (fun i=>i≤(dOf t).K.length) (fun i=>(dOf t).K.length - i) 0 (by omega) (Le_lit (by simp[LeL,lk,hh,hp])) ?_
 intro i hi
 by_cases hlt:i<(dOf t).K.length
 ·exact absurd hlt (by rw[show (dOf t).K.length=0 from hN0];simp)
 have hie:i=(dOf t).K.length:=by omega
 subst hie
 have f1:a0a (decide (((dOf t).K.length:Int)<(dOf t).K.length)=false):=fo
 clear hK
 refine sxDte ?_
 repeat' ((first|exact tt|refine c3 (hC) ?_|refine na fun b=>?_|refine nb fun b hb=>?_|refine iq ?_|(refine jq ?_ ?_<;>intro h h')|refine Two_intro ?_ ?_|exact wZ|fail)<;>try refine sxDte ?_)
 refine wpx_loop (fun i:Nat=>⟨lk [(0,.ptr c 0),(1,.ptr p 0),(10,.sl (some 56) 2 (ens (dOf t).C)),(11,.int .i64 (i:Int))],lk [(c,[.mapv m,.mapv n]),(m,[mpK t.K]),(n,[mpC t.C]),(p,[kc,.nils 223 14,cc])]⟩) (fun i=>i≤(dOf t).C.length) (fun i=>(dOf t).C.length - i) 0 (by omega) (Le_lit (by simp[LeL,lk,hh,hp])) ?_
 intro i hi
 clear f1 hC
 by_cases hlt:i<(dOf t).C.length
 ·have f1:a0a (decide ((i:Int)<(dOf t).C.length)=true):=fo
  generalize hkx:(dOf t).C.getD i default=k at *
  refine sxDte ?_
  repeat' ((first|exact tt|refine na fun b=>?_|refine nb fun b hb=>?_|refine iq ?_|(refine jq ?_ ?_<;>intro h h')|refine Two_intro ?_ ?_|exact wZ|fail)<;>try refine sxDte ?_)
  all_goals first|exact Round_lit (i+1) ⟨Le_lit (by simp[LeL,lk,hh,hp]),by omega,by omega⟩|trace_state
 have hie:i=(dOf t).C.length:=by omega
 subst hie
 have f1:a0a (decide (((dOf t).C.length:Int)<(dOf t).C.length)=false):=fo
 refine sxDte ?_
 repeat' ((first|exact tt|refine na fun b=>?_|refine nb fun b hb=>?_|refine iq ?_|(refine jq ?_ ?_<;>intro h h')|refine Two_intro ?_ ?_|exact wZ|fail)<;>try refine sxDte ?_)
 all_goals exact ro_mk (by simp[LeL,lk,hh,hp,a0z,arR]) dom4
end
section
open Go.RowKit
set_option maxRecDepth 100000
def txs(l:List (List UInt8)):List (List AV):=l.map fun s=>[.str s]
theorem a0v(l:List (List UInt8)):(txs l).length=l.length:=by simp[txs]
theorem a0x(l:List (List UInt8))(i:Nat)(h:i<l.length):(txs l).getD i []=[.str (l.getD i [])]:=by simp[txs,h]
theorem asc_of{l:List Int}(h:RiseN l):Asc l:=by
 have key:∀ d i,i+d<l.length→l.getD i 0≤l.getD (i+d) 0:=by
  intro d
  induction d with
  | zero=>intro i _;exact Int.le_refl _
  | succ d ih=>
   intro i hi
   have h1:=ih i (by omega)
   have h2:=h.2 (i+d) (by omega)
   rw[show i+(d+1)=i+d+1 by omega];omega
 intro i j hij hj
 have:=key (j - i) i (by omega)
 rwa [show i+(j - i)=j by omega]at this
theorem sxIxb{A B:Prop}(h:B)(e:A=B:=by (simp (disch:=omega) only[*, ↓Ed,Eu, ↓reduceIte,reduceCtorEq,Nat.reduceAdd,Nat.reduceEqDiff,Nat.reduceLT,Nat.reduceLeDiff,Int.reduceToNat,Int.reduceEq,Int.reduceLT,Int.reduceLE,w64,List.length_append,List.length_map,Nat.mul_one,beq_self_eq_true,PktC.cs,EvC.cs,BlkC.cs,EntC.cs,KeyC.cs,a0h,Int.reduceAdd,a0e,a0d,a0v,a0x,ixO,a0D,gdE];first|done|rfl)):A:=e▸h
set_option maxHeartbeats 4000000 in
theorem b8O(l:List Int)(h:RiseN l)(hl:l.length≤100000):CP Tryz.prog 63 [.sl none 1 (ixs l)] (.sl none 2 (rgs (ofN l))):=by
 have hC:=b5g l (by omega)
 have hS:=b7h l (by omega) (asc_of h)
 have hg:=ofN_good h
 refine CP_okf b1s (by simp) ?_
 simp only[b0p];refine sxIxb ?_
 repeat' ((first|exact tt|refine CallO_pure (hC) ?_|refine CallO_pure (hS) ?_|refine na fun b=>?_|refine nb fun b hb=>?_|refine iq ?_|(refine jq ?_ ?_<;>intro h h')|refine Two_intro ?_ ?_|exact wZ|fail)<;>try refine sxIxb ?_)
 clear hC hS
 refine wpx_loop (fun x:Nat × RS=>⟨lk [(4,rsV 40 (ofN (l.take x.1)) x.2),(12,.sl none 1 (ixs l)),(13,.int .i64 (l.length:Int)),(14,.int .i64 (x.1:Int))],lk (rsO (ofN (l.take x.1)) x.2)⟩) (fun x=>x.1≤l.length∧a8w (ofN (l.take x.1)) x.2∧(x.2≠none→0<x.1)) (fun x=>l.length - x.1) (0,none) ⟨by simp,rfl,by simp⟩ (Le_lit (by simp[LeL,lk,rsV,rsO])) ?_
 rintro ⟨k,fm⟩ ⟨i1,i2,i3⟩
 simp only at i1 i2 i3
 obtain ⟨g1,g2,g3,g4⟩:=hg k i1
 by_cases hkl:k<l.length
 ·have f1:a0a (decide ((k:Int)<l.length)=true):=fo
  have hb:=h.1 k hkl
  simp only[mxN]at hb
  have hM:=b4c (l.getD k 0)
  rw[decide_eq_true (by simp only[mxN];exact hb)]at hM
  have hs:=ofN_take hkl
  have hlt:=ofN_lt h hkl
  clear hg h
  rcases fm with _ | ⟨g,cap⟩
  ·have ho:ofN (l.take k)=[]:=i2
   rw[ho]at hs g3
   have hs':ofN (l.take (k+1))=[(l.getD k 0,l.getD k 0)]:=hs
   clear hs hlt g1 g2 g3 g4 i3 i2
   have f3:a0a (decide ((0:Int) ≤ -1)=false):=rfl
   generalize hx:l.getD k 0=n at *
   simp (disch:=omega) only[ho,rsV,rsO,hx, ↓Ed,Eu, ↓reduceIte,reduceCtorEq,Nat.reduceAdd,Nat.reduceEqDiff,Nat.reduceLT,Nat.reduceLeDiff,Int.reduceToNat,Int.reduceEq,Int.reduceLT,Int.reduceLE,w64,List.length_append,List.length_map,Nat.mul_one,beq_self_eq_true,PktC.cs,EvC.cs,BlkC.cs,EntC.cs,KeyC.cs,a0h,Int.reduceAdd,a0e,a0d,a0v,a0x,ixO,a0D,gdE]
   repeat' ((first|exact tt|refine CallO_pure (hM) ?_|(refine rhapB (n,n) (NewB_intro0 (fun b cap hc=>?_)))|refine na fun b=>?_|refine nb fun b hb=>?_|refine iq ?_|(refine jq ?_ ?_<;>intro h h')|refine Two_intro ?_ ?_|exact wZ|fail)<;>try refine sxIxb ?_)
   all_goals exact Round_lit (k+1,some (b,cap)) ⟨Le_lit (by simp[LeL,lk,rsV,rsO,hs']),⟨hkl,by simpa[a8w,hs']using hc,by simp⟩,by simp only;omega⟩
  ·have hk0:0<k:=i3 (by simp)
   have h0:0<(ofN (l.take k)).length:=by omega
   have hbd:=g1.bd ((ofN (l.take k)).length - 1) (by omega)
   simp only[mxN]at hbd
   have hlt2:=(hlt ((ofN (l.take k)).length - 1) (by omega)).2
   simp only[a8w]at i2
   clear hlt g1 g3 g4 i3
   generalize hx:l.getD k 0=n at *
   generalize ofN (l.take k)=o at *
   have e1:((o.length:Int) - 1).toNat=o.length - 1:=by omega
   have r2:=b9U cap o (o.length - 1) (by omega)
   have st:=b9p cap o (o.length - 1) (by omega) n
   have hln:=b3z cap o
   have f3:a0a (decide ((0:Int)≤(o.length:Int) - 1)=true):=fo
   have hlc:(o.length - 1) * 2+1+1≤(hcR cap o).length:=by rw[hln];omega
   clear hln
   generalize hy:o.getD (o.length - 1) default=y at *
   have hsn:a5E o n=if n - y.2<2 then o.set (o.length - 1) (y.1,n) else o++[(n,n)]:=by unfold a5E;rw[if_neg (by omega),hy]
   rw[hsn]at hs
   clear hsn
   by_cases hq:n - y.2<2
   ·have f4:a0a (decide (n - y.2<2)=true):=fo
    rw[if_pos hq]at hs
    clear hq
    simp (disch:=omega) only[rsV,rsO,hx, ↓Ed,Eu, ↓reduceIte,reduceCtorEq,Nat.reduceAdd,Nat.reduceEqDiff,Nat.reduceLT,Nat.reduceLeDiff,Int.reduceToNat,Int.reduceEq,Int.reduceLT,Int.reduceLE,w64,List.length_append,List.length_map,Nat.mul_one,beq_self_eq_true,PktC.cs,EvC.cs,BlkC.cs,EntC.cs,KeyC.cs,a0h,Int.reduceAdd,a0e,a0d,a0v,a0x,ixO,a0D,gdE]
    repeat' ((first|exact tt|refine CallO_pure (hM) ?_|refine na fun b=>?_|refine nb fun b hb=>?_|refine iq ?_|(refine jq ?_ ?_<;>intro h h')|refine Two_intro ?_ ?_|exact wZ|fail)<;>try refine sxIxb ?_)
    all_goals exact Round_lit (k+1,some (g,cap)) ⟨Le_lit (by simp[LeL,lk,rsV,rsO,hs]),⟨hkl,by simp only[a8w,hs,List.length_set];omega,by simp⟩,by simp only;omega⟩
   ·have f4:a0a (decide (n - y.2<2)=false):=fo
    rw[if_neg hq]at hs
    clear hq
    simp (disch:=omega) only[rsV,rsO,hx, ↓Ed,Eu, ↓reduceIte,reduceCtorEq,Nat.reduceAdd,Nat.reduceEqDiff,Nat.reduceLT,Nat.reduceLeDiff,Int.reduceToNat,Int.reduceEq,Int.reduceLT,Int.reduceLE,w64,List.length_append,List.length_map,Nat.mul_one,beq_self_eq_true,PktC.cs,EvC.cs,BlkC.cs,EntC.cs,KeyC.cs,a0h,Int.reduceAdd,a0e,a0d,a0v,a0x,ixO,a0D,gdE]
    repeat' ((first|exact tt|refine CallO_pure (hM) ?_|(refine rhapC (n,n) (NewB_intro (fun b hb cap' hc=>?_)) (by omega) (by omega);simp only[upd_del,del_cons,del_nil, *,if_true,if_false,ln_cons2,ln_nil,and_true]at hb)|refine na fun b=>?_|refine nb fun b hb=>?_|refine iq ?_|(refine jq ?_ ?_<;>intro h h')|refine Two_intro ?_ ?_|exact wZ|fail)<;>try refine sxIxb ?_)
    all_goals exact Round_lit (k+1,some (b,cap')) ⟨Le_lit (by simp[LeL,lk,rsV,rsO,hs]),⟨hkl,by simp only[a8w,hs,List.length_append,List.length_cons,List.length_nil];omega,by simp⟩,by simp only;omega⟩
 obtain rfl:k=l.length:=by omega
 have f1:a0a (decide ((l.length:Int)<l.length)=false):=fo
 clear hg h g1 g2 g3 g4 i3
 rw[List.take_length]at i2
 rcases fm with _ | ⟨g,cap⟩
 ·have ho:ofN l=[]:=i2
  simp (disch:=omega) only[List.take_length,ho,rsV,rsO, ↓Ed,Eu, ↓reduceIte,reduceCtorEq,Nat.reduceAdd,Nat.reduceEqDiff,Nat.reduceLT,Nat.reduceLeDiff,Int.reduceToNat,Int.reduceEq,Int.reduceLT,Int.reduceLE,w64,List.length_append,List.length_map,Nat.mul_one,beq_self_eq_true,PktC.cs,EvC.cs,BlkC.cs,EntC.cs,KeyC.cs,a0h,Int.reduceAdd,a0e,a0d,a0v,a0x,ixO,a0D,gdE]
  repeat' ((first|exact tt|refine na fun b=>?_|refine nb fun b hb=>?_|refine iq ?_|(refine jq ?_ ?_<;>intro h h')|refine Two_intro ?_ ?_|exact wZ|fail)<;>try refine sxIxb ?_)
  all_goals exact rf_hnil (e:=40) (by simp[a0z,arR,lk])
 ·simp only[a8w]at i2
  simp (disch:=omega) only[List.take_length,rsV,rsO, ↓Ed,Eu, ↓reduceIte,reduceCtorEq,Nat.reduceAdd,Nat.reduceEqDiff,Nat.reduceLT,Nat.reduceLeDiff,Int.reduceToNat,Int.reduceEq,Int.reduceLT,Int.reduceLE,w64,List.length_append,List.length_map,Nat.mul_one,beq_self_eq_true,PktC.cs,EvC.cs,BlkC.cs,EntC.cs,KeyC.cs,a0h,Int.reduceAdd,a0e,a0d,a0v,a0x,ixO,a0D,gdE]
  repeat' ((first|exact tt|refine na fun b=>?_|refine nb fun b hb=>?_|refine iq ?_|(refine jq ?_ ?_<;>intro h h')|refine Two_intro ?_ ?_|exact wZ|fail)<;>try refine sxIxb ?_)
  all_goals exact rf_row (e:=40) (g:=g) (cap:=cap) (by simp[a0z,arR,lk]) (by simp[lk]) rfl
theorem a4G(l:List Int)(x:Int):ixs (l++[x])=ixs l++[[.int .i64 x]]:=by simp[ixs]
theorem take_snocT{l:List (List UInt8)}{k:Nat}(h:k<l.length):l.take (k+1)=l.take k++[l.getD k []]:=by
 rw[List.take_succ,List.getElem?_eq_getElem h];simp[List.getD,h]
theorem feedI_take{c:List UInt8}{top:Int}{l:List (List UInt8)}{k:Nat}(h:k<l.length):a1y c top (l.take (k+1))=((a5F c top (a1y c top (l.take k)).1 (l.getD k [])).1,(a1y c top (l.take k)).2++[(a5F c top (a1y c top (l.take k)).1 (l.getD k [])).2]):=by rw[take_snocT h,b2I]
def lightT(l:List (List UInt8)):Prop:=l.length≤100∧∀ i,i<l.length→(l.getD i []).length≤1000000
theorem lightT.mem{l:List (List UInt8)}(h:lightT l)(k:Nat):∀ s∈l.take k,s.length≤1000000:=by
 intro s hs
 obtain ⟨i,hi,rfl⟩:=List.getElem_of_mem (List.mem_of_mem_take hs)
 have:=h.2 i hi
 simpa[List.getD,hi]using this
theorem feed_good{c:List UInt8}{top:Int}{l:List (List UInt8)}(h:lightT l)(k:Nat):∃ n,IxG c top n (a1y c top (l.take k)).1:=⟨_,a9d c top (l.take k) _ (h.mem k) (Nat.le_refl _)⟩
theorem b7G(p m:Nat)(hpm:¬ p=m∧¬ m=p)(c:List UInt8)(top:Int)(l:List (List UInt8))(hl:lightT l):
  CT Tryz.prog 20 [.ptr p 0,.sl none 1 (txs l)] (lk (ixO p m c top [])) (fun r o=>r=.sl (some 27) 1 (ixs (a1y c top l).2)∧o=lk (ixO p m c top (a1y c top l).1)):=by
 have hG:=feed_good (c:=c) (top:=top) hl
 have hn:=fun k=>a7T c top (l.take k)
 have hl2:=hl.2
 have hl1:=hl.1
 clear hl
 refine a4V _ _ _ (by simp) ?_
 simp (disch:=omega) only[a3c,hpm,a0v, ↓Ed,Eu, ↓reduceIte,reduceCtorEq,Nat.reduceAdd,Nat.reduceEqDiff,Nat.reduceLT,Nat.reduceLeDiff,Int.reduceToNat,Int.reduceEq,Int.reduceLT,Int.reduceLE,w64,List.length_append,List.length_map,Nat.mul_one,beq_self_eq_true,PktC.cs,EvC.cs,BlkC.cs,EntC.cs,KeyC.cs,a0h,Int.reduceAdd,a0e,a0d,a0v,a0x,ixO,a0D,gdE]
 repeat' ((first|exact tt|refine na fun b=>?_|refine nb fun b hb=>?_|refine iq ?_|(refine jq ?_ ?_<;>intro h h')|refine Two_intro ?_ ?_|exact wZ|fail)<;>try refine sxIxb ?_)
 refine wpx_loop (fun k:Nat=>⟨lk [(0,.ptr p 0),(5,.sl (some 27) 1 (ixs (a1y c top (l.take k)).2)),(8,.sl none 1 (txs l)),(9,.int .i64 (l.length:Int)),(10,.int .i64 (k:Int))],lk (ixO p m c top (a1y c top (l.take k)).1)⟩) (fun k=>k≤l.length) (fun k=>l.length - k) 0 (by omega) (Le_lit (by simp[LeL,lk,hpm,a7U,ixs])) ?_
 intro k hk
 by_cases hkl:k<l.length
 ·have f1:a0a (decide ((k:Int)<l.length)=true):=fo
  have hmx:(1000000:Nat)≤maxLen:=by unfold maxLen;decide
  obtain ⟨n,g⟩:=hG k
  have hA:=b6m p m hpm c top (a1y c top (l.take k)).1 (l.getD k []) (hl2 k hkl) g.sm
  have hT:=feedI_take (c:=c) (top:=top) hkl
  have hx:=a0x l k hkl
  have hn':=hn k
  rw[List.length_take,Nat.min_eq_left hk]at hn'
  clear hG hn g hl2
  generalize a1y c top (l.take k)=F at *
  generalize hs:l.getD k []=s at *
  generalize a5F c top F.1 s=R at *
  simp (disch:=omega) only[hpm,hx,a0v, ↓Ed,Eu, ↓reduceIte,reduceCtorEq,Nat.reduceAdd,Nat.reduceEqDiff,Nat.reduceLT,Nat.reduceLeDiff,Int.reduceToNat,Int.reduceEq,Int.reduceLT,Int.reduceLE,w64,List.length_append,List.length_map,Nat.mul_one,beq_self_eq_true,PktC.cs,EvC.cs,BlkC.cs,EntC.cs,KeyC.cs,a0h,Int.reduceAdd,a0e,a0d,a0v,a0x,ixO,a0D,gdE]
  repeat' ((first|exact tt|refine c2 (hA) ?_|refine na fun b=>?_|refine nb fun b hb=>?_|refine iq ?_|(refine jq ?_ ?_<;>intro h h')|refine Two_intro ?_ ?_|exact wZ|fail)<;>try refine sxIxb ?_)
  all_goals exact Round_lit (k+1) ⟨Le_lit (by simp[LeL,lk,hpm,hT,a4G]),by omega,by omega⟩
 obtain rfl:k=l.length:=by omega
 have f1:a0a (decide ((l.length:Int)<l.length)=false):=fo
 clear hG hn hl2
 simp (disch:=omega) only[hpm,List.take_length, ↓Ed,Eu, ↓reduceIte,reduceCtorEq,Nat.reduceAdd,Nat.reduceEqDiff,Nat.reduceLT,Nat.reduceLeDiff,Int.reduceToNat,Int.reduceEq,Int.reduceLT,Int.reduceLE,w64,List.length_append,List.length_map,Nat.mul_one,beq_self_eq_true,PktC.cs,EvC.cs,BlkC.cs,EntC.cs,KeyC.cs,a0h,Int.reduceAdd,a0e,a0d,a0v,a0x,ixO,a0D,gdE]
 repeat' ((first|exact tt|refine na fun b=>?_|refine nb fun b hb=>?_|refine iq ?_|(refine jq ?_ ?_<;>intro h h')|refine Two_intro ?_ ?_|exact wZ|fail)<;>try refine sxIxb ?_)
 all_goals exact ro_mk (by simp[LeL,lk,hpm,a0z,arR]) (dom2' rfl)
end
end Go.Proofs.YtgdhinnepnlihaaGreatDoor
