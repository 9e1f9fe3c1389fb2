import Derived.Test.YthdcogkdacnheaaGreatDoorK12
import Derived.Test.YthdcogkdacnheaaGreatDoorK19
namespace Go.Proofs.YthdcogkdacnheaaGreatDoor
set_option linter.all false
set_option maxHeartbeats 9000000
section
open Go.RowKit Go.Sort Go.Shelf
set_option maxRecDepth 100000
abbrev enC(x:a1C):List AV:=[.str x.1,.int .i64 x.2]
theorem enRow:RowT enC 2 where
 len:=fun _=>rfl
 no:=fun x c h=>by
  simp only[List.mem_cons,List.not_mem_nil,or_false]at h
  rcases h with rfl|rfl<;>exact ⟨fun _ _ _ e=>(by cases e),fun _ e=>(by cases e)⟩
def hcE(cap:Nat)(l:List a1C):List AV:=hc 2 cap (l.map enC)
theorem a6N(x:a1C):a5O (enC x)=true:=rfl
abbrev enV(x:a1C):List Value:=a0V (enC x)
theorem a3U(x:a1C):(enV x).length=2:=rfl
theorem sxSoe{A B:Prop}(h:B)(e:A=B:=by (simp (disch:=omega) only[*, ↓Ed,Eu, ↓reduceIte,reduceCtorEq,Nat.reduceAdd,Nat.reduceEqDiff,Nat.reduceLT,Nat.reduceLeDiff,Int.reduceToNat,Int.reduceEq,Int.reduceLT,Int.reduceLE,w64];first|done|rfl)):A:=e▸h
theorem b3g(x y:a1C):CP Tryz.prog 59 [.agg (enC x),.agg (enC y)] (.int .i64 (cmpL a1r x y)):=by
 have h1:CP Tryz.prog 61 [.agg [.str x.1,.int .i64 x.2],.agg [.str y.1,.int .i64 y.2]] (.bool (a1r x y)):=b2r _ _ _ _
 have h2:CP Tryz.prog 61 [.agg [.str y.1,.int .i64 y.2],.agg [.str x.1,.int .i64 x.2]] (.bool (a1r y x)):=b2r _ _ _ _
 have b1:=b3f (a1r x y)
 have b2:=b3f (a1r y x)
 have ha:a1r x y=true→a1r y x=false:=fun h=>by
  cases h':a1r y x with
  | false=>rfl
  | true=>have:=endSTO.tr _ _ _ h h';rw[endSTO.irr]at this;cases this
 unfold cmpL
 refine a7p _ _ (by simp) ?_
 generalize a1r x y=a at *
 generalize a1r y x=b at *
 cases a<;>cases b
 all_goals first|(exact absurd (ha rfl) (by decide))|skip
 all_goals
  simp (disch:=omega) only[a4W,a2I, ↓Ed,Eu, ↓reduceIte,reduceCtorEq,Nat.reduceAdd,Nat.reduceEqDiff,Nat.reduceLT,Nat.reduceLeDiff,Int.reduceToNat,Int.reduceEq,Int.reduceLT,Int.reduceLE,w64]
  repeat' ((first|refine CallW_intro (h1) ?_|refine CallW_intro (h2) ?_|refine CallW_intro (b1) ?_|refine CallW_intro (b2) ?_|refine NewB_intro0 (fun b=>?_)|(refine NewB_intro (fun b hb=>?_);simp only[ln_cons2,ln_nil,and_true]at hb)|(with_reducible apply wA;focus exact OM_a)|((first|refine gW_sp ?_|refine condW_sp ?_|refine pickW_sp ?_);(try refine Sp_n ?_);(first|refine wT ?_|refine wF ?_|refine wL (fun h h'=>?_) (fun h h'=>?_)|refine wE (fun h h'=>?_) (fun h h'=>?_)|refine Sp_split (fun h=>?_) (fun h=>?_))<;>(try (exfalso;omega)))|refine TreeW_intro (by rfl) ?_|refine TreeW_all ?_|refine a0a ?_|refine Two_intro ?_ ?_|exact wZ|fail)<;>(try refine sxSoe ?_)<;>(try exact True.intro))
 all_goals decide
theorem b5Q(x y:a1C)(W:World)(hG:Glob W fun _ _=>False):Calls Tryz.prog 59 #[.agg (enV x).toArray,.agg (enV y).toArray] W fun e w'=>e=.returned (.int .i64 (cmpL a1r x y))∧∃ q os',w'=grow (W.drewN q) os':=by
 refine CP_grow (b3g x y) hG (vs:=[_,_]) rfl (fun i u c hu hc=>?_) (fun W' U' u h=>by cases h;rfl)
 match i with
 | 0=>simp at hu hc;subst hu;subst hc;exact flat_VR (a6N x) _ _
 | 1=>simp at hu hc;subst hu;subst hc;exact flat_VR (a6N y) _ _
 | i+2=>simp at hu
theorem b4p(blk off size:Nat)(w:World){U:Nat→Nat→Prop}(hG:Glob w U)(hb:∀ x∈a1k,x.1≠blk):CmpLays Tryz.prog 59 #[] enV 2 (cmpL a1r) blk off size w:=fun _ _ _ _ x y=>b5Q x y _ (glob_sort hG hb)
def a0N(l:List a1C):List a1C:=l.mergeSort fun x y => !(ltOf (cmpL a1r)) y x
theorem a4R(l:List a1C):(a0N l).Perm l:=List.mergeSort_perm _ _
theorem a1Y(l:List a1C):(a0N l).length=l.length:=(a4R l).length_eq
set_option maxHeartbeats 4000000 in
theorem b1a(g cap:Nat)(l:List a1C)(hl:l.length≤1000000):
  CT Tryz.prog 58 [.hsl g 24 2 l.length cap,.fn 59] (lk [(g,hcE cap l)]) (fun r o=>r=.tup []∧o=lk [(g,hcE cap (a0N l))]):=by
 intro W U vs hlen hv hI
 obtain ⟨v0,v1,rfl⟩:∃ v0 v1,vs=[v0,v1]:=by
  match vs,hlen with
  | [v0,v1],_=>exact ⟨v0,v1,rfl⟩
 have h0:=hv 0 v0 _ rfl rfl
 have h1:=hv 1 v1 _ rfl rfl
 cases h1
 cases h0 with
 | hsl _ _ _ _ _ n1 n2 hm=>
 obtain ⟨_,_,c3⟩:=hm
 obtain ⟨cur,ty,g1,g2,g3,g4,g5⟩:=hI.obc (b:=g) (cs:=hcE cap l) (by simp[lk]) ⟨_,_,_,c3⟩
 have s1:cur.size=cap * 2:=by rw[g2,hcE,enRow.len_hc];congr 1;omega
 have hfl:(l.flatMap enV).length=l.length * 2:=a3r a3U l
 have hcell:∀ t,t<l.length * 2→cur[t]?=(l.flatMap enV)[t]?:=fun t ht=>by
  have hi:t / 2<l.length:=by omega
  have hj:t % 2<2:=by omega
  have e:t / 2 * 2+t % 2=t:=by omega
  have hf:=a4p a3U l (t / 2) (t % 2) hi hj
  rw[e]at hf
  rw[hf]
  have hx:(l.map enC)[t / 2]?=some (enC (l[t / 2]?.getD default)):=by simp[hi]
  have h5:=hc_get (sz:=2) (cap:=cap) (enRow.all l) hx hj
  rw[e]at h5
  have hlt:t % 2<(enC (l[t / 2]?.getD default)).length:=hj
  have h6:=g3 t _ (by rw[hcE,h5];exact List.getElem?_eq_getElem hlt)
  have hu:t % 2<(enV (l[t / 2]?.getD default)).length:=hj
  have:=(a1s _ (a6N _) (t % 2) _ _ (List.getElem?_eq_getElem hlt) (List.getElem?_eq_getElem hu)).2.1 W U _ h6.1
  rw[List.getElem?_eq_getElem hu,Array.getElem?_eq_getElem (by omega), ← this,Array.getD_eq_getD_getElem?,Array.getElem?_eq_getElem (by omega)]
  rfl
 have htk:cur.toList.take (l.length * 2)=l.flatMap enV:=by
  apply List.ext_getElem?
  intro t
  by_cases ht:t<l.length * 2
  ·rw[List.getElem?_take_of_lt ht,Array.getElem?_toList];exact hcell t ht
  ·rw[List.getElem?_take_eq_none (by omega),List.getElem?_eq_none (by omega)]
 have hH:=holdsK_of_block a3U (by omega) g1 htk
 have hgl:g<W.heap.size:=(Array.getElem?_eq_some_iff.1 g1).1
 have hG:=hI.fr.g0
 have hnt:∀ x∈a1k,x.1≠g:=fun x hx e=>by
  have:=(hG x hx).2 0
  rw[e]at this
  exact this (g4 0)
 have cS:=AnyQ.slices_SortFunc_total Tryz.sort58 2 Tryz.isAgg24 Tryz.sizeOf24 enV a3U (fun x=>plainV_one (a6N x)) (cmpL a1r) endSTO.swo 59 #[] g 0 cap l.toArray W (enters_of Tryz.func59 (by kernel_rfl) rfl) (b4p _ _ _ _ hG hnt) hH hgl (by simp;omega)
  (fun x y h1 h2=>endSTO.tot x y (by rwa [lt_cmpL]at h1) (by rwa [lt_cmpL]at h2))
 refine (show Calls Tryz.prog 58 #[.slice (some ⟨g,0,none⟩) l.length cap,_] W _ from cS).mono ?_
 rintro e W2 ⟨rfl,nn,os,rfl⟩
 rw[show (l.toArray.toList.mergeSort fun x y => !(ltOf (cmpL a1r)) y x)=a0N l from rfl]
 obtain ⟨Wd,hWd⟩:∃ Wd,Wd=grow (W.drewN nn) os:=⟨_,rfl⟩
 have hE:Ext W U Wd U:=⟨by subst hWd;exact below_grow,fun _ _ _=>Iff.rfl⟩
 have hg1:Wd.heap[g]?=some (.cells cur ty.1 (0,0)):=by
  have:=hE.b.block g hgl
  exact this.trans g1
 obtain ⟨A,hA⟩:∃ A:Array Value,A=putCells id 0 ((a0N l).flatMap enV).toArray cur:=⟨_,rfl⟩
 have hW:sortWorldK enV 2 W g 0 nn (a0N l).toArray os=Wd.setRow g A:=by
  subst hWd
  unfold sortWorldK World.setRow grow putRowK putRow mapBlock Sort.ahead World.drewN
  simp only[World.mk.injEq,and_true,true_and]
  apply Array.ext_getElem?
  intro j
  rw[Array.getElem?_append,Array.getElem?_modify,Array.getElem?_modify,Array.getElem?_append]
  simp only[Array.size_modify]
  by_cases hjg:g=j
  ·subst hjg
   have g1':W.heap[g]=.cells cur ty.1 (0,0):=by
    rw[Array.getElem?_eq_getElem hgl]at g1;exact Option.some.inj g1
   simp[hgl,g1',onCells,hA,a9p a3U (show 0<2 by omega)]
  ·simp[hjg]
 rw[hW]
 have hsl:=a1Y l
 have hfs:((a0N l).flatMap enV).length=l.length * 2:=by rw[a3r a3U,hsl]
 have hAs:A.size=cur.size:=by rw[hA];simp[putCells]
 have hAl:∀ j,j<l.length * 2→A[j]?=((a0N l).flatMap enV)[j]?:=fun j hj=>by
  have hjc:j<cur.size:=by omega
  have hjd:j<((a0N l).flatMap enV).length:=by omega
  rw[hA]
  simp only[putCells,Array.getElem?_mapIdx,Array.getElem?_eq_getElem hjc,Option.map_some,Nat.zero_le,true_and,Nat.zero_add,List.size_toArray,hjd,if_true,Nat.sub_zero,id]
  rw[List.getElem?_eq_getElem hjd]
  simp[List.getElem?_eq_getElem hjd]
 have hAr:∀ j,l.length * 2≤j→A[j]?=cur[j]?:=fun j hj=>by
  rw[hA]
  have:¬ j<((a0N l).flatMap enV).length:=by omega
  simp only[putCells,Array.getElem?_mapIdx,List.size_toArray,Nat.zero_le,true_and,Nat.zero_add,if_neg this]
  cases cur[j]?<;>rfl
 have hln:(hcE cap (a0N l)).length=(hcE cap l).length:=by rw[hcE,hcE,enRow.len_hc,enRow.len_hc,hsl]
 have h6:=(hI.ext hE).seto (b:=g) (cs:=hcE cap l) (cs':=hcE cap (a0N l)) (vs':=A) (by simp[lk]) hg1 hln hAs
  (fun j c hc=>by
   have hjl:=(List.getElem?_eq_some_iff.1 hc).1
   rcases hc_cases (sz:=2) (by omega) (enRow.all (a0N l)) hc with ⟨e,q1,q2⟩ | ⟨rfl,hge⟩
   ·have hk:j / 2<(a0N l).length:=by
     have:=(List.getElem?_eq_some_iff.1 q1).1
     rwa [List.length_map]at this
    have hj2:j<l.length * 2:=by omega
    have hf:=a4p a3U (a0N l) (j / 2) (j % 2) hk (by omega)
    rw[show j / 2 * 2+j % 2=j by omega]at hf
    have e1:enC ((a0N l)[j / 2]?.getD default)=e:=by
     rw[List.getElem?_map,List.getElem?_eq_getElem hk,Option.map_some,Option.some.injEq]at q1
     rw[List.getElem?_eq_getElem hk];exact q1
    subst e1
    have hu:j % 2<(enV ((a0N l)[j / 2]?.getD default)).length:=by show j % 2<2;omega
    have hp:=a1s _ (a6N _) (j % 2) _ _ q2 (List.getElem?_eq_getElem hu)
    have e2:A.getD j undef=(enV ((a0N l)[j / 2]?.getD default))[j % 2]:=by
     rw[Array.getD_eq_getD_getElem?,hAl j hj2,hf,List.getElem?_eq_getElem hu];rfl
    rw[e2]
    exact ⟨hp.1 _ _,hp.2.2⟩
   ·refine ⟨.any _, ?_⟩
    by_cases hj2:j<l.length * 2
    ·rw[Array.getD_eq_getD_getElem?,hAl j hj2,List.getElem?_eq_getElem (by omega),Option.getD_some]
     obtain ⟨y,_,hy⟩:=List.mem_flatMap.1 (List.getElem_mem (l:=(a0N l).flatMap enV) (n:=j) (by omega))
     exact plainV_one (a6N y) _ hy
    ·rw[Array.getD_eq_getD_getElem?,hAr j (by omega), ← Array.getD_eq_getD_getElem?]
     exact (g3 j _ (List.getElem?_eq_getElem (l:=hcE cap l) (by omega))).2)
  (fun u hu=>absurd hu (headT_no (fun c hc=>(noOwn_cell (by omega) (enRow.all _) (enRow.noOwn _) hc).2) u))
  (fun j t k ls hj=>absurd rfl ((noOwn_cell (by omega) (enRow.all _) (enRow.noOwn _) hj).1 t k ls))
 have ho:upd (lk [(g,hcE cap l)]) g (some (hcE cap (a0N l)))=lk [(g,hcE cap (a0N l))]:=by
  funext b;simp only[upd,lk];split<;>rfl
 simp only[ho]at h6
 exact ⟨_,U,.tup [],_,rfl,⟨rfl,rfl⟩,dom1,h6.res1 (VR.tup [] [] rfl (fun i v c h=>by simp at h)) (Sole.plain fun _ _ _ e=>by cases e)⟩
theorem a9M:CT Tryz.prog 58 [.hnil 24 2,.fn 59] (lk []) (fun r o=>r=.tup []∧o=lk []):=by
 intro W U vs hlen hv hI
 obtain ⟨v0,v1,rfl⟩:∃ v0 v1,vs=[v0,v1]:=by
  match vs,hlen with
  | [v0,v1],_=>exact ⟨v0,v1,rfl⟩
 have h0:=hv 0 v0 _ rfl rfl
 have h1:=hv 1 v1 _ rfl rfl
 cases h1
 cases h0
 refine (AnyF.slices_SortFunc_none Tryz.sort58 none 0 _ W).mono ?_
 rintro e W2 ⟨rfl,rfl⟩
 exact ⟨_,U,.tup [],_,rfl,⟨rfl,rfl⟩,a1X _,hI.res1 (VR.tup [] [] rfl (fun i v c h=>by simp at h)) (Sole.plain fun _ _ _ e=>by cases e)⟩
end
section
open Go.RowKit Go.Lib
set_option maxRecDepth 100000
abbrev enR(l:List a1C):List (List AV):=l.map enC
section
variable {P:Program} {d:Option Nat} {s:St} {K:St→Prop}
theorem a7m(cap:Nat)(a:List UInt8)(n:Int):hc 2 cap [[.str a,.int .i64 n]]=hcE cap [(a,n)]:=rfl
theorem ehapB{e e' g' c':Nat}(x:a1C)(h1:a8D s.o (fun b=>∀ cap',1≤cap'→KS (St.put ⟨s.t,upd s.o b (some (hcE cap' [x]))⟩ d (.hsl b e 2 1 cap')) K))(hs:s.o g'=some (hcE c' [x]):=by first|((repeat (first|exact lk_hd _ _ _|(refine lk_tl ?_ ?_;(focus (first|assumption|(simp only[*,not_false_eq_true];done))))));done)|fail):b3X e 2 24 d s K (.hnil e 2) (.hsl g' e' 2 1 c'):=
 enRow.hap_nil (m:=[x]) (enRow.src_pre (l:=[x]) (n:=1) hs (by simp)) ⟨by simp,by simp[maxLen]⟩ (fun h=>by cases h) (fun _=>h1)
theorem ehapC{e e' g n cap g' c':Nat}{l:List a1C}(x:a1C)(h1:a8D (upd s.o g none) (fun b=>∀ cap',n+1≤cap'→KS (St.put ⟨s.t,upd (upd s.o g none) b (some (hcE cap' (l++[x])))⟩ d (.hsl b e 2 (n+1) cap')) K))
  (hb:n≤1000000:=by omega) (hcp:n≤cap:=by omega) (hg:s.o g=some (hcE cap l):=by first|((repeat (first|exact lk_hd _ _ _|(refine lk_tl ?_ ?_;(focus (first|assumption|(simp only[*,not_false_eq_true];done))))));done)|fail) (hs:s.o g'=some (hcE c' [x]):=by first|((repeat (first|exact lk_hd _ _ _|(refine lk_tl ?_ ?_;(focus (first|assumption|(simp only[*,not_false_eq_true];done))))));done)|fail) (hl:l.length=n:=by first|rfl|assumption|omega|fail):b3X e 2 24 d s K (.hsl g e 2 n cap) (.hsl g' e' 2 1 c'):=by
 have ht:l.take n=l:=by rw[← hl,List.take_length]
 refine enRow.hap_row (m:=[x]) hg (enRow.src_pre (l:=[x]) (n:=1) hs (by simp)) ⟨by omega,by omega⟩ ⟨by simp only[List.length_cons,List.length_nil];omega,by simp only[List.length_cons,List.length_nil,maxLen];omega⟩ ?_
 rw[ht];exact h1
theorem rf_ends{rs:List AR}{g e n cap:Nat}{l:List a1C}{A:List (Nat × List AV)}(h:a0P s rs (.hsl g e 2 n cap))(hg:s.o g=some (hcE cap l))(hn:l.length=n)(h2:LeL A s.o)(hd:lk A g=none):b1V s rs (lk A) (fun r o=>r=.sl none 2 (enR l)∧o=lk A):=by
 refine rf_mk (o2:=A) (o3:=[(g,hcE cap l)]) h (fun b cs hb=>⟨LeL_ok h2 b cs hb, ?_⟩) (fun b cs hb=>?_) (a1X _) ?_ ⟨rfl,rfl⟩
 ·rw[lk_cons]
  split
  ·rename_i e;subst e;rw[hd]at hb;cases hb
  ·rfl
 ·rw[lk_cons]at hb
  split at hb
  ·rename_i e;subst e;rw[hg];exact hb
  ·cases hb
 ·refine ⟨enR l,by simp[lk,hcE],enRow.all l,by simp[hn], ?_⟩
  rw[List.take_of_length_le (by simp[hn])]
theorem rf_ends0{rs:List AR}{e:Nat}{A:List (Nat × List AV)}(h:a0P s rs (.hnil e 2))(h2:LeL A s.o):b1V s rs (lk A) (fun r o=>r=.sl none 2 (enR [])∧o=lk A):=
 rf_mk (o2:=A) (o3:=[]) h (fun b cs hb=>⟨LeL_ok h2 b cs hb,rfl⟩) (fun b cs hb=>by cases hb) (a1X _) rfl ⟨rfl,rfl⟩
end
def a7O(l:List a1C):StS→AV
 | none=>.hnil 24 2
 | some (g,cap)=>.hsl g 24 2 l.length cap
def a7N(l:List a1C):StS→List (Nat × List AV)
 | none=>[]
 | some (g,cap)=>[(g,hcE cap l)]
def a9Q(A:List (Nat × List AV))(l:List a1C):StS→Prop
 | none=>l=[]
 | some (g,cap)=>l.length≤cap∧lk A g=none
theorem a2j(l:List a1C):a7O l none=.hnil 24 2:=rfl
theorem a1y(l:List a1C)(g cap:Nat):a7O l (some (g,cap))=.hsl g 24 2 l.length cap:=rfl
theorem a2i(l:List a1C):a7N l none=[]:=rfl
theorem a1x(l:List a1C)(g cap:Nat):a7N l (some (g,cap))=[(g,hcE cap l)]:=rfl
noncomputable def rdE (q:PrP):a1C:=((a0R q.1).2.1,(a0R q.1).2.2.1)
noncomputable def okX (L:List PrP) (q:PrP):Bool:=(a2R L (rdE q).1 (rdE q).2).2&&decide ((a0R q.1).2.2.2.2=0)
noncomputable def a6D (L M:List PrP):List a1C:=(M.filter (okX L)).map rdE
abbrev a7l:List UInt8:=[99,104,97,110,110,101,108,69,110,100,115,47]
theorem take_snocA{α:Type}[Inhabited α]{l:List α}{k:Nat}(h:k<l.length):l.take (k+1)=l.take k++[l.getD k default]:=by
 rw[List.take_succ,List.getElem?_eq_getElem h];simp[List.getD,h]
theorem allR_snoc{L M:List PrP}{k:Nat}(h:k<M.length):a6D L (M.take (k+1))=a6D L (M.take k)++(if okX L (M.getD k default)=true then [rdE (M.getD k default)] else []):=by
 rw[take_snocA h]
 unfold a6D
 rw[List.filter_append,List.map_append]
 congr 1
 simp only[List.filter_cons,List.filter_nil]
 split<;>simp
theorem a9e(L M:List PrP):(a6D L M).length≤M.length:=by
 unfold a6D;rw[List.length_map];exact List.length_filter_le _ _
theorem rdE_len{L:List PrP}(q:PrP):(rdE q).1.length≤1000000:=by
 obtain ⟨key,v⟩:=q
 unfold rdE
 simp only
 by_cases h:∃ x:Int × List UInt8 × Int × Int,OfQ key x.1 x.2.1 x.2.2.1 x.2.2.2
 ·obtain ⟨⟨k,p,c,n⟩,h⟩:=h
  rw[readP_of h]
  have hq:=q_len h
  have:p.length≤12:=by
   cases h with
   | num hk hp hc hq=>exact hp.2.1
   | base hk hp hc=>exact hp.2.1
  show p.length≤1000000
  omega
 ·rw[readP_no (fun k p c n g=>h ⟨(k,p,c,n),g⟩)]
  simp
theorem sxEnt{A B:Prop}(h:B)(e:A=B:=by (simp (disch:=omega) only[*, ↓Ed,Eu, ↓reduceIte,reduceCtorEq,Nat.reduceAdd,Nat.reduceEqDiff,Nat.reduceLT,Nat.reduceLeDiff,Int.reduceToNat,Int.reduceEq,Int.reduceLT,Int.reduceLE,w64,a0g,a0i,a0B,List.all_cons,List.all_nil,a7m];first|done|rfl)):A:=e▸h
set_option maxHeartbeats 16000000 in
theorem b0X(s:Nat)(L:List PrP)(hI:StI L)(x:StS)(hx:stOk s L x):
  CT Tryz.prog 25 [.ptr s 0] (lk (stO s L x)) (fun r o=>r=.sl none 2 (enR (a0N (a6D L (a2z L a7l))))∧o=lk (stO s L x)):=by
 have hl:=hI.len
 have hU:=b1P s L hI.rise (by omega) a7l x hx
 have hM:(a2z L a7l).length≤L.length:=by
  unfold a2z
  exact Nat.le_trans (List.takeWhile_sublist _).length_le (by rw[List.length_drop];omega)
 have hmem:∀ q∈a2z L a7l,q∈L:=fun q hq=>List.mem_of_mem_drop ((List.takeWhile_sublist _).subset hq)
 have hx':=hx
 generalize a2z L a7l=M at *
 have hRd:=fun k (hk:k<M.length)=>b4B (M.getD k default).1 (by
  have h1:M.getD k default∈M:=by rw[List.getD,List.getElem?_eq_getElem hk,Option.getD_some];exact List.getElem_mem hk
  have:=hI.may _ (hmem _ h1)
  simp only[a1T,decide_eq_true_eq]at this
  omega)
 have hGt:=fun k (_:k<M.length)=>a1g s L hI (rdE (M.getD k default)).1 (rdE (M.getD k default)).2 (rdE_len (L:=L) _) x hx'
 have hgs:=hx.d
 clear hx hx' hmem hI
 refine a8m _ _ _ (by simp) ?_
 rcases x with _ | ⟨g,cap⟩
 ·simp only[a0d]at hU hGt ⊢
  simp (disch:=omega) only[a4G, ↓Ed,Eu, ↓reduceIte,reduceCtorEq,Nat.reduceAdd,Nat.reduceEqDiff,Nat.reduceLT,Nat.reduceLeDiff,Int.reduceToNat,Int.reduceEq,Int.reduceLT,Int.reduceLE,w64,a0g,a0i,a0B,List.all_cons,List.all_nil,a7m]
  repeat' ((first|refine c1 (hU) ?_|refine c2 (hU) ?_|refine NewB_intro0 (fun b=>?_)|(refine NewB_intro (fun b hb=>?_);simp only[ln_cons2,ln_nil,and_true]at hb)|(with_reducible apply wA;focus exact OM_a)|((first|refine gW_sp ?_|refine condW_sp ?_|refine pickW_sp ?_);(try refine Sp_n ?_);(first|refine wT ?_|refine wF ?_|refine wL (fun h h'=>?_) (fun h h'=>?_)|refine wE (fun h h'=>?_) (fun h h'=>?_)|refine Sp_split (fun h=>?_) (fun h=>?_))<;>(try (exfalso;omega)))|refine TreeW_intro (by rfl) ?_|refine TreeW_all ?_|refine a0a ?_|refine Two_intro ?_ ?_|exact wZ|fail)<;>(try refine sxEnt ?_)<;>(try exact True.intro))
  refine wpx_loop (fun z:Nat × StS=>⟨lk [(0,.ptr s 0),(3,a7O (a6D L (M.take z.1)) z.2),(13,.sl (some 82) 2 (prR M)),(14,.int .i64 (M.length:Int)),(15,.int .i64 (z.1:Int))],lk ([(s,[.nils 82 2])]++a7N (a6D L (M.take z.1)) z.2)⟩) (fun z=>z.1≤M.length∧a9Q ([(s,[.nils 82 2])]) (a6D L (M.take z.1)) z.2) (fun z=>M.length - z.1) (0,none) ⟨by simp,rfl⟩ (Le_lit (by simp[LeL,lk,a7O,a7N, *])) ?_
  rintro ⟨k,y⟩ ⟨i1,i2⟩
  simp only at i1 i2
  have hln:=a9e L (M.take k)
  rw[List.length_take,Nat.min_eq_left i1]at hln
  by_cases hkl:k<M.length
  ·have f1:a0f (decide ((k:Int)<M.length)=true):=by simp only[a0f,Bool.not_eq_true',Bool.not_eq_false',decide_eq_true_eq,decide_eq_false_iff_not];omega
   have hsn:=allR_snoc (L:=L) hkl
   have hR:=hRd k hkl
   have hG:=hGt k hkl
   clear hRd hGt hU
   generalize hout:a6D L (M.take k)=out at *
   generalize hout':a6D L (M.take (k+1))=out' at *
   obtain ⟨⟨qa,qb⟩,hgd⟩:∃ q,M.getD k default=q:=⟨_,rfl⟩
   rw[hgd]at hR hG hsn
   unfold okX rdE at hsn
   unfold rdE at hG
   simp only at hR hG hsn
   generalize a0R qa=w at *
   generalize a2R L w.2.1 w.2.2.1=E at *
   obtain ⟨E1,E2⟩:=E
   simp only at hG hsn
   by_cases he:w.2.2.2.2=0
   ·rw[he,decide_eq_true rfl,Bool.and_true]at hsn
    rw[he]at hR
    cases E2 with
    | true=>
     rw[if_pos rfl]at hsn
     rcases y with _ | ⟨g2,cp2⟩
     ·obtain rfl:out=[]:=i2
      rw[List.nil_append]at hsn
      simp (disch:=omega) only[a2j,a2i,List.append_nil,List.cons_append,List.nil_append, ↓Ed,Eu, ↓reduceIte,reduceCtorEq,Nat.reduceAdd,Nat.reduceEqDiff,Nat.reduceLT,Nat.reduceLeDiff,Int.reduceToNat,Int.reduceEq,Int.reduceLT,Int.reduceLE,w64,a0g,a0i,a0B,List.all_cons,List.all_nil,a7m]
      repeat' ((first|refine CallO_pure (hR) ?_|refine c1 (hG) ?_|refine c2 (hG) ?_|(refine ehapB (w.2.1,w.2.2.1) (NewB_intro (fun b hb cap' hc=>?_));simp only[ln_cons2,ln_nil,and_true]at hb)|refine NewB_intro0 (fun b=>?_)|(refine NewB_intro (fun b hb=>?_);simp only[ln_cons2,ln_nil,and_true]at hb)|(with_reducible apply wA;focus exact OM_a)|((first|refine gW_sp ?_|refine condW_sp ?_|refine pickW_sp ?_);(try refine Sp_n ?_);(first|refine wT ?_|refine wF ?_|refine wL (fun h h'=>?_) (fun h h'=>?_)|refine wE (fun h h'=>?_) (fun h h'=>?_)|refine Sp_split (fun h=>?_) (fun h=>?_))<;>(try (exfalso;omega)))|refine TreeW_intro (by rfl) ?_|refine TreeW_all ?_|refine a0a ?_|refine Two_intro ?_ ?_|exact wZ|fail)<;>(try refine sxEnt ?_)<;>(try exact True.intro))
      all_goals exact Round_lit (k+1,some (b,cap')) ⟨Le_lit (by simp[LeL,lk,a7O,a7N, *]),⟨hkl,by simp[a9Q,lk, *]⟩,by simp only;omega⟩
     ·obtain ⟨j1,j2⟩:=i2
      simp only[ln_cons2,ln_nil,and_true]at j2
      simp (disch:=omega) only[a1y,a1x,List.append_nil,List.cons_append,List.nil_append, ↓Ed,Eu, ↓reduceIte,reduceCtorEq,Nat.reduceAdd,Nat.reduceEqDiff,Nat.reduceLT,Nat.reduceLeDiff,Int.reduceToNat,Int.reduceEq,Int.reduceLT,Int.reduceLE,w64,a0g,a0i,a0B,List.all_cons,List.all_nil,a7m]
      repeat' ((first|refine CallO_pure (hR) ?_|refine c1 (hG) ?_|(refine ehapC (w.2.1,w.2.2.1) (NewB_intro (fun b hb cap' hc=>?_));simp only[upd_del,del_cons,del_nil, *,if_true,if_false,ln_cons2,ln_nil,and_true]at hb)|refine NewB_intro0 (fun b=>?_)|(refine NewB_intro (fun b hb=>?_);simp only[ln_cons2,ln_nil,and_true]at hb)|(with_reducible apply wA;focus exact OM_a)|((first|refine gW_sp ?_|refine condW_sp ?_|refine pickW_sp ?_);(try refine Sp_n ?_);(first|refine wT ?_|refine wF ?_|refine wL (fun h h'=>?_) (fun h h'=>?_)|refine wE (fun h h'=>?_) (fun h h'=>?_)|refine Sp_split (fun h=>?_) (fun h=>?_))<;>(try (exfalso;omega)))|refine TreeW_intro (by rfl) ?_|refine TreeW_all ?_|refine a0a ?_|refine Two_intro ?_ ?_|exact wZ|fail)<;>(try refine sxEnt ?_)<;>(try exact True.intro))
      all_goals exact Round_lit (k+1,some (b,cap')) ⟨Le_lit (by simp[LeL,lk,a7O,a7N, *]),⟨hkl,by simp[a9Q,lk, *]⟩,by simp only;omega⟩
    | false=>
     rw[if_neg (by simp),List.append_nil]at hsn
     rcases y with _ | ⟨g2,cp2⟩
     ·simp (disch:=omega) only[a2j,a2i,List.append_nil,List.cons_append,List.nil_append, ↓Ed,Eu, ↓reduceIte,reduceCtorEq,Nat.reduceAdd,Nat.reduceEqDiff,Nat.reduceLT,Nat.reduceLeDiff,Int.reduceToNat,Int.reduceEq,Int.reduceLT,Int.reduceLE,w64,a0g,a0i,a0B,List.all_cons,List.all_nil,a7m]
      repeat' ((first|refine CallO_pure (hR) ?_|refine c1 (hG) ?_|refine c2 (hG) ?_|refine NewB_intro0 (fun b=>?_)|(refine NewB_intro (fun b hb=>?_);simp only[ln_cons2,ln_nil,and_true]at hb)|(with_reducible apply wA;focus exact OM_a)|((first|refine gW_sp ?_|refine condW_sp ?_|refine pickW_sp ?_);(try refine Sp_n ?_);(first|refine wT ?_|refine wF ?_|refine wL (fun h h'=>?_) (fun h h'=>?_)|refine wE (fun h h'=>?_) (fun h h'=>?_)|refine Sp_split (fun h=>?_) (fun h=>?_))<;>(try (exfalso;omega)))|refine TreeW_intro (by rfl) ?_|refine TreeW_all ?_|refine a0a ?_|refine Two_intro ?_ ?_|exact wZ|fail)<;>(try refine sxEnt ?_)<;>(try exact True.intro))
      all_goals exact Round_lit (k+1,none) ⟨Le_lit (by simp[LeL,lk,a7O,a7N, *]),⟨hkl,by simp only;rw[hout',hsn];exact i2⟩,by simp only;omega⟩
     ·have j2:=i2.2
      simp only[ln_cons2,ln_nil,and_true]at j2
      simp (disch:=omega) only[a1y,a1x,List.append_nil,List.cons_append,List.nil_append, ↓Ed,Eu, ↓reduceIte,reduceCtorEq,Nat.reduceAdd,Nat.reduceEqDiff,Nat.reduceLT,Nat.reduceLeDiff,Int.reduceToNat,Int.reduceEq,Int.reduceLT,Int.reduceLE,w64,a0g,a0i,a0B,List.all_cons,List.all_nil,a7m]
      repeat' ((first|refine CallO_pure (hR) ?_|refine c1 (hG) ?_|refine NewB_intro0 (fun b=>?_)|(refine NewB_intro (fun b hb=>?_);simp only[ln_cons2,ln_nil,and_true]at hb)|(with_reducible apply wA;focus exact OM_a)|((first|refine gW_sp ?_|refine condW_sp ?_|refine pickW_sp ?_);(try refine Sp_n ?_);(first|refine wT ?_|refine wF ?_|refine wL (fun h h'=>?_) (fun h h'=>?_)|refine wE (fun h h'=>?_) (fun h h'=>?_)|refine Sp_split (fun h=>?_) (fun h=>?_))<;>(try (exfalso;omega)))|refine TreeW_intro (by rfl) ?_|refine TreeW_all ?_|refine a0a ?_|refine Two_intro ?_ ?_|exact wZ|fail)<;>(try refine sxEnt ?_)<;>(try exact True.intro))
      all_goals exact Round_lit (k+1,some (g2,cp2)) ⟨Le_lit (by simp[LeL,lk,a7O,a7N, *]),⟨hkl,by simp only;rw[hout',hsn];exact i2⟩,by simp only;omega⟩
   ·rw[decide_eq_false he,Bool.and_false,if_neg (by simp),List.append_nil]at hsn
    have f2:a0f (decide (w.2.2.2.2=0)=false):=by simp only[a0f,Bool.not_eq_true',Bool.not_eq_false',decide_eq_true_eq,decide_eq_false_iff_not];exact he
    rcases y with _ | ⟨g2,cp2⟩
    ·simp (disch:=omega) only[a2j,a2i,List.append_nil,List.cons_append,List.nil_append, ↓Ed,Eu, ↓reduceIte,reduceCtorEq,Nat.reduceAdd,Nat.reduceEqDiff,Nat.reduceLT,Nat.reduceLeDiff,Int.reduceToNat,Int.reduceEq,Int.reduceLT,Int.reduceLE,w64,a0g,a0i,a0B,List.all_cons,List.all_nil,a7m]
     repeat' ((first|refine CallO_pure (hR) ?_|refine c1 (hG) ?_|refine c2 (hG) ?_|refine NewB_intro0 (fun b=>?_)|(refine NewB_intro (fun b hb=>?_);simp only[ln_cons2,ln_nil,and_true]at hb)|(with_reducible apply wA;focus exact OM_a)|((first|refine gW_sp ?_|refine condW_sp ?_|refine pickW_sp ?_);(try refine Sp_n ?_);(first|refine wT ?_|refine wF ?_|refine wL (fun h h'=>?_) (fun h h'=>?_)|refine wE (fun h h'=>?_) (fun h h'=>?_)|refine Sp_split (fun h=>?_) (fun h=>?_))<;>(try (exfalso;omega)))|refine TreeW_intro (by rfl) ?_|refine TreeW_all ?_|refine a0a ?_|refine Two_intro ?_ ?_|exact wZ|fail)<;>(try refine sxEnt ?_)<;>(try exact True.intro))
     all_goals exact Round_lit (k+1,none) ⟨Le_lit (by simp[LeL,lk,a7O,a7N, *]),⟨hkl,by simp only;rw[hout',hsn];exact i2⟩,by simp only;omega⟩
    ·have j2:=i2.2
     simp only[ln_cons2,ln_nil,and_true]at j2
     simp (disch:=omega) only[a1y,a1x,List.append_nil,List.cons_append,List.nil_append, ↓Ed,Eu, ↓reduceIte,reduceCtorEq,Nat.reduceAdd,Nat.reduceEqDiff,Nat.reduceLT,Nat.reduceLeDiff,Int.reduceToNat,Int.reduceEq,Int.reduceLT,Int.reduceLE,w64,a0g,a0i,a0B,List.all_cons,List.all_nil,a7m]
     repeat' ((first|refine CallO_pure (hR) ?_|refine c1 (hG) ?_|refine NewB_intro0 (fun b=>?_)|(refine NewB_intro (fun b hb=>?_);simp only[ln_cons2,ln_nil,and_true]at hb)|(with_reducible apply wA;focus exact OM_a)|((first|refine gW_sp ?_|refine condW_sp ?_|refine pickW_sp ?_);(try refine Sp_n ?_);(first|refine wT ?_|refine wF ?_|refine wL (fun h h'=>?_) (fun h h'=>?_)|refine wE (fun h h'=>?_) (fun h h'=>?_)|refine Sp_split (fun h=>?_) (fun h=>?_))<;>(try (exfalso;omega)))|refine TreeW_intro (by rfl) ?_|refine TreeW_all ?_|refine a0a ?_|refine Two_intro ?_ ?_|exact wZ|fail)<;>(try refine sxEnt ?_)<;>(try exact True.intro))
     all_goals exact Round_lit (k+1,some (g2,cp2)) ⟨Le_lit (by simp[LeL,lk,a7O,a7N, *]),⟨hkl,by simp only;rw[hout',hsn];exact i2⟩,by simp only;omega⟩
  ·obtain rfl:k=M.length:=by omega
   have f1:a0f (decide ((M.length:Int)<M.length)=false):=by simp only[a0f,Bool.not_eq_true',Bool.not_eq_false',decide_eq_true_eq,decide_eq_false_iff_not];omega
   rw[List.take_length]at i2 hln ⊢
   clear hRd hGt hU
   generalize a6D L M=out at *
   rcases y with _ | ⟨g2,cp2⟩
   ·obtain rfl:out=[]:=i2
    have hS:=a9M
    rw[show a0N []=[] from List.eq_nil_of_length_eq_zero (a1Y [])]
    simp (disch:=omega) only[a2j,a2i,List.append_nil,List.cons_append,List.nil_append, ↓Ed,Eu, ↓reduceIte,reduceCtorEq,Nat.reduceAdd,Nat.reduceEqDiff,Nat.reduceLT,Nat.reduceLeDiff,Int.reduceToNat,Int.reduceEq,Int.reduceLT,Int.reduceLE,w64,a0g,a0i,a0B,List.all_cons,List.all_nil,a7m]
    repeat' ((first|(refine c0 hS ?_)|refine NewB_intro0 (fun b=>?_)|(refine NewB_intro (fun b hb=>?_);simp only[ln_cons2,ln_nil,and_true]at hb)|(with_reducible apply wA;focus exact OM_a)|((first|refine gW_sp ?_|refine condW_sp ?_|refine pickW_sp ?_);(try refine Sp_n ?_);(first|refine wT ?_|refine wF ?_|refine wL (fun h h'=>?_) (fun h h'=>?_)|refine wE (fun h h'=>?_) (fun h h'=>?_)|refine Sp_split (fun h=>?_) (fun h=>?_))<;>(try (exfalso;omega)))|refine TreeW_intro (by rfl) ?_|refine TreeW_all ?_|refine a0a ?_|refine Two_intro ?_ ?_|exact wZ|fail)<;>(try refine sxEnt ?_)<;>(try exact True.intro))
    all_goals exact rf_ends0 (e:=24) (by simp[a0P,arR,lk]) (by simp[LeL,lk, *])
   ·obtain ⟨j1,j2⟩:=i2
    have hS:=b1a g2 cp2 out (by omega)
    have hsl:=a1Y out
    simp only[ln_cons2,ln_nil,and_true]at j2
    simp (disch:=omega) only[a1y,a1x,List.append_nil,List.cons_append,List.nil_append, ↓Ed,Eu, ↓reduceIte,reduceCtorEq,Nat.reduceAdd,Nat.reduceEqDiff,Nat.reduceLT,Nat.reduceLeDiff,Int.reduceToNat,Int.reduceEq,Int.reduceLT,Int.reduceLE,w64,a0g,a0i,a0B,List.all_cons,List.all_nil,a7m]
    repeat' ((first|refine c1 (hS) ?_|refine NewB_intro0 (fun b=>?_)|(refine NewB_intro (fun b hb=>?_);simp only[ln_cons2,ln_nil,and_true]at hb)|(with_reducible apply wA;focus exact OM_a)|((first|refine gW_sp ?_|refine condW_sp ?_|refine pickW_sp ?_);(try refine Sp_n ?_);(first|refine wT ?_|refine wF ?_|refine wL (fun h h'=>?_) (fun h h'=>?_)|refine wE (fun h h'=>?_) (fun h h'=>?_)|refine Sp_split (fun h=>?_) (fun h=>?_))<;>(try (exfalso;omega)))|refine TreeW_intro (by rfl) ?_|refine TreeW_all ?_|refine a0a ?_|refine Two_intro ?_ ?_|exact wZ|fail)<;>(try refine sxEnt ?_)<;>(try exact True.intro))
    all_goals exact rf_ends (e:=24) (g:=g2) (cap:=cp2) (l:=a0N out) (by simp[a0P,arR,lk]) (by simp[lk, *]) hsl (by simp[LeL,lk, *]) (by simp[lk, *])

 ·simp only[a1K]at hgs
  simp only[a0b]at hU hGt ⊢
  simp (disch:=omega) only[a4G, ↓Ed,Eu, ↓reduceIte,reduceCtorEq,Nat.reduceAdd,Nat.reduceEqDiff,Nat.reduceLT,Nat.reduceLeDiff,Int.reduceToNat,Int.reduceEq,Int.reduceLT,Int.reduceLE,w64,a0g,a0i,a0B,List.all_cons,List.all_nil,a7m]
  repeat' ((first|refine c1 (hU) ?_|refine c2 (hU) ?_|refine NewB_intro0 (fun b=>?_)|(refine NewB_intro (fun b hb=>?_);simp only[ln_cons2,ln_nil,and_true]at hb)|(with_reducible apply wA;focus exact OM_a)|((first|refine gW_sp ?_|refine condW_sp ?_|refine pickW_sp ?_);(try refine Sp_n ?_);(first|refine wT ?_|refine wF ?_|refine wL (fun h h'=>?_) (fun h h'=>?_)|refine wE (fun h h'=>?_) (fun h h'=>?_)|refine Sp_split (fun h=>?_) (fun h=>?_))<;>(try (exfalso;omega)))|refine TreeW_intro (by rfl) ?_|refine TreeW_all ?_|refine a0a ?_|refine Two_intro ?_ ?_|exact wZ|fail)<;>(try refine sxEnt ?_)<;>(try exact True.intro))
  refine wpx_loop (fun z:Nat × StS=>⟨lk [(0,.ptr s 0),(3,a7O (a6D L (M.take z.1)) z.2),(13,.sl (some 82) 2 (prR M)),(14,.int .i64 (M.length:Int)),(15,.int .i64 (z.1:Int))],lk ([(s,[.hsl g 82 2 L.length cap]),(g,hcP cap L)]++a7N (a6D L (M.take z.1)) z.2)⟩) (fun z=>z.1≤M.length∧a9Q ([(s,[.hsl g 82 2 L.length cap]),(g,hcP cap L)]) (a6D L (M.take z.1)) z.2) (fun z=>M.length - z.1) (0,none) ⟨by simp,rfl⟩ (Le_lit (by simp[LeL,lk,a7O,a7N, *])) ?_
  rintro ⟨k,y⟩ ⟨i1,i2⟩
  simp only at i1 i2
  have hln:=a9e L (M.take k)
  rw[List.length_take,Nat.min_eq_left i1]at hln
  by_cases hkl:k<M.length
  ·have f1:a0f (decide ((k:Int)<M.length)=true):=by simp only[a0f,Bool.not_eq_true',Bool.not_eq_false',decide_eq_true_eq,decide_eq_false_iff_not];omega
   have hsn:=allR_snoc (L:=L) hkl
   have hR:=hRd k hkl
   have hG:=hGt k hkl
   clear hRd hGt hU
   generalize hout:a6D L (M.take k)=out at *
   generalize hout':a6D L (M.take (k+1))=out' at *
   obtain ⟨⟨qa,qb⟩,hgd⟩:∃ q,M.getD k default=q:=⟨_,rfl⟩
   rw[hgd]at hR hG hsn
   unfold okX rdE at hsn
   unfold rdE at hG
   simp only at hR hG hsn
   generalize a0R qa=w at *
   generalize a2R L w.2.1 w.2.2.1=E at *
   obtain ⟨E1,E2⟩:=E
   simp only at hG hsn
   by_cases he:w.2.2.2.2=0
   ·rw[he,decide_eq_true rfl,Bool.and_true]at hsn
    rw[he]at hR
    cases E2 with
    | true=>
     rw[if_pos rfl]at hsn
     rcases y with _ | ⟨g2,cp2⟩
     ·obtain rfl:out=[]:=i2
      rw[List.nil_append]at hsn
      simp (disch:=omega) only[a2j,a2i,List.append_nil,List.cons_append,List.nil_append, ↓Ed,Eu, ↓reduceIte,reduceCtorEq,Nat.reduceAdd,Nat.reduceEqDiff,Nat.reduceLT,Nat.reduceLeDiff,Int.reduceToNat,Int.reduceEq,Int.reduceLT,Int.reduceLE,w64,a0g,a0i,a0B,List.all_cons,List.all_nil,a7m]
      repeat' ((first|refine CallO_pure (hR) ?_|refine c1 (hG) ?_|refine c2 (hG) ?_|(refine ehapB (w.2.1,w.2.2.1) (NewB_intro (fun b hb cap' hc=>?_));simp only[ln_cons2,ln_nil,and_true]at hb)|refine NewB_intro0 (fun b=>?_)|(refine NewB_intro (fun b hb=>?_);simp only[ln_cons2,ln_nil,and_true]at hb)|(with_reducible apply wA;focus exact OM_a)|((first|refine gW_sp ?_|refine condW_sp ?_|refine pickW_sp ?_);(try refine Sp_n ?_);(first|refine wT ?_|refine wF ?_|refine wL (fun h h'=>?_) (fun h h'=>?_)|refine wE (fun h h'=>?_) (fun h h'=>?_)|refine Sp_split (fun h=>?_) (fun h=>?_))<;>(try (exfalso;omega)))|refine TreeW_intro (by rfl) ?_|refine TreeW_all ?_|refine a0a ?_|refine Two_intro ?_ ?_|exact wZ|fail)<;>(try refine sxEnt ?_)<;>(try exact True.intro))
      all_goals exact Round_lit (k+1,some (b,cap')) ⟨Le_lit (by simp[LeL,lk,a7O,a7N, *]),⟨hkl,by simp[a9Q,lk, *]⟩,by simp only;omega⟩
     ·obtain ⟨j1,j2⟩:=i2
      simp only[ln_cons2,ln_nil,and_true]at j2
      simp (disch:=omega) only[a1y,a1x,List.append_nil,List.cons_append,List.nil_append, ↓Ed,Eu, ↓reduceIte,reduceCtorEq,Nat.reduceAdd,Nat.reduceEqDiff,Nat.reduceLT,Nat.reduceLeDiff,Int.reduceToNat,Int.reduceEq,Int.reduceLT,Int.reduceLE,w64,a0g,a0i,a0B,List.all_cons,List.all_nil,a7m]
      repeat' ((first|refine CallO_pure (hR) ?_|refine c2 (hG) ?_|(refine ehapC (w.2.1,w.2.2.1) (NewB_intro (fun b hb cap' hc=>?_));simp only[upd_del,del_cons,del_nil, *,if_true,if_false,ln_cons2,ln_nil,and_true]at hb)|refine NewB_intro0 (fun b=>?_)|(refine NewB_intro (fun b hb=>?_);simp only[ln_cons2,ln_nil,and_true]at hb)|(with_reducible apply wA;focus exact OM_a)|((first|refine gW_sp ?_|refine condW_sp ?_|refine pickW_sp ?_);(try refine Sp_n ?_);(first|refine wT ?_|refine wF ?_|refine wL (fun h h'=>?_) (fun h h'=>?_)|refine wE (fun h h'=>?_) (fun h h'=>?_)|refine Sp_split (fun h=>?_) (fun h=>?_))<;>(try (exfalso;omega)))|refine TreeW_intro (by rfl) ?_|refine TreeW_all ?_|refine a0a ?_|refine Two_intro ?_ ?_|exact wZ|fail)<;>(try refine sxEnt ?_)<;>(try exact True.intro))
      all_goals exact Round_lit (k+1,some (b,cap')) ⟨Le_lit (by simp[LeL,lk,a7O,a7N, *]),⟨hkl,by simp[a9Q,lk, *]⟩,by simp only;omega⟩
    | false=>
     rw[if_neg (by simp),List.append_nil]at hsn
     rcases y with _ | ⟨g2,cp2⟩
     ·simp (disch:=omega) only[a2j,a2i,List.append_nil,List.cons_append,List.nil_append, ↓Ed,Eu, ↓reduceIte,reduceCtorEq,Nat.reduceAdd,Nat.reduceEqDiff,Nat.reduceLT,Nat.reduceLeDiff,Int.reduceToNat,Int.reduceEq,Int.reduceLT,Int.reduceLE,w64,a0g,a0i,a0B,List.all_cons,List.all_nil,a7m]
      repeat' ((first|refine CallO_pure (hR) ?_|refine c1 (hG) ?_|refine c2 (hG) ?_|refine NewB_intro0 (fun b=>?_)|(refine NewB_intro (fun b hb=>?_);simp only[ln_cons2,ln_nil,and_true]at hb)|(with_reducible apply wA;focus exact OM_a)|((first|refine gW_sp ?_|refine condW_sp ?_|refine pickW_sp ?_);(try refine Sp_n ?_);(first|refine wT ?_|refine wF ?_|refine wL (fun h h'=>?_) (fun h h'=>?_)|refine wE (fun h h'=>?_) (fun h h'=>?_)|refine Sp_split (fun h=>?_) (fun h=>?_))<;>(try (exfalso;omega)))|refine TreeW_intro (by rfl) ?_|refine TreeW_all ?_|refine a0a ?_|refine Two_intro ?_ ?_|exact wZ|fail)<;>(try refine sxEnt ?_)<;>(try exact True.intro))
      all_goals exact Round_lit (k+1,none) ⟨Le_lit (by simp[LeL,lk,a7O,a7N, *]),⟨hkl,by simp only;rw[hout',hsn];exact i2⟩,by simp only;omega⟩
     ·have j2:=i2.2
      simp only[ln_cons2,ln_nil,and_true]at j2
      simp (disch:=omega) only[a1y,a1x,List.append_nil,List.cons_append,List.nil_append, ↓Ed,Eu, ↓reduceIte,reduceCtorEq,Nat.reduceAdd,Nat.reduceEqDiff,Nat.reduceLT,Nat.reduceLeDiff,Int.reduceToNat,Int.reduceEq,Int.reduceLT,Int.reduceLE,w64,a0g,a0i,a0B,List.all_cons,List.all_nil,a7m]
      repeat' ((first|refine CallO_pure (hR) ?_|refine c2 (hG) ?_|refine NewB_intro0 (fun b=>?_)|(refine NewB_intro (fun b hb=>?_);simp only[ln_cons2,ln_nil,and_true]at hb)|(with_reducible apply wA;focus exact OM_a)|((first|refine gW_sp ?_|refine condW_sp ?_|refine pickW_sp ?_);(try refine Sp_n ?_);(first|refine wT ?_|refine wF ?_|refine wL (fun h h'=>?_) (fun h h'=>?_)|refine wE (fun h h'=>?_) (fun h h'=>?_)|refine Sp_split (fun h=>?_) (fun h=>?_))<;>(try (exfalso;omega)))|refine TreeW_intro (by rfl) ?_|refine TreeW_all ?_|refine a0a ?_|refine Two_intro ?_ ?_|exact wZ|fail)<;>(try refine sxEnt ?_)<;>(try exact True.intro))
      all_goals exact Round_lit (k+1,some (g2,cp2)) ⟨Le_lit (by simp[LeL,lk,a7O,a7N, *]),⟨hkl,by simp only;rw[hout',hsn];exact i2⟩,by simp only;omega⟩
   ·rw[decide_eq_false he,Bool.and_false,if_neg (by simp),List.append_nil]at hsn
    have f2:a0f (decide (w.2.2.2.2=0)=false):=by simp only[a0f,Bool.not_eq_true',Bool.not_eq_false',decide_eq_true_eq,decide_eq_false_iff_not];exact he
    rcases y with _ | ⟨g2,cp2⟩
    ·simp (disch:=omega) only[a2j,a2i,List.append_nil,List.cons_append,List.nil_append, ↓Ed,Eu, ↓reduceIte,reduceCtorEq,Nat.reduceAdd,Nat.reduceEqDiff,Nat.reduceLT,Nat.reduceLeDiff,Int.reduceToNat,Int.reduceEq,Int.reduceLT,Int.reduceLE,w64,a0g,a0i,a0B,List.all_cons,List.all_nil,a7m]
     repeat' ((first|refine CallO_pure (hR) ?_|refine c1 (hG) ?_|refine c2 (hG) ?_|refine NewB_intro0 (fun b=>?_)|(refine NewB_intro (fun b hb=>?_);simp only[ln_cons2,ln_nil,and_true]at hb)|(with_reducible apply wA;focus exact OM_a)|((first|refine gW_sp ?_|refine condW_sp ?_|refine pickW_sp ?_);(try refine Sp_n ?_);(first|refine wT ?_|refine wF ?_|refine wL (fun h h'=>?_) (fun h h'=>?_)|refine wE (fun h h'=>?_) (fun h h'=>?_)|refine Sp_split (fun h=>?_) (fun h=>?_))<;>(try (exfalso;omega)))|refine TreeW_intro (by rfl) ?_|refine TreeW_all ?_|refine a0a ?_|refine Two_intro ?_ ?_|exact wZ|fail)<;>(try refine sxEnt ?_)<;>(try exact True.intro))
     all_goals exact Round_lit (k+1,none) ⟨Le_lit (by simp[LeL,lk,a7O,a7N, *]),⟨hkl,by simp only;rw[hout',hsn];exact i2⟩,by simp only;omega⟩
    ·have j2:=i2.2
     simp only[ln_cons2,ln_nil,and_true]at j2
     simp (disch:=omega) only[a1y,a1x,List.append_nil,List.cons_append,List.nil_append, ↓Ed,Eu, ↓reduceIte,reduceCtorEq,Nat.reduceAdd,Nat.reduceEqDiff,Nat.reduceLT,Nat.reduceLeDiff,Int.reduceToNat,Int.reduceEq,Int.reduceLT,Int.reduceLE,w64,a0g,a0i,a0B,List.all_cons,List.all_nil,a7m]
     repeat' ((first|refine CallO_pure (hR) ?_|refine c2 (hG) ?_|refine NewB_intro0 (fun b=>?_)|(refine NewB_intro (fun b hb=>?_);simp only[ln_cons2,ln_nil,and_true]at hb)|(with_reducible apply wA;focus exact OM_a)|((first|refine gW_sp ?_|refine condW_sp ?_|refine pickW_sp ?_);(try refine Sp_n ?_);(first|refine wT ?_|refine wF ?_|refine wL (fun h h'=>?_) (fun h h'=>?_)|refine wE (fun h h'=>?_) (fun h h'=>?_)|refine Sp_split (fun h=>?_) (fun h=>?_))<;>(try (exfalso;omega)))|refine TreeW_intro (by rfl) ?_|refine TreeW_all ?_|refine a0a ?_|refine Two_intro ?_ ?_|exact wZ|fail)<;>(try refine sxEnt ?_)<;>(try exact True.intro))
     all_goals exact Round_lit (k+1,some (g2,cp2)) ⟨Le_lit (by simp[LeL,lk,a7O,a7N, *]),⟨hkl,by simp only;rw[hout',hsn];exact i2⟩,by simp only;omega⟩
  ·obtain rfl:k=M.length:=by omega
   have f1:a0f (decide ((M.length:Int)<M.length)=false):=by simp only[a0f,Bool.not_eq_true',Bool.not_eq_false',decide_eq_true_eq,decide_eq_false_iff_not];omega
   rw[List.take_length]at i2 hln ⊢
   clear hRd hGt hU
   generalize a6D L M=out at *
   rcases y with _ | ⟨g2,cp2⟩
   ·obtain rfl:out=[]:=i2
    have hS:=a9M
    rw[show a0N []=[] from List.eq_nil_of_length_eq_zero (a1Y [])]
    simp (disch:=omega) only[a2j,a2i,List.append_nil,List.cons_append,List.nil_append, ↓Ed,Eu, ↓reduceIte,reduceCtorEq,Nat.reduceAdd,Nat.reduceEqDiff,Nat.reduceLT,Nat.reduceLeDiff,Int.reduceToNat,Int.reduceEq,Int.reduceLT,Int.reduceLE,w64,a0g,a0i,a0B,List.all_cons,List.all_nil,a7m]
    repeat' ((first|(refine c0 hS ?_)|refine NewB_intro0 (fun b=>?_)|(refine NewB_intro (fun b hb=>?_);simp only[ln_cons2,ln_nil,and_true]at hb)|(with_reducible apply wA;focus exact OM_a)|((first|refine gW_sp ?_|refine condW_sp ?_|refine pickW_sp ?_);(try refine Sp_n ?_);(first|refine wT ?_|refine wF ?_|refine wL (fun h h'=>?_) (fun h h'=>?_)|refine wE (fun h h'=>?_) (fun h h'=>?_)|refine Sp_split (fun h=>?_) (fun h=>?_))<;>(try (exfalso;omega)))|refine TreeW_intro (by rfl) ?_|refine TreeW_all ?_|refine a0a ?_|refine Two_intro ?_ ?_|exact wZ|fail)<;>(try refine sxEnt ?_)<;>(try exact True.intro))
    all_goals exact rf_ends0 (e:=24) (by simp[a0P,arR,lk]) (by simp[LeL,lk, *])
   ·obtain ⟨j1,j2⟩:=i2
    have hS:=b1a g2 cp2 out (by omega)
    have hsl:=a1Y out
    simp only[ln_cons2,ln_nil,and_true]at j2
    simp (disch:=omega) only[a1y,a1x,List.append_nil,List.cons_append,List.nil_append, ↓Ed,Eu, ↓reduceIte,reduceCtorEq,Nat.reduceAdd,Nat.reduceEqDiff,Nat.reduceLT,Nat.reduceLeDiff,Int.reduceToNat,Int.reduceEq,Int.reduceLT,Int.reduceLE,w64,a0g,a0i,a0B,List.all_cons,List.all_nil,a7m]
    repeat' ((first|refine c1 (hS) ?_|refine NewB_intro0 (fun b=>?_)|(refine NewB_intro (fun b hb=>?_);simp only[ln_cons2,ln_nil,and_true]at hb)|(with_reducible apply wA;focus exact OM_a)|((first|refine gW_sp ?_|refine condW_sp ?_|refine pickW_sp ?_);(try refine Sp_n ?_);(first|refine wT ?_|refine wF ?_|refine wL (fun h h'=>?_) (fun h h'=>?_)|refine wE (fun h h'=>?_) (fun h h'=>?_)|refine Sp_split (fun h=>?_) (fun h=>?_))<;>(try (exfalso;omega)))|refine TreeW_intro (by rfl) ?_|refine TreeW_all ?_|refine a0a ?_|refine Two_intro ?_ ?_|exact wZ|fail)<;>(try refine sxEnt ?_)<;>(try exact True.intro))
    all_goals exact rf_ends (e:=24) (g:=g2) (cap:=cp2) (l:=a0N out) (by simp[a0P,arR,lk]) (by simp[lk, *]) hsl (by simp[LeL,lk, *]) (by simp[lk, *])
end
section
open Go.RowKit Go.Lib
set_option maxRecDepth 100000
abbrev prV(L:List PrP):AV:=.sl none 2 (prR L)
theorem has_c'{L:List PrP}{k:List UInt8}(h:a0z L k<L.length):a1I L k=decide ((L.getD (a0z L k) default).1=k):=by simp[a1I,h]
theorem sxDlp{A B:Prop}(h:B)(e:A=B:=by (simp (disch:=omega) only[*, ↓Ed,Eu, ↓reduceIte,reduceCtorEq,Nat.reduceAdd,Nat.reduceEqDiff,Nat.reduceLT,Nat.reduceLeDiff,Int.reduceToNat,Int.reduceEq,Int.reduceLT,Int.reduceLE,w64,a0g,a0i];first|done|rfl)):A:=e▸h
theorem b0I(L:List PrP)(hb:L.length≤100000)(k:List UInt8):CP Tryz.prog 46 [prV L,.str k] (.tup [.int .i64 (a0z L k:Nat),.bool (a1I L k)]):=by
 have hp:=a4B L k
 have hpb:=a3s k L
 have hpa:=a9C k L
 refine a4M _ _ (by simp) ?_
 simp (disch:=omega) only[a2K, ↓Ed,Eu, ↓reduceIte,reduceCtorEq,Nat.reduceAdd,Nat.reduceEqDiff,Nat.reduceLT,Nat.reduceLeDiff,Int.reduceToNat,Int.reduceEq,Int.reduceLT,Int.reduceLE,w64,a0g,a0i]
 repeat' ((first|refine NewB_intro0 (fun b=>?_)|(refine NewB_intro (fun b hb=>?_);simp only[ln_cons2,ln_nil,and_true]at hb)|(with_reducible apply wA;focus exact OM_a)|((first|refine gW_sp ?_|refine condW_sp ?_|refine pickW_sp ?_);(try refine Sp_n ?_);(first|refine wT ?_|refine wF ?_|refine wL (fun h h'=>?_) (fun h h'=>?_)|refine wE (fun h h'=>?_) (fun h h'=>?_)|refine Sp_split (fun h=>?_) (fun h=>?_))<;>(try (exfalso;omega)))|refine TreeW_intro (by rfl) ?_|refine TreeW_all ?_|refine a0a ?_|refine Two_intro ?_ ?_|exact wZ|fail)<;>(try refine sxDlp ?_)<;>(try exact True.intro))
 refine wpx_loop (fun i:Nat=>⟨lk [(0,prV L),(1,.str k),(6,.int .i64 (i:Int))],lk []⟩) (fun i=>i≤a0z L k) (fun i=>a0z L k - i) 0 (by omega) (Le_lit (by simp[LeL,lk])) ?_
 intro i hi
 by_cases hlt:i<a0z L k
 ·have f1:a0f (decide ((i:Int)<L.length)=true):=by simp only[a0f,Bool.not_eq_true',Bool.not_eq_false',decide_eq_true_eq,decide_eq_false_iff_not];omega
  have f2:a0f (Op.bytesLess (L.getD i default).1 k=true):=hpb i hlt
  clear hpb hpa
  simp (disch:=omega) only[↓Ed,Eu, ↓reduceIte,reduceCtorEq,Nat.reduceAdd,Nat.reduceEqDiff,Nat.reduceLT,Nat.reduceLeDiff,Int.reduceToNat,Int.reduceEq,Int.reduceLT,Int.reduceLE,w64,a0g,a0i]
  repeat' ((first|refine NewB_intro0 (fun b=>?_)|(refine NewB_intro (fun b hb=>?_);simp only[ln_cons2,ln_nil,and_true]at hb)|(with_reducible apply wA;focus exact OM_a)|((first|refine gW_sp ?_|refine condW_sp ?_|refine pickW_sp ?_);(try refine Sp_n ?_);(first|refine wT ?_|refine wF ?_|refine wL (fun h h'=>?_) (fun h h'=>?_)|refine wE (fun h h'=>?_) (fun h h'=>?_)|refine Sp_split (fun h=>?_) (fun h=>?_))<;>(try (exfalso;omega)))|refine TreeW_intro (by rfl) ?_|refine TreeW_all ?_|refine a0a ?_|refine Two_intro ?_ ?_|exact wZ|fail)<;>(try refine sxDlp ?_)<;>(try exact True.intro))
  all_goals exact Round_lit (i+1) ⟨Le_lit (by simp[LeL,lk]),hlt,by omega⟩
 ·obtain rfl:i=a0z L k:=by omega
  by_cases hl:a0z L k<L.length
  ·have f1:a0f (decide (((a0z L k:Nat):Int)<L.length)=true):=by simp only[a0f,Bool.not_eq_true',Bool.not_eq_false',decide_eq_true_eq,decide_eq_false_iff_not];omega
   have f2:a0f (Op.bytesLess (L.getD (a0z L k) default).1 k=false):=hpa hl
   rw[has_c' hl]
   clear hpb hpa hlt
   generalize a0z L k=i at *
   simp (disch:=omega) only[↓Ed,Eu, ↓reduceIte,reduceCtorEq,Nat.reduceAdd,Nat.reduceEqDiff,Nat.reduceLT,Nat.reduceLeDiff,Int.reduceToNat,Int.reduceEq,Int.reduceLT,Int.reduceLE,w64,a0g,a0i]
   repeat' ((first|refine NewB_intro0 (fun b=>?_)|(refine NewB_intro (fun b hb=>?_);simp only[ln_cons2,ln_nil,and_true]at hb)|(with_reducible apply wA;focus exact OM_a)|((first|refine gW_sp ?_|refine condW_sp ?_|refine pickW_sp ?_);(try refine Sp_n ?_);(first|refine wT ?_|refine wF ?_|refine wL (fun h h'=>?_) (fun h h'=>?_)|refine wE (fun h h'=>?_) (fun h h'=>?_)|refine Sp_split (fun h=>?_) (fun h=>?_))<;>(try (exfalso;omega)))|refine TreeW_intro (by rfl) ?_|refine TreeW_all ?_|refine a0a ?_|refine Two_intro ?_ ?_|exact wZ|fail)<;>(try refine sxDlp ?_)<;>(try exact True.intro))
  ·have f1:a0f (decide (((a0z L k:Nat):Int)<L.length)=false):=by simp only[a0f,Bool.not_eq_true',Bool.not_eq_false',decide_eq_true_eq,decide_eq_false_iff_not];omega
   rw[has_f hl]
   clear hpb hpa hlt
   generalize a0z L k=i at *
   simp (disch:=omega) only[↓Ed,Eu, ↓reduceIte,reduceCtorEq,Nat.reduceAdd,Nat.reduceEqDiff,Nat.reduceLT,Nat.reduceLeDiff,Int.reduceToNat,Int.reduceEq,Int.reduceLT,Int.reduceLE,w64,a0g,a0i]
   repeat' ((first|refine NewB_intro0 (fun b=>?_)|(refine NewB_intro (fun b hb=>?_);simp only[ln_cons2,ln_nil,and_true]at hb)|(with_reducible apply wA;focus exact OM_a)|((first|refine gW_sp ?_|refine condW_sp ?_|refine pickW_sp ?_);(try refine Sp_n ?_);(first|refine wT ?_|refine wF ?_|refine wL (fun h h'=>?_) (fun h h'=>?_)|refine wE (fun h h'=>?_) (fun h h'=>?_)|refine Sp_split (fun h=>?_) (fun h=>?_))<;>(try (exfalso;omega)))|refine TreeW_intro (by rfl) ?_|refine TreeW_all ?_|refine a0a ?_|refine Two_intro ?_ ?_|exact wZ|fail)<;>(try refine sxDlp ?_)<;>(try exact True.intro))
theorem b2v(L:List PrP)(hb:L.length≤100000)(k:List UInt8):CP Tryz.prog 49 [prV L,.str k] (.tup [.str (a4g L k),.bool (a1I L k)]):=by
 have hP:=b0I L hb k
 refine a5V _ _ (by simp) ?_
 cases hh:a1I L k with
 | false=>
  rw[getS_f hh]
  rw[hh]at hP
  simp (disch:=omega) only[a2l, ↓Ed,Eu, ↓reduceIte,reduceCtorEq,Nat.reduceAdd,Nat.reduceEqDiff,Nat.reduceLT,Nat.reduceLeDiff,Int.reduceToNat,Int.reduceEq,Int.reduceLT,Int.reduceLE,w64,a0g,a0i]
  repeat' ((first|refine CallO_pure (hP) ?_|refine NewB_intro0 (fun b=>?_)|(refine NewB_intro (fun b hb=>?_);simp only[ln_cons2,ln_nil,and_true]at hb)|(with_reducible apply wA;focus exact OM_a)|((first|refine gW_sp ?_|refine condW_sp ?_|refine pickW_sp ?_);(try refine Sp_n ?_);(first|refine wT ?_|refine wF ?_|refine wL (fun h h'=>?_) (fun h h'=>?_)|refine wE (fun h h'=>?_) (fun h h'=>?_)|refine Sp_split (fun h=>?_) (fun h=>?_))<;>(try (exfalso;omega)))|refine TreeW_intro (by rfl) ?_|refine TreeW_all ?_|refine a0a ?_|refine Two_intro ?_ ?_|exact wZ|fail)<;>(try refine sxDlp ?_)<;>(try exact True.intro))
 | true=>
  have hl:=has_lt hh
  rw[getS_t hh]
  rw[hh]at hP
  clear hh
  simp (disch:=omega) only[a2l, ↓Ed,Eu, ↓reduceIte,reduceCtorEq,Nat.reduceAdd,Nat.reduceEqDiff,Nat.reduceLT,Nat.reduceLeDiff,Int.reduceToNat,Int.reduceEq,Int.reduceLT,Int.reduceLE,w64,a0g,a0i]
  repeat' ((first|refine CallO_pure (hP) ?_|refine NewB_intro0 (fun b=>?_)|(refine NewB_intro (fun b hb=>?_);simp only[ln_cons2,ln_nil,and_true]at hb)|(with_reducible apply wA;focus exact OM_a)|((first|refine gW_sp ?_|refine condW_sp ?_|refine pickW_sp ?_);(try refine Sp_n ?_);(first|refine wT ?_|refine wF ?_|refine wL (fun h h'=>?_) (fun h h'=>?_)|refine wE (fun h h'=>?_) (fun h h'=>?_)|refine Sp_split (fun h=>?_) (fun h=>?_))<;>(try (exfalso;omega)))|refine TreeW_intro (by rfl) ?_|refine TreeW_all ?_|refine a0a ?_|refine Two_intro ?_ ?_|exact wZ|fail)<;>(try refine sxDlp ?_)<;>(try exact True.intro))
theorem b3o(L:List PrP)(k v:List UInt8):((prR L).take (a0z L k)++[[.str k,.str v]])++(prR L).drop (if a1I L k=true then a0z L k+1 else a0z L k)=prR (a3o L k v):=by
 simp only[prR,a3o,List.map_append,List.map_take,List.map_drop,List.map_cons,List.map_nil]
theorem a9A(L:List PrP)(hb:L.length≤100000)(k v:List UInt8):CP Tryz.prog 17 [prV L,.str k,.str v] (.sl (some 88) 2 (prR (a3o L k v))):=by
 have hP:=b0I L hb k
 have hp:=a4B L k
 have hl:=a0g L
 have hS:=b3o L k v
 have hmx:=a3f
 have e1:(prR L).take L.length=prR L:=by rw[← hl];exact List.take_length
 refine a5W _ _ (by simp) ?_
 cases hh:a1I L k with
 | false=>
  rw[hh]at hP hS
  rw[if_neg (by simp)]at hS
  rw[← hS]
  generalize a0z L k=i at *
  clear hh hS
  simp (disch:=omega) only[a2m, ↓Ed,Eu, ↓reduceIte,reduceCtorEq,Nat.reduceAdd,Nat.reduceEqDiff,Nat.reduceLT,Nat.reduceLeDiff,Int.reduceToNat,Int.reduceEq,Int.reduceLT,Int.reduceLE,w64,a0g,a0i]
  repeat' ((first|refine CallO_pure (hP) ?_|refine NewB_intro0 (fun b=>?_)|(refine NewB_intro (fun b hb=>?_);simp only[ln_cons2,ln_nil,and_true]at hb)|(with_reducible apply wA;focus exact OM_a)|((first|refine gW_sp ?_|refine condW_sp ?_|refine pickW_sp ?_);(try refine Sp_n ?_);(first|refine wT ?_|refine wF ?_|refine wL (fun h h'=>?_) (fun h h'=>?_)|refine wE (fun h h'=>?_) (fun h h'=>?_)|refine Sp_split (fun h=>?_) (fun h=>?_))<;>(try (exfalso;omega)))|refine TreeW_intro (by rfl) ?_|refine TreeW_all ?_|refine a0a ?_|refine Two_intro ?_ ?_|exact wZ|fail)<;>(try refine sxDlp ?_)<;>(try exact True.intro))
  all_goals ((try rw[show ((i:Int)+1).toNat=i+1 by omega]);simp only[e1,List.length_take,List.length_drop,List.length_append,List.length_cons,List.length_nil,hl,and_true];omega)
 | true=>
  have hlt:=has_lt hh
  rw[hh]at hP hS
  rw[if_pos rfl]at hS
  rw[← hS]
  generalize a0z L k=i at *
  clear hh hS
  simp (disch:=omega) only[a2m, ↓Ed,Eu, ↓reduceIte,reduceCtorEq,Nat.reduceAdd,Nat.reduceEqDiff,Nat.reduceLT,Nat.reduceLeDiff,Int.reduceToNat,Int.reduceEq,Int.reduceLT,Int.reduceLE,w64,a0g,a0i]
  repeat' ((first|refine CallO_pure (hP) ?_|refine NewB_intro0 (fun b=>?_)|(refine NewB_intro (fun b hb=>?_);simp only[ln_cons2,ln_nil,and_true]at hb)|(with_reducible apply wA;focus exact OM_a)|((first|refine gW_sp ?_|refine condW_sp ?_|refine pickW_sp ?_);(try refine Sp_n ?_);(first|refine wT ?_|refine wF ?_|refine wL (fun h h'=>?_) (fun h h'=>?_)|refine wE (fun h h'=>?_) (fun h h'=>?_)|refine Sp_split (fun h=>?_) (fun h=>?_))<;>(try (exfalso;omega)))|refine TreeW_intro (by rfl) ?_|refine TreeW_all ?_|refine a0a ?_|refine Two_intro ?_ ?_|exact wZ|fail)<;>(try refine sxDlp ?_)<;>(try exact True.intro))
  all_goals ((try rw[show ((i:Int)+1).toNat=i+1 by omega]);simp only[e1,List.length_take,List.length_drop,List.length_append,List.length_cons,List.length_nil,hl,and_true];omega)
theorem a8u(k v:List UInt8)(hk:k.length≤1000000)(hv:v.length≤1000000):CP Tryz.prog 16 [.str k,.str v] (.bool (a1T k v)):=by
 refine a3X _ _ (by simp) ?_
 unfold a1T
 by_cases h:1≤k.length∧k.length≤160∧1≤v.length∧v.length≤64
 ·rw[decide_eq_true h]
  simp (disch:=omega) only[a1i, ↓Ed,Eu, ↓reduceIte,reduceCtorEq,Nat.reduceAdd,Nat.reduceEqDiff,Nat.reduceLT,Nat.reduceLeDiff,Int.reduceToNat,Int.reduceEq,Int.reduceLT,Int.reduceLE,w64,a0g,a0i]
  repeat' ((first|refine NewB_intro0 (fun b=>?_)|(refine NewB_intro (fun b hb=>?_);simp only[ln_cons2,ln_nil,and_true]at hb)|(with_reducible apply wA;focus exact OM_a)|((first|refine gW_sp ?_|refine condW_sp ?_|refine pickW_sp ?_);(try refine Sp_n ?_);(first|refine wT ?_|refine wF ?_|refine wL (fun h h'=>?_) (fun h h'=>?_)|refine wE (fun h h'=>?_) (fun h h'=>?_)|refine Sp_split (fun h=>?_) (fun h=>?_))<;>(try (exfalso;omega)))|refine TreeW_intro (by rfl) ?_|refine TreeW_all ?_|refine a0a ?_|refine Two_intro ?_ ?_|exact wZ|fail)<;>(try refine sxDlp ?_)<;>(try exact True.intro))
  all_goals (simp only[a0f,Bool.not_eq_true',Bool.not_eq_false',decide_eq_true_eq,decide_eq_false_iff_not]at *;omega)
 ·rw[decide_eq_false h]
  simp (disch:=omega) only[a1i, ↓Ed,Eu, ↓reduceIte,reduceCtorEq,Nat.reduceAdd,Nat.reduceEqDiff,Nat.reduceLT,Nat.reduceLeDiff,Int.reduceToNat,Int.reduceEq,Int.reduceLT,Int.reduceLE,w64,a0g,a0i]
  repeat' ((first|refine NewB_intro0 (fun b=>?_)|(refine NewB_intro (fun b hb=>?_);simp only[ln_cons2,ln_nil,and_true]at hb)|(with_reducible apply wA;focus exact OM_a)|((first|refine gW_sp ?_|refine condW_sp ?_|refine pickW_sp ?_);(try refine Sp_n ?_);(first|refine wT ?_|refine wF ?_|refine wL (fun h h'=>?_) (fun h h'=>?_)|refine wE (fun h h'=>?_) (fun h h'=>?_)|refine Sp_split (fun h=>?_) (fun h=>?_))<;>(try (exfalso;omega)))|refine TreeW_intro (by rfl) ?_|refine TreeW_all ?_|refine a0a ?_|refine Two_intro ?_ ?_|exact wZ|fail)<;>(try refine sxDlp ?_)<;>(try exact True.intro))
  all_goals (simp only[a0f,Bool.not_eq_true',Bool.not_eq_false',decide_eq_true_eq,decide_eq_false_iff_not]at *;omega)
end
end Go.Proofs.YthdcogkdacnheaaGreatDoor
