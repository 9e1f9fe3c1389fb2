import Derived.Test.YthdcogkdacnheaaGreatDoorK20
import Derived.Test.YthdcogkdacnheaaGreatDoorK19
namespace Go.Proofs.YthdcogkdacnheaaGreatDoor
set_option linter.all false
set_option maxHeartbeats 9000000
section
open Go.RowKit Go.Lib
set_option maxRecDepth 100000
theorem b2m:(nx [] 0).2.2≠0:=by decide
theorem b1n:(a6q []).2≠0∧(a6q []).1=Es.zero:=by
 have h:rend [] (dst []).2≠0:=by decide
 have e:a6q []=(Es.zero,rend [] (dst []).2):=by unfold a6q;rw[if_pos h]
 rw[e];exact ⟨h,rfl⟩
theorem getE_f{L:List PrP}{p:List UInt8}{c:Int}(h:a1I L (ofP 7 p c 0)=false):a2R L p c=(Es.zero,false):=by
 unfold a2R
 rw[getS_f h,h,b1n.2];rfl
theorem getE_t{L:List PrP}{p:List UInt8}{c:Int}(h:a1I L (ofP 7 p c 0)=true):a2R L p c=((a6q (a4g L (ofP 7 p c 0))).1,decide ((a6q (a4g L (ofP 7 p c 0))).2=0)):=by
 unfold a2R
 rw[h,Bool.true_and]
theorem sxDlq{A B:Prop}(h:B)(e:A=B:=by (simp (disch:=omega) only[*, ↓Ed,Eu, ↓reduceIte,reduceCtorEq,Nat.reduceAdd,Nat.reduceEqDiff,Nat.reduceLT,Nat.reduceLeDiff,Int.reduceToNat,Int.reduceEq,Int.reduceLT,Int.reduceLE,w64,a0g,a0i];first|done|rfl)):A:=e▸h
theorem a0D(L:List PrP)(hI:StI L)(p:List UInt8)(c:Int)(hp:p.length≤1000000):CP Tryz.prog 19 [prV L,.agg [.str p,.int .i64 c]] (.tup [.agg (a2R L p c).1.cs,.bool (a2R L p c).2]):=by
 have hl:=hI.len
 have hG:=b2v L (by omega) (ofP 7 p c 0)
 have hO:=a7H 7 p c 0 hp
 have hv:=hI.getS_len (ofP 7 p c 0)
 have hD:=a7y (a4g L (ofP 7 p c 0)) (by omega)
 refine a3z _ _ (by simp) ?_
 cases hh:a1I L (ofP 7 p c 0) with
 | false=>
  rw[getE_f hh]
  rw[hh]at hG
  clear hI hh
  generalize ofP 7 p c 0=k at *
  generalize a4g L k=v at *
  simp (disch:=omega) only[a0Z, ↓Ed,Eu, ↓reduceIte,reduceCtorEq,Nat.reduceAdd,Nat.reduceEqDiff,Nat.reduceLT,Nat.reduceLeDiff,Int.reduceToNat,Int.reduceEq,Int.reduceLT,Int.reduceLE,w64,a0g,a0i]
  repeat' ((first|refine CallO_pure (hO) ?_|refine CallO_pure (hG) ?_|refine NewB_intro0 (fun b=>?_)|(refine NewB_intro (fun b hb=>?_);simp only[ln_cons2,ln_nil,and_true]at hb)|(with_reducible apply wA;focus exact OM_a)|((first|refine gW_sp ?_|refine condW_sp ?_|refine pickW_sp ?_);(try refine Sp_n ?_);(first|refine wT ?_|refine wF ?_|refine wL (fun h h'=>?_) (fun h h'=>?_)|refine wE (fun h h'=>?_) (fun h h'=>?_)|refine Sp_split (fun h=>?_) (fun h=>?_))<;>(try (exfalso;omega)))|refine TreeW_intro (by rfl) ?_|refine TreeW_all ?_|refine a0a ?_|refine Two_intro ?_ ?_|exact wZ|fail)<;>(try refine sxDlq ?_)<;>(try exact True.intro))
  all_goals rfl
 | true=>
  rw[getE_t hh]
  rw[hh]at hG
  clear hI hh
  generalize ofP 7 p c 0=k at *
  generalize a4g L k=v at *
  generalize a6q v=z at *
  simp (disch:=omega) only[a0Z, ↓Ed,Eu, ↓reduceIte,reduceCtorEq,Nat.reduceAdd,Nat.reduceEqDiff,Nat.reduceLT,Nat.reduceLeDiff,Int.reduceToNat,Int.reduceEq,Int.reduceLT,Int.reduceLE,w64,a0g,a0i]
  repeat' ((first|refine CallO_pure (hO) ?_|refine CallO_pure (hG) ?_|refine CallO_pure (hD) ?_|refine NewB_intro0 (fun b=>?_)|(refine NewB_intro (fun b hb=>?_);simp only[ln_cons2,ln_nil,and_true]at hb)|(with_reducible apply wA;focus exact OM_a)|((first|refine gW_sp ?_|refine condW_sp ?_|refine pickW_sp ?_);(try refine Sp_n ?_);(first|refine wT ?_|refine wF ?_|refine wL (fun h h'=>?_) (fun h h'=>?_)|refine wE (fun h h'=>?_) (fun h h'=>?_)|refine Sp_split (fun h=>?_) (fun h=>?_))<;>(try (exfalso;omega)))|refine TreeW_intro (by rfl) ?_|refine TreeW_all ?_|refine a0a ?_|refine Two_intro ?_ ?_|exact wZ|fail)<;>(try refine sxDlq ?_)<;>(try exact True.intro))
theorem a6d(L:List PrP)(hb:L.length≤1000)(p:List UInt8)(c:Int)(hp:p.length≤1000000)(e:Es)(he:e.p.length≤100000):CP Tryz.prog 11 [prV L,.agg [.str p,.int .i64 c],.agg e.cs] (.sl (some 88) 2 (prR (a3o L (ofP 7 p c 0) (a3d e).1))):=by
 have hS:=a9A L (by omega) (ofP 7 p c 0) (a3d e).1
 have hO:=a7H 7 p c 0 hp
 have hE:=a7z e he
 refine a3B _ _ (by simp) ?_
 simp (disch:=omega) only[a1Q, ↓Ed,Eu, ↓reduceIte,reduceCtorEq,Nat.reduceAdd,Nat.reduceEqDiff,Nat.reduceLT,Nat.reduceLeDiff,Int.reduceToNat,Int.reduceEq,Int.reduceLT,Int.reduceLE,w64,a0g,a0i]
 repeat' ((first|refine CallO_pure (hO) ?_|refine CallO_pure (hS) ?_|refine CallO_pure (hE) ?_|refine NewB_intro0 (fun b=>?_)|(refine NewB_intro (fun b hb=>?_);simp only[ln_cons2,ln_nil,and_true]at hb)|(with_reducible apply wA;focus exact OM_a)|((first|refine gW_sp ?_|refine condW_sp ?_|refine pickW_sp ?_);(try refine Sp_n ?_);(first|refine wT ?_|refine wF ?_|refine wL (fun h h'=>?_) (fun h h'=>?_)|refine wE (fun h h'=>?_) (fun h h'=>?_)|refine Sp_split (fun h=>?_) (fun h=>?_))<;>(try (exfalso;omega)))|refine TreeW_intro (by rfl) ?_|refine TreeW_all ?_|refine a0a ?_|refine Two_intro ?_ ?_|exact wZ|fail)<;>(try refine sxDlq ?_)<;>(try exact True.intro))
theorem a6R(L:List PrP)(hb:L.length≤1000)(k:Int)(p:List UInt8)(c:Int)(hp:p.length≤1000000)(n:Int):CP Tryz.prog 13 [prV L,.int .i64 k,.agg [.str p,.int .i64 c],.int .i64 n] (.sl (some 88) 2 (prR (a3o L (ofP k p c 0) (pn n)))):=by
 have hS:=a9A L (by omega) (ofP k p c 0) (pn n)
 have hO:=a7H k p c 0 hp
 have hE:=a7B n
 refine a3Y _ _ (by simp) ?_
 simp (disch:=omega) only[a2d, ↓Ed,Eu, ↓reduceIte,reduceCtorEq,Nat.reduceAdd,Nat.reduceEqDiff,Nat.reduceLT,Nat.reduceLeDiff,Int.reduceToNat,Int.reduceEq,Int.reduceLT,Int.reduceLE,w64,a0g,a0i]
 repeat' ((first|refine CallO_pure (hO) ?_|refine CallO_pure (hS) ?_|refine CallO_pure (hE) ?_|refine NewB_intro0 (fun b=>?_)|(refine NewB_intro (fun b hb=>?_);simp only[ln_cons2,ln_nil,and_true]at hb)|(with_reducible apply wA;focus exact OM_a)|((first|refine gW_sp ?_|refine condW_sp ?_|refine pickW_sp ?_);(try refine Sp_n ?_);(first|refine wT ?_|refine wF ?_|refine wL (fun h h'=>?_) (fun h h'=>?_)|refine wE (fun h h'=>?_) (fun h h'=>?_)|refine Sp_split (fun h=>?_) (fun h=>?_))<;>(try (exfalso;omega)))|refine TreeW_intro (by rfl) ?_|refine TreeW_all ?_|refine a0a ?_|refine Two_intro ?_ ?_|exact wZ|fail)<;>(try refine sxDlq ?_)<;>(try exact True.intro))
theorem b3j(L:List PrP)(hI:StI L)(k:Int)(p:List UInt8)(c:Int)(hp:p.length≤1000000):CP Tryz.prog 21 [prV L,.int .i64 k,.agg [.str p,.int .i64 c]] (.int .i64 (a6w L k p c)):=by
 have hl:=hI.len
 have hG:=b2v L (by omega) (ofP k p c 0)
 have hO:=a7H k p c 0 hp
 have hv:=hI.getS_len (ofP k p c 0)
 have hD:=a6b (a4g L (ofP k p c 0)) 0 (by omega)
 have hx:=a9w (a4g L (ofP k p c 0)) 0
 have hz:a1I L (ofP k p c 0)=false→(nx (a4g L (ofP k p c 0)) 0).2.2≠0:=fun h=>by rw[getS_f h];exact b2m
 unfold a6w okK
 clear hI
 generalize ofP k p c 0=key at *
 generalize a4g L key=v at *
 generalize nx v 0=z at *
 generalize a1I L key=ok at *
 refine a5k _ _ (by simp) ?_
 by_cases h1:(decide (4≤k)&&decide (k≤6))=true∧z.2.2=0∧¬ z.2.1<(v.length:Int)
 ·rw[if_pos h1]
  cases ok with
  | false=>exact absurd h1.2.1 (hz rfl)
  | true=>
   clear hz
   simp only[Bool.and_eq_true,decide_eq_true_eq]at h1
   obtain ⟨⟨k1,k2⟩,h2,h3⟩:=h1
   have f2:a0f (decide (z.2.2=0)=true):=by simp only[a0f,Bool.not_eq_true',Bool.not_eq_false',decide_eq_true_eq,decide_eq_false_iff_not];exact h2
   have f3:a0f (decide (z.2.1=(v.length:Int))=true):=by simp only[a0f,Bool.not_eq_true',Bool.not_eq_false',decide_eq_true_eq,decide_eq_false_iff_not];omega
   have f4:a0f (decide (k<4)=false):=by simp only[a0f,Bool.not_eq_true',Bool.not_eq_false',decide_eq_true_eq,decide_eq_false_iff_not];omega
   have f5:a0f (decide (6<k)=false):=by simp only[a0f,Bool.not_eq_true',Bool.not_eq_false',decide_eq_true_eq,decide_eq_false_iff_not];omega
   clear h2 h3
   simp (disch:=omega) only[a1P, ↓Ed,Eu, ↓reduceIte,reduceCtorEq,Nat.reduceAdd,Nat.reduceEqDiff,Nat.reduceLT,Nat.reduceLeDiff,Int.reduceToNat,Int.reduceEq,Int.reduceLT,Int.reduceLE,w64,a0g,a0i]
   repeat' ((first|refine CallO_pure (hO) ?_|refine CallO_pure (hG) ?_|refine CallO_pure (hD) ?_|refine NewB_intro0 (fun b=>?_)|(refine NewB_intro (fun b hb=>?_);simp only[ln_cons2,ln_nil,and_true]at hb)|(with_reducible apply wA;focus exact OM_a)|((first|refine gW_sp ?_|refine condW_sp ?_|refine pickW_sp ?_);(try refine Sp_n ?_);(first|refine wT ?_|refine wF ?_|refine wL (fun h h'=>?_) (fun h h'=>?_)|refine wE (fun h h'=>?_) (fun h h'=>?_)|refine Sp_split (fun h=>?_) (fun h=>?_))<;>(try (exfalso;omega)))|refine TreeW_intro (by rfl) ?_|refine TreeW_all ?_|refine a0a ?_|refine Two_intro ?_ ?_|exact wZ|fail)<;>(try refine sxDlq ?_)<;>(try exact True.intro))
 ·rw[if_neg h1]
  simp only[Bool.and_eq_true,decide_eq_true_eq]at h1
  clear hz
  cases ok
  all_goals
   simp (disch:=omega) only[a1P, ↓Ed,Eu, ↓reduceIte,reduceCtorEq,Nat.reduceAdd,Nat.reduceEqDiff,Nat.reduceLT,Nat.reduceLeDiff,Int.reduceToNat,Int.reduceEq,Int.reduceLT,Int.reduceLE,w64,a0g,a0i]
   repeat' ((first|refine CallO_pure (hO) ?_|refine CallO_pure (hG) ?_|refine CallO_pure (hD) ?_|refine NewB_intro0 (fun b=>?_)|(refine NewB_intro (fun b hb=>?_);simp only[ln_cons2,ln_nil,and_true]at hb)|(with_reducible apply wA;focus exact OM_a)|((first|refine gW_sp ?_|refine condW_sp ?_|refine pickW_sp ?_);(try refine Sp_n ?_);(first|refine wT ?_|refine wF ?_|refine wL (fun h h'=>?_) (fun h h'=>?_)|refine wE (fun h h'=>?_) (fun h h'=>?_)|refine Sp_split (fun h=>?_) (fun h=>?_))<;>(try (exfalso;omega)))|refine TreeW_intro (by rfl) ?_|refine TreeW_all ?_|refine a0a ?_|refine Two_intro ?_ ?_|exact wZ|fail)<;>(try refine sxDlq ?_)<;>(try exact True.intro))
  all_goals (simp only[a0f,Bool.not_eq_true',Bool.not_eq_false',decide_eq_true_eq,decide_eq_false_iff_not]at *;omega)
end
section
open Go.RowKit Go.Lib
set_option maxRecDepth 100000
theorem a9F:a2a []:=List.Pairwise.nil
structure StN (L:List PrP) (i:Nat):Prop where
 rise:a2a L
 may:∀ q∈L,a1T q.1 q.2=true
 len:L.length≤i
theorem StN.I{L:List PrP}{i:Nat}(h:StN L i)(hi:i≤1000):StI L:=⟨h.rise,h.may,by have:=h.len;omega⟩
theorem StN.nil:StN [] 0:=⟨a9F,(fun q h=>by cases h),Nat.le_refl _⟩
theorem StN.mono{L:List PrP}{i:Nat}(h:StN L i):StN L (i+1):=⟨h.rise,h.may,by have:=h.len;omega⟩
theorem setS_mem{L:List PrP}{k v:List UInt8}{q:PrP}(h:q∈a3o L k v):q=(k,v)∨q∈L:=by
 unfold a3o at h
 rcases List.mem_append.1 h with h|h
 ·rcases List.mem_append.1 h with h|h
  ·exact .inr (List.mem_of_mem_take h)
  ·exact .inl (by simpa using h)
 ·exact .inr (List.mem_of_mem_drop h)
theorem a5u(L:List PrP)(k v:List UInt8):(a3o L k v).length≤L.length+1:=by
 have hp:=a4B L k
 unfold a3o
 split<;>simp<;>omega
theorem StN.set{L:List PrP}{i:Nat}(h:StN L i){k v:List UInt8}(hm:a1T k v=true):StN (a3o L k v) (i+1):=
 ⟨setS_rise h.rise k v,(fun q hq=>by
  rcases setS_mem hq with rfl|hq
  ·exact hm
  ·exact h.may q hq),by have:=h.len;have:=a5u L k v;omega⟩
theorem StN.put{L:List PrP}{i:Nat}(h:StN L i)(k v:List UInt8):StN (a6T L k v) (i+1):=by
 unfold a6T
 split
 ·rename_i hm;exact h.set hm
 ·exact h.mono
theorem ofP_none{k:Int}{p:List UInt8}{c q:Int}(h:a1E p c=false):ofP k p c q=[]:=by
 unfold ofP;rw[if_pos (.inr (by simp[h]))]
theorem ofP_some{k:Int}{p:List UInt8}{c:Int}(hk:4≤k∧k≤7)(h:a1E p c=true):ofP k p c 0≠[]:=by
 unfold ofP
 rw[if_neg (by rintro (h1|h1);exact wordP_in (by omega) h1;exact h1 h),if_neg (by omega),if_pos rfl]
 simp[a7c]
theorem mayPr_of{k:Int}{p:List UInt8}{c:Int}{v:List UInt8}(hk:4≤k∧k≤7)(hv:1≤v.length∧v.length≤64):a1T (ofP k p c 0) v=a1E p c:=by
 have hl:=a5T k p c 0
 cases h:a1E p c with
 | false=>rw[ofP_none h];simp[a1T]
 | true=>
  have:=List.length_pos_iff.2 (ofP_some hk h)
  unfold a1T
  rw[decide_eq_true (by omega)]
theorem b0K(v:Int)(h:0≤v∧v≤72057594037927935):1≤(pn v).length:=by
 rcases Nat.eq_zero_or_pos (pn v).length with h0|h0
 ·have e:=List.eq_nil_of_length_eq_zero h0
  have:=a9x [] [] v h
  rw[e]at this
  have h2:nx [] 0=(v,0,0):=by simpa using this
  have:=b2m
  rw[h2]at this
  exact absurd rfl this
 ·exact h0
theorem enc_pos{e:Es}(h:e.may=true):1≤e.enc.length:=by
 have h1:=b0K (a2I e.cl) (by unfold a2I;split<;>omega)
 simp only[Es.enc,List.length_append];omega
theorem put_law{L:List PrP}{p:List UInt8}{c:Int}{e:Es}:(b3r p c e=0↔(a1E p c&&e.may)=true)∧b3q L p c e=if (a1E p c&&e.may)=true then a3o L (ofP 7 p c 0) (a3d e).1 else L:=by
 unfold b3r b3q
 cases hm:e.may with
 | false=>
  have he:a3d e=([],1):=by simp only[a3d,hm,Bool.false_eq_true,if_false]
  rw[he];simp
 | true=>
  have he:a3d e=(e.enc,0):=by simp only[a3d,hm,if_true]
  rw[he]
  have hk:=mayPr_of (k:=7) (p:=p) (c:=c) (v:=e.enc) (by omega) ⟨enc_pos hm,enc_len hm⟩
  simp only[if_true,b0U,a6T,hk,Bool.and_true]
  cases a1E p c<;>simp
theorem setN_law{L:List PrP}{k:Int}{p:List UInt8}{c n:Int}:(a9a k p c n=0↔(a1E p c&&okN k n)=true)∧b3u L k p c n=if (a1E p c&&okN k n)=true then a3o L (ofP k p c 0) (pn n) else L:=by
 unfold a9a b3u
 cases ho:okN k n with
 | false=>simp
 | true=>
  have h1:4≤k∧k≤6∧1≤n∧n≤1099511627777:=by
   simp only[okN,okK,Bool.and_eq_true,decide_eq_true_eq]at ho;omega
  have hk:=mayPr_of (k:=k) (p:=p) (c:=c) (v:=pn n) (by omega) ⟨b0K n (by omega),by have:=a0M n;omega⟩
  simp only[if_true,b0U,a6T,hk,Bool.and_true]
  cases a1E p c<;>simp
end
section
open Go.RowKit Go.Sort Go.Shelf
set_option maxRecDepth 100000
theorem a6g:∀ (f q r:List UInt8), ¬ q<f→q<f++r→f.isPrefixOf q=true
 | [],_,_,_,_=>by simp
 | a::f,[],_,h,_=>absurd (List.nil_lt_cons a f) h
 | a::f,b::q,r,h,g=>by
  rw[List.cons_lt_cons_iff]at h
  rw[List.cons_append,List.cons_lt_cons_iff]at g
  rcases g with g | ⟨rfl,g⟩
  ·exact absurd (.inl g) h
  ·have:=a6g f q r (fun e=>h (.inr ⟨rfl,e⟩)) g
   simp[this]
theorem b0M:∀ (f q:List UInt8),f.isPrefixOf q=true→¬ q<f
 | [],q,_=>List.not_lt_nil q
 | a::f,[],h=>by simp at h
 | a::f,b::q,h=>by
  simp only[List.isPrefixOf,Bool.and_eq_true,beq_iff_eq]at h
  obtain ⟨rfl,h⟩:=h
  have:=b0M f q h
  rw[List.cons_lt_cons_iff]
  rintro (g | ⟨_,g⟩)
  ·exact UInt8.lt_irrefl _ g
  ·exact this g
theorem b0L(y:PrP)(r:List PrP)(k:List UInt8):a0z (y::r) k=if ltS y.1 k=true then a0z r k+1 else 0:=by
 unfold a0z
 rw[List.takeWhile_cons]
 split<;>simp
theorem a6Y(y:PrP)(r:List PrP)(f:List UInt8):a2z (y::r) f=if ltS y.1 f=true then a2z r f else (y::r).takeWhile fun p=>Lib.hasPrefix p.1 f:=by
 unfold a2z
 rw[b0L]
 split<;>simp
theorem a3q(f:List UInt8):∀ {L:List PrP},a2a L→a2z L f=L.filter fun p=>Lib.hasPrefix p.1 f
 | [],_=>rfl
 | y::r,h=>by
  have hr:a2a r:=List.Pairwise.of_cons h
  have hy:=(List.pairwise_cons.1 h).1
  rw[a6Y,List.filter_cons]
  by_cases hl:ltS y.1 f=true
  ·rw[if_pos hl,if_neg (show ¬ Lib.hasPrefix y.1 f=true from fun hp=>b0M f y.1 hp ((a5R _ _).1 hl)),a3q f hr]
  ·rw[if_neg hl,List.takeWhile_cons]
   by_cases hp:Lib.hasPrefix y.1 f=true
   ·rw[if_pos hp,if_pos hp]
    congr 1
    rw[← a3q f hr]
    cases r with
    | nil=>rfl
    | cons z r=>
     rw[a6Y,if_neg]
     intro hz
     exact hl (strSTO.tr _ _ _ (hy z (by simp)) hz)
   ·rw[if_neg hp,if_neg hp]
    symm
    rw[List.filter_eq_nil_iff]
    intro x hx hpx
    refine hp ?_
    obtain ⟨t,ht⟩:=List.isPrefixOf_iff_prefix.1 hpx
    refine a6g f y.1 t (fun e=>hl ((a5R _ _).2 e)) ?_
    rw[ht]
    exact (a5R _ _).1 (hy x hx)
noncomputable def okS (L:List PrP) (q:PrP):Bool:=decide ((a0R q.1).2.2.2.2=0)&&decide ((a0R q.1).1=7)&&(a2R L (rdE q).1 (rdE q).2).2
noncomputable def a2b (L M:List PrP):List a1C:=(M.filter (okS L)).map rdE
theorem a6U(s:List UInt8):(∃ k p c q,OfQ s k p c q∧a0R s=(k,p,c,q,0))∨a0R s=(0,[],0,0,3):=by
 by_cases h:∃ x:Int × List UInt8 × Int × Int,OfQ s x.1 x.2.1 x.2.2.1 x.2.2.2
 ·obtain ⟨⟨k,p,c,q⟩,h⟩:=h
  exact .inl ⟨k,p,c,q,h,readP_of h⟩
 ·exact .inr (readP_no fun k p c q g=>h ⟨(k,p,c,q),g⟩)
theorem pre_kind{s k p c q}(h:OfQ s k p c q):Lib.hasPrefix s a7l=decide (k=7):=by
 unfold Lib.hasPrefix
 cases h with
 | num hk hp hc hq=>
  obtain rfl|rfl|rfl:k=1∨k=2∨k=3:=by omega
  all_goals simp[a1l,List.isPrefixOf]
 | base hk hp hc=>
  obtain rfl|rfl|rfl|rfl:k=4∨k=5∨k=6∨k=7:=by omega
  all_goals simp[a1l,List.isPrefixOf]
theorem b4x(L:List PrP)(q:PrP):(okX L q&&Lib.hasPrefix q.1 a7l)=okS L q:=by
 unfold okX okS
 rcases a6U q.1 with ⟨k,p,c,n,h,e⟩|e
 ·rw[pre_kind h,e]
  cases (a2R L (rdE q).1 (rdE q).2).2<;>simp
 ·rw[e];simp
theorem all_eq{L:List PrP}(h:a2a L):a6D L (a2z L a7l)=a2b L L:=by
 unfold a6D a2b
 rw[a3q a7l h,List.filter_filter]
 congr 1
 exact List.filter_congr fun q _=>b4x L q
theorem okS_key{L:List PrP}{q:PrP}(h:okS L q=true):q.1=ofP 7 (rdE q).1 (rdE q).2 0:=by
 unfold okS at h
 simp only[Bool.and_eq_true,decide_eq_true_eq]at h
 unfold rdE
 rcases a6U q.1 with ⟨k,p,c,n,g,e⟩|e
 ·rw[e]at h ⊢
  obtain rfl:k=7:=h.1.2
  have hn:n=0:=by
   generalize q.1=s at g
   cases g with
   | num hk=>omega
   | base=>rfl
  subst hn
  exact g.eq.symm
 ·rw[e]at h
  exact absurd h.1.1 (by decide)
theorem ends_nodup{L M:List PrP}(h:a2a M):(a2b L M).Nodup:=by
 unfold a2b List.Nodup
 rw[List.pairwise_map]
 refine (List.Pairwise.sublist List.filter_sublist h).imp_of_mem ?_
 intro a b ha hb hlt he
 have ka:=okS_key (List.mem_filter.1 ha).2
 have kb:=okS_key (List.mem_filter.1 hb).2
 rw[ka,kb,he,strSTO.irr]at hlt
 cases hlt
theorem sort_rise{l:List a1C}(h:l.Nodup):Rise a1r (a0N l):=by
 refine rise_of endSTO (fun i j hij hj=>?_) ((a4R l).nodup_iff.2 h)
 have hs:=List.pairwise_mergeSort (le:=fun x y => !(ltOf (cmpL a1r)) y x) (fun a b c h1 h2=>?_) (fun a b=>?_) l
 ·have:=List.pairwise_iff_getElem.1 hs i j (Nat.lt_trans hij hj) hj hij
  rw[lt_cmpL]at this
  have e1:(a0N l).getD i default=(a0N l)[i]:=by simp[List.getD,show i<(a0N l).length by omega]
  have e2:(a0N l).getD j default=(a0N l)[j]:=by simp[List.getD,hj]
  rw[e1,e2]
  rw[Bool.not_eq_true']at this
  exact this
 ·simp only[lt_cmpL,Bool.not_eq_true']at h1 h2 ⊢
  cases q:a1r c a with
  | false=>rfl
  | true=>
   rcases Bool.eq_false_or_eq_true (a1r a b) with g|g
   ·rw[endSTO.tr _ _ _ q g]at h2;cases h2
   ·have:=endSTO.tot _ _ g h1
    subst this
    rw[q]at h2;cases h2
 ·simp only[lt_cmpL,Bool.or_eq_true,Bool.not_eq_true']
  cases q:a1r b a with
  | false=>exact .inl rfl
  | true=>
   refine .inr ?_
   cases q':a1r a b with
   | false=>rfl
   | true=>have:=endSTO.tr _ _ _ q q';rw[endSTO.irr]at this;cases this
end
section
open Go.RowKit Go.Lib
set_option maxRecDepth 100000
theorem a1d(l:List a1C):(enR l).length=l.length:=by simp
theorem a1c(l:List a1C)(i:Nat)(h:i<l.length):(enR l).getD i []=enC (l.getD i default):=by simp[h]
theorem sxSam{A B:Prop}(h:B)(e:A=B:=by (simp (disch:=omega) only[*, ↓Ed,Eu, ↓reduceIte,reduceCtorEq,Nat.reduceAdd,Nat.reduceEqDiff,Nat.reduceLT,Nat.reduceLeDiff,Int.reduceToNat,Int.reduceEq,Int.reduceLT,Int.reduceLE,w64,a0g,a0i,a1d,a1c];first|done|rfl)):A:=e▸h
theorem a9z(L:List PrP)(hb:L.length≤1000)(e:Option Nat):CP Tryz.prog 22 [prV L,prV L] (.bool true):=by
 refine a5g _ _ (by simp) ?_
 simp (disch:=omega) only[a2W, ↓Ed,Eu, ↓reduceIte,reduceCtorEq,Nat.reduceAdd,Nat.reduceEqDiff,Nat.reduceLT,Nat.reduceLeDiff,Int.reduceToNat,Int.reduceEq,Int.reduceLT,Int.reduceLE,w64,a0g,a0i,a1d,a1c]
 repeat' ((first|refine NewB_intro0 (fun b=>?_)|(refine NewB_intro (fun b hb=>?_);simp only[ln_cons2,ln_nil,and_true]at hb)|(with_reducible apply wA;focus exact OM_a)|((first|refine gW_sp ?_|refine condW_sp ?_|refine pickW_sp ?_);(try refine Sp_n ?_);(first|refine wT ?_|refine wF ?_|refine wL (fun h h'=>?_) (fun h h'=>?_)|refine wE (fun h h'=>?_) (fun h h'=>?_)|refine Sp_split (fun h=>?_) (fun h=>?_))<;>(try (exfalso;omega)))|refine TreeW_intro (by rfl) ?_|refine TreeW_all ?_|refine a0a ?_|refine Two_intro ?_ ?_|exact wZ|fail)<;>(try refine sxSam ?_)<;>(try exact True.intro))
 all_goals first|(exfalso;omega)|skip
 refine wpx_loop (fun i:Nat=>⟨lk [(0,prV L),(1,prV L),(5,.int .i64 (i:Int))],lk []⟩) (fun i=>i≤L.length) (fun i=>L.length - i) 0 (by omega) (Le_lit (by simp[LeL,lk])) ?_
 intro i hi
 by_cases hlt:i<L.length
 ·have f1:a0f (decide ((i:Int)<L.length)=true):=by simp only[a0f,Bool.not_eq_true',Bool.not_eq_false',decide_eq_true_eq,decide_eq_false_iff_not];omega
  simp (disch:=omega) only[decide_true, ↓Ed,Eu, ↓reduceIte,reduceCtorEq,Nat.reduceAdd,Nat.reduceEqDiff,Nat.reduceLT,Nat.reduceLeDiff,Int.reduceToNat,Int.reduceEq,Int.reduceLT,Int.reduceLE,w64,a0g,a0i,a1d,a1c]
  repeat' ((first|refine NewB_intro0 (fun b=>?_)|(refine NewB_intro (fun b hb=>?_);simp only[ln_cons2,ln_nil,and_true]at hb)|(with_reducible apply wA;focus exact OM_a)|((first|refine gW_sp ?_|refine condW_sp ?_|refine pickW_sp ?_);(try refine Sp_n ?_);(first|refine wT ?_|refine wF ?_|refine wL (fun h h'=>?_) (fun h h'=>?_)|refine wE (fun h h'=>?_) (fun h h'=>?_)|refine Sp_split (fun h=>?_) (fun h=>?_))<;>(try (exfalso;omega)))|refine TreeW_intro (by rfl) ?_|refine TreeW_all ?_|refine a0a ?_|refine Two_intro ?_ ?_|exact wZ|fail)<;>(try refine sxSam ?_)<;>(try exact True.intro))
  all_goals exact Round_lit (i+1) ⟨Le_lit (by simp[LeL,lk]),hlt,by omega⟩
 ·have f1:a0f (decide ((i:Int)<L.length)=false):=by simp only[a0f,Bool.not_eq_true',Bool.not_eq_false',decide_eq_true_eq,decide_eq_false_iff_not];omega
  simp (disch:=omega) only[↓Ed,Eu, ↓reduceIte,reduceCtorEq,Nat.reduceAdd,Nat.reduceEqDiff,Nat.reduceLT,Nat.reduceLeDiff,Int.reduceToNat,Int.reduceEq,Int.reduceLT,Int.reduceLE,w64,a0g,a0i,a1d,a1c]
  repeat' ((first|refine NewB_intro0 (fun b=>?_)|(refine NewB_intro (fun b hb=>?_);simp only[ln_cons2,ln_nil,and_true]at hb)|(with_reducible apply wA;focus exact OM_a)|((first|refine gW_sp ?_|refine condW_sp ?_|refine pickW_sp ?_);(try refine Sp_n ?_);(first|refine wT ?_|refine wF ?_|refine wL (fun h h'=>?_) (fun h h'=>?_)|refine wE (fun h h'=>?_) (fun h h'=>?_)|refine Sp_split (fun h=>?_) (fun h=>?_))<;>(try (exfalso;omega)))|refine TreeW_intro (by rfl) ?_|refine TreeW_all ?_|refine a0a ?_|refine Two_intro ?_ ?_|exact wZ|fail)<;>(try refine sxSam ?_)<;>(try exact True.intro))
def a7n(e x:a1C):Bool:=decide (x.1=e.1)&&decide (x.2=e.2)
theorem a8O(e x:a1C):a7n e x=true↔x=e:=by
 obtain ⟨a,b⟩:=e;obtain ⟨c,d⟩:=x
 simp[a7n]
def b1i(e:a1C)(l:List a1C)(j:Nat):Bool:=(l.take j).any (a7n e)
theorem b3Z(e:a1C)(l:List a1C):b1i e l 0=false:=by simp[b1i]
theorem b4a(e:a1C){l:List a1C}{j:Nat}(h:j<l.length):b1i e l (j+1)=(b1i e l j||a7n e (l.getD j default)):=by
 unfold b1i
 rw[take_snocA h,List.any_append];simp
theorem anyE_all{e:a1C}{l:List a1C}(h:e∈l):b1i e l l.length=true:=by
 unfold b1i
 rw[List.take_length,List.any_eq_true]
 exact ⟨e,h,(a8O e e).2 rfl⟩
theorem endsL_snoc{L M:List PrP}{k:Nat}(h:k<M.length):(a2b L (M.take (k+1))).length=(a2b L (M.take k)).length+(if okS L (M.getD k default)=true then 1 else 0):=by
 rw[take_snocA h]
 unfold a2b
 rw[List.filter_append,List.map_append,List.length_append]
 congr 1
 simp only[List.filter_cons,List.filter_nil]
 split<;>simp
theorem a7Z(L M:List PrP):(a2b L M).length≤M.length:=by
 unfold a2b;rw[List.length_map];exact List.length_filter_le _ _
set_option maxHeartbeats 16000000 in
theorem b4E(L:List PrP)(hI:StI L)(l:List a1C)(hl:l.length≤1000)(hmem:∀ q∈L,okS L q=true→rdE q∈l)(hlen:(a2b L L).length=l.length)(hr:∀ i,i+1<l.length→a1r (l.getD i default) (l.getD (i+1) default)=true):
  CP Tryz.prog 24 [.sl none 2 (enR l),prV L] (.bool true):=by
 have hb:=hI.len
 have hRd:=fun k (hk:k<L.length)=>a9X (L.getD k default).1 (by
  have h1:L.getD k default∈L:=by rw[List.getD,List.getElem?_eq_getElem hk,Option.getD_some];exact List.getElem_mem hk
  have:=hI.may _ h1
  simp only[a1T,decide_eq_true_eq]at this
  omega)
 have hGt:=fun k (_:k<L.length)=>a0D L hI (rdE (L.getD k default)).1 (rdE (L.getD k default)).2 (rdE_len (L:=L) _)
 have hmk:∀ k,k<L.length→okS L (L.getD k default)=true→rdE (L.getD k default)∈l:=fun k hk=>hmem _ (by rw[List.getD,List.getElem?_eq_getElem hk,Option.getD_some];exact List.getElem_mem hk)
 have hLs:=fun k (_:k+1<l.length)=>b0D (l.getD k default).1 (l.getD (k+1) default).1 (l.getD k default).2 (l.getD (k+1) default).2
 clear hmem hI
 refine a5i _ _ (by simp) ?_
 simp (disch:=omega) only[a2Y, ↓Ed,Eu, ↓reduceIte,reduceCtorEq,Nat.reduceAdd,Nat.reduceEqDiff,Nat.reduceLT,Nat.reduceLeDiff,Int.reduceToNat,Int.reduceEq,Int.reduceLT,Int.reduceLE,w64,a0g,a0i,a1d,a1c]
 repeat' ((first|refine NewB_intro0 (fun b=>?_)|(refine NewB_intro (fun b hb=>?_);simp only[ln_cons2,ln_nil,and_true]at hb)|(with_reducible apply wA;focus exact OM_a)|((first|refine gW_sp ?_|refine condW_sp ?_|refine pickW_sp ?_);(try refine Sp_n ?_);(first|refine wT ?_|refine wF ?_|refine wL (fun h h'=>?_) (fun h h'=>?_)|refine wE (fun h h'=>?_) (fun h h'=>?_)|refine Sp_split (fun h=>?_) (fun h=>?_))<;>(try (exfalso;omega)))|refine TreeW_intro (by rfl) ?_|refine TreeW_all ?_|refine a0a ?_|refine Two_intro ?_ ?_|exact wZ|fail)<;>(try refine sxSam ?_)<;>(try exact True.intro))
 refine wpx_loop (fun i:Nat=>⟨lk [(0,.sl none 2 (enR l)),(1,prV L),(5,.int .i64 ((a2b L (L.take i)).length:Int)),(6,.int .i64 (i:Int))],lk []⟩) (fun i=>i≤L.length) (fun i=>L.length - i) 0 (by omega) (Le_lit (by simp[LeL,lk,a2b])) ?_
 intro i hi
 have hcnt:=a7Z L (L.take i)
 rw[List.length_take,Nat.min_eq_left hi]at hcnt
 by_cases hlt:i<L.length
 ·have f1:a0f (decide ((i:Int)<L.length)=true):=by simp only[a0f,Bool.not_eq_true',Bool.not_eq_false',decide_eq_true_eq,decide_eq_false_iff_not];omega
  have hsn:=endsL_snoc (L:=L) hlt
  have hR:=hRd i hlt
  have hG:=hGt i hlt
  have hM:=hmk i hlt
  clear hRd hGt hmk hLs hlen hr
  obtain ⟨⟨qa,qb⟩,hgd⟩:∃ q,L.getD i default=q:=⟨_,rfl⟩
  rw[hgd]at hR hG hM hsn
  unfold okS at hM hsn
  unfold rdE at hG hM hsn
  simp only at hR hG hM hsn
  generalize a0R qa=w at *
  generalize a2R L w.2.1 w.2.2.1=E at *
  generalize hn:(a2b L (L.take i)).length=n at *
  obtain ⟨E1,E2⟩:=E
  simp only at hG hM hsn
  by_cases he:w.2.2.2.2=0
  ·by_cases hk:w.1=7
   ·rw[he,hk]at hR
    simp only[he,hk,decide_true,Bool.true_and]at hM hsn
    cases E2 with
    | true=>
     have hA:=anyE_all (hM rfl)
     rw[if_pos rfl]at hsn
     clear hM
     simp (disch:=omega) only[hgd, ↓Ed,Eu, ↓reduceIte,reduceCtorEq,Nat.reduceAdd,Nat.reduceEqDiff,Nat.reduceLT,Nat.reduceLeDiff,Int.reduceToNat,Int.reduceEq,Int.reduceLT,Int.reduceLE,w64,a0g,a0i,a1d,a1c]
     repeat' ((first|refine CallO_pure (hR) ?_|refine CallO_pure (hG) ?_|refine NewB_intro0 (fun b=>?_)|(refine NewB_intro (fun b hb=>?_);simp only[ln_cons2,ln_nil,and_true]at hb)|(with_reducible apply wA;focus exact OM_a)|((first|refine gW_sp ?_|refine condW_sp ?_|refine pickW_sp ?_);(try refine Sp_n ?_);(first|refine wT ?_|refine wF ?_|refine wL (fun h h'=>?_) (fun h h'=>?_)|refine wE (fun h h'=>?_) (fun h h'=>?_)|refine Sp_split (fun h=>?_) (fun h=>?_))<;>(try (exfalso;omega)))|refine TreeW_intro (by rfl) ?_|refine TreeW_all ?_|refine a0a ?_|refine Two_intro ?_ ?_|exact wZ|fail)<;>(try refine sxSam ?_)<;>(try exact True.intro))
     rename_i b8
     refine wpx_loop (fun j:Nat=>⟨lk [(0,.sl none 2 (enR l)),(1,prV L),(5,.int .i64 ((n:Int)+1)),(6,.int .i64 (i:Int)),(8,.ptr b8 0),(13,.bool (b1i (w.2.1,w.2.2.1) l j)),(14,.int .i64 (j:Int))],lk [(b8,[.str w.2.1,.int .i64 w.2.2.1])]⟩) (fun j=>j≤l.length) (fun j=>l.length - j) 0 (by omega) (Le_lit (by simp[LeL,lk,b3Z, *])) ?_
     intro j hj
     by_cases hjl:j<l.length
     ·have f3:a0f (decide ((j:Int)<l.length)=true):=by simp only[a0f,Bool.not_eq_true',Bool.not_eq_false',decide_eq_true_eq,decide_eq_false_iff_not];omega
      have hs:=b4a (w.2.1,w.2.2.1) hjl
      clear hA hsn hR hG
      generalize ha:b1i (w.2.1,w.2.2.1) l j=a0 at *
      cases a0 with
      | true=>
       rw[Bool.true_or]at hs
       simp (disch:=omega) only[↓Ed,Eu, ↓reduceIte,reduceCtorEq,Nat.reduceAdd,Nat.reduceEqDiff,Nat.reduceLT,Nat.reduceLeDiff,Int.reduceToNat,Int.reduceEq,Int.reduceLT,Int.reduceLE,w64,a0g,a0i,a1d,a1c]
       repeat' ((first|refine NewB_intro0 (fun b=>?_)|(refine NewB_intro (fun b hb=>?_);simp only[ln_cons2,ln_nil,and_true]at hb)|(with_reducible apply wA;focus exact OM_a)|((first|refine gW_sp ?_|refine condW_sp ?_|refine pickW_sp ?_);(try refine Sp_n ?_);(first|refine wT ?_|refine wF ?_|refine wL (fun h h'=>?_) (fun h h'=>?_)|refine wE (fun h h'=>?_) (fun h h'=>?_)|refine Sp_split (fun h=>?_) (fun h=>?_))<;>(try (exfalso;omega)))|refine TreeW_intro (by rfl) ?_|refine TreeW_all ?_|refine a0a ?_|refine Two_intro ?_ ?_|exact wZ|fail)<;>(try refine sxSam ?_)<;>(try exact True.intro))
       all_goals exact Round_lit (j+1) ⟨Le_lit (by simp[-List.getD_eq_getElem?_getD,LeL,lk,hs]),hjl,by omega⟩
      | false=>
       rw[Bool.false_or]at hs
       simp only[a7n]at hs
       simp (disch:=omega) only[↓Ed,Eu, ↓reduceIte,reduceCtorEq,Nat.reduceAdd,Nat.reduceEqDiff,Nat.reduceLT,Nat.reduceLeDiff,Int.reduceToNat,Int.reduceEq,Int.reduceLT,Int.reduceLE,w64,a0g,a0i,a1d,a1c]
       repeat' ((first|refine NewB_intro0 (fun b=>?_)|(refine NewB_intro (fun b hb=>?_);simp only[ln_cons2,ln_nil,and_true]at hb)|(with_reducible apply wA;focus exact OM_a)|((first|refine gW_sp ?_|refine condW_sp ?_|refine pickW_sp ?_);(try refine Sp_n ?_);(first|refine wT ?_|refine wF ?_|refine wL (fun h h'=>?_) (fun h h'=>?_)|refine wE (fun h h'=>?_) (fun h h'=>?_)|refine Sp_split (fun h=>?_) (fun h=>?_))<;>(try (exfalso;omega)))|refine TreeW_intro (by rfl) ?_|refine TreeW_all ?_|refine a0a ?_|refine Two_intro ?_ ?_|exact wZ|fail)<;>(try refine sxSam ?_)<;>(try exact True.intro))
       all_goals exact Round_lit (j+1) ⟨Le_lit (by simp[-List.getD_eq_getElem?_getD,LeL,lk,hs]),hjl,by omega⟩
     ·obtain rfl:j=l.length:=by omega
      have f3:a0f (decide ((l.length:Int)<l.length)=false):=by simp only[a0f,Bool.not_eq_true',Bool.not_eq_false',decide_eq_true_eq,decide_eq_false_iff_not];omega
      rw[hA]
      simp (disch:=omega) only[↓Ed,Eu, ↓reduceIte,reduceCtorEq,Nat.reduceAdd,Nat.reduceEqDiff,Nat.reduceLT,Nat.reduceLeDiff,Int.reduceToNat,Int.reduceEq,Int.reduceLT,Int.reduceLE,w64,a0g,a0i,a1d,a1c]
      repeat' ((first|refine NewB_intro0 (fun b=>?_)|(refine NewB_intro (fun b hb=>?_);simp only[ln_cons2,ln_nil,and_true]at hb)|(with_reducible apply wA;focus exact OM_a)|((first|refine gW_sp ?_|refine condW_sp ?_|refine pickW_sp ?_);(try refine Sp_n ?_);(first|refine wT ?_|refine wF ?_|refine wL (fun h h'=>?_) (fun h h'=>?_)|refine wE (fun h h'=>?_) (fun h h'=>?_)|refine Sp_split (fun h=>?_) (fun h=>?_))<;>(try (exfalso;omega)))|refine TreeW_intro (by rfl) ?_|refine TreeW_all ?_|refine a0a ?_|refine Two_intro ?_ ?_|exact wZ|fail)<;>(try refine sxSam ?_)<;>(try exact True.intro))
      all_goals exact Round_lit (i+1) ⟨Le_lit (by simp[LeL,lk, *]),hlt,by omega⟩
    | false=>
     rw[if_neg (by simp)]at hsn
     clear hM
     simp (disch:=omega) only[hgd, ↓Ed,Eu, ↓reduceIte,reduceCtorEq,Nat.reduceAdd,Nat.reduceEqDiff,Nat.reduceLT,Nat.reduceLeDiff,Int.reduceToNat,Int.reduceEq,Int.reduceLT,Int.reduceLE,w64,a0g,a0i,a1d,a1c]
     repeat' ((first|refine CallO_pure (hR) ?_|refine CallO_pure (hG) ?_|refine NewB_intro0 (fun b=>?_)|(refine NewB_intro (fun b hb=>?_);simp only[ln_cons2,ln_nil,and_true]at hb)|(with_reducible apply wA;focus exact OM_a)|((first|refine gW_sp ?_|refine condW_sp ?_|refine pickW_sp ?_);(try refine Sp_n ?_);(first|refine wT ?_|refine wF ?_|refine wL (fun h h'=>?_) (fun h h'=>?_)|refine wE (fun h h'=>?_) (fun h h'=>?_)|refine Sp_split (fun h=>?_) (fun h=>?_))<;>(try (exfalso;omega)))|refine TreeW_intro (by rfl) ?_|refine TreeW_all ?_|refine a0a ?_|refine Two_intro ?_ ?_|exact wZ|fail)<;>(try refine sxSam ?_)<;>(try exact True.intro))
     all_goals exact Round_lit (i+1) ⟨Le_lit (by simp[LeL,lk, *]),hlt,by omega⟩
   ·have f2:a0f (decide (w.1=7)=false):=by simp only[a0f,Bool.not_eq_true',Bool.not_eq_false',decide_eq_true_eq,decide_eq_false_iff_not];exact hk
    rw[he]at hR
    rw[decide_eq_false hk]at hsn
    simp only[Bool.and_false,Bool.false_and,Bool.false_eq_true,if_false]at hsn
    clear hM
    simp (disch:=omega) only[hgd, ↓Ed,Eu, ↓reduceIte,reduceCtorEq,Nat.reduceAdd,Nat.reduceEqDiff,Nat.reduceLT,Nat.reduceLeDiff,Int.reduceToNat,Int.reduceEq,Int.reduceLT,Int.reduceLE,w64,a0g,a0i,a1d,a1c]
    repeat' ((first|refine CallO_pure (hR) ?_|refine NewB_intro0 (fun b=>?_)|(refine NewB_intro (fun b hb=>?_);simp only[ln_cons2,ln_nil,and_true]at hb)|(with_reducible apply wA;focus exact OM_a)|((first|refine gW_sp ?_|refine condW_sp ?_|refine pickW_sp ?_);(try refine Sp_n ?_);(first|refine wT ?_|refine wF ?_|refine wL (fun h h'=>?_) (fun h h'=>?_)|refine wE (fun h h'=>?_) (fun h h'=>?_)|refine Sp_split (fun h=>?_) (fun h=>?_))<;>(try (exfalso;omega)))|refine TreeW_intro (by rfl) ?_|refine TreeW_all ?_|refine a0a ?_|refine Two_intro ?_ ?_|exact wZ|fail)<;>(try refine sxSam ?_)<;>(try exact True.intro))
    all_goals exact Round_lit (i+1) ⟨Le_lit (by simp[LeL,lk, *]),hlt,by omega⟩
  ·have f2:a0f (decide (w.2.2.2.2=0)=false):=by simp only[a0f,Bool.not_eq_true',Bool.not_eq_false',decide_eq_true_eq,decide_eq_false_iff_not];exact he
   rw[decide_eq_false he]at hsn
   simp only[Bool.false_and,Bool.false_eq_true,if_false]at hsn
   clear hM
   simp (disch:=omega) only[hgd, ↓Ed,Eu, ↓reduceIte,reduceCtorEq,Nat.reduceAdd,Nat.reduceEqDiff,Nat.reduceLT,Nat.reduceLeDiff,Int.reduceToNat,Int.reduceEq,Int.reduceLT,Int.reduceLE,w64,a0g,a0i,a1d,a1c]
   repeat' ((first|refine CallO_pure (hR) ?_|refine NewB_intro0 (fun b=>?_)|(refine NewB_intro (fun b hb=>?_);simp only[ln_cons2,ln_nil,and_true]at hb)|(with_reducible apply wA;focus exact OM_a)|((first|refine gW_sp ?_|refine condW_sp ?_|refine pickW_sp ?_);(try refine Sp_n ?_);(first|refine wT ?_|refine wF ?_|refine wL (fun h h'=>?_) (fun h h'=>?_)|refine wE (fun h h'=>?_) (fun h h'=>?_)|refine Sp_split (fun h=>?_) (fun h=>?_))<;>(try (exfalso;omega)))|refine TreeW_intro (by rfl) ?_|refine TreeW_all ?_|refine a0a ?_|refine Two_intro ?_ ?_|exact wZ|fail)<;>(try refine sxSam ?_)<;>(try exact True.intro))
   all_goals exact Round_lit (i+1) ⟨Le_lit (by simp[LeL,lk, *]),hlt,by omega⟩
 ·obtain rfl:i=L.length:=by omega
  have f1:a0f (decide ((L.length:Int)<L.length)=false):=by simp only[a0f,Bool.not_eq_true',Bool.not_eq_false',decide_eq_true_eq,decide_eq_false_iff_not];omega
  rw[List.take_length,hlen]
  clear hRd hGt hmk hlen hcnt
  simp (disch:=omega) only[↓Ed,Eu, ↓reduceIte,reduceCtorEq,Nat.reduceAdd,Nat.reduceEqDiff,Nat.reduceLT,Nat.reduceLeDiff,Int.reduceToNat,Int.reduceEq,Int.reduceLT,Int.reduceLE,w64,a0g,a0i,a1d,a1c]
  repeat' ((first|refine NewB_intro0 (fun b=>?_)|(refine NewB_intro (fun b hb=>?_);simp only[ln_cons2,ln_nil,and_true]at hb)|(with_reducible apply wA;focus exact OM_a)|((first|refine gW_sp ?_|refine condW_sp ?_|refine pickW_sp ?_);(try refine Sp_n ?_);(first|refine wT ?_|refine wF ?_|refine wL (fun h h'=>?_) (fun h h'=>?_)|refine wE (fun h h'=>?_) (fun h h'=>?_)|refine Sp_split (fun h=>?_) (fun h=>?_))<;>(try (exfalso;omega)))|refine TreeW_intro (by rfl) ?_|refine TreeW_all ?_|refine a0a ?_|refine Two_intro ?_ ?_|exact wZ|fail)<;>(try refine sxSam ?_)<;>(try exact True.intro))
  refine wpx_loop (fun i:Nat=>⟨lk [(0,.sl none 2 (enR l)),(5,.int .i64 (l.length:Int)),(15,.int .i64 (i:Int))],lk []⟩) (fun i=>1≤i∧(i=1∨i≤l.length)) (fun i=>l.length - i) 1 (by omega) (Le_lit (by simp[LeL,lk])) ?_
  intro i ⟨i1,i2⟩
  by_cases hil:i<l.length
  ·have f3:a0f (decide ((i:Int)<l.length)=true):=by simp only[a0f,Bool.not_eq_true',Bool.not_eq_false',decide_eq_true_eq,decide_eq_false_iff_not];omega
   have e1:((i:Int) - 1).toNat=i - 1:=by omega
   have f4:a0f (decide ((0:Int)≤(i:Int) - 1)=true):=by simp only[a0f,Bool.not_eq_true',Bool.not_eq_false',decide_eq_true_eq,decide_eq_false_iff_not];omega
   have hq:CP Tryz.prog 55 [.agg (enC (l.getD (i - 1) default)),.agg (enC (l.getD i default))] (.bool true):=by
    have h1:=hLs (i - 1) (by omega)
    have h2:=hr (i - 1) (by omega)
    rw[show i - 1+1=i by omega]at h1 h2
    unfold a1r at h2
    rw[h2]at h1
    exact h1
   clear hr hLs
   simp (disch:=omega) only[↓Ed,Eu, ↓reduceIte,reduceCtorEq,Nat.reduceAdd,Nat.reduceEqDiff,Nat.reduceLT,Nat.reduceLeDiff,Int.reduceToNat,Int.reduceEq,Int.reduceLT,Int.reduceLE,w64,a0g,a0i,a1d,a1c]
   repeat' ((first|refine CallW_intro (hq) ?_|refine CallO_pure (hq) ?_|refine NewB_intro0 (fun b=>?_)|(refine NewB_intro (fun b hb=>?_);simp only[ln_cons2,ln_nil,and_true]at hb)|(with_reducible apply wA;focus exact OM_a)|((first|refine gW_sp ?_|refine condW_sp ?_|refine pickW_sp ?_);(try refine Sp_n ?_);(first|refine wT ?_|refine wF ?_|refine wL (fun h h'=>?_) (fun h h'=>?_)|refine wE (fun h h'=>?_) (fun h h'=>?_)|refine Sp_split (fun h=>?_) (fun h=>?_))<;>(try (exfalso;omega)))|refine TreeW_intro (by rfl) ?_|refine TreeW_all ?_|refine a0a ?_|refine Two_intro ?_ ?_|exact wZ|fail)<;>(try refine sxSam ?_)<;>(try exact True.intro))
   all_goals exact Round_lit (i+1) ⟨Le_lit (by simp[LeL,lk]),by omega,by omega⟩
  ·have f3:a0f (decide ((i:Int)<l.length)=false):=by simp only[a0f,Bool.not_eq_true',Bool.not_eq_false',decide_eq_true_eq,decide_eq_false_iff_not];omega
   clear hr hLs
   simp (disch:=omega) only[↓Ed,Eu, ↓reduceIte,reduceCtorEq,Nat.reduceAdd,Nat.reduceEqDiff,Nat.reduceLT,Nat.reduceLeDiff,Int.reduceToNat,Int.reduceEq,Int.reduceLT,Int.reduceLE,w64,a0g,a0i,a1d,a1c]
   repeat' ((first|refine NewB_intro0 (fun b=>?_)|(refine NewB_intro (fun b hb=>?_);simp only[ln_cons2,ln_nil,and_true]at hb)|(with_reducible apply wA;focus exact OM_a)|((first|refine gW_sp ?_|refine condW_sp ?_|refine pickW_sp ?_);(try refine Sp_n ?_);(first|refine wT ?_|refine wF ?_|refine wL (fun h h'=>?_) (fun h h'=>?_)|refine wE (fun h h'=>?_) (fun h h'=>?_)|refine Sp_split (fun h=>?_) (fun h=>?_))<;>(try (exfalso;omega)))|refine TreeW_intro (by rfl) ?_|refine TreeW_all ?_|refine a0a ?_|refine Two_intro ?_ ?_|exact wZ|fail)<;>(try refine sxSam ?_)<;>(try exact True.intro))
end
section
set_option maxRecDepth 100000
def e0:Es:=⟨[116],3,true,true,7⟩
theorem b4l:e0.may=true:=by
 have:a5S [116]=true:=nameP_iff.2 ⟨by simp,by simp,fun j hj=>by
  have:j=0:=by simp at hj;omega
  subst this;simp[a8F]⟩
 simp[Es.may,a1E,e0,this]
theorem b4k:a3d e0=([1,1,1,116,3,7],0):=by
 have p1:pn 1=[1]:=by simp[pn,put7_lo]
 have p3:pn 3=[3]:=by simp[pn,put7_lo]
 have p7:pn 7=[7]:=by simp[pn,put7_lo]
 rw[a3d,b4l]
 simp[Es.enc,e0,a2I,p1,p3,p7]
theorem b3w(s:List UInt8):(s=s)=True:=by simp
theorem sxLea{A B:Prop}(h:B)(e:A=B:=by (simp (disch:=omega) only[*, ↓Ed,Eu, ↓reduceIte,reduceCtorEq,Nat.reduceAdd,Nat.reduceEqDiff,Nat.reduceLT,Nat.reduceLeDiff,Int.reduceToNat,Int.reduceEq,Int.reduceLT,Int.reduceLE,w64,List.length_map,List.length_append,b3w];first|done|rfl)):A:=e▸h
theorem a3n:CP Tryz.prog 5 [] (.bool true):=by
 have h:=a9y e0 (by simp[e0])
 rw[b4k]at h
 refine a4L _ _ (by simp) ?_
 simp only[a2J];refine sxLea ?_
 repeat' ((first|exact tt|refine CallO_pure (h) ?_|refine CallW_intro (h) ?_|refine na fun b=>?_|refine nb fun b hb=>?_|refine iq ?_|(refine jq ?_ ?_<;>intro h h')|refine Two_intro ?_ ?_|exact wZ|fail)<;>try refine sxLea ?_)
end
section
open Go.RowKit Go.Lib
set_option maxRecDepth 100000
instance:Inhabited Es:=⟨Es.zero⟩
structure ActC where
 k:Int
 p:List UInt8
 c:Int
 s:Es
 w:Int
 n:Int
 v:List UInt8
 deriving Inhabited
abbrev ActC.cs(a:ActC):List AV:=[.int .i64 a.k,.str a.p,.int .i64 a.c,.str a.s.p,.int .i64 a.s.c,.bool a.s.o,.bool a.s.cl,.int .i64 a.s.st,.int .i64 a.w,.int .i64 a.n,.str a.v]
def acs(l:List ActC):List (List AV):=l.map ActC.cs
theorem a0p(l:List ActC):(acs l).length=l.length:=by simp[acs]
theorem a0o(l:List ActC)(i:Nat)(h:i<l.length):(acs l).getD i []=(l.getD i default).cs:=by simp[acs,h]
section
variable {P:Program} {s:St}
theorem r1{f:Nat}{vs:List AV}{r:AV}{K:AV→Prop}{b:Nat}{x:List AV}(h:CT P f vs (lk [(b,x)]) (fun r' o'=>r'=r∧o'=lk [(b,x)]))(hK:K r)(g:s.o b=some x:=by first|((repeat (first|exact lk_hd _ _ _|(refine lk_tl ?_ ?_;(focus (first|assumption|(simp only[*,not_false_eq_true];done))))));done)|fail):b3H P f vs s K:=Cro_det h (lk_sub1 g) hK
end
def stB(b:Nat):StS→Prop
 | none=>True
 | some (g,_)=>¬ g=b∧¬ b=g
theorem a0m(b g cap:Nat):stB b (some (g,cap))=(¬ g=b∧¬ b=g):=rfl
noncomputable def a9c (L:List PrP) (a:ActC):List PrP:=
 if a.k=0 then (if (a1E a.p a.c&&a.s.may)=true then a3o L (ofP 7 a.p a.c 0) (a3d a.s).1 else L)
 else if a.k=1 then (if (a1E a.p a.c&&okN a.w a.n)=true then a3o L (ofP a.w a.p a.c 0) (pn a.n) else L)
 else if a.k=2 then a6T L (ofP 7 a.p a.c 0) a.v
 else if a.k=3 then a6T L (ofP a.w a.p a.c 0) a.v
 else L
theorem StN.step{L:List PrP}{i:Nat}(h:StN L i)(a:ActC):StN (a9c L a) (i+1):=by
 unfold a9c
 split
 ·rw[← put_law.2]
  unfold b3q
  split
  ·exact h.put _ _
  ·exact h.mono
 split
 ·rw[← setN_law.2]
  unfold b3u
  split
  ·exact h.put _ _
  ·exact h.mono
 split
 ·exact h.put _ _
 split
 ·exact h.put _ _
 ·exact h.mono
def lpB:ACode→Option ACode
 | .loop b=>some b
 | .seq a b=>match lpB a with
  | some x=>some x
  | none=>lpB b
 | .block _ b=>lpB b
 | .cond _ a b=>match lpB a with
  | some x=>some x
  | none=>lpB b
 | _=>none
def bEP:ACode:=(lpB a0E).getD .skip
end
end Go.Proofs.YthdcogkdacnheaaGreatDoor
