import Derived.Test.YthdcogkdacnheaaGreatDoorK21
namespace Go.Proofs.YthdcogkdacnheaaGreatDoor
set_option linter.all false
set_option maxHeartbeats 9000000
section
open Go.RowKit Go.Lib
set_option maxRecDepth 100000
theorem sxLeu{A B:Prop}(h:B)(e:A=B:=by (simp (disch:=omega) only[*, ↓Ed,Eu, ↓reduceIte,reduceCtorEq,Nat.reduceAdd,Nat.reduceEqDiff,Nat.reduceLT,Nat.reduceLeDiff,Int.reduceToNat,Int.reduceEq,Int.reduceLT,Int.reduceLE,w64,a0p,a0o,ActC.cs];first|done|rfl)):A:=e▸h
set_option maxHeartbeats 40000000 in
theorem ep_k0{Q:AExit→St→Prop}(l:List ActC)(p:List UInt8)(c which:Int)(h40:l.length≤40)(hp:p.length≤60)(b4 s:Nat)(hb1:¬ b4=s)(hb2:¬ s=b4)(k:Nat)(L:List PrP)(x:StS)(hN:StN L k)(hx:stOk s L x)(hgb:stB b4 x)(hkl:k<l.length)(ak:Int)(ap:List UInt8)(ac:Int)(ae:Es)(aw an:Int)(av:List UInt8)(hgd:l.getD k default=⟨ak,ap,ac,ae,aw,an,av⟩)(la:ap.length≤60)(ls:ae.p.length≤60)(lv:av.length≤200)(k0:ak=0):wpx Tryz.prog bEP (a5o (RoundQ (fun z:Nat × List PrP × StS=>⟨lk [(0,.sl none 11 (acs l)),(2,.int .i64 which),(4,.ptr b4 0),(7,.ptr s 0),(8,.sl (some 88) 2 (prR z.2.1)),(9,.int .i64 (z.1:Int))],lk ((b4,[.str p,.int .i64 c])::stO s z.2.1 z.2.2)⟩) (fun z=>z.1≤l.length∧StN z.2.1 z.1∧stOk s z.2.1 z.2.2∧stB b4 z.2.2) (fun z=>l.length - z.1) (k,L,x)) Q) ⟨lk [(0,.sl none 11 (acs l)),(2,.int .i64 which),(4,.ptr b4 0),(7,.ptr s 0),(8,.sl (some 88) 2 (prR L)),(9,.int .i64 (k:Int))],lk ((b4,[.str p,.int .i64 c])::stO s L x)⟩:=by
 unfold bEP
 conv=>arg 2;whnf
 have hF:=a3n
 have hlL:=hN.len
 have f1:a0f (decide ((k:Int)<l.length)=true):=by simp only[a0f,Bool.not_eq_true',Bool.not_eq_false',decide_eq_true_eq,decide_eq_false_iff_not];omega
 have hI:=hN.I (by omega)
 have hNs:=hN.step ⟨ak,ap,ac,ae,aw,an,av⟩
 unfold a9c at hNs
 simp only at hNs
 clear hN
 have hME:=a1u ap ac (by omega)
 subst k0
 rw[if_pos rfl]at hNs
 have hS:=b2B s L hI ap ac (by omega) ae (by omega) x hx
 have hPS:=a6d L (by omega) ap ac (by omega) ae (by omega)
 have hKS:=a1v ae
 have hMS:=a4Q ae (by omega)
 have hE:=(put_law (L:=L) (p:=ap) (c:=ac) (e:=ae)).1
 rw[put_law.2]at hS
 by_cases hm:(a1E ap ac&&ae.may)=true
 ·rw[if_pos hm]at hS hNs
  rw[hE.2 hm]at hS
  simp only[Bool.and_eq_true]at hm
  rw[hm.1]at hME
  rw[hm.2]at hMS
  clear hE hm
  generalize a3o L (ofP 7 ap ac 0) (a3d ae).1=L' at *
  obtain ⟨sp,sc,so,scl,sst⟩:=ae
  have hN':=hNs
  have hI':StI L':=hN'.I (by omega)
  have hGN:=fun h0=>a1g s L' hI' ap ac (by omega) none h0
  have hGS:=fun b c (h1:¬ b=s∧¬ s=b) (h2:L'.length≤c)=>a1g s L' hI' ap ac (by omega) (some (b,c)) ⟨h1,h2⟩
  have hLG:=a0D L' hI' ap ac (by omega)
  have hKG:=a1v (a2R L' ap ac).1
  clear hI' hI hNs
  simp only[a0d]at hGN
  simp only[a0b]at hGS
  generalize a2R L' ap ac=G at *
  obtain ⟨⟨g1,g2,g3,g4,g5⟩,g6⟩:=G
  simp only at hGN hGS hLG hKG
  rcases x with _ | ⟨g,cap⟩
  ·simp only[a0d]at hS ⊢
   simp (disch:=omega) only[hgd,a0d, ↓Ed,Eu, ↓reduceIte,reduceCtorEq,Nat.reduceAdd,Nat.reduceEqDiff,Nat.reduceLT,Nat.reduceLeDiff,Int.reduceToNat,Int.reduceEq,Int.reduceLT,Int.reduceLE,w64,a0p,a0o,ActC.cs]
   repeat' ((first|refine CallO_pure (hF) ?_|refine CallO_pure (hME) ?_|refine CallO_pure (hKS) ?_|refine CallW_intro (hKS) ?_|refine CallO_pure (hMS) ?_|refine CallO_pure (hPS) ?_|refine CallW_intro (hPS) ?_|((refine c_set0 hS (fun h0=>?_) (fun gb gc hn h2 hc=>?_))<;>(try simp only[ln_cons2,ln_nil,and_true]at hn))|((refine c_set1 hS (fun gc hc=>?_) (fun gb gc hn h2 hc=>?_))<;>(try simp only[ln_cons2,ln_nil,and_true]at hn))|refine c1 (hGN h0) ?_|refine c1 (hGN hx) ?_|refine c2 (hGS _ _ h2 hc) ?_|refine c2 (hGS _ _ hgs hc) ?_|refine c2 (hGS _ _ hgs hcap) ?_|refine CallO_pure (hKG) ?_|refine CallW_intro (hKG) ?_|refine CallO_pure (hLG) ?_|refine CallW_intro (hLG) ?_|refine NewB_intro0 (fun b=>?_)|(refine NewB_intro (fun b hb=>?_);simp only[ln_cons2,ln_nil,and_true]at hb)|(with_reducible apply wA;focus exact OM_a)|((first|refine gW_sp ?_|refine condW_sp ?_|refine pickW_sp ?_);(try refine Sp_n ?_);(first|refine wT ?_|refine wF ?_|refine wL (fun h h'=>?_) (fun h h'=>?_)|refine wE (fun h h'=>?_) (fun h h'=>?_)|refine Sp_split (fun h=>?_) (fun h=>?_))<;>(try (exfalso;omega)))|refine TreeW_intro (by rfl) ?_|refine TreeW_all ?_|refine a0a ?_|refine Two_intro ?_ ?_|exact wZ|fail)<;>(try refine sxLeu ?_)<;>(try exact True.intro))
   all_goals first
   | (exfalso;simp only[a0f,Bool.not_eq_true',Bool.not_eq_false',decide_eq_true_eq,decide_eq_false_iff_not]at *;first|contradiction|omega|fail)
   | exact Round_lit (k+1,L',none) ⟨Le_lit (by first|(simp[LeL,lk,a0d, *];done)|fail),⟨hkl,hN',by first|exact h0|exact hx,trivial⟩,by simp only;omega⟩
   | exact Round_lit (k+1,L',some (gb,gc)) ⟨Le_lit (by first|(simp[LeL,lk,a0b, *];done)|fail),⟨hkl,hN',⟨h2,hc⟩,by simp[a0m, *]⟩,by simp only;omega⟩
   | exact Round_lit (k+1,L',some (g,gc)) ⟨Le_lit (by first|(simp[LeL,lk,a0b, *];done)|fail),⟨hkl,hN',⟨hgs,hc⟩,hgb⟩,by simp only;omega⟩
   | exact Round_lit (k+1,L',some (g,cap)) ⟨Le_lit (by first|(simp[LeL,lk,a0b, *];done)|fail),⟨hkl,hN',⟨hgs,hcap⟩,hgb⟩,by simp only;omega⟩
  ·have hgs:=hx.1
   have hcap:=hx.2
   simp only[a0m]at hgb
   simp only[a0b]at hS ⊢
   simp (disch:=omega) only[hgd,a0b, ↓Ed,Eu, ↓reduceIte,reduceCtorEq,Nat.reduceAdd,Nat.reduceEqDiff,Nat.reduceLT,Nat.reduceLeDiff,Int.reduceToNat,Int.reduceEq,Int.reduceLT,Int.reduceLE,w64,a0p,a0o,ActC.cs]
   repeat' ((first|refine CallO_pure (hF) ?_|refine CallO_pure (hME) ?_|refine CallO_pure (hKS) ?_|refine CallW_intro (hKS) ?_|refine CallO_pure (hMS) ?_|refine CallO_pure (hPS) ?_|refine CallW_intro (hPS) ?_|((refine c_set0 hS (fun h0=>?_) (fun gb gc hn h2 hc=>?_))<;>(try simp only[ln_cons2,ln_nil,and_true]at hn))|((refine c_set1 hS (fun gc hc=>?_) (fun gb gc hn h2 hc=>?_))<;>(try simp only[ln_cons2,ln_nil,and_true]at hn))|refine c1 (hGN h0) ?_|refine c1 (hGN hx) ?_|refine c2 (hGS _ _ h2 hc) ?_|refine c2 (hGS _ _ hgs hc) ?_|refine c2 (hGS _ _ hgs hcap) ?_|refine CallO_pure (hKG) ?_|refine CallW_intro (hKG) ?_|refine CallO_pure (hLG) ?_|refine CallW_intro (hLG) ?_|refine NewB_intro0 (fun b=>?_)|(refine NewB_intro (fun b hb=>?_);simp only[ln_cons2,ln_nil,and_true]at hb)|(with_reducible apply wA;focus exact OM_a)|((first|refine gW_sp ?_|refine condW_sp ?_|refine pickW_sp ?_);(try refine Sp_n ?_);(first|refine wT ?_|refine wF ?_|refine wL (fun h h'=>?_) (fun h h'=>?_)|refine wE (fun h h'=>?_) (fun h h'=>?_)|refine Sp_split (fun h=>?_) (fun h=>?_))<;>(try (exfalso;omega)))|refine TreeW_intro (by rfl) ?_|refine TreeW_all ?_|refine a0a ?_|refine Two_intro ?_ ?_|exact wZ|fail)<;>(try refine sxLeu ?_)<;>(try exact True.intro))
   all_goals first
   | (exfalso;simp only[a0f,Bool.not_eq_true',Bool.not_eq_false',decide_eq_true_eq,decide_eq_false_iff_not]at *;first|contradiction|omega|fail)
   | exact Round_lit (k+1,L',none) ⟨Le_lit (by first|(simp[LeL,lk,a0d, *];done)|fail),⟨hkl,hN',by first|exact h0|exact hx,trivial⟩,by simp only;omega⟩
   | exact Round_lit (k+1,L',some (gb,gc)) ⟨Le_lit (by first|(simp[LeL,lk,a0b, *];done)|fail),⟨hkl,hN',⟨h2,hc⟩,by simp[a0m, *]⟩,by simp only;omega⟩
   | exact Round_lit (k+1,L',some (g,gc)) ⟨Le_lit (by first|(simp[LeL,lk,a0b, *];done)|fail),⟨hkl,hN',⟨hgs,hc⟩,hgb⟩,by simp only;omega⟩
   | exact Round_lit (k+1,L',some (g,cap)) ⟨Le_lit (by first|(simp[LeL,lk,a0b, *];done)|fail),⟨hkl,hN',⟨hgs,hcap⟩,hgb⟩,by simp only;omega⟩
 ·rw[if_neg hm]at hS hNs
  have f2:a0f (decide (b3r ap ac ae=0)=false):=by simp only[a0f,Bool.not_eq_true',Bool.not_eq_false',decide_eq_true_eq,decide_eq_false_iff_not];exact fun e=>hm (hE.1 e)
  clear hE
  generalize b3r ap ac ae=E at *
  obtain ⟨L',hL'⟩:∃ L',L'=L:=⟨_,rfl⟩
  rw[← hL']at hNs
  subst hL'
  generalize a1E ap ac=a1 at *
  generalize ae.may=a2 at *
  obtain ⟨sp,sc,so,scl,sst⟩:=ae
  have hN':=hNs
  have hI':StI L':=hN'.I (by omega)
  have hGN:=fun h0=>a1g s L' hI' ap ac (by omega) none h0
  have hGS:=fun b c (h1:¬ b=s∧¬ s=b) (h2:L'.length≤c)=>a1g s L' hI' ap ac (by omega) (some (b,c)) ⟨h1,h2⟩
  have hLG:=a0D L' hI' ap ac (by omega)
  have hKG:=a1v (a2R L' ap ac).1
  clear hI' hI hNs
  simp only[a0d]at hGN
  simp only[a0b]at hGS
  generalize a2R L' ap ac=G at *
  obtain ⟨⟨g1,g2,g3,g4,g5⟩,g6⟩:=G
  simp only at hGN hGS hLG hKG
  cases a1<;>cases a2
  all_goals first|(exact absurd rfl hm)|clear hm
  all_goals
   rcases x with _ | ⟨g,cap⟩
   ·simp only[a0d]at hS ⊢
    simp (disch:=omega) only[hgd,a0d, ↓Ed,Eu, ↓reduceIte,reduceCtorEq,Nat.reduceAdd,Nat.reduceEqDiff,Nat.reduceLT,Nat.reduceLeDiff,Int.reduceToNat,Int.reduceEq,Int.reduceLT,Int.reduceLE,w64,a0p,a0o,ActC.cs]
    repeat' ((first|refine CallO_pure (hF) ?_|refine CallO_pure (hME) ?_|refine CallO_pure (hKS) ?_|refine CallW_intro (hKS) ?_|refine CallO_pure (hMS) ?_|((refine c_set0 hS (fun h0=>?_) (fun gb gc hn h2 hc=>?_))<;>(try simp only[ln_cons2,ln_nil,and_true]at hn))|((refine c_set1 hS (fun gc hc=>?_) (fun gb gc hn h2 hc=>?_))<;>(try simp only[ln_cons2,ln_nil,and_true]at hn))|refine c1 (hGN h0) ?_|refine c1 (hGN hx) ?_|refine c2 (hGS _ _ h2 hc) ?_|refine c2 (hGS _ _ hgs hc) ?_|refine c2 (hGS _ _ hgs hcap) ?_|refine CallO_pure (hKG) ?_|refine CallW_intro (hKG) ?_|refine CallO_pure (hLG) ?_|refine CallW_intro (hLG) ?_|refine NewB_intro0 (fun b=>?_)|(refine NewB_intro (fun b hb=>?_);simp only[ln_cons2,ln_nil,and_true]at hb)|(with_reducible apply wA;focus exact OM_a)|((first|refine gW_sp ?_|refine condW_sp ?_|refine pickW_sp ?_);(try refine Sp_n ?_);(first|refine wT ?_|refine wF ?_|refine wL (fun h h'=>?_) (fun h h'=>?_)|refine wE (fun h h'=>?_) (fun h h'=>?_)|refine Sp_split (fun h=>?_) (fun h=>?_))<;>(try (exfalso;omega)))|refine TreeW_intro (by rfl) ?_|refine TreeW_all ?_|refine a0a ?_|refine Two_intro ?_ ?_|exact wZ|fail)<;>(try refine sxLeu ?_)<;>(try exact True.intro))
    all_goals first
    | (exfalso;simp only[a0f,Bool.not_eq_true',Bool.not_eq_false',decide_eq_true_eq,decide_eq_false_iff_not]at *;first|contradiction|omega|fail)
    | exact Round_lit (k+1,L',none) ⟨Le_lit (by first|(simp[LeL,lk,a0d, *];done)|fail),⟨hkl,hN',by first|exact h0|exact hx,trivial⟩,by simp only;omega⟩
    | exact Round_lit (k+1,L',some (gb,gc)) ⟨Le_lit (by first|(simp[LeL,lk,a0b, *];done)|fail),⟨hkl,hN',⟨h2,hc⟩,by simp[a0m, *]⟩,by simp only;omega⟩
    | exact Round_lit (k+1,L',some (g,gc)) ⟨Le_lit (by first|(simp[LeL,lk,a0b, *];done)|fail),⟨hkl,hN',⟨hgs,hc⟩,hgb⟩,by simp only;omega⟩
    | exact Round_lit (k+1,L',some (g,cap)) ⟨Le_lit (by first|(simp[LeL,lk,a0b, *];done)|fail),⟨hkl,hN',⟨hgs,hcap⟩,hgb⟩,by simp only;omega⟩
   ·have hgs:=hx.1
    have hcap:=hx.2
    simp only[a0m]at hgb
    simp only[a0b]at hS ⊢
    simp (disch:=omega) only[hgd,a0b, ↓Ed,Eu, ↓reduceIte,reduceCtorEq,Nat.reduceAdd,Nat.reduceEqDiff,Nat.reduceLT,Nat.reduceLeDiff,Int.reduceToNat,Int.reduceEq,Int.reduceLT,Int.reduceLE,w64,a0p,a0o,ActC.cs]
    repeat' ((first|refine CallO_pure (hF) ?_|refine CallO_pure (hME) ?_|refine CallO_pure (hKS) ?_|refine CallW_intro (hKS) ?_|refine CallO_pure (hMS) ?_|((refine c_set0 hS (fun h0=>?_) (fun gb gc hn h2 hc=>?_))<;>(try simp only[ln_cons2,ln_nil,and_true]at hn))|((refine c_set1 hS (fun gc hc=>?_) (fun gb gc hn h2 hc=>?_))<;>(try simp only[ln_cons2,ln_nil,and_true]at hn))|refine c1 (hGN h0) ?_|refine c1 (hGN hx) ?_|refine c2 (hGS _ _ h2 hc) ?_|refine c2 (hGS _ _ hgs hc) ?_|refine c2 (hGS _ _ hgs hcap) ?_|refine CallO_pure (hKG) ?_|refine CallW_intro (hKG) ?_|refine CallO_pure (hLG) ?_|refine CallW_intro (hLG) ?_|refine NewB_intro0 (fun b=>?_)|(refine NewB_intro (fun b hb=>?_);simp only[ln_cons2,ln_nil,and_true]at hb)|(with_reducible apply wA;focus exact OM_a)|((first|refine gW_sp ?_|refine condW_sp ?_|refine pickW_sp ?_);(try refine Sp_n ?_);(first|refine wT ?_|refine wF ?_|refine wL (fun h h'=>?_) (fun h h'=>?_)|refine wE (fun h h'=>?_) (fun h h'=>?_)|refine Sp_split (fun h=>?_) (fun h=>?_))<;>(try (exfalso;omega)))|refine TreeW_intro (by rfl) ?_|refine TreeW_all ?_|refine a0a ?_|refine Two_intro ?_ ?_|exact wZ|fail)<;>(try refine sxLeu ?_)<;>(try exact True.intro))
    all_goals first
    | (exfalso;simp only[a0f,Bool.not_eq_true',Bool.not_eq_false',decide_eq_true_eq,decide_eq_false_iff_not]at *;first|contradiction|omega|fail)
    | exact Round_lit (k+1,L',none) ⟨Le_lit (by first|(simp[LeL,lk,a0d, *];done)|fail),⟨hkl,hN',by first|exact h0|exact hx,trivial⟩,by simp only;omega⟩
    | exact Round_lit (k+1,L',some (gb,gc)) ⟨Le_lit (by first|(simp[LeL,lk,a0b, *];done)|fail),⟨hkl,hN',⟨h2,hc⟩,by simp[a0m, *]⟩,by simp only;omega⟩
    | exact Round_lit (k+1,L',some (g,gc)) ⟨Le_lit (by first|(simp[LeL,lk,a0b, *];done)|fail),⟨hkl,hN',⟨hgs,hc⟩,hgb⟩,by simp only;omega⟩
    | exact Round_lit (k+1,L',some (g,cap)) ⟨Le_lit (by first|(simp[LeL,lk,a0b, *];done)|fail),⟨hkl,hN',⟨hgs,hcap⟩,hgb⟩,by simp only;omega⟩
end
end Go.Proofs.YthdcogkdacnheaaGreatDoor
