import Derived.Test.YthdcogkdacnheaaGreatDoorK21
namespace Go.Proofs.YthdcogkdacnheaaGreatDoor
set_option linter.all false
set_option maxHeartbeats 9000000
section
open Go.RowKit Go.Lib
set_option maxRecDepth 100000
theorem sxLew{A B:Prop}(h:B)(e:A=B:=by (simp (disch:=omega) only[*, ↓Ed,Eu, ↓reduceIte,reduceCtorEq,Nat.reduceAdd,Nat.reduceEqDiff,Nat.reduceLT,Nat.reduceLeDiff,Int.reduceToNat,Int.reduceEq,Int.reduceLT,Int.reduceLE,w64,a0p,a0o,ActC.cs];first|done|rfl)):A:=e▸h
set_option maxHeartbeats 40000000 in
theorem ep_k2{Q:AExit→St→Prop}(l:List ActC)(p:List UInt8)(c which:Int)(h40:l.length≤40)(hp:p.length≤60)(b4 s:Nat)(hb1:¬ b4=s)(hb2:¬ s=b4)(k:Nat)(L:List PrP)(x:StS)(hN:StN L k)(hx:stOk s L x)(hgb:stB b4 x)(hkl:k<l.length)(ak:Int)(ap:List UInt8)(ac:Int)(ae:Es)(aw an:Int)(av:List UInt8)(hgd:l.getD k default=⟨ak,ap,ac,ae,aw,an,av⟩)(la:ap.length≤60)(ls:ae.p.length≤60)(lv:av.length≤200)(k2:ak=2):wpx Tryz.prog bEP (a5o (RoundQ (fun z:Nat × List PrP × StS=>⟨lk [(0,.sl none 11 (acs l)),(2,.int .i64 which),(4,.ptr b4 0),(7,.ptr s 0),(8,.sl (some 88) 2 (prR z.2.1)),(9,.int .i64 (z.1:Int))],lk ((b4,[.str p,.int .i64 c])::stO s z.2.1 z.2.2)⟩) (fun z=>z.1≤l.length∧StN z.2.1 z.1∧stOk s z.2.1 z.2.2∧stB b4 z.2.2) (fun z=>l.length - z.1) (k,L,x)) Q) ⟨lk [(0,.sl none 11 (acs l)),(2,.int .i64 which),(4,.ptr b4 0),(7,.ptr s 0),(8,.sl (some 88) 2 (prR L)),(9,.int .i64 (k:Int))],lk ((b4,[.str p,.int .i64 c])::stO s L x)⟩:=by
 unfold bEP
 conv=>arg 2;whnf
 have hF:=a3n
 have hlL:=hN.len
 have f1:a0f (decide ((k:Int)<l.length)=true):=by simp only[a0f,Bool.not_eq_true',Bool.not_eq_false',decide_eq_true_eq,decide_eq_false_iff_not];omega
 have hI:=hN.I (by omega)
 have hNs:=hN.step ⟨ak,ap,ac,ae,aw,an,av⟩
 unfold a9c at hNs
 simp only at hNs
 clear hN
 have hME:=a1u ap ac (by omega)
 subst k2
 rw[if_neg (by decide),if_neg (by decide),if_pos rfl]at hNs
 have hO:=a7H 7 ap ac 0 (by omega)
 have hkl':=a5T 7 ap ac 0
 have hS:=a9L s L hI.rise (by omega) (ofP 7 ap ac 0) av (by omega) (by omega) x hx
 have hMP:=a8u (ofP 7 ap ac 0) av (by omega) (by omega)
 have hPS:=a9A L (by omega) (ofP 7 ap ac 0) av
 unfold a6T b0U at hS
 unfold a6T at hNs
 cases hm:a1T (ofP 7 ap ac 0) av with
 | true=>
  rw[if_pos hm,if_pos hm]at hS
  rw[if_pos hm]at hNs
  rw[hm]at hMP
  clear hm
  generalize a3o L (ofP 7 ap ac 0) av=L' at *
  obtain ⟨sp,sc,so,scl,sst⟩:=ae
  have hN':=hNs
  have hI':StI L':=hN'.I (by omega)
  have hGN:=fun h0=>a1g s L' hI' ap ac (by omega) none h0
  have hGS:=fun b c (h1:¬ b=s∧¬ s=b) (h2:L'.length≤c)=>a1g s L' hI' ap ac (by omega) (some (b,c)) ⟨h1,h2⟩
  have hLG:=a0D L' hI' ap ac (by omega)
  have hKG:=a1v (a2R L' ap ac).1
  clear hI' hI hNs
  simp only[a0d]at hGN
  simp only[a0b]at hGS
  generalize a2R L' ap ac=G at *
  obtain ⟨⟨g1,g2,g3,g4,g5⟩,g6⟩:=G
  simp only at hGN hGS hLG hKG
  rcases x with _ | ⟨g,cap⟩
  ·simp only[a0d]at hS ⊢
   simp (disch:=omega) only[hgd,a0d, ↓Ed,Eu, ↓reduceIte,reduceCtorEq,Nat.reduceAdd,Nat.reduceEqDiff,Nat.reduceLT,Nat.reduceLeDiff,Int.reduceToNat,Int.reduceEq,Int.reduceLT,Int.reduceLE,w64,a0p,a0o,ActC.cs]
   repeat' ((first|refine CallO_pure (hF) ?_|refine CallO_pure (hME) ?_|refine CallO_pure (hO) ?_|refine CallO_pure (hMP) ?_|refine CallO_pure (hPS) ?_|refine CallW_intro (hPS) ?_|((refine c_set0 hS (fun h0=>?_) (fun gb gc hn h2 hc=>?_))<;>(try simp only[ln_cons2,ln_nil,and_true]at hn))|((refine c_set1 hS (fun gc hc=>?_) (fun gb gc hn h2 hc=>?_))<;>(try simp only[ln_cons2,ln_nil,and_true]at hn))|refine c1 (hGN h0) ?_|refine c1 (hGN hx) ?_|refine c2 (hGS _ _ h2 hc) ?_|refine c2 (hGS _ _ hgs hc) ?_|refine c2 (hGS _ _ hgs hcap) ?_|refine CallO_pure (hKG) ?_|refine CallW_intro (hKG) ?_|refine CallO_pure (hLG) ?_|refine CallW_intro (hLG) ?_|refine NewB_intro0 (fun b=>?_)|(refine NewB_intro (fun b hb=>?_);simp only[ln_cons2,ln_nil,and_true]at hb)|(with_reducible apply wA;focus exact OM_a)|((first|refine gW_sp ?_|refine condW_sp ?_|refine pickW_sp ?_);(try refine Sp_n ?_);(first|refine wT ?_|refine wF ?_|refine wL (fun h h'=>?_) (fun h h'=>?_)|refine wE (fun h h'=>?_) (fun h h'=>?_)|refine Sp_split (fun h=>?_) (fun h=>?_))<;>(try (exfalso;omega)))|refine TreeW_intro (by rfl) ?_|refine TreeW_all ?_|refine a0a ?_|refine Two_intro ?_ ?_|exact wZ|fail)<;>(try refine sxLew ?_)<;>(try exact True.intro))
   all_goals first
   | (exfalso;simp only[a0f,Bool.not_eq_true',Bool.not_eq_false',decide_eq_true_eq,decide_eq_false_iff_not]at *;first|contradiction|omega|fail)
   | exact Round_lit (k+1,L',none) ⟨Le_lit (by first|(simp[LeL,lk,a0d, *];done)|fail),⟨hkl,hN',by first|exact h0|exact hx,trivial⟩,by simp only;omega⟩
   | exact Round_lit (k+1,L',some (gb,gc)) ⟨Le_lit (by first|(simp[LeL,lk,a0b, *];done)|fail),⟨hkl,hN',⟨h2,hc⟩,by simp[a0m, *]⟩,by simp only;omega⟩
   | exact Round_lit (k+1,L',some (g,gc)) ⟨Le_lit (by first|(simp[LeL,lk,a0b, *];done)|fail),⟨hkl,hN',⟨hgs,hc⟩,hgb⟩,by simp only;omega⟩
   | exact Round_lit (k+1,L',some (g,cap)) ⟨Le_lit (by first|(simp[LeL,lk,a0b, *];done)|fail),⟨hkl,hN',⟨hgs,hcap⟩,hgb⟩,by simp only;omega⟩
  ·have hgs:=hx.1
   have hcap:=hx.2
   simp only[a0m]at hgb
   simp only[a0b]at hS ⊢
   simp (disch:=omega) only[hgd,a0b, ↓Ed,Eu, ↓reduceIte,reduceCtorEq,Nat.reduceAdd,Nat.reduceEqDiff,Nat.reduceLT,Nat.reduceLeDiff,Int.reduceToNat,Int.reduceEq,Int.reduceLT,Int.reduceLE,w64,a0p,a0o,ActC.cs]
   repeat' ((first|refine CallO_pure (hF) ?_|refine CallO_pure (hME) ?_|refine CallO_pure (hO) ?_|refine CallO_pure (hMP) ?_|refine CallO_pure (hPS) ?_|refine CallW_intro (hPS) ?_|((refine c_set0 hS (fun h0=>?_) (fun gb gc hn h2 hc=>?_))<;>(try simp only[ln_cons2,ln_nil,and_true]at hn))|((refine c_set1 hS (fun gc hc=>?_) (fun gb gc hn h2 hc=>?_))<;>(try simp only[ln_cons2,ln_nil,and_true]at hn))|refine c1 (hGN h0) ?_|refine c1 (hGN hx) ?_|refine c2 (hGS _ _ h2 hc) ?_|refine c2 (hGS _ _ hgs hc) ?_|refine c2 (hGS _ _ hgs hcap) ?_|refine CallO_pure (hKG) ?_|refine CallW_intro (hKG) ?_|refine CallO_pure (hLG) ?_|refine CallW_intro (hLG) ?_|refine NewB_intro0 (fun b=>?_)|(refine NewB_intro (fun b hb=>?_);simp only[ln_cons2,ln_nil,and_true]at hb)|(with_reducible apply wA;focus exact OM_a)|((first|refine gW_sp ?_|refine condW_sp ?_|refine pickW_sp ?_);(try refine Sp_n ?_);(first|refine wT ?_|refine wF ?_|refine wL (fun h h'=>?_) (fun h h'=>?_)|refine wE (fun h h'=>?_) (fun h h'=>?_)|refine Sp_split (fun h=>?_) (fun h=>?_))<;>(try (exfalso;omega)))|refine TreeW_intro (by rfl) ?_|refine TreeW_all ?_|refine a0a ?_|refine Two_intro ?_ ?_|exact wZ|fail)<;>(try refine sxLew ?_)<;>(try exact True.intro))
   all_goals first
   | (exfalso;simp only[a0f,Bool.not_eq_true',Bool.not_eq_false',decide_eq_true_eq,decide_eq_false_iff_not]at *;first|contradiction|omega|fail)
   | exact Round_lit (k+1,L',none) ⟨Le_lit (by first|(simp[LeL,lk,a0d, *];done)|fail),⟨hkl,hN',by first|exact h0|exact hx,trivial⟩,by simp only;omega⟩
   | exact Round_lit (k+1,L',some (gb,gc)) ⟨Le_lit (by first|(simp[LeL,lk,a0b, *];done)|fail),⟨hkl,hN',⟨h2,hc⟩,by simp[a0m, *]⟩,by simp only;omega⟩
   | exact Round_lit (k+1,L',some (g,gc)) ⟨Le_lit (by first|(simp[LeL,lk,a0b, *];done)|fail),⟨hkl,hN',⟨hgs,hc⟩,hgb⟩,by simp only;omega⟩
   | exact Round_lit (k+1,L',some (g,cap)) ⟨Le_lit (by first|(simp[LeL,lk,a0b, *];done)|fail),⟨hkl,hN',⟨hgs,hcap⟩,hgb⟩,by simp only;omega⟩
 | false=>
  rw[if_neg (by simp[hm]),if_neg (by simp[hm])]at hS
  rw[if_neg (by simp[hm])]at hNs
  rw[hm]at hMP
  clear hm
  obtain ⟨L',hL'⟩:∃ L',L'=L:=⟨_,rfl⟩
  rw[← hL']at hNs
  subst hL'
  obtain ⟨sp,sc,so,scl,sst⟩:=ae
  have hN':=hNs
  have hI':StI L':=hN'.I (by omega)
  have hGN:=fun h0=>a1g s L' hI' ap ac (by omega) none h0
  have hGS:=fun b c (h1:¬ b=s∧¬ s=b) (h2:L'.length≤c)=>a1g s L' hI' ap ac (by omega) (some (b,c)) ⟨h1,h2⟩
  have hLG:=a0D L' hI' ap ac (by omega)
  have hKG:=a1v (a2R L' ap ac).1
  clear hI' hI hNs
  simp only[a0d]at hGN
  simp only[a0b]at hGS
  generalize a2R L' ap ac=G at *
  obtain ⟨⟨g1,g2,g3,g4,g5⟩,g6⟩:=G
  simp only at hGN hGS hLG hKG
  rcases x with _ | ⟨g,cap⟩
  ·simp only[a0d]at hS ⊢
   simp (disch:=omega) only[hgd,a0d, ↓Ed,Eu, ↓reduceIte,reduceCtorEq,Nat.reduceAdd,Nat.reduceEqDiff,Nat.reduceLT,Nat.reduceLeDiff,Int.reduceToNat,Int.reduceEq,Int.reduceLT,Int.reduceLE,w64,a0p,a0o,ActC.cs]
   repeat' ((first|refine CallO_pure (hF) ?_|refine CallO_pure (hME) ?_|refine CallO_pure (hO) ?_|refine CallO_pure (hMP) ?_|((refine c_set0 hS (fun h0=>?_) (fun gb gc hn h2 hc=>?_))<;>(try simp only[ln_cons2,ln_nil,and_true]at hn))|((refine c_set1 hS (fun gc hc=>?_) (fun gb gc hn h2 hc=>?_))<;>(try simp only[ln_cons2,ln_nil,and_true]at hn))|refine c1 (hGN h0) ?_|refine c1 (hGN hx) ?_|refine c2 (hGS _ _ h2 hc) ?_|refine c2 (hGS _ _ hgs hc) ?_|refine c2 (hGS _ _ hgs hcap) ?_|refine CallO_pure (hKG) ?_|refine CallW_intro (hKG) ?_|refine CallO_pure (hLG) ?_|refine CallW_intro (hLG) ?_|refine NewB_intro0 (fun b=>?_)|(refine NewB_intro (fun b hb=>?_);simp only[ln_cons2,ln_nil,and_true]at hb)|(with_reducible apply wA;focus exact OM_a)|((first|refine gW_sp ?_|refine condW_sp ?_|refine pickW_sp ?_);(try refine Sp_n ?_);(first|refine wT ?_|refine wF ?_|refine wL (fun h h'=>?_) (fun h h'=>?_)|refine wE (fun h h'=>?_) (fun h h'=>?_)|refine Sp_split (fun h=>?_) (fun h=>?_))<;>(try (exfalso;omega)))|refine TreeW_intro (by rfl) ?_|refine TreeW_all ?_|refine a0a ?_|refine Two_intro ?_ ?_|exact wZ|fail)<;>(try refine sxLew ?_)<;>(try exact True.intro))
   all_goals first
   | (exfalso;simp only[a0f,Bool.not_eq_true',Bool.not_eq_false',decide_eq_true_eq,decide_eq_false_iff_not]at *;first|contradiction|omega|fail)
   | exact Round_lit (k+1,L',none) ⟨Le_lit (by first|(simp[LeL,lk,a0d, *];done)|fail),⟨hkl,hN',by first|exact h0|exact hx,trivial⟩,by simp only;omega⟩
   | exact Round_lit (k+1,L',some (gb,gc)) ⟨Le_lit (by first|(simp[LeL,lk,a0b, *];done)|fail),⟨hkl,hN',⟨h2,hc⟩,by simp[a0m, *]⟩,by simp only;omega⟩
   | exact Round_lit (k+1,L',some (g,gc)) ⟨Le_lit (by first|(simp[LeL,lk,a0b, *];done)|fail),⟨hkl,hN',⟨hgs,hc⟩,hgb⟩,by simp only;omega⟩
   | exact Round_lit (k+1,L',some (g,cap)) ⟨Le_lit (by first|(simp[LeL,lk,a0b, *];done)|fail),⟨hkl,hN',⟨hgs,hcap⟩,hgb⟩,by simp only;omega⟩
  ·have hgs:=hx.1
   have hcap:=hx.2
   simp only[a0m]at hgb
   simp only[a0b]at hS ⊢
   simp (disch:=omega) only[hgd,a0b, ↓Ed,Eu, ↓reduceIte,reduceCtorEq,Nat.reduceAdd,Nat.reduceEqDiff,Nat.reduceLT,Nat.reduceLeDiff,Int.reduceToNat,Int.reduceEq,Int.reduceLT,Int.reduceLE,w64,a0p,a0o,ActC.cs]
   repeat' ((first|refine CallO_pure (hF) ?_|refine CallO_pure (hME) ?_|refine CallO_pure (hO) ?_|refine CallO_pure (hMP) ?_|((refine c_set0 hS (fun h0=>?_) (fun gb gc hn h2 hc=>?_))<;>(try simp only[ln_cons2,ln_nil,and_true]at hn))|((refine c_set1 hS (fun gc hc=>?_) (fun gb gc hn h2 hc=>?_))<;>(try simp only[ln_cons2,ln_nil,and_true]at hn))|refine c1 (hGN h0) ?_|refine c1 (hGN hx) ?_|refine c2 (hGS _ _ h2 hc) ?_|refine c2 (hGS _ _ hgs hc) ?_|refine c2 (hGS _ _ hgs hcap) ?_|refine CallO_pure (hKG) ?_|refine CallW_intro (hKG) ?_|refine CallO_pure (hLG) ?_|refine CallW_intro (hLG) ?_|refine NewB_intro0 (fun b=>?_)|(refine NewB_intro (fun b hb=>?_);simp only[ln_cons2,ln_nil,and_true]at hb)|(with_reducible apply wA;focus exact OM_a)|((first|refine gW_sp ?_|refine condW_sp ?_|refine pickW_sp ?_);(try refine Sp_n ?_);(first|refine wT ?_|refine wF ?_|refine wL (fun h h'=>?_) (fun h h'=>?_)|refine wE (fun h h'=>?_) (fun h h'=>?_)|refine Sp_split (fun h=>?_) (fun h=>?_))<;>(try (exfalso;omega)))|refine TreeW_intro (by rfl) ?_|refine TreeW_all ?_|refine a0a ?_|refine Two_intro ?_ ?_|exact wZ|fail)<;>(try refine sxLew ?_)<;>(try exact True.intro))
   all_goals first
   | (exfalso;simp only[a0f,Bool.not_eq_true',Bool.not_eq_false',decide_eq_true_eq,decide_eq_false_iff_not]at *;first|contradiction|omega|fail)
   | exact Round_lit (k+1,L',none) ⟨Le_lit (by first|(simp[LeL,lk,a0d, *];done)|fail),⟨hkl,hN',by first|exact h0|exact hx,trivial⟩,by simp only;omega⟩
   | exact Round_lit (k+1,L',some (gb,gc)) ⟨Le_lit (by first|(simp[LeL,lk,a0b, *];done)|fail),⟨hkl,hN',⟨h2,hc⟩,by simp[a0m, *]⟩,by simp only;omega⟩
   | exact Round_lit (k+1,L',some (g,gc)) ⟨Le_lit (by first|(simp[LeL,lk,a0b, *];done)|fail),⟨hkl,hN',⟨hgs,hc⟩,hgb⟩,by simp only;omega⟩
   | exact Round_lit (k+1,L',some (g,cap)) ⟨Le_lit (by first|(simp[LeL,lk,a0b, *];done)|fail),⟨hkl,hN',⟨hgs,hcap⟩,hgb⟩,by simp only;omega⟩
set_option maxHeartbeats 40000000 in
theorem ep_k3{Q:AExit→St→Prop}(l:List ActC)(p:List UInt8)(c which:Int)(h40:l.length≤40)(hp:p.length≤60)(b4 s:Nat)(hb1:¬ b4=s)(hb2:¬ s=b4)(k:Nat)(L:List PrP)(x:StS)(hN:StN L k)(hx:stOk s L x)(hgb:stB b4 x)(hkl:k<l.length)(ak:Int)(ap:List UInt8)(ac:Int)(ae:Es)(aw an:Int)(av:List UInt8)(hgd:l.getD k default=⟨ak,ap,ac,ae,aw,an,av⟩)(la:ap.length≤60)(ls:ae.p.length≤60)(lv:av.length≤200)(k3:ak=3):wpx Tryz.prog bEP (a5o (RoundQ (fun z:Nat × List PrP × StS=>⟨lk [(0,.sl none 11 (acs l)),(2,.int .i64 which),(4,.ptr b4 0),(7,.ptr s 0),(8,.sl (some 88) 2 (prR z.2.1)),(9,.int .i64 (z.1:Int))],lk ((b4,[.str p,.int .i64 c])::stO s z.2.1 z.2.2)⟩) (fun z=>z.1≤l.length∧StN z.2.1 z.1∧stOk s z.2.1 z.2.2∧stB b4 z.2.2) (fun z=>l.length - z.1) (k,L,x)) Q) ⟨lk [(0,.sl none 11 (acs l)),(2,.int .i64 which),(4,.ptr b4 0),(7,.ptr s 0),(8,.sl (some 88) 2 (prR L)),(9,.int .i64 (k:Int))],lk ((b4,[.str p,.int .i64 c])::stO s L x)⟩:=by
 unfold bEP
 conv=>arg 2;whnf
 have hF:=a3n
 have hlL:=hN.len
 have f1:a0f (decide ((k:Int)<l.length)=true):=by simp only[a0f,Bool.not_eq_true',Bool.not_eq_false',decide_eq_true_eq,decide_eq_false_iff_not];omega
 have hI:=hN.I (by omega)
 have hNs:=hN.step ⟨ak,ap,ac,ae,aw,an,av⟩
 unfold a9c at hNs
 simp only at hNs
 clear hN
 have hME:=a1u ap ac (by omega)
 subst k3
 rw[if_neg (by decide),if_neg (by decide),if_neg (by decide),if_pos rfl]at hNs
 have hO:=a7H 7 ap ac 0 (by omega)
 have hO':=a7H aw ap ac 0 (by omega)
 have hkl':=a5T aw ap ac 0
 have hS:=a9L s L hI.rise (by omega) (ofP aw ap ac 0) av (by omega) (by omega) x hx
 have hMP:=a8u (ofP aw ap ac 0) av (by omega) (by omega)
 have hPS:=a9A L (by omega) (ofP aw ap ac 0) av
 unfold a6T b0U at hS
 unfold a6T at hNs
 cases hm:a1T (ofP aw ap ac 0) av with
 | true=>
  rw[if_pos hm,if_pos hm]at hS
  rw[if_pos hm]at hNs
  rw[hm]at hMP
  clear hm
  generalize a3o L (ofP aw ap ac 0) av=L' at *
  obtain ⟨sp,sc,so,scl,sst⟩:=ae
  have hN':=hNs
  have hI':StI L':=hN'.I (by omega)
  have hGN:=fun h0=>a1g s L' hI' ap ac (by omega) none h0
  have hGS:=fun b c (h1:¬ b=s∧¬ s=b) (h2:L'.length≤c)=>a1g s L' hI' ap ac (by omega) (some (b,c)) ⟨h1,h2⟩
  have hLG:=a0D L' hI' ap ac (by omega)
  have hKG:=a1v (a2R L' ap ac).1
  clear hI' hI hNs
  simp only[a0d]at hGN
  simp only[a0b]at hGS
  generalize a2R L' ap ac=G at *
  obtain ⟨⟨g1,g2,g3,g4,g5⟩,g6⟩:=G
  simp only at hGN hGS hLG hKG
  rcases x with _ | ⟨g,cap⟩
  ·simp only[a0d]at hS ⊢
   simp (disch:=omega) only[hgd,a0d, ↓Ed,Eu, ↓reduceIte,reduceCtorEq,Nat.reduceAdd,Nat.reduceEqDiff,Nat.reduceLT,Nat.reduceLeDiff,Int.reduceToNat,Int.reduceEq,Int.reduceLT,Int.reduceLE,w64,a0p,a0o,ActC.cs]
   repeat' ((first|refine CallO_pure (hF) ?_|refine CallO_pure (hME) ?_|refine CallO_pure (hO) ?_|refine CallO_pure (hO') ?_|refine CallO_pure (hMP) ?_|refine CallO_pure (hPS) ?_|refine CallW_intro (hPS) ?_|((refine c_set0 hS (fun h0=>?_) (fun gb gc hn h2 hc=>?_))<;>(try simp only[ln_cons2,ln_nil,and_true]at hn))|((refine c_set1 hS (fun gc hc=>?_) (fun gb gc hn h2 hc=>?_))<;>(try simp only[ln_cons2,ln_nil,and_true]at hn))|refine c1 (hGN h0) ?_|refine c1 (hGN hx) ?_|refine c2 (hGS _ _ h2 hc) ?_|refine c2 (hGS _ _ hgs hc) ?_|refine c2 (hGS _ _ hgs hcap) ?_|refine CallO_pure (hKG) ?_|refine CallW_intro (hKG) ?_|refine CallO_pure (hLG) ?_|refine CallW_intro (hLG) ?_|refine NewB_intro0 (fun b=>?_)|(refine NewB_intro (fun b hb=>?_);simp only[ln_cons2,ln_nil,and_true]at hb)|(with_reducible apply wA;focus exact OM_a)|((first|refine gW_sp ?_|refine condW_sp ?_|refine pickW_sp ?_);(try refine Sp_n ?_);(first|refine wT ?_|refine wF ?_|refine wL (fun h h'=>?_) (fun h h'=>?_)|refine wE (fun h h'=>?_) (fun h h'=>?_)|refine Sp_split (fun h=>?_) (fun h=>?_))<;>(try (exfalso;omega)))|refine TreeW_intro (by rfl) ?_|refine TreeW_all ?_|refine a0a ?_|refine Two_intro ?_ ?_|exact wZ|fail)<;>(try refine sxLew ?_)<;>(try exact True.intro))
   all_goals first
   | (exfalso;simp only[a0f,Bool.not_eq_true',Bool.not_eq_false',decide_eq_true_eq,decide_eq_false_iff_not]at *;first|contradiction|omega|fail)
   | exact Round_lit (k+1,L',none) ⟨Le_lit (by first|(simp[LeL,lk,a0d, *];done)|fail),⟨hkl,hN',by first|exact h0|exact hx,trivial⟩,by simp only;omega⟩
   | exact Round_lit (k+1,L',some (gb,gc)) ⟨Le_lit (by first|(simp[LeL,lk,a0b, *];done)|fail),⟨hkl,hN',⟨h2,hc⟩,by simp[a0m, *]⟩,by simp only;omega⟩
   | exact Round_lit (k+1,L',some (g,gc)) ⟨Le_lit (by first|(simp[LeL,lk,a0b, *];done)|fail),⟨hkl,hN',⟨hgs,hc⟩,hgb⟩,by simp only;omega⟩
   | exact Round_lit (k+1,L',some (g,cap)) ⟨Le_lit (by first|(simp[LeL,lk,a0b, *];done)|fail),⟨hkl,hN',⟨hgs,hcap⟩,hgb⟩,by simp only;omega⟩
  ·have hgs:=hx.1
   have hcap:=hx.2
   simp only[a0m]at hgb
   simp only[a0b]at hS ⊢
   simp (disch:=omega) only[hgd,a0b, ↓Ed,Eu, ↓reduceIte,reduceCtorEq,Nat.reduceAdd,Nat.reduceEqDiff,Nat.reduceLT,Nat.reduceLeDiff,Int.reduceToNat,Int.reduceEq,Int.reduceLT,Int.reduceLE,w64,a0p,a0o,ActC.cs]
   repeat' ((first|refine CallO_pure (hF) ?_|refine CallO_pure (hME) ?_|refine CallO_pure (hO) ?_|refine CallO_pure (hO') ?_|refine CallO_pure (hMP) ?_|refine CallO_pure (hPS) ?_|refine CallW_intro (hPS) ?_|((refine c_set0 hS (fun h0=>?_) (fun gb gc hn h2 hc=>?_))<;>(try simp only[ln_cons2,ln_nil,and_true]at hn))|((refine c_set1 hS (fun gc hc=>?_) (fun gb gc hn h2 hc=>?_))<;>(try simp only[ln_cons2,ln_nil,and_true]at hn))|refine c1 (hGN h0) ?_|refine c1 (hGN hx) ?_|refine c2 (hGS _ _ h2 hc) ?_|refine c2 (hGS _ _ hgs hc) ?_|refine c2 (hGS _ _ hgs hcap) ?_|refine CallO_pure (hKG) ?_|refine CallW_intro (hKG) ?_|refine CallO_pure (hLG) ?_|refine CallW_intro (hLG) ?_|refine NewB_intro0 (fun b=>?_)|(refine NewB_intro (fun b hb=>?_);simp only[ln_cons2,ln_nil,and_true]at hb)|(with_reducible apply wA;focus exact OM_a)|((first|refine gW_sp ?_|refine condW_sp ?_|refine pickW_sp ?_);(try refine Sp_n ?_);(first|refine wT ?_|refine wF ?_|refine wL (fun h h'=>?_) (fun h h'=>?_)|refine wE (fun h h'=>?_) (fun h h'=>?_)|refine Sp_split (fun h=>?_) (fun h=>?_))<;>(try (exfalso;omega)))|refine TreeW_intro (by rfl) ?_|refine TreeW_all ?_|refine a0a ?_|refine Two_intro ?_ ?_|exact wZ|fail)<;>(try refine sxLew ?_)<;>(try exact True.intro))
   all_goals first
   | (exfalso;simp only[a0f,Bool.not_eq_true',Bool.not_eq_false',decide_eq_true_eq,decide_eq_false_iff_not]at *;first|contradiction|omega|fail)
   | exact Round_lit (k+1,L',none) ⟨Le_lit (by first|(simp[LeL,lk,a0d, *];done)|fail),⟨hkl,hN',by first|exact h0|exact hx,trivial⟩,by simp only;omega⟩
   | exact Round_lit (k+1,L',some (gb,gc)) ⟨Le_lit (by first|(simp[LeL,lk,a0b, *];done)|fail),⟨hkl,hN',⟨h2,hc⟩,by simp[a0m, *]⟩,by simp only;omega⟩
   | exact Round_lit (k+1,L',some (g,gc)) ⟨Le_lit (by first|(simp[LeL,lk,a0b, *];done)|fail),⟨hkl,hN',⟨hgs,hc⟩,hgb⟩,by simp only;omega⟩
   | exact Round_lit (k+1,L',some (g,cap)) ⟨Le_lit (by first|(simp[LeL,lk,a0b, *];done)|fail),⟨hkl,hN',⟨hgs,hcap⟩,hgb⟩,by simp only;omega⟩
 | false=>
  rw[if_neg (by simp[hm]),if_neg (by simp[hm])]at hS
  rw[if_neg (by simp[hm])]at hNs
  rw[hm]at hMP
  clear hm
  obtain ⟨L',hL'⟩:∃ L',L'=L:=⟨_,rfl⟩
  rw[← hL']at hNs
  subst hL'
  obtain ⟨sp,sc,so,scl,sst⟩:=ae
  have hN':=hNs
  have hI':StI L':=hN'.I (by omega)
  have hGN:=fun h0=>a1g s L' hI' ap ac (by omega) none h0
  have hGS:=fun b c (h1:¬ b=s∧¬ s=b) (h2:L'.length≤c)=>a1g s L' hI' ap ac (by omega) (some (b,c)) ⟨h1,h2⟩
  have hLG:=a0D L' hI' ap ac (by omega)
  have hKG:=a1v (a2R L' ap ac).1
  clear hI' hI hNs
  simp only[a0d]at hGN
  simp only[a0b]at hGS
  generalize a2R L' ap ac=G at *
  obtain ⟨⟨g1,g2,g3,g4,g5⟩,g6⟩:=G
  simp only at hGN hGS hLG hKG
  rcases x with _ | ⟨g,cap⟩
  ·simp only[a0d]at hS ⊢
   simp (disch:=omega) only[hgd,a0d, ↓Ed,Eu, ↓reduceIte,reduceCtorEq,Nat.reduceAdd,Nat.reduceEqDiff,Nat.reduceLT,Nat.reduceLeDiff,Int.reduceToNat,Int.reduceEq,Int.reduceLT,Int.reduceLE,w64,a0p,a0o,ActC.cs]
   repeat' ((first|refine CallO_pure (hF) ?_|refine CallO_pure (hME) ?_|refine CallO_pure (hO) ?_|refine CallO_pure (hO') ?_|refine CallO_pure (hMP) ?_|((refine c_set0 hS (fun h0=>?_) (fun gb gc hn h2 hc=>?_))<;>(try simp only[ln_cons2,ln_nil,and_true]at hn))|((refine c_set1 hS (fun gc hc=>?_) (fun gb gc hn h2 hc=>?_))<;>(try simp only[ln_cons2,ln_nil,and_true]at hn))|refine c1 (hGN h0) ?_|refine c1 (hGN hx) ?_|refine c2 (hGS _ _ h2 hc) ?_|refine c2 (hGS _ _ hgs hc) ?_|refine c2 (hGS _ _ hgs hcap) ?_|refine CallO_pure (hKG) ?_|refine CallW_intro (hKG) ?_|refine CallO_pure (hLG) ?_|refine CallW_intro (hLG) ?_|refine NewB_intro0 (fun b=>?_)|(refine NewB_intro (fun b hb=>?_);simp only[ln_cons2,ln_nil,and_true]at hb)|(with_reducible apply wA;focus exact OM_a)|((first|refine gW_sp ?_|refine condW_sp ?_|refine pickW_sp ?_);(try refine Sp_n ?_);(first|refine wT ?_|refine wF ?_|refine wL (fun h h'=>?_) (fun h h'=>?_)|refine wE (fun h h'=>?_) (fun h h'=>?_)|refine Sp_split (fun h=>?_) (fun h=>?_))<;>(try (exfalso;omega)))|refine TreeW_intro (by rfl) ?_|refine TreeW_all ?_|refine a0a ?_|refine Two_intro ?_ ?_|exact wZ|fail)<;>(try refine sxLew ?_)<;>(try exact True.intro))
   all_goals first
   | (exfalso;simp only[a0f,Bool.not_eq_true',Bool.not_eq_false',decide_eq_true_eq,decide_eq_false_iff_not]at *;first|contradiction|omega|fail)
   | exact Round_lit (k+1,L',none) ⟨Le_lit (by first|(simp[LeL,lk,a0d, *];done)|fail),⟨hkl,hN',by first|exact h0|exact hx,trivial⟩,by simp only;omega⟩
   | exact Round_lit (k+1,L',some (gb,gc)) ⟨Le_lit (by first|(simp[LeL,lk,a0b, *];done)|fail),⟨hkl,hN',⟨h2,hc⟩,by simp[a0m, *]⟩,by simp only;omega⟩
   | exact Round_lit (k+1,L',some (g,gc)) ⟨Le_lit (by first|(simp[LeL,lk,a0b, *];done)|fail),⟨hkl,hN',⟨hgs,hc⟩,hgb⟩,by simp only;omega⟩
   | exact Round_lit (k+1,L',some (g,cap)) ⟨Le_lit (by first|(simp[LeL,lk,a0b, *];done)|fail),⟨hkl,hN',⟨hgs,hcap⟩,hgb⟩,by simp only;omega⟩
  ·have hgs:=hx.1
   have hcap:=hx.2
   simp only[a0m]at hgb
   simp only[a0b]at hS ⊢
   simp (disch:=omega) only[hgd,a0b, ↓Ed,Eu, ↓reduceIte,reduceCtorEq,Nat.reduceAdd,Nat.reduceEqDiff,Nat.reduceLT,Nat.reduceLeDiff,Int.reduceToNat,Int.reduceEq,Int.reduceLT,Int.reduceLE,w64,a0p,a0o,ActC.cs]
   repeat' ((first|refine CallO_pure (hF) ?_|refine CallO_pure (hME) ?_|refine CallO_pure (hO) ?_|refine CallO_pure (hO') ?_|refine CallO_pure (hMP) ?_|((refine c_set0 hS (fun h0=>?_) (fun gb gc hn h2 hc=>?_))<;>(try simp only[ln_cons2,ln_nil,and_true]at hn))|((refine c_set1 hS (fun gc hc=>?_) (fun gb gc hn h2 hc=>?_))<;>(try simp only[ln_cons2,ln_nil,and_true]at hn))|refine c1 (hGN h0) ?_|refine c1 (hGN hx) ?_|refine c2 (hGS _ _ h2 hc) ?_|refine c2 (hGS _ _ hgs hc) ?_|refine c2 (hGS _ _ hgs hcap) ?_|refine CallO_pure (hKG) ?_|refine CallW_intro (hKG) ?_|refine CallO_pure (hLG) ?_|refine CallW_intro (hLG) ?_|refine NewB_intro0 (fun b=>?_)|(refine NewB_intro (fun b hb=>?_);simp only[ln_cons2,ln_nil,and_true]at hb)|(with_reducible apply wA;focus exact OM_a)|((first|refine gW_sp ?_|refine condW_sp ?_|refine pickW_sp ?_);(try refine Sp_n ?_);(first|refine wT ?_|refine wF ?_|refine wL (fun h h'=>?_) (fun h h'=>?_)|refine wE (fun h h'=>?_) (fun h h'=>?_)|refine Sp_split (fun h=>?_) (fun h=>?_))<;>(try (exfalso;omega)))|refine TreeW_intro (by rfl) ?_|refine TreeW_all ?_|refine a0a ?_|refine Two_intro ?_ ?_|exact wZ|fail)<;>(try refine sxLew ?_)<;>(try exact True.intro))
   all_goals first
   | (exfalso;simp only[a0f,Bool.not_eq_true',Bool.not_eq_false',decide_eq_true_eq,decide_eq_false_iff_not]at *;first|contradiction|omega|fail)
   | exact Round_lit (k+1,L',none) ⟨Le_lit (by first|(simp[LeL,lk,a0d, *];done)|fail),⟨hkl,hN',by first|exact h0|exact hx,trivial⟩,by simp only;omega⟩
   | exact Round_lit (k+1,L',some (gb,gc)) ⟨Le_lit (by first|(simp[LeL,lk,a0b, *];done)|fail),⟨hkl,hN',⟨h2,hc⟩,by simp[a0m, *]⟩,by simp only;omega⟩
   | exact Round_lit (k+1,L',some (g,gc)) ⟨Le_lit (by first|(simp[LeL,lk,a0b, *];done)|fail),⟨hkl,hN',⟨hgs,hc⟩,hgb⟩,by simp only;omega⟩
   | exact Round_lit (k+1,L',some (g,cap)) ⟨Le_lit (by first|(simp[LeL,lk,a0b, *];done)|fail),⟨hkl,hN',⟨hgs,hcap⟩,hgb⟩,by simp only;omega⟩
set_option maxHeartbeats 40000000 in
theorem ep_k4{Q:AExit→St→Prop}(l:List ActC)(p:List UInt8)(c which:Int)(h40:l.length≤40)(hp:p.length≤60)(b4 s:Nat)(hb1:¬ b4=s)(hb2:¬ s=b4)(k:Nat)(L:List PrP)(x:StS)(hN:StN L k)(hx:stOk s L x)(hgb:stB b4 x)(hkl:k<l.length)(ak:Int)(ap:List UInt8)(ac:Int)(ae:Es)(aw an:Int)(av:List UInt8)(hgd:l.getD k default=⟨ak,ap,ac,ae,aw,an,av⟩)(la:ap.length≤60)(ls:ae.p.length≤60)(lv:av.length≤200)(k0:¬ ak=0)(k1:¬ ak=1)(k2:¬ ak=2)(k3:¬ ak=3):wpx Tryz.prog bEP (a5o (RoundQ (fun z:Nat × List PrP × StS=>⟨lk [(0,.sl none 11 (acs l)),(2,.int .i64 which),(4,.ptr b4 0),(7,.ptr s 0),(8,.sl (some 88) 2 (prR z.2.1)),(9,.int .i64 (z.1:Int))],lk ((b4,[.str p,.int .i64 c])::stO s z.2.1 z.2.2)⟩) (fun z=>z.1≤l.length∧StN z.2.1 z.1∧stOk s z.2.1 z.2.2∧stB b4 z.2.2) (fun z=>l.length - z.1) (k,L,x)) Q) ⟨lk [(0,.sl none 11 (acs l)),(2,.int .i64 which),(4,.ptr b4 0),(7,.ptr s 0),(8,.sl (some 88) 2 (prR L)),(9,.int .i64 (k:Int))],lk ((b4,[.str p,.int .i64 c])::stO s L x)⟩:=by
 unfold bEP
 conv=>arg 2;whnf
 have hF:=a3n
 have hlL:=hN.len
 have f1:a0f (decide ((k:Int)<l.length)=true):=by simp only[a0f,Bool.not_eq_true',Bool.not_eq_false',decide_eq_true_eq,decide_eq_false_iff_not];omega
 have hI:=hN.I (by omega)
 have hNs:=hN.step ⟨ak,ap,ac,ae,aw,an,av⟩
 unfold a9c at hNs
 simp only at hNs
 clear hN
 have hME:=a1u ap ac (by omega)
 rw[if_neg k0,if_neg k1,if_neg k2,if_neg k3]at hNs
 have e0:a0f (decide (ak=0)=false):=by simp only[a0f,Bool.not_eq_true',Bool.not_eq_false',decide_eq_true_eq,decide_eq_false_iff_not];exact k0
 have e1:a0f (decide (ak=1)=false):=by simp only[a0f,Bool.not_eq_true',Bool.not_eq_false',decide_eq_true_eq,decide_eq_false_iff_not];exact k1
 have e2:a0f (decide (ak=2)=false):=by simp only[a0f,Bool.not_eq_true',Bool.not_eq_false',decide_eq_true_eq,decide_eq_false_iff_not];exact k2
 have e3:a0f (decide (ak=3)=false):=by simp only[a0f,Bool.not_eq_true',Bool.not_eq_false',decide_eq_true_eq,decide_eq_false_iff_not];exact k3
 clear k0 k1 k2 k3
 obtain ⟨L',hL'⟩:∃ L',L'=L:=⟨_,rfl⟩
 rw[← hL']at hNs
 subst hL'
 obtain ⟨sp,sc,so,scl,sst⟩:=ae
 have hN':=hNs
 have hI':StI L':=hN'.I (by omega)
 have hGN:=fun h0=>a1g s L' hI' ap ac (by omega) none h0
 have hGS:=fun b c (h1:¬ b=s∧¬ s=b) (h2:L'.length≤c)=>a1g s L' hI' ap ac (by omega) (some (b,c)) ⟨h1,h2⟩
 have hLG:=a0D L' hI' ap ac (by omega)
 have hKG:=a1v (a2R L' ap ac).1
 clear hI' hI hNs
 simp only[a0d]at hGN
 simp only[a0b]at hGS
 generalize a2R L' ap ac=G at *
 obtain ⟨⟨g1,g2,g3,g4,g5⟩,g6⟩:=G
 simp only at hGN hGS hLG hKG
 rcases x with _ | ⟨g,cap⟩
 ·simp only[a0d]at ⊢
  simp (disch:=omega) only[hgd,a0d, ↓Ed,Eu, ↓reduceIte,reduceCtorEq,Nat.reduceAdd,Nat.reduceEqDiff,Nat.reduceLT,Nat.reduceLeDiff,Int.reduceToNat,Int.reduceEq,Int.reduceLT,Int.reduceLE,w64,a0p,a0o,ActC.cs]
  repeat' ((first|refine CallO_pure (hF) ?_|refine CallO_pure (hME) ?_|refine c1 (hGN h0) ?_|refine c1 (hGN hx) ?_|refine c2 (hGS _ _ h2 hc) ?_|refine c2 (hGS _ _ hgs hc) ?_|refine c2 (hGS _ _ hgs hcap) ?_|refine CallO_pure (hKG) ?_|refine CallW_intro (hKG) ?_|refine CallO_pure (hLG) ?_|refine CallW_intro (hLG) ?_|refine NewB_intro0 (fun b=>?_)|(refine NewB_intro (fun b hb=>?_);simp only[ln_cons2,ln_nil,and_true]at hb)|(with_reducible apply wA;focus exact OM_a)|((first|refine gW_sp ?_|refine condW_sp ?_|refine pickW_sp ?_);(try refine Sp_n ?_);(first|refine wT ?_|refine wF ?_|refine wL (fun h h'=>?_) (fun h h'=>?_)|refine wE (fun h h'=>?_) (fun h h'=>?_)|refine Sp_split (fun h=>?_) (fun h=>?_))<;>(try (exfalso;omega)))|refine TreeW_intro (by rfl) ?_|refine TreeW_all ?_|refine a0a ?_|refine Two_intro ?_ ?_|exact wZ|fail)<;>(try refine sxLew ?_)<;>(try exact True.intro))
  all_goals first
  | (exfalso;simp only[a0f,Bool.not_eq_true',Bool.not_eq_false',decide_eq_true_eq,decide_eq_false_iff_not]at *;first|contradiction|omega|fail)
  | exact Round_lit (k+1,L',none) ⟨Le_lit (by first|(simp[LeL,lk,a0d, *];done)|fail),⟨hkl,hN',by first|exact h0|exact hx,trivial⟩,by simp only;omega⟩
  | exact Round_lit (k+1,L',some (gb,gc)) ⟨Le_lit (by first|(simp[LeL,lk,a0b, *];done)|fail),⟨hkl,hN',⟨h2,hc⟩,by simp[a0m, *]⟩,by simp only;omega⟩
  | exact Round_lit (k+1,L',some (g,gc)) ⟨Le_lit (by first|(simp[LeL,lk,a0b, *];done)|fail),⟨hkl,hN',⟨hgs,hc⟩,hgb⟩,by simp only;omega⟩
  | exact Round_lit (k+1,L',some (g,cap)) ⟨Le_lit (by first|(simp[LeL,lk,a0b, *];done)|fail),⟨hkl,hN',⟨hgs,hcap⟩,hgb⟩,by simp only;omega⟩
 ·have hgs:=hx.1
  have hcap:=hx.2
  simp only[a0m]at hgb
  simp only[a0b]at ⊢
  simp (disch:=omega) only[hgd,a0b, ↓Ed,Eu, ↓reduceIte,reduceCtorEq,Nat.reduceAdd,Nat.reduceEqDiff,Nat.reduceLT,Nat.reduceLeDiff,Int.reduceToNat,Int.reduceEq,Int.reduceLT,Int.reduceLE,w64,a0p,a0o,ActC.cs]
  repeat' ((first|refine CallO_pure (hF) ?_|refine CallO_pure (hME) ?_|refine c1 (hGN h0) ?_|refine c1 (hGN hx) ?_|refine c2 (hGS _ _ h2 hc) ?_|refine c2 (hGS _ _ hgs hc) ?_|refine c2 (hGS _ _ hgs hcap) ?_|refine CallO_pure (hKG) ?_|refine CallW_intro (hKG) ?_|refine CallO_pure (hLG) ?_|refine CallW_intro (hLG) ?_|refine NewB_intro0 (fun b=>?_)|(refine NewB_intro (fun b hb=>?_);simp only[ln_cons2,ln_nil,and_true]at hb)|(with_reducible apply wA;focus exact OM_a)|((first|refine gW_sp ?_|refine condW_sp ?_|refine pickW_sp ?_);(try refine Sp_n ?_);(first|refine wT ?_|refine wF ?_|refine wL (fun h h'=>?_) (fun h h'=>?_)|refine wE (fun h h'=>?_) (fun h h'=>?_)|refine Sp_split (fun h=>?_) (fun h=>?_))<;>(try (exfalso;omega)))|refine TreeW_intro (by rfl) ?_|refine TreeW_all ?_|refine a0a ?_|refine Two_intro ?_ ?_|exact wZ|fail)<;>(try refine sxLew ?_)<;>(try exact True.intro))
  all_goals first
  | (exfalso;simp only[a0f,Bool.not_eq_true',Bool.not_eq_false',decide_eq_true_eq,decide_eq_false_iff_not]at *;first|contradiction|omega|fail)
  | exact Round_lit (k+1,L',none) ⟨Le_lit (by first|(simp[LeL,lk,a0d, *];done)|fail),⟨hkl,hN',by first|exact h0|exact hx,trivial⟩,by simp only;omega⟩
  | exact Round_lit (k+1,L',some (gb,gc)) ⟨Le_lit (by first|(simp[LeL,lk,a0b, *];done)|fail),⟨hkl,hN',⟨h2,hc⟩,by simp[a0m, *]⟩,by simp only;omega⟩
  | exact Round_lit (k+1,L',some (g,gc)) ⟨Le_lit (by first|(simp[LeL,lk,a0b, *];done)|fail),⟨hkl,hN',⟨hgs,hc⟩,hgb⟩,by simp only;omega⟩
  | exact Round_lit (k+1,L',some (g,cap)) ⟨Le_lit (by first|(simp[LeL,lk,a0b, *];done)|fail),⟨hkl,hN',⟨hgs,hcap⟩,hgb⟩,by simp only;omega⟩
end
end Go.Proofs.YthdcogkdacnheaaGreatDoor
