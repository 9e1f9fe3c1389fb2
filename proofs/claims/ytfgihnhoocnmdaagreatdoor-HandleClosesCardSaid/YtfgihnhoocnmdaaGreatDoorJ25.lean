import Derived.Test.YtfgihnhoocnmdaaGreatDoorJ24
namespace Go.Proofs.YtfgihnhoocnmdaaGreatDoor
set_option linter.all false
set_option maxHeartbeats 64000000
set_option maxRecDepth 100000
open Go.RowKit
theorem a1w(r:List Int)(p:PfC)(key:List UInt8):((DO r p key).getD []).length≤100000:=by
 unfold DO
 split
 ·rename_i h
  obtain ⟨h1,h2,_⟩:=h
  have:=((Pw h1).2 0 (by omega)).1
  simp only[ET,Bs]at this
  simp only[Cp];omega
 ·simp
theorem a2X:¬ (C1 []).2=0:=by
 have h:rend [] (dst []).2≠0:=by decide +kernel
 unfold C1
 rw[Af h]
 exact h
theorem a0r(r:List Int)(m:MsgC):KR r m=(decide ((C1 ((DO r m.cl (Ah 7 m.p.d m.p.dc 0)).getD [])).2=0)&&((C1 ((DO r m.cl (Ah 7 m.p.d m.p.dc 0)).getD [])).1.cl&&(decide ((C1 ((DO r m.cl (Ah 7 m.p.d m.p.dc 0)).getD [])).1.p=m.p.s)&&decide ((C1 ((DO r m.cl (Ah 7 m.p.d m.p.dc 0)).getD [])).1.c=m.p.sc)))):=by
 unfold KR
 cases DO r m.cl (Ah 7 m.p.d m.p.dc 0) with
 | none=>simp only[G8,A0 a2X,Bool.false_and]
 | some v=>rfl
theorem F0{A B:Prop}(h:B)(e:A=B:=by (simp (disch:=omega) only[*, ↓Ed,Eu, ↓reduceIte,reduceCtorEq,Nat.reduceAdd,Nat.reduceEqDiff,Nat.reduceLT,Nat.reduceLeDiff,Int.reduceToNat,Int.reduceEq,Int.reduceLT,Int.reduceLE,Ap,Ao,Ax,AJ,AY,Int.reduceAdd,AH,AN,PktC.cs,Es.cs,PfC.cs,HdC.cs,BF,Cw,Co,C6,Dc, ↓H1, ↓Gi, ↓Gj, ↓GM, ↓Ff, ↓Gk, ↓Gl, ↓Ez, ↓EL,DZ,C4,eqC_i,eqC_s,eqC_nil,oand_some];first|done|rfl)):A:=e▸h
theorem b2U(s c m:Nat)(L:List PrP)(hI:StI L)(K:List HdC)(M:MsgC)(ht tm:Int)(told:List HdC)(hp:BO M.p=true)(l1:M.p.s.length≤1000000)(l2:M.p.d.length≤1000000)(l3:M.p.x.length≤1000000)(hf:Bw M.pr)(hfc:Bw M.cl)(hk:¬ M.k=4)
  (x:Bl) (hx:stOk s L x) (ho:Bf [c,m] x) (Ae:¬ c=s∧¬ s=c) (hms:¬ m=s∧¬ s=m) (hcm:¬ c=m∧¬ m=c) (E:Int) (hE:(Gn L K M).2.1=E) (h0:E≠0):
  CT Tryz.prog 47 [Ds s c ht tm told,.agg (AD M)] (lk (AF s L x++BI c m K)) (fun r o=>r=.tup [.sl none 13 [],.int .i64 E]∧o=lk (AF s L x++BI c m K)):=by
 have hH:=MF s c L hI M.p ht tm told hp l1 l2 l3 x hx
 have hSt:=Io c m hcm.1 hcm.2 K M.ht
 have hPO:=D8 7 M.p.d M.p.dc 0 l2
 have hV:=fun (h:HdC)=>Tn h.r h.n M.cl hfc (Ah 7 M.p.d M.p.dc 0)
 have hDe:=fun (h:HdC)=>Te ((DO h.r M.cl (Ah 7 M.p.d M.p.dc 0)).getD []) (a1w _ _ _)
 have hSe:=fun (h:HdC)=>a0r h.r M
 change ∀ h:HdC,CP _ _ [.agg h.rt,_,_] _ at hV
 have hLt:=PT M (Av L M.p.s M.p.sc).1
 have hgs:=hx.d
 have hBk:=fun (h:HdC) (hs:Ia h.r M (Av L M.p.s M.p.sc).1.o=false) (g cap:Nat) hgs=>a0Z s c L M (Av L M.p.s M.p.sc).1 h ht tm told l2 hf hs g cap hgs
 unfold Gn at hE
 by_cases hh:DX L M.p=0
 rotate_left
 ·rw[Af hh]at hE
  simp only at hE
  subst hE
  unfold EK at hH
  rw[Ad hh,show zE.cs=[.str [],.int .i64 0,.bool false,.bool false,.int .i64 0] from rfl]at hH
  have f1:Ac (decide (DX L M.p=0)=false):=A0 hh
  clear hSt hPO hV hDe hSe hLt hBk hI hx hp l1 l2 l3 hf h0 hh
  generalize DX L M.p=E at *
  refine S7 _ _ _ (by simp) ?_
  rcases x with _ | ⟨g,cap⟩
  all_goals simp only[B4,Bq,Ce,AA,Bi,Bj,Bf,AZ,B8,Cb,Cs,Cr]at hgs hH ho ⊢
  all_goals (simp only[Iy,Cz.z1];refine F0 ?_;try exact tt)
  all_goals repeat' ((first|exact tt|refine c1 hH ?_|refine c2 hH ?_|refine na fun b=>?_|refine nb fun b hb=>?_|refine iq ?_|(refine jq ?_ ?_<;>intro h h')|exact wZ|refine Aa ?_ ?_)<;>try refine F0 ?_)
  all_goals exact AG qa (A6 _)
 obtain ⟨g,cap,rfl⟩:=Fj (FT hh).2.2.1 hx
 rw[Ad (by simp[hh])]at hE
 have hHE:EK L M.p=(Av L M.p.s M.p.sc).1:=by unfold EK;rw[Af hh]
 rw[hHE,hh]at hH
 clear hHE hh hI hx hp l1 l2 l3 hf
 have f0:Ac (decide ((0:Int)=0)=true):=rfl
 simp only[hk,Ct,true_and,false_and,BV]at hE
 generalize Ah 7 M.p.d M.p.dc 0=key at *
 generalize (Av L M.p.s M.p.sc).1=G at *
 obtain ⟨g1,g2,g3,g4,g5⟩:=G
 simp only at hE hH hLt hBk
 refine S7 _ _ _ (by simp) ?_
 simp only[Bq,AA,Bi,Bj,Bf,AZ,B8,Cb,Cs,Cr]at hgs hH hBk ho ⊢
 cases hst:BC K M.ht with
 | none=>
  rw[hst]at hE hSt
  simp only[G8,J3]at hE hSt
  subst hE
  clear hPO hV hDe hSe hLt hBk h0 hst
  simp only[Iy,Cz.z1];refine F0 ?_
  repeat' ((first|exact tt|refine c2 hH ?_|refine c2 hSt ?_|refine na fun b=>?_|refine nb fun b hb=>?_|refine iq ?_|(refine jq ?_ ?_<;>intro h h')|exact wZ|refine Aa ?_ ?_)<;>try refine F0 ?_)
  all_goals exact AG qa (A6 _)
 | some h=>
  rw[hst]at hE hSt
  simp only[Cp,EH]at hE hSt
  have hV:=hV h
  have hDe:=hDe h
  have hSe:=hSe h
  have hBk:=fun hs=>hBk h hs g cap hgs
  clear hst
  generalize (DO h.r M.cl key).getD []=V at *
  generalize (DO h.r M.cl key).isSome=VS at *
  obtain ⟨⟨⟨d1,d2,d3,d4,d5⟩,d6⟩,hD⟩:∃ q,C1 V=q:=⟨_,rfl⟩
  rw[hD]at hDe hSe
  simp only at hDe hSe
  clear hD
  generalize IL M g3=LT at *
  cases hsf:KR h.r M
  ·rw[hsf,Af rfl]at hE
   subst hE
   rw[hsf]at hSe
   clear hsf hLt hBk h0
   cases q1:decide (d6=0)
   ·have f1:Ac (decide (d6=0)=false):=q1
    clear hSe q1
    simp only[Iy,Cz.z1];refine F0 ?_
    repeat' ((first|exact tt|refine c2 hH ?_|refine c2 hSt ?_|refine Ag hPO ?_|refine Ag hV ?_|refine Ab hDe ?_|refine na fun b=>?_|refine nb fun b hb=>?_|refine iq ?_|(refine jq ?_ ?_<;>intro h h')|exact wZ|refine Aa ?_ ?_)<;>try refine F0 ?_)
    all_goals exact AG qa (A6 _)
   have f1:Ac (decide (d6=0)=true):=q1
   rw[q1,Gt]at hSe
   clear q1
   cases d4
   ·clear hSe
    simp only[Iy,Cz.z1];refine F0 ?_
    repeat' ((first|exact tt|refine c2 hH ?_|refine c2 hSt ?_|refine Ag hPO ?_|refine Ag hV ?_|refine Ab hDe ?_|refine na fun b=>?_|refine nb fun b hb=>?_|refine iq ?_|(refine jq ?_ ?_<;>intro h h')|exact wZ|refine Aa ?_ ?_)<;>try refine F0 ?_)
    all_goals exact AG qa (A6 _)
   ·rw[Gt]at hSe
    have hq:(decide (d1=M.p.s)&&decide (d2=M.p.sc))=false:=hSe.symm
    clear hSe
    simp only[Iy,Cz.z1];refine F0 ?_
    repeat' ((first|exact tt|refine c2 hH ?_|refine c2 hSt ?_|refine Ag hPO ?_|refine Ag hV ?_|refine Ab hDe ?_|refine na fun b=>?_|refine nb fun b hb=>?_|refine iq ?_|(refine jq ?_ ?_<;>intro h h')|exact wZ|refine Aa ?_ ?_)<;>try refine F0 ?_)
    all_goals exact AG qa (A6 _)
  rw[hsf,Ad (by simp)]at hE
  rw[hsf]at hSe
  simp only[Bool.true_eq,AP,Bs]at hSe
  obtain ⟨rfl,rfl,rfl,rfl⟩:=hSe
  clear hsf
  by_cases h2:LT=0
  rotate_left
  ·rw[Af h2]at hE
   simp only at hE
   subst hE
   have f2:Ac (decide (LT=0)=false):=A0 h2
   clear hBk h0 h2
   simp only[Iy,Cz.z1];refine F0 ?_
   repeat' ((first|exact tt|refine c2 hH ?_|refine c2 hSt ?_|refine Ag hPO ?_|refine Ag hV ?_|refine Ab hDe ?_|refine Ab hLt ?_|refine na fun b=>?_|refine nb fun b hb=>?_|refine iq ?_|(refine jq ?_ ?_<;>intro h h')|exact wZ|refine Aa ?_ ?_)<;>try refine F0 ?_)
   all_goals exact AG qa (A6 _)
  rw[Ad (by simp[h2])]at hE
  subst h2
  cases hsh:Ia h.r M g3
  rotate_left
  ·rw[hsh]at hE
   simp at hE
   exact absurd hE.symm h0
  rw[hsh,Af rfl]at hE
  subst hE
  have hBk:=hBk hsh
  clear h0 hsh
  simp only[Iy,Cz.z1];refine F0 ?_
  repeat' ((first|exact tt|refine c2 hH ?_|refine c2 hSt ?_|refine Ag hPO ?_|refine Ag hV ?_|refine Ab hDe ?_|refine Ab hLt ?_|refine c2 hBk ?_|refine na fun b=>?_|refine nb fun b hb=>?_|refine iq ?_|(refine jq ?_ ?_<;>intro h h')|exact wZ|refine Aa ?_ ?_)<;>try refine F0 ?_)
  all_goals exact AG qa (A6 _)
theorem a0R{A B:Prop}(h:B)(e:A=B:=by (simp (disch:=omega) only[*, ↓Ed,Eu, ↓reduceIte,reduceCtorEq,Nat.reduceAdd,Nat.reduceEqDiff,Nat.reduceLT,Nat.reduceLeDiff,Int.reduceToNat,Int.reduceEq,Int.reduceLT,Int.reduceLE,Ap,Ao,Ax,AJ,AY,Int.reduceAdd,AH,AN];first|done|rfl)):A:=e▸h
theorem Tm(a:List UInt8)(ha:a.length≤1000000):CP Tryz.prog 100 [.str a] (.str (BB a)):=by
 have hS:=L8 (.sl none 1 [[.str a]]) [a] rfl (by simp) (by simp;omega)
 rw[show [a].flatten=a by simp]at hS
 have hT:=L9 (BB a) (FB _)
 obtain ⟨z1,z2,z3,z4⟩:=BN (FB a)
 generalize Ae (BB a)=Z at *
 refine a5R _ _ (by simp) ?_
 simp only[U8];refine a0R ?_
 repeat' ((first|exact tt|refine Ab hS ?_|refine Ab hT ?_|refine na fun b=>?_|refine nb fun b hb=>?_|refine iq ?_|(refine jq ?_ ?_<;>intro h h')|exact wZ|refine Aa ?_ ?_)<;>try refine a0R ?_)
theorem Yh{α:Type}:∀ {l:List (Nat × α)} {b:Nat},b∈l.map Prod.fst→∃ z,lk l b=some z
 | [],_,h=>by simp at h
 | (k,v)::l,b,h=>by
  rw[lk_cons]
  by_cases e:b=k
  ·exact ⟨v,by rw[Af e]⟩
  ·rw[Ad e]
   exact Yh (by simpa[e]using h)
theorem Yi{α:Type}:∀ {l:List (Nat × α)} {b:Nat} {z:α},lk l b=some z→b∈l.map Prod.fst
 | [],_,_,h=>by simp[lk]at h
 | (k,v)::l,b,z,h=>by
  rw[lk_cons]at h
  by_cases e:b=k
  ·simp[e]
  ·rw[Ad e]at h
   simp[Yi h]
abbrev HE(s c m:Nat)(L':List PrP)(K:List HdC)(x:Bl)(v:AV):AV→(Nat→Option (List AV))→Prop:=fun r o=>∃ y cs,(stOk s L' y∧Bf [c,m] y∧(y=none→x=none))∧r=v∧o=lk (ov (AF s L' y++BI c m K) (HV x cs))
theorem Dy{st:St}{rs:List AR}{s c m:Nat}{L L':List PrP}{K K':List HdC}{x:Bl}{v:AV}(y:Bl)(cs:List AV)(hy:stOk s L' y∧Bf [c,m] y∧(y=none→x=none))(h:BR st rs v)(ho:Am (ov (AF s L' y++BI c m K') (HV x cs)) st.o):
  Ga st rs (lk (AF s L x++BI c m K)) (HE s c m L' K' x v):=
 ⟨_,h,_,Gu ho,fun b cs' hb=>by
  rw[← ovr_lk]
  have h1:=Yi hb
  have h0:b∈(AF s L' y++BI c m K').map Prod.fst∨∃ g c',x=some (g,c')∧b=g:=by
   have hs:s∈(AF s L' y).map Prod.fst:=by rcases y with _ | ⟨g,cap⟩<;>simp[Ce,AA]
   rw[FI,Bv]at h1
   rcases h1 with h1|h1
   ·rcases x with _ | ⟨g,cap⟩
    ·simp[Ce]at h1;subst h1;left;rw[FI];exact List.mem_append_left _ hs
    ·simp[AA]at h1
     rcases h1 with rfl|rfl
     ·left;rw[FI];exact List.mem_append_left _ hs
     ·exact .inr ⟨_,_,rfl,rfl⟩
   ·left;rw[FI];exact J4 _ (by simpa using h1)
  rcases h0 with h0 | ⟨g,c',rfl,rfl⟩
  ·obtain ⟨z,hz⟩:=Yh h0
   exact ⟨z,by simp[BG,hz]⟩
  ·simp only[BG,GI]
   cases lk (AF s L' y++BI c m K') b with
   | some z=>exact ⟨z,rfl⟩
   | none=>exact ⟨cs,by simp[lk]⟩,y,cs,hy,rfl,rfl⟩
theorem Mo{L:List PrP}{k v:List UInt8}(h:B3 k v=true):CQ L k v=A7 L k v∧FA k v=0:=⟨by unfold CQ;rw[Af h],by unfold FA;rw[Af h]⟩
theorem Qd{L:List PrP}{k:Int}{p:List UInt8}{c n:Int}(hp:Ba p c=true)(hk:EO k n=true):JL L k p c n=A7 L (Ah k p c 0) (pn n)∧KQ k p c n=0:=by
 have ho:(Ba p c&&EO k n)=true:=by rw[hp,hk];rfl
 exact ⟨by rw[Mn.2,Af ho],(Mn (L:=L)).1.2 ho⟩
theorem b0E{L:List PrP}{K:List HdC}{ht tm:Int}{m:MsgC}(h:(H7 L K ht tm m).2.1=0):∃ x,BC K m.ht=some x∧IH x.r m.pr (Ah 1 m.p.s m.p.sc m.p.q) (Cg m.p)=true:=by
 unfold H7 at h
 split at h
 ·cases h
 split at h
 ·cases h
 split at h
 ·cases h
 split at h
 ·rename_i h1;exact absurd h h1
 cases hst:BC K m.ht with
 | none=>rw[hst]at h;cases h
 | some x=>
  rw[hst]at h
  simp only at h
  split at h
  ·cases h
  ·rename_i h1;exact ⟨x,rfl,by simpa using h1⟩
abbrev FO(M:MsgC)(e:Es):List (List AV):=(K8 M e).map EvC.cs
theorem ZR{L:List PrP}{p:List UInt8}{c:Int}{e:Es}(hp:Ba p c=true)(he:e.may=true):JE L p c e=A7 L (Ah 7 p c 0) e.enc∧KH p c e=0:=by
 have h1:Cd e=(e.enc,0):=by unfold Cd;rw[Af he]
 have hm:B3 (Ah 7 p c 0) e.enc=true:=(MH (by omega) hp).may ⟨R1 he,R0 he⟩
 unfold JE KH
 rw[h1]
 exact ⟨by rw[Af rfl];exact (Mo hm).1,by rw[Af rfl];exact (Mo (L:=L) hm).2⟩
theorem Mz{A B:Prop}(h:B)(e:A=B:=by (simp (disch:=omega) only[*, ↓Ed,Eu, ↓reduceIte,reduceCtorEq,Nat.reduceAdd,Nat.reduceEqDiff,Nat.reduceLT,Nat.reduceLeDiff,Int.reduceToNat,Int.reduceEq,Int.reduceLT,Int.reduceLE,Ap,Ao,Ax,AJ,AY,Int.reduceAdd,AH,AN,PktC.cs,Es.cs,PfC.cs,HdC.cs,BF,Cw,Co,C6,Dc, ↓H1, ↓Gi, ↓Gj, ↓GM, ↓Ff, ↓Gk, ↓Gl, ↓Ez, ↓EL,DZ,C4,eqC_i,eqC_s,eqC_nil,oand_some];first|done|rfl)):A:=e▸h
theorem a1a(s c:Nat)(L:List PrP)(n:Nat)(hB:StB L n)(hn:n≤900)(M:MsgC)(e:Es)(h:HdC)(ht tm:Int)(told:List HdC)(hp:BO M.p=true)(l1:M.p.s.length≤1000000)(l2:M.p.d.length≤1000000)(hep:e.p.length≤100000)(hf:Bw M.pr)(hs:Ia h.r M e.o=true)
  (hsm:e.o=true→e.cl=false→(I0 e M.nx).may=true) (g cap:Nat) (hx:stOk s L (some (g,cap))):
  CT Tryz.prog 104 [Ds s c ht tm told,.agg (AD M),.agg e.cs,.agg h.rt] (lk (AF s L (some (g,cap)))) (setW s (Ha L M e) (some (g,cap)) (.tup [.sl none 13 (FO M e),.int .i64 0])):=by
 have hI:=hB.I
 have hPA:=D8 5 M.p.d M.p.dc 0 l2
 have hPB:=D8 2 M.p.d M.p.dc M.p.q l2
 have hA:=L6 h.r h.n M.pr hf (Ah 5 M.p.d M.p.dc 0) (pn M.nx)
 have hL:=Zu h.r h.n M.pr hf (Ah 2 M.p.d M.p.dc M.p.q)
 have hP:=ND M.nx
 have hDr:=a1c s c L hI M.p ht tm told l1 (some (g,cap)) hx
 have hF5:=NG 5 M.p
 obtain ⟨p1,p2,p3, -⟩:=Gh hp
 have hgs:=hx.d
 have hBd:=hB.drop (Ah 1 M.p.s M.p.sc M.p.q)
 have hlen:(DF L (Ah 1 M.p.s M.p.sc M.p.q)).length≤cap:=En (Lx L _).length_le hx.2
 have hSA:=a0Y s _ hBd.I M.p.s M.p.sc l1 (I0 e M.nx) hep (some (g,cap)) ⟨hgs,hlen⟩
 change CP _ _ [.agg h.rt,_,_,_] _ at hA
 change CP _ _ [.agg h.rt,_,_] _ at hL
 unfold Ia at hs
 unfold Ha
 obtain ⟨e1,e2,e3,e4,e5⟩:=e
 simp only at hs hsm
 have hSA:e3=true→e4=false→_:=fun a b=>by
  rw[(ZR (L:=DF L (Ah 1 M.p.s M.p.sc M.p.q)) p1 (hsm a b)).1,(ZR (L:=DF L (Ah 1 M.p.s M.p.sc M.p.q)) p1 (hsm a b)).2]at hSA
  exact hSA
 clear hBd hI hB hx hp l1 l2 hep hf p1 p2 p3 hsm
 generalize pn M.nx=nv at *
 generalize Ah 5 M.p.d M.p.dc 0=ka at *
 generalize Ah 2 M.p.d M.p.dc M.p.q=kb at *
 generalize Ah 1 M.p.s M.p.sc M.p.q=kc at *
 generalize Ah 7 M.p.s M.p.sc 0=kd at *
 generalize DF L kc=L1 at *
 simp only[Bq,AA]at hgs hDr hSA ⊢
 refine YU _ _ _ (by simp) ?_
 cases e3
 ·rw[Ad (by simp)]at hs
  rw[hs]at hL
  have ev:FO M ⟨e1,e2,false,e4,e5⟩=[(EN 5 M.p).cs]:=by simp[FO,K8]
  rw[ev,Ad (by simp)]
  clear hA hs hSA ev
  simp only[Lg];refine Mz ?_
  repeat' ((first|exact tt|refine Ag hPB ?_|refine Ag hL ?_|refine c2 hDr ?_|refine Ab hF5 ?_|refine na fun b=>?_|refine nb fun b hb=>?_|refine iq ?_|(refine jq ?_ ?_<;>intro h h')|exact wZ|refine Aa ?_ ?_)<;>try refine Mz ?_)
  all_goals exact JI (L:=L) (x:=some (g,cap)) (some (g,cap)) [] ⟨⟨hgs,hlen⟩,fun h=>by cases h⟩ JH CR
 rw[Af rfl]at hs
 rw[hs]at hA
 clear hL hs
 cases e4
 rotate_left
 ·have ev:FO M ⟨e1,e2,true,true,e5⟩=[(EN 5 M.p).cs]:=by simp[FO,K8]
  rw[ev,Ad (by simp)]
  clear hSA ev
  simp only[Lg];refine Mz ?_
  repeat' ((first|exact tt|refine Ag hPA ?_|refine Ag hP ?_|refine Ag hA ?_|refine c2 hDr ?_|refine Ab hF5 ?_|refine na fun b=>?_|refine nb fun b hb=>?_|refine iq ?_|(refine jq ?_ ?_<;>intro h h')|exact wZ|refine Aa ?_ ?_)<;>try refine Mz ?_)
  all_goals exact JI (L:=L) (x:=some (g,cap)) (some (g,cap)) [] ⟨⟨hgs,hlen⟩,fun h=>by cases h⟩ JH CR
 ·have ev:FO M ⟨e1,e2,true,false,e5⟩=[(EN 5 M.p).cs,[.int .i64 6,.str [],.int .i64 0,.str [],.int .i64 0,.int .i64 0,.str [],.int .i64 0,.int .i64 0,.str [],.str M.p.s,.int .i64 M.p.sc,.int .i64 0]]:=by simp[FO,K8];repeat' (first|rfl|refine ⟨?_, ?_⟩)
  have hSA:=hSA rfl rfl
  rw[ev,Af ⟨rfl,rfl⟩]
  have hsc:(I0 ⟨e1,e2,true,false,e5⟩ M.nx).cs=[.str e1,.int .i64 e2,.bool true,.bool true,.int .i64 M.nx]:=rfl
  simp only[I0]at hSA hsc ⊢
  clear ev hsc
  generalize A7 L1 kd (Es.enc ⟨e1,e2,true,true,M.nx⟩)=L2 at *
  simp only[Lg];refine Mz ?_
  repeat' ((first|exact tt|refine Ag hPA ?_|refine Ag hP ?_|refine Ag hA ?_|refine c2 hDr ?_|refine Ab hF5 ?_|((refine Ex hSA (fun gc hc=>?_) (fun gb gc hn2 h2 hc=>?_))<;>(try simp only[Bt,Bu,Bc]at hn2))|refine na fun b=>?_|refine nb fun b hb=>?_|refine iq ?_|(refine jq ?_ ?_<;>intro h h')|exact wZ|refine Aa ?_ ?_)<;>try refine Mz ?_)
  all_goals refine ⟨⟨by omega,by unfold maxLen;omega⟩, ?_⟩
  all_goals first
  | exact JI (L:=L) (x:=some (g,cap)) (some (gb,gc)) (Aq cap L1) ⟨⟨h2,hc⟩,fun h=>by cases h⟩ JH CR
  | exact JI (L:=L) (x:=some (g,cap)) (some (g,gc)) [] ⟨⟨hgs,hc⟩,fun h=>by cases h⟩ JH CR
theorem Zd{L:List PrP}{K:List HdC}{m:MsgC}(h:(Gn L K m).2.1=0):∃ x,BC K m.ht=some x∧¬ (m.k=4∧(Av L m.p.s m.p.sc).1.cl=false∧H5 m.p x.h x.t=false)∧¬ (¬ m.k=4∧KR x.r m=false)∧
  ¬ (m.k=4∧(Av L m.p.s m.p.sc).1.o=true∧(((Av L m.p.s m.p.sc).1.cl=true∧m.nx<(Av L m.p.s m.p.sc).1.st)∨((Av L m.p.s m.p.sc).1.cl=false∧¬ m.nx=m.p.q)))∧Ia x.r m (Av L m.p.s m.p.sc).1.o=true:=by
 unfold Gn at h
 split at h
 ·rename_i h1;exact absurd h h1
 cases hst:BC K m.ht with
 | none=>rw[hst]at h;cases h
 | some x=>
  rw[hst]at h
  simp only at h
  split at h
  ·cases h
  rename_i h1
  split at h
  ·cases h
  rename_i h2
  split at h
  ·rename_i h3;exact absurd h h3
  split at h
  ·cases h
  rename_i h4
  split at h
  ·cases h
  rename_i h5
  exact ⟨x,rfl,h1,h2,h4,by simpa using h5⟩
theorem a0S{A B:Prop}(h:B)(e:A=B:=by (simp (disch:=omega) only[*, ↓Ed,Eu, ↓reduceIte,reduceCtorEq,Nat.reduceAdd,Nat.reduceEqDiff,Nat.reduceLT,Nat.reduceLeDiff,Int.reduceToNat,Int.reduceEq,Int.reduceLT,Int.reduceLE,Ap,Ao,Ax,AJ,AY,Int.reduceAdd,AH,AN,PktC.cs,Es.cs,PfC.cs,HdC.cs,BF,Cw,Co,C6,Dc, ↓H1, ↓Gi, ↓Gj, ↓GM, ↓Ff, ↓Gk, ↓Gl, ↓Ez, ↓EL,DZ,C4,eqC_i,eqC_s,eqC_nil,oand_some];first|done|rfl)):A:=e▸h
theorem b3g(s c m:Nat)(L:List PrP)(n:Nat)(hB:StB L n)(hn:n≤900)(K:List HdC)(M:MsgC)(ht tm:Int)(told:List HdC)(hp:BO M.p=true)(l1:M.p.s.length≤1000000)(l2:M.p.d.length≤1000000)(l3:M.p.x.length≤1000000)(hf:Bw M.pr)(hk:M.k=4)(hnx:0≤M.nx)
  (x:Bl) (hx:stOk s L x) (ho:Bf [c,m] x) (Ae:¬ c=s∧¬ s=c) (hms:¬ m=s∧¬ s=m) (hcm:¬ c=m∧¬ m=c) (hE:(Gn L K M).2.1=0):
  CT Tryz.prog 46 [Ds s c ht tm told,.agg (AD M)] (lk (AF s L x++BI c m K)) (HE s c m (Ha L M (Av L M.p.s M.p.sc).1) K x (.tup [.sl none 13 (FO M (Av L M.p.s M.p.sc).1),.int .i64 0])):=by
 have hI:=hB.I
 have hH:=MF s c L hI M.p ht tm told hp l1 l2 l3 x hx
 have hSt:=Io c m hcm.1 hcm.2 K M.ht
 obtain ⟨h,hst,q1, -,q3,q4⟩:=Zd hE
 obtain ⟨hh,hlt, -⟩:=PM hE
 rw[hst]at hSt
 simp only[Cp,EH]at hSt
 have hO:=NH M.p h.h h.t
 have hLt:=PT M (Av L M.p.s M.p.sc).1
 rw[hlt]at hLt
 obtain ⟨p1,p2,p3, -⟩:=Gh hp
 obtain ⟨g,cap,rfl⟩:=Fj (FT hh).2.2.1 hx
 have hHE:EK L M.p=(Av L M.p.s M.p.sc).1:=by unfold EK;rw[Af hh]
 rw[hHE,hh]at hH
 have hgs:=hx.d
 have hsm:(Av L M.p.s M.p.sc).1.o=true→(Av L M.p.s M.p.sc).1.cl=false→(I0 (Av L M.p.s M.p.sc).1 M.nx).may=true:=fun a _=>by
  have:=X3 hlt a
  exact a0s (Sb (FT hh).1) a (by omega)
 have hBk:=a1a s c L n hB hn M (Av L M.p.s M.p.sc).1 h ht tm told hp l1 l2 (by have:=Sc (FT hh).1;omega) hf q4 hsm g cap hx
 have f0:Ac (decide ((0:Int)=0)=true):=rfl
 simp only[hk,true_and]at q1 q3
 clear hsm hI hB hx hp l1 l2 l3 hf hst hE p1 p2 p3 hh hHE hlt q4
 generalize (Av L M.p.s M.p.sc).1=G at *
 obtain ⟨g1,g2,g3,g4,g5⟩:=G
 simp only at hH hLt hBk q1 q3
 generalize H5 M.p h.h h.t=OV at *
 generalize Ha L M ⟨g1,g2,g3,g4,g5⟩=L2 at *
 generalize FO M ⟨g1,g2,g3,g4,g5⟩=EV at *
 have h1':g4=true∨(g4=false∧OV=true):=by cases g4<;>cases OV<;>simp_all
 simp only[Bq,AA,Bi,Bj,Bf,AZ,B8,Cb,Cs,Cr]at hgs hH hBk ho ⊢
 refine Ta _ _ _ (by simp) ?_
 have hfin:g3=false∨(g3=true∧g4=true∧decide (M.nx<g5)=false)∨(g3=true∧g4=false∧decide (M.nx=M.p.q)=true):=by
  cases g3
  ·exact .inl rfl
  ·cases g4
   ·right;right;exact ⟨rfl,rfl,by simpa using q3⟩
   ·right;left;exact ⟨rfl,rfl,by simpa using q3⟩
 clear q1 q3
 rcases h1' with rfl | ⟨rfl,rfl⟩
 all_goals rcases hfin with rfl | ⟨rfl,hz,f9⟩ | ⟨rfl,hz,f9⟩
 all_goals first|(cases hz;done)|skip
 all_goals try clear hz
 all_goals (simp only[Hc,Cz.z1];refine a0S ?_;try exact tt)
 all_goals repeat' ((first|exact tt|refine c2 hH ?_|refine c2 hSt ?_|refine Ab hO ?_|refine Ab hLt ?_|((refine Rw hBk (fun k2 e2=>?_) (fun ge k2 cs f5 f6 f7 e2=>?_) hgs)<;>(try simp only[Bt,Bu,Bc]at f5))|refine na fun b=>?_|refine nb fun b hb=>?_|refine iq ?_|(refine jq ?_ ?_<;>intro h h')|exact wZ|refine Aa ?_ ?_)<;>try refine a0S ?_)
 all_goals first
 | exact Dy (L:=L) (x:=some (g,cap)) (some (ge,k2)) cs ⟨⟨f6,e2⟩,Dx,fun h=>by cases h⟩ qb CR
 | exact Dy (L:=L) (x:=some (g,cap)) (some (g,k2)) [] ⟨⟨hgs,e2⟩,Dx,fun h=>by cases h⟩ qb CR
theorem a0T{A B:Prop}(h:B)(e:A=B:=by (simp (disch:=omega) only[*, ↓Ed,Eu, ↓reduceIte,reduceCtorEq,Nat.reduceAdd,Nat.reduceEqDiff,Nat.reduceLT,Nat.reduceLeDiff,Int.reduceToNat,Int.reduceEq,Int.reduceLT,Int.reduceLE,Ap,Ao,Ax,AJ,AY,Int.reduceAdd,AH,AN,PktC.cs,Es.cs,PfC.cs,HdC.cs,BF,Cw,Co,C6,Dc, ↓H1, ↓Gi, ↓Gj, ↓GM, ↓Ff, ↓Gk, ↓Gl, ↓Ez, ↓EL,DZ,C4,eqC_i,eqC_s,eqC_nil,oand_some];first|done|rfl)):A:=e▸h
theorem b2V(s c m:Nat)(L:List PrP)(n:Nat)(hB:StB L n)(hn:n≤900)(K:List HdC)(M:MsgC)(ht tm:Int)(told:List HdC)(hp:BO M.p=true)(l1:M.p.s.length≤1000000)(l2:M.p.d.length≤1000000)(l3:M.p.x.length≤1000000)(hf:Bw M.pr)(hfc:Bw M.cl)(hk:¬ M.k=4)(hnx:0≤M.nx)
  (x:Bl) (hx:stOk s L x) (ho:Bf [c,m] x) (Ae:¬ c=s∧¬ s=c) (hms:¬ m=s∧¬ s=m) (hcm:¬ c=m∧¬ m=c) (hE:(Gn L K M).2.1=0):
  CT Tryz.prog 47 [Ds s c ht tm told,.agg (AD M)] (lk (AF s L x++BI c m K)) (HE s c m (Ha L M (Av L M.p.s M.p.sc).1) K x (.tup [.sl none 13 (FO M (Av L M.p.s M.p.sc).1),.int .i64 0])):=by
 have hI:=hB.I
 have hH:=MF s c L hI M.p ht tm told hp l1 l2 l3 x hx
 have hSt:=Io c m hcm.1 hcm.2 K M.ht
 obtain ⟨h,hst, -,q2, -,q4⟩:=Zd hE
 obtain ⟨hh,hlt, -⟩:=PM hE
 rw[hst]at hSt
 simp only[Cp,EH]at hSt
 have hPO:=D8 7 M.p.d M.p.dc 0 l2
 have hV:=Tn h.r h.n M.cl hfc (Ah 7 M.p.d M.p.dc 0)
 have hDe:=Te ((DO h.r M.cl (Ah 7 M.p.d M.p.dc 0)).getD []) (a1w _ _ _)
 have hSe:=a0r h.r M
 change CP _ _ [.agg h.rt,_,_] _ at hV
 have hLt:=PT M (Av L M.p.s M.p.sc).1
 rw[hlt]at hLt
 obtain ⟨p1,p2,p3, -⟩:=Gh hp
 obtain ⟨g,cap,rfl⟩:=Fj (FT hh).2.2.1 hx
 have hHE:EK L M.p=(Av L M.p.s M.p.sc).1:=by unfold EK;rw[Af hh]
 rw[hHE,hh]at hH
 have hgs:=hx.d
 have hsm:(Av L M.p.s M.p.sc).1.o=true→(Av L M.p.s M.p.sc).1.cl=false→(I0 (Av L M.p.s M.p.sc).1 M.nx).may=true:=fun a _=>by
  have:=X3 hlt a
  exact a0s (Sb (FT hh).1) a (by omega)
 have hBk:=a1a s c L n hB hn M (Av L M.p.s M.p.sc).1 h ht tm told hp l1 l2 (by have:=Sc (FT hh).1;omega) hf q4 hsm g cap hx
 have f0:Ac (decide ((0:Int)=0)=true):=rfl
 have hsf:KR h.r M=true:=by
  cases hs:KR h.r M
  ·exact absurd ⟨hk,hs⟩ q2
  ·rfl
 rw[hsf]at hSe
 clear hsm hI hB hx hp l1 l2 l3 hf hfc hst hE p1 p2 p3 hh hHE hlt q4 q2 hsf
 generalize Ah 7 M.p.d M.p.dc 0=key at *
 generalize (DO h.r M.cl key).getD []=V at *
 generalize (DO h.r M.cl key).isSome=VS at *
 obtain ⟨⟨⟨d1,d2,d3,d4,d5⟩,d6⟩,hD⟩:∃ q,C1 V=q:=⟨_,rfl⟩
 rw[hD]at hDe hSe
 simp only[Bool.true_eq,AP,Bs]at hDe hSe
 obtain ⟨rfl,rfl,rfl,rfl⟩:=hSe
 clear hD
 generalize (Av L M.p.s M.p.sc).1=G at *
 obtain ⟨g1,g2,g3,g4,g5⟩:=G
 try simp only at hH hLt hBk
 generalize Ha L M ⟨g1,g2,g3,g4,g5⟩=L2 at *
 generalize FO M ⟨g1,g2,g3,g4,g5⟩=EV at *
 simp only[Bq,AA,Bi,Bj,Bf,AZ,B8,Cb,Cs,Cr]at hgs hH hBk ho ⊢
 refine S7 _ _ _ (by simp) ?_
 all_goals (simp only[Iy,Cz.z1];refine a0T ?_;try exact tt)
 all_goals repeat' ((first|exact tt|refine c2 hH ?_|refine c2 hSt ?_|refine Ag hPO ?_|refine Ag hV ?_|refine Ab hDe ?_|refine Ab hLt ?_|((refine Rw hBk (fun k2 e2=>?_) (fun ge k2 cs f5 f6 f7 e2=>?_) hgs)<;>(try simp only[Bt,Bu,Bc]at f5))|refine na fun b=>?_|refine nb fun b hb=>?_|refine iq ?_|(refine jq ?_ ?_<;>intro h h')|exact wZ|refine Aa ?_ ?_)<;>try refine a0T ?_)
 all_goals first
 | exact Dy (L:=L) (x:=some (g,cap)) (some (ge,k2)) cs ⟨⟨f6,e2⟩,Dx,fun h=>by cases h⟩ qb CR
 | exact Dy (L:=L) (x:=some (g,cap)) (some (g,k2)) [] ⟨⟨hgs,e2⟩,Dx,fun h=>by cases h⟩ qb CR
theorem a1Y{L:List PrP}{K:List HdC}{m:MsgC}(h:(HO L K m).2.1=0):¬ ((Av L m.p.s m.p.sc).1.o=true∧¬ m.p.q=Fg L 6 m.p.s m.p.sc)∧∃ x,BC K m.ht=some x∧IH x.r m.pr (Ah 3 m.p.d m.p.dc m.p.q) (BB m.a)=true:=by
 unfold HO at h
 split at h
 ·rename_i h1;exact absurd h h1
 split at h
 ·cases h
 rename_i hq
 refine ⟨hq, ?_⟩
 cases hst:BC K m.ht with
 | none=>rw[hst]at h;cases h
 | some x=>
  rw[hst]at h
  simp only at h
  split at h
  ·cases h
  ·rename_i h1;exact ⟨x,rfl,by simpa using h1⟩
theorem Qo{A B:Prop}(h:B)(e:A=B:=by (simp (disch:=omega) only[*, ↓Ed,Eu, ↓reduceIte,reduceCtorEq,Nat.reduceAdd,Nat.reduceEqDiff,Nat.reduceLT,Nat.reduceLeDiff,Int.reduceToNat,Int.reduceEq,Int.reduceLT,Int.reduceLE,Ap,Ao,Ax,AJ,AY,Int.reduceAdd,AH,AN,PktC.cs,Es.cs,PfC.cs,HdC.cs,BF,Cw,Co,C6,Dc, ↓H1, ↓Gi, ↓Gj, ↓GM, ↓Ff, ↓Gk, ↓Gl, ↓Ez, ↓EL,DZ,C4,eqC_i,eqC_s,eqC_nil,oand_some];first|done|rfl)):A:=e▸h
theorem b2T(s c m:Nat)(L:List PrP)(n:Nat)(hB:StB L n)(hn:n≤900)(K:List HdC)(M:MsgC)(ht tm:Int)(told:List HdC)(hp:BO M.p=true)(l1:M.p.s.length≤1000000)(l2:M.p.d.length≤1000000)(l3:M.p.x.length≤1000000)(la:M.a.length≤1000000)(hf:Bw M.pr)
  (x:Bl) (hx:stOk s L x) (ho:Bf [c,m] x) (Ae:¬ c=s∧¬ s=c) (hms:¬ m=s∧¬ s=m) (hcm:¬ c=m∧¬ m=c) (hE:(HO L K M).2.1=0):
  CT Tryz.prog 45 [Ds s c ht tm told,.agg (AD M)] (lk (AF s L x++BI c m K)) (HE s c m (K6 L M.p (Av L M.p.s M.p.sc).1.o) K x (.tup [.sl none 13 [(EN 4 M.p).cs],.int .i64 0])):=by
 have hI:=hB.I
 have hH:=MF s c L hI M.p ht tm told hp l1 l2 l3 x hx
 have hN:=Qs s L hI 6 M.p.s M.p.sc l1 x hx
 have hSt:=Io c m hcm.1 hcm.2 K M.ht
 have hPO:=D8 3 M.p.d M.p.dc M.p.q l2
 have hAn:=Tm M.a la
 have hDr:=a1c s c L hI M.p ht tm told l1 x hx
 have hF4:=NG 4 M.p
 obtain ⟨hq,h,hst,hhf⟩:=a1Y hE
 obtain ⟨hh, -⟩:=QV hE
 have hF:=L6 h.r h.n M.pr hf (Ah 3 M.p.d M.p.dc M.p.q) (BB M.a)
 change CP _ _ [.agg h.rt,_,_,_] _ at hF
 rw[hhf]at hF
 rw[hst]at hSt
 simp only[Cp,EH]at hSt
 obtain ⟨p1,p2,p3, -⟩:=Gh hp
 obtain ⟨g,cap,rfl⟩:=Fj (FT hh).2.2.1 hx
 have hHE:EK L M.p=(Av L M.p.s M.p.sc).1:=by unfold EK;rw[Af hh]
 rw[hHE,hh]at hH
 have hgs:=hx.d
 have hBd:=hB.drop (Ah 1 M.p.s M.p.sc M.p.q)
 have hlen:(DF L (Ah 1 M.p.s M.p.sc M.p.q)).length≤cap:=En (Lx L _).length_le hx.2
 have hqn:EO 6 (M.p.q+1)=true:=by simp only[EO,EC,AP,Bs];omega
 have hSA:=N5 s _ hBd.I 6 M.p.s M.p.sc l1 (M.p.q+1) (some (g,cap)) ⟨hgs,hlen⟩
 rw[(Qd p1 hqn).1,(Qd (L:=L) p1 hqn).2]at hSA
 unfold K6
 have hq1:M.p.q≤1099511627776:=p3.2
 have hq0:1≤M.p.q:=p3.1
 have f0:Ac (decide ((0:Int)=0)=true):=rfl
 have eo:(EN 4 M.p).cs=[.int .i64 4,.str M.p.s,.int .i64 M.p.sc,.str M.p.d,.int .i64 M.p.dc,.int .i64 M.p.q,.str M.p.x,.int .i64 M.p.th,.int .i64 M.p.ta,.str [],.str [],.int .i64 0,.int .i64 0]:=rfl
 rw[eo]
 clear hBd hqn hI hB hx hp l1 l2 l3 la hf hst hhf hE p1 p2 p3 hh hHE eo
 generalize Ah 1 M.p.s M.p.sc M.p.q=key1 at *
 generalize Ah 3 M.p.d M.p.dc M.p.q=key3 at *
 generalize Ah 6 M.p.s M.p.sc 0=key6 at *
 generalize (Av L M.p.s M.p.sc).1=G at *
 obtain ⟨g1,g2,g3,g4,g5⟩:=G
 simp only at hH hq
 generalize Fg L 6 M.p.s M.p.sc=nn at *
 generalize BB M.a=av at *
 generalize DF L key1=L1 at *
 simp only[Bq,AA,Bi,Bj,Bf,AZ,B8,Cb,Cs,Cr]at hgs hH hN hDr hSA ho ⊢
 refine S6 _ _ _ (by simp) ?_
 cases g3
 ·rw[Ad (by simp)]
  clear hSA hN hq
  simp only[Ix,Cz.z1];refine Qo ?_
  repeat' ((first|exact tt|refine c2 hH ?_|refine c2 hSt ?_|refine Ag hPO ?_|refine Ag hAn ?_|refine Ag hF ?_|refine Ab hF4 ?_|refine c2 hDr ?_|refine na fun b=>?_|refine nb fun b hb=>?_|refine iq ?_|(refine jq ?_ ?_<;>intro h h')|exact wZ|refine Aa ?_ ?_)<;>try refine Qo ?_)
  all_goals exact Dy (L:=L) (x:=some (g,cap)) (some (g,cap)) [] ⟨⟨hgs,hlen⟩,Dx,fun h=>by cases h⟩ qb CR
 ·rw[Af rfl]
  have f1:Ac (decide (M.p.q=nn)=true):=AO (by simpa using hq)
  clear hq
  generalize A7 L1 key6 (pn (M.p.q+1))=L2 at *
  simp only[Ix,Cz.z1];refine Qo ?_
  repeat' ((first|exact tt|refine c2 hH ?_|refine r2 hN ?_|refine c2 hSt ?_|refine Ag hPO ?_|refine Ag hAn ?_|refine Ag hF ?_|refine Ab hF4 ?_|refine c2 hDr ?_|((refine Ex hSA (fun gc hc=>?_) (fun gb gc hn2 h2 hc=>?_))<;>(try simp only[Bt,Bu,Bc]at hn2))|refine na fun b=>?_|refine nb fun b hb=>?_|refine iq ?_|(refine jq ?_ ?_<;>intro h h')|exact wZ|refine Aa ?_ ?_)<;>try refine Qo ?_)
  all_goals first
  | exact Dy (L:=L) (x:=some (g,cap)) (some (gb,gc)) (Aq cap L1) ⟨⟨h2,hc⟩,Dx,fun h=>by cases h⟩ qb CR
  | exact Dy (L:=L) (x:=some (g,cap)) (some (g,gc)) [] ⟨⟨hgs,hc⟩,Dx,fun h=>by cases h⟩ qb CR
abbrev LA(k:Int)(p:PktC)(a:List UInt8):List AV:=[.int .i64 k,.str p.s,.int .i64 p.sc,.str p.d,.int .i64 p.dc,.int .i64 p.q,.str p.x,.int .i64 p.th,.int .i64 p.ta,.str a,.str [],.int .i64 0,.int .i64 0]
theorem Qn{A B:Prop}(h:B)(e:A=B:=by (simp (disch:=omega) only[*, ↓Ed,Eu, ↓reduceIte,reduceCtorEq,Nat.reduceAdd,Nat.reduceEqDiff,Nat.reduceLT,Nat.reduceLeDiff,Int.reduceToNat,Int.reduceEq,Int.reduceLT,Int.reduceLE,Ap,Ao,Ax,AJ,AY,Int.reduceAdd,AH,AN,PktC.cs,Es.cs,PfC.cs,HdC.cs,BF,Cw,Co,C6,Dc, ↓H1, ↓Gi, ↓Gj, ↓GM, ↓Ff, ↓Gk, ↓Gl, ↓Ez, ↓EL,DZ,C4,eqC_i,eqC_s,eqC_nil,oand_some];first|done|rfl)):A:=e▸h
theorem b3d(s c m:Nat)(L:List PrP)(n:Nat)(hB:StB L n)(hn:n≤900)(K:List HdC)(M:MsgC)(ht tm:Int)(told:List HdC)(hp:BO M.p=true)(l1:M.p.s.length≤1000000)(l2:M.p.d.length≤1000000)(l3:M.p.x.length≤1000000)(hf:Bw M.pr)
  (x:Bl) (hx:stOk s L x) (ho:Bf [c,m] x) (Ae:¬ c=s∧¬ s=c) (hms:¬ m=s∧¬ s=m) (hcm:¬ c=m∧¬ m=c) (hE:(H7 L K ht tm M).2.1=0):
  CT Tryz.prog 44 [Ds s c ht tm told,.agg (AD M)] (lk (AF s L x++BI c m K)) (HE s c m (Me L M.p (Av L M.p.d M.p.dc).1.o) K x (.tup [.sl none 13 [LA 2 M.p [],LA 3 M.p (E2 M.p.x)],.int .i64 0])):=by
 have hI:=hB.I
 have hG:=N4 s L hI M.p.d M.p.dc l2 x hx
 have hO:=NH M.p ht tm
 have hFr:=a1d s c L hI M.p (Av L M.p.d M.p.dc).1 ht tm told l2 x hx
 have hSt:=Io c m hcm.1 hcm.2 K M.ht
 have hPO:=D8 1 M.p.s M.p.sc M.p.q l1
 have hP2:=D8 2 M.p.d M.p.dc M.p.q l2
 have hP3:=D8 3 M.p.d M.p.dc M.p.q l2
 have hKp:=PP M.p l1 l2 l3 hp
 have hA:=a8y M.p.x l3
 have hAn:=Tm (E2 M.p.x) (by have:=a2c M.p.x;omega)
 have hF2:=NG 2 M.p
 have hF3:=NG 3 M.p
 obtain ⟨h,hst,hhf⟩:=b0E hE
 obtain ⟨e1,⟨e2,e3⟩,e4,e5,e6, -⟩:=TB hE
 have hH:=L6 h.r h.n M.pr hf (Ah 1 M.p.s M.p.sc M.p.q) (Cg M.p)
 change CP _ _ [.agg h.rt,_,_,_] _ at hH
 rw[hhf]at hH
 rw[hst]at hSt
 rw[e5]at hO
 rw[e6]at hFr
 simp only[Cp,EH]at hSt
 obtain ⟨p1,p2,p3, -⟩:=Gh hp
 obtain ⟨g,cap,rfl⟩:∃ g cap,x=some (g,cap):=by
  unfold Av at e1
  simp only[AP]at e1
  exact Fj e1.1 hx
 have hgs:=hx.d
 have hqn:EO 5 (M.p.q+1)=true:=by simp only[EO,EC,AP,Bs];omega
 have hSA:=N5 s L hI 5 M.p.d M.p.dc l2 (M.p.q+1) (some (g,cap)) hx
 rw[(Qd (L:=L) p2 hqn).1,(Qd (L:=L) p2 hqn).2]at hSA
 have m2:B3 (Ah 2 M.p.d M.p.dc M.p.q) [1]=true:=(MI (by omega) p2 p3).may (by simp)
 have m3:B3 (Ah 3 M.p.d M.p.dc M.p.q) (BB (E2 M.p.x))=true:=(MI (by omega) p2 p3).may (Qe _)
 have mA:B3 (Ah 5 M.p.d M.p.dc 0) (pn (M.p.q+1))=true:=(MH (by omega) p2).may (Tv _ (by omega))
 have hSB:=MG s L hI.rise (by have:=hI.len;omega) (Ah 2 M.p.d M.p.dc M.p.q) [1] (by have:=Ky 2 M.p.d M.p.dc M.p.q;omega) (by simp) (some (g,cap)) hx
 rw[(Mo m2).1,(Mo (L:=L) m2).2]at hSB
 have hSC:=fun (L1:List PrP) (hB1:StB L1 (n+1)) x hx=>MG s L1 hB1.I.rise (by have:=hB1.I.len;omega) (Ah 3 M.p.d M.p.dc M.p.q) (BB (E2 M.p.x)) (by have:=Ky 3 M.p.d M.p.dc M.p.q;omega) (by rw[FB];omega) x hx
 simp only[(Mo m3).1,(Mo (L:=L) m3).2]at hSC
 have hBA:=hB.set (by omega) mA
 have hBB:=hB.set (by omega) m2
 have hSCA:=fun g' c' h1 h2=>hSC _ hBA (some (g',c')) ⟨h1,h2⟩
 have hSCB:=fun g' c' h1 h2=>hSC _ hBB (some (g',c')) ⟨h1,h2⟩
 unfold Me
 have hq1:M.p.q≤1099511627776:=p3.2
 have hq0:1≤M.p.q:=p3.1
 have f0:Ac (decide ((0:Int)=0)=true):=rfl
 clear hSC hBA hBB mA m2 m3 hqn hI hB hx hp l1 l2 l3 hf hst hhf hE e5 e6 p1 p2 p3
 generalize Cg M.p=kp at *
 generalize Ah 1 M.p.s M.p.sc M.p.q=key at *
 generalize Ah 2 M.p.d M.p.dc M.p.q=key2 at *
 generalize Ah 3 M.p.d M.p.dc M.p.q=key3 at *
 generalize Ah 5 M.p.d M.p.dc 0=key5 at *
 generalize Av L M.p.d M.p.dc=G at *
 obtain ⟨⟨g1,g2,g3,g4,g5⟩,g6⟩:=G
 simp only at hG hFr e1 e2 e3 e4
 subst e1 e2 e3 e4
 generalize E2 M.p.x=an at *
 generalize BB an=av at *
 simp only[Bq,AA,Bi,Bj,Bf,AZ,B8,Cb,Cs,Cr]at hgs hG hFr hSA hSB hSCA hSCB ho ⊢
 refine S9 _ _ _ (by simp) ?_
 cases g3
 ·rw[Ad (by simp)]
  clear hSA hSCA
  generalize A7 L key2 [1]=L1 at *
  generalize A7 L1 key3 av=L2 at *
  simp only[Hb,Cz.z1];refine Qn ?_
  repeat' ((first|exact tt|refine c2 hG ?_|refine Ab hO ?_|refine c2 hFr ?_|refine c2 hSt ?_|refine Ag hPO ?_|refine Ag hKp ?_|refine Ag hH ?_|refine Ab hP2 ?_|refine Ab hP3 ?_|refine Ab hA ?_|refine Ab hAn ?_|refine Ab hF3 ?_|refine Ag hF2 ?_|refine Ab hF2 ?_|((refine Ex hSB (fun gc hc=>?_) (fun gb gc hn2 h2 hc=>?_))<;>(try simp only[Bt,Bu,Bc]at hn2))|((refine Ex (hSCB _ _ hgs hc) (fun gd hd=>?_) (fun gx gd hm2 h3 hd=>?_))<;>(try simp only[Bt,Bu,Bc]at hm2))|((refine Ex (hSCB _ _ h2 hc) (fun gd hd=>?_) (fun gx gd hm2 h3 hd=>?_))<;>(try simp only[Bt,Bu,Bc]at hm2))|refine na fun b=>?_|refine nb fun b hb=>?_|refine iq ?_|(refine jq ?_ ?_<;>intro h h')|exact wZ|refine Aa ?_ ?_)<;>try refine Qn ?_)
  all_goals first
  | exact Dy (L:=L) (x:=some (g,cap)) (some (gx,gd)) (Aq cap L) ⟨⟨h3,hd⟩,Dx,fun h=>by cases h⟩ qb CR
  | exact Dy (L:=L) (x:=some (g,cap)) (some (gx,gd)) (Aq gc L1) ⟨⟨h3,hd⟩,Dx,fun h=>by cases h⟩ qb CR
  | exact Dy (L:=L) (x:=some (g,cap)) (some (gb,gd)) (Aq cap L) ⟨⟨h2,hd⟩,Dx,fun h=>by cases h⟩ qb CR
  | exact Dy (L:=L) (x:=some (g,cap)) (some (g,gd)) [] ⟨⟨hgs,hd⟩,Dx,fun h=>by cases h⟩ qb CR
 ·rw[Af rfl]
  clear hSB hSCB hP2
  generalize A7 L key5 (pn (M.p.q+1))=L1 at *
  generalize A7 L1 key3 av=L2 at *
  simp only[Hb,Cz.z1];refine Qn ?_
  repeat' ((first|exact tt|refine c2 hG ?_|refine Ab hO ?_|refine c2 hFr ?_|refine c2 hSt ?_|refine Ag hPO ?_|refine Ag hKp ?_|refine Ag hH ?_|refine Ab hP3 ?_|refine Ab hA ?_|refine Ab hAn ?_|refine Ab hF3 ?_|refine Ag hF2 ?_|refine Ab hF2 ?_|((refine Ex hSA (fun gc hc=>?_) (fun gb gc hn2 h2 hc=>?_))<;>(try simp only[Bt,Bu,Bc]at hn2))|((refine Ex (hSCA _ _ hgs hc) (fun gd hd=>?_) (fun gx gd hm2 h3 hd=>?_))<;>(try simp only[Bt,Bu,Bc]at hm2))|((refine Ex (hSCA _ _ h2 hc) (fun gd hd=>?_) (fun gx gd hm2 h3 hd=>?_))<;>(try simp only[Bt,Bu,Bc]at hm2))|refine na fun b=>?_|refine nb fun b hb=>?_|refine iq ?_|(refine jq ?_ ?_<;>intro h h')|exact wZ|refine Aa ?_ ?_)<;>try refine Qn ?_)
  all_goals first
  | exact Dy (L:=L) (x:=some (g,cap)) (some (gx,gd)) (Aq cap L) ⟨⟨h3,hd⟩,Dx,fun h=>by cases h⟩ qb CR
  | exact Dy (L:=L) (x:=some (g,cap)) (some (gx,gd)) (Aq gc L1) ⟨⟨h3,hd⟩,Dx,fun h=>by cases h⟩ qb CR
  | exact Dy (L:=L) (x:=some (g,cap)) (some (gb,gd)) (Aq cap L) ⟨⟨h2,hd⟩,Dx,fun h=>by cases h⟩ qb CR
  | exact Dy (L:=L) (x:=some (g,cap)) (some (g,gd)) [] ⟨⟨hgs,hd⟩,Dx,fun h=>by cases h⟩ qb CR
section
variable {P:Program} {d:Option Nat} {st:St} {KK:St→Prop}
theorem a4Y{b c e g:Nat}{x y z w:List AV}{o:Nat→Option (List AV)}(h1:o b=some x∧o c=some y∧o e=some z∧o g=some w):∀ q cs,lk [(b,x),(c,y),(e,z),(g,w)] q=some cs→o q=some cs:=fun q cs hq=>by
 rw[lk_cons]at hq
 by_cases hb:q=b
 ·subst hb;rw[Af rfl]at hq;rw[h1.1,hq]
 ·rw[Ad hb]at hq;exact Pr h1.2.1 h1.2.2.1 h1.2.2.2 q cs hq
theorem Lf{f s g cap c m:Nat}{vs:List AV}{L L':List PrP}{K:List HdC}{v:AV}(h:CT Tryz.prog f vs (lk [(s,[.hsl g 115 2 L.length cap]),(g,Aq cap L),(c,[.mapv m]),(m,[EA K])]) (HE s c m L' K (some (g,cap)) v))
  (k1:∀ k,L'.length≤k→KS (St.put ⟨st.t,BG [(s,[.hsl g 115 2 L'.length k]),(g,Aq k L'),(c,[.mapv m]),(m,[EA K])] st.o⟩ d v) KK)
  (k2:∀ b k cs,st.o b=none→(¬ b=s∧¬ s=b)→(¬ b=g∧¬ g=b)→(¬ b=c∧¬ c=b)→(¬ b=m∧¬ m=b)→L'.length≤k→KS (St.put ⟨st.t,BG [(s,[.hsl b 115 2 L'.length k]),(b,Aq k L'),(c,[.mapv m]),(m,[EA K]),(g,cs)] st.o⟩ d v) KK)
  (q0:¬ g=s∧¬ s=g) (qc:¬ g=c∧¬ c=g) (qm:¬ g=m∧¬ m=g)
  (q:st.o s=some [.hsl g 115 2 L.length cap]∧st.o g=some (Aq cap L)∧st.o c=some [.mapv m]∧st.o m=some [EA K]):Dg Tryz.prog f vs d st KK:=by
 refine ⟨_,_,a4Y q,h, ?_⟩
 rintro r o2 ⟨y,cs,⟨hy,ho,hyx⟩,rfl,rfl⟩ hf
 rcases y with _ | ⟨b,k⟩
 ·cases hyx rfl
 have hb:=hy.1
 simp only[Bf,AZ,B8,Cb,Cs,Cr]at ho
 by_cases e:b=g
 ·subst e
  have e2:(fun b'=>(lk (ov (AF s L' (some (b,k))++BI c m K) (HV (some (b,cap)) cs)) b').or (st.o b'))=BG [(s,[.hsl b 115 2 L'.length k]),(b,Aq k L'),(c,[.mapv m]),(m,[EA K])] st.o:=by
   funext q
   simp only[GI,AA,Bi,Bj,ov_cons,ov_nil,del_cons,del_nil,BG,hb,BV,Bo]
  rw[e2]
  exact k1 k hy.2
 ·have e':¬ g=b:=fun h=>e h.symm
  have e2:(fun b'=>(lk (ov (AF s L' (some (b,k))++BI c m K) (HV (some (g,cap)) cs)) b').or (st.o b'))=BG [(s,[.hsl b 115 2 L'.length k]),(b,Aq k L'),(c,[.mapv m]),(m,[EA K]),(g,cs)] st.o:=by
   funext q
   simp only[GI,AA,Bi,Bj,ov_cons,ov_nil,del_cons,del_nil,BG,q0,qc,qm,e,e',BV]
  rw[e2]
  refine k2 b k cs (hf b (Aq k L') ?_ ?_) hb ⟨e,e'⟩ ho.1 ho.2 hy.2
  ·simp[GI,AA,ov_cons,ov_nil,del_cons,del_nil,lk,hb,e]
  ·simp[lk,hb,e,ho]
end
structure LgM (M:MsgC):Prop where
 s:M.p.s.length≤1000000
 d:M.p.d.length≤1000000
 x:M.p.x.length≤1000000
 a:M.a.length≤1000000
 pr:Bw M.pr
 cl:Bw M.cl
theorem Yq{M:MsgC}(h:Eq M)(h1:M.k≠1):BO M.p=true∧0≤M.nx:=by
 obtain ⟨_,_,_,_,h5⟩:=h
 have:=h5 h1
 exact ⟨this.1,this.2.1.1⟩
theorem Ik{A B:Prop}(h:B)(e:A=B:=by (simp (disch:=omega) only[*, ↓Ed,Eu, ↓reduceIte,reduceCtorEq,Nat.reduceAdd,Nat.reduceEqDiff,Nat.reduceLT,Nat.reduceLeDiff,Int.reduceToNat,Int.reduceEq,Int.reduceLT,Int.reduceLE,Ap,Ao,Ax,AJ,AY,Int.reduceAdd,AH,AN, ↓Ht, ↓H0, ↓Ez, ↓EL,DZ,C4];first|done|rfl)):A:=e▸h
theorem b2Y(s c m:Nat)(L:List PrP)(hI:StI L)(K:List HdC)(M:MsgC)(ht tm:Int)(told:List HdC)(hl:LgM M)(h1:¬ Eq M∨M.k≠1)
  (x:Bl) (hx:stOk s L x) (ho:Bf [c,m] x) (Ae:¬ c=s∧¬ s=c) (hms:¬ m=s∧¬ s=m) (hcm:¬ c=m∧¬ m=c) (E:Int) (hE:(EJ L K ht tm M).2.1=E) (h0:E≠0):
  CT Tryz.prog 14 [Ds s c ht tm told,.agg (AD M)] (lk (AF s L x++BI c m K)) (fun r o=>r=.tup [.sl none 13 [],.int .i64 E]∧o=lk (AF s L x++BI c m K)):=by
 have hM:=Tq M hl.pr hl.cl hl.s hl.d hl.x
 have hgs:=hx.d
 by_cases hm:Eq M
 rotate_left
 ·have hE1:E=1:=by rw[← hE];unfold EJ;rw[Af hm]
  subst hE1
  have hM:CP Tryz.prog 42 [.agg (AD M)] (.bool false):=by simpa[hm]using hM
  clear hI hl h1 hx hE h0 hm
  refine Hw _ _ _ (by simp) ?_
  rcases x with _ | ⟨g,cap⟩
  all_goals simp only[B4,Bq,Ce,AA,Bi,Bj,Bf,AZ,B8,Cb,Cs,Cr]at hgs ho ⊢
  all_goals (simp only[Gy];refine Ik ?_;try exact tt)
  all_goals repeat' ((first|exact tt|refine Ab hM ?_|refine na fun b=>?_|refine nb fun b hb=>?_|refine iq ?_|(refine jq ?_ ?_<;>intro h h')|exact wZ|refine Aa ?_ ?_)<;>try refine Ik ?_)
  all_goals exact AG qa (A6 _)
 have hk1:¬ M.k=1:=by
  rcases h1 with h1|h1
  ·exact absurd hm h1
  ·exact h1
 obtain ⟨hp,hnx⟩:=Yq hm hk1
 have hk5:=hm.1
 have hM:CP Tryz.prog 42 [.agg (AD M)] (.bool true):=by simpa[hm]using hM
 have f1:Ac (decide (M.k=1)=false):=A0 hk1
 by_cases k2:M.k=2
 ·rw[RP hm k2]at hE
  have hR:=b3c s c m L hI K M ht tm told hp hl.s hl.d hl.x hl.pr x hx ho Ae hms hcm E hE h0
  have f2:Ac (decide (M.k=2)=true):=AO k2
  clear hI hl h1 hx hE h0 hm hp hnx hk5 hk1 k2
  refine Hw _ _ _ (by simp) ?_
  rcases x with _ | ⟨g,cap⟩
  all_goals simp only[B4,Bq,Ce,AA,Bi,Bj,Bf,AZ,B8,Cb,Cs,Cr]at hgs hR ho ⊢
  all_goals (simp only[Gy];refine Ik ?_;try exact tt)
  all_goals repeat' ((first|exact tt|refine Ab hM ?_|refine c3 hR ?_|(refine c4 hR ?_ qc)|refine na fun b=>?_|refine nb fun b hb=>?_|refine iq ?_|(refine jq ?_ ?_<;>intro h h')|exact wZ|refine Aa ?_ ?_)<;>try refine Ik ?_)
  all_goals exact AG qa (A6 _)
 have f2:Ac (decide (M.k=2)=false):=A0 k2
 by_cases k3:M.k=3
 ·rw[RQ hm k3]at hE
  have hR:=b2S s c m L hI K M ht tm told hp hl.s hl.d hl.x hl.pr (Tm M.a hl.a) x hx ho Ae hms hcm E hE h0
  have f3:Ac (decide (M.k=3)=true):=AO k3
  clear hI hl h1 hx hE h0 hm hp hnx hk5 hk1 k2 k3
  refine Hw _ _ _ (by simp) ?_
  rcases x with _ | ⟨g,cap⟩
  all_goals simp only[B4,Bq,Ce,AA,Bi,Bj,Bf,AZ,B8,Cb,Cs,Cr]at hgs hR ho ⊢
  all_goals (simp only[Gy];refine Ik ?_;try exact tt)
  all_goals repeat' ((first|exact tt|refine Ab hM ?_|refine c3 hR ?_|(refine c4 hR ?_ qc)|refine na fun b=>?_|refine nb fun b hb=>?_|refine iq ?_|(refine jq ?_ ?_<;>intro h h')|exact wZ|refine Aa ?_ ?_)<;>try refine Ik ?_)
  all_goals exact AG qa (A6 _)
 have f3:Ac (decide (M.k=3)=false):=A0 k3
 rw[RS hm k2 k3]at hE
 by_cases k4:M.k=4
 ·have hR:=b3f s c m L hI K M ht tm told hp hl.s hl.d hl.x hl.pr k4 x hx ho Ae hms hcm E hE h0
  have f4:Ac (decide (M.k=4)=true):=AO k4
  clear hI hl h1 hx hE h0 hm hp hnx hk5 hk1 k2 k3 k4
  refine Hw _ _ _ (by simp) ?_
  rcases x with _ | ⟨g,cap⟩
  all_goals simp only[B4,Bq,Ce,AA,Bi,Bj,Bf,AZ,B8,Cb,Cs,Cr]at hgs hR ho ⊢
  all_goals (simp only[Gy];refine Ik ?_;try exact tt)
  all_goals repeat' ((first|exact tt|refine Ab hM ?_|refine c3 hR ?_|(refine c4 hR ?_ qc)|refine na fun b=>?_|refine nb fun b hb=>?_|refine iq ?_|(refine jq ?_ ?_<;>intro h h')|exact wZ|refine Aa ?_ ?_)<;>try refine Ik ?_)
  all_goals exact AG qa (A6 _)
 ·have hR:=b2U s c m L hI K M ht tm told hp hl.s hl.d hl.x hl.pr hl.cl k4 x hx ho Ae hms hcm E hE h0
  have f4:Ac (decide (M.k=4)=false):=A0 k4
  clear hI hl h1 hx hE h0 hm hp hnx hk5 hk1 k2 k3 k4
  refine Hw _ _ _ (by simp) ?_
  rcases x with _ | ⟨g,cap⟩
  all_goals simp only[B4,Bq,Ce,AA,Bi,Bj,Bf,AZ,B8,Cb,Cs,Cr]at hgs hR ho ⊢
  all_goals (simp only[Gy];refine Ik ?_;try exact tt)
  all_goals repeat' ((first|exact tt|refine Ab hM ?_|refine c3 hR ?_|(refine c4 hR ?_ qc)|refine na fun b=>?_|refine nb fun b hb=>?_|refine iq ?_|(refine jq ?_ ?_<;>intro h h')|exact wZ|refine Aa ?_ ?_)<;>try refine Ik ?_)
  all_goals exact AG qa (A6 _)
theorem JR{A B:Prop}(h:B)(e:A=B:=by (simp (disch:=omega) only[*, ↓Ed,Eu, ↓reduceIte,reduceCtorEq,Nat.reduceAdd,Nat.reduceEqDiff,Nat.reduceLT,Nat.reduceLeDiff,Int.reduceToNat,Int.reduceEq,Int.reduceLT,Int.reduceLE,Ap,Ao,Ax,AJ,AY,Int.reduceAdd,AH,AN, ↓Ht, ↓H0, ↓Ez, ↓EL,DZ,C4];first|done|rfl)):A:=e▸h
theorem b2Z(s c m:Nat)(L:List PrP)(n:Nat)(hB:StB L n)(hn:n≤900)(K:List HdC)(M:MsgC)(ht tm:Int)(told:List HdC)(hl:LgM M)(h1:M.k≠1)
  (x:Bl) (hx:stOk s L x) (ho:Bf [c,m] x) (Ae:¬ c=s∧¬ s=c) (hms:¬ m=s∧¬ s=m) (hcm:¬ c=m∧¬ m=c) (hE:(EJ L K ht tm M).2.1=0):
  CT Tryz.prog 14 [Ds s c ht tm told,.agg (AD M)] (lk (AF s L x++BI c m K)) (HE s c m (EJ L K ht tm M).2.2 K x (.tup [.sl none 13 ((EJ L K ht tm M).1.map EvC.cs),.int .i64 0])):=by
 have hI:=hB.I
 have hm:=RU hE
 obtain ⟨hp,hnx⟩:=Yq hm h1
 have hk5:=hm.1
 have hgs:=hx.d
 have hM:=Tq M hl.pr hl.cl hl.s hl.d hl.x
 have hM:CP Tryz.prog 42 [.agg (AD M)] (.bool true):=by simpa[hm]using hM
 have f1:Ac (decide (M.k=1)=false):=A0 h1
 by_cases k2:M.k=2
 ·rw[RP hm k2]at hE ⊢
  have hR:=b3d s c m L n hB hn K M ht tm told hp hl.s hl.d hl.x hl.pr x hx ho Ae hms hcm hE
  obtain ⟨e1, -, -, -, -,e6⟩:=TB hE
  rw[e6]
  obtain ⟨g,cap,rfl⟩:∃ g cap,x=some (g,cap):=by
   unfold Av at e1
   simp only[AP]at e1
   exact Fj e1.1 hx
  have f2:Ac (decide (M.k=2)=true):=AO k2
  change CT _ _ _ _ (HE s c m (Me L M.p (Av L M.p.d M.p.dc).1.o) K _ (.tup [.sl none 13 [LA 2 M.p [],LA 3 M.p (E2 M.p.x)],.int .i64 0]))
  generalize Me L M.p (Av L M.p.d M.p.dc).1.o=L2 at *
  generalize [LA 2 M.p [],LA 3 M.p (E2 M.p.x)]=EV at *
  clear hI hB hl h1 hx hE hm hp hnx hk5 e1 e6 k2
  simp only[Bq,AA,Bi,Bj,Bf,AZ,B8,Cb,Cs,Cr]at hgs hR ho ⊢
  refine Hw _ _ _ (by simp) ?_
  simp only[Gy];refine JR ?_
  repeat' ((first|exact tt|refine Ab hM ?_|(refine Lf hR (fun k0 e2=>?_) (fun ge k0 cs f5 f6 f7 f8 f9 e2=>?_) hgs ho.1 ho.2 qc)|refine na fun b=>?_|refine nb fun b hb=>?_|refine iq ?_|(refine jq ?_ ?_<;>intro h h')|exact wZ|refine Aa ?_ ?_)<;>try refine JR ?_)
  all_goals first
  | exact Dy (L:=L) (x:=some (g,cap)) (some (ge,k0)) cs ⟨⟨f6,e2⟩,Dx,fun h=>by cases h⟩ qb CR
  | exact Dy (L:=L) (x:=some (g,cap)) (some (g,k0)) [] ⟨⟨hgs,e2⟩,Dx,fun h=>by cases h⟩ qb CR
 have f2:Ac (decide (M.k=2)=false):=A0 k2
 by_cases k3:M.k=3
 ·rw[RQ hm k3]at hE ⊢
  have hR:=b2T s c m L n hB hn K M ht tm told hp hl.s hl.d hl.x hl.a hl.pr x hx ho Ae hms hcm hE
  obtain ⟨hh,e6⟩:=QV hE
  rw[e6]
  obtain ⟨g,cap,rfl⟩:=Fj (FT hh).2.2.1 hx
  have f3:Ac (decide (M.k=3)=true):=AO k3
  change CT _ _ _ _ (HE s c m (K6 L M.p (Av L M.p.s M.p.sc).1.o) K _ (.tup [.sl none 13 [(EN 4 M.p).cs],.int .i64 0]))
  generalize K6 L M.p (Av L M.p.s M.p.sc).1.o=L2 at *
  generalize [(EN 4 M.p).cs]=EV at *
  clear hI hB hl h1 hx hE hm hp hnx hk5 hh e6 k2 k3
  simp only[Bq,AA,Bi,Bj,Bf,AZ,B8,Cb,Cs,Cr]at hgs hR ho ⊢
  refine Hw _ _ _ (by simp) ?_
  simp only[Gy];refine JR ?_
  repeat' ((first|exact tt|refine Ab hM ?_|(refine Lf hR (fun k0 e2=>?_) (fun ge k0 cs f5 f6 f7 f8 f9 e2=>?_) hgs ho.1 ho.2 qc)|refine na fun b=>?_|refine nb fun b hb=>?_|refine iq ?_|(refine jq ?_ ?_<;>intro h h')|exact wZ|refine Aa ?_ ?_)<;>try refine JR ?_)
  all_goals first
  | exact Dy (L:=L) (x:=some (g,cap)) (some (ge,k0)) cs ⟨⟨f6,e2⟩,Dx,fun h=>by cases h⟩ qb CR
  | exact Dy (L:=L) (x:=some (g,cap)) (some (g,k0)) [] ⟨⟨hgs,e2⟩,Dx,fun h=>by cases h⟩ qb CR
 have f3:Ac (decide (M.k=3)=false):=A0 k3
 rw[RS hm k2 k3]at hE ⊢
 obtain ⟨hh, -, -,e6⟩:=PM hE
 rw[e6]
 obtain ⟨g,cap,rfl⟩:=Fj (FT hh).2.2.1 hx
 change CT _ _ _ _ (HE s c m (Ha L M (Av L M.p.s M.p.sc).1) K _ (.tup [.sl none 13 (FO M (Av L M.p.s M.p.sc).1),.int .i64 0]))
 by_cases k4:M.k=4
 ·have hR:=b3g s c m L n hB hn K M ht tm told hp hl.s hl.d hl.x hl.pr k4 hnx (some (g,cap)) hx ho Ae hms hcm hE
  have f4:Ac (decide (M.k=4)=true):=AO k4
  generalize Ha L M (Av L M.p.s M.p.sc).1=L2 at *
  generalize FO M (Av L M.p.s M.p.sc).1=EV at *
  clear hI hB hl h1 hx hE hm hp hnx hk5 hh e6 k2 k3 k4
  simp only[Bq,AA,Bi,Bj,Bf,AZ,B8,Cb,Cs,Cr]at hgs hR ho ⊢
  refine Hw _ _ _ (by simp) ?_
  simp only[Gy];refine JR ?_
  repeat' ((first|exact tt|refine Ab hM ?_|(refine Lf hR (fun k0 e2=>?_) (fun ge k0 cs f5 f6 f7 f8 f9 e2=>?_) hgs ho.1 ho.2 qc)|refine na fun b=>?_|refine nb fun b hb=>?_|refine iq ?_|(refine jq ?_ ?_<;>intro h h')|exact wZ|refine Aa ?_ ?_)<;>try refine JR ?_)
  all_goals first
  | exact Dy (L:=L) (x:=some (g,cap)) (some (ge,k0)) cs ⟨⟨f6,e2⟩,Dx,fun h=>by cases h⟩ qb CR
  | exact Dy (L:=L) (x:=some (g,cap)) (some (g,k0)) [] ⟨⟨hgs,e2⟩,Dx,fun h=>by cases h⟩ qb CR
 ·have hR:=b2V s c m L n hB hn K M ht tm told hp hl.s hl.d hl.x hl.pr hl.cl k4 hnx (some (g,cap)) hx ho Ae hms hcm hE
  have f4:Ac (decide (M.k=4)=false):=A0 k4
  generalize Ha L M (Av L M.p.s M.p.sc).1=L2 at *
  generalize FO M (Av L M.p.s M.p.sc).1=EV at *
  clear hI hB hl h1 hx hE hm hp hnx hk5 hh e6 k2 k3 k4
  simp only[Bq,AA,Bi,Bj,Bf,AZ,B8,Cb,Cs,Cr]at hgs hR ho ⊢
  refine Hw _ _ _ (by simp) ?_
  simp only[Gy];refine JR ?_
  repeat' ((first|exact tt|refine Ab hM ?_|(refine Lf hR (fun k0 e2=>?_) (fun ge k0 cs f5 f6 f7 f8 f9 e2=>?_) hgs ho.1 ho.2 qc)|refine na fun b=>?_|refine nb fun b hb=>?_|refine iq ?_|(refine jq ?_ ?_<;>intro h h')|exact wZ|refine Aa ?_ ?_)<;>try refine JR ?_)
  all_goals first
  | exact Dy (L:=L) (x:=some (g,cap)) (some (ge,k0)) cs ⟨⟨f6,e2⟩,Dx,fun h=>by cases h⟩ qb CR
  | exact Dy (L:=L) (x:=some (g,cap)) (some (g,k0)) [] ⟨⟨hgs,e2⟩,Dx,fun h=>by cases h⟩ qb CR
def Nk(K:List HdC)(h:HdC)(told:List HdC):List EvC:=if (CV K h told).2.1=true then [⟨7,default,[],[],0,h.h⟩] else []
theorem b3D{K:List HdC}{h:HdC}{told:List HdC}(hf:(CV K h told).2.1=true):(CV K h told).2.2=0:=by
 unfold CV at hf ⊢
 split at hf
 ·split at hf
  ·cases hf
  ·rename_i h1 h2;rw[Af h1,Ad h2]
 ·cases hf
theorem MA{A B:Prop}(h:B)(e:A=B:=by (simp (disch:=omega) only[*, ↓Ed,Eu, ↓reduceIte,reduceCtorEq,Nat.reduceAdd,Nat.reduceEqDiff,Nat.reduceLT,Nat.reduceLeDiff,Int.reduceToNat,Int.reduceEq,Int.reduceLT,Int.reduceLE,Ap,Ao,Ax,AJ,AY,Int.reduceAdd,AH,AN,HdC.cs,BF,Cw,Co, ↓Ht, ↓H0, ↓Py, ↓Ez, ↓EL,DZ,C4];first|done|rfl)):A:=e▸h
theorem b3h(s c m:Nat)(hcm:¬ c=m∧¬ m=c)(K:List HdC)(hK:K.length≤1000)(h:HdC)(ht tm:Int)(told:List HdC)(hlt:told.length≤1000):
  CT Tryz.prog 43 [Ds s c ht tm told,.agg h.cs] (lk (BI c m K)) (fun r o=>r=.tup [.sl none 13 ((Nk K h told).map EvC.cs),.int .i64 (CV K h told).2.2]∧o=lk (BI c m (CV K h told).1)):=by
 have hU:=TT c m hcm.1 hcm.2 K told h (.sl none 34 (Bn told)) rfl hlt hK
 have hz:=b3D (K:=K) (h:=h) (told:=told)
 unfold Nk
 generalize CV K h told=R at *
 obtain ⟨K2,b,e⟩:=R
 simp only at hU hz ⊢
 clear hK hlt
 refine a7W _ _ _ (by simp) ?_
 cases b
 ·rw[Ad (by simp)]
  simp only[List.map_nil]
  simp only[Q8];refine MA ?_
  repeat' ((first|exact tt|refine c2 hU ?_|refine na fun b=>?_|refine nb fun b hb=>?_|refine iq ?_|(refine jq ?_ ?_<;>intro h h')|exact wZ|refine Aa ?_ ?_)<;>try refine MA ?_)
  all_goals exact AG qa (Lv rfl)
 ·rw[Af rfl]
  obtain rfl:=hz rfl
  have ev:[(⟨7,default,[],[],0,h.h⟩:EvC)].map EvC.cs=[[.int .i64 7,.str [],.int .i64 0,.str [],.int .i64 0,.int .i64 0,.str [],.int .i64 0,.int .i64 0,.str [],.str [],.int .i64 0,.int .i64 h.h]]:=rfl
  rw[ev]
  simp only[Q8];refine MA ?_
  repeat' ((first|exact tt|refine c2 hU ?_|refine na fun b=>?_|refine nb fun b hb=>?_|refine iq ?_|(refine jq ?_ ?_<;>intro h h')|exact wZ|refine Aa ?_ ?_)<;>try refine MA ?_)
  all_goals exact AG qa (Lv rfl)
theorem b2X(s c m:Nat)(L:List PrP)(K:List HdC)(hK:K.length≤1000)(M:MsgC)(ht tm:Int)(told:List HdC)(hlt:told.length≤1000)(hl:LgM M)(hm:Eq M)(h1:M.k=1)
  (x:Bl) (hx:stOk s L x) (ho:Bf [c,m] x) (Ae:¬ c=s∧¬ s=c) (hms:¬ m=s∧¬ s=m) (hcm:¬ c=m∧¬ m=c):
  CT Tryz.prog 14 [Ds s c ht tm told,.agg (AD M)] (lk (AF s L x++BI c m K)) (fun r o=>r=.tup [.sl none 13 ((Nk K M.h told).map EvC.cs),.int .i64 (CV K M.h told).2.2]∧o=lk (AF s L x++BI c m (CV K M.h told).1)):=by
 have hM:=Tq M hl.pr hl.cl hl.s hl.d hl.x
 have hM:CP Tryz.prog 42 [.agg (AD M)] (.bool true):=by simpa[hm]using hM
 have hU:=b3h s c m hcm K hK M.h ht tm told hlt
 have hgs:=hx.d
 have f1:Ac (decide (M.k=1)=true):=AO h1
 clear hK hlt hl hm h1 hx
 generalize (CV K M.h told).2.2=E at *
 generalize (CV K M.h told).1=K2 at *
 generalize (Nk K M.h told).map EvC.cs=EV at *
 refine Hw _ _ _ (by simp) ?_
 rcases x with _ | ⟨g,cap⟩
 all_goals simp only[B4,Bq,Ce,AA,Bi,Bj,Bf,AZ,B8,Cb,Cs,Cr]at hgs ho ⊢
 all_goals (simp only[Gy];refine MA ?_;try exact tt)
 all_goals repeat' ((first|exact tt|refine Ab hM ?_|refine c2 hU ?_|refine na fun b=>?_|refine nb fun b hb=>?_|refine iq ?_|(refine jq ?_ ?_<;>intro h h')|exact wZ|refine Aa ?_ ?_)<;>try refine MA ?_)
 all_goals exact AG qa (Lv rfl)
section
open Go.RowKit Go.Lib
noncomputable def KA (l:List PrP) (o:Bool) (M:MsgC):PfC:=DI l (if o=true then Ah 5 M.p.d M.p.dc 0 else Ah 2 M.p.d M.p.dc M.p.q)
noncomputable def Et (l:List PrP) (o:Bool) (M:MsgC):MsgC:=
 if M.k=2 then { M with pr:=DI l (Ah 1 M.p.s M.p.sc M.p.q) }
 else if M.k=3 then { M with pr:=DI l (Ah 3 M.p.d M.p.dc M.p.q) }
 else if M.k=4 then { M with pr:=KA l o M }
 else if M.k=5 then { M with pr:=KA l o M,cl:=DI l (Ah 7 M.p.d M.p.dc 0) }
 else M
theorem b0t(l:List PrP)(o:Bool)(M:MsgC):(Et l o M).k=M.k∧(Et l o M).p=M.p∧(Et l o M).h=M.h∧(Et l o M).a=M.a:=by
 unfold Et
 repeat' split
 all_goals exact ⟨rfl,rfl,rfl,rfl⟩
theorem a4U{l:List PrP}(hg:GG l=true)(hb:l.length≤1000){i:Nat}(hi:i<l.length):(Fb l i).k.length≤100000∧(Fb l i).v.length≤100000∧(Fb l i).p.length≤1000:=by
 unfold GG at hg
 simp only[AP,Ew]at hg
 have hm:l.getD i default∈l:=by rw[List.getD,Aw hi];exact Di hi
 have h1:=hg.1 _ hm
 simp only[ET,Bs]at h1
 refine ⟨by show (l.getD i default).1.length≤100000;omega,by show (l.getD i default).2.length≤100000;omega, ?_⟩
 show (Ci (Bz l) i).length≤1000
 have hl:(Bz l).length=l.length:=by simp[Bz]
 rw[Og _ _ _ (A8 _)]
 have:=Lt 30 (Bz l).length i (by rw[hl];omega)
 omega
theorem a5d(l:List PrP)(hb:l.length≤1000)(key:List UInt8):(DI l key).l.length≤2∧∀ x∈(DI l key).l,x.k.length≤100000∧x.v.length≤100000∧x.p.length≤1000:=by
 unfold DI
 simp only
 have hkl0:(l.takeWhile fun q=>DY q.1 key).length≤l.length:=(List.takeWhile_prefix _).length_le
 generalize (l.takeWhile fun q=>DY q.1 key).length=k at *
 split
 rotate_left
 ·exact ⟨by simp,by simp⟩
 rename_i hg
 have hs:=fun {i:Nat} (hi:i<l.length)=>a4U hg hb hi
 by_cases hk:k<l.length∧(l.getD k default).1=key
 ·rw[Af hk]
  exact ⟨by simp,fun x hx=>by rw[G6.1 hx];exact hs hk.1⟩
 rw[Ad hk]
 by_cases h0:0<k∧k - 1<l.length
 rotate_left
 ·by_cases hkl:k<l.length
  ·have:¬ 0<k:=fun h=>h0 ⟨h,by omega⟩
   rw[Ad this,Af hkl]
   exact ⟨by simp,fun x hx=>by rw[Bj,G6]at hx;rw[hx];exact hs hkl⟩
  ·rw[Ad hkl]
   by_cases h1:0<k
   ·exact absurd ⟨h1,by omega⟩ h0
   ·rw[Ad h1];exact ⟨by simp,by simp⟩
 rw[Af h0.1]
 by_cases hkl:k<l.length
 ·rw[Af hkl]
  refine ⟨by simp,fun x hx=>?_⟩
  rcases Bv.1 hx with hx|hx
  ·rw[G6.1 hx];exact hs h0.2
  ·rw[G6.1 hx];exact hs hkl
 ·rw[Ad hkl]
  exact ⟨by simp,fun x hx=>by rw[Jb,G6]at hx;rw[hx];exact hs h0.2⟩
theorem a1u(K:List HdC)(h:HdC):(CV K h []).1=K∧(CV K h []).2.1=false∧(CV K h []).2.2≠0:=by
 have hc:D4 K h []≠0:=by
  unfold D4
  split
  ·decide
  ·rw[Af (by simp)];decide
 unfold CV
 rw[Ad hc]
 exact ⟨rfl,rfl,hc⟩
open Classical in
noncomputable def Eo (L:List PrP) (K:List HdC) (ht tm:Int) (m:MsgC):List EvC × Int × List PrP:=
 if Eq m∧m.k=1 then ([],(CV K m.h []).2.2,L) else EJ L K ht tm m
theorem WX{L:List PrP}{K:List HdC}{ht tm:Int}{m:MsgC}(h:m.k≠1):Eo L K ht tm m=EJ L K ht tm m:=by
 unfold Eo;rw[Ad (fun e=>h e.2)]
theorem a3h{L:List PrP}{K:List HdC}{ht tm:Int}{m:MsgC}(h:m.k=1):(Eo L K ht tm m).2.1≠0∧(Eo L K ht tm m).1=[]∧(Eo L K ht tm m).2.2=L:=by
 unfold Eo
 by_cases hm:Eq m
 ·rw[Af ⟨hm,h⟩];exact ⟨(a1u K m.h).2.2,rfl,rfl⟩
 ·rw[Ad (fun e=>hm e.1)]
  unfold EJ
  rw[Af hm]
  exact ⟨by simp,rfl,rfl⟩
theorem W3{L:List PrP}{K:List HdC}{ht tm:Int}{m:MsgC}(h:(Eo L K ht tm m).2.1≠0):(Eo L K ht tm m).1=[]∧(Eo L K ht tm m).2.2=L:=by
 by_cases h1:m.k=1
 ·exact (a3h h1).2
 ·rw[WX h1]at h ⊢;exact b3b h
theorem RX{L:List PrP}{K:List HdC}{ht tm:Int}{m:MsgC}(h:(Eo L K ht tm m).2.1=0):m.k≠1∧(EJ L K ht tm m).2.1=0:=by
 have h1:m.k≠1:=fun e=>(a3h e).1 h
 rw[WX h1]at h
 exact ⟨h1,h⟩
end
theorem a1b(s c m:Nat)(L:List PrP)(hI:StI L)(K:List HdC)(hK:K.length≤1000)(M:MsgC)(ht tm:Int)(hl:LgM M)
  (x:Bl) (hx:stOk s L x) (ho:Bf [c,m] x) (Ae:¬ c=s∧¬ s=c) (hms:¬ m=s∧¬ s=m) (hcm:¬ c=m∧¬ m=c) (E:Int) (hE:(Eo L K ht tm M).2.1=E) (h0:E≠0):
  CT Tryz.prog 14 [Ds s c ht tm [],.agg (AD M)] (lk (AF s L x++BI c m K)) (fun r o=>r=.tup [.sl none 13 [],.int .i64 E]∧o=lk (AF s L x++BI c m K)):=by
 by_cases h1:Eq M∧M.k=1
 ·have h:=b2X s c m L K hK M ht tm [] (by simp) hl h1.1 h1.2 x hx ho Ae hms hcm
  have hu:=a1u K M.h
  unfold Nk at h
  rw[hu.1,hu.2.1,Ad (by simp)]at h
  unfold Eo at hE
  rw[Af h1]at hE
  simp only at hE
  rw[hE]at h
  exact h
 ·unfold Eo at hE
  rw[Ad h1]at hE
  refine b2Y s c m L hI K M ht tm [] hl ?_ x hx ho Ae hms hcm E hE h0
  by_cases hm:Eq M
  ·exact .inr fun e=>h1 ⟨hm,e⟩
  ·exact .inl hm
theorem b3a(s c m:Nat)(L:List PrP)(n:Nat)(hB:StB L n)(hn:n≤900)(K:List HdC)(M:MsgC)(ht tm:Int)(hl:LgM M)
  (x:Bl) (hx:stOk s L x) (ho:Bf [c,m] x) (Ae:¬ c=s∧¬ s=c) (hms:¬ m=s∧¬ s=m) (hcm:¬ c=m∧¬ m=c) (hE:(Eo L K ht tm M).2.1=0):
  CT Tryz.prog 14 [Ds s c ht tm [],.agg (AD M)] (lk (AF s L x++BI c m K)) (HE s c m (Eo L K ht tm M).2.2 K x (.tup [.sl none 13 ((Eo L K ht tm M).1.map EvC.cs),.int .i64 0])):=by
 obtain ⟨h1,h2⟩:=RX hE
 rw[WX h1]
 exact b2Z s c m L n hB hn K M ht tm [] hl h1 x hx ho Ae hms hcm h2
theorem a3i{s:Nat}{L:List PrP}{K:List HdC}{ht tm:Int}{M:MsgC}(hx:stOk s L none):(Eo L K ht tm M).2.1≠0:=fun hE=>by
 obtain ⟨h1,h2⟩:=RX hE
 have hm:=RU h2
 by_cases k2:M.k=2
 ·rw[RP hm k2]at h2
  obtain ⟨e1, -⟩:=TB h2
  unfold Av at e1
  simp only[AP]at e1
  obtain ⟨_,_,hh⟩:=Fj e1.1 hx
  cases hh
 by_cases k3:M.k=3
 ·rw[RQ hm k3]at h2
  obtain ⟨hh, -⟩:=QV h2
  obtain ⟨_,_,hq⟩:=Fj (FT hh).2.2.1 hx
  cases hq
 ·rw[RS hm k2 k3]at h2
  obtain ⟨hh, -⟩:=PM h2
  obtain ⟨_,_,hq⟩:=Fj (FT hh).2.2.1 hx
  cases hq
end Go.Proofs.YtfgihnhoocnmdaaGreatDoor
