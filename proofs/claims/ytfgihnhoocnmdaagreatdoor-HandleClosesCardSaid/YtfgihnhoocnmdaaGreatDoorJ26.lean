import Derived.Test.YtfgihnhoocnmdaaGreatDoorJ25
namespace Go.Proofs.YtfgihnhoocnmdaaGreatDoor
set_option linter.all false
set_option maxHeartbeats 64000000
set_option maxRecDepth 100000
open Go.RowKit
theorem Ei{A B:Prop}(h:B)(e:A=B:=by (simp (disch:=omega) only[*, ↓Ed,Eu, ↓reduceIte,reduceCtorEq,Nat.reduceAdd,Nat.reduceEqDiff,Nat.reduceLT,Nat.reduceLeDiff,Int.reduceToNat,Int.reduceEq,Int.reduceLT,Int.reduceLE,Ap,Ao,Ax,AJ,AY,Int.reduceAdd,AH,AN,BL,Cc,Df,Dw];first|done|rfl)):A:=e▸h
theorem Tr:∀ (m:Nat) (l:List Hs),l.length≤m→(∀ x∈l,x.length=32)→l.length≤1000000→∀ (i:Nat),i<l.length→CP Tryz.prog 145 [.sl none 32 (AL l),.int .i64 (i:Int)] (.sl (some 29) 32 (AL (Ci l i)))
 | m,l,hm,h32,hb,i,hi=>by
  have hmx:maxLen=9223372036854775807:=rfl
  refine a6R _ _ (by simp) ?_
  by_cases h1:1<l.length
  rotate_left
  ·have hl:=Cm l
   rw[Oh (by omega)]
   have f0:Ac (decide ((i:Int)<0)=false):=fo
   have f1:Ac (decide ((l.length:Int)≤(i:Int))=false):=fo
   have f2:Ac (decide ((l.length:Int)<2)=true):=fo
   clear h32
   generalize AL l=X at *
   simp only[OH];refine Ei ?_
   repeat' ((first|exact tt|refine na fun b=>?_|refine nb fun b hb=>?_|refine iq ?_|(refine jq ?_ ?_<;>intro h h')|exact wZ|refine Aa ?_ ?_)<;>try refine Ei ?_)
  have hH:=ZD l.length h1 (by omega)
  have hlt:=HT h1
  have hps:=IG l.length
  have ht:∀ x∈l.take (Ar l.length),x.length=32:=fun x hx=>h32 x (EZ hx)
  have hd:∀ x∈l.drop (Ar l.length),x.length=32:=fun x hx=>h32 x (EY hx)
  obtain ⟨m',rfl⟩:∃ m',m=m'+1:=⟨m - 1,by omega⟩
  have hl:=Cm l
  have f0:Ac (decide ((i:Int)<0)=false):=fo
  have f1:Ac (decide ((l.length:Int)≤(i:Int))=false):=fo
  have f2:Ac (decide ((l.length:Int)<2)=false):=fo
  by_cases hih:i<Ar l.length
  ·have hA:=Tr m' (l.take (Ar l.length)) (by simp;omega) ht (by simp;omega) i (by simp;omega)
   have hB:=NL m' none (l.drop (Ar l.length)) (by simp;omega) hd (by simp;omega)
   rw[AL,List.map_take]at hA
   rw[AL,List.map_drop]at hB
   change CP _ _ [.sl none 32 (List.take _ (AL l)),_] _ at hA
   change CP _ _ [.sl none 32 (List.drop _ (AL l))] _ at hB
   obtain ⟨x1,x2,x3,x4⟩:=BN (HH hd)
   have e:AL (Ci l i)=AL (Ci (l.take (Ar l.length)) i)++[Ae (CU (l.drop (Ar l.length)))]:=by rw[T5 h1 hih];simp
   have hwl:(AL (Ci (l.take (Ar l.length)) i)).length≤1000:=by
    rw[Cm,Og _ _ _ (A8 _)]
    have:=Lt 30 (l.take (Ar l.length)).length i (by simp;omega)
    omega
   rw[e]
   have f3:Ac (decide ((i:Int)<(Ar l.length:Int))=true):=fo
   clear h32 ht hd hm e
   generalize AL (Ci (l.take (Ar l.length)) i)=A at *
   generalize Ae (CU (l.drop (Ar l.length)))=B at *
   generalize Ar l.length=h at *
   generalize AL l=X at *
   have hX:List.take l.length X=X:=B0 (by omega)
   simp only[OH];refine Ei ?_
   repeat' ((first|exact tt|refine Ab hH ?_|refine Ag hA ?_|refine Ag hB ?_|refine na fun b=>?_|refine nb fun b hb=>?_|refine iq ?_|(refine jq ?_ ?_<;>intro h h')|exact wZ|refine Aa ?_ ?_)<;>try refine Ei ?_)
  ·have hA:=Tr m' (l.drop (Ar l.length)) (by simp;omega) hd (by simp;omega) (i - Ar l.length) (by simp;omega)
   have hB:=NL m' none (l.take (Ar l.length)) (by simp;omega) ht (by simp;omega)
   rw[AL,List.map_drop,show ((i - Ar l.length:Nat):Int)=(i:Int) - (Ar l.length:Int) by omega]at hA
   rw[AL,List.map_take]at hB
   change CP _ _ [.sl none 32 (List.drop _ (AL l)),_] _ at hA
   change CP _ _ [.sl none 32 (List.take _ (AL l))] _ at hB
   obtain ⟨x1,x2,x3,x4⟩:=BN (HH ht)
   have e:AL (Ci l i)=AL (Ci (l.drop (Ar l.length)) (i - Ar l.length))++[Ae (CU (l.take (Ar l.length)))]:=by rw[T4 h1 hih];simp
   have hwl:(AL (Ci (l.drop (Ar l.length)) (i - Ar l.length))).length≤1000:=by
    rw[Cm,Og _ _ _ (A8 _)]
    have:=Lt 30 (l.drop (Ar l.length)).length (i - Ar l.length) (by simp;omega)
    omega
   rw[e]
   have f3:Ac (decide ((i:Int)<(Ar l.length:Int))=false):=fo
   clear h32 ht hd hm e
   generalize AL (Ci (l.drop (Ar l.length)) (i - Ar l.length))=A at *
   generalize Ae (CU (l.take (Ar l.length)))=B at *
   generalize Ar l.length=h at *
   generalize AL l=X at *
   have hX:List.take l.length X=X:=B0 (by omega)
   simp only[OH];refine Ei ?_
   repeat' ((first|exact tt|refine Ab hH ?_|refine Ag hA ?_|refine Ag hB ?_|refine na fun b=>?_|refine nb fun b hb=>?_|refine iq ?_|(refine jq ?_ ?_<;>intro h h')|exact wZ|refine Aa ?_ ?_)<;>try refine Ei ?_)
theorem good_step{l:List PrP}{i:Nat}(h:GG l=true)(hi:i<l.length):ET (l.getD i default).1 (l.getD i default).2=true∧(i=0∨DY (l.getD (i - 1) default).1 (l.getD i default).1=true):=by
 unfold GG at h
 simp only[AP,Ew,List.mem_range,Bool.or_eq_true,Bs]at h
 refine ⟨h.1 _ ?_,h.2 i hi⟩
 rw[List.getD,Aw hi];exact Di hi
theorem a3T{l:List PrP}(h:∀ i,i<l.length→ET (l.getD i default).1 (l.getD i default).2=true∧(i=0∨DY (l.getD (i - 1) default).1 (l.getD i default).1=true)):GG l=true:=by
 unfold GG
 simp only[AP,Ew,List.mem_range,Bool.or_eq_true,Bs]
 refine ⟨fun q hq=>?_,fun i hi=>(h i hi).2⟩
 obtain ⟨i,hi,rfl⟩:=Do hq
 have:=(h i hi).1
 rwa [List.getD,Aw hi]at this
theorem a9U(l:List PrP)(hb:l.length≤1000):CP Tryz.prog 75 [.sl none 2 (AX l)] (.bool (GG l)):=by
 refine a6C _ _ (by simp) ?_
 simp only[Vy];refine Ei ?_
 repeat' ((first|exact tt|refine na fun b=>?_|refine nb fun b hb=>?_|refine iq ?_|(refine jq ?_ ?_<;>intro h h')|exact wZ|refine Aa ?_ ?_)<;>try refine Ei ?_)
 refine A2 (fun i:Nat=>⟨lk [(0,.sl none 2 (AX l)),(3,.int .i64 (i:Int))],lk []⟩) (fun i=>i≤l.length∧Ac (∀ j,j<i→ET (l.getD j default).1 (l.getD j default).2=true∧(j=0∨DY (l.getD (j - 1) default).1 (l.getD j default).1=true))) (fun i=>l.length - i) 0 ⟨by omega,fun j hj=>by omega⟩ (An BA) ?_
 intro i ⟨i1,i2⟩
 by_cases hil:i<l.length
 rotate_left
 ·obtain rfl:i=l.length:=by omega
  have f1:Ac (decide ((l.length:Int)<l.length)=false):=fo
  rw[a3T i2]
  clear i2
  refine Ei ?_
  repeat' ((first|exact tt|refine na fun b=>?_|refine nb fun b hb=>?_|refine iq ?_|(refine jq ?_ ?_<;>intro h h')|exact wZ|refine Aa ?_ ?_)<;>try refine Ei ?_)
 have f1:Ac (decide ((i:Int)<l.length)=true):=fo
 have i3:ET (l.getD i default).1 (l.getD i default).2=true∧(i=0∨DY (l.getD (i - 1) default).1 (l.getD i default).1=true)→Ac (∀ j,j<i+1→ET (l.getD j default).1 (l.getD j default).2=true∧(j=0∨DY (l.getD (j - 1) default).1 (l.getD j default).1=true)):=fun h j hj=>by
  by_cases e:j<i
  ·exact i2 j e
  ·obtain rfl:j=i:=by omega
   exact h
 have hno:¬ (ET (l.getD i default).1 (l.getD i default).2=true∧(i=0∨DY (l.getD (i - 1) default).1 (l.getD i default).1=true))→GG l=false:=fun h=>by
  cases hg:GG l
  ·rfl
  ·exact absurd (good_step hg hil) h
 have hpr:=Dw l i hil
 clear i2
 generalize hr:GG l=res at *
 clear hr
 obtain ⟨⟨k,v⟩,hgd⟩:∃ q,l.getD i default=q:=⟨_,rfl⟩
 rw[hgd]at i3 hno hpr
 simp only at i3 hno
 cases hS:ET k v
 ·obtain rfl:=hno (by simp[hS])
  have hS':¬ (1≤k.length∧k.length≤160∧1≤v.length∧v.length≤64):=by simpa[ET]using hS
  clear i3 hno hS
  rcases Gv i with rfl|h0
  ·have f2:Ac (decide ((0:Int)<((0:Nat):Int))=false):=rfl
   refine Ei ?_
   repeat' ((first|exact tt|refine na fun b=>?_|refine nb fun b hb=>?_|refine iq ?_|(refine jq ?_ ?_<;>intro h h')|exact wZ|refine Aa ?_ ?_)<;>try refine Ei ?_)
   all_goals (exfalso;simp only[Ac,Hn]at *;omega)
  ·have f2:Ac (decide ((0:Int)<(i:Int))=true):=fo
   have hpp:=Dw l (i - 1) (by omega)
   have e1:((i:Int) - 1).toNat=i - 1:=by omega
   obtain ⟨⟨k0,v0⟩,hgp⟩:∃ q,l.getD (i - 1) default=q:=⟨_,rfl⟩
   rw[hgp]at hpp
   refine Ei ?_
   repeat' ((first|exact tt|refine na fun b=>?_|refine nb fun b hb=>?_|refine iq ?_|(refine jq ?_ ?_<;>intro h h')|exact wZ|refine Aa ?_ ?_)<;>try refine Ei ?_)
   all_goals (exfalso;simp only[Ac,Hn]at *;omega)
 have hS':1≤k.length∧k.length≤160∧1≤v.length∧v.length≤64:=by simpa[ET]using hS
 obtain ⟨a1,a2,a3,a4⟩:=hS'
 rcases Gv i with rfl|h0
 ·have i3:=i3 ⟨hS,.inl rfl⟩
  have f2:Ac (decide ((0:Int)<((0:Nat):Int))=false):=rfl
  clear hno hS
  refine Ei ?_
  repeat' ((first|exact tt|refine na fun b=>?_|refine nb fun b hb=>?_|refine iq ?_|(refine jq ?_ ?_<;>intro h h')|exact wZ|refine Aa ?_ ?_)<;>try refine Ei ?_)
  all_goals first
  | exact AC 1 ⟨An qd,⟨hil,i3⟩,by omega⟩
  | (exfalso;simp only[Ac,Hn]at *;omega)
 have f2:Ac (decide ((0:Int)<(i:Int))=true):=fo
 have hpp:=Dw l (i - 1) (by omega)
 have e1:((i:Int) - 1).toNat=i - 1:=by omega
 obtain ⟨⟨k0,v0⟩,hgp⟩:∃ q,l.getD (i - 1) default=q:=⟨_,rfl⟩
 rw[hgp]at hpp i3 hno
 simp only[DY]at i3 hno
 cases hlt:Op.bytesLess k0 k
 ·obtain rfl:=hno (by simp[hlt];omega)
  clear i3 hno hS
  refine Ei ?_
  repeat' ((first|exact tt|refine na fun b=>?_|refine nb fun b hb=>?_|refine iq ?_|(refine jq ?_ ?_<;>intro h h')|exact wZ|refine Aa ?_ ?_)<;>try refine Ei ?_)
  all_goals (exfalso;simp only[Ac,Hn]at *;omega)
 ·have i3:=i3 ⟨hS,.inr hlt⟩
  clear hno hS
  refine Ei ?_
  repeat' ((first|exact tt|refine na fun b=>?_|refine nb fun b hb=>?_|refine iq ?_|(refine jq ?_ ?_<;>intro h h')|exact wZ|refine Aa ?_ ?_)<;>try refine Ei ?_)
  all_goals first
  | exact AC (i+1) ⟨An qd,⟨hil,i3⟩,by omega⟩
  | (exfalso;simp only[Ac,Hn]at *;omega)
theorem Yn(l:List PrP):(Bz l).length=l.length:=by simp[Bz]
theorem Ej{A B:Prop}(h:B)(e:A=B:=by (simp (disch:=omega) only[*, ↓Ed,Eu, ↓reduceIte,reduceCtorEq,Nat.reduceAdd,Nat.reduceEqDiff,Nat.reduceLT,Nat.reduceLeDiff,Int.reduceToNat,Int.reduceEq,Int.reduceLT,Int.reduceLE,Ap,Ao,Ax,AJ,AY,Int.reduceAdd,AH,AN,Df,Ca,Hv,List.all_cons,List.all_nil];first|done|rfl)):A:=e▸h
theorem a9E(l:List PrP)(hb:l.length≤1000)(i:Nat)(hi:i<l.length):CP Tryz.prog 77 [.sl none 2 (AX l),.sl none 32 (AL (Bz l)),.int .i64 (i:Int)] (.agg (BZ none (Fb l i))):=by
 have hW:CP Tryz.prog 145 [.sl none 32 (AL (Bz l)),.int .i64 (i:Int)] (.sl none 32 (AL (Ci (Bz l) i))):=G4 (T7 _ _ _) trivial (Tr _ (Bz l) (A8 _) (Nx l) (by rw[Yn];omega) i (by rw[Yn];exact hi))
 have hpr:=Dw l i hi
 have e:BZ none (Fb l i)=[.str (l.getD i default).1,.str (l.getD i default).2,.int .i64 (i:Int),.sl none 32 (AL (Ci (Bz l) i))]:=rfl
 rw[e]
 clear e
 obtain ⟨⟨k,v⟩,hgd⟩:∃ q,l.getD i default=q:=⟨_,rfl⟩
 rw[hgd]at hpr ⊢
 generalize AL (Ci (Bz l) i)=X at *
 generalize AL (Bz l)=Y at *
 refine a6T _ _ (by simp) ?_
 simp only[VL];refine Ej ?_
 repeat' ((first|exact tt|refine Ag hW ?_|refine na fun b=>?_|refine nb fun b hb=>?_|refine iq ?_|(refine jq ?_ ?_<;>intro h h')|exact wZ|refine Aa ?_ ?_)<;>try refine Ej ?_)
theorem a1t(q:PrP→Bool):∀ (l:List PrP),(l.takeWhile q).length≤l.length∧(∀ i,i<(l.takeWhile q).length→q (l.getD i default)=true)∧((l.takeWhile q).length<l.length→q (l.getD (l.takeWhile q).length default)=false)
 | []=>by simp
 | a::l=>by
  obtain ⟨h1,h2,h3⟩:=a1t q l
  by_cases ha:q a=true
  ·rw[List.takeWhile_cons_of_pos ha]
   refine ⟨by simp only[AJ];omega,fun i hi=>?_,fun h=>?_⟩
   ·cases i with
    | zero=>exact ha
    | succ i=>exact h2 i (by simp only[AJ]at hi;omega)
   ·exact h3 (by simp only[AJ]at h;omega)
  ·rw[List.takeWhile_cons_of_neg ha]
   exact ⟨by simp,fun i hi=>by simp at hi,fun _=>by simpa using ha⟩
section
variable {P:Program} {d:Option Nat} {s:St} {K:St→Prop}
theorem Sw{e e' g' c':Nat}(x:LfC)(h1:EG s.o (fun b=>∀ cap',1≤cap'→KS (St.put ⟨s.t,upd s.o b (some (CF cap' [x]))⟩ d (.hsl b e 4 1 cap')) K))(hs:s.o g'=some (CF c' [x]):=by first|((repeat (first|exact CH _ _ _|(refine CN ?_ ?_;(focus (first|assumption|(simp only[*,Ct];done))))));done)|fail):MW e 4 64 d s K (.hnil e 4) (.hsl g' e' 4 1 c'):=
 lfRow.hap_nil (m:=[x]) (lfRow.src_pre (l:=[x]) (n:=1) hs (by simp)) ⟨by simp,by simp[maxLen]⟩ (fun h=>by cases h) (fun _=>h1)
theorem a4V{e e' g n cap g' c':Nat}{l:List LfC}(x:LfC)(h1:EG (upd s.o g none) (fun b=>∀ cap',n+1≤cap'→KS (St.put ⟨s.t,upd (upd s.o g none) b (some (CF cap' (l++[x])))⟩ d (.hsl b e 4 (n+1) cap')) K))
  (hb:n≤1000000:=by omega) (hcp:n≤cap:=by omega) (hg:s.o g=some (CF cap l):=by first|((repeat (first|exact CH _ _ _|(refine CN ?_ ?_;(focus (first|assumption|(simp only[*,Ct];done))))));done)|fail) (hs:s.o g'=some (CF c' [x]):=by first|((repeat (first|exact CH _ _ _|(refine CN ?_ ?_;(focus (first|assumption|(simp only[*,Ct];done))))));done)|fail) (hl:l.length=n:=by first|rfl|assumption|omega|fail):MW e 4 64 d s K (.hsl g e 4 n cap) (.hsl g' e' 4 1 c'):=by
 have ht:l.take n=l:=by rw[← hl,List.take_length]
 refine lfRow.hap_row (m:=[x]) hg (lfRow.src_pre (l:=[x]) (n:=1) hs (by simp)) ⟨by omega,by omega⟩ ⟨by simp only[AJ,AY];omega,by simp only[AJ,AY,maxLen];omega⟩ ?_
 rw[ht];exact h1
end
theorem a8O(l:List PrP)(key:List UInt8)(hb:l.length≤1000)(hs:∀ i,i<l.length→(l.getD i default).1.length≤1000000∧(l.getD i default).2.length≤1000000):CP Tryz.prog 32 [.sl none 2 (AX l),.str key] (.agg (DI l key).cs):=by
 have hG:=a9U l hb
 unfold DI
 cases hg:GG l
 ·rw[hg]at hG
  simp only[D3,BV]
  refine G4 (r:=.agg [.int .i64 0,.nils 145 4]) (QC ⟨Wk.rfl,QD _ _,trivial⟩) trivial ?_
  refine YK _ _ (by simp) ?_
  simp only[Ll];refine Ej ?_
  repeat' ((first|exact tt|refine Ab hG ?_|refine na fun b=>?_|refine nb fun b hb=>?_|refine iq ?_|(refine jq ?_ ?_<;>intro h h')|exact wZ|refine Aa ?_ ?_)<;>try refine Ej ?_)
 rw[hg]at hG
 simp only[Bo]
 rcases Gv l.length with h0|h0
 ·obtain rfl:=Dn h0
  have hL:=Tp [] (by simp) hs
  have f1:Ac (decide (((0:Nat):Int)<((0:Nat):Int))=false):=rfl
  have f3:Ac (decide ((0:Int)<((0:Nat):Int))=false):=rfl
  change CP _ _ [.sl none 2 []] _ at hL
  change CP _ _ [.sl none 2 []] _ at hG
  change CP _ _ [.sl none 2 [],_] (.agg [.int .i64 0,.sl none 4 []])
  refine G4 (r:=.agg [.int .i64 0,.nils 145 4]) (QC ⟨Wk.rfl,QD _ _,trivial⟩) trivial ?_
  clear hs hb h0 hg
  generalize AL (Bz [])=Y at *
  refine YK _ _ (by simp) ?_
  simp only[Ll];refine Ej ?_
  repeat' ((first|exact tt|refine Ab hG ?_|refine na fun b=>?_|refine nb fun b hb=>?_|refine iq ?_|(refine jq ?_ ?_<;>intro h h')|exact wZ|refine Aa ?_ ?_)<;>try refine Ej ?_)
  refine A2 (fun _:Nat=>⟨lk [(0,.sl none 2 []),(1,.str key),(4,.ptr b 0),(5,.int .i64 0)],lk [(b,[.int .i64 0,.sl (some 145) 4 []])]⟩) (fun _=>True) (fun _=>0) 0 trivial (An qd) ?_
  intro i hi
  refine Ej ?_
  repeat' ((first|exact tt|refine Ab hL ?_|refine na fun b=>?_|refine nb fun b hb=>?_|refine iq ?_|(refine jq ?_ ?_<;>intro h h')|exact wZ|refine Aa ?_ ?_)<;>try refine Ej ?_)
  all_goals rfl
 refine Uf a7H (by simp) ?_
 have hL:=Tp l hb hs
 have hA:=a9E l hb
 obtain ⟨k,hk⟩:∃ k,k=(l.takeWhile fun q=>DY q.1 key).length:=⟨_,rfl⟩
 obtain ⟨hkl,hin,hout⟩:=a1t (fun q=>DY q.1 key) l
 rw[← hk]at hkl hin hout ⊢
 try simp only at hin hout
 clear hg hs hk
 simp only[Ll];refine Ej ?_
 repeat' ((first|exact tt|refine Ab hG ?_|refine na fun b=>?_|refine nb fun b hb=>?_|refine iq ?_|(refine jq ?_ ?_<;>intro h h')|exact wZ|refine Aa ?_ ?_)<;>try refine Ej ?_)
 refine A2 (fun i:Nat=>⟨lk [(0,.sl none 2 (AX l)),(1,.str key),(4,.ptr b 0),(5,.int .i64 (i:Int))],lk [(b,[.int .i64 0,.sl (some 145) 4 []])]⟩) (fun i=>i≤k) (fun i=>k - i) 0 (by omega) (An qd) ?_
 intro i hi
 by_cases hik:i<k
 ·have f1:Ac (decide ((i:Int)<l.length)=true):=fo
  have hpr:=Dw l i (by omega)
  have hlt:=hin i hik
  obtain ⟨⟨k0,v0⟩,hgd⟩:∃ q,l.getD i default=q:=⟨_,rfl⟩
  rw[hgd]at hpr hlt
  simp only[DY]at hlt
  clear hA hL hG hin hout
  refine Ej ?_
  repeat' ((first|exact tt|refine na fun b=>?_|refine nb fun b hb=>?_|refine iq ?_|(refine jq ?_ ?_<;>intro h h')|exact wZ|refine Aa ?_ ?_)<;>try refine Ej ?_)
  all_goals exact AC (i+1) ⟨An qd,hik,by omega⟩
 obtain rfl:i=k:=by omega
 clear hG hin
 generalize hY:AL (Bz l)=Y at *
 have hX0:0<i→∃ X:LfC,X=Fb l (i - 1)∧∃ k1 v1 W1,CP Tryz.prog 77 [.sl none 2 (AX l),.sl none 32 Y,.int .i64 ((i:Int) - 1)] (.agg [.str k1,.str v1,.int .i64 ((i:Int) - 1),.sl none 32 W1])∧∀ cap,hc 4 cap [[.str k1,.str v1,.int .i64 ((i:Int) - 1),.sl none 32 W1]]=CF cap [X]:=fun h0=>by
  have h1:=hA (i - 1) (by omega)
  have e:BZ none (Fb l (i - 1))=[.str (l.getD (i - 1) default).1,.str (l.getD (i - 1) default).2,.int .i64 ((i - 1:Nat):Int),.sl none 32 (AL (Ci (Bz l) (i - 1)))]:=rfl
  rw[show ((i - 1:Nat):Int)=(i:Int) - 1 by omega]at e h1
  refine ⟨_,rfl,_,_,_,by rw[← e];exact h1,fun cap=>by rw[← e];rfl⟩
 by_cases hkl2:i<l.length
 rotate_left
 ·obtain rfl:i=l.length:=by omega
  obtain ⟨X,hX,k1,v1,W1,hAm,hcl⟩:=hX0 h0
  rw[Ad (fun h=>hkl2 h.1),Af h0,Ad hkl2, ← hX]
  change BK _ _ (Gr _ (Iv 0 (Gr _ _))) _
  have f1:Ac (decide ((l.length:Int)<l.length)=false):=fo
  have f3:Ac (decide ((0:Int)<(l.length:Int))=true):=fo
  clear hA hout hX
  refine Ej ?_
  repeat' ((first|exact tt|refine Ab hL ?_|refine Ag hAm ?_|refine Ab hAm ?_|(refine Sw X (On (fun b2 hb2 cap' hc=>?_));simp only[Bt,Bu,Bc]at hb2)|refine na fun b=>?_|refine nb fun b hb=>?_|refine iq ?_|(refine jq ?_ ?_<;>intro h h')|exact wZ|refine Aa ?_ ?_)<;>try refine Ej ?_)
  exact NU (g:=b2) (e:=145) (cap:=cap') (l:=[X]) NR (by simp[lk, *])
 have hpr:=Dw l i hkl2
 have hlt:=hout hkl2
 have hAi:=hA i hkl2
 have f1:Ac (decide ((i:Int)<l.length)=true):=fo
 obtain ⟨⟨k0,v0⟩,hgd⟩:∃ q,l.getD i default=q:=⟨_,rfl⟩
 rw[hgd]at hpr hlt
 simp only[DY]at hlt
 have hXf:BZ none (Fb l i)=[.str k0,.str v0,.int .i64 (i:Int),.sl none 32 (AL (Ci (Bz l) i))]:=by
  have:BZ none (Fb l i)=[.str (l.getD i default).1,.str (l.getD i default).2,.int .i64 (i:Int),.sl none 32 (AL (Ci (Bz l) i))]:=rfl
  rw[this,hgd]
 rw[hXf]at hAi
 have hcl:∀ cap,hc 4 cap [[.str k0,.str v0,.int .i64 (i:Int),.sl none 32 (AL (Ci (Bz l) i))]]=CF cap [Fb l i]:=fun cap=>by rw[← hXf];rfl
 clear hXf hA hout
 by_cases hkey:k0=key
 ·have f2:Ac (decide (k0=key)=true):=AO hkey
  rw[Af ⟨hkl2,by rw[hgd];exact hkey⟩]
  change BK _ _ (Gr _ (Iv 0 (Gr _ _))) _
  clear hkey hX0 hgd
  generalize Fb l i=X at *
  generalize AL (Ci (Bz l) i)=W at *
  refine Ej ?_
  repeat' ((first|exact tt|refine Ab hL ?_|refine Ab hAi ?_|refine na fun b=>?_|refine nb fun b hb=>?_|refine iq ?_|(refine jq ?_ ?_<;>intro h h')|exact wZ|refine Aa ?_ ?_)<;>try refine Ej ?_)
  exact NU (g:=b) (e:=145) (cap:=1) (l:=[X]) NR (by simp[lk, *])
 have f2:Ac (decide (k0=key)=false):=A0 hkey
 rw[Ad (fun h=>hkey (by have:=h.2;rwa [hgd]at this)),Af hkl2]
 change BK _ _ (Gr _ (Iv 0 (Gr _ _))) _
 clear hkey hgd
 rcases Gv i with rfl|hi0
 ·have f3:Ac (decide ((0:Int)<((0:Nat):Int))=false):=rfl
  rw[Ad (by omega),Bj]
  clear hX0
  generalize Fb l 0=X at *
  generalize AL (Ci (Bz l) 0)=W at *
  refine Ej ?_
  repeat' ((first|exact tt|refine Ab hL ?_|refine Ab hAi ?_|refine Ag hAi ?_|(refine Sw X (On (fun b2 hb2 cap' hc=>?_));simp only[Bt,Bu,Bc]at hb2)|refine na fun b=>?_|refine nb fun b hb=>?_|refine iq ?_|(refine jq ?_ ?_<;>intro h h')|exact wZ|refine Aa ?_ ?_)<;>try refine Ej ?_)
  exact NU (g:=b2) (e:=145) (cap:=cap') (l:=[X]) NR (by simp[lk, *])
 have f3:Ac (decide ((0:Int)<(i:Int))=true):=fo
 obtain ⟨X0,hX,k1,v1,W1,hAm,hcm⟩:=hX0 hi0
 rw[Af hi0, ← hX]
 clear hX hX0
 generalize Fb l i=X at *
 generalize AL (Ci (Bz l) i)=W at *
 refine Ej ?_
 repeat' ((first|exact tt|refine Ab hL ?_|refine Ab hAi ?_|refine Ag hAi ?_|refine Ab hAm ?_|refine Ag hAm ?_|(refine Sw X0 (On (fun b2 hb2 cap' hc=>?_));simp only[Bt,Bu,Bc]at hb2)|(refine a4V X (l:=[X0]) (On (fun b3 hb3 cap2 hc2=>?_));simp only[upd_del,del_cons,del_nil, *,Bo,BV,Bt,Bu,Bc]at hb3)|refine na fun b=>?_|refine nb fun b hb=>?_|refine iq ?_|(refine jq ?_ ?_<;>intro h h')|exact wZ|refine Aa ?_ ?_)<;>try refine Ej ?_)
 exact NU (g:=b3) (e:=145) (cap:=cap2) (l:=[X0,X]) NR (by simp[lk, *])
def IO(p:PfC):Prop:=p.l.length≤5∧∀ i,i<p.l.length→(p.l.getD i default).k.length≤400∧(p.l.getD i default).v.length≤400∧(p.l.getD i default).p.length≤40
theorem GV{A B:Prop}(h:B)(e:A=B:=by (simp (disch:=omega) only[*, ↓Ed,Eu, ↓reduceIte,reduceCtorEq,Nat.reduceAdd,Nat.reduceEqDiff,Nat.reduceLT,Nat.reduceLeDiff,Int.reduceToNat,Int.reduceEq,Int.reduceLT,Int.reduceLE,Ap,Ao,Ax,AJ,AY,Int.reduceAdd,AH,AN,Cm,Fc,Fv,Ca,BZ,PktC.cs, ↓Gi, ↓Ff, ↓Gk, ↓Gl,DZ,C4];first|done|rfl)):A:=e▸h
open Classical in
theorem Zj(p:PfC):CP Tryz.prog 30 [.agg p.cs] (.bool (decide (IO p))):=by
 obtain ⟨c,l⟩:=p
 rw[show (PfC.mk c l).cs=[.int .i64 c,.sl none 4 (BW none l)] from rfl]
 refine a6d _ _ (by simp) ?_
 by_cases h10:l.length≤5
 ·simp only[Rc];refine GV ?_
  repeat' ((first|exact tt|refine na fun b=>?_|refine nb fun b hb=>?_|refine iq ?_|(refine jq ?_ ?_<;>intro h h')|exact wZ|refine Aa ?_ ?_)<;>try refine GV ?_)
  refine A2 (fun i:Nat=>⟨lk [(1,.ptr b 0),(3,.int .i64 (i:Int))],lk [(b,[.int .i64 c,.sl none 4 (BW none l)])]⟩) (fun i=>i≤l.length∧Ac (∀ j,j<i→(l.getD j default).k.length≤400∧(l.getD j default).v.length≤400∧(l.getD j default).p.length≤40)) (fun i=>l.length - i) 0 ⟨by omega,fun j hj=>by omega⟩ (An BA) ?_
  intro i ⟨i1,i2⟩
  by_cases hil:i<l.length
  ·have f1:Ac (decide ((i:Int)<l.length)=true):=fo
   by_cases hq:(l.getD i default).k.length≤400∧(l.getD i default).v.length≤400∧(l.getD i default).p.length≤40
   ·have i3:Ac (∀ j,j<i+1→(l.getD j default).k.length≤400∧(l.getD j default).v.length≤400∧(l.getD j default).p.length≤40):=fun j hj=>by
     by_cases e:j<i
     ·exact i2 j e
     ·obtain rfl:j=i:=by omega
      exact hq
    obtain ⟨⟨x1,x2,x3,x4,x5⟩,hgd⟩:∃ a,l.getD i default=a:=⟨_,rfl⟩
    rw[hgd]at hq
    obtain ⟨q1,q2,q3⟩:=hq
    simp only at q1 q2 q3
    clear i2
    generalize decide (IO ⟨c,l⟩)=res at *
    refine GV ?_
    repeat' ((first|exact tt|refine na fun b=>?_|refine nb fun b hb=>?_|refine iq ?_|(refine jq ?_ ?_<;>intro h h')|exact wZ|refine Aa ?_ ?_)<;>try refine GV ?_)
    all_goals first
    | exact AC (i+1) ⟨An qd,⟨hil,i3⟩,by omega⟩
    | (exfalso;simp only[Ac,Hn]at *;omega)
   ·rw[A0 (fun h=>hq (h.2 i hil))]
    obtain ⟨⟨x1,x2,x3,x4,x5⟩,hgd⟩:∃ a,l.getD i default=a:=⟨_,rfl⟩
    rw[hgd]at hq
    simp only at hq
    clear i2
    refine GV ?_
    repeat' ((first|exact tt|refine na fun b=>?_|refine nb fun b hb=>?_|refine iq ?_|(refine jq ?_ ?_<;>intro h h')|exact wZ|refine Aa ?_ ?_)<;>try refine GV ?_)
    all_goals (exfalso;simp only[Ac,Hn]at *;omega)
  ·obtain rfl:i=l.length:=by omega
   have f1:Ac (decide ((l.length:Int)<l.length)=false):=fo
   have hls:IO ⟨c,l⟩:=⟨h10,i2⟩
   rw[AO hls]
   clear hls
   clear i2
   refine GV ?_
   repeat' ((first|exact tt|refine na fun b=>?_|refine nb fun b hb=>?_|refine iq ?_|(refine jq ?_ ?_<;>intro h h')|exact wZ|refine Aa ?_ ?_)<;>try refine GV ?_)
 ·rw[A0 (fun h=>h10 h.1)]
  simp only[Rc];refine GV ?_
  repeat' ((first|exact tt|refine na fun b=>?_|refine nb fun b hb=>?_|refine iq ?_|(refine jq ?_ ?_<;>intro h h')|exact wZ|refine Aa ?_ ?_)<;>try refine GV ?_)
  all_goals (exfalso;simp only[Ac,Hn]at *;omega)
def Kt(M:MsgC):Prop:=HX M.p∧M.a.length≤100∧IO M.pr∧IO M.cl
theorem a4W{M:MsgC}(h:Kt M):LgM M:=by
 obtain ⟨⟨h1,h2,h3⟩,h4,⟨a1,a2⟩,⟨b1,b2⟩⟩:=h
 exact ⟨by omega,by omega,by omega,by omega,⟨by omega,fun i hi=>by have:=a2 i hi;omega⟩,⟨by omega,fun i hi=>by have:=b2 i hi;omega⟩⟩
open Classical in
theorem a8M(M:MsgC):CP Tryz.prog 10 [.agg (AD M)] (.bool (decide (Kt M))):=by
 have hK:=Zh M.p
 have hP:=Zj M.pr
 have hC:=Zj M.cl
 have e:decide (Kt M)=(decide (HX M.p)&&(decide ((M.a.length:Int)≤100)&&(decide (IO M.pr)&&decide (IO M.cl)))):=by
  rw[FE]
  simp only[Bs,AP]
  unfold Kt
  constructor
  ·rintro ⟨a,b,c,d⟩;exact ⟨a,by omega,c,d⟩
  ·rintro ⟨a,b,c,d⟩;exact ⟨a,by omega,c,d⟩
 rw[e]
 clear e
 refine a6a _ _ (by simp) ?_
 generalize decide (HX M.p)=A at *
 generalize decide (IO M.pr)=C at *
 generalize decide (IO M.cl)=D at *
 cases h2:decide ((M.a.length:Int)≤100)
 all_goals (simp only[Vg];refine GV ?_;try exact tt)
 all_goals cases A<;>cases C
 all_goals repeat' ((first|exact tt|refine Ab hK ?_|refine Ab hP ?_|refine Ab hC ?_|refine na fun b=>?_|refine nb fun b hb=>?_|refine iq ?_|(refine jq ?_ ?_<;>intro h h')|exact wZ|refine Aa ?_ ?_)<;>try refine GV ?_)
 all_goals rfl
section
open Go.RowKit Go.Lib
theorem Ts(q:PfC):q.cs.map AV.store=q.cs:=rfl
theorem SI(M:MsgC):List.take 50 (AD M)=AD M:=B0 (by rw[C4];decide)
theorem Zc(l:List PrP)(o:Bool)(M:MsgC):KA l o M=if o=true then DI l (Ah 5 M.p.d M.p.dc 0) else DI l (Ah 2 M.p.d M.p.dc M.p.q):=by
 unfold KA;split<;>rfl
abbrev Rh:List AV:=[.int .i64 0,.int .i64 0,.int .i64 0,.int .u8 0,.int .u8 0,.int .u8 0,.int .u8 0,.int .u8 0,.int .u8 0,.int .u8 0,.int .u8 0,.int .u8 0,.int .u8 0,.int .u8 0,.int .u8 0,.int .u8 0,.int .u8 0,.int .u8 0,.int .u8 0,.int .u8 0,.int .u8 0,.int .u8 0,.int .u8 0,.int .u8 0,.int .u8 0,.int .u8 0,.int .u8 0,.int .u8 0,.int .u8 0,.int .u8 0,.int .u8 0,.int .u8 0,.int .u8 0,.int .u8 0,.int .u8 0,.str [],.int .i64 0,.str [],.int .i64 0,.int .i64 0,.str [],.int .i64 0,.int .i64 0,.str [],.int .i64 0,.int .i64 0,.int .i64 0,.sl (some 145) 4 [],.int .i64 0,.sl (some 145) 4 []]
theorem b2i(M:MsgC):splice Rh 0 (AD M)=AD M:=I4 _ _ (by rw[C4];rfl)
theorem X9(l:List PrP)(hb:l.length≤1000)(key:List UInt8):Bw (DI l key):=by
 obtain ⟨h1,h2⟩:=a5d l hb key
 refine ⟨by omega,fun i hi=>h2 _ ?_⟩
 rw[List.getD,Aw hi];exact Di hi
theorem b0u{l:List PrP}(hb:l.length≤1000)(o:Bool){M:MsgC}(h:LgM M):LgM (Et l o M):=by
 obtain ⟨h1,h2,h3,h4⟩:=b0t l o M
 refine ⟨by rw[h2];exact h.s,by rw[h2];exact h.d,by rw[h2];exact h.x,by rw[h4];exact h.a, ?_, ?_⟩
 ·unfold Et KA
  repeat' split
  all_goals first|exact X9 l hb _|exact h.pr
 ·unfold Et
  repeat' split
  all_goals first|exact X9 l hb _|exact h.cl
theorem Z1(o:List PrP)(hol:o.length≤100):StB (Cn [] o o.length) 100:=(NA nil_B o (i:=o.length) (by omega)).mono (by omega)
theorem JQ{A B:Prop}(h:B)(e:A=B:=by (simp (disch:=omega) only[*, ↓Ed,Eu, ↓reduceIte,reduceCtorEq,Nat.reduceAdd,Nat.reduceEqDiff,Nat.reduceLT,Nat.reduceLeDiff,Int.reduceToNat,Int.reduceEq,Int.reduceLT,Int.reduceLE,Ap,Ao,Ax,AJ,AY,Int.reduceAdd,AH,AN,Ca, ↓Ht, ↓H0, ↓Ff, ↓Ez, ↓EL,DZ,C4,PktC.cs,SZ,S0,Ts,SI];first|done|rfl)):A:=e▸h
theorem a8U(M:MsgC)(o:List PrP)(ho:Sz o)(hol:o.length≤100)(hs:M.p.s.length≤1000000)(hd:M.p.d.length≤1000000)(ord:Bool):
  CP Tryz.prog 11 [.agg (AD M),.sl none 2 (AX o),.bool ord] (.agg (AD (Et (Cn [] o o.length) ord M))):=by
 have hR:=Zm o ho hol
 have hB:=Z1 o hol
 have hlb:=hB.b
 have hM:=fun key=>a8O (Cn [] o o.length) key (by omega) (fun i hi=>by have:=QK hB i hi;omega)
 have h1:=JD 1 M.p.s M.p.sc M.p.q hs
 have h2:=JD 2 M.p.d M.p.dc M.p.q hd
 have h3:=JD 3 M.p.d M.p.dc M.p.q hd
 have h5:=JD 5 M.p.d M.p.dc 0 hd
 have h7:=JD 7 M.p.d M.p.dc 0 hd
 have hsp:=b2i
 unfold Rh at hsp
 clear hB hlb ho hol hs hd
 generalize Cn [] o o.length=l at *
 refine a6k _ _ (by simp) ?_
 by_cases k2:M.k=2
 ·have f2:Ac (decide (M.k=2)=true):=AO k2
  have e:Et l ord M={ M with pr:=DI l (Ah 1 M.p.s M.p.sc M.p.q) }:=by unfold Et;rw[Af k2]
  have hM1:=hM (Ah 1 M.p.s M.p.sc M.p.q)
  rw[e]
  clear e k2 hM h2 h3 h5 h7
  generalize Ah 1 M.p.s M.p.sc M.p.q=y at *
  generalize DI l y=Q at *
  simp only[Lk,Cz.z0];refine JQ ?_
  repeat' ((first|exact tt|refine Ab hR ?_|refine Ab h1 ?_|refine Ab hM1 ?_|refine na fun b=>?_|refine nb fun b hb=>?_|refine iq ?_|(refine jq ?_ ?_<;>intro h h')|exact wZ|refine Aa ?_ ?_)<;>try refine JQ ?_)
 have f2:Ac (decide (M.k=2)=false):=A0 k2
 by_cases k3:M.k=3
 ·have f3:Ac (decide (M.k=3)=true):=AO k3
  have e:Et l ord M={ M with pr:=DI l (Ah 3 M.p.d M.p.dc M.p.q) }:=by unfold Et;rw[Ad k2,Af k3]
  have hM1:=hM (Ah 3 M.p.d M.p.dc M.p.q)
  rw[e]
  clear e k2 k3 hM h1 h2 h5 h7
  generalize Ah 3 M.p.d M.p.dc M.p.q=y at *
  generalize DI l y=Q at *
  simp only[Lk,Cz.z0];refine JQ ?_
  repeat' ((first|exact tt|refine Ab hR ?_|refine Ab h3 ?_|refine Ab hM1 ?_|refine na fun b=>?_|refine nb fun b hb=>?_|refine iq ?_|(refine jq ?_ ?_<;>intro h h')|exact wZ|refine Aa ?_ ?_)<;>try refine JQ ?_)
 have f3:Ac (decide (M.k=3)=false):=A0 k3
 have hM2:=hM (Ah 2 M.p.d M.p.dc M.p.q)
 have hM5:=hM (Ah 5 M.p.d M.p.dc 0)
 by_cases k4:M.k=4
 ·have f4:Ac (decide (M.k=4)=true):=AO k4
  have f5:Ac (decide (M.k=5)=false):=fo
  have e:Et l ord M={ M with pr:=KA l ord M }:=by unfold Et;rw[Ad k2,Ad k3,Af k4]
  rw[e,Zc]
  clear e k2 k3 k4 hM h1 h3 h7
  generalize Ah 2 M.p.d M.p.dc M.p.q=y at *
  generalize Ah 5 M.p.d M.p.dc 0=w at *
  generalize DI l y=Q at *
  generalize DI l w=R at *
  cases ord
  all_goals simp (disch:=omega) only[Lk,Cz.z0,hsp,Bo,D3,BV, ↓Ed,Eu, ↓reduceIte,reduceCtorEq,Nat.reduceAdd,Nat.reduceEqDiff,Nat.reduceLT,Nat.reduceLeDiff,Int.reduceToNat,Int.reduceEq,Int.reduceLT,Int.reduceLE,Ap,Ao,Ax,AJ,AY,Int.reduceAdd,AH,AN,Ca, ↓Ht, ↓H0, ↓Ff, ↓Ez, ↓EL,DZ,C4,PktC.cs,SZ,S0,Ts,SI]
  all_goals repeat' ((first|exact tt|refine Ab hR ?_|refine Ab h2 ?_|refine Ab h5 ?_|refine Ab hM2 ?_|refine Ab hM5 ?_|refine na fun b=>?_|refine nb fun b hb=>?_|refine iq ?_|(refine jq ?_ ?_<;>intro h h')|exact wZ|refine Aa ?_ ?_)<;>try refine JQ ?_)
 have f4:Ac (decide (M.k=4)=false):=A0 k4
 by_cases k5:M.k=5
 ·have f5:Ac (decide (M.k=5)=true):=AO k5
  have e:Et l ord M={ M with pr:=KA l ord M,cl:=DI l (Ah 7 M.p.d M.p.dc 0) }:=by unfold Et;rw[Ad k2,Ad k3,Ad k4,Af k5]
  have hM7:=hM (Ah 7 M.p.d M.p.dc 0)
  rw[e,Zc]
  clear e k2 k3 k4 k5 hM h1 h3
  generalize Ah 2 M.p.d M.p.dc M.p.q=y at *
  generalize Ah 5 M.p.d M.p.dc 0=w at *
  generalize Ah 7 M.p.d M.p.dc 0=x at *
  generalize DI l y=Q at *
  generalize DI l w=R at *
  generalize DI l x=T at *
  cases ord
  all_goals simp (disch:=omega) only[Lk,Cz.z0,hsp,Bo,D3,BV, ↓Ed,Eu, ↓reduceIte,reduceCtorEq,Nat.reduceAdd,Nat.reduceEqDiff,Nat.reduceLT,Nat.reduceLeDiff,Int.reduceToNat,Int.reduceEq,Int.reduceLT,Int.reduceLE,Ap,Ao,Ax,AJ,AY,Int.reduceAdd,AH,AN,Ca, ↓Ht, ↓H0, ↓Ff, ↓Ez, ↓EL,DZ,C4,PktC.cs,SZ,S0,Ts,SI]
  all_goals repeat' ((first|exact tt|refine Ab hR ?_|refine Ab h2 ?_|refine Ab h5 ?_|refine Ab h7 ?_|refine Ab hM2 ?_|refine Ab hM5 ?_|refine Ab hM7 ?_|refine na fun b=>?_|refine nb fun b hb=>?_|refine iq ?_|(refine jq ?_ ?_<;>intro h h')|exact wZ|refine Aa ?_ ?_)<;>try refine JQ ?_)
 have f5:Ac (decide (M.k=5)=false):=A0 k5
 have e:Et l ord M=M:=by unfold Et;rw[Ad k2,Ad k3,Ad k4,Ad k5]
 rw[e]
 clear e k2 k3 k4 k5 hM h1 h2 h3 h5 h7 hM2 hM5
 simp only[Lk,Cz.z0];refine JQ ?_
 repeat' ((first|exact tt|refine Ab hR ?_|refine na fun b=>?_|refine nb fun b hb=>?_|refine iq ?_|(refine jq ?_ ?_<;>intro h h')|exact wZ|refine Aa ?_ ?_)<;>try refine JQ ?_)
end
section
open Go.RowKit Go.Lib
theorem b0x{x:GnC}(h:Dv x=true):KH x.p x.c (Fy x)=0:=(ZS (L:=[])).1.2 (by rw[(H4 h).1,LZ h];rfl)
theorem ZQ{x:GnC}(h:Dv x=true)(L:List PrP):JE L x.p x.c (Fy x)=E8 L x:=by
 rw[ZS.2,Af (by rw[(H4 h).1,LZ h];rfl)];rfl
theorem S4{x:GnC}(h:Dv x=true){m:Nat}(hm:m<3):EO ((4+m:Nat):Int) x.n=true:=by
 have:=H4 h
 simp only[EO,EC,AP,Bs];omega
theorem a0n{x:GnC}(h:Dv x=true){m:Nat}(hm:m<3)(L:List PrP):JL (Cf L x m) ((4+m:Nat):Int) x.p x.c x.n=Cf L x (m+1):=by
 rw[Mn.2,Af (by rw[(H4 h).1,S4 h hm];rfl)];rfl
theorem b1Z{x:GnC}(h:Dv x=true){m:Nat}(hm:m<3):KQ ((4+m:Nat):Int) x.p x.c x.n=0:=(Mn (L:=[])).1.2 (by rw[(H4 h).1,S4 h hm];rfl)
theorem a0C{L:List PrP}(h:StI L)(k v:List UInt8)(hl:L.length≤999):StI (CQ L k v):=by
 have:=(StN.put (i:=999) ⟨h.rise,h.may,hl⟩ k v)
 exact ⟨this.rise,this.may,this.len⟩
theorem a4z{x:GnC}(h:Dv x=true){L:List PrP}(hI:StI L)(hl:L.length≤900):StI (E8 L x)∧(E8 L x).length≤L.length+1:=by
 have e:=ZQ h L
 unfold JE at e
 rw[W9 h,Af rfl]at e
 rw[← e]
 exact ⟨a0C hI _ _ (by omega),Tz _ _ _⟩
theorem XR{x:GnC}(h:Dv x=true){L:List PrP}(hI:StI L)(hl:L.length≤900):∀ {m:Nat},m≤3→StI (Cf L x m)∧(Cf L x m).length≤L.length+m
 | 0,_=>⟨hI,A8 _⟩
 | m+1,hm=>by
  obtain ⟨h1,h2⟩:=XR h hI hl (m:=m) (by omega)
  have e:=a0n h (m:=m) (by omega) L
  unfold JL at e
  rw[Af (S4 h (by omega))]at e
  rw[← e]
  have h3:=Tz (Cf L x m) (Ah ((4+m:Nat):Int) x.p x.c 0) (pn x.n)
  exact ⟨a0C h1 _ _ (by omega),by omega⟩
theorem Gp{A B:Prop}(h:B)(e:A=B:=by (simp (disch:=omega) only[*, ↓Ed,Eu, ↓reduceIte,reduceCtorEq,Nat.reduceAdd,Nat.reduceEqDiff,Nat.reduceLT,Nat.reduceLeDiff,Int.reduceToNat,Int.reduceEq,Int.reduceLT,Int.reduceLE,Ap,Gd,Gc,GnC.cs];first|done|rfl)):A:=e▸h
theorem b2R(s:Nat)(l:List GnC)(hl:Nw l)(hb:l.length≤20)(hz:E5 l=0):CT Tryz.prog 26 [.ptr s 0,.sl none 6 (CL l)] (lk (AF s [] none)) (IZ s [] (Bm l l.length) none 0):=by
 have hC:=a9n l hl (by omega)
 rw[hz]at hC
 refine a7P _ _ _ (by simp) ?_
 have g:=Sd hz
 simp (disch:=omega) only[UZ,Ce, ↓Ed,Eu, ↓reduceIte,reduceCtorEq,Nat.reduceAdd,Nat.reduceEqDiff,Nat.reduceLT,Nat.reduceLeDiff,Int.reduceToNat,Int.reduceEq,Int.reduceLT,Int.reduceLE,Ap,Gd,Gc,GnC.cs]
 repeat' ((first|exact tt|refine Ab hC ?_|refine na fun b=>?_|refine nb fun b hb=>?_|refine iq ?_|(refine jq ?_ ?_<;>intro h h')|exact wZ|refine Aa ?_ ?_)<;>try refine Gp ?_)
 clear hC hz
 refine A2 (fun q:Nat × Bl=>⟨lk [(0,.ptr s 0),(14,.sl none 6 (CL l)),(15,.int .i64 l.length),(16,.int .i64 (q.1:Int))],lk (AF s (Bm l q.1) q.2)⟩) (fun q=>q.1≤l.length∧stOk s (Bm l q.1) q.2) (fun q=>l.length - q.1) (0,none) ⟨by simp,rfl⟩ (An (by simp[Am,lk,Ce,Bm])) ?_
 rintro ⟨i,x⟩ ⟨i1,hx⟩
 simp only at i1 hx
 by_cases hil:i<l.length
 rotate_left
 ·obtain rfl:i=l.length:=by omega
  have f1:Ac (decide ((l.length:Int)<l.length)=false):=fo
  rcases x with _ | ⟨g,cap⟩
  ·simp (disch:=omega) only[Ce, ↓Ed,Eu, ↓reduceIte,reduceCtorEq,Nat.reduceAdd,Nat.reduceEqDiff,Nat.reduceLT,Nat.reduceLeDiff,Int.reduceToNat,Int.reduceEq,Int.reduceLT,Int.reduceLE,Ap,Gd,Gc,GnC.cs]
   repeat' ((first|exact tt|refine na fun b=>?_|refine nb fun b hb=>?_|refine iq ?_|(refine jq ?_ ?_<;>intro h h')|exact wZ|refine Aa ?_ ?_)<;>try refine Gp ?_)
   all_goals exact Ch (L:=[]) (x:=none) none ⟨hx,fun _=>rfl⟩ JG (by simp[*,Am,lk,Ce,ov_cons,ov_nil,del_cons,del_nil])
  ·have hgs:=hx.1
   simp (disch:=omega) only[AA, ↓Ed,Eu, ↓reduceIte,reduceCtorEq,Nat.reduceAdd,Nat.reduceEqDiff,Nat.reduceLT,Nat.reduceLeDiff,Int.reduceToNat,Int.reduceEq,Int.reduceLT,Int.reduceLE,Ap,Gd,Gc,GnC.cs]
   repeat' ((first|exact tt|refine na fun b=>?_|refine nb fun b hb=>?_|refine iq ?_|(refine jq ?_ ?_<;>intro h h')|exact wZ|refine Aa ?_ ?_)<;>try refine Gp ?_)
   all_goals exact Ch (L:=[]) (x:=none) (some (g,cap)) ⟨hx,fun h=>by cases h⟩ JG (by simp[*,Am,lk,Ce,AA,ov_cons,ov_nil,del_cons,del_nil])
 have f1:Ac (decide ((i:Int)<l.length)=true):=fo
 have ok:=g.ok i hil
 have hli:=hl i hil
 have hI:=Sg g (i:=i) (by omega)
 have hll:(Bm l i).length≤900:=by rw[Pd g (by omega)];omega
 have hs1:Bm l (i+1)=Cf (E8 (Bm l i) (l.getD i default)) (l.getD i default) 3:=rfl
 have hA:=a4z ok hI hll
 have hB:=fun m (hm:m≤3)=>(XR ok hA.1 (by have:=hA.2;have:=Pd g (i:=i) (by omega);have:=g.len;omega) hm).1
 have hP:=a0Y s (Bm l i) hI (l.getD i default).p (l.getD i default).c (by omega) (Fy (l.getD i default)) (by simp only[Fy];omega) x hx
 rw[ZQ ok,b0x ok]at hP
 have hSN:=fun m (hm:m<3)=>a0n ok hm (E8 (Bm l i) (l.getD i default))
 have hSR:=fun m (hm:m<3)=>b1Z ok hm
 have iniA_ne:∀ (_ _:Unit), ¬ stOk s (E8 (Bm l i) (l.getD i default)) none:=by
  intro _ _ h
  have h':E8 (Bm l i) (l.getD i default)=[]:=h
  have:=b2e (Bm l i) (Ah 7 (l.getD i default).p (l.getD i default).c 0) (Cd (Fy (l.getD i default))).1
  unfold E8 at h'
  rw[h']at this;cases this
 obtain ⟨y,hy⟩:∃ y,l.getD i default=y:=⟨_,rfl⟩
 rw[hy]at hs1 hB hP hSN hSR iniA_ne hli
 obtain ⟨hp,hq⟩:=hli
 clear ok hI hll hA g
 generalize hL3:Bm l (i+1)=L3 at *
 generalize Bm l i=L0 at *
 generalize E8 L0 y=L1 at *
 obtain ⟨p,c,q',d,o,n⟩:=y
 simp only[Fy]at hp hq hP hSN hSR
 have hS:=hP
 clear hP
 rcases x with _ | ⟨g,cap⟩
 ·simp only[Ce]at hS ⊢
  refine Gp ?_
  repeat' ((first|exact tt|((refine Iz hS (fun h0=>?_) (fun gb gc hn h2 hc=>?_))<;>(try simp only[Bt,Bu,Bc]at hn))|((refine Ex hS (fun gc hc=>?_) (fun gb gc hn h2 hc=>?_))<;>(try simp only[Bt,Bu,Bc]at hn))|refine na fun b=>?_|refine nb fun b hb=>?_|refine iq ?_|(refine jq ?_ ?_<;>intro h h')|exact wZ|refine Aa ?_ ?_)<;>try refine Gp ?_)
  all_goals first
  | (exfalso;exact iniA_ne () () h0)
  | refine A2 (fun q:Nat × Nat × Nat=>⟨lk [(0,.ptr s 0),(7,.ptr b 0),(8,.int .i64 ((4+q.1:Nat):Int)),(14,.sl none 6 (CL l)),(15,.int .i64 l.length),(16,.int .i64 (i:Int))],lk ((b,[.str p,.int .i64 c,.str q',.int .i64 d,.bool o,.int .i64 n])::AF s (Cf L1 ⟨p,c,q',d,o,n⟩ q.1) (some (q.2.1,q.2.2)))⟩) (fun q=>q.1≤3∧stOk s (Cf L1 ⟨p,c,q',d,o,n⟩ q.1) (some (q.2.1,q.2.2))∧(¬ q.2.1=b∧¬ b=q.2.1)) (fun q=>3 - q.1) (0,gb,gc) ⟨by simp,⟨h2,hc⟩,by simp[*]⟩ (An P1) ?_
  | refine A2 (fun q:Nat × Nat × Nat=>⟨lk [(0,.ptr s 0),(7,.ptr b 0),(8,.int .i64 ((4+q.1:Nat):Int)),(14,.sl none 6 (CL l)),(15,.int .i64 l.length),(16,.int .i64 (i:Int))],lk ((b,[.str p,.int .i64 c,.str q',.int .i64 d,.bool o,.int .i64 n])::AF s (Cf L1 ⟨p,c,q',d,o,n⟩ q.1) (some (q.2.1,q.2.2)))⟩) (fun q=>q.1≤3∧stOk s (Cf L1 ⟨p,c,q',d,o,n⟩ q.1) (some (q.2.1,q.2.2))∧(¬ q.2.1=b∧¬ b=q.2.1)) (fun q=>3 - q.1) (0,g,gc) ⟨by simp,⟨hgs,hc⟩,by simp[*]⟩ (An P1) ?_
  all_goals
   clear hS
   rintro ⟨m,g1,c1⟩ ⟨m1,hx1,hd⟩
   simp only at m1 hx1 hd
   have hIB:=hB m m1
   have hN:=PU ((4+m:Nat):Int)
   by_cases hm3:m<3
   ·have hk:EC ((4+m:Nat):Int)=true:=by simp only[EC,AP,Bs];omega
    rw[hk]at hN
    have hS:=N5 s (Cf L1 ⟨p,c,q',d,o,n⟩ m) hIB ((4+m:Nat):Int) p c (by omega) n (some (g1,c1)) hx1
    rw[hSN m hm3,hSR m hm3]at hS
    clear hIB hB hSN hSR hk
    generalize hL4:Cf L1 ⟨p,c,q',d,o,n⟩ (m+1)=L4 at *
    generalize Cf L1 ⟨p,c,q',d,o,n⟩ m=L5 at *
    have hg1:=hx1.1
    have e4:((4+m:Nat):Int)+1=((4+(m+1):Nat):Int):=by omega
    generalize hkk:((4+m:Nat):Int)=kk at *
    simp only[AA]at hS ⊢
    refine Gp ?_
    repeat' ((first|exact tt|refine Ab hN ?_|((refine Iz hS (fun h0=>?_) (fun gb gc hn h2 hc=>?_))<;>(try simp only[Bt,Bu,Bc]at hn))|((refine Ex hS (fun gc hc=>?_) (fun gb gc hn h2 hc=>?_))<;>(try simp only[Bt,Bu,Bc]at hn))|refine na fun b=>?_|refine nb fun b hb=>?_|refine iq ?_|(refine jq ?_ ?_<;>intro h h')|exact wZ|refine Aa ?_ ?_)<;>try refine Gp ?_)
    all_goals first
    | exact AC (m+1,gb,gc) ⟨An Md,⟨by simp only;omega,by simp only[hL4];exact ⟨h2,hc⟩,by simp[*]⟩,by simp only;omega⟩
    | exact AC (m+1,g1,gc) ⟨An Md,⟨by simp only;omega,by simp only[hL4];exact ⟨hg1,hc⟩,by simp[*]⟩,by simp only;omega⟩
   ·obtain rfl:m=3:=by omega
    have hk:EC ((4+3:Nat):Int)=false:=rfl
    rw[hk]at hN
    clear hIB hB hSN hSR hk
    simp only[AA]
    rw[← hs1]at hx1 ⊢
    have hg1:=hx1.1
    clear hs1
    simp (disch:=omega) only[AA, ↓Ed,Eu, ↓reduceIte,reduceCtorEq,Nat.reduceAdd,Nat.reduceEqDiff,Nat.reduceLT,Nat.reduceLeDiff,Int.reduceToNat,Int.reduceEq,Int.reduceLT,Int.reduceLE,Ap,Gd,Gc,GnC.cs]
    repeat' ((first|exact tt|refine Ab hN ?_|refine na fun b=>?_|refine nb fun b hb=>?_|refine iq ?_|(refine jq ?_ ?_<;>intro h h')|exact wZ|refine Aa ?_ ?_)<;>try refine Gp ?_)
    all_goals exact AC (i+1,some (g1,c1)) ⟨An Md,⟨hil,by simp only[hL3];exact hx1⟩,by simp only;omega⟩
 ·have hgs:=hx.1
  simp only[AA]at hS ⊢
  refine Gp ?_
  repeat' ((first|exact tt|((refine Iz hS (fun h0=>?_) (fun gb gc hn h2 hc=>?_))<;>(try simp only[Bt,Bu,Bc]at hn))|((refine Ex hS (fun gc hc=>?_) (fun gb gc hn h2 hc=>?_))<;>(try simp only[Bt,Bu,Bc]at hn))|refine na fun b=>?_|refine nb fun b hb=>?_|refine iq ?_|(refine jq ?_ ?_<;>intro h h')|exact wZ|refine Aa ?_ ?_)<;>try refine Gp ?_)
  all_goals first
  | (exfalso;exact iniA_ne () () h0)
  | refine A2 (fun q:Nat × Nat × Nat=>⟨lk [(0,.ptr s 0),(7,.ptr b 0),(8,.int .i64 ((4+q.1:Nat):Int)),(14,.sl none 6 (CL l)),(15,.int .i64 l.length),(16,.int .i64 (i:Int))],lk ((b,[.str p,.int .i64 c,.str q',.int .i64 d,.bool o,.int .i64 n])::AF s (Cf L1 ⟨p,c,q',d,o,n⟩ q.1) (some (q.2.1,q.2.2)))⟩) (fun q=>q.1≤3∧stOk s (Cf L1 ⟨p,c,q',d,o,n⟩ q.1) (some (q.2.1,q.2.2))∧(¬ q.2.1=b∧¬ b=q.2.1)) (fun q=>3 - q.1) (0,gb,gc) ⟨by simp,⟨h2,hc⟩,by simp[*]⟩ (An P1) ?_
  | refine A2 (fun q:Nat × Nat × Nat=>⟨lk [(0,.ptr s 0),(7,.ptr b 0),(8,.int .i64 ((4+q.1:Nat):Int)),(14,.sl none 6 (CL l)),(15,.int .i64 l.length),(16,.int .i64 (i:Int))],lk ((b,[.str p,.int .i64 c,.str q',.int .i64 d,.bool o,.int .i64 n])::AF s (Cf L1 ⟨p,c,q',d,o,n⟩ q.1) (some (q.2.1,q.2.2)))⟩) (fun q=>q.1≤3∧stOk s (Cf L1 ⟨p,c,q',d,o,n⟩ q.1) (some (q.2.1,q.2.2))∧(¬ q.2.1=b∧¬ b=q.2.1)) (fun q=>3 - q.1) (0,g,gc) ⟨by simp,⟨hgs,hc⟩,by simp[*]⟩ (An P1) ?_
  all_goals
   clear hS
   rintro ⟨m,g1,c1⟩ ⟨m1,hx1,hd⟩
   simp only at m1 hx1 hd
   have hIB:=hB m m1
   have hN:=PU ((4+m:Nat):Int)
   by_cases hm3:m<3
   ·have hk:EC ((4+m:Nat):Int)=true:=by simp only[EC,AP,Bs];omega
    rw[hk]at hN
    have hS:=N5 s (Cf L1 ⟨p,c,q',d,o,n⟩ m) hIB ((4+m:Nat):Int) p c (by omega) n (some (g1,c1)) hx1
    rw[hSN m hm3,hSR m hm3]at hS
    clear hIB hB hSN hSR hk
    generalize hL4:Cf L1 ⟨p,c,q',d,o,n⟩ (m+1)=L4 at *
    generalize Cf L1 ⟨p,c,q',d,o,n⟩ m=L5 at *
    have hg1:=hx1.1
    have e4:((4+m:Nat):Int)+1=((4+(m+1):Nat):Int):=by omega
    generalize hkk:((4+m:Nat):Int)=kk at *
    simp only[AA]at hS ⊢
    refine Gp ?_
    repeat' ((first|exact tt|refine Ab hN ?_|((refine Iz hS (fun h0=>?_) (fun gb gc hn h2 hc=>?_))<;>(try simp only[Bt,Bu,Bc]at hn))|((refine Ex hS (fun gc hc=>?_) (fun gb gc hn h2 hc=>?_))<;>(try simp only[Bt,Bu,Bc]at hn))|refine na fun b=>?_|refine nb fun b hb=>?_|refine iq ?_|(refine jq ?_ ?_<;>intro h h')|exact wZ|refine Aa ?_ ?_)<;>try refine Gp ?_)
    all_goals first
    | exact AC (m+1,gb,gc) ⟨An Md,⟨by simp only;omega,by simp only[hL4];exact ⟨h2,hc⟩,by simp[*]⟩,by simp only;omega⟩
    | exact AC (m+1,g1,gc) ⟨An Md,⟨by simp only;omega,by simp only[hL4];exact ⟨hg1,hc⟩,by simp[*]⟩,by simp only;omega⟩
   ·obtain rfl:m=3:=by omega
    have hk:EC ((4+3:Nat):Int)=false:=rfl
    rw[hk]at hN
    clear hIB hB hSN hSR hk
    simp only[AA]
    rw[← hs1]at hx1 ⊢
    have hg1:=hx1.1
    clear hs1
    simp (disch:=omega) only[AA, ↓Ed,Eu, ↓reduceIte,reduceCtorEq,Nat.reduceAdd,Nat.reduceEqDiff,Nat.reduceLT,Nat.reduceLeDiff,Int.reduceToNat,Int.reduceEq,Int.reduceLT,Int.reduceLE,Ap,Gd,Gc,GnC.cs]
    repeat' ((first|exact tt|refine Ab hN ?_|refine na fun b=>?_|refine nb fun b hb=>?_|refine iq ?_|(refine jq ?_ ?_<;>intro h h')|exact wZ|refine Aa ?_ ?_)<;>try refine Gp ?_)
    all_goals exact AC (i+1,some (g1,c1)) ⟨An Md,⟨hil,by simp only[hL3];exact hx1⟩,by simp only;omega⟩
end
theorem Uh{P:Program}{f:Nat}{xs xs':List AV}{o:Nat→Option (List AV)}{Q:AV→(Nat→Option (List AV))→Prop}(h:K5 xs xs')(hc:CT P f xs' o Q):CT P f xs o Q:=by
 obtain ⟨h1,h2⟩:=T8 h
 intro W U vs hG hl hv
 refine hc W U vs (by omega) (fun i v c hvi hci=>?_) hv
 have hi:i<xs.length:=by have:=(AM.1 hci).1;omega
 exact h2 i _ c (Aw hi) hci W U v (hl i v _ hvi (Aw hi))
theorem a1B(s cl:Nat)(xs:List AV):K5 (.agg [.ptr s 0,.ptr cl 0,.int .i64 1,.int .i64 0,.nils 31 34]::xs) (Ds s cl 1 0 []::xs):=by
 refine ⟨QC ⟨Wk.rfl,Wk.rfl,Wk.rfl,Wk.rfl,QD _ _,trivial⟩, ?_⟩
 induction xs with
 | nil=>trivial
 | cons a l ih=>exact ⟨Wk.rfl,ih⟩
abbrev g0:GnC:=⟨[112],0,[113],1,false,1⟩
theorem ok0:Dv g0=true:=by simp[Dv,LU,SR]
theorem WF:E5 [g0]=0:=by simp[E5,Dr,ok0]
theorem a3K:StB (Bm [g0] 1) 4∧Bm [g0] 1≠[]∧Av (Bm [g0] 1) [112] 0=(⟨[113],1,false,false,0⟩,true)∧Fg (Bm [g0] 1) 4 [112] 0=1:=by
 have g:=Sd WF
 have hl:=Pd g (i:=1) (by simp)
 refine ⟨⟨Sg g (by simp),by omega⟩,fun e=>by rw[e]at hl;simp at hl,a4A g (i:=1) (j:=0) (by simp) (by omega),a4B g (i:=1) (j:=0) (by simp) (by omega) (w:=4) (by omega)⟩
abbrev q0:PktC:=⟨[112],0,[113],1,1,[120],3,0⟩
theorem ZT:BO q0=true:=by simp[BO,LU,SR]
theorem a3L{L:List PrP}{n:Nat}(hB:StB L n)(hn:n≤900)(hg:Av L [112] 0=(⟨[113],1,false,false,0⟩,true))(hx:Fg L 4 [112] 0=1):
  NY L [112] 0 [120] 3 0=0∧Dj L [112] 0 [120] 3 0=q0∧Av (IX L q0) [112] 0=(⟨[113],1,false,false,0⟩,true):=by
 have hp:Dj L [112] 0 [120] 3 0=q0:=by unfold Dj;rw[hg,hx]
 refine ⟨?_,hp, ?_⟩
 ·unfold NY
  rw[hp,hg,hx,ZT]
  simp
 ·have k7:=MH (k:=7) (by omega) LU
  have k4:=MH (k:=4) (by omega) LU
  have k1:=MI (k:=1) (q:=1) (by omega) LU (by omega)
  unfold IX
  have hr:=Qc hB.I.rise (Ah 4 [112] 0 0) (pn (1+1))
  rw[XE hr (k7.ne k1 (by omega)),XE hB.I.rise (k7.ne k4 (by omega)),hg]
abbrev m0:MsgC:=⟨2,default,p0,[],0,1,zeroF,zeroF⟩
theorem Zx:Wk Ny (.agg (AD m0)):=MJ (by rfl)
theorem Zp:LgM m0:=⟨by simp,by simp,by simp,by simp,⟨by simp[zeroF],fun i hi=>by simp[zeroF]at hi⟩,⟨by simp[zeroF],fun i hi=>by simp[zeroF]at hi⟩⟩
theorem Yo{L:List PrP}{K:List HdC}(hg:Av L [112] 0=(⟨[113],1,false,false,0⟩,true)):(Eo L K 1 0 m0).2.1=13:=by
 have hm:Eq m0:=⟨by decide,⟨.inr rfl,fun h=>by simp at h,.inr rfl,.inr (.inr rfl),.inr rfl⟩,fun h=>by simp at h,fun h=>by simp at h,fun _=>⟨a5h,by decide,by decide,by rfl,by rfl⟩⟩
 rw[WX (by decide),RP hm rfl]
 unfold H7
 rw[show Av L m0.p.d m0.p.dc=_ from hg,show H5 m0.p 1 0=true by decide]
 simp
theorem a0P{A B:Prop}(h:B)(e:A=B:=by (simp (disch:=omega) only[*, ↓Ed,Eu, ↓reduceIte,reduceCtorEq,Nat.reduceAdd,Nat.reduceEqDiff,Nat.reduceLT,Nat.reduceLeDiff,Int.reduceToNat,Int.reduceEq,Int.reduceLT,Int.reduceLE,Ap,Ao,Ax,AJ,AY,Int.reduceAdd,AH,AN,decide_true,Gt,eqC_i,eqC_s,eqC_nil,oand_some];first|done|rfl)):A:=e▸h
theorem a9t:CP Tryz.prog 8 [] (.bool true):=by
 obtain ⟨hB,hne,hg,hx⟩:=a3K
 obtain ⟨hS,hq,hg2⟩:=a3L hB (by omega) hg hx
 have hIn:=fun s=>b2R s [g0] (fun i hi=>by (obtain rfl:i=0:=by simpa using hi);exact ⟨by simp,by simp⟩) (by simp) WF
 change ∀ s,CT _ _ [_,.sl none 6 [[.str [112],.int .i64 0,.str [113],.int .i64 1,.bool false,.int .i64 1]]] (lk [(s,[.nils 115 2])]) (IZ s [] (Bm [g0] 1) none 0) at hIn
 have hSd:=fun s cl x hx=>b3e s cl (Bm [g0] 1) 4 hB (by omega) [112] 0 [120] 3 0 1 0 [] (by simp) (by simp) x hx hS
 rw[hq]at hSd
 have hB2:StB (IX (Bm [g0] 1) q0) (4+2):=b1W hB (by omega) ZT
 have hD:=fun s c m g cap (a1:¬ g=s∧¬ s=g) (a2:(IX (Bm [g0] 1) q0).length≤cap) (a3:(¬ g=c∧¬ c=g)∧(¬ g=m∧¬ m=g)) Ae hms hcm=>Uh (show K5 [.agg [.ptr s 0,.ptr c 0,.int .i64 1,.int .i64 0,.nils 31 34],Ny] [Ds s c 1 0 [],.agg (AD m0)] from ⟨(a1B s c []).1,Zx,trivial⟩) (a1b s c m (IX (Bm [g0] 1) q0) hB2.I [] (by simp) m0 1 0 Zp (some (g,cap)) ⟨a1,a2⟩ (S3 (by simp[a3])) Ae hms hcm 13 (Yo hg2) (by decide))
 clear hB hg hx hS hq hB2 hg2
 have e1:q0.cs=[.str [112],.int .i64 0,.str [113],.int .i64 1,.int .i64 1,.str [120],.int .i64 3,.int .i64 0]:=rfl
 have e2:(EN 1 q0).cs=[.int .i64 1,.str [112],.int .i64 0,.str [113],.int .i64 1,.int .i64 1,.str [120],.int .i64 3,.int .i64 0,.str [],.str [],.int .i64 0,.int .i64 0]:=rfl
 rw[e1,e2]at hSd
 clear e1 e2
 generalize IX (Bm [g0] 1) q0=L2 at *
 generalize Bm [g0] 1=L1 at *
 have hS2:=fun s cl g cap (a1:¬ g=s∧¬ s=g) (a2:L1.length≤cap)=>Uh (a1B s cl _) (hSd s cl (some (g,cap)) ⟨a1,a2⟩)
 simp only[AA,Bi,Bj]at hS2 hD
 clear hSd
 have f9:Ac (decide (((1:Nat):Int)=1)=true):=rfl
 refine a6l _ _ (by simp) ?_
 simp only[Vl];refine a0P ?_
 repeat' ((first|exact tt|refine Oi a1e ?_|(refine' Ui (o1:=[]) (o2:=[]) (a0W) (fun _ _ h=>by simp[lk]at h) (fun _ _=>rfl) (Uq (fun c m hc hm hcm hmc=>?_));simp only[Bt,Bu,Bc]at hc hm)|((refine Iz (hIn _) (fun h0=>absurd h0 hne) (fun gb gc hn h2 hc=>?_))<;>(try simp only[Bt,Bu,Bc]at hn))|((refine Rw (hS2 _ _ gb _ h2 hc) (fun k2 e2=>?_) (fun ge k2 cs f5 f6 f7 e2=>?_) h2)<;>(try simp only[Bt,Bu,Bc]at f5))|(refine c4 (hD _ c m gb _ h2 e2 (by first|(simp only[*,Ct,and_self];done)|fail) (by first|(simp only[*,Ct,and_self];done)|fail) (by first|(simp only[*,Ct,and_self];done)|fail) (by first|(simp only[*,Ct,and_self];done)|fail)) ?_ qc)|(refine c4 (hD _ c m ge _ f6 e2 (by first|(simp only[*,Ct,and_self];done)|fail) (by first|(simp only[*,Ct,and_self];done)|fail) (by first|(simp only[*,Ct,and_self];done)|fail) (by first|(simp only[*,Ct,and_self];done)|fail)) ?_ qc)|refine na fun b=>?_|refine nb fun b hb=>?_|refine iq ?_|(refine jq ?_ ?_<;>intro h h')|exact wZ|refine Aa ?_ ?_)<;>try refine a0P ?_)
section
open Go.RowKit Go.Lib
theorem b2j(M N:MsgC):splice (AD M) 0 (AD N)=AD N:=I4 _ _ (by rw[C4,C4])
theorem b0v{l:List PrP}(h:GK l):Sz l∧l.length≤100:=⟨fun i hi=>by have:=h.2 i hi;omega,by have:=h.1;omega⟩
theorem b3G{x:GvC}(hx:HY x):∃ L K,StB L 90∧KnI K x.n.length∧x.n.length≤100∧CP Tryz.prog 13 [.agg x.cs] (.agg (RV L K x.ht x.tm))∧
  CT Tryz.prog 12 [.agg (RV L K x.ht x.tm)] (lk []) (PN L K x.ht x.tm):=by
 obtain ⟨r,hrr⟩:∃ r:List Int,r=(KN (Cn [] x.o x.o.length)).map fun b=>(b.toNat:Int):=⟨_,rfl⟩
 have hr:r.length=32:=by rw[hrr,Ax];exact JJ _ _
 have hB:=a3g hx
 have hK:=So r hr x.a x.n x.n.length
 have hn:x.n.length≤100:=by have:=hx.2.2.2.2.1;omega
 exact ⟨_,_,hB,hK,hn,a8D x hx r hr hrr (WW x.e hx.1.1),b2I (Nh x) (Du r hr x.a x.n x.n.length) x.ht x.tm (hB.mono (by omega)) hK hn⟩
end
section
open Go.RowKit Go.Lib
theorem b4i{L:List PrP}{n:Nat}(hB:StB L n)(hn:n≤900){K:List HdC}{ht tm:Int}{M:MsgC}:StB (Eo L K ht tm M).2.2 (n+2):=by
 by_cases h1:M.k=1
 ·rw[(a3h h1).2.2];exact hB.mono (by omega)
 ·rw[WX h1];exact b2W hB (by omega) h1
end
section
open Go.RowKit Go.Lib
def Lq(l:List EvC):List (List AV):=l.map EvC.cs
theorem Np(l:List EvC):(Lq l).length=l.length:=by simp[Lq]
theorem MB(l:List EvC)(i:Nat)(h:i<l.length):(Lq l).getD i []=(l.getD i default).cs:=by simp[Lq,h]
def Je(l:List MsgC):List (List AV):=l.map AD
theorem Qg(l:List MsgC):(Je l).length=l.length:=by simp[Je]
theorem Ps(l:List MsgC)(i:Nat)(h:i<l.length):(Je l).getD i []=AD (l.getD i Jx):=by simp[Je,h]
def NX(l:List MsgC):Prop:=l.length≤70∧∀ i,i<l.length→Kt (l.getD i Jx)
theorem Kh{A B:Prop}(h:B)(e:A=B:=by (simp (disch:=omega) only[*, ↓Ed,Eu, ↓reduceIte,reduceCtorEq,Nat.reduceAdd,Nat.reduceEqDiff,Nat.reduceLT,Nat.reduceLeDiff,Int.reduceToNat,Int.reduceEq,Int.reduceLT,Int.reduceLE,Ap,GvC.cs,EvC.cs,Es.cs,Ax,DZ,C4, ↓Ht, ↓H0, ↓H1, ↓b4A, ↓Oj, ↓Ez, ↓EL,b2j,Qg,Ps,Np,MB,SI];first|done|rfl)):A:=e▸h
open Classical in
theorem RG(l:List MsgC):CP Tryz.prog 17 [.sl none 50 (Je l)] (.bool (decide (NX l))):=by
 refine a1K _ _ (by simp) ?_
 by_cases h7:l.length≤70
 rotate_left
 ·rw[A0 (fun h=>h7 h.1)]
  simp only[Q9];refine Kh ?_
  repeat' ((first|exact tt|refine na fun b=>?_|refine nb fun b hb=>?_|refine iq ?_|(refine jq ?_ ?_<;>intro h h')|exact wZ|refine Aa ?_ ?_)<;>try refine Kh ?_)
  all_goals (exfalso;simp only[Ac,Hn]at *;omega)
 simp only[Q9];refine Kh ?_
 repeat' ((first|exact tt|refine na fun b=>?_|refine nb fun b hb=>?_|refine iq ?_|(refine jq ?_ ?_<;>intro h h')|exact wZ|refine Aa ?_ ?_)<;>try refine Kh ?_)
 refine A2 (fun i:Nat=>⟨lk [(0,.sl none 50 (Je l)),(3,.int .i64 (i:Int))],lk []⟩) (fun i=>i≤l.length∧Ac (∀ j,j<i→Kt (l.getD j Jx))) (fun i=>l.length - i) 0 ⟨by omega,fun j hj=>by omega⟩ (An BA) ?_
 intro i ⟨i1,i2⟩
 by_cases hil:i<l.length
 rotate_left
 ·obtain rfl:i=l.length:=by omega
  have f1:Ac (decide ((l.length:Int)<l.length)=false):=fo
  have hls:NX l:=⟨h7,i2⟩
  rw[AO hls]
  clear i2 hls
  refine Kh ?_
  repeat' ((first|exact tt|refine na fun b=>?_|refine nb fun b hb=>?_|refine iq ?_|(refine jq ?_ ?_<;>intro h h')|exact wZ|refine Aa ?_ ?_)<;>try refine Kh ?_)
 have f1:Ac (decide ((i:Int)<l.length)=true):=fo
 have hG:=a8M (l.getD i Jx)
 by_cases hq:Kt (l.getD i Jx)
 ·have i3:Ac (∀ j,j<i+1→Kt (l.getD j Jx)):=fun j hj=>by
   by_cases e:j<i
   ·exact i2 j e
   ·obtain rfl:j=i:=by omega
    exact hq
  rw[AO hq]at hG
  clear i2 hq
  generalize decide (NX l)=res at *
  obtain ⟨M,hgd⟩:∃ a,l.getD i Jx=a:=⟨_,rfl⟩
  rw[hgd]at hG
  refine Kh ?_
  repeat' ((first|exact tt|refine Ab hG ?_|refine na fun b=>?_|refine nb fun b hb=>?_|refine iq ?_|(refine jq ?_ ?_<;>intro h h')|exact wZ|refine Aa ?_ ?_)<;>try refine Kh ?_)
  all_goals exact AC (i+1) ⟨An qd,⟨hil,i3⟩,by omega⟩
 ·rw[A0 (fun h=>hq (h.2 i hil))]
  rw[A0 hq]at hG
  clear i2 hq
  obtain ⟨M,hgd⟩:∃ a,l.getD i Jx=a:=⟨_,rfl⟩
  rw[hgd]at hG
  refine Kh ?_
  repeat' ((first|exact tt|refine Ab hG ?_|refine na fun b=>?_|refine nb fun b hb=>?_|refine iq ?_|(refine jq ?_ ?_<;>intro h h')|exact wZ|refine Aa ?_ ?_)<;>try refine Kh ?_)
theorem W4{L:List PrP}{K:List HdC}{ht tm:Int}{M:MsgC}(hE:(Eo L K ht tm M).2.1=0):(Eo L K ht tm M).1.length≤2:=by
 obtain ⟨h1,h2⟩:=RX hE
 have hm:=RU h2
 rw[WX h1]
 by_cases k2:M.k=2
 ·rw[RP hm k2]at h2 ⊢
  obtain ⟨_,_,_,_,_,e⟩:=TB h2
  rw[e];simp
 by_cases k3:M.k=3
 ·rw[RQ hm k3]at h2 ⊢
  obtain ⟨_,e⟩:=QV h2
  rw[e];simp
 ·rw[RS hm k2 k3]at h2 ⊢
  obtain ⟨_,_,_,e⟩:=PM h2
  rw[e]
  simp only[K8]
  split<;>simp
theorem W8{L:List PrP}{n:Nat}(hB:StB L n){K:List HdC}{ht tm:Int}{M:MsgC}(hE:(Eo L K ht tm M).2.1=0){e0 e1:EvC}(h2:(Eo L K ht tm M).1=[e0,e1])(h6:e1.k=6):
  ∃ s,e1.e=M.p.s∧e1.ec=M.p.sc∧Shut (Eo L K ht tm M).2.2 M.p.s M.p.sc s∧s.o=true∧1≤s.st∧s.st≤M.p.q:=by
 obtain ⟨h1,h3⟩:=RX hE
 rw[WX h1]at h2 ⊢
 have:=Vh hB.I.rise h1 h3 (by rw[h2];rfl) (by rw[h2];exact h6)
 rwa [h2]at this
theorem W7{L:List PrP}{n:Nat}(hB:StB L n){K:List HdC}{ht tm:Int}{M:MsgC}{p:List UInt8}{c:Int}{s:Es}(hs:Shut L p c s):
  Shut (Eo L K ht tm M).2.2 p c s∧(∀ e∈(Eo L K ht tm M).1,e.k=6→¬ (e.e=p∧e.ec=c))∧(M.k=2→M.p.d=p→M.p.dc=c→(Eo L K ht tm M).2.1≠0):=by
 by_cases h1:M.k=1
 ·obtain ⟨a,b,d⟩:=a3h (L:=L) (K:=K) (ht:=ht) (tm:=tm) h1
  rw[b,d]
  exact ⟨hs,by simp,fun _ _ _=>a⟩
 ·rw[WX h1];exact a2a hB.I.rise h1 hs
end
section
open Go.RowKit Go.Lib
theorem Q0{A B:Prop}(h:B)(e:A=B:=by (simp (disch:=omega) only[*, ↓Ed,Eu, ↓reduceIte,reduceCtorEq,Nat.reduceAdd,Nat.reduceEqDiff,Nat.reduceLT,Nat.reduceLeDiff,Int.reduceToNat,Int.reduceEq,Int.reduceLT,Int.reduceLE,Ap,List.getD_cons_zero,List.getD_cons_succ,GvC.cs,EvC.cs,Es.cs,Ax,DZ,C4, ↓Ht, ↓H0, ↓H1, ↓b4A, ↓Oj, ↓Ez, ↓EL,b2j,Qg,Ps,Np,MB,SI];first|done|rfl)):A:=e▸h
theorem Uy(x:GvC)(M:MsgC)(th:List MsgC)(data:List UInt8)(hL:CP Tryz.prog 9 [.agg x.cs] (.bool true))(hG:CP Tryz.prog 10 [.agg (AD M)] (.bool true))(hGs:CP Tryz.prog 17 [.sl none 50 (Je th)] (.bool true))
  (q6:Ac (decide (6<(th.length:Int))=false)) (q7:Ac (decide (600<(data.length:Int))=false)) (M1:MsgC) (hP:CP Tryz.prog 11 [.agg (AD M),.sl none 2 (AX x.o),.bool true] (.agg (AD M1))) (hl1:LgM M1) (L:List PrP) (K:List HdC) (hB:StB L 90) (hKl:K.length≤1000)
  (hD:CP Tryz.prog 13 [.agg x.cs] (.agg (RV L K x.ht x.tm))) (hO:CT Tryz.prog 12 [.agg (RV L K x.ht x.tm)] (lk []) (PN L K x.ht x.tm)) (hE:(Eo L K x.ht x.tm M1).2.1=0) (h2:¬ ∃ e0 e1,(Eo L K x.ht x.tm M1).1=[e0,e1]∧e1.k=6):CP Tryz.prog 4 [.agg x.cs,.agg (AD M),.sl none 50 (Je th),.str data] (.bool true):=by
 have hF:=a9t
 refine Qr _ _ (by simp) ?_
 obtain ⟨e',k,m',o,n,a,ht,tm⟩:=x
 simp only at hL hD hO hP hE h2
 have hno0:=fun s (hs:stOk s L none)=>a3i (K:=K) (ht:=ht) (tm:=tm) (M:=M1) hs hE
 have hB2:=b4i (K:=K) (ht:=ht) (tm:=tm) (M:=M1) hB (by omega)
 have hDo:=fun s c m g cap (hs:stOk s L (some (g,cap))) (hg:(¬ g=c∧¬ c=g)∧(¬ g=m∧¬ m=g)) Ae hms hcm=>b3a s c m L 90 hB (by omega) K M1 ht tm hl1 (some (g,cap)) hs (S3 (by simp[hg])) Ae hms hcm hE
 simp only[AA,Bi,Bj]at hDo
 obtain ⟨l,hl⟩:∃ l,(Eo L K ht tm M1).1=l:=⟨_,rfl⟩
 rw[hl]at hDo h2
 by_cases hl2:l.length=2
 ·match l,hl2 with
  | [e0,e1],_=>
   have q8:Ac (decide (e1.k=6)=false):=A0 fun h=>h2 ⟨e0,e1,rfl,h⟩
   simp only[CX,List.map_nil]at hDo
   clear h2 hl hl1 hB hB2 hKl hE
   generalize (Eo L K ht tm M1).2.2=L2 at *
   simp only[J5,Cz.z0];refine Q0 ?_
   repeat' ((first|exact tt|refine Ab hF ?_|refine Ab hL ?_|refine Ab hG ?_|refine Ab hGs ?_|refine Ab hD ?_|refine Ab hP ?_|((refine OI hO (fun s c m hs Ae hms hcm f1 f2 f3=>absurd hs (hno0 s)) (fun s c m g cap hs hg Ae hms hcm f1 f2 f3 f4=>(fun (hgs:¬ g=s∧¬ s=g)=>?_) hs.1))<;>(try simp only[Bt,Bu,Bc]at f1 f2 f3 f4))|((refine Lf (hDo s c m g cap hs hg Ae hms hcm) (fun k0 e2=>?_) (fun ge k0 cs f5 f6 f7 f8 f9 e2=>?_) hs.1 hg.1 hg.2 qc)<;>(try simp only[Bt,Bu,Bc]at f5))|refine na fun b=>?_|refine nb fun b hb=>?_|refine iq ?_|(refine jq ?_ ?_<;>intro h h')|exact wZ|refine Aa ?_ ?_)<;>try refine Q0 ?_)
 ·have q8:Ac (decide ((l.length:Int)=2)=false):=fo
  clear h2 hl hl1 hB hB2 hKl hE
  generalize (Eo L K ht tm M1).2.2=L2 at *
  simp only[J5,Cz.z0];refine Q0 ?_
  repeat' ((first|exact tt|refine Ab hF ?_|refine Ab hL ?_|refine Ab hG ?_|refine Ab hGs ?_|refine Ab hD ?_|refine Ab hP ?_|((refine OI hO (fun s c m hs Ae hms hcm f1 f2 f3=>absurd hs (hno0 s)) (fun s c m g cap hs hg Ae hms hcm f1 f2 f3 f4=>(fun (hgs:¬ g=s∧¬ s=g)=>?_) hs.1))<;>(try simp only[Bt,Bu,Bc]at f1 f2 f3 f4))|((refine Lf (hDo s c m g cap hs hg Ae hms hcm) (fun k0 e2=>?_) (fun ge k0 cs f5 f6 f7 f8 f9 e2=>?_) hs.1 hg.1 hg.2 qc)<;>(try simp only[Bt,Bu,Bc]at f5))|refine na fun b=>?_|refine nb fun b hb=>?_|refine iq ?_|(refine jq ?_ ?_<;>intro h h')|exact wZ|refine Aa ?_ ?_)<;>try refine Q0 ?_)
end
end Go.Proofs.YtfgihnhoocnmdaaGreatDoor
