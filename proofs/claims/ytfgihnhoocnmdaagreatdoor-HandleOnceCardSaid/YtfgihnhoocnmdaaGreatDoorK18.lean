import Derived.Test.YtfgihnhoocnmdaaGreatDoorK17
import Derived.Ground.SlsfProg
namespace Go.Proofs.YtfgihnhoocnmdaaGreatDoor
set_option linter.all false
set_option maxHeartbeats 64000000
set_option maxRecDepth 100000
section
abbrev rd(s:List UInt8)(n:Int)(bad:Int):List AV:=[.str s,.int .i64 n,.int .i64 bad]
theorem C9{A B:Prop}(h:B)(e:A=B:=by (simp (disch:=omega) only[*, ↓Ed,Eu, ↓reduceIte,reduceCtorEq,Nat.reduceAdd,Nat.reduceEqDiff,Nat.reduceLT,Nat.reduceLeDiff,Int.reduceToNat,Int.reduceEq,Int.reduceLT,Int.reduceLE,Ap,Ax];first|done|rfl)):A:=e▸h
theorem a8T(s:List UInt8):CT Tryz.prog 114 [.str s] (fun _=>none) (fun r o=>∃ b,r=.ptr b 0∧o=lk [(b,rd s 0 0)]):=by
 refine a8i _ _ _ (by simp) ?_
 rw[show (fun _=>none:Nat→Option (List AV))=lk [] from rfl]
 simp only[Wp];refine C9 ?_
 repeat' ((first|exact tt|refine na fun b=>?_|refine nb fun b hb=>?_|refine iq ?_|(refine jq ?_ ?_<;>intro h h')|exact wZ|refine Aa ?_ ?_)<;>try refine C9 ?_)
 exact TD (b:=b) KI
def Gb(bad e:Int):Int:=if bad=0 then e else bad
theorem Tl(b:Nat)(s:List UInt8)(n bad e:Int):CT Tryz.prog 172 [.ptr b 0,.int .i64 e] (lk [(b,rd s n bad)]) (fun r o=>r=.tup []∧o=lk [(b,rd s n (Gb bad e))]):=by
 refine a8m _ _ _ (by simp) ?_
 simp only[Wu];refine C9 ?_
 repeat' ((first|exact tt|refine na fun b=>?_|refine nb fun b hb=>?_|refine iq ?_|(refine jq ?_ ?_<;>intro h h')|exact wZ|refine Aa ?_ ?_)<;>try refine C9 ?_)
 all_goals simp only[Ac,Hn]at h
 all_goals exact AG (by simp[Am,lk,r_nil,Gb,h]) GA
theorem a8G(b:Nat)(s:List UInt8)(n bad:Int):CT Tryz.prog 117 [.ptr b 0] (lk [(b,rd s n bad)]) (fun r o=>r=.int .i64 (if bad=0∧n<s.length then 3 else bad)∧o=lk [(b,rd s n bad)]):=by
 refine a8j _ _ _ (by simp) ?_
 simp only[Wq];refine C9 ?_
 repeat' ((first|exact tt|refine na fun b=>?_|refine nb fun b hb=>?_|refine iq ?_|(refine jq ?_ ?_<;>intro h h')|exact wZ|refine Aa ?_ ?_)<;>try refine C9 ?_)
 all_goals simp only[Ac,Hn]at *
 all_goals exact AG P0 GA
def FV(s:List UInt8)(n bad:Int):Int × Int × Int:=
 if bad=0 then (nx s n) else (0,n,bad)
theorem ZA(b:Nat)(s:List UInt8)(n bad:Int)(hs:s.length≤4611686018427387904):
  CT Tryz.prog 171 [.ptr b 0] (lk [(b,rd s n bad)]) (fun r o=>r=.tup [.int .i64 (FV s n bad).1,.int .i64 (FV s n bad).2.1]∧o=lk [(b,rd s n (FV s n bad).2.2)]):=by
 refine a8n _ _ _ (by simp) ?_
 simp only[Wv];refine C9 ?_
 repeat' ((first|exact tt|(refine Ag (Zl _ _ hs) ?_;simp (disch:=omega) only[*, ↓Ed,Eu, ↓reduceIte,reduceCtorEq,Nat.reduceAdd,Nat.reduceEqDiff,Nat.reduceLT,Nat.reduceLeDiff,Int.reduceToNat,Int.reduceEq,Int.reduceLT,Int.reduceLE,Ap,Ax])|refine c1 (Tl _ _ _ _ _) ?_|refine na fun b=>?_|refine nb fun b hb=>?_|refine iq ?_|(refine jq ?_ ?_<;>intro h h')|exact wZ|refine Aa ?_ ?_)<;>try refine C9 ?_)
 all_goals simp only[Ac,Hn]at h
 all_goals exact AG (by simp[Am,lk,r_two,HC,Br,AV.alias,FV,Gb,h]) GA
theorem a8S:CT Tryz.prog 186 [] (fun _=>none) (fun r o=>∃ b,r=.ptr b 0∧o=lk [(b,[.nils 5 1,.bool false])]):=by
 refine a8h _ _ _ (by simp) ?_
 rw[show (fun _=>none:Nat→Option (List AV))=lk [] from rfl]
 simp only[Wo];refine C9 ?_
 repeat' ((first|exact tt|refine na fun b=>?_|refine nb fun b hb=>?_|refine iq ?_|(refine jq ?_ ?_<;>intro h h')|exact wZ|refine Aa ?_ ?_)<;>try refine C9 ?_)
 all_goals exact TD (b:=b) KI

abbrev Ev(out:List UInt8)(bad:Bool):List AV:=[.sl (some 5) 1 (Jj out),.bool bad]
theorem ZC(b:Nat)(out s:List UInt8)(bad:Bool)(hl:out.length+s.length≤1000000):
  CT Tryz.prog 219 [.ptr b 0,.str s] (lk [(b,Ev out bad)]) (fun r o=>r=.tup []∧o=lk [(b,Ev (if bad then out else out++s) bad)]):=by
 have hm:=Pv
 refine YX _ _ _ (by simp) ?_
 simp only[RF];refine C9 ?_
 repeat' ((first|exact tt|refine na fun b=>?_|refine nb fun b hb=>?_|refine iq ?_|(refine jq ?_ ?_<;>intro h h')|exact wZ|refine Aa ?_ ?_)<;>try refine C9 ?_)
 all_goals simp only[Ac,Hn]at h
 all_goals exact AG (by simp[Am,lk,r_nil,Jj,Ev,h]) GA
abbrev Ub(bad:Bool):List AV:=[.nils 5 1,.bool bad]
theorem a9S(b:Nat)(s:List UInt8)(hl:s.length≤1000000):
  CT Tryz.prog 219 [.ptr b 0,.str s] (lk [(b,Ub false)]) (fun r o=>r=.tup []∧o=lk [(b,Ev s false)]):=by
 have hm:=Pv
 refine YX _ _ _ (by simp) ?_
 simp only[RF];refine C9 ?_
 repeat' ((first|exact tt|refine na fun b=>?_|refine nb fun b hb=>?_|refine iq ?_|(refine jq ?_ ?_<;>intro h h')|exact wZ|refine Aa ?_ ?_)<;>try refine C9 ?_)
 all_goals exact AG (by simp[Am,lk,r_nil,Jj,Ev]) GA
theorem a8z(b:Nat)(out:List UInt8)(bad:Bool):CT Tryz.prog 190 [.ptr b 0] (lk [(b,Ev out bad)])
  (fun r o=>r=.tup [.str (if bad then [] else out),.int .i64 (if bad then 1 else 0)]∧o=lk [(b,Ev out bad)]):=by
 refine a8p _ _ _ (by simp) ?_
 simp only[Wx];refine C9 ?_
 repeat' ((first|exact tt|refine na fun b=>?_|refine nb fun b hb=>?_|refine iq ?_|(refine jq ?_ ?_<;>intro h h')|exact wZ|refine Aa ?_ ?_)<;>try refine C9 ?_)
 all_goals simp only[Ac,Hn]at h
 all_goals exact AG (by simp[Am,lk,r_two,HC,Br,AV.alias,h]) GA
theorem Zn(b:Nat)(out:List UInt8)(bad:Bool)(v:Int)(hl:out.length≤900000):
  CT Tryz.prog 187 [.ptr b 0,.int .i64 v] (lk [(b,Ev out bad)])
   (fun r o=>r=.tup []∧o=lk [(b,Ev (if bad||decide (pn v=[]) then out else out++pn v) (bad||decide (pn v=[])))]):=by
 have h8:=C5 v
 refine YW _ _ _ (by simp) ?_
 simp only[RE];refine C9 ?_
 repeat' ((first|exact tt|refine Ab (ND _) ?_|refine c1 (ZC _ out (pn v) _ (by omega)) ?_|refine na fun b=>?_|refine nb fun b hb=>?_|refine iq ?_|(refine jq ?_ ?_<;>intro h h')|exact wZ|refine Aa ?_ ?_)<;>try refine C9 ?_)
 all_goals simp only[Ac,Hn]at h
 all_goals exact AG (by simp[Am,lk,r_nil,Ev,h]) GA
def MK(v:Int)(w:List UInt8 × Bool):List UInt8 × Bool:=(if w.2||decide (pn v=[]) then w.1 else w.1++pn v,w.2||decide (pn v=[]))
def QG(s:List UInt8)(w:List UInt8 × Bool):List UInt8 × Bool:=
 let w1:=MK s.length w
 (if w1.2 then w1.1 else w1.1++s,w1.2)
theorem a9c(b:Nat)(out s:List UInt8)(bad:Bool)(hl:out.length≤500000)(hs:s.length≤400000):
  CT Tryz.prog 189 [.ptr b 0,.str s] (lk [(b,Ev out bad)])
   (fun r o=>r=.tup []∧o=lk [(b,Ev (QG s (out,bad)).1 (QG s (out,bad)).2)]):=by
 have h8:=C5 s.length
 have hw:(MK s.length (out,bad)).1.length≤600000:=by
  simp only[MK]
  split
  ·omega
  ·simp only[Ao];omega
 refine a8q _ _ _ (by simp) ?_
 simp only[Wy];refine C9 ?_
 repeat' ((first|exact tt|refine c1 (Zn _ out bad _ (by omega)) ?_|refine c1 (ZC _ (MK s.length (out,bad)).1 s _ (by omega)) ?_|refine na fun b=>?_|refine nb fun b hb=>?_|refine iq ?_|(refine jq ?_ ?_<;>intro h h')|exact wZ|refine Aa ?_ ?_)<;>try refine C9 ?_)
 all_goals exact AG (by simp[Am,lk,r_nil,Ev,QG,MK]) GA

def I9(s:List UInt8)(n bad least most below above:Int):Int × Int × Int:=
 let v:=FV s n bad
 let b2:=if v.1<least then Gb v.2.2 below else v.2.2
 let b3:=if most<v.1 then Gb b2 above else b2
 if b3=0 then (v.1,v.2.1,0) else (0,n,b3)
theorem b0i(b:Nat)(s:List UInt8)(n bad least most below above:Int)(hs:s.length≤4611686018427387904):
  CT Tryz.prog 170 [.ptr b 0,.int .i64 least,.int .i64 most,.int .i64 below,.int .i64 above] (lk [(b,rd s n bad)])
   (fun r o=>r=.int .i64 (I9 s n bad least most below above).1∧o=lk [(b,rd s (I9 s n bad least most below above).2.1 (I9 s n bad least most below above).2.2)]):=by
 refine a8o _ _ _ (by simp) ?_
 simp only[Ww];refine C9 ?_
 repeat' ((first|exact tt|refine c1 (ZA _ _ _ _ hs) ?_|refine c1 (Tl _ _ _ _ _) ?_|refine na fun b=>?_|refine nb fun b hb=>?_|refine iq ?_|(refine jq ?_ ?_<;>intro h h')|exact wZ|refine Aa ?_ ?_)<;>try refine C9 ?_)
 all_goals simp only[Ac,Hn]at *
 all_goals exact AG (by simp[Am,lk,BR,Br,rd,I9, *]) GA
theorem a8W(b:Nat)(s:List UInt8)(n bad least most:Int)(hs:s.length≤4611686018427387904):
  CT Tryz.prog 115 [.ptr b 0,.int .i64 least,.int .i64 most] (lk [(b,rd s n bad)])
   (fun r o=>r=.int .i64 (I9 s n bad least most 1 1).1∧o=lk [(b,rd s (I9 s n bad least most 1 1).2.1 (I9 s n bad least most 1 1).2.2)]):=by
 refine a8k _ _ _ (by simp) ?_
 simp only[Ws];refine C9 ?_
 repeat' ((first|exact tt|refine c1 (b0i _ _ _ _ _ _ _ _ hs) ?_|refine na fun b=>?_|refine nb fun b hb=>?_|refine iq ?_|(refine jq ?_ ?_<;>intro h h')|exact wZ|refine Aa ?_ ?_)<;>try refine C9 ?_)
 all_goals exact AG (by simp[Am,lk,BR,Br,rd]) GA
def Mj(s:List UInt8)(n bad most:Int):List UInt8 × Int × Int:=
 let v:=FV s n bad
 let b2:=if most<v.1 then Gb v.2.2 4 else v.2.2
 let b3:=if (s.length:Int) - v.2.1<v.1 then Gb b2 2 else b2
 if b3=0 then ((s.take (v.2.1+v.1).toNat).drop v.2.1.toNat,v.2.1+v.1,0) else ([],n,b3)
theorem a5y(s:List UInt8)(n bad:Int)(hn:0≤n∧n≤s.length):0≤(FV s n bad).1∧(FV s n bad).1<72057594037927936∧0≤(FV s n bad).2.1∧(FV s n bad).2.1≤s.length:=by
 unfold FV
 split
 ·exact YE s n
 ·simp only;omega
theorem Xi(b:Int):(Gb b 2=0)=False:=by simp only[Gb,eq_iff_iff,iff_false];split<;>omega
theorem a8X(b:Nat)(s:List UInt8)(n bad most:Int)(hs:s.length≤281474976710656)(hn:0≤n∧n≤s.length):
  CT Tryz.prog 116 [.ptr b 0,.int .i64 most] (lk [(b,rd s n bad)])
   (fun r o=>r=.str (Mj s n bad most).1∧o=lk [(b,rd s (Mj s n bad most).2.1 (Mj s n bad most).2.2)]):=by
 have hv:=a5y s n bad hn
 have hr:Mj s n bad most=(let v:=FV s n bad
  let b2:=if most<v.1 then Gb v.2.2 4 else v.2.2
  let b3:=if (s.length:Int) - v.2.1<v.1 then Gb b2 2 else b2
  if b3=0 then ((s.take (v.2.1+v.1).toNat).drop v.2.1.toNat,v.2.1+v.1,0) else ([],n,b3)):=rfl
 rw[hr]
 refine a8l _ _ _ (by simp) ?_
 simp only[Wt];refine C9 ?_
 repeat' ((first|exact tt|refine c1 (ZA _ s _ _ (by omega)) ?_|refine c1 (Tl _ _ _ _ _) ?_|refine Ag (Td _ (by simp;omega)) ?_|(simp[Ac,Xi]at h;done)|refine na fun b=>?_|refine nb fun b hb=>?_|refine iq ?_|(refine jq ?_ ?_<;>intro h h')|exact wZ|refine Aa ?_ ?_)<;>try refine C9 ?_)
 all_goals exact AG (by simp only[Ac,Hn]at *;simp[Am,lk,BR,Br,rd,Xi, *]) GA
theorem b3T(s:List UInt8)(n bad least most:Int)(hl:least≤0∧0≤most):I9 s n bad least most 1 1=EQ s least most (n,bad):=by
 have hb:=YC s n
 simp only[I9,FV,Gb,EQ]
 by_cases h1:bad=0
 ·by_cases h2:(nx s n).2.2=0
  ·by_cases h3:(nx s n).1<least<;>by_cases h4:most<(nx s n).1<;>simp[h1,h2,h3,h4]
  ·have h5:=(hb h2).1
   simp[h1,h2,h5,show ¬ (0<least) by omega,show ¬ (most<0) by omega]
 ·simp[h1,show ¬ (0<least) by omega,show ¬ (most<0) by omega]
theorem b3s(s:List UInt8)(n bad most:Int)(hl:0≤most)(hn:0≤n∧n≤s.length):Mj s n bad most=GP s most (n,bad):=by
 have hb:=YC s n
 simp only[Mj,FV,Gb,GP]
 by_cases h1:bad=0
 ·by_cases h2:(nx s n).2.2=0
  ·by_cases h3:most<(nx s n).1<;>by_cases h4:(s.length:Int) - (nx s n).2.1<(nx s n).1<;>simp[h1,h2,h3,h4]
  ·have h5:=hb h2
   simp[h1,h2,h5,show ¬ (most<0) by omega]
 ·simp[h1,show ¬ (most<0) by omega,show ¬ ((s.length:Int) - n<0) by omega]
theorem b0A(b:Nat)(s:List UInt8)(n bad least most:Int)(hs:s.length≤281474976710656)(hl:least≤0∧0≤most):
  CT Tryz.prog 115 [.ptr b 0,.int .i64 least,.int .i64 most] (lk [(b,rd s n bad)])
   (fun r o=>r=.int .i64 (EQ s least most (n,bad)).1∧o=lk [(b,rd s (EQ s least most (n,bad)).2.1 (EQ s least most (n,bad)).2.2)]):=by
 rw[← b3T s n bad least most hl]
 exact a8W b s n bad least most (by omega)
theorem b0B(b:Nat)(s:List UInt8)(n bad most:Int)(hs:s.length≤281474976710656)(hl:0≤most)(hn:0≤n∧n≤s.length):
  CT Tryz.prog 116 [.ptr b 0,.int .i64 most] (lk [(b,rd s n bad)])
   (fun r o=>r=.str (GP s most (n,bad)).1∧o=lk [(b,rd s (GP s most (n,bad)).2.1 (GP s most (n,bad)).2.2)]):=by
 rw[← b3s s n bad most hl hn]
 exact a8X b s n bad most hs hn
end
section
theorem a0V{A B:Prop}(h:B)(e:A=B:=by (simp (disch:=omega) only[*, ↓Ed,Eu, ↓reduceIte,reduceCtorEq,Nat.reduceAdd,Nat.reduceEqDiff,Nat.reduceLT,Nat.reduceLeDiff,Int.reduceToNat,Int.reduceEq,Int.reduceLT,Int.reduceLE,Ap];first|done|rfl)):A:=e▸h
theorem a8V(s:List UInt8)(hs:s.length≤281474976710656):CP Tryz.prog 194 [.str s] (.str (pn s.length++s)):=by
 have h8:=C5 s.length
 refine a6L _ _ (by simp) ?_
 simp only[VF];refine a0V ?_
 repeat' ((first|exact tt|refine Ab (Tf _) ?_|refine na fun b=>?_|refine nb fun b hb=>?_|refine iq ?_|(refine jq ?_ ?_<;>intro h h')|exact wZ|refine Aa ?_ ?_)<;>try refine a0V ?_)
end
section
structure Es where
 p:List UInt8
 c:Int
 o:Bool
 cl:Bool
 st:Int
abbrev Es.cs(x:Es):List AV:=[.str x.p,.int .i64 x.c,.bool x.o,.bool x.cl,.int .i64 x.st]
noncomputable def Es.may (x:Es):Bool:=Ba x.p x.c&&(if x.cl&&x.o then decide (1≤x.st)&&decide (x.st≤1099511627777) else decide (x.st=0))
def B1(b:Bool):Int:=if b then 1 else 0
def Es.enc(x:Es):List UInt8:=pn (B1 x.cl)++pn (B1 x.o)++(pn x.p.length++x.p)++pn x.c++pn x.st
noncomputable def Cd (x:Es):List UInt8 × Int:=if x.may then (x.enc,0) else ([],1)
def Es.zero:Es:=⟨[],0,false,false,0⟩
def Ls(v:List UInt8):=EQ v 0 1 (0,0)
def Lw(v:List UInt8):=EQ v 0 1 (Ls v).2
def Kl(v:List UInt8):=GP v 12 (Lw v).2
def Lr(v:List UInt8):=EQ v 0 999 (Kl v).2
def dst(v:List UInt8):=EQ v 0 1099511627777 (Lr v).2
def Es.of(v:List UInt8):Es:=⟨(Kl v).1,(Lr v).1,decide ((Lw v).1=1),decide ((Ls v).1=1),(dst v).1⟩
noncomputable def C1 (v:List UInt8):Es × Int:=
 if rend v (dst v).2≠0 then (Es.zero,rend v (dst v).2) else if (Es.of v).may then (Es.of v,0) else (Es.zero,1)
end
section
theorem XD:∀ (f v:Nat) (r:List UInt8) (b:Bool),v<128 ^ (f+1)→(b=true∨0<v)→BS (f+1) (Ea v++r) b=((v:Int),(Ea v).length,0)
 | f,v,r,b,hv,hb=>by
  by_cases hl:v<128
  ·have e:(UInt8.ofNat v).toNat=v:=by rw[UInt8.toNat_ofNat'];omega
   rw[Mb hl,Bi,BS,e,Af hl,Ad (by rintro ⟨h1,h2⟩;subst h2;simp at hb;omega)]
   simp
  ·have e:(UInt8.ofNat (v % 128+128)).toNat=v % 128+128:=by rw[UInt8.toNat_ofNat'];omega
   cases f with
   | zero=>simp at hv;omega
   | succ f=>
    rw[NP (by omega),Bi,BS,e,Ad (by omega),XD f (v / 128) r false (by rw[F8]at hv;omega) (.inr (by omega))]
    simp
    omega
theorem PF(a r:List UInt8)(v:Int)(h:0≤v∧v≤72057594037927935):nx (a++(pn v++r)) a.length=(v,((a++pn v).length:Int),0):=by
 rw[YD (by simp)]
 have:pn v=Ea v.toNat:=by simp only[pn,Af h]
 rw[List.drop_left,this,XD 7 v.toNat r true (by omega) (.inl rfl)]
 simp[LC];omega
theorem P6(a r:List UInt8)(v least most:Int)(h:0≤v∧v≤72057594037927935)(g:least≤v∧v≤most):EQ (a++(pn v++r)) least most ((a.length:Int),0)=(v,((a++pn v).length:Int),0):=by
 simp only[EQ,PF a r v h,ne_eq,not_true_eq_false,BV]
 rw[Ad (by omega)]
theorem b0P(a t r:List UInt8)(most:Int)(h:t.length≤100000)(g:(t.length:Int)≤most):GP (a++((pn t.length++t)++r)) most ((a.length:Int),0)=(t,((a++(pn t.length++t)).length:Int),0):=by
 have e:a++((pn t.length++t)++r)=a++(pn t.length++(t++r)):=by simp
 have hn:=PF a (t++r) t.length ⟨by omega,by omega⟩
 simp only[GP,e,hn,ne_eq,not_true_eq_false,BV]
 rw[Ad (by omega),Ad (by simp;omega)]
 refine Prod.ext ?_ (Prod.ext ?_ rfl)
 ·simp only
  have e1:(((a++pn t.length).length:Int)+t.length).toNat=(a++pn t.length).length+t.length:=by omega
  have e2:(((a++pn t.length).length:Int)).toNat=(a++pn t.length).length:=by omega
  rw[e1,e2, ← DC,List.take_append,B0 (by omega)]
  rw[List.drop_left]
  simp
 ·simp;omega
theorem a2B(b:Bool):decide (B1 b=1)=b:=by cases b<;>simp[B1]
theorem UJ(b:Bool):0≤B1 b∧B1 b≤1:=by cases b<;>decide
theorem SH{x:Es}(h:x.may=true):x.p.length≤12∧0≤x.c∧x.c≤999∧0≤x.st∧x.st≤1099511627777:=by
 simp only[Es.may,Ba,AP,Bs]at h
 obtain ⟨⟨⟨h1,h2⟩,h3⟩,h4⟩:=h
 refine ⟨(Yv.1 h1).2.1,h2,h3, ?_⟩
 split at h4
 ·simp only[AP,Bs]at h4;omega
 ·simp only[Bs]at h4;omega
theorem a2W{x:Es}(h:x.may=true)(r:List UInt8):Es.of (x.enc++r)=x∧(dst (x.enc++r)).2=((x.enc.length:Int),0):=by
 have hi:=SH h
 have b1:=UJ x.cl
 have b2:=UJ x.o
 let a1:=pn (B1 x.cl)
 let a2:=a1++pn (B1 x.o)
 let a3:=a2++(pn x.p.length++x.p)
 let a4:=a3++pn x.c
 have e0:x.enc++r=[]++(pn (B1 x.cl)++(pn (B1 x.o)++(pn x.p.length++x.p)++pn x.c++pn x.st++r)):=by simp[Es.enc]
 have e1:x.enc++r=a1++(pn (B1 x.o)++((pn x.p.length++x.p)++pn x.c++pn x.st++r)):=by simp[Es.enc,a1]
 have e2:x.enc++r=a2++((pn x.p.length++x.p)++(pn x.c++pn x.st++r)):=by simp[Es.enc,a1,a2]
 have e3:x.enc++r=a3++(pn x.c++(pn x.st++r)):=by simp[Es.enc,a1,a2,a3]
 have e4:x.enc++r=a4++(pn x.st++r):=by simp[Es.enc,a1,a2,a3,a4]
 have d1:Ls (x.enc++r)=(B1 x.cl,(a1.length:Int),0):=by
  have:=P6 [] (pn (B1 x.o)++(pn x.p.length++x.p)++pn x.c++pn x.st++r) (B1 x.cl) 0 1 (by omega) (by omega)
  rw[← e0]at this
  exact this
 have d2:Lw (x.enc++r)=(B1 x.o,(a2.length:Int),0):=by
  have:=P6 a1 ((pn x.p.length++x.p)++pn x.c++pn x.st++r) (B1 x.o) 0 1 (by omega) (by omega)
  rw[← e1]at this
  rw[Lw,d1];exact this
 have d3:Kl (x.enc++r)=(x.p,(a3.length:Int),0):=by
  have:=b0P a2 x.p (pn x.c++pn x.st++r) 12 (by omega) (by omega)
  rw[← e2]at this
  rw[Kl,d2];exact this
 have d4:Lr (x.enc++r)=(x.c,(a4.length:Int),0):=by
  have:=P6 a3 (pn x.st++r) x.c 0 999 (by omega) (by omega)
  rw[← e3]at this
  rw[Lr,d3];exact this
 have d5:dst (x.enc++r)=(x.st,(x.enc.length:Int),0):=by
  have:=P6 a4 r x.st 0 1099511627777 (by omega) (by omega)
  rw[← e4]at this
  rw[dst,d4];exact this
 refine ⟨?_,by rw[d5]⟩
 rw[Es.of,d1,d2,d3,d4,d5]
 simp only[a2B]
theorem a2V{x:Es}(h:x.may=true):C1 x.enc=(x,0):=by
 have:=a2W h []
 rw[Jb]at this
 simp only[C1,this.2,this.1,rend,h]
 simp
theorem R0{x:Es}(h:x.may=true):x.enc.length≤64:=by
 have h1:=C5 (B1 x.cl);have h2:=C5 (B1 x.o);have h3:=C5 x.p.length;have h4:=C5 x.c;have h5:=C5 x.st
 have:=SH h
 simp[Es.enc];omega
end
section
theorem FD{A B:Prop}(h:B)(e:A=B:=by (simp (disch:=omega) only[*, ↓Ed,Eu, ↓reduceIte,reduceCtorEq,Nat.reduceAdd,Nat.reduceEqDiff,Nat.reduceLT,Nat.reduceLeDiff,Int.reduceToNat,Int.reduceEq,Int.reduceLT,Int.reduceLE,Ap,Ax,Ao];first|done|rfl)):A:=e▸h
theorem a9h(b:Bool):CP Tryz.prog 188 [.bool b] (.int .i64 (B1 b)):=by
 refine a5O _ _ (by simp) ?_
 simp only[U3];refine FD ?_
 repeat' ((first|exact tt|refine na fun b=>?_|refine nb fun b hb=>?_|refine iq ?_|(refine jq ?_ ?_<;>intro h h')|exact wZ|refine Aa ?_ ?_)<;>try refine FD ?_)
 all_goals (try simp only[Ac,Hn]at *)
 all_goals simp[B1, *]
theorem a9Q(b:Bool):CP Tryz.prog 193 [.bool b] (.int .i64 (B1 b)):=by
 refine a6x _ _ (by simp) ?_
 simp only[Vt];refine FD ?_
 repeat' ((first|exact tt|refine na fun b=>?_|refine nb fun b hb=>?_|refine iq ?_|(refine jq ?_ ?_<;>intro h h')|exact wZ|refine Aa ?_ ?_)<;>try refine FD ?_)
 all_goals (try simp only[Ac,Hn]at *)
 all_goals simp[B1, *]
theorem Tj(n:Int):CP Tryz.prog 121 [.int .i64 n] (.bool (decide (1≤n)&&decide (n≤1099511627777))):=by
 refine a5P _ _ (by simp) ?_
 simp only[U4];refine FD ?_
 repeat' ((first|exact tt|refine na fun b=>?_|refine nb fun b hb=>?_|refine iq ?_|(refine jq ?_ ?_<;>intro h h')|exact wZ|refine Aa ?_ ?_)<;>try refine FD ?_)
 all_goals (try simp only[Ac,Hn]at *)
 all_goals simp[*]
theorem Tk(x:Es)(hs:x.p.length≤4611686018427387904):CP Tryz.prog 118 [.agg x.cs] (.bool x.may):=by
 refine a5N _ _ (by simp) ?_
 simp only[U1,Es.cs, ↓Ed,Eu, ↓reduceIte,reduceCtorEq,Nat.reduceAdd,Nat.reduceEqDiff,Nat.reduceLT,Nat.reduceLeDiff,Int.reduceToNat,Int.reduceEq,Int.reduceLT,Int.reduceLE,Ap,Ax,Ao]
 repeat' ((first|exact tt|refine Ab (KD _ _ hs) ?_|refine Ab (Tj _) ?_|refine na fun b=>?_|refine nb fun b hb=>?_|refine iq ?_|(refine jq ?_ ?_<;>intro h h')|exact wZ|refine Aa ?_ ?_)<;>try refine FD ?_)
 all_goals (try simp only[Ac,Hn]at *)
 all_goals simp[Es.may, *]
theorem a8Q(x:Es)(hs:x.p.length≤4611686018427387904):CP Tryz.prog 178 [.agg x.cs] (.bool x.may):=by
 refine a6s _ _ (by simp) ?_
 simp only[Vq,Es.cs, ↓Ed,Eu, ↓reduceIte,reduceCtorEq,Nat.reduceAdd,Nat.reduceEqDiff,Nat.reduceLT,Nat.reduceLeDiff,Int.reduceToNat,Int.reduceEq,Int.reduceLT,Int.reduceLE,Ap,Ax,Ao]
 repeat' ((first|exact tt|refine Ab (KC _ _ hs) ?_|refine na fun b=>?_|refine nb fun b hb=>?_|refine iq ?_|(refine jq ?_ ?_<;>intro h h')|exact wZ|refine Aa ?_ ?_)<;>try refine FD ?_)
 all_goals (try simp only[Ac,Hn]at *)
 all_goals simp[Es.may, *]
theorem a8F(x:Es)(hs:x.p.length≤100000):CP Tryz.prog 151 [.agg x.cs] (.tup [.str (Cd x).1,.int .i64 (Cd x).2]):=by
 have h1:=C5 (B1 x.cl);have h2:=C5 (B1 x.o);have h3:=C5 x.p.length;have h4:=C5 x.c;have h5:=C5 x.st
 refine a6o _ _ (by simp) ?_
 simp only[Vn,Es.cs, ↓Ed,Eu, ↓reduceIte,reduceCtorEq,Nat.reduceAdd,Nat.reduceEqDiff,Nat.reduceLT,Nat.reduceLeDiff,Int.reduceToNat,Int.reduceEq,Int.reduceLT,Int.reduceLE,Ap,Ax,Ao]
 repeat' ((first|exact tt|refine Ab (a8Q x (by omega)) ?_|refine Ag (a9Q _) ?_|refine Ag (Tf _) ?_|refine Ag (a8V _ (by omega)) ?_|refine na fun b=>?_|refine nb fun b hb=>?_|refine iq ?_|(refine jq ?_ ?_<;>intro h h')|exact wZ|refine Aa ?_ ?_)<;>try refine FD ?_)
 all_goals (try simp only[Ac,Hn]at *)
 all_goals simp[Cd,Es.enc, *]
theorem Tg(b:Nat)(out:List UInt8)(v:Int)(hv:0≤v∧v≤72057594037927935)(hl:out.length≤900000):
  CT Tryz.prog 187 [.ptr b 0,.int .i64 v] (lk [(b,Ev out false)]) (fun r o=>r=.tup []∧o=lk [(b,Ev (out++pn v) false)]):=by
 have h:pn v≠[]:=fun e=>(Tw v).1 e hv
 have:=Zn b out false v hl
 simpa only[h,decide_false,Bool.or_self,D3,BV]using this
theorem a9b(b:Nat)(v:Int)(hv:0≤v∧v≤72057594037927935):
  CT Tryz.prog 187 [.ptr b 0,.int .i64 v] (lk [(b,Ub false)]) (fun r o=>r=.tup []∧o=lk [(b,Ev (pn v) false)]):=by
 have h:pn v≠[]:=fun e=>(Tw v).1 e hv
 have hd:decide (pn v=[])=false:=A0 h
 have h8:=C5 v
 refine YW _ _ _ (by simp) ?_
 simp only[RE];refine FD ?_
 repeat' ((first|exact tt|refine Ab (ND _) ?_|refine c1 (a9S _ (pn v) (by omega)) ?_|refine na fun b=>?_|refine nb fun b hb=>?_|refine iq ?_|(refine jq ?_ ?_<;>intro h h')|exact wZ|refine Aa ?_ ?_)<;>try refine FD ?_)
 all_goals exact AG (by simp[Am,lk,r_nil,Ev]) GA
theorem a9d(b:Nat)(out s:List UInt8)(hl:out.length≤500000)(hs:s.length≤400000):
  CT Tryz.prog 189 [.ptr b 0,.str s] (lk [(b,Ev out false)]) (fun r o=>r=.tup []∧o=lk [(b,Ev (out++(pn s.length++s)) false)]):=by
 have h:pn (s.length:Int)≠[]:=fun e=>(Tw _).1 e ⟨by omega,by omega⟩
 have:=a9c b out s false hl hs
 simp only[QG,MK,h,decide_false,Bool.or_self,D3,BV]at this
 simpa only[DC]using this
theorem UK(b:Bool):0≤B1 b∧B1 b≤72057594037927935:=by cases b<;>decide
theorem a8E(x:Es)(hs:x.p.length≤100000):CP Tryz.prog 143 [.agg x.cs] (.tup [.str (Cd x).1,.int .i64 (Cd x).2]):=by
 have h1:=C5 (B1 x.cl);have h2:=C5 (B1 x.o);have h3:=C5 x.p.length;have h4:=C5 x.c;have h5:=C5 x.st
 refine a5M _ _ (by simp) ?_
 simp only[UX,Es.cs, ↓Ed,Eu, ↓reduceIte,reduceCtorEq,Nat.reduceAdd,Nat.reduceEqDiff,Nat.reduceLT,Nat.reduceLeDiff,Int.reduceToNat,Int.reduceEq,Int.reduceLT,Int.reduceLE,Ap,Ax,Ao]
 by_cases hm:x.may=true
 ·have hi:=SH hm
  have he:Cd x=(x.enc,0):=by simp[Cd,hm]
  have hx:Ac (x.may=true):=hm
  rw[he]
  let o1:=pn (B1 x.cl)++pn (B1 x.o)
  let o2:=o1++(pn x.p.length++x.p)
  let o3:=o2++pn x.c
  repeat' ((first|exact tt|refine Ab (Tk x (by omega)) ?_|refine Oi a8S ?_|refine Ab (a9h _) ?_|refine c1 (a9b _ _ (UK _)) ?_|refine c1 (Tg _ (pn (B1 x.cl)) (B1 x.o) (UK _) (by omega)) ?_|refine c1 (a9d _ o1 x.p (by simp only[o1,Ao];omega) (by omega)) ?_|refine c1 (Tg _ o2 x.c (by omega) (by simp only[o1,o2,Ao];omega)) ?_|refine c1 (Tg _ o3 x.st (by omega) (by simp only[o1,o2,o3,Ao];omega)) ?_|refine c1 (a8z _ (o3++pn x.st) false) ?_|refine na fun b=>?_|refine nb fun b hb=>?_|refine iq ?_|(refine jq ?_ ?_<;>intro h h')|exact wZ|refine Aa ?_ ?_)<;>try refine FD ?_)
  simp[Es.enc,o1,o2,o3]
 ·have hx:Ac (x.may=false):=Bool.eq_false_iff.2 hm
  repeat' ((first|exact tt|refine Ab (Tk x (by omega)) ?_|refine na fun b=>?_|refine nb fun b hb=>?_|refine iq ?_|(refine jq ?_ ?_<;>intro h h')|exact wZ|refine Aa ?_ ?_)<;>try refine FD ?_)
  simp[Cd,hm]
theorem QH(b:Nat)(s:List UInt8)(x:Int × Int)(least most:Int)(hs:s.length≤281474976710656)(hl:least≤0∧0≤most):
  CT Tryz.prog 115 [.ptr b 0,.int .i64 least,.int .i64 most] (lk [(b,rd s x.1 x.2)])
   (fun r o=>r=.int .i64 (EQ s least most x).1∧o=lk [(b,rd s (EQ s least most x).2.1 (EQ s least most x).2.2)]):=b0A b s x.1 x.2 least most hs hl
theorem b3Z(b:Nat)(s:List UInt8)(x:Int × Int)(most:Int)(hs:s.length≤281474976710656)(hl:0≤most)(hn:0≤x.1∧x.1≤s.length):
  CT Tryz.prog 116 [.ptr b 0,.int .i64 most] (lk [(b,rd s x.1 x.2)])
   (fun r o=>r=.str (GP s most x).1∧o=lk [(b,rd s (GP s most x).2.1 (GP s most x).2.2)]):=b0B b s x.1 x.2 most hs hl hn
theorem b3Y(b:Nat)(s:List UInt8)(x:Int × Int):CT Tryz.prog 117 [.ptr b 0] (lk [(b,rd s x.1 x.2)]) (fun r o=>r=.int .i64 (rend s x)∧o=lk [(b,rd s x.1 x.2)]):=a8G b s x.1 x.2
theorem a5F(v:List UInt8)(hs:v.length≤100000):(Es.of v).p.length≤100000:=by
 simp only[Es.of,Kl,GP];repeat' split
 all_goals (simp;try omega)
theorem WR{v:List UInt8}(h:rend v (dst v).2=0)(g:(Es.of v).may=true):C1 v=(Es.of v,0):=by simp only[C1,h,g,ne_eq,not_true_eq_false,BV,Bo]
theorem WQ{v:List UInt8}(h:rend v (dst v).2=0)(g:(Es.of v).may=false):C1 v=(Es.zero,1):=by simp only[C1,h,g,ne_eq,not_true_eq_false,BV,D3]
theorem WP{v:List UInt8}(h:¬ rend v (dst v).2=0):C1 v=(Es.zero,rend v (dst v).2):=by simp only[C1,h,ne_eq,Ct,Bo]
theorem Te(v:List UInt8)(hs:v.length≤100000):CP Tryz.prog 53 [.str v] (.tup [.agg (C1 v).1.cs,.int .i64 (C1 v).2]):=by
 have hm:=a5F v hs
 have h1:=Z5 v 0 1 (0,0) (by simp)
 have h2:=Z5 v 0 1 (Ls v).2 h1
 refine a5L _ _ (by simp) ?_
 simp only[UW];refine FD ?_
 repeat' ((first|exact tt|refine Oi (a8T _) ?_|refine c1 (QH _ v (0,0) 0 1 (by omega) (by omega)) ?_|refine c1 (QH _ v (Ls v).2 0 1 (by omega) (by omega)) ?_|refine c1 (b3Z _ v (Lw v).2 12 (by omega) (by omega) h2) ?_|refine c1 (QH _ v (Kl v).2 0 999 (by omega) (by omega)) ?_|refine c1 (QH _ v (Lr v).2 0 1099511627777 (by omega) (by omega)) ?_|refine c1 (b3Y _ v (dst v).2) ?_|refine Ab (Tk (Es.of v) (by omega)) ?_|refine na fun b=>?_|refine nb fun b hb=>?_|refine iq ?_|(refine jq ?_ ?_<;>intro h h')|exact wZ|refine Aa ?_ ?_)<;>try refine FD ?_)
 all_goals (try simp only[Ac,Hn]at *)
 all_goals first|rw[WR (by assumption) (by assumption)]|rw[WQ (by assumption) (by assumption)]|rw[WP (by assumption)]
 all_goals simp[Es.of,Es.zero,Ls,Lw,Kl,Lr,dst]
 all_goals exact ⟨rfl,rfl⟩
end
section
open Go.RowKit Go.Lib
theorem Ky(k:Int)(p:List UInt8)(c q:Int):(Ah k p c q).length≤160:=by
 rcases @ofP_q k p c q with h|h
 ·rw[h];simp
 ·exact q_len h
structure StI (L:List PrP):Prop where
 rise:DT L
 may:∀ q∈L,B3 q.1 q.2=true
 len:L.length≤1000
theorem StI.getS_len{L:List PrP}(h:StI L)(k:List UInt8):(C2 L k).length≤64:=by
 cases hh:A9 L k with
 | false=>rw[O7 hh];simp
 | true=>
  have hl:=Jv hh
  rw[O8 hh]
  have hm:L.getD (AE L k) default∈L:=by rw[List.getD,Aw hl,Cp];exact Di hl
  have:=h.may _ hm
  simp only[B3,Bs]at this
  exact this.2.2.2
def TQ(s:Nat):Bl→Prop
 | none=>True
 | some (g,_)=>¬ g=s∧¬ s=g
theorem stOk.d{s:Nat}{L:List PrP}{x:Bl}(h:stOk s L x):TQ s x:=by
 rcases x with _ | ⟨g,cap⟩
 ·trivial
 ·exact h.1
theorem B4(s:Nat):TQ s none=True:=rfl
theorem Bq(s g cap:Nat):TQ s (some (g,cap))=(¬ g=s∧¬ s=g):=rfl
noncomputable def Av (L:List PrP) (p:List UInt8) (c:Int):Es × Bool:=
 ((C1 (C2 L (Ah 7 p c 0))).1,A9 L (Ah 7 p c 0)&&decide ((C1 (C2 L (Ah 7 p c 0))).2=0))
theorem Mx{A B:Prop}(h:B)(e:A=B:=by (simp (disch:=omega) only[*, ↓Ed,Eu, ↓reduceIte,reduceCtorEq,Nat.reduceAdd,Nat.reduceEqDiff,Nat.reduceLT,Nat.reduceLeDiff,Int.reduceToNat,Int.reduceEq,Int.reduceLT,Int.reduceLE,Ap];first|done|rfl)):A:=e▸h
theorem N4(s:Nat)(L:List PrP)(hI:StI L)(p:List UInt8)(c:Int)(hp:p.length≤1000000)(x:Bl)(hx:stOk s L x):
  CT Tryz.prog 18 [.ptr s 0,.agg [.str p,.int .i64 c]] (lk (AF s L x)) (fun r o=>r=.tup [.agg (Av L p c).1.cs,.bool (Av L p c).2]∧o=lk (AF s L x)):=by
 have hF:=Qt s L hI.rise (by have:=hI.len;omega) (Ah 7 p c 0) x hx
 have hO:=D8 7 p c 0 hp
 have hv:=hI.getS_len (Ah 7 p c 0)
 have hD:=Te (C2 L (Ah 7 p c 0)) (by omega)
 have hgs:=hx.d
 unfold Av
 clear hI hx
 generalize Ah 7 p c 0=k at *
 generalize C2 L k=v at *
 generalize A9 L k=ok at *
 refine a7O _ _ _ (by simp) ?_
 rcases ok with _|_<;>rcases x with _ | ⟨g,cap⟩
 all_goals
  simp only[B4,Bq,A3,AA]at hgs hF ⊢
  simp only[UY];refine Mx ?_
  repeat' ((first|exact tt|refine Ab hO ?_|refine Ab hD ?_|refine c1 hF ?_|refine c2 hF ?_|refine na fun b=>?_|refine nb fun b hb=>?_|refine iq ?_|(refine jq ?_ ?_<;>intro h h')|exact wZ|refine Aa ?_ ?_)<;>try refine Mx ?_)
  all_goals exact AG (by simp[Am,lk,r_two,rl_cons,rl_nil,Br,al_agg,al_bool,view,l_all, *]) (A6 _)
noncomputable def JE (L:List PrP) (p:List UInt8) (c:Int) (x:Es):List PrP:=if (Cd x).2=0 then CQ L (Ah 7 p c 0) (Cd x).1 else L
noncomputable def KH (p:List UInt8) (c:Int) (x:Es):Int:=if (Cd x).2=0 then FA (Ah 7 p c 0) (Cd x).1 else (Cd x).2
theorem a3s(x:Es)(h:x.p.length≤100000):(Cd x).1.length≤1000000:=by
 unfold Cd
 split
 ·have h1:=fun n=>C5 n
  have a:=h1 (B1 x.cl);have b:=h1 (B1 x.o);have c:=h1 x.p.length;have d:=h1 x.c;have e:=h1 x.st
  simp only[Es.enc,Ao];omega
 ·simp
theorem a0Y(s:Nat)(L:List PrP)(hI:StI L)(p:List UInt8)(c:Int)(hp:p.length≤1000000)(e:Es)(he:e.p.length≤100000)(x:Bl)(hx:stOk s L x):
  CT Tryz.prog 73 [.ptr s 0,.agg [.str p,.int .i64 c],.agg e.cs] (lk (AF s L x)) (IZ s L (JE L p c e) x (KH p c e)):=by
 have hl:=hI.len
 have hS:=MG s L hI.rise (by omega) (Ah 7 p c 0) (Cd e).1 (by have:=Ky 7 p c 0;omega) (a3s e he) x hx
 have hO:=D8 7 p c 0 hp
 have hE:=a8E e he
 have hgs:=hx.d
 unfold JE KH
 generalize Ah 7 p c 0=k at *
 generalize Cd e=z at *
 refine a7R _ _ _ (by simp) ?_
 by_cases hz:z.2=0
 ·rw[Af hz,Af hz]
  clear hI hx
  generalize CQ L k z.1=L' at *
  generalize FA k z.1=E at *
  rw[hz]at hE
  rcases x with _ | ⟨g,cap⟩
  all_goals
   simp only[B4,Bq,A3,AA]at hgs hS ⊢
   simp only[Q7];refine Mx ?_
   repeat' ((first|exact tt|refine Ab hO ?_|refine Ab hE ?_|((refine Iz hS (fun h0=>?_) (fun b c hn h2 hc=>?_))<;>(try simp only[Bt,Bu,Bc]at hn))|((refine Ex hS (fun c hc=>?_) (fun b c hn h2 hc=>?_))<;>(try simp only[Bt,Bu,Bc]at hn))|refine na fun b=>?_|refine nb fun b hb=>?_|refine iq ?_|(refine jq ?_ ?_<;>intro h h')|exact wZ|refine Aa ?_ ?_)<;>try refine Mx ?_)
   all_goals first
   | exact Ch (L:=L) (x:=none) none ⟨by first|exact h0|exact hx,fun _=>rfl⟩ JG NQ
   | exact Ch (L:=L) (x:=none) (some (b,c)) ⟨⟨h2,hc⟩,fun h=>by cases h⟩ JG NS
   | exact Ch (L:=L) (x:=some (g,cap)) (some (g,c)) ⟨⟨hgs,hc⟩,fun h=>by cases h⟩ JG Fz
   | exact Ch (L:=L) (x:=some (g,cap)) (some (b,c)) ⟨⟨h2,hc⟩,fun h=>by cases h⟩ JG Fz
   | exact Ch (L:=L) (x:=some (g,cap)) (some (g,cap)) ⟨hx,fun h=>by cases h⟩ JG Fz
 ·rw[Ad hz,Ad hz]
  have f1:Ac (decide (z.2=0)=false):=by simp only[Ac,Hn];exact hz
  clear hS
  rcases x with _ | ⟨g,cap⟩
  all_goals
   simp only[B4,Bq,A3,AA]at hgs ⊢
   simp only[Q7];refine Mx ?_
   repeat' ((first|exact tt|refine Ab hO ?_|refine Ab hE ?_|refine na fun b=>?_|refine nb fun b hb=>?_|refine iq ?_|(refine jq ?_ ?_<;>intro h h')|exact wZ|refine Aa ?_ ?_)<;>try refine Mx ?_)
   all_goals first
   | exact Ch (L:=L) (x:=none) none ⟨by first|exact h0|exact hx,fun _=>rfl⟩ JG NQ
   | exact Ch (L:=L) (x:=none) (some (b,c)) ⟨⟨h2,hc⟩,fun h=>by cases h⟩ JG NS
   | exact Ch (L:=L) (x:=some (g,cap)) (some (g,c)) ⟨⟨hgs,hc⟩,fun h=>by cases h⟩ JG Fz
   | exact Ch (L:=L) (x:=some (g,cap)) (some (b,c)) ⟨⟨h2,hc⟩,fun h=>by cases h⟩ JG Fz
   | exact Ch (L:=L) (x:=some (g,cap)) (some (g,cap)) ⟨hx,fun h=>by cases h⟩ JG Fz
end
section
open Go.RowKit
abbrev Wd:=BitVec 32
def wI(x:Wd):Int:=(x.toNat:Int)
abbrev aW(x:Wd):AV:=.int .u32 (wI x)
theorem wrap_u32(n:Int):IntKind.wrap .u32 n=n % 4294967296:=rfl
theorem a1y(x:Wd):0≤wI x∧wI x<4294967296:=by
 have:=x.isLt
 unfold wI;omega
theorem QA(x:Wd):wI x % 4294967296=wI x:=Int.emod_eq_of_lt (a1y x).1 (a1y x).2
theorem KU(x:Wd):BitVec.ofInt 32 (wI x)=x:=by
 unfold wI;simp
theorem Ob(x y:Wd):IntKind.wrap .u32 (wI x+wI y)=wI (x+y):=by
 rw[wrap_u32];unfold wI;rw[BitVec.toNat_add];omega
theorem Of(x y:Wd):IntKind.wrap .u32 ((BitVec.ofInt (IntKind.bits .u32) (wI x) ^^^ BitVec.ofInt (IntKind.bits .u32) (wI y)).toNat)=wI (x ^^^ y):=by
 show IntKind.wrap .u32 (((BitVec.ofInt 32 (wI x)) ^^^ (BitVec.ofInt 32 (wI y))).toNat:Int)=_
 rw[KU,KU,wrap_u32];exact QA _
theorem Oc(x y:Wd):IntKind.wrap .u32 ((BitVec.ofInt (IntKind.bits .u32) (wI x) &&& BitVec.ofInt (IntKind.bits .u32) (wI y)).toNat)=wI (x &&& y):=by
 show IntKind.wrap .u32 (((BitVec.ofInt 32 (wI x)) &&& (BitVec.ofInt 32 (wI y))).toNat:Int)=_
 rw[KU,KU,wrap_u32];exact QA _
theorem J1(x y:Wd):IntKind.wrap .u32 ((BitVec.ofInt (IntKind.bits .u32) (wI x) ||| BitVec.ofInt (IntKind.bits .u32) (wI y)).toNat)=wI (x ||| y):=by
 show IntKind.wrap .u32 (((BitVec.ofInt 32 (wI x)) ||| (BitVec.ofInt 32 (wI y))).toNat:Int)=_
 rw[KU,KU,wrap_u32];exact QA _
theorem Od(x:Wd):IntKind.wrap .u32 ((BitVec.ofInt (IntKind.bits .u32) (if IntKind.signed .u32=true then -1 else IntKind.max .u32) ^^^ BitVec.ofInt (IntKind.bits .u32) (wI x)).toNat)=wI (~~~x):=by
 show IntKind.wrap .u32 (((BitVec.ofInt 32 4294967295) ^^^ (BitVec.ofInt 32 (wI x))).toNat:Int)=_
 rw[KU,wrap_u32,show BitVec.ofInt 32 4294967295=BitVec.allOnes 32 from rfl,BitVec.allOnes_xor];exact QA _
theorem Ty(m:Nat):((2:Int) ^ m)=((2 ^ m:Nat):Int):=by
 induction m with
 | zero=>rfl
 | succ m ih=>rw[Int.pow_succ,ih,F8];rfl
theorem G0(x:Wd)(n:Nat):(wI x).fdiv (2 ^ (min n (IntKind.bits .u32)))=wI (x >>> n):=by
 show (wI x).fdiv (2 ^ (min n 32))=_
 unfold wI
 rw[BitVec.toNat_ushiftRight,Nat.shiftRight_eq_div_pow,Ty,Int.fdiv_eq_ediv_of_nonneg _ (Int.natCast_nonneg _)]
 have key:x.toNat / 2 ^ (min n 32)=x.toNat / 2 ^ n:=by
  rcases Nat.le_total n 32 with h|h
  ·rw[Nat.min_eq_left h]
  ·rw[Nat.min_eq_right h,Nat.div_eq_of_lt x.isLt,Nat.div_eq_of_lt (Nat.lt_of_lt_of_le x.isLt (Nat.pow_le_pow_right (by omega) h))]
 rw[← key];rfl
theorem J2(x:Wd)(n:Nat):IntKind.wrap .u32 (wI x * 2 ^ (min n (IntKind.bits .u32)))=wI (x <<< n):=by
 show IntKind.wrap .u32 (wI x * 2 ^ (min n 32))=_
 rw[wrap_u32]
 unfold wI
 rw[BitVec.toNat_shiftLeft,Nat.shiftLeft_eq,Ty]
 have key:x.toNat * 2 ^ (min n 32) % 4294967296=x.toNat * 2 ^ n % 2 ^ 32:=by
  rcases Nat.le_total n 32 with h|h
  ·rw[Nat.min_eq_left h]
  ·rw[Nat.min_eq_right h]
   have h1:x.toNat * 2 ^ n % 2 ^ 32=0:=by
    rw[show n=32+(n - 32) by omega,Nat.pow_add, ← Nat.mul_assoc,Nat.mul_right_comm]
    exact Nat.mul_mod_left _ _
   rw[h1];exact Nat.mul_mod_left _ _
 rw[← key];rfl
theorem Oe(b:UInt8):IntKind.wrap .u32 (b.toNat:Int)=wI (BitVec.ofNat 32 b.toNat):=by
 rw[wrap_u32];unfold wI
 have:=b.toNat_lt
 rw[BitVec.toNat_ofNat];omega
def wB(x:Wd):UInt8:=UInt8.ofNat x.toNat
theorem QB(x:Wd):IntKind.wrap .u8 (wI x)=((wB x).toNat:Int):=by
 show wI x % 256=_
 unfold wB wI
 rw[UInt8.toNat_ofNat'];omega
def Cv(x:Wd)(n:Nat):Wd:=(x <<< (32 - n)) ||| (x >>> n)
theorem b0M(x:Wd)(n:Nat):(x >>> n) ||| (x <<< (32 - n))=Cv x n:=BitVec.or_comm _ _
structure S8 where
 a:Wd
 b:Wd
 c:Wd
 d:Wd
 e:Wd
 f:Wd
 g:Wd
 h:Wd
abbrev S8.l(s:S8):List Wd:=[s.a,s.b,s.c,s.d,s.e,s.f,s.g,s.h]
abbrev S8.c8(s:S8):List AV:=[aW s.a,aW s.b,aW s.c,aW s.d,aW s.e,aW s.f,aW s.g,aW s.h]
def stepT(s:S8)(k w:Wd):Wd:=s.h+((Cv s.e 6 ^^^ Cv s.e 11) ^^^ Cv s.e 25)+((s.e &&& s.f) ^^^ (~~~s.e &&& s.g))+k+w
def TS(s:S8):Wd:=((Cv s.a 2 ^^^ Cv s.a 13) ^^^ Cv s.a 22)+(((s.a &&& s.b) ^^^ (s.a &&& s.c)) ^^^ (s.b &&& s.c))
def N1(s:S8)(k w:Wd):S8:=⟨stepT s k w+TS s,s.a,s.b,s.c,s.d+stepT s k w,s.e,s.f,s.g⟩
def Lc(b:List UInt8)(i:Nat):Wd:=BitVec.ofNat 32 (b.getD i 0).toNat
def Ji(b:List UInt8)(i:Nat):Wd:=((Lc b (4 * i) <<< 24 ||| Lc b (4 * i+1) <<< 16) ||| Lc b (4 * i+2) <<< 8) ||| Lc b (4 * i+3)
def Jz(l:List Wd)(i:Nat):Wd:=l.getD (i - 16) 0+((Cv (l.getD (i - 15) 0) 7 ^^^ Cv (l.getD (i - 15) 0) 18) ^^^ (l.getD (i - 15) 0) >>> 3)+l.getD (i - 7) 0+((Cv (l.getD (i - 2) 0) 17 ^^^ Cv (l.getD (i - 2) 0) 19) ^^^ (l.getD (i - 2) 0) >>> 10)
def BJ(b:List UInt8):Nat→List Wd
 | 0=>[]
 | i+1=>BJ b i++[if i<16 then Ji b i else Jz (BJ b i) i]
theorem HD(b:List UInt8)(n:Nat):(BJ b n).length=n:=by
 induction n with
 | zero=>rfl
 | succ n ih=>simp[BJ,ih]
def Dl(b:List UInt8)(n:Nat):List Wd:=BJ b n++List.replicate (64 - n) 0
theorem P9(b:List UInt8)(n:Nat)(h:n≤64):(Dl b n).length=64:=by simp[Dl,HD];omega
theorem b1V(b:List UInt8)(n i:Nat)(h:i<n):(Dl b n).getD i 0=(BJ b n).getD i 0:=by
 simp only[Dl,List.getD]
 rw[CB (by rw[HD];exact h)]
theorem Qa(b:List UInt8)(n:Nat)(h:n<64)(x:Wd)(hx:x=if n<16 then Ji b n else Jz (BJ b n) n):(Dl b n).set n x=Dl b (n+1):=by
 subst hx
 unfold Dl
 rw[List.set_append_right _ _ (by rw[HD];exact A8 n),HD,Nat.sub_self,show 64 - n=(64 - (n+1))+1 by omega,J7,List.set_cons_zero,BJ]
 simp
def shaK:List Wd:=[
  0x428a2f98,0x71374491,0xb5c0fbcf,0xe9b5dba5,0x3956c25b,0x59f111f1,0x923f82a4,0xab1c5ed5,
  0xd807aa98,0x12835b01,0x243185be,0x550c7dc3,0x72be5d74,0x80deb1fe,0x9bdc06a7,0xc19bf174,
  0xe49b69c1,0xefbe4786,0x0fc19dc6,0x240ca1cc,0x2de92c6f,0x4a7484aa,0x5cb0a9dc,0x76f988da,
  0x983e5152,0xa831c66d,0xb00327c8,0xbf597fc7,0xc6e00bf3,0xd5a79147,0x06ca6351,0x14292967,
  0x27b70a85,0x2e1b2138,0x4d2c6dfc,0x53380d13,0x650a7354,0x766a0abb,0x81c2c92e,0x92722c85,
  0xa2bfe8a1,0xa81a664b,0xc24b8b70,0xc76c51a3,0xd192e819,0xd6990624,0xf40e3585,0x106aa070,
  0x19a4c116,0x1e376c08,0x2748774c,0x34b0bcb5,0x391c0cb3,0x4ed8aa4a,0x5b9cca4f,0x682e6ff3,
  0x748f82ee,0x78a5636f,0x84c87814,0x8cc70208,0x90befffa,0xa4506ceb,0xbef9a3f7,0xc67178f2]
def sha0:S8:=⟨0x6a09e667,0xbb67ae85,0x3c6ef372,0xa54ff53a,0x510e527f,0x9b05688c,0x1f83d9ab,0x5be0cd19⟩
def Fi(s:S8)(W:List Wd):Nat→S8
 | 0=>s
 | i+1=>N1 (Fi s W i) (shaK.getD i 0) (W.getD i 0)
def J9(s t:S8):S8:=⟨s.a+t.a,s.b+t.b,s.c+t.c,s.d+t.d,s.e+t.e,s.f+t.f,s.g+t.g,s.h+t.h⟩
def Kw(s:S8)(b:List UInt8):S8:=J9 s (Fi s (BJ b 64) 64)
def Ef(b:List UInt8):Nat→S8
 | 0=>sha0
 | n+1=>Kw (Ef b n) ((b.drop (64 * n)).take 64)
def len8(n:Nat):List UInt8:=(List.range 8).map fun k=>UInt8.ofNat (n * 8 / 2 ^ (8 * (7 - k)))
def BQ(s:List UInt8):List UInt8:=s++(128::List.replicate ((119 - s.length % 64) % 64) 0++len8 s.length)
def JA(s:S8)(i:Nat):UInt8:=wB ((s.l.getD (i / 4) 0) >>> (24 - 8 * (i % 4)))
def CJ(s:S8):List UInt8:=(List.range 32).map (JA s)
def Er(s:S8)(i:Nat):List UInt8:=(List.range i).map (JA s)++List.replicate (32 - i) 0
theorem PL(s:S8)(i:Nat)(h:i≤32):(Er s i).length=32:=by simp[Er];omega
theorem Zb(s:S8)(i:Nat)(h:i<32)(x:UInt8)(hx:x=JA s i):(Er s i).set i x=Er s (i+1):=by
 subst hx
 unfold Er
 have e:((List.range i).map (JA s)).length=i:=by simp
 rw[List.set_append_right _ _ (by rw[e];exact A8 i),e,Nat.sub_self,show 32 - i=(32 - (i+1))+1 by omega,J7,List.set_cons_zero,List.range_succ]
 simp
theorem Za(s:S8):Er s 32=CJ s:=by simp[Er,CJ]
def BB(s:List UInt8):List UInt8:=CJ (Ef (BQ s) ((BQ s).length / 64))
theorem FB(s:List UInt8):(BB s).length=32:=by simp[BB,CJ]
theorem ZJ(s:List UInt8):(BQ s).length=64 * ((BQ s).length / 64)∧64≤(BQ s).length:=by
 have h:(BQ s).length=s.length+(1+(119 - s.length % 64) % 64+8):=by simp[BQ,len8];omega
 omega
end
section
open Go.RowKit
def eight(n:Nat):List UInt8:=[UInt8.ofNat (n / 72057594037927936),UInt8.ofNat (n / 281474976710656),UInt8.ofNat (n / 1099511627776),UInt8.ofNat (n / 4294967296),UInt8.ofNat (n / 16777216),UInt8.ofNat (n / 65536),UInt8.ofNat (n / 256),UInt8.ofNat n]
theorem Hj(n:Nat):(eight n).length=8:=rfl
def Ar(n:Nat):Nat:=2 ^ Nat.log2 (n - 1)
theorem IG(n:Nat):0<Ar n:=Nat.two_pow_pos _
theorem HT{n:Nat}(h:1<n):Ar n<n:=by
 have:=Nat.log2_self_le (n:=n - 1) (by omega)
 unfold Ar;omega
theorem XG{n:Nat}(h:1<n):n≤2 * Ar n:=by
 have:=Nat.lt_log2_self (n:=n - 1)
 rw[F8]at this
 unfold Ar;omega
theorem a3Y{n k:Nat}(h1:2 ^ k<n)(h2:n≤2 * 2 ^ k):2 ^ k=Ar n:=by
 have e:Nat.log2 (n - 1)=k:=by
  rw[Nat.log2_eq_iff (by omega),F8]
  omega
 unfold Ar;rw[e]
def BU(n i:Nat):Nat:=
 if h:1<n then 1+(if i<Ar n then BU (Ar n) i else BU (n - Ar n) (i - Ar n)) else 0
termination_by n
decreasing_by
 ·exact HT h
 ·have:=IG n;omega
theorem Lu{n i:Nat}(h:n≤1):BU n i=0:=by unfold BU;rw[dif_neg (by omega)]
theorem OS{n i:Nat}(h:1<n)(hi:i<Ar n):BU n i=BU (Ar n) i+1:=by rw[BU,dif_pos h,Af hi,Nat.add_comm]
theorem OR{n i:Nat}(h:1<n)(hi:¬ i<Ar n):BU n i=BU (n - Ar n) (i - Ar n)+1:=by rw[BU,dif_pos h,Ad hi,Nat.add_comm]
theorem Lt:∀ (k n i:Nat),n≤2 ^ k→BU n i≤k
 | 0,n,i,h=>by rw[Lu (by simpa using h)];omega
 | k+1,n,i,h=>by
  by_cases h1:1<n
  ·have hk:Ar n≤2 ^ k:=by
    unfold Ar
    refine Nat.pow_le_pow_right (by omega) ?_
    have:Nat.log2 (n - 1)<k+1:=by rw[Nat.log2_lt (by omega)];omega
    omega
   have hg:=XG h1
   by_cases hi:i<Ar n
   ·rw[OS h1 hi];have:=Lt k (Ar n) i hk;omega
   ·rw[OR h1 hi];have:=Lt k (n - Ar n) (i - Ar n) (by omega);omega
  ·rw[Lu (by omega)];omega
abbrev Hs:=List UInt8
def F3:Hs:=List.replicate 32 0
def EM(a b:Hs):Hs:=BB (1::(a++b))
def DG(k v:List UInt8):Hs:=BB (0::(eight k.length++(k++v)))
def DJ(n:Nat)(top:Hs):Hs:=BB (2::(eight n++top))
theorem LX(a b:Hs):(EM a b).length=32:=FB _
theorem Ks(k v:List UInt8):(DG k v).length=32:=FB _
theorem JJ(n:Nat)(t:Hs):(DJ n t).length=32:=FB _
def Cl(way:List Hs)(leaf:Hs):Nat→Nat→Nat→Hs
 | 0,_,_=>leaf
 | m+1,n,i=>if i<Ar n then EM (Cl way leaf m (Ar n) i) (way.getD m []) else EM (way.getD m []) (Cl way leaf m (n - Ar n) (i - Ar n))
theorem O4{way:List Hs}{leaf:Hs}(h:leaf.length=32):∀ m n i,(Cl way leaf m n i).length=32
 | 0,_,_=>h
 | m+1,n,i=>by
  unfold Cl
  split<;>exact LX _ _
theorem O5{way:List Hs}{leaf:Hs}(k:Nat):∀ m n i,m≤k→Cl (way.take k) leaf m n i=Cl way leaf m n i
 | 0,_,_,_=>rfl
 | m+1,n,i,h=>by
  have e:(way.take k).getD m []=way.getD m []:=by simp[List.getD,HM,show m<k by omega]
  unfold Cl
  rw[O5 k m _ _ (by omega),O5 k m _ _ (by omega),e]
def CU(l:List Hs):Hs:=
 if h:1<l.length then EM (CU (l.take (Ar l.length))) (CU (l.drop (Ar l.length))) else l.getD 0 F3
termination_by l.length
decreasing_by
 ·have:=HT h;simp;omega
 ·have:=IG l.length;simp;omega
theorem TW{l:List Hs}(h:l.length≤1):CU l=l.getD 0 F3:=by unfold CU;rw[dif_neg (by omega)]
theorem a1p{l:List Hs}(h:1<l.length):CU l=EM (CU (l.take (Ar l.length))) (CU (l.drop (Ar l.length))):=by rw[CU,dif_pos h]
theorem HH{l:List Hs}(h:∀ x∈l,x.length=32):(CU l).length=32:=by
 by_cases h1:1<l.length
 ·rw[a1p h1];exact LX _ _
 ·rw[TW (by omega)]
  cases l with
  | nil=>rfl
  | cons x r=>exact h x (by simp)
def Ci(l:List Hs)(i:Nat):List Hs:=
 if h:1<l.length then (if i<Ar l.length then Ci (l.take (Ar l.length)) i++[CU (l.drop (Ar l.length))] else Ci (l.drop (Ar l.length)) (i - Ar l.length)++[CU (l.take (Ar l.length))]) else []
termination_by l.length
decreasing_by
 ·have:=HT h;simp;omega
 ·have:=IG l.length;simp;omega
theorem Oh{l:List Hs}{i:Nat}(h:l.length≤1):Ci l i=[]:=by unfold Ci;rw[dif_neg (by omega)]
theorem T5{l:List Hs}{i:Nat}(h:1<l.length)(hi:i<Ar l.length):Ci l i=Ci (l.take (Ar l.length)) i++[CU (l.drop (Ar l.length))]:=by rw[Ci,dif_pos h,Af hi]
theorem T4{l:List Hs}{i:Nat}(h:1<l.length)(hi:¬ i<Ar l.length):Ci l i=Ci (l.drop (Ar l.length)) (i - Ar l.length)++[CU (l.take (Ar l.length))]:=by rw[Ci,dif_pos h,Ad hi]
theorem T6:∀ (k:Nat) (l:List Hs) (i:Nat),l.length≤k→(∀ x∈l,x.length=32)→∀ x∈Ci l i,x.length=32
 | 0,l,i,hk,h=>by rw[Oh (by omega)];simp
 | k+1,l,i,hk,h=>by
  by_cases h1:1<l.length
  ·have a:=HT h1
   have b:=IG l.length
   have ht:∀ x∈l.take (Ar l.length),x.length=32:=fun x hx=>h x (EZ hx)
   have hd:∀ x∈l.drop (Ar l.length),x.length=32:=fun x hx=>h x (EY hx)
   by_cases hi:i<Ar l.length
   ·rw[T5 h1 hi]
    intro x hx
    rcases Bv.1 hx with hx|hx
    ·exact T6 k _ i (by simp;omega) ht x hx
    ·rw[G6.1 hx];exact HH hd
   ·rw[T4 h1 hi]
    intro x hx
    rcases Bv.1 hx with hx|hx
    ·exact T6 k _ _ (by simp;omega) hd x hx
    ·rw[G6.1 hx];exact HH ht
  ·rw[Oh (by omega)];simp
theorem Og:∀ (k:Nat) (l:List Hs) (i:Nat),l.length≤k→(Ci l i).length=BU l.length i
 | 0,l,i,hk=>by rw[Oh (by omega),Lu (by omega)];rfl
 | k+1,l,i,hk=>by
  by_cases h1:1<l.length
  ·have a:=HT h1
   have b:=IG l.length
   by_cases hi:i<Ar l.length
   ·rw[T5 h1 hi,OS h1 hi,Ao,Og k _ i (by simp;omega)]
    simp[Nat.min_eq_left (Nat.le_of_lt a)]
   ·rw[T4 h1 hi,OR h1 hi,Ao,Og k _ _ (by simp;omega)]
    simp
  ·rw[Oh (by omega),Lu (by omega)];rfl
structure LfC where
 k:List UInt8
 v:List UInt8
 i:Int
 p:List Hs
 h:∀ x∈p,x.length=32
instance:Inhabited LfC:=⟨⟨[],[],0,[],by simp⟩⟩
theorem LfC.ext4{a b:LfC}(h1:a.k=b.k)(h2:a.v=b.v)(h3:a.i=b.i)(h4:a.p=b.p):a=b:=by
 obtain ⟨a1,a2,a3,a4,_⟩:=a;obtain ⟨b1,b2,b3,b4,_⟩:=b
 simp only at h1 h2 h3 h4
 subst h1;subst h2;subst h3;subst h4;rfl
structure PfC where
 c:Int
 l:List LfC
 deriving Inhabited
def ET(k v:List UInt8):Bool:=decide (1≤k.length∧k.length≤160∧1≤v.length∧v.length≤64)
def Hr(c:Int)(x:LfC):Bool:=ET x.k x.v&&(decide (0≤x.i∧x.i<c)&&decide (x.p.length=BU c.toNat x.i.toNat))
def D7(p:PfC):Bool:=decide (0≤p.c∧p.c≤1073741824∧p.l.length≤2)&&p.l.all (Hr p.c)
def hI(l:Hs):List Int:=l.map fun b=>(b.toNat:Int)
theorem O9(l:Hs):(hI l).length=l.length:=by simp[hI]
def ED(root:List Int)(c:Int)(x:LfC):Bool:=decide (hI (DJ c.toNat (Cl x.p (DG x.k x.v) x.p.length c.toNat x.i.toNat))=root)
def DO(root:List Int)(p:PfC)(key:List UInt8):Option (List UInt8):=
 if D7 p=true∧p.l.length=1∧(p.l.getD 0 default).k=key∧ED root p.c (p.l.getD 0 default)=true then some (p.l.getD 0 default).v else none
def IH(root:List Int)(p:PfC)(key val:List UInt8):Bool:=decide (DO root p key=some val)
def DY(a b:List UInt8):Bool:=Op.bytesLess a b
def Sq(root:List Int)(p:PfC)(key:List UInt8):Bool:=
 D7 p&&(p.l.all (ED root p.c)&&match p.l with
  | []=>decide (p.c=0)&&decide (root=hI (DJ 0 F3))
  | [x]=>decide (x.i=0)&&DY key x.k||decide (x.i=p.c - 1)&&DY x.k key
  | x::y::_=>decide (y.i=x.i+1)&&(DY x.k key&&DY key y.k))
def GG(l:List (List UInt8 × List UInt8)):Bool:=l.all (fun q=>ET q.1 q.2)&&(List.range l.length).all fun i=>decide (i=0)||DY (l.getD (i - 1) default).1 (l.getD i default).1
def Bz(l:List (List UInt8 × List UInt8)):List Hs:=l.map fun q=>DG q.1 q.2
theorem Nx(l:List (List UInt8 × List UInt8)):∀ x∈Bz l,x.length=32:=fun x hx=>by
 obtain ⟨q,_,rfl⟩:=Dp.1 hx;exact Ks _ _
def KN(l:List (List UInt8 × List UInt8)):Hs:=DJ l.length (CU (Bz l))
def Fb(l:List (List UInt8 × List UInt8))(i:Nat):LfC:=⟨(l.getD i default).1,(l.getD i default).2,i,Ci (Bz l) i,T6 _ _ i (A8 _) (Nx l)⟩
def DI(l:List (List UInt8 × List UInt8))(key:List UInt8):PfC:=
 let k:=(l.takeWhile fun q=>DY q.1 key).length
 if GG l=true then ⟨l.length,if k<l.length∧(l.getD k default).1=key then [Fb l k] else (if 0<k then [Fb l (k - 1)] else [])++(if k<l.length then [Fb l k] else [])⟩ else ⟨0,[]⟩
end
end Go.Proofs.YtfgihnhoocnmdaaGreatDoor
namespace Go.Proofs
open Go.Shelf
def Tryz.sort180_ren:Go.Shelf.Ren:=⟨fun|6=>180|15=>217|14=>216|28=>242|29=>243|20=>234|21=>235|22=>236|23=>237|24=>238|25=>239|26=>240|27=>241|46=>256|47=>257|48=>258|49=>259|50=>260|57=>265|n=>n,fun|22=>47|24=>31|25=>195|3=>3|39=>225|0=>0|53=>211|55=>210|4=>4|46=>293|45=>292|50=>113|5=>5|9=>9|66=>305|70=>309|76=>314|77=>230|n=>n,fun|n=>n⟩
theorem Tryz.sort180:Go.Proofs.SlLaysF0.n6 Tryz.prog Tryz.sort180_ren:={
 mixed:=by kernel_rfl
 f6:=⟨Tryz.f180.name,by decide,Tryz.func180.trans (congrArg some (by kernel_rfl))⟩
 f14:=⟨Tryz.f216.name,by decide,Tryz.func216.trans (congrArg some (by kernel_rfl))⟩
 f15:=Tryz.func217.trans (congrArg some (by kernel_rfl))
 f20:=⟨Tryz.f234.name,by decide,Tryz.func234.trans (congrArg some (by kernel_rfl))⟩
 f21:=⟨Tryz.f235.name,by decide,Tryz.func235.trans (congrArg some (by kernel_rfl))⟩
 f22:=⟨Tryz.f236.name,by decide,Tryz.func236.trans (congrArg some (by kernel_rfl))⟩
 f23:=⟨Tryz.f237.name,by decide,Tryz.func237.trans (congrArg some (by kernel_rfl))⟩
 f24:=⟨Tryz.f238.name,by decide,Tryz.func238.trans (congrArg some (by kernel_rfl))⟩
 f25:=⟨Tryz.f239.name,by decide,Tryz.func239.trans (congrArg some (by kernel_rfl))⟩
 f26:=⟨Tryz.f240.name,by decide,Tryz.func240.trans (congrArg some (by kernel_rfl))⟩
 f27:=⟨Tryz.f241.name,by decide,Tryz.func241.trans (congrArg some (by kernel_rfl))⟩
 f28:=Tryz.func242.trans (congrArg some (by kernel_rfl))
 f29:=Tryz.func243.trans (congrArg some (by kernel_rfl))
 f46:=⟨Tryz.f256.name,by decide,Tryz.func256.trans (congrArg some (by kernel_rfl))⟩
 f47:=Tryz.func257.trans (congrArg some (by kernel_rfl))
 f48:=Tryz.func258.trans (congrArg some (by kernel_rfl))
 f49:=⟨Tryz.f259.name,by decide,Tryz.func259.trans (congrArg some (by kernel_rfl))⟩
 f50:=⟨Tryz.f260.name,by decide,Tryz.func260.trans (congrArg some (by kernel_rfl))⟩
 f57:=⟨Tryz.f265.name,by decide,Tryz.func265.trans (congrArg some (by kernel_rfl))⟩
 t0:=Tryz.underlying0
 a0:=Tryz.isAgg0
 z0:=Tryz.sizeOf0
 v0:=Tryz.zeroValue0
 t3:=Tryz.underlying3
 a3:=Tryz.isAgg3
 z3:=Tryz.sizeOf3
 v3:=Tryz.zeroValue3
 t4:=Tryz.underlying4
 a4:=Tryz.isAgg4
 z4:=Tryz.sizeOf4
 v4:=Tryz.zeroValue4
 t5:=Tryz.underlying5
 a5:=Tryz.isAgg5
 z5:=Tryz.sizeOf5
 v5:=Tryz.zeroValue5
 t9:=Tryz.underlying9
 a9:=Tryz.isAgg9
 z9:=Tryz.sizeOf9
 v9:=Tryz.zeroValue9
 t22:=Tryz.underlying47
 a22:=Tryz.isAgg47
 z22:=Tryz.sizeOf47
 v22:=Tryz.zeroValue47
 t25:=Tryz.underlying195
 a25:=Tryz.isAgg195
 z25:=Tryz.sizeOf195
 v25:=Tryz.zeroValue195
 t39:=Tryz.underlying225
 a39:=Tryz.isAgg225
 z39:=Tryz.sizeOf225
 v39:=Tryz.zeroValue225
 t45:=Tryz.underlying292
 a45:=Tryz.isAgg292
 z45:=Tryz.sizeOf292
 v45:=Tryz.zeroValue292
 t46:=Tryz.underlying293
 a46:=Tryz.isAgg293
 z46:=Tryz.sizeOf293
 v46:=Tryz.zeroValue293
 t50:=Tryz.underlying113
 a50:=Tryz.isAgg113
 z50:=Tryz.sizeOf113
 v50:=Tryz.zeroValue113
 t53:=Tryz.underlying211
 a53:=Tryz.isAgg211
 z53:=Tryz.sizeOf211
 v53:=Tryz.zeroValue211
 t55:=Tryz.underlying210
 a55:=Tryz.isAgg210
 z55:=Tryz.sizeOf210
 v55:=Tryz.zeroValue210
 t66:=Tryz.underlying305
 a66:=Tryz.isAgg305
 z66:=Tryz.sizeOf305
 v66:=Tryz.zeroValue305
 t70:=Tryz.underlying309
 a70:=Tryz.isAgg309
 z70:=Tryz.sizeOf309
 v70:=Tryz.zeroValue309
 t76:=Tryz.underlying314
 a76:=Tryz.isAgg314
 z76:=Tryz.sizeOf314
 v76:=Tryz.zeroValue314
 t77:=Tryz.underlying230
 a77:=Tryz.isAgg230
 z77:=Tryz.sizeOf230
 v77:=Tryz.zeroValue230 }
end Go.Proofs
namespace Go.Proofs.YtfgihnhoocnmdaaGreatDoor
set_option linter.all false
set_option maxHeartbeats 64000000
set_option maxRecDepth 100000
section
open Go.RowKit Go.Lib
def EC(k:Int):Bool:=decide (4≤k)&&decide (k≤6)
theorem GR{A B:Prop}(h:B)(e:A=B:=by (simp (disch:=omega) only[*, ↓Ed,Eu, ↓reduceIte,reduceCtorEq,Nat.reduceAdd,Nat.reduceEqDiff,Nat.reduceLT,Nat.reduceLeDiff,Int.reduceToNat,Int.reduceEq,Int.reduceLT,Int.reduceLE,Ap];first|done|rfl)):A:=e▸h
theorem PU(k:Int):CP Tryz.prog 74 [.int .i64 k] (.bool (EC k)):=by
 refine a5Q _ _ (by simp) ?_
 unfold EC
 simp only[U5];refine GR ?_
 repeat' ((first|exact tt|refine na fun b=>?_|refine nb fun b hb=>?_|refine iq ?_|(refine jq ?_ ?_<;>intro h h')|exact wZ|refine Aa ?_ ?_)<;>try refine GR ?_)
 all_goals (first|rw[Gt]|(rw[A0 (by omega:¬ 4≤k)];rfl))
def EO(k n:Int):Bool:=EC k&&(decide (1≤n)&&decide (n≤1099511627777))
noncomputable def JL (L:List PrP) (k:Int) (p:List UInt8) (c n:Int):List PrP:=if EO k n=true then CQ L (Ah k p c 0) (pn n) else L
noncomputable def KQ (k:Int) (p:List UInt8) (c n:Int):Int:=if EO k n=true then FA (Ah k p c 0) (pn n) else 1
theorem N5(s:Nat)(L:List PrP)(hI:StI L)(k:Int)(p:List UInt8)(c:Int)(hp:p.length≤1000000)(n:Int)(x:Bl)(hx:stOk s L x):
  CT Tryz.prog 56 [.ptr s 0,.int .i64 k,.agg [.str p,.int .i64 c],.int .i64 n] (lk (AF s L x)) (IZ s L (JL L k p c n) x (KQ k p c n)):=by
 have hl:=hI.len
 have hS:=MG s L hI.rise (by omega) (Ah k p c 0) (pn n) (by have:=Ky k p c 0;omega) (by have:=C5 n;omega) x hx
 have hO:=D8 k p c 0 hp
 have hU:=ND n
 have hN:=PU k
 have hC:=Tj n
 have hgs:=hx.d
 unfold JL KQ EO
 generalize Ah k p c 0=key at *
 generalize pn n=v at *
 generalize EC k=a at *
 generalize (decide (1≤n)&&decide (n≤1099511627777))=b at *
 refine a7S _ _ _ (by simp) ?_
 cases a with
 | true=>
  cases b with
  | true=>
   simp only[Bool.and_self,Bo]
   clear hI hx
   generalize CQ L key v=L' at *
   generalize FA key v=E at *
   rcases x with _ | ⟨g,cap⟩
   all_goals
    simp only[B4,Bq,A3,AA]at hgs hS ⊢
    simp only[OE];refine GR ?_
    repeat' ((first|exact tt|refine Ab hO ?_|refine Ab hU ?_|refine Ab hN ?_|refine Ab hC ?_|((refine Iz hS (fun h0=>?_) (fun b c hn h2 hc=>?_))<;>(try simp only[Bt,Bu,Bc]at hn))|((refine Ex hS (fun c hc=>?_) (fun b c hn h2 hc=>?_))<;>(try simp only[Bt,Bu,Bc]at hn))|refine na fun b=>?_|refine nb fun b hb=>?_|refine iq ?_|(refine jq ?_ ?_<;>intro h h')|exact wZ|refine Aa ?_ ?_)<;>try refine GR ?_)
    all_goals first
    | exact Ch (L:=L) (x:=none) none ⟨by first|exact h0|exact hx,fun _=>rfl⟩ JG NQ
    | exact Ch (L:=L) (x:=none) (some (b,c)) ⟨⟨h2,hc⟩,fun h=>by cases h⟩ JG NS
    | exact Ch (L:=L) (x:=some (g,cap)) (some (g,c)) ⟨⟨hgs,hc⟩,fun h=>by cases h⟩ JG Fz
    | exact Ch (L:=L) (x:=some (g,cap)) (some (b,c)) ⟨⟨h2,hc⟩,fun h=>by cases h⟩ JG Fz
    | exact Ch (L:=L) (x:=some (g,cap)) (some (g,cap)) ⟨hx,fun h=>by cases h⟩ JG Fz
  | false=>
   simp only[Bool.and_false,Bool.false_and,D3,BV]
   clear hS
   rcases x with _ | ⟨g,cap⟩
   all_goals
    simp only[B4,Bq,A3,AA]at hgs ⊢
    simp only[OE];refine GR ?_
    repeat' ((first|exact tt|refine Ab hO ?_|refine Ab hU ?_|refine Ab hN ?_|refine Ab hC ?_|refine na fun b=>?_|refine nb fun b hb=>?_|refine iq ?_|(refine jq ?_ ?_<;>intro h h')|exact wZ|refine Aa ?_ ?_)<;>try refine GR ?_)
    all_goals first
    | exact Ch (L:=L) (x:=none) none ⟨by first|exact h0|exact hx,fun _=>rfl⟩ JG NQ
    | exact Ch (L:=L) (x:=none) (some (b,c)) ⟨⟨h2,hc⟩,fun h=>by cases h⟩ JG NS
    | exact Ch (L:=L) (x:=some (g,cap)) (some (g,c)) ⟨⟨hgs,hc⟩,fun h=>by cases h⟩ JG Fz
    | exact Ch (L:=L) (x:=some (g,cap)) (some (b,c)) ⟨⟨h2,hc⟩,fun h=>by cases h⟩ JG Fz
    | exact Ch (L:=L) (x:=some (g,cap)) (some (g,cap)) ⟨hx,fun h=>by cases h⟩ JG Fz
 | false=>
  simp only[Bool.and_false,Bool.false_and,D3,BV]
  clear hS
  rcases x with _ | ⟨g,cap⟩
  all_goals
   simp only[B4,Bq,A3,AA]at hgs ⊢
   simp only[OE];refine GR ?_
   repeat' ((first|exact tt|refine Ab hO ?_|refine Ab hU ?_|refine Ab hN ?_|refine Ab hC ?_|refine na fun b=>?_|refine nb fun b hb=>?_|refine iq ?_|(refine jq ?_ ?_<;>intro h h')|exact wZ|refine Aa ?_ ?_)<;>try refine GR ?_)
   all_goals first
   | exact Ch (L:=L) (x:=none) none ⟨by first|exact h0|exact hx,fun _=>rfl⟩ JG NQ
   | exact Ch (L:=L) (x:=none) (some (b,c)) ⟨⟨h2,hc⟩,fun h=>by cases h⟩ JG NS
   | exact Ch (L:=L) (x:=some (g,cap)) (some (g,c)) ⟨⟨hgs,hc⟩,fun h=>by cases h⟩ JG Fz
   | exact Ch (L:=L) (x:=some (g,cap)) (some (b,c)) ⟨⟨h2,hc⟩,fun h=>by cases h⟩ JG Fz
   | exact Ch (L:=L) (x:=some (g,cap)) (some (g,cap)) ⟨hx,fun h=>by cases h⟩ JG Fz
noncomputable def Fg (L:List PrP) (k:Int) (p:List UInt8) (c:Int):Int:=
 if EC k=true∧(nx (C2 L (Ah k p c 0)) 0).2.2=0∧¬ (nx (C2 L (Ah k p c 0)) 0).2.1<((C2 L (Ah k p c 0)).length:Int) then (nx (C2 L (Ah k p c 0)) 0).1 else 0
theorem Qs(s:Nat)(L:List PrP)(hI:StI L)(k:Int)(p:List UInt8)(c:Int)(hp:p.length≤1000000)(x:Bl)(hx:stOk s L x):
  CT Tryz.prog 54 [.ptr s 0,.int .i64 k,.agg [.str p,.int .i64 c]] (lk (AF s L x)) (fun r o=>r=.int .i64 (Fg L k p c)∧o=lk (AF s L x)):=by
 have hF:=Qt s L hI.rise (by have:=hI.len;omega) (Ah k p c 0) x hx
 have hO:=D8 k p c 0 hp
 have hv:=hI.getS_len (Ah k p c 0)
 have hD:=Zl (C2 L (Ah k p c 0)) 0 (by omega)
 have hN:=PU k
 have hgs:=hx.d
 unfold Fg
 clear hI hx
 generalize Ah k p c 0=key at *
 generalize C2 L key=v at *
 generalize nx v 0=z at *
 generalize EC k=a at *
 generalize A9 L key=ok at *
 refine a7Q _ _ _ (by simp) ?_
 by_cases h1:a=true∧z.2.2=0∧¬ z.2.1<(v.length:Int)
 ·rw[Af h1]
  obtain ⟨rfl,h2,h3⟩:=h1
  have f2:Ac (decide (z.2.2=0)=true):=by simp only[Ac,Hn];exact h2
  have f3:Ac (decide (z.2.1<(v.length:Int))=false):=by simp only[Ac,Hn];exact h3
  clear h2 h3
  rcases x with _ | ⟨g,cap⟩
  all_goals
   simp only[B4,Bq,A3,AA]at hgs hF ⊢
   simp only[Q6];refine GR ?_
   repeat' ((first|exact tt|refine Ab hO ?_|refine Ab hD ?_|refine Ab hN ?_|refine c1 hF ?_|refine c2 hF ?_|refine na fun b=>?_|refine nb fun b hb=>?_|refine iq ?_|(refine jq ?_ ?_<;>intro h h')|exact wZ|refine Aa ?_ ?_)<;>try refine GR ?_)
   all_goals exact AG P0 (A6 _)
 ·rw[Ad h1]
  rcases x with _ | ⟨g,cap⟩
  all_goals
   simp only[B4,Bq,A3,AA]at hgs hF ⊢
   simp only[Q6];refine GR ?_
   repeat' ((first|exact tt|refine Ab hO ?_|refine Ab hD ?_|refine Ab hN ?_|refine c1 hF ?_|refine c2 hF ?_|refine na fun b=>?_|refine nb fun b hb=>?_|refine iq ?_|(refine jq ?_ ?_<;>intro h h')|exact wZ|refine Aa ?_ ?_)<;>try refine GR ?_)
   all_goals first|exact AG (by first|(simp[Am,lk,BR,Br, *];done)|fail) (A6 _)|(exfalso;apply h1;simp only[Ac,Hn]at *;refine ⟨by assumption,by omega,by omega⟩)
end
section
open Go.RowKit Go.Sort Go.Shelf
abbrev W7(x:FF):List AV:=[.str x.1,.int .i64 x.2]
end
section
open Go.RowKit Go.Lib
abbrev W8(l:List FF):List (List AV):=l.map W7
section
variable {P:Program} {d:Option Nat} {s:St} {K:St→Prop}
end
theorem a1h{α:Type}[Inhabited α]{l:List α}{k:Nat}(h:k<l.length):l.take (k+1)=l.take k++[l.getD k default]:=by
 rw[List.take_succ,Aw h];simp[List.getD,h]
end
end Go.Proofs.YtfgihnhoocnmdaaGreatDoor
