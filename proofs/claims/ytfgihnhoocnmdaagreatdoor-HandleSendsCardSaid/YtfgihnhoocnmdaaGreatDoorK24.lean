import Derived.Test.YtfgihnhoocnmdaaGreatDoorK19
import Derived.Test.YtfgihnhoocnmdaaGreatDoorK23
import Derived.Test.YtfgihnhoocnmdaaGreatDoorK14
import Derived.Test.YtfgihnhoocnmdaaGreatDoorK10
import Derived.Carry
import Derived.ChangeSame
import Derived.Deep.Slices
import Derived.Below
import Derived.OpenShut
import Derived.Test.YtfgihnhoocnmdaaGreatDoorRows
import Derived.Test.YtfgihnhoocnmdaaGreatDoorK15
import Derived.Handed
import Derived.HandedShaped
import Derived.LaidMore
import Derived.MakeChecks
import Derived.Stop.LaidErr
import Derived.Shelf.Vars
namespace Go.Proofs.YtfgihnhoocnmdaaGreatDoor
set_option linter.all false
set_option maxHeartbeats 9000000
section
open Go.RowKit
set_option maxRecDepth 100000
theorem sxFib{A B:Prop}(h:B)(e:A=B:=by (simp (disch:=omega) only[*, ↓Ed,Eu, ↓reduceIte,reduceCtorEq,Nat.reduceAdd,Nat.reduceEqDiff,Nat.reduceLT,Nat.reduceLeDiff,Int.reduceToNat,Int.reduceEq,Int.reduceLT,Int.reduceLE,w64,List.length_append,List.length_map,List.length_cons,List.length_nil,Int.reduceAdd,Nat.zero_add,Nat.mul_one,PktC.cs,Es.cs];first|done|rfl)):A:=e▸h
theorem c0h(b v:Int):CP Tryz.prog 161 [.int .i64 b,.int .i64 v] (.bool (decide (0<b)&&decide (b≤v))):=by
 refine a8Z _ _ (by simp) ?_
 cases h1:decide (0<b)<;>cases h2:decide (b≤v)
 all_goals (simp only[a5f];refine sxFib ?_;try exact tt)
 all_goals repeat' ((first|exact tt|refine na fun b=>?_|refine nb fun b hb=>?_|refine iq ?_|(refine jq ?_ ?_<;>intro h h')|refine Two_intro ?_ ?_|exact wZ|fail)<;>try refine sxFib ?_)
 all_goals rfl
theorem c0T(p:PktC)(h t:Int):CP Tryz.prog 96 [.agg p.cs,.int .i64 h,.int .i64 t] (.bool (c0F p h t)):=by
 have h1:=c0h p.th h
 have h2:=c0h p.ta t
 unfold c0F
 refine a8V _ _ (by simp) ?_
 generalize (decide (0<p.th)&&decide (p.th≤h))=A at *
 generalize (decide (0<p.ta)&&decide (p.ta≤t))=B at *
 cases A
 all_goals (simp only[a5d];refine sxFib ?_;try exact tt)
 all_goals repeat' ((first|exact tt|refine CallO_pure (h1) ?_|refine CallO_pure (h2) ?_|refine na fun b=>?_|refine nb fun b hb=>?_|refine iq ?_|(refine jq ?_ ?_<;>intro h h')|refine Two_intro ?_ ?_|exact wZ|fail)<;>try refine sxFib ?_)
 all_goals rfl
set_option maxHeartbeats 4000000 in
theorem b8o(s cl:Nat)(L:List PrP)(hI:StI L)(x:StS)(hx:stOk s L x)(hg:a3k L [112] 0=(⟨[113],1,false,false,0⟩,true)):
  CT Tryz.prog 44 [grA s cl 1 0 [],m0A] (lk (stO s L x)) (fun r o=>r=.tup [.sl none 13 [],.int .i64 13]∧o=lk (stO s L x)):=by
 have hG:=b5K s L hI [112] 0 (by simp) x hx
 rw[hg]at hG
 have hO:=c0T p0 1 0
 rw[show c0F p0 1 0=true by decide]at hO
 have hgs:=hx.d
 clear hI hx hg
 refine a3u _ _ _ (by simp) ?_
 rcases x with _ | ⟨g,cap⟩
 all_goals
  simp only[a1q,a0L,a0f,a0b]at hgs hG ⊢
  simp only[a1W];refine sxFib ?_
  repeat' ((first|exact tt|refine c1 (hG) ?_|refine c2 (hG) ?_|refine CallO_pure (hO) ?_|refine na fun b=>?_|refine nb fun b hb=>?_|refine iq ?_|(refine jq ?_ ?_<;>intro h h')|refine Two_intro ?_ ?_|exact wZ|fail)<;>try refine sxFib ?_)
  all_goals exact ro_mk (by simp[LeL,lk,r_two,rl_cons,rl_nil,arR,al_agg,al_bool,AV.alias,view,l_all, *]) (a2B _)
set_option maxHeartbeats 4000000 in
theorem c1Z(s cl:Nat)(L:List PrP)(hI:StI L)(x:StS)(hx:stOk s L x)(hg:a3k L [112] 0=(⟨[113],1,false,false,0⟩,true)):
  CT Tryz.prog 14 [grA s cl 1 0 [],m0A] (lk (stO s L x)) (fun r o=>r=.tup [.sl none 13 [],.int .i64 13]∧o=lk (stO s L x)):=by
 have hR:=b8o s cl L hI x hx hg
 have hgs:=hx.d
 clear hI hx hg
 have f1:a0d (decide ((2:Int)=1)=false):=rfl
 have f2:a0d (decide ((2:Int)=2)=true):=rfl
 refine b0o _ _ _ (by simp) ?_
 rcases x with _ | ⟨g,cap⟩
 all_goals
  simp only[a1q,a0L,a0f,a0b]at hgs hR ⊢
  simp only[a7t];refine sxFib ?_
  repeat' ((first|exact tt|refine CallO_pure (c0V) ?_|refine c1 (hR) ?_|refine c2 (hR) ?_|refine na fun b=>?_|refine nb fun b hb=>?_|refine iq ?_|(refine jq ?_ ?_<;>intro h h')|refine Two_intro ?_ ?_|exact wZ|fail)<;>try refine sxFib ?_)
  all_goals exact ro_mk (by simp[LeL,lk,r_two,rl_cons,rl_nil,arR,al_agg,al_bool,AV.alias,view,l_all, *]) (a2B _)
end
section
open Go.RowKit Go.Lib
set_option maxRecDepth 100000
theorem putR_own{x:GnC}(h:okG x=true):c1R x.p x.c (b2z x)=0:=(put_law (L:=[])).1.2 (by rw[(okG_parts h).1,own_may h];rfl)
theorem putE_own{x:GnC}(h:okG x=true)(L:List PrP):c1s L x.p x.c (b2z x)=b1U L x:=by
 rw[put_law.2,if_pos (by rw[(okG_parts h).1,own_may h];rfl)];rfl
theorem okN_own{x:GnC}(h:okG x=true){m:Nat}(hm:m<3):okN ((4+m:Nat):Int) x.n=true:=by
 have:=okG_parts h
 simp only[okN,okK,Bool.and_eq_true,decide_eq_true_eq];omega
theorem setN_own{x:GnC}(h:okG x=true){m:Nat}(hm:m<3)(L:List PrP):c1g (a3x L x m) ((4+m:Nat):Int) x.p x.c x.n=a3x L x (m+1):=by
 rw[setN_law.2,if_pos (by rw[(okG_parts h).1,okN_own h hm];rfl)];rfl
theorem setNR_own{x:GnC}(h:okG x=true){m:Nat}(hm:m<3):b3Z ((4+m:Nat):Int) x.p x.c x.n=0:=(setN_law (L:=[])).1.2 (by rw[(okG_parts h).1,okN_own h hm];rfl)
theorem stI_put{L:List PrP}(h:StI L)(k v:List UInt8)(hl:L.length≤999):StI (a7f L k v):=by
 have:=(StN.put (i:=999) ⟨h.rise,h.may,hl⟩ k v)
 exact ⟨this.rise,this.may,this.len⟩
theorem iniA_I{x:GnC}(h:okG x=true){L:List PrP}(hI:StI L)(hl:L.length≤900):StI (b1U L x)∧(b1U L x).length≤L.length+1:=by
 have e:=putE_own h L
 unfold c1s at e
 rw[enc_own h,if_pos rfl]at e
 rw[← e]
 exact ⟨stI_put hI _ _ (by omega),b0S _ _ _⟩
theorem iniB_I{x:GnC}(h:okG x=true){L:List PrP}(hI:StI L)(hl:L.length≤900):∀ {m:Nat},m≤3→StI (a3x L x m)∧(a3x L x m).length≤L.length+m
 | 0,_=>⟨hI,Nat.le_refl _⟩
 | m+1,hm=>by
  obtain ⟨h1,h2⟩:=iniB_I h hI hl (m:=m) (by omega)
  have e:=setN_own h (m:=m) (by omega) L
  unfold c1g at e
  rw[if_pos (okN_own h (by omega))]at e
  rw[← e]
  have h3:=b0S (a3x L x m) (ofP ((4+m:Nat):Int) x.p x.c 0) (pn x.n)
  exact ⟨stI_put h1 _ _ (by omega),by omega⟩
theorem sxIno{A B:Prop}(h:B)(e:A=B:=by (simp (disch:=omega) only[*, ↓Ed,Eu, ↓reduceIte,reduceCtorEq,Nat.reduceAdd,Nat.reduceEqDiff,Nat.reduceLT,Nat.reduceLeDiff,Int.reduceToNat,Int.reduceEq,Int.reduceLT,Int.reduceLE,w64,a1B,a1A,GnC.cs];first|done|rfl)):A:=e▸h
set_option maxHeartbeats 8000000 in
theorem c1l(s:Nat)(l:List GnC)(hl:b1x l)(hb:l.length≤20)(hz:b1Q l=0):CT Tryz.prog 26 [.ptr s 0,.sl none 6 (gns l)] (lk (stO s [] none)) (b8j s [] (a1P l l.length) none 0):=by
 have hC:=b7j l hl (by omega)
 rw[hz]at hC
 refine b0l _ _ _ (by simp) ?_
 have g:=good_of hz
 simp (disch:=omega) only[a7s,a0f, ↓Ed,Eu, ↓reduceIte,reduceCtorEq,Nat.reduceAdd,Nat.reduceEqDiff,Nat.reduceLT,Nat.reduceLeDiff,Int.reduceToNat,Int.reduceEq,Int.reduceLT,Int.reduceLE,w64,a1B,a1A,GnC.cs]
 repeat' ((first|exact tt|refine CallO_pure (hC) ?_|refine na fun b=>?_|refine nb fun b hb=>?_|refine iq ?_|(refine jq ?_ ?_<;>intro h h')|refine Two_intro ?_ ?_|exact wZ|fail)<;>try refine sxIno ?_)
 clear hC hz
 refine wpx_loop (fun q:Nat × StS=>⟨lk [(0,.ptr s 0),(14,.sl none 6 (gns l)),(15,.int .i64 l.length),(16,.int .i64 (q.1:Int))],lk (stO s (a1P l q.1) q.2)⟩) (fun q=>q.1≤l.length∧stOk s (a1P l q.1) q.2) (fun q=>l.length - q.1) (0,none) ⟨by simp,rfl⟩ (Le_lit (by simp[LeL,lk,a0f,a1P])) ?_
 rintro ⟨i,x⟩ ⟨i1,hx⟩
 simp only at i1 hx
 by_cases hil:i<l.length
 rotate_left
 ·obtain rfl:i=l.length:=by omega
  have f1:a0d (decide ((l.length:Int)<l.length)=false):=fo
  rcases x with _ | ⟨g,cap⟩
  ·simp (disch:=omega) only[a0f, ↓Ed,Eu, ↓reduceIte,reduceCtorEq,Nat.reduceAdd,Nat.reduceEqDiff,Nat.reduceLT,Nat.reduceLeDiff,Int.reduceToNat,Int.reduceEq,Int.reduceLT,Int.reduceLE,w64,a1B,a1A,GnC.cs]
   repeat' ((first|exact tt|refine na fun b=>?_|refine nb fun b hb=>?_|refine iq ?_|(refine jq ?_ ?_<;>intro h h')|refine Two_intro ?_ ?_|exact wZ|fail)<;>try refine sxIno ?_)
   all_goals exact ro_st (L:=[]) (x:=none) none ⟨hx,fun _=>rfl⟩ (by simp[a1a,arR,lk]) (by simp[*,LeL,lk,a0f,ov_cons,ov_nil,del_cons,del_nil])
  ·have hgs:=hx.1
   simp (disch:=omega) only[a0b, ↓Ed,Eu, ↓reduceIte,reduceCtorEq,Nat.reduceAdd,Nat.reduceEqDiff,Nat.reduceLT,Nat.reduceLeDiff,Int.reduceToNat,Int.reduceEq,Int.reduceLT,Int.reduceLE,w64,a1B,a1A,GnC.cs]
   repeat' ((first|exact tt|refine na fun b=>?_|refine nb fun b hb=>?_|refine iq ?_|(refine jq ?_ ?_<;>intro h h')|refine Two_intro ?_ ?_|exact wZ|fail)<;>try refine sxIno ?_)
   all_goals exact ro_st (L:=[]) (x:=none) (some (g,cap)) ⟨hx,fun h=>by cases h⟩ (by simp[a1a,arR,lk]) (by simp[*,LeL,lk,a0f,a0b,ov_cons,ov_nil,del_cons,del_nil])
 have f1:a0d (decide ((i:Int)<l.length)=true):=fo
 have ok:=g.ok i hil
 have hli:=hl i hil
 have hI:=ini_N g (i:=i) (by omega)
 have hll:(a1P l i).length≤900:=by rw[ini_len g (by omega)];omega
 have hs1:a1P l (i+1)=a3x (b1U (a1P l i) (l.getD i default)) (l.getD i default) 3:=rfl
 have hA:=iniA_I ok hI hll
 have hB:=fun m (hm:m≤3)=>(iniB_I ok hA.1 (by have:=hA.2;have:=ini_len g (i:=i) (by omega);have:=g.len;omega) hm).1
 have hP:=c1Y s (a1P l i) hI (l.getD i default).p (l.getD i default).c (by omega) (b2z (l.getD i default)) (by simp only[b2z];omega) x hx
 rw[putE_own ok,putR_own ok]at hP
 have hSN:=fun m (hm:m<3)=>setN_own ok hm (b1U (a1P l i) (l.getD i default))
 have hSR:=fun m (hm:m<3)=>setNR_own ok hm
 have iniA_ne:∀ (_ _:Unit), ¬ stOk s (b1U (a1P l i) (l.getD i default)) none:=by
  intro _ _ h
  have h':b1U (a1P l i) (l.getD i default)=[]:=h
  have:=b2L (a1P l i) (ofP 7 (l.getD i default).p (l.getD i default).c 0) (a4H (b2z (l.getD i default))).1
  unfold b1U at h'
  rw[h']at this;cases this
 obtain ⟨y,hy⟩:∃ y,l.getD i default=y:=⟨_,rfl⟩
 rw[hy]at hs1 hB hP hSN hSR iniA_ne hli
 obtain ⟨hp,hq⟩:=hli
 clear ok hI hll hA g
 generalize hL3:a1P l (i+1)=L3 at *
 generalize a1P l i=L0 at *
 generalize b1U L0 y=L1 at *
 obtain ⟨p,c,q',d,o,n⟩:=y
 simp only[b2z]at hp hq hP hSN hSR
 have hS:=hP
 clear hP
 rcases x with _ | ⟨g,cap⟩
 ·simp only[a0f]at hS ⊢
  refine sxIno ?_
  repeat' ((first|exact tt|((refine c_set0 hS (fun h0=>?_) (fun gb gc hn h2 hc=>?_))<;>(try simp only[ln_cons2,ln_nil,and_true]at hn))|((refine c_set1 hS (fun gc hc=>?_) (fun gb gc hn h2 hc=>?_))<;>(try simp only[ln_cons2,ln_nil,and_true]at hn))|refine na fun b=>?_|refine nb fun b hb=>?_|refine iq ?_|(refine jq ?_ ?_<;>intro h h')|refine Two_intro ?_ ?_|exact wZ|fail)<;>try refine sxIno ?_)
  all_goals first
  | (exfalso;exact iniA_ne () () h0)
  | refine wpx_loop (fun q:Nat × Nat × Nat=>⟨lk [(0,.ptr s 0),(7,.ptr b 0),(8,.int .i64 ((4+q.1:Nat):Int)),(14,.sl none 6 (gns l)),(15,.int .i64 l.length),(16,.int .i64 (i:Int))],lk ((b,[.str p,.int .i64 c,.str q',.int .i64 d,.bool o,.int .i64 n])::stO s (a3x L1 ⟨p,c,q',d,o,n⟩ q.1) (some (q.2.1,q.2.2)))⟩) (fun q=>q.1≤3∧stOk s (a3x L1 ⟨p,c,q',d,o,n⟩ q.1) (some (q.2.1,q.2.2))∧(¬ q.2.1=b∧¬ b=q.2.1)) (fun q=>3 - q.1) (0,gb,gc) ⟨by simp,⟨h2,hc⟩,by simp[*]⟩ (Le_lit (by first|(simp[LeL,lk,a0b,a3x, *];done)|fail)) ?_
  | refine wpx_loop (fun q:Nat × Nat × Nat=>⟨lk [(0,.ptr s 0),(7,.ptr b 0),(8,.int .i64 ((4+q.1:Nat):Int)),(14,.sl none 6 (gns l)),(15,.int .i64 l.length),(16,.int .i64 (i:Int))],lk ((b,[.str p,.int .i64 c,.str q',.int .i64 d,.bool o,.int .i64 n])::stO s (a3x L1 ⟨p,c,q',d,o,n⟩ q.1) (some (q.2.1,q.2.2)))⟩) (fun q=>q.1≤3∧stOk s (a3x L1 ⟨p,c,q',d,o,n⟩ q.1) (some (q.2.1,q.2.2))∧(¬ q.2.1=b∧¬ b=q.2.1)) (fun q=>3 - q.1) (0,g,gc) ⟨by simp,⟨hgs,hc⟩,by simp[*]⟩ (Le_lit (by first|(simp[LeL,lk,a0b,a3x, *];done)|fail)) ?_
  all_goals
   clear hS
   rintro ⟨m,g1,c1⟩ ⟨m1,hx1,hd⟩
   simp only at m1 hx1 hd
   have hIB:=hB m m1
   have hN:=b0O ((4+m:Nat):Int)
   by_cases hm3:m<3
   ·have hk:okK ((4+m:Nat):Int)=true:=by simp only[okK,Bool.and_eq_true,decide_eq_true_eq];omega
    rw[hk]at hN
    have hS:=a6C s (a3x L1 ⟨p,c,q',d,o,n⟩ m) hIB ((4+m:Nat):Int) p c (by omega) n (some (g1,c1)) hx1
    rw[hSN m hm3,hSR m hm3]at hS
    clear hIB hB hSN hSR hk
    generalize hL4:a3x L1 ⟨p,c,q',d,o,n⟩ (m+1)=L4 at *
    generalize a3x L1 ⟨p,c,q',d,o,n⟩ m=L5 at *
    have hg1:=hx1.1
    have e4:((4+m:Nat):Int)+1=((4+(m+1):Nat):Int):=by omega
    generalize hkk:((4+m:Nat):Int)=kk at *
    simp only[a0b]at hS ⊢
    refine sxIno ?_
    repeat' ((first|exact tt|refine CallO_pure (hN) ?_|((refine c_set0 hS (fun h0=>?_) (fun gb gc hn h2 hc=>?_))<;>(try simp only[ln_cons2,ln_nil,and_true]at hn))|((refine c_set1 hS (fun gc hc=>?_) (fun gb gc hn h2 hc=>?_))<;>(try simp only[ln_cons2,ln_nil,and_true]at hn))|refine na fun b=>?_|refine nb fun b hb=>?_|refine iq ?_|(refine jq ?_ ?_<;>intro h h')|refine Two_intro ?_ ?_|exact wZ|fail)<;>try refine sxIno ?_)
    all_goals first
    | exact Round_lit (m+1,gb,gc) ⟨Le_lit (by first|(simp[LeL,lk,a0b, *];done)|fail),⟨by simp only;omega,by simp only[hL4];exact ⟨h2,hc⟩,by simp[*]⟩,by simp only;omega⟩
    | exact Round_lit (m+1,g1,gc) ⟨Le_lit (by first|(simp[LeL,lk,a0b, *];done)|fail),⟨by simp only;omega,by simp only[hL4];exact ⟨hg1,hc⟩,by simp[*]⟩,by simp only;omega⟩
   ·obtain rfl:m=3:=by omega
    have hk:okK ((4+3:Nat):Int)=false:=rfl
    rw[hk]at hN
    clear hIB hB hSN hSR hk
    simp only[a0b]
    rw[← hs1]at hx1 ⊢
    have hg1:=hx1.1
    clear hs1
    simp (disch:=omega) only[a0b, ↓Ed,Eu, ↓reduceIte,reduceCtorEq,Nat.reduceAdd,Nat.reduceEqDiff,Nat.reduceLT,Nat.reduceLeDiff,Int.reduceToNat,Int.reduceEq,Int.reduceLT,Int.reduceLE,w64,a1B,a1A,GnC.cs]
    repeat' ((first|exact tt|refine CallO_pure (hN) ?_|refine na fun b=>?_|refine nb fun b hb=>?_|refine iq ?_|(refine jq ?_ ?_<;>intro h h')|refine Two_intro ?_ ?_|exact wZ|fail)<;>try refine sxIno ?_)
    all_goals exact Round_lit (i+1,some (g1,c1)) ⟨Le_lit (by first|(simp[LeL,lk,a0b, *];done)|fail),⟨hil,by simp only[hL3];exact hx1⟩,by simp only;omega⟩
 ·have hgs:=hx.1
  simp only[a0b]at hS ⊢
  refine sxIno ?_
  repeat' ((first|exact tt|((refine c_set0 hS (fun h0=>?_) (fun gb gc hn h2 hc=>?_))<;>(try simp only[ln_cons2,ln_nil,and_true]at hn))|((refine c_set1 hS (fun gc hc=>?_) (fun gb gc hn h2 hc=>?_))<;>(try simp only[ln_cons2,ln_nil,and_true]at hn))|refine na fun b=>?_|refine nb fun b hb=>?_|refine iq ?_|(refine jq ?_ ?_<;>intro h h')|refine Two_intro ?_ ?_|exact wZ|fail)<;>try refine sxIno ?_)
  all_goals first
  | (exfalso;exact iniA_ne () () h0)
  | refine wpx_loop (fun q:Nat × Nat × Nat=>⟨lk [(0,.ptr s 0),(7,.ptr b 0),(8,.int .i64 ((4+q.1:Nat):Int)),(14,.sl none 6 (gns l)),(15,.int .i64 l.length),(16,.int .i64 (i:Int))],lk ((b,[.str p,.int .i64 c,.str q',.int .i64 d,.bool o,.int .i64 n])::stO s (a3x L1 ⟨p,c,q',d,o,n⟩ q.1) (some (q.2.1,q.2.2)))⟩) (fun q=>q.1≤3∧stOk s (a3x L1 ⟨p,c,q',d,o,n⟩ q.1) (some (q.2.1,q.2.2))∧(¬ q.2.1=b∧¬ b=q.2.1)) (fun q=>3 - q.1) (0,gb,gc) ⟨by simp,⟨h2,hc⟩,by simp[*]⟩ (Le_lit (by first|(simp[LeL,lk,a0b,a3x, *];done)|fail)) ?_
  | refine wpx_loop (fun q:Nat × Nat × Nat=>⟨lk [(0,.ptr s 0),(7,.ptr b 0),(8,.int .i64 ((4+q.1:Nat):Int)),(14,.sl none 6 (gns l)),(15,.int .i64 l.length),(16,.int .i64 (i:Int))],lk ((b,[.str p,.int .i64 c,.str q',.int .i64 d,.bool o,.int .i64 n])::stO s (a3x L1 ⟨p,c,q',d,o,n⟩ q.1) (some (q.2.1,q.2.2)))⟩) (fun q=>q.1≤3∧stOk s (a3x L1 ⟨p,c,q',d,o,n⟩ q.1) (some (q.2.1,q.2.2))∧(¬ q.2.1=b∧¬ b=q.2.1)) (fun q=>3 - q.1) (0,g,gc) ⟨by simp,⟨hgs,hc⟩,by simp[*]⟩ (Le_lit (by first|(simp[LeL,lk,a0b,a3x, *];done)|fail)) ?_
  all_goals
   clear hS
   rintro ⟨m,g1,c1⟩ ⟨m1,hx1,hd⟩
   simp only at m1 hx1 hd
   have hIB:=hB m m1
   have hN:=b0O ((4+m:Nat):Int)
   by_cases hm3:m<3
   ·have hk:okK ((4+m:Nat):Int)=true:=by simp only[okK,Bool.and_eq_true,decide_eq_true_eq];omega
    rw[hk]at hN
    have hS:=a6C s (a3x L1 ⟨p,c,q',d,o,n⟩ m) hIB ((4+m:Nat):Int) p c (by omega) n (some (g1,c1)) hx1
    rw[hSN m hm3,hSR m hm3]at hS
    clear hIB hB hSN hSR hk
    generalize hL4:a3x L1 ⟨p,c,q',d,o,n⟩ (m+1)=L4 at *
    generalize a3x L1 ⟨p,c,q',d,o,n⟩ m=L5 at *
    have hg1:=hx1.1
    have e4:((4+m:Nat):Int)+1=((4+(m+1):Nat):Int):=by omega
    generalize hkk:((4+m:Nat):Int)=kk at *
    simp only[a0b]at hS ⊢
    refine sxIno ?_
    repeat' ((first|exact tt|refine CallO_pure (hN) ?_|((refine c_set0 hS (fun h0=>?_) (fun gb gc hn h2 hc=>?_))<;>(try simp only[ln_cons2,ln_nil,and_true]at hn))|((refine c_set1 hS (fun gc hc=>?_) (fun gb gc hn h2 hc=>?_))<;>(try simp only[ln_cons2,ln_nil,and_true]at hn))|refine na fun b=>?_|refine nb fun b hb=>?_|refine iq ?_|(refine jq ?_ ?_<;>intro h h')|refine Two_intro ?_ ?_|exact wZ|fail)<;>try refine sxIno ?_)
    all_goals first
    | exact Round_lit (m+1,gb,gc) ⟨Le_lit (by first|(simp[LeL,lk,a0b, *];done)|fail),⟨by simp only;omega,by simp only[hL4];exact ⟨h2,hc⟩,by simp[*]⟩,by simp only;omega⟩
    | exact Round_lit (m+1,g1,gc) ⟨Le_lit (by first|(simp[LeL,lk,a0b, *];done)|fail),⟨by simp only;omega,by simp only[hL4];exact ⟨hg1,hc⟩,by simp[*]⟩,by simp only;omega⟩
   ·obtain rfl:m=3:=by omega
    have hk:okK ((4+3:Nat):Int)=false:=rfl
    rw[hk]at hN
    clear hIB hB hSN hSR hk
    simp only[a0b]
    rw[← hs1]at hx1 ⊢
    have hg1:=hx1.1
    clear hs1
    simp (disch:=omega) only[a0b, ↓Ed,Eu, ↓reduceIte,reduceCtorEq,Nat.reduceAdd,Nat.reduceEqDiff,Nat.reduceLT,Nat.reduceLeDiff,Int.reduceToNat,Int.reduceEq,Int.reduceLT,Int.reduceLE,w64,a1B,a1A,GnC.cs]
    repeat' ((first|exact tt|refine CallO_pure (hN) ?_|refine na fun b=>?_|refine nb fun b hb=>?_|refine iq ?_|(refine jq ?_ ?_<;>intro h h')|refine Two_intro ?_ ?_|exact wZ|fail)<;>try refine sxIno ?_)
    all_goals exact Round_lit (i+1,some (g1,c1)) ⟨Le_lit (by first|(simp[LeL,lk,a0b, *];done)|fail),⟨hil,by simp only[hL3];exact hx1⟩,by simp only;omega⟩
end
section
open Go.RowKit
def Wk(a a':AV):Prop:=∀ (W:World) (U:Nat→Nat→Prop) (v:Value),VR W U v a→VR W U v a'
theorem Wk.rfl{a:AV}:Wk a a:=fun _ _ _ h=>h
theorem c1n(e sz:Nat):Wk (.nils e sz) (.sl none sz []):=fun _ _ _ h=>h.alias
def Wks:List AV→List AV→Prop
 | [],[]=>True
 | a::l,a'::l'=>Wk a a'∧Wks l l'
 | _,_=>False
theorem b5X:∀ {l l':List AV},Wks l l'→l.length=l'.length∧∀ (i:Nat) (c d:AV),l[i]?=some c→l'[i]?=some d→Wk c d
 | [],[],_=>⟨by simp,fun i c d h=>by simp at h⟩
 | a::l,a'::l',h=>by
  obtain ⟨h1,h2⟩:=b5X h.2
  refine ⟨by simp[h1],fun i c d hc hd=>?_⟩
  cases i with
  | zero=>simp at hc hd;subst hc hd;exact h.1
  | succ i=>exact h2 i c d (by simpa using hc) (by simpa using hd)
 | [],_::_,h=>h.elim
 | _::_,[],h=>h.elim
theorem wk_agg{cs ds:List AV}(h:Wks cs ds):Wk (.agg cs) (.agg ds):=by
 obtain ⟨h1,h2⟩:=b5X h
 intro W U v hv
 cases hv with
 | agg vs _ hl h' h3=>
  refine .agg vs ds (by omega) (fun i u d hu hd=>?_) h3
  have hi:i<cs.length:=by have:=(List.getElem?_eq_some_iff.1 hd).1;omega
  exact h2 i _ d (List.getElem?_eq_getElem hi) hd W U u (h' i u _ hu (List.getElem?_eq_getElem hi))
end
section
open Go.RowKit
set_option maxRecDepth 100000
theorem CT_wk{P:Program}{f:Nat}{xs xs':List AV}{o:Nat→Option (List AV)}{Q:AV→(Nat→Option (List AV))→Prop}(h:Wks xs xs')(hc:CT P f xs' o Q):CT P f xs o Q:=by
 obtain ⟨h1,h2⟩:=b5X h
 intro W U vs hG hl hv
 refine hc W U vs (by omega) (fun i v c hvi hci=>?_) hv
 have hi:i<xs.length:=by have:=(List.getElem?_eq_some_iff.1 hci).1;omega
 exact h2 i _ c (List.getElem?_eq_getElem hi) hci W U v (hl i v _ hvi (List.getElem?_eq_getElem hi))
theorem c2b(s cl:Nat)(xs:List AV):Wks (.agg [.ptr s 0,.ptr cl 0,.int .i64 1,.int .i64 0,.nils 31 34]::xs) (grA s cl 1 0 []::xs):=by
 refine ⟨wk_agg ⟨Wk.rfl,Wk.rfl,Wk.rfl,Wk.rfl,c1n _ _,trivial⟩, ?_⟩
 induction xs with
 | nil=>trivial
 | cons a l ih=>exact ⟨Wk.rfl,ih⟩
abbrev g0:GnC:=⟨[112],0,[113],1,false,1⟩
theorem ok0:okG g0=true:=by simp[okG,mp0,mp1]
theorem c2G:b1Q [g0]=0:=by simp[b1Q,a7I,ok0]
theorem c0x:StB (a1P [g0] 1) 4∧a1P [g0] 1≠[]∧a3k (a1P [g0] 1) [112] 0=(⟨[113],1,false,false,0⟩,true)∧a5w (a1P [g0] 1) 4 [112] 0=1:=by
 have g:=good_of c2G
 have hl:=ini_len g (i:=1) (by simp)
 refine ⟨⟨ini_N g (by simp),by omega⟩,fun e=>by rw[e]at hl;simp at hl,ini_get g (i:=1) (j:=0) (by simp) (by omega),ini_next g (i:=1) (j:=0) (by simp) (by omega) (w:=4) (by omega)⟩
abbrev q0:PktC:=⟨[112],0,[113],1,1,[120],3,0⟩
theorem c0k:a6h q0=true:=by simp[a6h,mp0,mp1]
theorem fst_send{L:List PrP}{n:Nat}(hB:StB L n)(hn:n≤900)(hg:a3k L [112] 0=(⟨[113],1,false,false,0⟩,true))(hx:a5w L 4 [112] 0=1):
  a4l L [112] 0 [120] 3 0=0∧a1u L [112] 0 [120] 3 0=q0∧a3k (a5M L q0) [112] 0=(⟨[113],1,false,false,0⟩,true):=by
 have hp:a1u L [112] 0 [120] 3 0=q0:=by unfold a1u;rw[hg,hx]
 refine ⟨?_,hp, ?_⟩
 ·unfold a4l
  rw[hp,hg,hx,c0k]
  simp
 ·have k7:=vBase (k:=7) (by omega) mp0
  have k4:=vBase (k:=4) (by omega) mp0
  have k1:=vNum (k:=1) (q:=1) (by omega) mp0 (by omega)
  unfold a5M
  have hr:=setS_rise hB.I.rise (ofP 4 [112] 0 0) (pn (1+1))
  rw[getE_old hr (k7.ne k1 (by omega)),getE_old hB.I.rise (k7.ne k4 (by omega)),hg]
theorem sxFic{A B:Prop}(h:B)(e:A=B:=by (simp (disch:=omega) only[*, ↓Ed,Eu, ↓reduceIte,reduceCtorEq,Nat.reduceAdd,Nat.reduceEqDiff,Nat.reduceLT,Nat.reduceLeDiff,Int.reduceToNat,Int.reduceEq,Int.reduceLT,Int.reduceLE,w64,List.length_append,List.length_map,List.length_cons,List.length_nil,Int.reduceAdd,Nat.zero_add,Nat.mul_one,decide_true,Bool.true_and,eqC_i,eqC_s,eqC_nil,oand_some];first|done|rfl)):A:=e▸h
set_option maxHeartbeats 8000000 in
theorem b4Y:CP Tryz.prog 8 [] (.bool true):=by
 obtain ⟨hB,hne,hg,hx⟩:=c0x
 obtain ⟨hS,hq,hg2⟩:=fst_send hB (by omega) hg hx
 have hIn:=fun s=>c1l s [g0] (fun i hi=>by (obtain rfl:i=0:=by simpa using hi);exact ⟨by simp,by simp⟩) (by simp) c2G
 change ∀ s,CT _ _ [_,.sl none 6 [[.str [112],.int .i64 0,.str [113],.int .i64 1,.bool false,.int .i64 1]]] (lk [(s,[.nils 115 2])]) (b8j s [] (a1P [g0] 1) none 0) at hIn
 have hSd:=fun s cl x hx=>b3J s cl (a1P [g0] 1) 4 hB (by omega) [112] 0 [120] 3 0 1 0 [] (by simp) (by simp) x hx hS
 rw[hq]at hSd
 have hB2:StB (a5M (a1P [g0] 1) q0) (4+2):=send_B hB (by omega) c0k
 have hD:=fun s cl x hx=>c1Z s cl (a5M (a1P [g0] 1) q0) hB2.I x hx hg2
 clear hB hg hx hS hq hB2 hg2
 have e1:q0.cs=[.str [112],.int .i64 0,.str [113],.int .i64 1,.int .i64 1,.str [120],.int .i64 3,.int .i64 0]:=rfl
 have e2:(ofK 1 q0).cs=[.int .i64 1,.str [112],.int .i64 0,.str [113],.int .i64 1,.int .i64 1,.str [120],.int .i64 3,.int .i64 0,.str [],.str [],.int .i64 0,.int .i64 0]:=rfl
 rw[e1,e2]at hSd
 clear e1 e2
 generalize a5M (a1P [g0] 1) q0=L2 at *
 generalize a1P [g0] 1=L1 at *
 have hS2:=fun s cl g cap (a1:¬ g=s∧¬ s=g) (a2:L1.length≤cap)=>CT_wk (c2b s cl _) (hSd s cl (some (g,cap)) ⟨a1,a2⟩)
 have hD2:=fun s cl g cap (a1:¬ g=s∧¬ s=g) (a2:L2.length≤cap)=>CT_wk (c2b s cl _) (hD s cl (some (g,cap)) ⟨a1,a2⟩)
 simp only[a0b]at hS2 hD2
 clear hSd hD
 have f9:a0d (decide (((1:Nat):Int)=1)=true):=rfl
 refine a6o _ _ (by simp) ?_
 simp only[a2X];refine sxFic ?_
 repeat' ((first|exact tt|refine CallO_new (c0n) ?_|(refine' CallO_new2 (o1:=[]) (o2:=[]) (c1V) (fun _ _ h=>by simp[lk]at h) (fun _ _=>rfl) (NewB2_intro (fun c m hc hm hcm hmc=>?_));simp only[ln_cons2,ln_nil,and_true]at hc hm)|((refine c_set0 (hIn _) (fun h0=>absurd h0 hne) (fun gb gc hn h2 hc=>?_))<;>(try simp only[ln_cons2,ln_nil,and_true]at hn))|((refine c_sendS (hS2 _ _ gb _ h2 hc) (fun k2 e2=>?_) (fun ge k2 cs f5 f6 f7 e2=>?_) h2)<;>(try simp only[ln_cons2,ln_nil,and_true]at f5))|refine c2 ((hD2 _ _ gb _ h2 e2)) ?_|refine c2 ((hD2 _ _ ge _ f6 e2)) ?_|refine na fun b=>?_|refine nb fun b hb=>?_|refine iq ?_|(refine jq ?_ ?_<;>intro h h')|refine Two_intro ?_ ?_|exact wZ|fail)<;>try refine sxFic ?_)
end
section
abbrev EdC.cs(x:EdC):List AV:=[.str x.p,.int .i64 x.c]
abbrev PrP.cs(x:PrP):List AV:=[.str x.1,.str x.2]
end
section
open Go.RowKit Go.WideShapes Go.ChangeShapes

def chainB(P:Program):Nat→List Field→Option Nat
 | a,[]=>some a
 | a,f::fs=>if f.offset=a then chainB P (a+P.cellsOf f.type) fs else none
def a7M(P:Program):Nat→TypeId→Bool
 | 0,_=>false
 | n+1,t=>match P.underlying t with
  | some .bool=>true
  | some (.int _)=>true
  | some .string=>true
  | some (.struct fs)=>decide (chainB P 0 fs.toList=some (P.cellsOf t))&&fs.toList.all fun f=>a7M P n f.type
  | some (.slice e)=>decide (0<P.cellsOf e)&&a7M P n e
  | some (.array m e)=>decide (P.cellsOf t=m * P.cellsOf e)&&a7M P n e
  | _=>false
def TVF(R:TypeId→List AV→Prop):List Field→List AV→Prop
 | [],l=>l=[]
 | f::fs,l=>∃ p q,R f.type p∧TVF R fs q∧l=p++q
def TV(P:Program):Nat→TypeId→List AV→Prop
 | 0,_,_=>False
 | n+1,t,l=>match P.underlying t with
  | some .bool=>∃ b,l=[.bool b]
  | some (.int k)=>∃ m,l=[.int k m]∧(Lit.int k m).wf=true
  | some .string=>∃ s,l=[.str s]∧s.length≤maxLen
  | some (.struct fs)=>TVF (TV P n) fs.toList l
  | some (.slice e)=>∃ els,l=[.sl none (P.cellsOf e) els]∧els.length≤maxLen∧∀ c∈els,TV P n e c
  | some (.array m e)=>∃ els:List (List AV),l=els.flatten∧els.length=m∧∀ c∈els,TV P n e c
  | _=>False
def TA(P:Program)(n:Nat)(t:TypeId)(a:AV):Prop:=match P.underlying t with
 | some (.struct _)=>∃ l,a=.agg l∧TV P n t l
 | some (.array _ _)=>∃ l,a=.agg l∧TV P n t l
 | _=>TV P n t [a]
def TAs(P:Program)(n:Nat):List TypeId→List AV→Prop
 | [],l=>l=[]
 | t::ts,l=>∃ a q,TA P n t a∧TAs P n ts q∧l=a::q

structure VRs (W:World) (U:Nat→Nat→Prop) (cs:List Value) (l:List AV):Prop where
 len:cs.length=l.length
 vr:∀ (i:Nat) (v:Value) (c:AV),cs[i]?=some v→l[i]?=some c→VR W U v c
 one:∀ v∈cs,v.oneCell'=true
section
variable {W:World} {U:Nat→Nat→Prop}
theorem VRs.nil:VRs W U [] []:=⟨rfl,fun i v c h=>by simp at h,fun v h=>by simp at h⟩
theorem VRs.one1{v:Value}{c:AV}(h:VR W U v c)(h1:v.oneCell'=true):VRs W U [v] [c]:=
 ⟨rfl,fun i v' c' hv hc=>by
  cases i with
  | zero=>simp at hv hc;subst hv;subst hc;exact h
  | succ i=>simp at hv,fun v' hv=>by simp at hv;subst hv;exact h1⟩
theorem VRs.append{a b:List Value}{l m:List AV}(h:VRs W U a l)(g:VRs W U b m):VRs W U (a++b) (l++m):=by
 refine ⟨by simp[h.len,g.len],fun i v c hv hc=>?_,fun v hv=>?_⟩
 ·by_cases hi:i<a.length
  ·rw[List.getElem?_append_left hi]at hv
   rw[List.getElem?_append_left (by have:=h.len;omega)]at hc
   exact h.vr i v c hv hc
  ·rw[List.getElem?_append_right (by omega)]at hv
   rw[List.getElem?_append_right (by have:=h.len;omega), ← h.len]at hc
   exact g.vr _ v c hv hc
 ·rcases List.mem_append.1 hv with hv|hv
  ·exact h.one v hv
  ·exact g.one v hv
end

theorem list_of{α:Type}{R:Nat→α→Prop}:∀ (n:Nat),(∀ i,i<n→∃ a,R i a)→∃ l:List α,l.length=n∧∀ i a,l[i]?=some a→R i a
 | 0,_=>⟨[],rfl,fun i a h=>by simp at h⟩
 | n+1,h=>by
  obtain ⟨l,hl,hr⟩:=list_of n (fun i hi=>h i (by omega))
  obtain ⟨a,ha⟩:=h n (by omega)
  refine ⟨l++[a],by simp[hl],fun i b hb=>?_⟩
  by_cases hi:i<n
  ·rw[List.getElem?_append_left (by omega)]at hb;exact hr i b hb
  ·rw[List.getElem?_append_right (by omega)]at hb
   have hin:i=n:=by
    by_cases h0:i - l.length=0
    ·omega
    ·have:(i - l.length)=(i - l.length - 1)+1:=by omega
     rw[this]at hb;simp at hb
   subst hin
   simp[hl]at hb
   exact hb▸ha

section
variable {H:Type} {enc:TypeId × Value→H} {P:Program} {W:World} {base:Nat} {spare:Nat→Bool} {held:Bool} {U:Nat→Nat→Prop}

theorem open_fields{R:TypeId→List AV→Prop}(cs:List Value):
  ∀ (fs:List Field) (a tot:Nat),chainB P a fs=some tot→cs.length=tot→(∀ f∈fs, ∃ p,R f.type p∧VRs W U ((cs.drop f.offset).take (P.cellsOf f.type)) p )→
   ∃ l,TVF R fs l∧VRs W U (cs.drop a) l
 | [],a,tot,h,hl,_=>by
  simp only[chainB,Option.some.injEq]at h
  subst h
  exact ⟨[],rfl,by rw[List.drop_eq_nil_of_le (by omega)];exact VRs.nil⟩
 | f::fs,a,tot,h,hl,hf=>by
  simp only[chainB]at h
  split at h
  ·rename_i ha
   obtain ⟨p,h1,h2⟩:=hf f (by simp)
   obtain ⟨q,g1,g2⟩:=open_fields cs fs _ tot h hl (fun g hg=>hf g (by simp[hg]))
   refine ⟨p++q,⟨p,q,h1,g1,rfl⟩, ?_⟩
   have e:cs.drop a=(cs.drop a).take (P.cellsOf f.type)++cs.drop (a+P.cellsOf f.type):=by
    rw[← List.drop_drop,List.take_append_drop]
   rw[e]
   rw[ha]at h2
   exact h2.append g2
  ·cases h

theorem open_elems{ce:Nat}:∀ (els:List (List AV)) (cs:List Value),cs.length=els.length * ce→(∀ (i:Nat) (l:List AV),els[i]?=some l→VRs W U ((cs.drop (i * ce)).take ce) l)→VRs W U cs els.flatten
 | [],cs,hl,_=>by
  have:cs=[]:=List.length_eq_zero_iff.1 (by simpa using hl)
  subst this;exact VRs.nil
 | e::els,cs,hl,h=>by
  have h0:=h 0 e rfl
  simp only[Nat.zero_mul,List.drop_zero]at h0
  have hr:=open_elems (ce:=ce) els (cs.drop ce) (by simp only[List.length_cons,Nat.add_mul]at hl;simp;omega) fun i l hi=>by
   have:=h (i+1) l (by simpa using hi)
   rw[Nat.add_mul,Nat.one_mul,Nat.add_comm, ← List.drop_drop]at this
   exact this
  have:=h0.append hr
  rwa [List.take_append_drop]at this

theorem a5L(hU:∀ b o, ¬ U b o):∀ (n:Nat) (t:TypeId) (cs:List Value) (fuel:Nat) (x:DataW H × List MemPlace),a7M P n t=true→DataW.trod enc P W base spare held fuel t cs=some x→
  ∃ l,TV P n t l∧VRs W U cs l
 | 0,t,cs,fuel,x,hf,h=>by simp[a7M]at hf
 | n+1,t,cs,fuel,x,hf,h=>by
  unfold a7M at hf
  unfold TV
  split at hf
  ·rename_i ht
   obtain ⟨b,rfl,_⟩:=DataW.trod_bool ht h
   exact ⟨_,⟨b,rfl⟩,VRs.one1 (.bool b) rfl⟩
  ·rename_i k ht
   obtain ⟨m,rfl,_,hw⟩:=DataW.trod_int ht h
   exact ⟨_,⟨m,rfl,hw⟩,VRs.one1 (.int k m) rfl⟩
  ·rename_i ht
   obtain ⟨s,rfl,_,hs⟩:=DataW.trod_string ht h
   obtain ⟨⟨l⟩⟩:=s
   exact ⟨_,⟨l,rfl,hs⟩,VRs.one1 (.str l) rfl⟩
  ·rename_i fs ht
   simp only[Bool.and_eq_true,decide_eq_true_eq,List.all_eq_true]at hf
   obtain ⟨hch,hall⟩:=hf
   obtain ⟨xs,m,_,_,hlen,hxl,hfi⟩:=DataW.trod_struct ht h
   have:=open_fields (W:=W) (U:=U) (R:=TV P n) cs fs.toList 0 _ hch hlen (fun f hfm=>?_)
   ·simpa using this
   obtain ⟨i,hi,hfe⟩:=List.getElem_of_mem hfm
   have hfi':=hfi i f (by rw[← hfe];simp at hi;simp[hi])
   have hxi:xs[i]?=some (xs[i]'(by simp at hi;omega)):=List.getElem?_eq_getElem _
   rw[hxi]at hfi'
   obtain ⟨p,h1,h2⟩:=a5L hU n f.type _ _ _ (hall f hfm) hfi'
   exact ⟨p,h1,h2⟩
  ·rename_i e ht
   simp only[Bool.and_eq_true,decide_eq_true_eq]at hf
   obtain ⟨hpos,hfe⟩:=hf
   rcases Go.Deep.open_slice ht h with ⟨rfl,_⟩ | ⟨a,len,cap,m,n',D,Pl,rfl,_,hl,hm,hmm,_,hi⟩
   ·refine ⟨_,⟨[],rfl,by simp,by simp⟩,VRs.one1 ?_ rfl⟩
    exact .sl none 0 none [] 0 0 (P.cellsOf e) (fun _ _=>undef) (by simp) (by simp) (by simp) (by simp) (by simp) (by simp)
   ·have hlm:len≤m:=by rw[hmm];split<;>omega
    obtain ⟨els,hel,hr⟩:=list_of (R:=fun i l=>TV P n e l∧∃ cs',W.cells? base (a.add (i * P.cellsOf e)) (P.cellsOf e)=some cs'∧VRs W U cs' l) len (fun i hil=>by
     obtain ⟨cs',hc,ht'⟩:=hi i (by omega)
     obtain ⟨l,h1,h2⟩:=a5L hU n e _ _ _ hfe ht'
     exact ⟨l,h1,cs',hc,h2⟩)
    refine ⟨_,⟨els,rfl,by omega,fun c hc=>?_⟩,VRs.one1 ?_ rfl⟩
    ·obtain ⟨i,hi',rfl⟩:=List.getElem_of_mem hc
     exact (hr i _ (List.getElem?_eq_getElem hi')).1
    ·obtain ⟨b,o,spot⟩:=a
     have hcell:∀ i j,i<els.length→j<P.cellsOf e→∃ v,W.cell? ⟨b,o+i * P.cellsOf e+j,none⟩=some v∧v.oneCell'=true∧(∀ c,(els[i]?.bind (·[j]?))=some c→VR W U v c)∧(0<len→spot=none):=by
      intro i j hi' hj
      obtain ⟨_,cs',hc,hv⟩:=hr i _ (List.getElem?_eq_getElem hi')
      obtain ⟨_,hcl,hat⟩:=World.cells?_some hc
      have hcj:=hat j hj
      have hjl:cs'[j]?=some (cs'[j]'(by omega)):=List.getElem?_eq_getElem _
      rw[hjl]at hcj
      have hsp:0<len→spot=none:=fun h0=>by
       obtain ⟨cs0,hc0,_⟩:=hi 0 (by omega)
       obtain ⟨_,hcl0,hat0⟩:=World.cells?_some hc0
       have:=hat0 0 hpos
       rw[show cs0[0]?=some (cs0[0]'(by omega)) from List.getElem?_eq_getElem _]at this
       have:=World.cell?_spot this
       simpa[Addr.add]using this
      have hs0:=hsp (by omega)
      subst hs0
      have ea:((⟨b,o,none⟩:Addr).add (i * P.cellsOf e)).add j=⟨b,o+i * P.cellsOf e+j,none⟩:=by
       rw[Go.Deep.add_add]
       unfold Addr.add
       split
       ·rename_i h0;first|(simp;done)|(simp;omega)
       ·simp[Nat.add_assoc]
      rw[ea]at hcj
      refine ⟨_,hcj,hv.one _ (List.getElem_mem _),fun c hc'=>?_,hsp⟩
      rw[List.getElem?_eq_getElem hi']at hc'
      exact hv.vr j _ c hjl hc'
     rw[← hel]at hl ⊢
     have hsz:∀ l∈els,l.length=P.cellsOf e:=fun l hl'=>by
      obtain ⟨i,hi',rfl⟩:=List.getElem_of_mem hl'
      obtain ⟨_,cs',hc,hv⟩:=hr i _ (List.getElem?_eq_getElem hi')
      rw[← hv.len]
      exact (World.cells?_some hc).2.1
     refine .sl _ cap none els b o (P.cellsOf e) (fun i j=>(W.cell? ⟨b,o+i * P.cellsOf e+j,none⟩).getD undef) hl hm (fun h0=>?_) hsz (fun i j hi' hj=>?_) (fun i l j c hl' hc=>?_)
     ·obtain ⟨v,_,_,_,hs⟩:=hcell 0 0 h0 hpos
      rw[hs (by omega)]
     ·obtain ⟨v,h1,h2,_⟩:=hcell i j hi' hj
      rw[h1]
      exact ⟨rfl,h2,hU _ _⟩
     ·have hi':i<els.length:=(List.getElem?_eq_some_iff.1 hl').1
      have hj:j<P.cellsOf e:=by rw[← hsz l (List.mem_of_getElem? hl')];exact (List.getElem?_eq_some_iff.1 hc).1
      obtain ⟨v,h1,_,h3,_⟩:=hcell i j hi' hj
      rw[h1]
      exact h3 c (by rw[hl'];exact hc)
  ·rename_i m e ht
   simp only[Bool.and_eq_true,decide_eq_true_eq]at hf
   obtain ⟨hsz,hfe⟩:=hf
   obtain ⟨xs,m',_,_,hlen,hxl,hfi⟩:=DataW.trod_array ht h
   obtain ⟨els,hel,hr⟩:=list_of (R:=fun i l=>TV P n e l∧VRs W U ((cs.drop (i * P.cellsOf e)).take (P.cellsOf e)) l) m (fun i hi=>by
    have h1:=hfi i hi
    rw[show xs[i]?=some (xs[i]'(by omega)) from List.getElem?_eq_getElem _]at h1
    exact a5L hU n e _ _ _ hfe h1)
   refine ⟨_,⟨els,rfl,hel,fun c hc=>?_⟩,open_elems els cs (by rw[hlen,hsz,hel]) fun i l hi=>(hr i l hi).2⟩
   obtain ⟨i,hi',rfl⟩:=List.getElem_of_mem hc
   exact (hr i _ (List.getElem?_eq_getElem hi')).1
  ·cases hf

theorem okWide_array{r:Reach}{b0 m:Nat}{t e:TypeId}{v:Value}(ht:P.underlying t=some (.array m e))(h:Value.okWide P W r b0 t v):∃ cs,v=.agg cs∧cs.size=P.cellsOf t:=by
 unfold Value.okWide at h
 rw[ht]at h
 obtain ⟨cs,h1,h2,_⟩:=h
 exact ⟨cs,h1,h2⟩
theorem b6T(hU:∀ b o, ¬ U b o){r:Reach}{b0 n:Nat}{t:TypeId}{v:Value}{d:DataW H}{ps:List MemPlace}(hf:a7M P n t=true)(hval:Value.okWide P W r b0 t v)(hd:DataW.Trod enc P W base spare held t v d ps):
  ∃ a,TA P n t a∧VR W U v a:=by
 obtain ⟨fuel,hd⟩:=hd
 obtain ⟨l,h1,h2⟩:=a5L (U:=U) hU n t _ _ _ hf hd
 cases n with
 | zero=>simp[a7M]at hf
 | succ n=>
  have key:∀ w:Value,w.cells.toList=[w]→v=w→∀ a,l=[a]→VR W U v a:=fun w hw hv a ha=>by
   subst hv;subst ha
   exact h2.vr 0 v a (by rw[hw];rfl) rfl
  unfold TA
  unfold a7M at hf
  have h1':=h1
  unfold TV at h1
  split at hf
  ·rename_i ht
   rw[ht]at h1 ⊢
   obtain ⟨b,rfl⟩:=h1
   obtain ⟨b',rfl⟩:∃ b',v=.bool b':=by
    simp only[Value.okWide,ht,Cell.okWide]at hval
    cases v<;>simp_all [Cell.ok]
   exact ⟨_,h1',key _ rfl rfl _ rfl⟩
  ·rename_i k ht
   rw[ht]at h1 ⊢
   obtain ⟨m,rfl,_⟩:=h1
   obtain ⟨m',rfl⟩:=okWide_int ht hval
   exact ⟨_,h1',key _ rfl rfl _ rfl⟩
  ·rename_i ht
   rw[ht]at h1 ⊢
   obtain ⟨s,rfl,_⟩:=h1
   obtain ⟨s',rfl⟩:=okWide_string ht hval
   exact ⟨_,h1',key _ rfl rfl _ rfl⟩
  ·rename_i fs ht
   rw[ht]
   obtain ⟨cs,rfl,_⟩:=okWide_struct ht hval
   refine ⟨_,⟨l,rfl,h1'⟩, ?_⟩
   obtain ⟨cs⟩:=cs
   exact .agg cs l h2.len h2.vr h2.one
  ·rename_i e ht
   rw[ht]at h1 ⊢
   obtain ⟨els,rfl,_⟩:=h1
   obtain ⟨a,len,cap,rfl⟩:=okWide_slice ht hval
   exact ⟨_,h1',key _ rfl rfl _ rfl⟩
  ·rename_i m e ht
   rw[ht]
   obtain ⟨cs,rfl,_⟩:=okWide_array ht hval
   refine ⟨_,⟨l,rfl,h1'⟩, ?_⟩
   obtain ⟨cs⟩:=cs
   exact .agg cs l h2.len h2.vr h2.one
  ·cases hf

theorem b1F(hU:∀ b o, ¬ U b o){r:Reach}{b0 n:Nat}:∀ {ts:List TypeId} {vs:List Value} {ds:List (DataW H)} {ps:List MemPlace},(∀ t∈ts,a7M P n t=true)→
  (∀ (j:Nat) t v,ts[j]?=some t→vs[j]?=some v→Value.okWide P W r b0 t v)→DataW.TrodAll enc P W base spare held ts vs ds ps→
  ∃ l,TAs P n ts l∧vs.length=l.length∧∀ (i:Nat) (v:Value) (c:AV),vs[i]?=some v→l[i]?=some c→VR W U v c
 | [],vs,ds,ps,_,_,h=>by
  cases vs with
  | nil=>exact ⟨[],rfl,rfl,fun i v c h=>by simp at h⟩
  | cons v vs=>cases ds<;>exact h.elim
 | t::ts,vs,ds,ps,hf,hval,h=>by
  cases vs with
  | nil=>cases ds<;>exact h.elim
  | cons v vs=>
   cases ds with
   | nil=>exact h.elim
   | cons d ds=>
    obtain ⟨p,q,h1,h2,_⟩:=h
    obtain ⟨a,ha,hv⟩:=b6T (U:=U) hU (hf t (by simp)) (hval 0 t v rfl rfl) h1
    obtain ⟨l,hl,hlen,hvr⟩:=b1F hU (fun t' ht'=>hf t' (by simp[ht'])) (fun j t' v' h3 h4=>hval (j+1) t' v' h3 h4) h2
    refine ⟨a::l,⟨a,l,ha,hl,rfl⟩,by simp[hlen],fun i w c h3 h4=>?_⟩
    cases i with
    | zero=>simp at h3 h4;subst h3;subst h4;exact hv
    | succ i=>exact hvr i w c h3 h4

theorem b1e(hl:laidOutB P=true){W':World}(hb:Below W.heap.size W W'){sp':Nat→Bool}:∀ {ts:List TypeId} {vs:List Value} {ds:List (DataW H)} {ps:List MemPlace},(∀ t∈ts,P.readableRec t=true∧t<P.types.size)→
  DataW.TrodAll enc P W 0 (fun _=>true) true ts vs ds ps→(∀ x∈ps,x.block<W.heap.size)→(∀ x∈ps,sp' x.block=true)→DataW.TrodAll enc P W' 0 sp' true ts vs ds ps
 | [],vs,ds,ps,_,h,_,_=>by cases vs<;>cases ds<;>exact h
 | t::ts,vs,ds,ps,ht,h,hlt,hsp=>by
  cases vs with
  | nil=>cases ds<;>exact h.elim
  | cons v vs=>
   cases ds with
   | nil=>exact h.elim
   | cons d ds=>
    obtain ⟨p,q,h1,h2,rfl⟩:=h
    refine ⟨p,q, ?_,b1e hl hb (fun t' ht'=>ht t' (by simp[ht'])) h2 (fun x hx=>hlt x (by simp[hx])) (fun x hx=>hsp x (by simp[hx])),rfl⟩
    exact WideElems.Trod_stays hl (ht t (by simp)).1 (ht t (by simp)).2 h1 (fun x hx=>hb.same (hlt x (by simp[hx]))) (fun x hx=>hsp x (by simp[hx]))

theorem post_of_below{f:Func}{s:ChangeSpec}{apart fresh handsOn again:Bool}{W W':World}{args:Array Value}{v:Value}{ds gs:List (DataW H)}{before pa pv:List MemPlace}
  (hW:DataW.Whole enc P f.params.toList s.vars apart W args.toList ds gs before)
  (hres:∀ (b:Nat) (sp:Nat→Bool) (hd:Bool),DataW.TrodAll enc P W' b sp hd f.resultTypes.toList (v.resultList f.resultTypes.size) (s.fn H (ds++gs)).results [])
  (hargs:∀ sp:Nat→Bool,(∀ p∈before,sp p.block=true)→DataW.TrodAll enc P W' 0 sp true f.params.toList args.toList (s.fn H (ds++gs)).args pa)
  (hvars:∀ sp:Nat→Bool,(∀ p∈before,sp p.block=true)→DataW.TrodVars enc P W' sp s.vars (s.fn H (ds++gs)).vars pv)
  (hps:before=pa++pv) (hb:Below W.heap.size W W')
  (hok:∀ (j:Nat) (t:TypeId) (r:Value),f.resultTypes[j]?=some t→(v.resultList f.resultTypes.size)[j]?=some r→Value.okWide P W' .any 0 t r):
  s.post enc P f apart fresh handsOn again W args v W':=by
 have hlt:∀ p∈before,p.block<W.heap.size:=fun p hp=>hW.lt p hp
 have hold:∀ p∈before,(fun b=>decide (b<W.heap.size)) p.block=true:=fun p hp=>by simpa using hlt p hp
 refine ⟨ds,gs,before,[],pa,pv,hW,hres _ _ _,hargs _ hold,hvars _ hold,World.keptBut_mono (fun p hp=>⟨hp, ?_⟩) (hb.frame (· ∈ before)),fun _=>?_⟩
 ·rw[hps,List.mem_append]at hp
  exact Or.inr hp
 ·obtain ⟨_,_,_,_,_,hz,hn⟩:=hW
  refine ⟨hok,_,_,([]++pa)++pv,⟨[]++pa,pv,trodAll_append (hargs _ (fun _ _=>rfl)) (hres _ _ _),hvars _ (fun _ _=>rfl),rfl, ?_, ?_⟩, ?_⟩
  ·intro b off hp
   have hin:MemPlace.cell b off∈before:=by rw[hps];simpa using hp
   rw[hb.frozen (hlt _ hin)]
   exact hz b off hin
  ·intro ha
   have:=hn ha
   rw[hps]at this
   simpa using this
  ·intro p hp _
   rw[hps]
   simpa using hp
theorem row_of_CP{f:Func}{N n tb:Nat}{s:ChangeSpec}{args:Array Value}{ds gs:List (DataW H)}{before:List MemPlace}(hl:laidOutB P=true)
  (hread:f.params.toList.all (fun t=>P.readableRec t&&decide (t<P.types.size)&&a7M P n t)=true) (hrt:f.resultTypes = #[tb]) (htb:P.underlying tb=some .bool) (hvars:s.vars=[])
  (hfn:gs=[]→ds.length=f.params.size→(s.fn H (ds++gs)).results=[.lit (.bool true)]∧(s.fn H (ds++gs)).args=ds∧(s.fn H (ds++gs)).vars=[])
  (hval:∀ (j:Nat) t v,f.params[j]?=some t→args[j]?=some v→Value.okWide P W .any base t v)
  (hW:DataW.Whole enc P f.params.toList s.vars false W args.toList ds gs before)
  (hG:Glob W fun _ _=>False) (hCP:∀ l,TAs P n f.params.toList l→CP P N l (.bool true)):
  Calls P N args W fun e W'=>∃ v,e=.returned v∧s.post enc P f false true false false W args v W':=by
 have hW':=hW
 obtain ⟨p,q,hA,hV,rfl,hfz,hnd⟩:=hW
 simp only[List.all_eq_true,Bool.and_eq_true,decide_eq_true_eq]at hread
 have hgs:gs=[]∧q=[]:=by
  rw[hvars]at hV
  cases gs with
  | nil=>exact ⟨rfl,hV⟩
  | cons g gs=>exact hV.elim
 obtain ⟨rfl,rfl⟩:=hgs
 obtain ⟨l,hl1,hl2,hl3⟩:=b1F (U:=fun _ _=>False) (fun _ _ h=>h) (fun t ht=>(hread t ht).2) (fun j t v h1 h2=>hval j t v (by simpa using h1) (by simpa using h2)) hA
 have hds:ds.length=f.params.size:=by
  have:∀ {ts:List TypeId} {vs:List Value} {ds:List (DataW H)} {ps:List MemPlace},DataW.TrodAll enc P W 0 (fun _=>true) true ts vs ds ps→ds.length=ts.length:=by
   intro ts
   induction ts with
   | nil=>intro vs ds ps h;cases vs<;>cases ds<;>first|rfl|exact h.elim
   | cons t ts ih=>
    intro vs ds ps h
    cases vs<;>cases ds<;>first|exact h.elim|skip
    obtain ⟨p,q,_,h2,_⟩:=h
    simp[ih h2]
  simpa using this hA
 obtain ⟨f1,f2,f3⟩:=hfn rfl hds
 have hc:=hCP l hl1 W (fun _ _=>False) args.toList hG hl2 hl3
 have ea:args.toList.toArray=args:=by simp
 rw[ea]at hc
 refine Calls.mono hc fun e W'=>?_
 rintro ⟨v,U',rfl,hv,_,hx⟩
 cases hv
 refine ⟨_,rfl,post_of_below hW' (pa:=p) (pv:=[]) (fun _ _ _=>?_) (fun sp hsp=>?_) (fun _ _=>?_) rfl hx.b ?_⟩
 ·rw[hrt,f1]
  exact trodAll_mk1 (shut_bool htb true)
 ·rw[f2]
  exact b1e hl hx.b (fun t ht=>(hread t ht).1) hA (fun x hx=>hW'.lt x (by simpa using hx)) (fun x hx=>hsp x (by simpa using hx))
 ·rw[hvars,f3];rfl
 ·exact ok_one hrt rfl (okWide_bool_mk htb _)
end
end
section
open Go Go.RowKit
set_option maxRecDepth 100000
section
variable {H:Type} {enc:TypeId × Value→H}
theorem hand_and_shaped{a:Assume}{C:Checked}{os:Os}{f:FuncId}{fn:Func}{s:ChangeSpec}{conds:List PathCond}{apart fresh handsOn again:Bool}{X:World→Array Value→Prop}
  (hX:∀ (w w':World) (args:Array Value),w.heap=w'.heap→X w args→X w' args)
  (own:ownKnob C.prog.godebug=none) (started:os.Started) (noInit:C.prog.inits.idxOf? f=none) (hfn:C.prog.funcs[f]?=some fn)
  (witness:∃ (w:World) (tape:Tape) (i:Input),w.os=os∧(w.forCall tape i).Shaped C.prog∧i.vars=[]∧Input.okWide C.prog (w.forCall tape i) .any w.heap.size f i∧
   ((s.pre enc C.prog fn conds apart (w.forCall tape i).memory i.args∧X (w.forCall tape i).memory i.args)∧sizedMet enc C.prog fn (OpenSpec.ofChange s) apart (w.forCall tape i).memory i.args)∧a.holds C.prog (lone (Frame.enter C.prog f i.args .normal) [] (w.forCall tape i)))
  (contract:∀ (W:World) (base:Nat) (args:Array Value) (ds gs:List (DataW H)) (before:List MemPlace),
   (∀ (j:Nat) t v,fn.params[j]?=some t→args[j]?=some v→Value.okWide C.prog W .any base t v)→
   DataW.Whole enc C.prog fn.params.toList s.vars apart W args.toList ds gs before→
   conds.all (PathCond.test C.prog ⟨fn.params.toList,ds,s.plain.varTypes C.prog,gs⟩)=true→
   (DataW.weightsEach C.prog (fn.params.toList++s.plain.varTypes C.prog) (ds++gs)).all (· ≤ reachBytes)=true→X W args→W.ShapedOpen C.prog→
   a.holds C.prog (lone (Frame.enter C.prog f args .normal) [] W)→
   Calls C.prog f args W fun e W'=>∃ v,e=.returned v∧s.post enc C.prog fn apart fresh handsOn again W args v W'):
  ReturnsInHanded a C os f .any (fun w args=>(s.pre enc C.prog fn conds apart w args∧X w args)∧sizedMet enc C.prog fn (OpenSpec.ofChange s) apart w args) (s.post enc C.prog fn apart fresh handsOn again):=by
 refine returnsInHanded_of_calls own started noInit witness ?_
 intro w tape i _ hsh _ hok hpre hholds
 obtain ⟨_,_,_,fn',hfn',_,_,_,_,hval⟩:=hok
 have e:fn'=fn:=Option.some.inj (hfn'.symm.trans hfn)
 subst e
 obtain ⟨⟨⟨ds,gs,before,hw,hc⟩,hx⟩,hz⟩:=hpre
 have hw':=DataW.Whole.of_heap (w':=w.forCall tape i) (by rfl) hw
 refine (contract (w.forCall tape i) w.heap.size i.args ds gs before hval hw' hc (hz.weights hw) (hX _ _ _ (by rfl) hx) hsh hholds).mono fun e W' ⟨v,he,hp⟩=>?_
 subst he
 exact ChangeSpec.post_blind hp
end
theorem glob_of{W:World}(h:laidMetH Tryz.prog Rows.handleSendsRow.laid W)(hsh:W.ShapedOpen Tryz.prog):Glob W fun _ _=>False:=by
 rw[MakeChecks.laidMetH_plain _ _ _ (by kernel_rfl)]at h
 have h3:laidMet Tryz.prog (("internal/strconv.uint64pow10", Lib.tabData .u64 Lib.pow10Tab)::_) W:=h.tail.tail
 have h4:laidMet Tryz.prog (("lighterman/sha.steps", Lib.tabData .u32 (tabInts.getD 0 default).2.2)::_) W:=h.tail.tail.tail
 have hp:=Lib.tabIs_of_head (g:=2) (t:=303) (e:=210) (n:=20) (by kernel_rfl) (by kernel_rfl) (by kernel_rfl) (by kernel_rfl) (by kernel_rfl) (by kernel_rfl) h3
 have hq:=Lib.tabIs_of_head (g:=1) (t:=213) (e:=211) (n:=64) (by kernel_rfl) (by kernel_rfl) (by kernel_rfl) (by kernel_rfl) (by kernel_rfl) (by kernel_rfl) h4
 intro x hx
 refine ⟨?_,fun _ h=>h⟩
 unfold a3j at hx
 rcases List.mem_append.1 hx with hx|hx
 ·obtain ⟨y,hy,rfl⟩:∃ y∈tabInts,(fun x:Nat × IntKind × List Int=>(x.1,fun cs:Array Value=>cs=(x.2.2.map fun z=>Value.int x.2.1 z).toArray)) y=x:=List.mem_map.1 hx
  obtain rfl:y=tabInts.getD 0 default:=List.mem_singleton.1 hy
  have hg:Tryz.prog.globalNamed "lighterman/sha.steps" = some 1:=by kernel_rfl
  simp only[Lib.TabIs,World.var?,hg,Option.bind_some]at hq
  split at hq
  ·rename_i cs ty fr e
   exact ⟨cs,ty,fr,e,Option.some.inj hq⟩
  ·cases hq
 simp only[List.mem_cons,List.not_mem_nil,or_false]at hx
 rcases hx with rfl|rfl
 ·have hg:Tryz.prog.globalNamed "internal/strconv.uint64pow10" = some 2:=by kernel_rfl
  simp only[Lib.TabIs,World.var?,hg,Option.bind_some]at hp
  split at hp
  ·rename_i cs ty fr e
   exact ⟨cs,ty,fr,e,Option.some.inj hp⟩
  ·cases hp
 ·obtain ⟨m,hm⟩:=Go.Proofs.cell_of_shapedOpen_int (g:=0) (zero := #[.int .i64 0]) (t:=3) hsh (of_decide_eq_true (by kernel_rfl)) (by kernel_rfl) rfl (by kernel_rfl) (by kernel_rfl) Tryz.underlying3
  unfold World.cell? at hm
  split at hm
  ·rename_i cs ty fr e
   exact ⟨cs,ty,fr,e,m,by simpa using hm⟩
  ·cases hm
end
end Go.Proofs.YtfgihnhoocnmdaaGreatDoor
