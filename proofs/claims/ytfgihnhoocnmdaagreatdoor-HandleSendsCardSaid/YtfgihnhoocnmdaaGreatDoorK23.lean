import Derived.Test.YtfgihnhoocnmdaaGreatDoorK22
import Derived.Test.YtfgihnhoocnmdaaGreatDoorK16
import Derived.Test.YtfgihnhoocnmdaaGreatDoorK20
import Derived.Test.YtfgihnhoocnmdaaGreatDoorK19
namespace Go.Proofs.YtfgihnhoocnmdaaGreatDoor
set_option linter.all false
set_option maxHeartbeats 9000000
section
open Go.RowKit Go.Lib
set_option maxRecDepth 100000
def b3g(l:List Nat):StS→Prop
 | none=>True
 | some (g,_)=>∀ b∈l, ¬ g=b∧¬ b=g
theorem b6R(l:List Nat):b3g l none:=trivial
theorem off_some{l:List Nat}{g cap:Nat}(h:∀ b∈l, ¬ g=b∧¬ b=g):b3g l (some (g,cap)):=h
abbrev c2l(L:List PrP)(K:List HdC)(ht tm:Int):AV→(Nat→Option (List AV))→Prop:=fun r o=>∃ s c m x,(stOk s L x∧b3g [c,m] x∧(¬ c=s∧¬ s=c)∧(¬ m=s∧¬ s=m)∧(¬ c=m∧¬ m=c))∧r=.tup [.agg [.ptr s 0,.ptr c 0,.int .i64 ht,.int .i64 tm,.sl none 34 []],.bool true]∧o=lk (stO s L x++b3M c m K)
theorem ro_own{st:St}{rs:List AR}{L:List PrP}{K:List HdC}{ht tm:Int}(s c m:Nat)(x:StS)(hy:stOk s L x∧b3g [c,m] x∧(¬ c=s∧¬ s=c)∧(¬ m=s∧¬ s=m)∧(¬ c=m∧¬ m=c))
  (h:a1a st rs (.tup [.agg [.ptr s 0,.ptr c 0,.int .i64 ht,.int .i64 tm,.sl none 34 []],.bool true])) (ho:LeL (stO s L x++b3M c m K) st.o):b0U st rs (lk []) (c2l L K ht tm):=
 ⟨_,h,_,LeL_ok ho,fun b cs hb=>by simp[lk]at hb,s,c,m,x,hy,rfl,rfl⟩
theorem sxHsg{A B:Prop}(h:B)(e:A=B:=by (simp (disch:=omega) only[*, ↓Ed,Eu, ↓reduceIte,reduceCtorEq,Nat.reduceAdd,Nat.reduceEqDiff,Nat.reduceLT,Nat.reduceLeDiff,Int.reduceToNat,Int.reduceEq,Int.reduceLT,Int.reduceLE,w64,List.length_append,List.length_map,Nat.mul_one,a0w,a1g,HdC.cs,gdH,a0F,a0M,a0J,a3O,a1Q,a0E,a5q,a5t,Int.reduceAdd];first|done|rfl)):A:=e▸h
set_option maxHeartbeats 8000000 in
theorem c2y(L:List PrP)(K:List HdC)(ht tm:Int)(hL:StB L 400){n:Nat}(hK:KnI K n)(hn:n≤100):CT Tryz.prog 12 [.agg [.sl none 2 (prR L),.sl none 34 (hds K),.int .i64 ht,.int .i64 tm,.nils 31 34]] (lk []) (c2l L K ht tm):=by
 refine a7i _ _ _ (by simp) ?_
 simp only[a4r];refine sxHsg ?_
 repeat' ((first|exact tt|refine CallO_new (c0n) ?_|(refine' CallO_new2 (o1:=[]) (o2:=[]) (c1V) (fun _ _ h=>by simp[lk]at h) (fun _ _=>rfl) (NewB2_intro (fun c m hc hm hcm hmc=>?_));simp only[ln_cons2,ln_nil,and_true]at hc hm)|refine na fun b=>?_|refine nb fun b hb=>?_|refine iq ?_|(refine jq ?_ ?_<;>intro h h')|refine Two_intro ?_ ?_|exact wZ|fail)<;>try refine sxHsg ?_)
 rename_i b1 br hbr
 have hLn:=hL.b
 have tl:∀ i,i≤L.length→(L.take i).length=i:=fun i h=>by rw[List.length_take];omega
 refine wpx_loop (fun q:Nat × StS=>⟨lk [(1,.ptr b1 0),(2,.ptr br 0),(4,.ptr b 0),(5,.ptr c 0),(6,.int .i64 (q.1:Int))],lk ((b1,[.sl none 2 (prR L),.sl none 34 (hds K),.int .i64 ht,.int .i64 tm,.nils 31 34])::(br,[.nilT 49,.nilp,.int .i64 0,.int .i64 0,.sl (some 31) 34 []])::stO b (L.take q.1) q.2++[(c,[.mapv m]),(m,[mpH []])])⟩) (fun q=>q.1≤L.length∧stOk b (L.take q.1) q.2∧b3g [c,m,b1,br] q.2) (fun q=>L.length - q.1) (0,none) ⟨by simp,by simp[stOk],trivial⟩ (Le_lit (by simp[LeL,lk,a0f, *];done)) ?_
 rintro ⟨i,x⟩ ⟨hi,hx,ho⟩
 simp only at hi hx ho ⊢
 by_cases hil:i<L.length
 ·have f1:a0d (decide ((i:Int)<L.length)=true):=fo
  have hz:=B_sz hL i hil
  have hp:=put_own hL.I hil
  have he:b3Y (L.getD i default).1 (L.getD i default).2=0:=by
   have hm:a0Z (L.getD i default).1 (L.getD i default).2=true:=by
    have:=hL.I.may _ (List.getElem_mem hil)
    simpa[List.getD,hil]using this
   unfold b3Y;rw[if_pos hm]
  have hS:=b3K b (L.take i) (take_I hL.I i).rise (by rw[tl i hi];omega) (L.getD i default).1 (L.getD i default).2 (by omega) (by omega) x hx
  rw[hp,he]at hS
  have tne:¬ L.take (i+1)=[]:=fun h=>by have:=tl (i+1) (by omega);rw[h]at this;simp at this
  clear hz hp he hL tl hK
  obtain ⟨⟨kk,v⟩,hgd⟩:∃ p,L.getD i default=p:=⟨_,rfl⟩
  rw[hgd]at hS
  simp only at hS
  generalize hT1:L.take (i+1)=T1 at *
  generalize hT0:L.take i=T0 at *
  rcases x with _ | ⟨g,cap⟩
  ·simp only[a0f]at hS ⊢
   simp (disch:=omega) only[hgd,List.cons_append,List.nil_append, ↓Ed,Eu, ↓reduceIte,reduceCtorEq,Nat.reduceAdd,Nat.reduceEqDiff,Nat.reduceLT,Nat.reduceLeDiff,Int.reduceToNat,Int.reduceEq,Int.reduceLT,Int.reduceLE,w64,List.length_append,List.length_map,Nat.mul_one,a0w,a1g,HdC.cs,gdH,a0F,a0M,a0J,a3O,a1Q,a0E,a5q,a5t,Int.reduceAdd]
   repeat' ((first|exact tt|((refine c_set0 hS (fun h0=>?_) (fun gb gc hn h2 hc=>?_))<;>(try simp only[ln_cons2,ln_nil,and_true]at hn))|refine na fun b=>?_|refine nb fun b hb=>?_|refine iq ?_|(refine jq ?_ ?_<;>intro h h')|refine Two_intro ?_ ?_|exact wZ|fail)<;>try refine sxHsg ?_)
   all_goals first
   | exact absurd h0 tne
   | exact Round_lit (i+1,some (gb,gc)) ⟨Le_lit (by simp[LeL,lk,a0b,hT1, *];done),⟨hil,by simp only[hT1];exact ⟨h2,hc⟩,by simp[b3g, *];done⟩,by simp only;omega⟩
  ·have hgs:=hx.1
   simp only[b3g,List.mem_cons,List.not_mem_nil,or_false,forall_eq_or_imp,forall_eq]at ho
   simp only[a0b]at hS ⊢
   simp (disch:=omega) only[hgd,List.cons_append,List.nil_append, ↓Ed,Eu, ↓reduceIte,reduceCtorEq,Nat.reduceAdd,Nat.reduceEqDiff,Nat.reduceLT,Nat.reduceLeDiff,Int.reduceToNat,Int.reduceEq,Int.reduceLT,Int.reduceLE,w64,List.length_append,List.length_map,Nat.mul_one,a0w,a1g,HdC.cs,gdH,a0F,a0M,a0J,a3O,a1Q,a0E,a5q,a5t,Int.reduceAdd]
   repeat' ((first|exact tt|((refine c_set1 hS (fun gc hc=>?_) (fun gb gc hn h2 hc=>?_))<;>(try simp only[ln_cons2,ln_nil,and_true]at hn))|refine na fun b=>?_|refine nb fun b hb=>?_|refine iq ?_|(refine jq ?_ ?_<;>intro h h')|refine Two_intro ?_ ?_|exact wZ|fail)<;>try refine sxHsg ?_)
   all_goals first
   | exact Round_lit (i+1,some (gb,gc)) ⟨Le_lit (by simp[LeL,lk,a0b,hT1, *];done),⟨hil,by simp only[hT1];exact ⟨h2,hc⟩,by simp[b3g, *];done⟩,by simp only;omega⟩
   | exact Round_lit (i+1,some (g,gc)) ⟨Le_lit (by simp[LeL,lk,a0b,hT1, *];done),⟨hil,by simp only[hT1];exact ⟨hgs,hc⟩,by simp[b3g, *];done⟩,by simp only;omega⟩
 obtain rfl:i=L.length:=by omega
 have f1:a0d (decide ((L.length:Int)<L.length)=false):=fo
 rw[List.take_of_length_le (Nat.le_refl _)]at hx ⊢
 have kl:=hK.len
 have tk:∀ i,i≤K.length→(K.take i).length=i:=fun i h=>by rw[List.length_take];omega
 clear hLn tl hL hi hil
 rcases x with _ | ⟨g,cap⟩
 rotate_left
 have hgs:=hx.1
 simp only[b3g,List.mem_cons,List.not_mem_nil,or_false,forall_eq_or_imp,forall_eq]at ho
 rotate_left
 all_goals simp only[a0f,a0b]
 all_goals simp (disch:=omega) only[List.cons_append,List.nil_append, ↓Ed,Eu, ↓reduceIte,reduceCtorEq,Nat.reduceAdd,Nat.reduceEqDiff,Nat.reduceLT,Nat.reduceLeDiff,Int.reduceToNat,Int.reduceEq,Int.reduceLT,Int.reduceLE,w64,List.length_append,List.length_map,Nat.mul_one,a0w,a1g,HdC.cs,gdH,a0F,a0M,a0J,a3O,a1Q,a0E,a5q,a5t,Int.reduceAdd]
 all_goals repeat' ((first|exact tt|refine na fun b=>?_|refine nb fun b hb=>?_|refine iq ?_|(refine jq ?_ ?_<;>intro h h')|refine Two_intro ?_ ?_|exact wZ|fail)<;>try refine sxHsg ?_)
 ·refine wpx_loop (fun i:Nat=>⟨lk [(1,.ptr b1 0),(2,.ptr br 0),(4,.ptr b 0),(5,.ptr c 0),(7,.int .i64 (i:Int))],lk ((b1,[.sl none 2 (prR L),.sl none 34 (hds K),.int .i64 ht,.int .i64 tm,.nils 31 34])::(br,[.nilT 49,.nilp,.int .i64 0,.int .i64 0,.sl (some 31) 34 []])::[(b,[.nils 115 2])]++[(c,[.mapv m]),(m,[mpH (K.take i)])])⟩) (fun i=>i≤K.length) (fun i=>K.length - i) 0 (by omega) (Le_lit (by simp[LeL,lk, *];done)) ?_
  intro i hi
  by_cases hil:i<K.length
  ·have f2:a0d (decide ((i:Int)<K.length)=true):=fo
   have hU:=b3H c m hcm hmc (K.take i) K (K.getD i default) (.sl none 34 (hds K)) rfl (by omega) (by rw[tk i hi];omega)
   rw[up_own hK hil]at hU
   simp only at hU
   clear tk hK
   obtain ⟨y,hgd⟩:∃ p,K.getD i default=p:=⟨_,rfl⟩
   rw[hgd]at hU
   generalize hT1:K.take (i+1)=T1 at *
   generalize hT0:K.take i=T0 at *
   simp (disch:=omega) only[hgd,List.cons_append,List.nil_append, ↓Ed,Eu, ↓reduceIte,reduceCtorEq,Nat.reduceAdd,Nat.reduceEqDiff,Nat.reduceLT,Nat.reduceLeDiff,Int.reduceToNat,Int.reduceEq,Int.reduceLT,Int.reduceLE,w64,List.length_append,List.length_map,Nat.mul_one,a0w,a1g,HdC.cs,gdH,a0F,a0M,a0J,a3O,a1Q,a0E,a5q,a5t,Int.reduceAdd]
   repeat' ((first|exact tt|refine c2 (hU) ?_|refine na fun b=>?_|refine nb fun b hb=>?_|refine iq ?_|(refine jq ?_ ?_<;>intro h h')|refine Two_intro ?_ ?_|exact wZ|fail)<;>try refine sxHsg ?_)
   all_goals exact Round_lit (i+1) ⟨Le_lit (by simp[LeL,lk,hT1, *];done),hil,by omega⟩
  obtain rfl:i=K.length:=by omega
  have f2:a0d (decide ((K.length:Int)<K.length)=false):=fo
  rw[List.take_of_length_le (Nat.le_refl _)]
  clear tk hK
  simp (disch:=omega) only[List.cons_append,List.nil_append, ↓Ed,Eu, ↓reduceIte,reduceCtorEq,Nat.reduceAdd,Nat.reduceEqDiff,Nat.reduceLT,Nat.reduceLeDiff,Int.reduceToNat,Int.reduceEq,Int.reduceLT,Int.reduceLE,w64,List.length_append,List.length_map,Nat.mul_one,a0w,a1g,HdC.cs,gdH,a0F,a0M,a0J,a3O,a1Q,a0E,a5q,a5t,Int.reduceAdd]
  repeat' ((first|exact tt|refine na fun b=>?_|refine nb fun b hb=>?_|refine iq ?_|(refine jq ?_ ?_<;>intro h h')|refine Two_intro ?_ ?_|exact wZ|fail)<;>try refine sxHsg ?_)
  all_goals exact ro_own b c m none ⟨hx,trivial,hc.1,hm.1,hcm,hmc⟩ (by simp[arR,lk,r_two,rl_cons,rl_nil,al_agg,al_bool,AV.alias,view,l_all, *];done) (by simp[*,LeL,lk,a0f,a0b];done)
 ·refine wpx_loop (fun i:Nat=>⟨lk [(1,.ptr b1 0),(2,.ptr br 0),(4,.ptr b 0),(5,.ptr c 0),(7,.int .i64 (i:Int))],lk ((b1,[.sl none 2 (prR L),.sl none 34 (hds K),.int .i64 ht,.int .i64 tm,.nils 31 34])::(br,[.nilT 49,.nilp,.int .i64 0,.int .i64 0,.sl (some 31) 34 []])::[(b,[.hsl g 115 2 L.length cap]),(g,hcP cap L)]++[(c,[.mapv m]),(m,[mpH (K.take i)])])⟩) (fun i=>i≤K.length) (fun i=>K.length - i) 0 (by omega) (Le_lit (by simp[LeL,lk, *];done)) ?_
  intro i hi
  by_cases hil:i<K.length
  ·have f2:a0d (decide ((i:Int)<K.length)=true):=fo
   have hU:=b3H c m hcm hmc (K.take i) K (K.getD i default) (.sl none 34 (hds K)) rfl (by omega) (by rw[tk i hi];omega)
   rw[up_own hK hil]at hU
   simp only at hU
   clear tk hK
   obtain ⟨y,hgd⟩:∃ p,K.getD i default=p:=⟨_,rfl⟩
   rw[hgd]at hU
   generalize hT1:K.take (i+1)=T1 at *
   generalize hT0:K.take i=T0 at *
   simp (disch:=omega) only[hgd,List.cons_append,List.nil_append, ↓Ed,Eu, ↓reduceIte,reduceCtorEq,Nat.reduceAdd,Nat.reduceEqDiff,Nat.reduceLT,Nat.reduceLeDiff,Int.reduceToNat,Int.reduceEq,Int.reduceLT,Int.reduceLE,w64,List.length_append,List.length_map,Nat.mul_one,a0w,a1g,HdC.cs,gdH,a0F,a0M,a0J,a3O,a1Q,a0E,a5q,a5t,Int.reduceAdd]
   repeat' ((first|exact tt|refine c2 (hU) ?_|refine na fun b=>?_|refine nb fun b hb=>?_|refine iq ?_|(refine jq ?_ ?_<;>intro h h')|refine Two_intro ?_ ?_|exact wZ|fail)<;>try refine sxHsg ?_)
   all_goals exact Round_lit (i+1) ⟨Le_lit (by simp[LeL,lk,hT1, *];done),hil,by omega⟩
  obtain rfl:i=K.length:=by omega
  have f2:a0d (decide ((K.length:Int)<K.length)=false):=fo
  rw[List.take_of_length_le (Nat.le_refl _)]
  clear tk hK
  simp (disch:=omega) only[List.cons_append,List.nil_append, ↓Ed,Eu, ↓reduceIte,reduceCtorEq,Nat.reduceAdd,Nat.reduceEqDiff,Nat.reduceLT,Nat.reduceLeDiff,Int.reduceToNat,Int.reduceEq,Int.reduceLT,Int.reduceLE,w64,List.length_append,List.length_map,Nat.mul_one,a0w,a1g,HdC.cs,gdH,a0F,a0M,a0J,a3O,a1Q,a0E,a5q,a5t,Int.reduceAdd]
  repeat' ((first|exact tt|refine na fun b=>?_|refine nb fun b hb=>?_|refine iq ?_|(refine jq ?_ ?_<;>intro h h')|refine Two_intro ?_ ?_|exact wZ|fail)<;>try refine sxHsg ?_)
  all_goals exact ro_own b c m (some (g,cap)) ⟨hx,(by simp[b3g, *];done),hc.1,hm.1,hcm,hmc⟩ (by simp[arR,lk,r_two,rl_cons,rl_nil,al_agg,al_bool,AV.alias,view,l_all, *];done) (by simp[*,LeL,lk,a0f,a0b];done)
end
section
open Go.RowKit Go.Lib
set_option maxRecDepth 100000
section
variable {P:Program} {s:St}
theorem rS1{f:Nat}{vs:List AV}{r:AV}{K:AV→Prop}{b:Nat}{x:List AV}(h:CT P f vs (lk [(b,x)]) (fun r' o'=>r'=r∧o'=lk [(b,x)]))(hK:K r)(g:s.o b=some x:=by first|((repeat (first|exact lk_hd _ _ _|(refine lk_tl ?_ ?_;(focus (first|assumption|(simp only[*,not_false_eq_true];done))))));done)|fail):b5v P f vs s K:=Cro_det h (lk_sub1 g) hK
end
theorem ro_same{st:St}{rs:List AR}{v:AV}{l:List (Nat × List AV)}(h:a1a st rs v)(ho:LeL l st.o):b0U st rs (lk l) (fun r o=>r=v∧o=lk l):=
 ⟨_,h,_,LeL_ok ho,fun b cs hb=>⟨_,hb⟩,rfl,rfl⟩
abbrev c1z(L:List PrP)(K:List HdC)(ht tm:Int):List AV:=[.sl none 2 (prR L),.sl none 34 (hds K),.int .i64 ht,.int .i64 tm,.nils 31 34]
theorem sxHsh{A B:Prop}(h:B)(e:A=B:=by (simp (disch:=omega) only[*, ↓Ed,Eu, ↓reduceIte,reduceCtorEq,Nat.reduceAdd,Nat.reduceEqDiff,Nat.reduceLT,Nat.reduceLeDiff,Int.reduceToNat,Int.reduceEq,Int.reduceLT,Int.reduceLE,w64,List.length_append,List.length_map,Nat.mul_one,a0w,HdC.cs,a0F];first|done|rfl)):A:=e▸h
set_option maxHeartbeats 4000000 in
theorem c0o(s c m:Nat)(L:List PrP)(hL:L.length≤1000)(K:List HdC){n:Nat}(hK:KnI K n)(hn:n≤100)(ht tm:Int)(x:StS)(hx:stOk s L x)(ho:b3g [c,m] x)(hcs:¬ c=s∧¬ s=c)(hms:¬ m=s∧¬ s=m)(hcm:¬ c=m∧¬ m=c):
  CT Tryz.prog 22 [.agg [.ptr s 0,.ptr c 0,.int .i64 ht,.int .i64 tm,.sl none 34 []],.agg (c1z L K ht tm)] (lk (stO s L x++b3M c m K)) (fun r o=>r=.bool true∧o=lk (stO s L x++b3M c m K)):=by
 have kl:=hK.len
 have hPr:=b8p s L (by omega) x hx
 have hKP:=b7q L hL none
 have hG:=kn_good hK
 have hSt:=b8m c m hcm.1 hcm.2 K (hG.mono hn).bd0 hG.ap (by omega)
 rw[kn_srt hK]at hSt
 have hKH:=b4N K K (.sl none 34 (hds K)) (.sl none 34 (hds K)) rfl rfl (by omega) (by omega)
 rw[decide_eq_true rfl]at hKH
 clear hG hK
 refine a6A _ _ _ (by simp) ?_
 rcases x with _ | ⟨g,cap⟩
 ·simp only[a0f,List.cons_append,List.nil_append]at hPr ⊢
  simp only[a2c];refine sxHsh ?_
  repeat' ((first|exact tt|(refine rS1 hPr ?_)|refine r2 (hSt) ?_|refine CallW_intro (hKH) ?_|refine CallO_pure (hKH) ?_|(refine Cro_pure hKP ?_)|(refine Cro_pure hKH ?_)|refine na fun b=>?_|refine nb fun b hb=>?_|refine iq ?_|(refine jq ?_ ?_<;>intro h h')|refine Two_intro ?_ ?_|exact wZ|fail)<;>try refine sxHsh ?_)
  all_goals exact ro_same (by simp[a1a,arR,lk];done) (by simp[LeL,lk, *];done)
 ·have hgs:=hx.1
  simp only[b3g,List.mem_cons,List.not_mem_nil,or_false,forall_eq_or_imp,forall_eq]at ho
  simp only[a0b,List.cons_append,List.nil_append]at hPr ⊢
  simp only[a2c];refine sxHsh ?_
  repeat' ((first|exact tt|refine r2 (hPr) ?_|refine r2 (hSt) ?_|refine CallW_intro (hKH) ?_|refine CallO_pure (hKH) ?_|(refine Cro_pure hKP ?_)|(refine Cro_pure hKH ?_)|refine na fun b=>?_|refine nb fun b hb=>?_|refine iq ?_|(refine jq ?_ ?_<;>intro h h')|refine Two_intro ?_ ?_|exact wZ|fail)<;>try refine sxHsh ?_)
  all_goals exact ro_same (by simp[a1a,arR,lk];done) (by simp[LeL,lk, *];done)
end
section
open Go.RowKit Go.Lib
set_option maxRecDepth 100000
def b6k(k:Int)(q:PktC):List AV:=[.int .i64 k,.str q.s,.int .i64 q.sc,.str q.d,.int .i64 q.dc,.int .i64 q.q,.str q.x,.int .i64 q.th,.int .i64 q.ta,.str [],.str [],.int .i64 0,.int .i64 0]
theorem sxHsi{A B:Prop}(h:B)(e:A=B:=by (simp (disch:=omega) only[*, ↓Ed,Eu, ↓reduceIte,reduceCtorEq,Nat.reduceAdd,Nat.reduceEqDiff,Nat.reduceLT,Nat.reduceLeDiff,Int.reduceToNat,Int.reduceEq,Int.reduceLT,Int.reduceLE,w64,List.getD_cons_zero,List.take_succ_cons,List.take_zero,decide_true,Bool.true_and,Bool.and_true,Bool.not_true,Bool.not_false,List.length_cons,List.length_nil,eqC_i,eqC_s,eqC_nil,oand_some];first|done|rfl)):A:=e▸h
set_option maxHeartbeats 4000000 in
theorem b3Q(k:Int)(q:PktC):CP Tryz.prog 21 [.sl none 13 [b6k k q],.sl none 13 [b6k k q]] (.bool true):=by
 obtain ⟨s,sc,d,dc,n,x,th,ta⟩:=q
 unfold b6k
 refine a6m _ _ (by simp) ?_
 simp only[a2W];refine sxHsi ?_
 repeat' ((first|exact tt|refine na fun b=>?_|refine nb fun b hb=>?_|refine iq ?_|(refine jq ?_ ?_<;>intro h h')|refine Two_intro ?_ ?_|exact wZ|fail)<;>try refine sxHsi ?_)
 refine wpx_loop (fun i:Nat=>⟨lk [(0,.sl none 13 [[.int .i64 k,.str s,.int .i64 sc,.str d,.int .i64 dc,.int .i64 n,.str x,.int .i64 th,.int .i64 ta,.str [],.str [],.int .i64 0,.int .i64 0]]),(1,.sl none 13 [[.int .i64 k,.str s,.int .i64 sc,.str d,.int .i64 dc,.int .i64 n,.str x,.int .i64 th,.int .i64 ta,.str [],.str [],.int .i64 0,.int .i64 0]]),(5,.int .i64 (i:Int))],lk []⟩) (fun i=>i≤1) (fun i=>1 - i) 0 (by omega) (Le_lit (by simp[LeL,lk])) ?_
 intro i hi
 have h2:i=0∨i=1:=by omega
 rcases h2 with rfl|rfl
 ·refine sxHsi ?_
  repeat' ((first|exact tt|refine na fun b=>?_|refine nb fun b hb=>?_|refine iq ?_|(refine jq ?_ ?_<;>intro h h')|refine Two_intro ?_ ?_|exact wZ|fail)<;>try refine sxHsi ?_)
  all_goals exact Round_lit 1 ⟨Le_lit (by simp[LeL,lk]),by omega,by omega⟩
 ·refine sxHsi ?_
  repeat' ((first|exact tt|refine na fun b=>?_|refine nb fun b hb=>?_|refine iq ?_|(refine jq ?_ ?_<;>intro h h')|refine Two_intro ?_ ?_|exact wZ|fail)<;>try refine sxHsi ?_)
end
section
open Go.RowKit Go.Lib
set_option maxRecDepth 100000
theorem getE_short{L:List PrP}{p:List UInt8}{c:Int}(h:(a3k L p c).2=true):(a3k L p c).1.p.length≤12:=by
 have:=getE_may h
 simp only[Es.may,Bool.and_eq_true]at this
 exact (mayP_t this.1).1
abbrev grA(s c:Nat)(ht tm:Int)(told:List HdC):AV:=.agg [.ptr s 0,.ptr c 0,.int .i64 ht,.int .i64 tm,.sl none 34 (hds told)]
theorem sxHsa{A B:Prop}(h:B)(e:A=B:=by (simp (disch:=omega) only[*, ↓Ed,Eu, ↓reduceIte,reduceCtorEq,Nat.reduceAdd,Nat.reduceEqDiff,Nat.reduceLT,Nat.reduceLeDiff,Int.reduceToNat,Int.reduceEq,Int.reduceLT,Int.reduceLE,w64,PktC.cs];first|done|rfl)):A:=e▸h
set_option maxHeartbeats 8000000 in
theorem b3I(s cl:Nat)(L:List PrP)(hI:StI L)(p:List UInt8)(c:Int)(d:List UInt8)(th ta ht tm:Int)(told:List HdC)(hp:p.length≤1000)(hd:d.length≤100000)(x:StS)(hx:stOk s L x)(E:Int)(hE:a4l L p c d th ta=E)(h0:E≠0):
  CT Tryz.prog 19 [grA s cl ht tm told,.agg [.str p,.int .i64 c],.str d,.int .i64 th,.int .i64 ta] (lk (stO s L x)) (fun r o=>r=.tup [.agg (default:PktC).cs,.sl none 13 [],.int .i64 E]∧o=lk (stO s L x)):=by
 have hG:=b5K s L hI p c (by omega) x hx
 have hN:=b5P s L hI 4 p c (by omega) x hx
 have hM:=fun (h:(a3k L p c).2=true)=>b3l (a1u L p c d th ta) (by simp only[a1u];omega) (by simp only[a1u];have:=getE_short h;omega) (by simp only[a1u];omega)
 have hgs:=hx.d
 unfold a4l at hE
 unfold a1u at hE hM
 clear hI hx
 generalize a5w L 4 p c=nn at *
 generalize a3k L p c=G at *
 obtain ⟨⟨g1,g2,g3,g4,g5⟩,g6⟩:=G
 simp only at hE hM hG
 refine a3L _ _ _ (by simp) ?_
 have hdk:(default:PktC)=⟨[],0,[],0,0,[],0,0⟩:=rfl
 rw[hdk]
 cases g6 with
 | false=>
  rw[if_pos rfl]at hE
  subst hE
  clear hM hdk h0
  rcases x with _ | ⟨g,cap⟩
  all_goals
   simp only[a1q,a0L,a0f,a0b]at hgs hG hN ⊢
   simp only[a0V];refine sxHsa ?_
   repeat' ((first|exact tt|refine c1 (hG) ?_|refine c2 (hG) ?_|refine c1 (hN) ?_|refine c2 (hN) ?_|refine na fun b=>?_|refine nb fun b hb=>?_|refine iq ?_|(refine jq ?_ ?_<;>intro h h')|refine Two_intro ?_ ?_|exact wZ|fail)<;>try refine sxHsa ?_)
   all_goals exact ro_mk (by simp[LeL,lk,r_two,rl_cons,rl_nil,arR,al_agg,al_bool,AV.alias,view,l_all, *]) (a2B _)
 | true=>
  rw[if_neg (by simp)]at hE
  have hM:=hM rfl
  cases g4 with
  | true=>
   rw[if_pos rfl]at hE
   subst hE
   clear hM hdk h0
   rcases x with _ | ⟨g,cap⟩
   all_goals
    simp only[a1q,a0L,a0f,a0b]at hgs hG hN ⊢
    simp only[a0V];refine sxHsa ?_
    repeat' ((first|exact tt|refine c1 (hG) ?_|refine c2 (hG) ?_|refine c1 (hN) ?_|refine c2 (hN) ?_|refine CallO_pure (hM) ?_|refine na fun b=>?_|refine nb fun b hb=>?_|refine iq ?_|(refine jq ?_ ?_<;>intro h h')|refine Two_intro ?_ ?_|exact wZ|fail)<;>try refine sxHsa ?_)
    all_goals exact ro_mk (by simp[LeL,lk,r_two,rl_cons,rl_nil,arR,al_agg,al_bool,AV.alias,view,l_all, *]) (a2B _)
  | false=>
   rw[if_neg (by simp)]at hE
   by_cases hn:1099511627776<nn
   ·rw[if_pos hn]at hE
    subst hE
    have f1:a0d (decide (1099511627776<nn)=true):=by simp only[a0d,Hn];exact hn
    clear hM hdk h0 hn
    rcases x with _ | ⟨g,cap⟩
    all_goals
     simp only[a1q,a0L,a0f,a0b]at hgs hG hN ⊢
     simp only[a0V];refine sxHsa ?_
     repeat' ((first|exact tt|refine c1 (hG) ?_|refine c2 (hG) ?_|refine c1 (hN) ?_|refine c2 (hN) ?_|refine CallO_pure (hM) ?_|refine na fun b=>?_|refine nb fun b hb=>?_|refine iq ?_|(refine jq ?_ ?_<;>intro h h')|refine Two_intro ?_ ?_|exact wZ|fail)<;>try refine sxHsa ?_)
     all_goals exact ro_mk (by simp[LeL,lk,r_two,rl_cons,rl_nil,arR,al_agg,al_bool,AV.alias,view,l_all, *]) (a2B _)
   ·rw[if_neg hn]at hE
    have f1:a0d (decide (1099511627776<nn)=false):=fo
    generalize a6h ⟨p,c,g1,g2,nn,d,th,ta⟩=mk at *
    cases mk with
    | true=>
     rw[if_neg (by simp)]at hE
     exact absurd hE.symm h0
    | false=>
     rw[if_pos rfl]at hE
     subst hE
     clear hdk h0 hn
     rcases x with _ | ⟨g,cap⟩
     all_goals
      simp only[a1q,a0L,a0f,a0b]at hgs hG hN ⊢
      simp only[a0V];refine sxHsa ?_
      repeat' ((first|exact tt|refine c1 (hG) ?_|refine c2 (hG) ?_|refine c1 (hN) ?_|refine c2 (hN) ?_|refine CallO_pure (hM) ?_|refine na fun b=>?_|refine nb fun b hb=>?_|refine iq ?_|(refine jq ?_ ?_<;>intro h h')|refine Two_intro ?_ ?_|exact wZ|fail)<;>try refine sxHsa ?_)
      all_goals exact ro_mk (by simp[LeL,lk,r_two,rl_cons,rl_nil,arR,al_agg,al_bool,AV.alias,view,l_all, *]) (a2B _)
end
section
open Go.RowKit Go.Lib
set_option maxRecDepth 100000
theorem send_set{L:List PrP}{q:PktC}(hq:a6h q=true):c1g L 4 q.s q.sc (q.q+1)=a2f L (ofP 4 q.s q.sc 0) (pn (q.q+1))∧b3Z 4 q.s q.sc (q.q+1)=0:=by
 have hp:=mayK_parts hq
 have ho:(a1S q.s q.sc&&okN 4 (q.q+1))=true:=by
  rw[hp.1,Bool.true_and]
  simp only[okN,okK,Bool.and_eq_true,decide_eq_true_eq];omega
 exact ⟨by rw[setN_law.2,if_pos ho],(setN_law (L:=L)).1.2 ho⟩
theorem send_put{L:List PrP}{q:PktC}(hq:a6h q=true):a7f L (ofP 1 q.s q.sc q.q) (a1E q)=a2f L (ofP 1 q.s q.sc q.q) (a1E q)∧b3Y (ofP 1 q.s q.sc q.q) (a1E q)=0:=by
 have hp:=mayK_parts hq
 have hm:=(vNum (k:=1) (by omega) hp.1 hp.2.2.1).may (b5C (eight q.th.toNat++(eight q.ta.toNat++a4h q.x)))
 have hm:a0Z (ofP 1 q.s q.sc q.q) (a1E q)=true:=hm
 exact ⟨by unfold a7f;rw[if_pos hm],by unfold b3Y;rw[if_pos hm]⟩
theorem sxHsb{A B:Prop}(h:B)(e:A=B:=by (simp (disch:=omega) only[*, ↓Ed,Eu, ↓reduceIte,reduceCtorEq,Nat.reduceAdd,Nat.reduceEqDiff,Nat.reduceLT,Nat.reduceLeDiff,Int.reduceToNat,Int.reduceEq,Int.reduceLT,Int.reduceLE,w64,PktC.cs];first|done|rfl)):A:=e▸h
theorem c2q(k:Int)(q:PktC):CP Tryz.prog 58 [.int .i64 k,.agg q.cs] (.agg [.int .i64 k,.str q.s,.int .i64 q.sc,.str q.d,.int .i64 q.dc,.int .i64 q.q,.str q.x,.int .i64 q.th,.int .i64 q.ta,.str [],.str [],.int .i64 0,.int .i64 0]):=by
 refine b1y _ _ (by simp) ?_
 simp only[a7v];refine sxHsb ?_
 repeat' ((first|exact tt|refine na fun b=>?_|refine nb fun b hb=>?_|refine iq ?_|(refine jq ?_ ?_<;>intro h h')|refine Two_intro ?_ ?_|exact wZ|fail)<;>try refine sxHsb ?_)
def jkO(x:StS)(cs:List AV):List (Nat × List AV):=match x with
 | none=>[]
 | some (g,_)=>[(g,cs)]
abbrev setW(s:Nat)(L':List PrP)(x:StS)(v:AV):AV→(Nat→Option (List AV))→Prop:=fun r o=>∃ y cs,(stOk s L' y∧(y=none→x=none))∧r=v∧o=lk (ov (stO s L' y) (jkO x cs))
theorem a2M(g c:Nat)(cs:List AV):jkO (some (g,c)) cs=[(g,cs)]:=rfl
theorem ro_sw{st:St}{rs:List AR}{s:Nat}{L L':List PrP}{x:StS}{v:AV}(y:StS)(cs:List AV)(hy:stOk s L' y∧(y=none→x=none))(h:a1a st rs v)(ho:LeL (ov (stO s L' y) (jkO x cs)) st.o):
  b0U st rs (lk (stO s L x)) (setW s L' x v):=
 ⟨_,h,_,LeL_ok ho,fun b cs' hb=>by
  rw[← ovr_lk]
  have h0:b=s∨∃ g c,x=some (g,c)∧b=g:=by
   cases x with
   | none=>
    by_cases e:b=s
    ·exact .inl e
    ·simp[stO,stR,lk,e]at hb
   | some q=>
    by_cases e:b=s
    ·exact .inl e
    ·by_cases e2:b=q.1
     ·exact .inr ⟨q.1,q.2,rfl,e2⟩
     ·simp[stO,stR,lk,e,e2]at hb
  simp only[ovr]
  cases hq:lk (stO s L' y) b with
  | some z=>exact ⟨_,rfl⟩
  | none=>
   rcases h0 with rfl | ⟨g,c,rfl,rfl⟩
   ·cases y<;>simp[stO,stR,lk]at hq
   ·exact ⟨cs,by simp[jkO,lk]⟩,y,cs,hy,rfl,rfl⟩
set_option maxHeartbeats 16000000 in
theorem b3J(s cl:Nat)(L:List PrP)(n:Nat)(hB:StB L n)(hn:n≤900)(p:List UInt8)(c:Int)(d:List UInt8)(th ta ht tm:Int)(told:List HdC)(hp:p.length≤1000)(hd:d.length≤100000)(x:StS)(hx:stOk s L x)(hE:a4l L p c d th ta=0):
  CT Tryz.prog 19 [grA s cl ht tm told,.agg [.str p,.int .i64 c],.str d,.int .i64 th,.int .i64 ta] (lk (stO s L x)) (setW s (a5M L (a1u L p c d th ta)) x (.tup [.agg (a1u L p c d th ta).cs,.sl none 13 [(ofK 1 (a1u L p c d th ta)).cs],.int .i64 0])):=by
 obtain ⟨e1,e2,e3⟩:=pkt_ok hE
 have hI:=hB.I
 have hG:=b5K s L hI p c (by omega) x hx
 have hN:=b5P s L hI 4 p c (by omega) x hx
 have hsh:=getE_short e1
 have hM:=b3l (a1u L p c d th ta) (by simp only[a1u];omega) (by simp only[a1u];omega) (by simp only[a1u];omega)
 have hK:=c0S (a1u L p c d th ta) (by simp only[a1u];omega) (by simp only[a1u];omega) (by simp only[a1u];omega) e3
 have hss:=send_set (L:=L) e3
 have hp3:=mayK_parts e3
 have hB1:StB (a2f L (ofP 4 p c 0) (pn ((a1u L p c d th ta).q+1))) (n+1):=hB.set (by omega) ((vBase (by omega) hp3.1).may (c1Q _ (by omega)))
 have hS1:=fun x hx=>a6C s L hI 4 p c (by omega) ((a1u L p c d th ta).q+1) x hx
 have hO:=b5k 1 p c (a1u L p c d th ta).q (by omega)
 have hS2:=fun x hx=>b3K s _ hB1.I.rise (by have:=hB1.I.len;omega) (ofP 1 p c (a1u L p c d th ta).q) (a1E (a1u L p c d th ta)) (by have:=a7P 1 p c (a1u L p c d th ta).q;omega) (by rw[a2H];omega) x hx
 have hsp:=send_put (L:=a2f L (ofP 4 p c 0) (pn ((a1u L p c d th ta).q+1))) e3
 have hss1:=hss.1
 have hss2:=hss.2
 have hsp1:=hsp.1
 have hsp2:=hsp.2
 have hgs:=hx.d
 obtain ⟨g,cap,rfl⟩:∃ g cap,x=some (g,cap):=by
  unfold a3k at e1
  simp only[Bool.and_eq_true]at e1
  exact stOk_has e1.1 hx
 have hS:=hS1 (some (g,cap)) hx
 unfold a5M
 unfold a1u at hM hK hss1 hss2 hsp1 hsp2 hS hS2 hO e3 ⊢
 clear hsp hss hS1 hB1 hp3 hE hB hI hsh hx
 generalize a5w L 4 p c=nn at *
 generalize a3k L p c=G at *
 obtain ⟨⟨g1,g2,g3,g4,g5⟩,g6⟩:=G
 simp only at hM hK hss1 hss2 hsp1 hsp2 hS hS2 hO e3 hG e1 e2 ⊢
 subst e1 e2
 rw[hss1,hss2]at hS
 rw[hsp1,hsp2]at hS2
 rw[e3]at hM
 have hmx:=mayK_parts e3
 have hn2:=hmx.2.2.1
 simp only at hn2
 have f1:a0d (decide (1099511627776<nn)=false):=fo
 clear hss1 hss2 hsp1 hsp2 e3 hmx
 generalize a2f L (ofP 4 p c 0) (pn (nn+1))=L1 at *
 generalize a2f L1 (ofP 1 p c nn) (a1E ⟨p,c,g1,g2,nn,d,th,ta⟩)=L2 at *
 generalize a1E ⟨p,c,g1,g2,nn,d,th,ta⟩=kv at *
 generalize ofP 1 p c nn=key at *
 have hOf:=c2q 1 ⟨p,c,g1,g2,nn,d,th,ta⟩
 have hS2:=fun g' c' (h1:¬ g'=s∧¬ s=g') (h2:L1.length≤c')=>hS2 (some (g',c')) ⟨h1,h2⟩
 simp only[a0b]at hS2
 refine a3L _ _ _ (by simp) ?_
 simp only[a0L,a0b]at hgs hG hN hS ⊢
 simp only[a0V];refine sxHsb ?_
 repeat' ((first|exact tt|refine c2 (hG) ?_|refine c2 (hN) ?_|refine CallO_pure (hM) ?_|refine CallO_pure (hO) ?_|refine CallO_pure (hK) ?_|refine CallO_pure (hOf) ?_|refine CallW_intro (hOf) ?_|((refine c_set0 hS (fun h0=>?_) (fun gb gc hn h2 hc=>?_))<;>(try simp only[ln_cons2,ln_nil,and_true]at hn))|((refine c_set1 hS (fun gc hc=>?_) (fun gb gc hn h2 hc=>?_))<;>(try simp only[ln_cons2,ln_nil,and_true]at hn))|((refine c_set1 (hS2 _ _ hgs hc) (fun gd hd=>?_) (fun gx gd hm h3 hd=>?_))<;>(try simp only[ln_cons2,ln_nil,and_true]at hm))|((refine c_set1 (hS2 _ _ h2 hc) (fun gd hd=>?_) (fun gx gd hm h3 hd=>?_))<;>(try simp only[ln_cons2,ln_nil,and_true]at hm))|refine na fun b=>?_|refine nb fun b hb=>?_|refine iq ?_|(refine jq ?_ ?_<;>intro h h')|refine Two_intro ?_ ?_|exact wZ|fail)<;>try refine sxHsb ?_)
 all_goals first
 | exact ro_sw (L:=L) (x:=some (g,cap)) (some (gx,gd)) (hcP cap L) ⟨⟨h3,hd⟩,fun h=>by cases h⟩ (by first|(simp[arR,lk,r_two,rl_cons,rl_nil,al_agg,al_bool,AV.alias,ofK,view,l_all, *];done)|fail) (by first|(simp[*,LeL,lk,a0b,a2M,ov_cons,ov_nil,del_cons,del_nil];done)|fail)
 | exact ro_sw (L:=L) (x:=some (g,cap)) (some (gx,gd)) (hcP gc L1) ⟨⟨h3,hd⟩,fun h=>by cases h⟩ (by first|(simp[arR,lk,r_two,rl_cons,rl_nil,al_agg,al_bool,AV.alias,ofK,view,l_all, *];done)|fail) (by first|(simp[*,LeL,lk,a0b,a2M,ov_cons,ov_nil,del_cons,del_nil];done)|fail)
 | exact ro_sw (L:=L) (x:=some (g,cap)) (some (gb,gd)) (hcP cap L) ⟨⟨h2,hd⟩,fun h=>by cases h⟩ (by first|(simp[arR,lk,r_two,rl_cons,rl_nil,al_agg,al_bool,AV.alias,ofK,view,l_all, *];done)|fail) (by first|(simp[*,LeL,lk,a0b,a2M,ov_cons,ov_nil,del_cons,del_nil];done)|fail)
 | exact ro_sw (L:=L) (x:=some (g,cap)) (some (g,gd)) [] ⟨⟨hgs,hd⟩,fun h=>by cases h⟩ (by first|(simp[arR,lk,r_two,rl_cons,rl_nil,al_agg,al_bool,AV.alias,ofK,view,l_all, *];done)|fail) (by first|(simp[*,LeL,lk,a0b,a2M,ov_cons,ov_nil,del_cons,del_nil];done)|fail)
end
section
open Go.RowKit Go.Lib
set_option maxRecDepth 100000
theorem sxHsj{A B:Prop}(h:B)(e:A=B:=by (simp (disch:=omega) only[*, ↓Ed,Eu, ↓reduceIte,reduceCtorEq,Nat.reduceAdd,Nat.reduceEqDiff,Nat.reduceLT,Nat.reduceLeDiff,Int.reduceToNat,Int.reduceEq,Int.reduceLT,Int.reduceLE,w64,PktC.cs];first|done|rfl)):A:=e▸h
set_option maxHeartbeats 8000000 in
theorem b3n(L:List PrP)(hI:StI L)(K:List HdC)(p:List UInt8)(c:Int)(d:List UInt8)(th ta ht tm:Int)(hp:p.length≤1000)(hd:d.length≤100000)(E:Int)(hE:a4l L p c d th ta=E)(h0:E≠0):
  CP Tryz.prog 20 [.agg (c1z L K ht tm),.agg [.str p,.int .i64 c],.str d,.int .i64 th,.int .i64 ta] (.tup [.agg (default:PktC).cs,.agg (c1z L K ht tm),.int .i64 E]):=by
 have hG:=a8y L hI p c (by omega)
 have hN:=b5h L hI 4 p c (by omega)
 have hM:=fun (h:(a3k L p c).2=true)=>b0Q (a1u L p c d th ta) (by simp only[a1u];omega) (by simp only[a1u];have:=getE_short h;omega) (by simp only[a1u];omega)
 unfold a4l at hE
 unfold a1u at hE hM
 unfold prV at hG hN
 clear hI
 generalize a5w L 4 p c=nn at *
 generalize a3k L p c=G at *
 obtain ⟨⟨g1,g2,g3,g4,g5⟩,g6⟩:=G
 simp only at hE hM hG
 refine a3s _ _ (by simp) ?_
 have hdk:(default:PktC)=⟨[],0,[],0,0,[],0,0⟩:=rfl
 rw[hdk]
 cases g6 with
 | false=>
  rw[if_pos rfl]at hE
  subst hE
  clear hM hdk h0
  simp only[a0H];refine sxHsj ?_
  repeat' ((first|exact tt|refine CallO_pure (hG) ?_|refine CallO_pure (hN) ?_|refine na fun b=>?_|refine nb fun b hb=>?_|refine iq ?_|(refine jq ?_ ?_<;>intro h h')|refine Two_intro ?_ ?_|exact wZ|fail)<;>try refine sxHsj ?_)
  all_goals trace_state
 | true=>
  rw[if_neg (by simp)]at hE
  have hM:=hM rfl
  cases g4 with
  | true=>
   rw[if_pos rfl]at hE
   subst hE
   clear hM hdk h0
   simp only[a0H];refine sxHsj ?_
   repeat' ((first|exact tt|refine CallO_pure (hG) ?_|refine CallO_pure (hN) ?_|refine CallO_pure (hM) ?_|refine na fun b=>?_|refine nb fun b hb=>?_|refine iq ?_|(refine jq ?_ ?_<;>intro h h')|refine Two_intro ?_ ?_|exact wZ|fail)<;>try refine sxHsj ?_)
  | false=>
   rw[if_neg (by simp)]at hE
   by_cases hn:1099511627776<nn
   ·rw[if_pos hn]at hE
    subst hE
    have f1:a0d (decide (1099511627776<nn)=true):=by simp only[a0d,Hn];exact hn
    clear hM hdk h0 hn
    simp only[a0H];refine sxHsj ?_
    repeat' ((first|exact tt|refine CallO_pure (hG) ?_|refine CallO_pure (hN) ?_|refine CallO_pure (hM) ?_|refine na fun b=>?_|refine nb fun b hb=>?_|refine iq ?_|(refine jq ?_ ?_<;>intro h h')|refine Two_intro ?_ ?_|exact wZ|fail)<;>try refine sxHsj ?_)
   ·rw[if_neg hn]at hE
    have f1:a0d (decide (1099511627776<nn)=false):=fo
    generalize a6h ⟨p,c,g1,g2,nn,d,th,ta⟩=mk at *
    cases mk with
    | true=>
     rw[if_neg (by simp)]at hE
     exact absurd hE.symm h0
    | false=>
     rw[if_pos rfl]at hE
     subst hE
     clear hdk h0 hn
     simp only[a0H];refine sxHsj ?_
     repeat' ((first|exact tt|refine CallO_pure (hG) ?_|refine CallO_pure (hN) ?_|refine CallO_pure (hM) ?_|refine na fun b=>?_|refine nb fun b hb=>?_|refine iq ?_|(refine jq ?_ ?_<;>intro h h')|refine Two_intro ?_ ?_|exact wZ|fail)<;>try refine sxHsj ?_)
set_option maxHeartbeats 8000000 in
theorem b7A(L:List PrP)(n:Nat)(hB:StB L n)(hn:n≤900)(K:List HdC)(p:List UInt8)(c:Int)(d:List UInt8)(th ta ht tm:Int)(hp:p.length≤1000)(hd:d.length≤100000)(hE:a4l L p c d th ta=0):
  CP Tryz.prog 20 [.agg (c1z L K ht tm),.agg [.str p,.int .i64 c],.str d,.int .i64 th,.int .i64 ta] (.tup [.agg (a1u L p c d th ta).cs,.agg (c1z (a5M L (a1u L p c d th ta)) K ht tm),.int .i64 0]):=by
 obtain ⟨e1,e2,e3⟩:=pkt_ok hE
 have hI:=hB.I
 have hG:=a8y L hI p c (by omega)
 have hN:=b5h L hI 4 p c (by omega)
 have hsh:=getE_short e1
 have hM:=b0Q (a1u L p c d th ta) (by simp only[a1u];omega) (by simp only[a1u];omega) (by simp only[a1u];omega)
 have hK:=b1J (a1u L p c d th ta) (by simp only[a1u];omega) (by simp only[a1u];omega) (by simp only[a1u];omega) e3
 have hll:=hB.b
 have hS:=a9E L (by omega) 4 p c (by omega) ((a1u L p c d th ta).q+1)
 have hO:=b3T 1 p c (a1u L p c d th ta).q (by omega)
 have hsl:=a3m L (ofP 4 p c 0) (pn ((a1u L p c d th ta).q+1))
 have hS2:=a9D (a2f L (ofP 4 p c 0) (pn ((a1u L p c d th ta).q+1))) (by omega) (ofP 1 p c (a1u L p c d th ta).q) (a1E (a1u L p c d th ta))
 unfold a5M
 unfold prV at hG hN hS hS2
 unfold a1u at hM hK hS hS2 hO hsl e3 ⊢
 clear hE hB hI hsh
 generalize a5w L 4 p c=nn at *
 generalize a3k L p c=G at *
 obtain ⟨⟨g1,g2,g3,g4,g5⟩,g6⟩:=G
 simp only at hM hK hS hS2 hO e3 hG e1 e2 ⊢
 subst e1 e2
 rw[e3]at hM
 have hmx:=mayK_parts e3
 have hn2:=hmx.2.2.1
 simp only at hn2
 have f1:a0d (decide (1099511627776<nn)=false):=fo
 clear e3 hmx
 generalize a2f L (ofP 4 p c 0) (pn (nn+1))=L1 at *
 generalize a2f L1 (ofP 1 p c nn) (a1E ⟨p,c,g1,g2,nn,d,th,ta⟩)=L2 at *
 generalize a1E ⟨p,c,g1,g2,nn,d,th,ta⟩=kv at *
 generalize ofP 1 p c nn=key at *
 refine a3s _ _ (by simp) ?_
 simp only[a0H];refine sxHsj ?_
 repeat' ((first|exact tt|refine CallO_pure (hG) ?_|refine CallO_pure (hN) ?_|refine CallO_pure (hM) ?_|refine CallO_pure (hS) ?_|refine CallW_intro (hS) ?_|refine CallO_pure (hO) ?_|refine CallW_intro (hO) ?_|refine CallO_pure (hK) ?_|refine CallW_intro (hK) ?_|refine CallW_intro (hS2) ?_|refine CallO_pure (hS2) ?_|refine na fun b=>?_|refine nb fun b hb=>?_|refine iq ?_|(refine jq ?_ ?_<;>intro h h')|refine Two_intro ?_ ?_|exact wZ|fail)<;>try refine sxHsj ?_)
end
section
open Go.RowKit Go.Lib
set_option maxRecDepth 100000
section
variable {d:Option Nat} {st:St} {KK:St→Prop}
theorem c_own{f:Nat}{vs:List AV}{L:List PrP}{K:List HdC}{ht tm:Int}(h:CT Tryz.prog f vs (lk []) (c2l L K ht tm))
  (k0:∀ s c m,stOk s L none→(¬ c=s∧¬ s=c)→(¬ m=s∧¬ s=m)→(¬ c=m∧¬ m=c)→st.o s=none→st.o c=none→st.o m=none→
   KS (St.put ⟨st.t,ovr [(s,[.nils 115 2]),(c,[.mapv m]),(m,[mpH K])] st.o⟩ d (.tup [.agg [.ptr s 0,.ptr c 0,.int .i64 ht,.int .i64 tm,.sl none 34 []],.bool true])) KK)
  (k1:∀ s c m g cap,stOk s L (some (g,cap))→((¬ g=c∧¬ c=g)∧(¬ g=m∧¬ m=g))→(¬ c=s∧¬ s=c)→(¬ m=s∧¬ s=m)→(¬ c=m∧¬ m=c)→st.o s=none→st.o c=none→st.o m=none→st.o g=none→
   KS (St.put ⟨st.t,ovr [(s,[.hsl g 115 2 L.length cap]),(g,hcP cap L),(c,[.mapv m]),(m,[mpH K])] st.o⟩ d (.tup [.agg [.ptr s 0,.ptr c 0,.int .i64 ht,.int .i64 tm,.sl none 34 []],.bool true])) KK):
  a2b Tryz.prog f vs d st KK:=by
 refine ⟨_,_,fun b cs hb=>by simp[lk]at hb,h, ?_⟩
 rintro r o2 ⟨s,c,m,x,⟨hx,ho,h1,h2,h3⟩,rfl,rfl⟩ hf
 have hf':∀ b,(∃ cs,lk (stO s L x++b3M c m K) b=some cs)→st.o b=none:=fun b ⟨cs,hb⟩=>hf b cs hb rfl
 rcases x with _ | ⟨g,cap⟩
 ·exact k0 s c m hx h1 h2 h3 (hf' s ⟨_,by simp[a0f,lk];rfl⟩) (hf' c ⟨_,by simp[a0f,lk,h1];rfl⟩) (hf' m ⟨_,by simp[a0f,lk,h2,h3];rfl⟩)
 ·simp only[b3g,List.mem_cons,List.not_mem_nil,or_false,forall_eq_or_imp,forall_eq]at ho
  have hg:=hx.1
  exact k1 s c m g cap hx ho h1 h2 h3 (hf' s ⟨_,by simp[a0b,lk];rfl⟩) (hf' c ⟨_,by simp[a0b,lk,h1,ho];rfl⟩) (hf' m ⟨_,by simp[a0b,lk,h2,h3,ho];rfl⟩) (hf' g ⟨_,by simp[a0b,lk,hg];rfl⟩)
theorem c_sendS{f s g cap:Nat}{vs:List AV}{L L':List PrP}{v:AV}(h:CT Tryz.prog f vs (lk [(s,[.hsl g 115 2 L.length cap]),(g,hcP cap L)]) (setW s L' (some (g,cap)) v))
  (k1:∀ c,L'.length≤c→KS (St.put ⟨st.t,ovr [(s,[.hsl g 115 2 L'.length c]),(g,hcP c L')] st.o⟩ d v) KK)
  (k2:∀ b c cs,st.o b=none→(¬ b=s∧¬ s=b)→(¬ b=g∧¬ g=b)→L'.length≤c→KS (St.put ⟨st.t,ovr [(s,[.hsl b 115 2 L'.length c]),(b,hcP c L'),(g,cs)] st.o⟩ d v) KK)
  (q0:¬ g=s∧¬ s=g)
  (q1:st.o s=some [.hsl g 115 2 L.length cap]:=by first|((repeat (first|exact lk_hd _ _ _|(refine lk_tl ?_ ?_;(focus (first|assumption|(simp only[*,not_false_eq_true];done))))));done)|fail) (q2:st.o g=some (hcP cap L):=by first|((repeat (first|exact lk_hd _ _ _|(refine lk_tl ?_ ?_;(focus (first|assumption|(simp only[*,not_false_eq_true];done))))));done)|fail):a2b Tryz.prog f vs d st KK:=by
 refine ⟨_,_,lk_sub2 q1 q2,h, ?_⟩
 rintro r o2 ⟨y,cs,⟨hy,hyx⟩,rfl,rfl⟩ hf
 rcases y with _ | ⟨b,c⟩
 ·cases hyx rfl
 have hb:=hy.1
 by_cases e:b=g
 ·subst e
  have e2:(fun b'=>(lk (ov (stO s L' (some (b,c))) (jkO (some (b,cap)) cs)) b').or (st.o b'))=ovr [(s,[.hsl b 115 2 L'.length c]),(b,hcP c L')] st.o:=by
   funext q
   simp only[a2M,a0b,ov_cons,ov_nil,del_cons,del_nil,ovr,hb,if_false,if_true]
  rw[e2]
  exact k1 c hy.2
 ·have e':¬ g=b:=fun h=>e h.symm
  have e2:(fun b'=>(lk (ov (stO s L' (some (b,c))) (jkO (some (g,cap)) cs)) b').or (st.o b'))=ovr [(s,[.hsl b 115 2 L'.length c]),(b,hcP c L'),(g,cs)] st.o:=by
   funext q
   simp only[a2M,a0b,ov_cons,ov_nil,del_cons,del_nil,ovr,q0,e,e',if_false]
  rw[e2]
  refine k2 b c cs (hf b (hcP c L') ?_ ?_) hb ⟨e,e'⟩ hy.2
  ·simp[a2M,a0b,ov_cons,ov_nil,del_cons,del_nil,lk,hb,e]
  ·simp[lk,hb,e]
end
end
section
open Go.RowKit Go.Lib
set_option maxRecDepth 100000
theorem set_perm{L:List PrP}{k:List UInt8}(h:a1G L k=false)(v:List UInt8):(a2f L k v).Perm ((k,v)::L):=by
 rw[setS_f h]
 unfold a7Q
 have h1:(L.take (a0v L k)++[(k,v)]++L.drop (a0v L k)).Perm ((k,v)::(L.take (a0v L k)++L.drop (a0v L k))):=by
  rw[List.append_assoc];exact List.perm_middle
 rwa [List.take_append_drop]at h1
theorem key_q{w:Int}{p:List UInt8}{c:Int}(hk:4≤w∧w≤7)(hm:a1S p c=true):OfQ (ofP w p c 0) w p c 0:=by
 rcases @ofP_q w p c 0 with h|h
 ·exact absurd h (ofP_some hk hm)
 ·exact h
theorem key_inj{w w':Int}{p p':List UInt8}{c c':Int}(hk:4≤w∧w≤7)(hk':4≤w'∧w'≤7)(hm:a1S p c=true)(hm':a1S p' c'=true)(e:ofP w p c 0=ofP w' p' c' 0):w=w'∧p=p'∧c=c':=by
 have a:=key_q hk hm
 rw[e]at a
 have:=a.inj (key_q hk' hm')
 exact ⟨this.1,this.2.1,this.2.2.1⟩
theorem okG_parts{x:GnC}(h:okG x=true):a1S x.p x.c=true∧a1S x.q x.d=true∧1≤x.n∧x.n≤1099511627777:=by
 simp only[okG,Bool.and_eq_true,decide_eq_true_eq]at h
 exact ⟨h.1.1,h.1.2,h.2.1,h.2.2⟩
theorem own_may{x:GnC}(h:okG x=true):(b2z x).may=true:=by
 have:=okG_parts h
 simp[Es.may,b2z,this.2.1]
theorem b1m:∀ (l:List GnC) (s:List a9L),a7I s l=0→(∀ x∈l,okG x=true∧a2K x ∉ s)∧(l.map a2K).Nodup
 | [],s,_=>⟨(fun x h=>by cases h),List.nodup_nil⟩
 | x::r,s,h=>by
  rw[a7I]at h
  by_cases h1:okG x=false
  ·rw[if_pos h1]at h;cases h
  rw[if_neg h1,b4m]at h
  by_cases h2:a2K x∈s
  ·rw[if_pos (decide_eq_true h2)]at h;cases h
  rw[if_neg (by simp[h2])]at h
  have ih:=b1m r _ h
  refine ⟨fun y hy=>?_, ?_⟩
  ·rcases List.mem_cons.1 hy with rfl|hy
   ·exact ⟨by simpa using h1,h2⟩
   ·exact ⟨(ih.1 y hy).1,fun hs=>(ih.1 y hy).2 (List.mem_append_left _ hs)⟩
  ·rw[List.map_cons,List.nodup_cons]
   refine ⟨fun hx=>?_,ih.2⟩
   obtain ⟨y,hy,e⟩:=List.mem_map.1 hx
   exact (ih.1 y hy).2 (by rw[e];simp)
structure GoodG (l:List GnC):Prop where
 len:l.length≤6
 ok:∀ i,i<l.length→okG (l.getD i default)=true
 apart:∀ i j,i<j→j<l.length→a2K (l.getD i default)≠a2K (l.getD j default)
theorem good_of{l:List GnC}(h:b1Q l=0):GoodG l:=by
 unfold b1Q at h
 by_cases h6:6<l.length
 ·rw[if_pos h6]at h;cases h
 rw[if_neg h6]at h
 have hz:=b1m l [] h
 refine ⟨by omega,fun i hi=>?_,fun i j hij hj=>?_⟩
 ·have e:l.getD i default=l[i]:=by simp[List.getD,hi]
  rw[e];exact (hz.1 _ (List.getElem_mem hi)).1
 ·have e1:l.getD i default=l[i]:=by simp[List.getD,show i<l.length by omega]
  have e2:l.getD j default=l[j]:=by simp[List.getD,hj]
  rw[e1,e2]
  have:=List.pairwise_iff_getElem.1 hz.2 i j (by simp;omega) (by simpa using hj) hij
  simpa using this
def b5U(x:GnC)(w:Nat):List UInt8:=if w=7 then (b2z x).enc else pn x.n
noncomputable def c1p (x:GnC) (w:Nat):PrP:=(ofP (w:Int) x.p x.c 0,b5U x w)
noncomputable def b1o (l:List GnC):Nat→List PrP
 | 0=>[]
 | i+1=>c1p (l.getD i default) 6::c1p (l.getD i default) 5::c1p (l.getD i default) 4::c1p (l.getD i default) 7::b1o l i
theorem ents_mem{l:List GnC}{q:PrP}:∀ {i:Nat},q∈b1o l i↔∃ j w,j<i∧(4≤w∧w≤7)∧q=c1p (l.getD j default) w
 | 0=>by simp[b1o]
 | i+1=>by
  simp only[b1o,List.mem_cons,ents_mem (i:=i)]
  constructor
  ·rintro (h|h|h|h | ⟨j,w,h1,h2,h3⟩)
   ·exact ⟨i,6,by omega,by omega,h⟩
   ·exact ⟨i,5,by omega,by omega,h⟩
   ·exact ⟨i,4,by omega,by omega,h⟩
   ·exact ⟨i,7,by omega,by omega,h⟩
   ·exact ⟨j,w,by omega,h2,h3⟩
  ·rintro ⟨j,w,h1,h2,h3⟩
   by_cases e:j=i
   ·subst e
    obtain rfl|rfl|rfl|rfl:w=4∨w=5∨w=6∨w=7:=by omega
    ·exact .inr (.inr (.inl h3))
    ·exact .inr (.inl h3)
    ·exact .inl h3
    ·exact .inr (.inr (.inr (.inl h3)))
   ·exact .inr (.inr (.inr (.inr ⟨j,w,by omega,h2,h3⟩)))
theorem enc_own{x:GnC}(h:okG x=true):a4H (b2z x)=((b2z x).enc,0):=by simp[a4H,own_may h]
theorem lay_step{L S:List PrP}(hr:a2Q L)(hp:L.Perm S){k v:List UInt8}(hk:∀ q∈S,q.1≠k):a2Q (a2f L k v)∧(a2f L k v).Perm ((k,v)::S):=by
 have hh:a1G L k=false:=by
  cases h:a1G L k with
  | false=>rfl
  | true=>exact absurd rfl (hk _ (hp.mem_iff.1 (found_mem h)))
 exact ⟨setS_rise hr k v,(set_perm hh v).trans (hp.cons _)⟩
theorem ini_perm{l:List GnC}(g:GoodG l):∀ {i:Nat},i≤l.length→a2Q (a1P l i)∧(a1P l i).Perm (b1o l i)
 | 0,_=>⟨b0q,List.Perm.refl _⟩
 | i+1,hi=>by
  obtain ⟨h1,h2⟩:=ini_perm g (i:=i) (by omega)
  have hok:=okG_parts (g.ok i (by omega))
  have hold:∀ w:Nat,4≤w∧w≤7→∀ q∈b1o l i,q.1≠ofP (w:Int) (l.getD i default).p (l.getD i default).c 0:=by
   rintro w hw q hq e
   obtain ⟨j,w',hj,hw',rfl⟩:=ents_mem.1 hq
   have:=key_inj (by omega) (by omega) (okG_parts (g.ok j (by omega))).1 hok.1 e
   exact g.apart j i hj (by omega) (by simp only[a2K];rw[this.2.1,this.2.2])
  have hnew:∀ w w':Nat,4≤w∧w≤7→4≤w'∧w'≤7→w≠w'→(c1p (l.getD i default) w).1≠ofP (w':Int) (l.getD i default).p (l.getD i default).c 0:=by
   rintro w w' hw hw' hne e
   have:=key_inj (by omega) (by omega) hok.1 hok.1 e
   omega
  have e7:b1U (a1P l i) (l.getD i default)=a2f (a1P l i) (ofP ((7:Nat):Int) (l.getD i default).p (l.getD i default).c 0) (b5U (l.getD i default) 7):=by
   unfold b1U b5U;rw[enc_own (g.ok i (by omega)),if_pos rfl];rfl
  have s7:=lay_step h1 h2 (v:=b5U (l.getD i default) 7) (hold 7 (by omega))
  rw[← e7]at s7
  have s4:=lay_step s7.1 s7.2 (k:=ofP ((4:Nat):Int) (l.getD i default).p (l.getD i default).c 0) (v:=pn (l.getD i default).n) (fun q hq=>by
   rcases List.mem_cons.1 hq with rfl|hq
   ·exact hnew 7 4 (by omega) (by omega) (by omega)
   ·exact hold 4 (by omega) q hq)
  have s5:=lay_step s4.1 s4.2 (k:=ofP ((5:Nat):Int) (l.getD i default).p (l.getD i default).c 0) (v:=pn (l.getD i default).n) (fun q hq=>by
   rcases List.mem_cons.1 hq with rfl|hq
   ·exact hnew 4 5 (by omega) (by omega) (by omega)
   rcases List.mem_cons.1 hq with rfl|hq
   ·exact hnew 7 5 (by omega) (by omega) (by omega)
   ·exact hold 5 (by omega) q hq)
  have s6:=lay_step s5.1 s5.2 (k:=ofP ((6:Nat):Int) (l.getD i default).p (l.getD i default).c 0) (v:=pn (l.getD i default).n) (fun q hq=>by
   rcases List.mem_cons.1 hq with rfl|hq
   ·exact hnew 5 6 (by omega) (by omega) (by omega)
   rcases List.mem_cons.1 hq with rfl|hq
   ·exact hnew 4 6 (by omega) (by omega) (by omega)
   rcases List.mem_cons.1 hq with rfl|hq
   ·exact hnew 7 6 (by omega) (by omega) (by omega)
   ·exact hold 6 (by omega) q hq)
  exact s6
theorem a9T(l:List GnC):∀ i,(b1o l i).length=4 * i
 | 0=>rfl
 | i+1=>by simp only[b1o,List.length_cons,a9T l i];omega
theorem ini_N{l:List GnC}(g:GoodG l){i:Nat}(hi:i≤l.length):StI (a1P l i):=by
 obtain ⟨h1,h2⟩:=ini_perm g hi
 refine ⟨h1,fun q hq=>?_, ?_⟩
 ·obtain ⟨j,w,hj,hw,rfl⟩:=ents_mem.1 (h2.mem_iff.1 hq)
  have ho:=g.ok j (by omega)
  have hp:=okG_parts ho
  show a0Z (ofP (w:Int) (l.getD j default).p (l.getD j default).c 0) (b5U (l.getD j default) w)=true
  rw[mayPr_of (by omega),hp.1]
  unfold b5U
  split
  ·exact ⟨enc_pos (own_may ho),enc_len (own_may ho)⟩
  ·exact ⟨b3p _ (by omega),by have:=a0I (l.getD j default).n;omega⟩
 ·have:=h2.length_eq
  rw[a9T]at this
  have:=g.len
  omega
theorem ini_len{l:List GnC}(g:GoodG l){i:Nat}(hi:i≤l.length):(a1P l i).length=4 * i:=by
 rw[(ini_perm g hi).2.length_eq,a9T]
theorem ini_found{l:List GnC}(g:GoodG l){i j:Nat}(hi:i≤l.length)(hj:j<i){w:Nat}(hw:4≤w∧w≤7):
  a1G (a1P l i) (ofP (w:Int) (l.getD j default).p (l.getD j default).c 0)=true∧a4E (a1P l i) (ofP (w:Int) (l.getD j default).p (l.getD j default).c 0)=b5U (l.getD j default) w:=by
 obtain ⟨h1,h2⟩:=ini_perm g hi
 exact mem_found h1 (h2.mem_iff.2 (ents_mem.2 ⟨j,w,hj,hw,rfl⟩))
theorem ini_get{l:List GnC}(g:GoodG l){i j:Nat}(hi:i≤l.length)(hj:j<i):a3k (a1P l i) (l.getD j default).p (l.getD j default).c=(b2z (l.getD j default),true):=by
 have h:=ini_found g hi hj (w:=7) (by omega)
 have e:((7:Nat):Int)=7:=rfl
 rw[e]at h
 unfold a3k
 rw[h.1,h.2]
 have:b5U (l.getD j default) 7=(b2z (l.getD j default)).enc:=by unfold b5U;rw[if_pos rfl]
 rw[this,dec_back (own_may (g.ok j (by omega)))]
 simp
theorem ini_next{l:List GnC}(g:GoodG l){i j:Nat}(hi:i≤l.length)(hj:j<i){w:Nat}(hw:4≤w∧w≤6):a5w (a1P l i) (w:Int) (l.getD j default).p (l.getD j default).c=(l.getD j default).n:=by
 have h:=ini_found g hi hj (w:=w) (by omega)
 have hn:=okG_parts (g.ok j (by omega))
 have hx:=b3d [] [] (l.getD j default).n (by omega)
 simp only[List.nil_append,List.append_nil,List.length_nil]at hx
 have hv:b5U (l.getD j default) w=pn (l.getD j default).n:=by unfold b5U;rw[if_neg (by omega)]
 have hx':nx (pn (l.getD j default).n) 0=((l.getD j default).n,((pn (l.getD j default).n).length:Int),0):=hx
 unfold a5w
 rw[h.2,hv,hx',if_pos]
 refine ⟨?_,rfl,by simp⟩
 simp only[okK,Bool.and_eq_true,decide_eq_true_eq];omega
end
section
open Go.RowKit Go.Lib
set_option maxRecDepth 100000
theorem b8w(e:List GnC)(h:e.length≤10):StB (b6i e) 40:=by
 unfold b6i
 split
 ·rename_i hz
  have g:=good_of hz
  exact ⟨ini_N g (Nat.le_refl _),by rw[ini_len g (Nat.le_refl _)];omega⟩
 ·exact nil_B.mono (by omega)
theorem docL_B{x:GvC}(hx:a5v x):StB (c1o x) 90:=by
 obtain ⟨⟨e1, -⟩,k1,⟨m1, -⟩, -⟩:=hx
 unfold c1o
 have h1:=kep_B (b8w x.e e1) x.k (i:=x.k.length) (by omega)
 exact (mor_B h1 x.m (i:=x.m.length) (by omega)).mono (by omega)
structure EdC where
 p:List UInt8
 c:Int
 deriving Inhabited
def edR(l:List EdC):List (List AV):=l.map fun q=>[.str q.p,.int .i64 q.c]
theorem c0t(l:List EdC):(edR l).length=l.length:=by simp[edR]
theorem c0s(l:List EdC)(i:Nat)(h:i<l.length):(edR l).getD i []=[.str (l.getD i default).p,.int .i64 (l.getD i default).c]:=by simp[edR,h]
section
variable {P:Program} {d:Option Nat} {s:St} {K:St→Prop}
theorem c4{f:Nat}{vs:List AV}{r:AV}{b c e g:Nat}{x y z w:List AV}{o2:List (Nat × List AV)}(h:CT P f vs (lk [(b,x),(c,y),(e,z),(g,w)]) (fun r' o'=>r'=r∧o'=lk o2))(hK:KS (St.put ⟨s.t,ovr o2 s.o⟩ d r) K)(h1:s.o b=some x∧s.o c=some y∧s.o e=some z∧s.o g=some w):a2b P f vs d s K:=
 CallO_det h (fun q cs hq=>by
  rw[lk_cons]at hq
  by_cases hb:q=b
  ·subst hb;rw[if_pos rfl]at hq;rw[h1.1,hq]
  ·rw[if_neg hb]at hq;exact lk_sub3 h1.2.1 h1.2.2.1 h1.2.2.2 q cs hq) hK
end
theorem sxHsl{A B:Prop}(h:B)(e:A=B:=by (simp (disch:=omega) only[*, ↓Ed,Eu, ↓reduceIte,reduceCtorEq,Nat.reduceAdd,Nat.reduceEqDiff,Nat.reduceLT,Nat.reduceLeDiff,Int.reduceToNat,Int.reduceEq,Int.reduceLT,Int.reduceLE,w64,GvC.cs,List.length_map,c0t,c0s];first|done|rfl)):A:=e▸h
open Classical in
set_option maxHeartbeats 8000000 in
theorem b0C(hF:CP Tryz.prog 8 [] (.bool true))(x:GvC)(e:List EdC)(data:List UInt8)(th ta:Int):CP Tryz.prog 5 [.agg x.cs,.sl none 2 (edR e),.str data,.int .i64 th,.int .i64 ta] (.bool true):=by
 have hL:=c0H x
 refine a2N _ _ (by simp) ?_
 by_cases h:a5v x∧e.length≤10∧data.length≤600
 rotate_left
 ·have h':¬ (decide (a5v x)=true∧e.length≤10∧data.length≤600):=by simpa using h
  clear h
  generalize decide (a5v x)=A at *
  obtain ⟨e',k,m,o,n,a,ht,tm⟩:=x
  try simp only at hL
  cases A
  all_goals try simp only[true_and,Bool.false_eq_true,false_and,not_false_eq_true]at h'
  all_goals (simp only[a0Q];refine sxHsl ?_;try exact tt)
  all_goals repeat' ((first|exact tt|refine CallO_pure (hF) ?_|refine CallO_pure (hL) ?_|refine na fun b=>?_|refine nb fun b hb=>?_|refine iq ?_|(refine jq ?_ ?_<;>intro h h')|refine Two_intro ?_ ?_|exact wZ|fail)<;>try refine sxHsl ?_)
  all_goals (exfalso;simp only[a0d,Hn]at *;omega)
 obtain ⟨hx,he,hda⟩:=h
 rw[decide_eq_true hx]at hL
 obtain ⟨r,hrr⟩:∃ r:List Int,r=(b2J (a5N [] x.o x.o.length)).map fun b=>(b.toNat:Int):=⟨_,rfl⟩
 have hr:r.length=32:=by rw[hrr,List.length_map];exact a8l _ _
 have hD:=c2m x hx r hr hrr (b8w x.e hx.1.1)
 have hB:=docL_B hx
 have hK:=c2j r hr x.a x.n x.n.length
 have hO:=c2y (c1o x) (knF r hr x.a x.n x.n.length) x.ht x.tm (hB.mono (by omega)) hK (by have:=hx.2.2.2.2.1;omega)
 generalize c1o x=L at *
 have hnl:x.n.length≤100:=by have:=hx.2.2.2.2.1;omega
 generalize knF r hr x.a x.n x.n.length=K at *
 generalize x.n.length=kn at *
 clear hx hrr
 obtain ⟨e',k,m',o,n,a,ht,tm⟩:=x
 simp only at hL hD hO
 simp only[a0Q];refine sxHsl ?_
 repeat' ((first|exact tt|refine CallO_pure (hF) ?_|refine CallO_pure (hL) ?_|refine CallO_pure (hD) ?_|((refine c_own hO (fun s c m hs hcs hms hcm f1 f2 f3=>?_) (fun s c m g cap hs hg hcs hms hcm f1 f2 f3 f4=>?_))<;>(try simp only[ln_cons2,ln_nil,and_true]at f1 f2 f3)<;>(try simp only[ln_cons2,ln_nil,and_true]at f4))|refine na fun b=>?_|refine nb fun b hb=>?_|refine iq ?_|(refine jq ?_ ?_<;>intro h h')|refine Two_intro ?_ ?_|exact wZ|fail)<;>try refine sxHsl ?_)
 all_goals rename_i bx _ _ bd hbd
 ·obtain rfl:L=[]:=hs
  clear hD hO hL hB
  have hSm:=c0o s c m [] (by simp) K hK hnl ht tm none rfl (b6R _) hcs hms hcm
  simp only[a0f,List.cons_append,List.nil_append]at hSm
  refine wpx_loop (fun i:Nat=>⟨lk [(1,.sl none 2 (edR e)),(2,.str data),(3,.int .i64 th),(4,.int .i64 ta),(11,.ptr bd 0),(12,.ptr b 0),(14,.int .i64 (i:Int))],lk [(bd,[.sl none 2 (prR []),.sl none 34 (hds K),.int .i64 ht,.int .i64 tm,.nils 31 34]),(b,[.ptr s 0,.ptr c 0,.int .i64 ht,.int .i64 tm,.sl none 34 []]),(s,[.nils 115 2]),(c,[.mapv m]),(m,[mpH K])]⟩)
   (fun i=>i≤e.length) (fun i=>e.length - i) 0 (by omega) (Le_lit (by simp[LeL,lk, *];done)) ?_
  intro i hi
  by_cases hil:i<e.length
  rotate_left
  ·obtain rfl:i=e.length:=by omega
   have g1':a0d (decide ((e.length:Int)<e.length)=false):=fo
   refine sxHsl ?_
   repeat' ((first|exact tt|refine c3 (hSm) ?_|refine na fun b=>?_|refine nb fun b hb=>?_|refine iq ?_|(refine jq ?_ ?_<;>intro h h')|refine Two_intro ?_ ?_|exact wZ|fail)<;>try refine sxHsl ?_)
  have g1':a0d (decide ((i:Int)<e.length)=true):=fo
  obtain ⟨⟨p,ec⟩,hgd⟩:∃ y,e.getD i default=y:=⟨_,rfl⟩
  by_cases hp:p.length≤60
  rotate_left
  ·have g2':a0d (decide (60<(p.length:Int))=true):=fo
   clear hSm
   refine sxHsl ?_
   repeat' ((first|exact tt|refine CallO_pure (hF) ?_|refine na fun b=>?_|refine nb fun b hb=>?_|refine iq ?_|(refine jq ?_ ?_<;>intro h h')|refine Two_intro ?_ ?_|exact wZ|fail)<;>try refine sxHsl ?_)
  have g2':a0d (decide (60<(p.length:Int))=false):=fo
  have hE:a4l [] p ec data th ta≠0:=fun h=>by
   have e1:=(pkt_ok h).1
   unfold a3k at e1
   simp only[Bool.and_eq_true]at e1
   obtain ⟨_,_,hh⟩:=stOk_has e1.1 (show stOk s [] none from rfl)
   cases hh
  have hSE:=b3I s c [] nil_B.I p ec data th ta ht tm [] (by omega) (by omega) none rfl _ rfl hE
  have hRE:=b3n [] nil_B.I K p ec data th ta ht tm (by omega) (by omega) _ rfl hE
  have hdk:(default:PktC)=⟨[],0,[],0,0,[],0,0⟩:=rfl
  rw[hdk]at hSE hRE
  have f9:a0d (decide (a4l [] p ec data th ta=0)=false):=decide_eq_false hE
  clear hE hdk
  generalize a4l [] p ec data th ta=E at *
  simp only[a0f]at hSE
  refine sxHsl ?_
  repeat' ((first|exact tt|refine c1 (hSE) ?_|refine CallO_pure (hRE) ?_|refine CallW_intro (hRE) ?_|refine c3 (hSm) ?_|refine na fun b=>?_|refine nb fun b hb=>?_|refine iq ?_|(refine jq ?_ ?_<;>intro h h')|refine Two_intro ?_ ?_|exact wZ|fail)<;>try refine sxHsl ?_)
  all_goals first
  | exact Round_lit (i+1) ⟨Le_lit (by first|(simp[LeL,lk, *];done)|fail),hil,by omega⟩
  | (exfalso;simp only[a0d,Hn]at *;omega)
 have hgs:=hs.1
 refine wpx_loop (fun q:Nat × List PrP × Nat × Nat=>⟨lk [(1,.sl none 2 (edR e)),(2,.str data),(3,.int .i64 th),(4,.int .i64 ta),(11,.ptr bd 0),(12,.ptr b 0),(14,.int .i64 (q.1:Int))],lk [(bd,[.sl none 2 (prR q.2.1),.sl none 34 (hds K),.int .i64 ht,.int .i64 tm,.nils 31 34]),(b,[.ptr s 0,.ptr c 0,.int .i64 ht,.int .i64 tm,.sl none 34 []]),(s,[.hsl q.2.2.1 115 2 q.2.1.length q.2.2.2]),(q.2.2.1,hcP q.2.2.2 q.2.1),(c,[.mapv m]),(m,[mpH K])]⟩)
  (fun q=>q.1≤e.length∧StB q.2.1 (90+2 * q.1)∧q.2.1.length≤q.2.2.2∧(¬ q.2.2.1=s∧¬ s=q.2.2.1)∧(¬ q.2.2.1=c∧¬ c=q.2.2.1)∧(¬ q.2.2.1=m∧¬ m=q.2.2.1)∧(¬ q.2.2.1=bd∧¬ bd=q.2.2.1)∧(¬ q.2.2.1=b∧¬ b=q.2.2.1)) (fun q=>e.length - q.1) (0,L,g,cap)
  ⟨by simp,hB,hs.2,hgs,hg.1,hg.2,f4.2,by simp[*]⟩ (Le_lit (by simp[LeL,lk, *];done)) ?_
 rintro ⟨i,L1,g1,cap1⟩ ⟨hi,hB1,hc1,d1,d2,d3,d4,d5⟩
 simp only at hi hB1 hc1 d1 d2 d3 d4 d5 ⊢
 clear hD hO hL hg hgs hs f4
 have hSm:=fun (L2:List PrP) (hl2:L2.length≤1000) (g2 c2:Nat) (a1:¬ g2=s∧¬ s=g2) (a2:L2.length≤c2) (a3:¬ g2=c∧¬ c=g2) (a4:¬ g2=m∧¬ m=g2)=>c0o s c m L2 hl2 K hK hnl ht tm (some (g2,c2)) ⟨a1,a2⟩ (off_some (by simp[a3,a4])) hcs hms hcm
 simp only[a0b,List.cons_append,List.nil_append]at hSm
 by_cases hil:i<e.length
 rotate_left
 ·obtain rfl:i=e.length:=by omega
  have g1':a0d (decide ((e.length:Int)<e.length)=false):=fo
  have hSm1:=hSm L1 (by have:=hB1.b;omega) g1 cap1 d1 hc1 d2 d3
  clear hSm hB1
  refine sxHsl ?_
  repeat' ((first|exact tt|(refine c4 hSm1 ?_ (by first|(simp[lk, *];done)|fail))|refine na fun b=>?_|refine nb fun b hb=>?_|refine iq ?_|(refine jq ?_ ?_<;>intro h h')|refine Two_intro ?_ ?_|exact wZ|fail)<;>try refine sxHsl ?_)
 have g1':a0d (decide ((i:Int)<e.length)=true):=fo
 obtain ⟨⟨p,ec⟩,hgd⟩:∃ y,e.getD i default=y:=⟨_,rfl⟩
 by_cases hp:p.length≤60
 rotate_left
 ·have g2':a0d (decide (60<(p.length:Int))=true):=fo
  clear hSm hB1
  refine sxHsl ?_
  repeat' ((first|exact tt|refine CallO_pure (hF) ?_|refine na fun b=>?_|refine nb fun b hb=>?_|refine iq ?_|(refine jq ?_ ?_<;>intro h h')|refine Two_intro ?_ ?_|exact wZ|fail)<;>try refine sxHsl ?_)
 have g2':a0d (decide (60<(p.length:Int))=false):=fo
 by_cases hE:a4l L1 p ec data th ta=0
 rotate_left
 ·have hSE:=b3I s c L1 hB1.I p ec data th ta ht tm [] (by omega) (by omega) (some (g1,cap1)) ⟨d1,hc1⟩ _ rfl hE
  have hRE:=b3n L1 hB1.I K p ec data th ta ht tm (by omega) (by omega) _ rfl hE
  have hSm1:=hSm L1 (by have:=hB1.b;omega) g1 cap1 d1 hc1 d2 d3
  have hB2:StB L1 (90+2 * (i+1)):=hB1.mono (by omega)
  have hdk:(default:PktC)=⟨[],0,[],0,0,[],0,0⟩:=rfl
  rw[hdk]at hSE hRE
  have f9:a0d (decide (a4l L1 p ec data th ta=0)=false):=decide_eq_false hE
  clear hSm hB1 hE hdk
  generalize a4l L1 p ec data th ta=E at *
  simp only[a0b]at hSE
  refine sxHsl ?_
  repeat' ((first|exact tt|refine c2 (hSE) ?_|refine CallO_pure (hRE) ?_|refine CallW_intro (hRE) ?_|(refine c4 hSm1 ?_ (by first|(simp[lk, *];done)|fail))|refine na fun b=>?_|refine nb fun b hb=>?_|refine iq ?_|(refine jq ?_ ?_<;>intro h h')|refine Two_intro ?_ ?_|exact wZ|fail)<;>try refine sxHsl ?_)
  all_goals first
  | exact Round_lit (i+1,L1,g1,cap1) ⟨Le_lit (by first|(simp[LeL,lk, *];done)|fail),⟨hil,hB2,hc1,d1,d2,d3,d4,d5⟩,by simp only;omega⟩
  | (exfalso;simp only[a0d,Hn]at *;omega)
 ·have hSO:=b3J s c L1 (90+2 * i) hB1 (by omega) p ec data th ta ht tm [] (by omega) (by omega) (some (g1,cap1)) ⟨d1,hc1⟩ hE
  have hRO:=b7A L1 (90+2 * i) hB1 (by omega) K p ec data th ta ht tm (by omega) (by omega) hE
  have hB2:StB (a5M L1 (a1u L1 p ec data th ta)) (90+2 * (i+1)):=(send_B hB1 (by omega) (pkt_ok hE).2.2).mono (by omega)
  have hEv:=b3Q 1 (a1u L1 p ec data th ta)
  have hSm1:=hSm (a5M L1 (a1u L1 p ec data th ta)) (by have:=hB2.b;omega)
  clear hSm hB1 hE
  generalize a5M L1 (a1u L1 p ec data th ta)=L2 at *
  generalize a1u L1 p ec data th ta=q at *
  obtain ⟨q1,q2,q3,q4,q5,q6,q7,q8⟩:=q
  simp only[b6k]at hEv
  simp only[ofK]at hSO
  simp only[a0b]at hSO
  refine sxHsl ?_
  repeat' ((first|exact tt|refine CallO_pure (hRO) ?_|refine CallW_intro (hRO) ?_|refine CallO_pure (hEv) ?_|((refine c_sendS hSO (fun c2 e2=>?_) (fun gb c2 cs f5 f6 f7 e2=>?_) d1)<;>(try simp only[ln_cons2,ln_nil,and_true]at f5))|(refine c4 (hSm1 g1 _ d1 (by assumption) d2 d3) ?_ (by first|(simp[lk, *];done)|fail))|(refine c4 (hSm1 gb _ f6 (by assumption) (by first|(simp only[*,not_false_eq_true,and_self];done)|fail) (by first|(simp only[*,not_false_eq_true,and_self];done)|fail)) ?_ (by first|(simp[lk, *];done)|fail))|refine na fun b=>?_|refine nb fun b hb=>?_|refine iq ?_|(refine jq ?_ ?_<;>intro h h')|refine Two_intro ?_ ?_|exact wZ|fail)<;>try refine sxHsl ?_)
  all_goals first
  | exact Round_lit (i+1,L2,gb,c2) ⟨Le_lit (by first|(simp[LeL,lk, *];done)|fail),⟨hil,hB2,e2,f6,by first|(simp only[*,not_false_eq_true,and_self];done)|fail,by first|(simp only[*,not_false_eq_true,and_self];done)|fail,by first|(simp only[*,not_false_eq_true,and_self];done)|fail,by first|(simp only[*,not_false_eq_true,and_self];done)|fail⟩,by simp only;omega⟩
  | exact Round_lit (i+1,L2,g1,c2) ⟨Le_lit (by first|(simp[LeL,lk, *];done)|fail),⟨hil,hB2,e2,d1,d2,d3,d4,d5⟩,by simp only;omega⟩
end
end Go.Proofs.YtfgihnhoocnmdaaGreatDoor
