import Derived.Test.YthdcogkdacnheaaGreatDoorK17
import Derived.Test.YthdcogkdacnheaaGreatDoorK11
import Derived.Laws.BitsAllLaws
import Derived.Test.YthdcogkdacnheaaGreatDoorK14
namespace Go.Proofs.YthdcogkdacnheaaGreatDoor
set_option linter.all false
set_option maxHeartbeats 9000000
section
open Go.RowKit
set_option maxRecDepth 100000
theorem gd{l:List (List UInt8)}{i:Nat}(h:(i:Int)<l.length):(l.map fun p=>[AV.str p]).getD i []=[AV.str (l.getD i [])]:=by
 have h':i<l.length:=by omega
 simp[List.getD,List.getElem?_eq_getElem h']
theorem a9H:∀ {s x:List UInt8},x∈sp s→x.length≤s.length
 | [],x,h=>by simp[sp]at h;simp[h]
 | c::t,x,h=>by
  rw[sp]at h
  split at h
  ·rcases List.mem_cons.1 h with rfl|h
   ·simp
   ·have:=a9H h;simp only[List.length_cons];omega
  ·split at h
   ·rename_i e
    simp at h;subst h;simp
   ·rename_i y ys e
    rcases List.mem_cons.1 h with rfl|h
    ·have:=a9H (s:=t) (x:=y) (by rw[e];simp)
     simp only[List.length_cons];omega
    ·have:=a9H (s:=t) (x:=x) (by rw[e];simp[h])
     simp only[List.length_cons];omega
theorem b2x(s:List UInt8)(i:Nat):((pieces s).getD i []).length≤s.length:=by
 rw[a4A]
 by_cases h:i<(sp s).length
 ·rw[List.getD,List.getElem?_eq_getElem h];exact a9H (List.getElem_mem h)
 ·rw[List.getD,List.getElem?_eq_none (by omega)];simp
theorem c7:((7:Nat):Int)=7:=rfl
theorem read_parts{s k p c q}(h:OfQ s k p c q):(pieces s).getD 2 []=p∧(pieces s).getD 4 []=chn++Lib.itoa c∧((pieces s).length=7∧(pieces s).getD 6 []=Lib.itoa q∨(pieces s).length=5∧q=0)∧(1≤k∧k≤7)∧a4K p∧(0≤c∧c≤999)∧(0≤q∧q≤1099511627776):=by
 rw[a4A,h.sp]
 cases h with
 | num hk hp hc hq=>rw[if_pos hk.2];exact ⟨rfl,rfl,.inl ⟨rfl,rfl⟩,by omega,hp,hc,by omega⟩
 | base hk hp hc=>rw[if_neg (by omega)];exact ⟨rfl,rfl,.inr ⟨rfl,rfl⟩,by omega,hp,hc,by omega⟩
noncomputable def a6X (s:List UInt8):Int:=if (pieces s).length=7 then (a3g ((pieces s).getD 6 [])).1 else 0
theorem read_short{s}(h:(pieces s).length<5):a0R s=(0,[],0,0,3):=readP_no fun k p c q g=>by
 have:=(read_parts g).2.2.1;omega
theorem read_end{s}(h:b3I ((pieces s).getD 2 []) ((pieces s).getD 4 [])=false):a0R s=(0,[],0,0,3):=readP_no fun k p c q g=>by
 obtain ⟨e1,e2,_,_,e5,e6,_⟩:=read_parts g
 rw[e1,e2,(end_of e5 e6).2]at h
 cases h
theorem read_hit{s:List UInt8}{k P E Q}(h:ofP k P E Q=s)(h5:¬ (pieces s).length<5):a0R s=(k,P,E,Q,0):=by
 have hs:s≠[]:=fun e=>by subst e;rw[a4A]at h5;simp[sp]at h5
 have := @ofP_q k P E Q
 rw[h]at this
 exact readP_of (this.resolve_left hs)
theorem read_miss{s:List UInt8}(h:∀ k:Nat,k<8→1≤k→ofP k ((pieces s).getD 2 []) (a9l ((pieces s).getD 4 [])) (a6X s)≠s):a0R s=(0,[],0,0,3):=readP_no fun k p c q g=>by
 obtain ⟨e1,e2,e3,e4,e5,e6,e7⟩:=read_parts g
 have hq:a6X s=q:=by
  unfold a6X
  rcases e3 with ⟨h7,h6⟩ | ⟨h7,rfl⟩
  ·rw[if_pos h7,h6,num_itoa (by omega)]
  ·rw[if_neg (by omega)]
 have:=h k.toNat (by omega) (by omega)
 rw[e1,e2,(end_of e5 e6).1,hq,show ((k.toNat:Nat):Int)=k by omega]at this
 exact this g.eq
theorem sxPag{A B:Prop}(h:B)(e:A=B:=by (simp (disch:=omega) only[*, ↓Ed,Eu, ↓reduceIte,reduceCtorEq,Nat.reduceAdd,Nat.reduceEqDiff,Nat.reduceLT,Nat.reduceLeDiff,Int.reduceToNat,Int.reduceEq,Int.reduceLT,Int.reduceLE,w64,a0n,List.length_append,Nat.reduceMul,List.length_map,a4F,byn,gd,c7];first|done|rfl)):A:=e▸h
theorem b4B(s:List UInt8)(hs:s.length≤1000000):CP Tryz.prog 57 [.str s] (.tup [.int .i64 (a0R s).1,.agg [.str (a0R s).2.1,.int .i64 (a0R s).2.2.1],.int .i64 (a0R s).2.2.2.1,.int .i64 (a0R s).2.2.2.2]):=by
  have hm:=a3f
  have hp:=fun i=>Nat.le_trans (b2x s i) hs
  by_cases h5:(pieces s).length<5
  · rw[read_short h5]
    refine a2k _ _ (by simp) ?_
    simp only[a1R, ↓Ed,Eu, ↓reduceIte,reduceCtorEq,Nat.reduceAdd,Nat.reduceEqDiff,Nat.reduceLT,Nat.reduceLeDiff,Int.reduceToNat,Int.reduceEq,Int.reduceLT,Int.reduceLE,w64,a0n,List.length_append,Nat.reduceMul,List.length_map,a4F,byn,gd,c7]
    repeat' ((first|refine CallO_pure (a7D s hs) ?_|refine NewB_intro0 (fun b=>?_)|(refine NewB_intro (fun b hb=>?_);simp only[ln_cons2,ln_nil,and_true]at hb)|(with_reducible apply wA;focus exact OM_a)|((first|refine gW_sp ?_|refine condW_sp ?_|refine pickW_sp ?_);(try refine Sp_n ?_);(first|refine wT ?_|refine wF ?_|refine wL (fun h h'=>?_) (fun h h'=>?_)|refine wE (fun h h'=>?_) (fun h h'=>?_)|refine Sp_split (fun h=>?_) (fun h=>?_))<;>(try (exfalso;omega)))|refine TreeW_intro (by rfl) ?_|refine TreeW_all ?_|refine a0a ?_|refine Two_intro ?_ ?_|exact wZ|fail)<;>(try refine sxPag ?_)<;>(try exact True.intro))
    all_goals (simp only[a0f,Bool.not_eq_true',Bool.not_eq_false',decide_eq_true_eq,decide_eq_false_iff_not]at *;omega)
  cases hE:b3I ((pieces s).getD 2 []) ((pieces s).getD 4 []) with
  | false=>
    rw[read_end hE]
    refine a2k _ _ (by simp) ?_
    simp only[a1R, ↓Ed,Eu, ↓reduceIte,reduceCtorEq,Nat.reduceAdd,Nat.reduceEqDiff,Nat.reduceLT,Nat.reduceLeDiff,Int.reduceToNat,Int.reduceEq,Int.reduceLT,Int.reduceLE,w64,a0n,List.length_append,Nat.reduceMul,List.length_map,a4F,byn,gd,c7]
    repeat' ((first|refine CallO_pure (a7D s hs) ?_|refine CallW_intro (a9Y _ _ (hp _) (hp _)) ?_|refine CallO_pure (a9Y _ _ (hp _) (hp _)) ?_|refine NewB_intro0 (fun b=>?_)|(refine NewB_intro (fun b hb=>?_);simp only[ln_cons2,ln_nil,and_true]at hb)|(with_reducible apply wA;focus exact OM_a)|((first|refine gW_sp ?_|refine condW_sp ?_|refine pickW_sp ?_);(try refine Sp_n ?_);(first|refine wT ?_|refine wF ?_|refine wL (fun h h'=>?_) (fun h h'=>?_)|refine wE (fun h h'=>?_) (fun h h'=>?_)|refine Sp_split (fun h=>?_) (fun h=>?_))<;>(try (exfalso;omega)))|refine TreeW_intro (by rfl) ?_|refine TreeW_all ?_|refine a0a ?_|refine Two_intro ?_ ?_|exact wZ|fail)<;>(try refine sxPag ?_)<;>(try exact True.intro))
    rename_i b3
    refine wpx_loop (fun _:Nat=>⟨lk [(0,.str s),(3,.ptr b3 0),(7,.ptr b 0),(8,.bool false),(9,.int .i64 0),(10,.int .i64 1)],lk [(b3,[.str [],.int .i64 0]),(b,[.str ((pieces s).getD 2 []),.int .i64 (a9l ((pieces s).getD 4 []))])]⟩) (fun _=>True) (fun _=>0) 0 trivial (Le_lit (by simp[LeL,lk,hb,hE])) ?_
    intro k _
    simp only[↓Ed,Eu, ↓reduceIte,reduceCtorEq,Nat.reduceAdd,Nat.reduceEqDiff,Nat.reduceLT,Nat.reduceLeDiff,Int.reduceToNat,Int.reduceEq,Int.reduceLT,Int.reduceLE,w64,a0n,List.length_append,Nat.reduceMul,List.length_map,a4F,byn,gd,c7]
    repeat' ((first|refine NewB_intro0 (fun b=>?_)|(refine NewB_intro (fun b hb=>?_);simp only[ln_cons2,ln_nil,and_true]at hb)|(with_reducible apply wA;focus exact OM_a)|((first|refine gW_sp ?_|refine condW_sp ?_|refine pickW_sp ?_);(try refine Sp_n ?_);(first|refine wT ?_|refine wF ?_|refine wL (fun h h'=>?_) (fun h h'=>?_)|refine wE (fun h h'=>?_) (fun h h'=>?_)|refine Sp_split (fun h=>?_) (fun h=>?_))<;>(try (exfalso;omega)))|refine TreeW_intro (by rfl) ?_|refine TreeW_all ?_|refine a0a ?_|refine Two_intro ?_ ?_|exact wZ|fail)<;>(try refine sxPag ?_)<;>(try exact True.intro))
  | true=>
    by_cases h7:(pieces s).length=7
    · refine a2k _ _ (by simp) ?_
      simp only[a1R, ↓Ed,Eu, ↓reduceIte,reduceCtorEq,Nat.reduceAdd,Nat.reduceEqDiff,Nat.reduceLT,Nat.reduceLeDiff,Int.reduceToNat,Int.reduceEq,Int.reduceLT,Int.reduceLE,w64,a0n,List.length_append,Nat.reduceMul,List.length_map,a4F,byn,gd,c7]
      repeat' ((first|refine CallO_pure (a7D s hs) ?_|refine CallW_intro (a9Y _ _ (hp _) (hp _)) ?_|refine CallO_pure (a9Y _ _ (hp _) (hp _)) ?_|refine CallO_pure (a7A _ (Nat.le_trans (hp _) (by decide))) ?_|refine NewB_intro0 (fun b=>?_)|(refine NewB_intro (fun b hb=>?_);simp only[ln_cons2,ln_nil,and_true]at hb)|(with_reducible apply wA;focus exact OM_a)|((first|refine gW_sp ?_|refine condW_sp ?_|refine pickW_sp ?_);(try refine Sp_n ?_);(first|refine wT ?_|refine wF ?_|refine wL (fun h h'=>?_) (fun h h'=>?_)|refine wE (fun h h'=>?_) (fun h h'=>?_)|refine Sp_split (fun h=>?_) (fun h=>?_))<;>(try (exfalso;omega)))|refine TreeW_intro (by rfl) ?_|refine TreeW_all ?_|refine a0a ?_|refine Two_intro ?_ ?_|exact wZ|fail)<;>(try refine sxPag ?_)<;>(try exact True.intro))
      rename_i b3
      have hoc:=fun k:Nat=>a9Z k ((pieces s).getD 2 []) (a9l ((pieces s).getD 4 [])) (a6X s) (hp _)
      rw[show (a3g ((pieces s).getD 6 [])).1=a6X s by unfold a6X;rw[if_pos h7]] 
      refine wpx_loop (fun k:Nat=>⟨lk [(0,.str s),(3,.ptr b3 0),(7,.ptr b 0),(8,.bool true),(9,.int .i64 (a6X s)),(10,.int .i64 k)],lk [(b3,[.str [],.int .i64 0]),(b,[.str ((pieces s).getD 2 []),.int .i64 (a9l ((pieces s).getD 4 []))])]⟩) (fun k=>1≤k∧k≤8∧a0f (∀ j:Nat,j<k→1≤j→ofP j ((pieces s).getD 2 []) (a9l ((pieces s).getD 4 [])) (a6X s)≠s)) (fun k=>8 - k) 1 ⟨by omega,by omega,fun j h h2=>by omega⟩ (Le_lit (by simp[LeL,lk,hb])) ?_
      intro k ⟨k1,k2,k3⟩
      simp only[↓Ed,Eu, ↓reduceIte,reduceCtorEq,Nat.reduceAdd,Nat.reduceEqDiff,Nat.reduceLT,Nat.reduceLeDiff,Int.reduceToNat,Int.reduceEq,Int.reduceLT,Int.reduceLE,w64,a0n,List.length_append,Nat.reduceMul,List.length_map,a4F,byn,gd,c7]
      repeat' ((first|refine CallO_pure (hoc k) ?_|refine NewB_intro0 (fun b=>?_)|(refine NewB_intro (fun b hb=>?_);simp only[ln_cons2,ln_nil,and_true]at hb)|(with_reducible apply wA;focus exact OM_a)|((first|refine gW_sp ?_|refine condW_sp ?_|refine pickW_sp ?_);(try refine Sp_n ?_);(first|refine wT ?_|refine wF ?_|refine wL (fun h h'=>?_) (fun h h'=>?_)|refine wE (fun h h'=>?_) (fun h h'=>?_)|refine Sp_split (fun h=>?_) (fun h=>?_))<;>(try (exfalso;omega)))|refine TreeW_intro (by rfl) ?_|refine TreeW_all ?_|refine a0a ?_|refine Two_intro ?_ ?_|exact wZ|fail)<;>(try refine sxPag ?_)<;>(try exact True.intro))
      all_goals (try simp only[a0f,Bool.not_eq_true',Bool.not_eq_false',decide_eq_true_eq,decide_eq_false_iff_not]at *)
      all_goals first
        | (rw[read_hit (k:=k) (by assumption) h5];simp[*];done)
        | (rw[read_miss (fun j hj h1=>k3 j (by omega) h1)];exact ⟨rfl,rfl,rfl,rfl⟩)
        | (refine Round_lit (k+1) ⟨Le_lit (by simp[LeL,lk,hb]),⟨by omega,by omega,fun j hj h1=>?_⟩,by omega⟩
           by_cases e:j=k
           · subst e;first|assumption|(rw[hs0];assumption)
           · first|exact k3 j (by omega) h1|(have:=k3 j (by omega) h1;rw[hs0]at this;exact this))
        | skip
    · refine a2k _ _ (by simp) ?_
      simp only[a1R, ↓Ed,Eu, ↓reduceIte,reduceCtorEq,Nat.reduceAdd,Nat.reduceEqDiff,Nat.reduceLT,Nat.reduceLeDiff,Int.reduceToNat,Int.reduceEq,Int.reduceLT,Int.reduceLE,w64,a0n,List.length_append,Nat.reduceMul,List.length_map,a4F,byn,gd,c7]
      repeat' ((first|refine CallO_pure (a7D s hs) ?_|refine CallW_intro (a9Y _ _ (hp _) (hp _)) ?_|refine CallO_pure (a9Y _ _ (hp _) (hp _)) ?_|refine CallO_pure (a7A _ (Nat.le_trans (hp _) (by decide))) ?_|refine NewB_intro0 (fun b=>?_)|(refine NewB_intro (fun b hb=>?_);simp only[ln_cons2,ln_nil,and_true]at hb)|(with_reducible apply wA;focus exact OM_a)|((first|refine gW_sp ?_|refine condW_sp ?_|refine pickW_sp ?_);(try refine Sp_n ?_);(first|refine wT ?_|refine wF ?_|refine wL (fun h h'=>?_) (fun h h'=>?_)|refine wE (fun h h'=>?_) (fun h h'=>?_)|refine Sp_split (fun h=>?_) (fun h=>?_))<;>(try (exfalso;omega)))|refine TreeW_intro (by rfl) ?_|refine TreeW_all ?_|refine a0a ?_|refine Two_intro ?_ ?_|exact wZ|fail)<;>(try refine sxPag ?_)<;>(try exact True.intro))
      case neg.refine_2.right.right.refine_1.right=>simp only[a0f,Bool.not_eq_true',Bool.not_eq_false',decide_eq_true_eq,decide_eq_false_iff_not]at *;omega
      rename_i b3 _
      have hoc:=fun k:Nat=>a9Z k ((pieces s).getD 2 []) (a9l ((pieces s).getD 4 [])) (a6X s) (hp _)
      have hs0:a6X s=0:=by unfold a6X;rw[if_neg h7]
      rw[hs0]at hoc
      refine wpx_loop (fun k:Nat=>⟨lk [(0,.str s),(3,.ptr b3 0),(7,.ptr b 0),(8,.bool true),(9,.int .i64 (a6X s)),(10,.int .i64 k)],lk [(b3,[.str [],.int .i64 0]),(b,[.str ((pieces s).getD 2 []),.int .i64 (a9l ((pieces s).getD 4 []))])]⟩) (fun k=>1≤k∧k≤8∧a0f (∀ j:Nat,j<k→1≤j→ofP j ((pieces s).getD 2 []) (a9l ((pieces s).getD 4 [])) (a6X s)≠s)) (fun k=>8 - k) 1 ⟨by omega,by omega,fun j h h2=>by omega⟩ (Le_lit (by simp[LeL,lk,hb,hs0])) ?_
      intro k ⟨k1,k2,k3⟩
      simp only[↓Ed,Eu, ↓reduceIte,reduceCtorEq,Nat.reduceAdd,Nat.reduceEqDiff,Nat.reduceLT,Nat.reduceLeDiff,Int.reduceToNat,Int.reduceEq,Int.reduceLT,Int.reduceLE,w64,a0n,List.length_append,Nat.reduceMul,List.length_map,a4F,byn,gd,c7]
      repeat' ((first|refine CallO_pure (hoc k) ?_|refine NewB_intro0 (fun b=>?_)|(refine NewB_intro (fun b hb=>?_);simp only[ln_cons2,ln_nil,and_true]at hb)|(with_reducible apply wA;focus exact OM_a)|((first|refine gW_sp ?_|refine condW_sp ?_|refine pickW_sp ?_);(try refine Sp_n ?_);(first|refine wT ?_|refine wF ?_|refine wL (fun h h'=>?_) (fun h h'=>?_)|refine wE (fun h h'=>?_) (fun h h'=>?_)|refine Sp_split (fun h=>?_) (fun h=>?_))<;>(try (exfalso;omega)))|refine TreeW_intro (by rfl) ?_|refine TreeW_all ?_|refine a0a ?_|refine Two_intro ?_ ?_|exact wZ|fail)<;>(try refine sxPag ?_)<;>(try exact True.intro))
      all_goals (try simp only[a0f,Bool.not_eq_true',Bool.not_eq_false',decide_eq_true_eq,decide_eq_false_iff_not]at *)
      all_goals first
        | (rw[read_hit (k:=k) (by assumption) h5];simp[*];done)
        | (rw[read_miss (fun j hj h1=>k3 j (by omega) h1)];exact ⟨rfl,rfl,rfl,rfl⟩)
        | (refine Round_lit (k+1) ⟨Le_lit (by simp[LeL,lk,hb]),⟨by omega,by omega,fun j hj h1=>?_⟩,by omega⟩
           by_cases e:j=k
           · subst e;first|assumption|(rw[hs0];assumption)
           · first|exact k3 j (by omega) h1|(have:=k3 j (by omega) h1;rw[hs0]at this;exact this))
        | skip
end
section
open Go.RowKit
set_option maxRecDepth 100000
abbrev strs(l:List (List UInt8)):List (List AV):=l.map fun p=>[AV.str p]
theorem sp_last{s:List UInt8}{f:Nat}(hn:∀ j,f≤j→j<s.length→¬ s.getD j 0=47):sp (s.drop f)=[s.drop f]:=by
 refine a6j fun hm=>?_
 obtain ⟨j,hj,e⟩:=List.getElem_of_mem hm
 rw[List.length_drop]at hj
 refine hn (f+j) (by omega) (by omega) ?_
 rw[List.getD,List.getElem?_eq_getElem (by omega)]
 simpa using e
theorem sp_mid{s:List UInt8}{f i:Nat}(hf:f≤i)(hi:i<s.length)(h47:s.getD i 0=47)(hn:∀ j,f≤j→j<i→¬ s.getD j 0=47):sp (s.drop f)=List.drop f (List.take i s)::sp (s.drop (i+1)):=by
 have h1:47 ∉ List.drop f (List.take i s):=by
  intro hm
  obtain ⟨j,hj,e⟩:=List.getElem_of_mem hm
  rw[List.length_drop,List.length_take]at hj
  refine hn (f+j) (by omega) (by omega) ?_
  rw[List.getD,List.getElem?_eq_getElem (by omega)]
  simpa using e
 have h2:s.drop f=List.drop f (List.take i s)++47::s.drop (i+1):=by
  have e:s[i]=47:=by rw[List.getD,List.getElem?_eq_getElem hi]at h47;exact h47
  rw[← e, ← List.drop_eq_getElem_cons hi,List.drop_take]
  have:s.drop i=(s.drop f).drop (i - f):=by rw[List.drop_drop];congr 1;omega
  rw[this,List.take_append_drop]
 rw[h2,a2x h1]
def SpI(s:List UInt8)(out:List (List UInt8))(f i:Nat):Prop:=
 (i≤s.length∧f≤i∧out++sp (s.drop f)=sp s∧∀ j,f≤j→j<i→¬ s.getD j 0=47)∨(i=s.length+1∧out=sp s)
theorem sxPah{A B:Prop}(h:B)(e:A=B:=by (simp (disch:=omega) only[*, ↓Ed,Eu, ↓reduceIte,reduceCtorEq,Nat.reduceAdd,Nat.reduceEqDiff,Nat.reduceLT,Nat.reduceLeDiff,Int.reduceToNat,Int.reduceEq,Int.reduceLT,Int.reduceLE,w64,a0n,List.length_append,Nat.reduceMul,List.length_map,a4F,byn,gd,c7];first|done|rfl)):A:=e▸h
theorem b3m(s:List UInt8)(hs:s.length≤500000):CP Tryz.prog 88 [.str s] (.sl (some 9) 1 ((sp s).map fun p=>[AV.str p])):=by
 have hm:=a3f
 refine a5l _ _ (by simp) ?_
 simp only[a3b, ↓Ed,Eu, ↓reduceIte,reduceCtorEq,Nat.reduceAdd,Nat.reduceEqDiff,Nat.reduceLT,Nat.reduceLeDiff,Int.reduceToNat,Int.reduceEq,Int.reduceLT,Int.reduceLE,w64,a0n,List.length_append,Nat.reduceMul,List.length_map,a4F,byn,gd,c7]
 repeat' ((first|refine NewB_intro0 (fun b=>?_)|(refine NewB_intro (fun b hb=>?_);simp only[ln_cons2,ln_nil,and_true]at hb)|(with_reducible apply wA;focus exact OM_a)|((first|refine gW_sp ?_|refine condW_sp ?_|refine pickW_sp ?_);(try refine Sp_n ?_);(first|refine wT ?_|refine wF ?_|refine wL (fun h h'=>?_) (fun h h'=>?_)|refine wE (fun h h'=>?_) (fun h h'=>?_)|refine Sp_split (fun h=>?_) (fun h=>?_))<;>(try (exfalso;omega)))|refine TreeW_intro (by rfl) ?_|refine TreeW_all ?_|refine a0a ?_|refine Two_intro ?_ ?_|exact wZ|fail)<;>(try refine sxPah ?_)<;>(try exact True.intro))
 refine wpx_loop (fun x:List (List UInt8) × Nat × Nat=>⟨lk [(0,.str s),(3,.sl (some 9) 1 (strs x.1)),(4,.int .i64 x.2.1),(5,.int .i64 x.2.2)],lk []⟩) (fun x=>x.2.2≤s.length+1∧x.1.length≤x.2.2∧(x.2.2≤s.length→x.2.1≤x.2.2)∧a0f (SpI s x.1 x.2.1 x.2.2)) (fun x=>s.length+1 - x.2.2) ([],0,0) ⟨by simp,by simp,by simp,.inl ⟨by simp,by simp,by simp,fun j h h2=>by simp only at h2;omega⟩⟩ (Le_lit (by simp[LeL,lk])) ?_
 rintro ⟨out,f,i⟩ ⟨h1,h2,h3,h4⟩
 simp only at h1 h2 h3 h4
 simp only[↓Ed,Eu, ↓reduceIte,reduceCtorEq,Nat.reduceAdd,Nat.reduceEqDiff,Nat.reduceLT,Nat.reduceLeDiff,Int.reduceToNat,Int.reduceEq,Int.reduceLT,Int.reduceLE,w64,a0n,List.length_append,Nat.reduceMul,List.length_map,a4F,byn,gd,c7]
 repeat' ((first|refine NewB_intro0 (fun b=>?_)|(refine NewB_intro (fun b hb=>?_);simp only[ln_cons2,ln_nil,and_true]at hb)|(with_reducible apply wA;focus exact OM_a)|((first|refine gW_sp ?_|refine condW_sp ?_|refine pickW_sp ?_);(try refine Sp_n ?_);(first|refine wT ?_|refine wF ?_|refine wL (fun h h'=>?_) (fun h h'=>?_)|refine wE (fun h h'=>?_) (fun h h'=>?_)|refine Sp_split (fun h=>?_) (fun h=>?_))<;>(try (exfalso;omega)))|refine TreeW_intro (by rfl) ?_|refine TreeW_all ?_|refine a0a ?_|refine Two_intro ?_ ?_|exact wZ|fail)<;>(try refine sxPah ?_)<;>(try exact True.intro))
 all_goals (try simp only[a0f,Bool.not_eq_true',Bool.not_eq_false',decide_eq_true_eq,decide_eq_false_iff_not]at *)
 case refine_2=>
  rcases h4 with h4|h4
  ·omega
  ·rw[h4.2]
 all_goals
  obtain ⟨_,g2,g3,g4⟩:i≤s.length∧f≤i∧out++sp (s.drop f)=sp s∧∀ j,f≤j→j<i→¬ s.getD j 0=47:=by
   rcases h4 with h4|h4
   ·exact h4
   ·omega
 ·obtain rfl:i=s.length:=by omega
  refine Round_lit (out++[List.drop f (List.take s.length s)],s.length+1,s.length+1) ⟨Le_lit (by simp[LeL,lk]),⟨by simp,by simp;omega,by simp,.inr ⟨rfl, ?_⟩⟩,by simp only;omega⟩
  rw[List.take_length, ← g3,sp_last g4]
 ·refine Round_lit (out++[List.drop f (List.take i s)],i+1,i+1) ⟨Le_lit (by simp[LeL,lk]),⟨by simp only;omega,by simp;omega,by simp,.inl ⟨by simp only;omega,by simp, ?_,fun j hj hj2=>by simp only at hj hj2;omega⟩⟩,by simp only;omega⟩
  rw[← g3,sp_mid g2 (by omega) (by assumption) g4]
  simp
 ·refine Round_lit (out,f,i+1) ⟨Le_lit (by simp[LeL,lk]),⟨by simp only;omega,by simp only;omega,by simp only;omega,.inl ⟨by simp only;omega,by simp only;omega,g3,fun j hj hj2=>?_⟩⟩,by simp only;omega⟩
  by_cases e:j=i
  ·subst e;assumption
  ·exact g4 j hj (by simp only at hj2;omega)
end
section
open Go.RowKit
set_option maxRecDepth 100000
theorem c5:((5:Nat):Int)=5:=rfl
theorem q_len{s k p c q}(h:OfQ s k p c q):s.length≤160:=by
 have hw:=a6l k
 cases h with
 | num hk hp hc hq=>
  have h3:=dig_len3 hc
  have h13:=dig_len13 (c:=q) (by omega)
  have:=hp.2.1
  simp only[List.length_append,List.length_cons,List.length_nil];omega
 | base hk hp hc=>
  have h3:=dig_len3 hc
  have:=hp.2.1
  simp only[List.length_append,List.length_cons,List.length_nil];omega
theorem read_long{s}(h:300<s.length):a0R s=(0,[],0,0,3):=readP_no fun k p c q g=>by
 have:=q_len g;omega
theorem read_57{s}(h:¬ (pieces s).length=5)(h2:¬ (pieces s).length=7):a0R s=(0,[],0,0,3):=readP_no fun k p c q g=>by
 have:=(read_parts g).2.2.1;omega
theorem read_9{s}(h:((pieces s).getD 4 []).length<9):a0R s=(0,[],0,0,3):=readP_no fun k p c q g=>by
 obtain ⟨_,e2,_,_,_,e6,_⟩:=read_parts g
 rw[e2]at h
 have:=List.length_pos_iff.2 (a9j c.toNat)
 rw[itoa_dig e6.1]at h
 simp only[List.length_append,List.length_cons,List.length_nil]at h;omega
theorem b4j(x:List UInt8):(chn++x).drop 8=x:=by simp[chn]
theorem read_n{s}(h:¬ (a3g (((pieces s).getD 4 []).drop 8)).2=0):a0R s=(0,[],0,0,3):=readP_no fun k p c q g=>by
 obtain ⟨_,e2,_,_,_,e6,_⟩:=read_parts g
 rw[e2,b4j,num_itoa (by omega)]at h
 exact h rfl
theorem read_f{s}(h7:(pieces s).length=7)(h:¬ (a3g ((pieces s).getD 6 [])).2=0):a0R s=(0,[],0,0,3):=readP_no fun k p c q g=>by
 obtain ⟨_,_,e3,_,_,_,e7⟩:=read_parts g
 rcases e3 with e3|e3
 ·rw[e3.2,num_itoa (by omega)]at h
  exact h rfl
 ·omega
theorem read_miss'{s:List UInt8}(h:∀ k:Nat,k<8→1≤k→ofP k ((pieces s).getD 2 []) (a3g (((pieces s).getD 4 []).drop 8)).1 (a6X s)≠s):a0R s=(0,[],0,0,3):=readP_no fun k p c q g=>by
 obtain ⟨e1,e2,e3,e4,e5,e6,e7⟩:=read_parts g
 have hq:a6X s=q:=by
  unfold a6X
  rcases e3 with ⟨h7,h6⟩ | ⟨h7,rfl⟩
  ·rw[if_pos h7,h6,num_itoa (by omega)]
  ·rw[if_neg (by omega)]
 have:=h k.toNat (by omega) (by omega)
 rw[e1,e2,b4j,num_itoa (by omega),hq,show ((k.toNat:Nat):Int)=k by omega]at this
 exact this g.eq
theorem a7J(s:List UInt8)(hs:s.length≤500000):CP Tryz.prog 88 [.str s] (.sl (some 9) 1 ((pieces s).map fun p=>[AV.str p])):=by
 rw[a4A];exact b3m s hs
theorem sxPai{A B:Prop}(h:B)(e:A=B:=by (simp (disch:=omega) only[*, ↓Ed,Eu, ↓reduceIte,reduceCtorEq,Nat.reduceAdd,Nat.reduceEqDiff,Nat.reduceLT,Nat.reduceLeDiff,Int.reduceToNat,Int.reduceEq,Int.reduceLT,Int.reduceLE,w64,a0n,List.length_append,Nat.reduceMul,List.length_map,a4F,byn,gd,c7,c5,List.length_drop,List.take_length];first|done|rfl)):A:=e▸h
theorem a9X(s:List UInt8)(hs:s.length≤1000000):CP Tryz.prog 54 [.str s] (.tup [.int .i64 (a0R s).1,.agg [.str (a0R s).2.1,.int .i64 (a0R s).2.2.1],.int .i64 (a0R s).2.2.2.1,.int .i64 (a0R s).2.2.2.2]):=by
  have hm:=a3f
  have hp:=fun i=>Nat.le_trans (b2x s i) hs
  by_cases h300:300<s.length
  · rw[read_long h300]
    refine a0L _ _ (by simp) ?_
    simp only[a0A, ↓Ed,Eu, ↓reduceIte,reduceCtorEq,Nat.reduceAdd,Nat.reduceEqDiff,Nat.reduceLT,Nat.reduceLeDiff,Int.reduceToNat,Int.reduceEq,Int.reduceLT,Int.reduceLE,w64,a0n,List.length_append,Nat.reduceMul,List.length_map,a4F,byn,gd,c7,c5,List.length_drop,List.take_length]
    repeat' ((first|refine NewB_intro0 (fun b=>?_)|(refine NewB_intro (fun b hb=>?_);simp only[ln_cons2,ln_nil,and_true]at hb)|(with_reducible apply wA;focus exact OM_a)|((first|refine gW_sp ?_|refine condW_sp ?_|refine pickW_sp ?_);(try refine Sp_n ?_);(first|refine wT ?_|refine wF ?_|refine wL (fun h h'=>?_) (fun h h'=>?_)|refine wE (fun h h'=>?_) (fun h h'=>?_)|refine Sp_split (fun h=>?_) (fun h=>?_))<;>(try (exfalso;omega)))|refine TreeW_intro (by rfl) ?_|refine TreeW_all ?_|refine a0a ?_|refine Two_intro ?_ ?_|exact wZ|fail)<;>(try refine sxPai ?_)<;>(try exact True.intro))
    all_goals (simp only[a0f,Bool.not_eq_true',Bool.not_eq_false',decide_eq_true_eq,decide_eq_false_iff_not]at *;omega)
  by_cases h5:(pieces s).length=5
  · refine a0L _ _ (by simp) ?_
    simp only[a0A, ↓Ed,Eu, ↓reduceIte,reduceCtorEq,Nat.reduceAdd,Nat.reduceEqDiff,Nat.reduceLT,Nat.reduceLeDiff,Int.reduceToNat,Int.reduceEq,Int.reduceLT,Int.reduceLE,w64,a0n,List.length_append,Nat.reduceMul,List.length_map,a4F,byn,gd,c7,c5,List.length_drop,List.take_length]
    repeat' ((first|refine CallO_pure (a7J s (by omega)) ?_|refine CallO_pure (a4z _ (by have:=hp 4;simp only[List.length_drop];omega)) ?_|refine CallO_pure (a4z _ (Nat.le_trans (hp _) (by decide))) ?_|refine NewB_intro0 (fun b=>?_)|(refine NewB_intro (fun b hb=>?_);simp only[ln_cons2,ln_nil,and_true]at hb)|(with_reducible apply wA;focus exact OM_a)|((first|refine gW_sp ?_|refine condW_sp ?_|refine pickW_sp ?_);(try refine Sp_n ?_);(first|refine wT ?_|refine wF ?_|refine wL (fun h h'=>?_) (fun h h'=>?_)|refine wE (fun h h'=>?_) (fun h h'=>?_)|refine Sp_split (fun h=>?_) (fun h=>?_))<;>(try (exfalso;omega)))|refine TreeW_intro (by rfl) ?_|refine TreeW_all ?_|refine a0a ?_|refine Two_intro ?_ ?_|exact wZ|fail)<;>(try refine sxPai ?_)<;>(try exact True.intro))
    case pos.refine_2.refine_2.right.refine_1=>
      rename_i b3 _ _ _
      have hq:a6X s=0:=by unfold a6X;rw[if_neg (by omega)]
      have hoc:=fun k:Nat=>a7H k ((pieces s).getD 2 []) (a3g (((pieces s).getD 4 []).drop 8)).1 0 (hp _)
      refine wpx_loop (fun k:Nat=>⟨lk [(0,.str s),(3,.ptr b3 0),(9,.int .i64 0),(11,.ptr b 0),(12,.int .i64 k)],lk [(b3,[.str [],.int .i64 0]),(b,[.str ((pieces s).getD 2 []),.int .i64 (a3g (((pieces s).getD 4 []).drop 8)).1])]⟩) (fun k=>1≤k∧k≤8∧a0f (∀ j:Nat,j<k→1≤j→ofP j ((pieces s).getD 2 []) (a3g (((pieces s).getD 4 []).drop 8)).1 0≠s)) (fun k=>8 - k) 1 ⟨by omega,by omega,fun j h h2=>by omega⟩ (Le_lit (by simp[LeL,lk,hb])) ?_
      intro k ⟨k1,k2,k3⟩
      simp only[↓Ed,Eu, ↓reduceIte,reduceCtorEq,Nat.reduceAdd,Nat.reduceEqDiff,Nat.reduceLT,Nat.reduceLeDiff,Int.reduceToNat,Int.reduceEq,Int.reduceLT,Int.reduceLE,w64,a0n,List.length_append,Nat.reduceMul,List.length_map,a4F,byn,gd,c7,c5,List.length_drop,List.take_length]
      repeat' ((first|refine CallO_pure (hoc k) ?_|refine NewB_intro0 (fun b=>?_)|(refine NewB_intro (fun b hb=>?_);simp only[ln_cons2,ln_nil,and_true]at hb)|(with_reducible apply wA;focus exact OM_a)|((first|refine gW_sp ?_|refine condW_sp ?_|refine pickW_sp ?_);(try refine Sp_n ?_);(first|refine wT ?_|refine wF ?_|refine wL (fun h h'=>?_) (fun h h'=>?_)|refine wE (fun h h'=>?_) (fun h h'=>?_)|refine Sp_split (fun h=>?_) (fun h=>?_))<;>(try (exfalso;omega)))|refine TreeW_intro (by rfl) ?_|refine TreeW_all ?_|refine a0a ?_|refine Two_intro ?_ ?_|exact wZ|fail)<;>(try refine sxPai ?_)<;>(try exact True.intro))
      all_goals (try simp only[a0f,Bool.not_eq_true',Bool.not_eq_false',decide_eq_true_eq,decide_eq_false_iff_not]at *)
      all_goals first
        | (rw[read_hit (k:=k) (by assumption) (by omega)];simp[*];done)
        | (rw[read_miss' (fun j hj h1=>by rw[hq];exact k3 j (by omega) h1)];exact ⟨rfl,rfl,rfl,rfl⟩)
        | (refine Round_lit (k+1) ⟨Le_lit (by simp[LeL,lk,hb]),⟨by omega,by omega,fun j hj h1=>?_⟩,by omega⟩
           by_cases e:j=k
           · subst e;assumption
           · exact k3 j (by omega) h1)
        | skip
    all_goals (try simp only[a0f,Bool.not_eq_true',Bool.not_eq_false',decide_eq_true_eq,decide_eq_false_iff_not]at *)
    all_goals first
      | (rw[read_9 (by omega)];exact ⟨rfl,rfl,rfl,rfl⟩)
      | (rw[read_n (by assumption)];exact ⟨rfl,rfl,rfl,rfl⟩)
      | (rw[read_f h7 (by assumption)];exact ⟨rfl,rfl,rfl,rfl⟩)
      | skip
  by_cases h7:(pieces s).length=7
  · refine a0L _ _ (by simp) ?_
    simp only[a0A, ↓Ed,Eu, ↓reduceIte,reduceCtorEq,Nat.reduceAdd,Nat.reduceEqDiff,Nat.reduceLT,Nat.reduceLeDiff,Int.reduceToNat,Int.reduceEq,Int.reduceLT,Int.reduceLE,w64,a0n,List.length_append,Nat.reduceMul,List.length_map,a4F,byn,gd,c7,c5,List.length_drop,List.take_length]
    repeat' ((first|refine CallO_pure (a7J s (by omega)) ?_|refine CallO_pure (a4z _ (by have:=hp 4;simp only[List.length_drop];omega)) ?_|refine CallO_pure (a4z _ (Nat.le_trans (hp _) (by decide))) ?_|refine NewB_intro0 (fun b=>?_)|(refine NewB_intro (fun b hb=>?_);simp only[ln_cons2,ln_nil,and_true]at hb)|(with_reducible apply wA;focus exact OM_a)|((first|refine gW_sp ?_|refine condW_sp ?_|refine pickW_sp ?_);(try refine Sp_n ?_);(first|refine wT ?_|refine wF ?_|refine wL (fun h h'=>?_) (fun h h'=>?_)|refine wE (fun h h'=>?_) (fun h h'=>?_)|refine Sp_split (fun h=>?_) (fun h=>?_))<;>(try (exfalso;omega)))|refine TreeW_intro (by rfl) ?_|refine TreeW_all ?_|refine a0a ?_|refine Two_intro ?_ ?_|exact wZ|fail)<;>(try refine sxPai ?_)<;>(try exact True.intro))
    case pos.refine_2.refine_2.right.refine_1.refine_1=>
      rename_i b3 _ _ _ _
      have hq:a6X s=(a3g ((pieces s).getD 6 [])).1:=by unfold a6X;rw[if_pos h7]
      have hoc:=fun k:Nat=>a7H k ((pieces s).getD 2 []) (a3g (((pieces s).getD 4 []).drop 8)).1 (a3g ((pieces s).getD 6 [])).1 (hp _)
      refine wpx_loop (fun k:Nat=>⟨lk [(0,.str s),(3,.ptr b3 0),(9,.int .i64 (a3g ((pieces s).getD 6 [])).1),(11,.ptr b 0),(12,.int .i64 k)],lk [(b3,[.str [],.int .i64 0]),(b,[.str ((pieces s).getD 2 []),.int .i64 (a3g (((pieces s).getD 4 []).drop 8)).1])]⟩) (fun k=>1≤k∧k≤8∧a0f (∀ j:Nat,j<k→1≤j→ofP j ((pieces s).getD 2 []) (a3g (((pieces s).getD 4 []).drop 8)).1 (a3g ((pieces s).getD 6 [])).1≠s)) (fun k=>8 - k) 1 ⟨by omega,by omega,fun j h h2=>by omega⟩ (Le_lit (by simp[LeL,lk,hb])) ?_
      intro k ⟨k1,k2,k3⟩
      simp only[↓Ed,Eu, ↓reduceIte,reduceCtorEq,Nat.reduceAdd,Nat.reduceEqDiff,Nat.reduceLT,Nat.reduceLeDiff,Int.reduceToNat,Int.reduceEq,Int.reduceLT,Int.reduceLE,w64,a0n,List.length_append,Nat.reduceMul,List.length_map,a4F,byn,gd,c7,c5,List.length_drop,List.take_length]
      repeat' ((first|refine CallO_pure (hoc k) ?_|refine NewB_intro0 (fun b=>?_)|(refine NewB_intro (fun b hb=>?_);simp only[ln_cons2,ln_nil,and_true]at hb)|(with_reducible apply wA;focus exact OM_a)|((first|refine gW_sp ?_|refine condW_sp ?_|refine pickW_sp ?_);(try refine Sp_n ?_);(first|refine wT ?_|refine wF ?_|refine wL (fun h h'=>?_) (fun h h'=>?_)|refine wE (fun h h'=>?_) (fun h h'=>?_)|refine Sp_split (fun h=>?_) (fun h=>?_))<;>(try (exfalso;omega)))|refine TreeW_intro (by rfl) ?_|refine TreeW_all ?_|refine a0a ?_|refine Two_intro ?_ ?_|exact wZ|fail)<;>(try refine sxPai ?_)<;>(try exact True.intro))
      all_goals (try simp only[a0f,Bool.not_eq_true',Bool.not_eq_false',decide_eq_true_eq,decide_eq_false_iff_not]at *)
      all_goals first
        | (rw[read_hit (k:=k) (by assumption) (by omega)];simp[*];done)
        | (rw[read_miss' (fun j hj h1=>by rw[hq];exact k3 j (by omega) h1)];exact ⟨rfl,rfl,rfl,rfl⟩)
        | (refine Round_lit (k+1) ⟨Le_lit (by simp[LeL,lk,hb]),⟨by omega,by omega,fun j hj h1=>?_⟩,by omega⟩
           by_cases e:j=k
           · subst e;assumption
           · exact k3 j (by omega) h1)
        | skip
    all_goals (try simp only[a0f,Bool.not_eq_true',Bool.not_eq_false',decide_eq_true_eq,decide_eq_false_iff_not]at *)
    all_goals first
      | (rw[read_9 (by omega)];exact ⟨rfl,rfl,rfl,rfl⟩)
      | (rw[read_n (by assumption)];exact ⟨rfl,rfl,rfl,rfl⟩)
      | (rw[read_f h7 (by assumption)];exact ⟨rfl,rfl,rfl,rfl⟩)
      | skip
  rw[read_57 h5 h7]
  refine a0L _ _ (by simp) ?_
  simp only[a0A, ↓Ed,Eu, ↓reduceIte,reduceCtorEq,Nat.reduceAdd,Nat.reduceEqDiff,Nat.reduceLT,Nat.reduceLeDiff,Int.reduceToNat,Int.reduceEq,Int.reduceLT,Int.reduceLE,w64,a0n,List.length_append,Nat.reduceMul,List.length_map,a4F,byn,gd,c7,c5,List.length_drop,List.take_length]
  repeat' ((first|refine CallO_pure (a7J s (by omega)) ?_|refine NewB_intro0 (fun b=>?_)|(refine NewB_intro (fun b hb=>?_);simp only[ln_cons2,ln_nil,and_true]at hb)|(with_reducible apply wA;focus exact OM_a)|((first|refine gW_sp ?_|refine condW_sp ?_|refine pickW_sp ?_);(try refine Sp_n ?_);(first|refine wT ?_|refine wF ?_|refine wL (fun h h'=>?_) (fun h h'=>?_)|refine wE (fun h h'=>?_) (fun h h'=>?_)|refine Sp_split (fun h=>?_) (fun h=>?_))<;>(try (exfalso;omega)))|refine TreeW_intro (by rfl) ?_|refine TreeW_all ?_|refine a0a ?_|refine Two_intro ?_ ?_|exact wZ|fail)<;>(try refine sxPai ?_)<;>(try exact True.intro))
  all_goals (simp only[a0f,Bool.not_eq_true',Bool.not_eq_false',decide_eq_true_eq,decide_eq_false_iff_not]at *;omega)
end
section
def a6S(n:Nat):List UInt8:=if n<128 then [UInt8.ofNat n] else UInt8.ofNat (n % 128+128)::a6S (n / 128)
termination_by n
decreasing_by omega
def pn(v:Int):List UInt8:=if 0≤v∧v≤72057594037927935 then a6S v.toNat else []
theorem put7_lo{n:Nat}(h:n<128):a6S n=[UInt8.ofNat n]:=by rw[a6S,if_pos h]
theorem put7_hi{n:Nat}(h:128≤n):a6S n=UInt8.ofNat (n % 128+128)::a6S (n / 128):=by rw[a6S,if_neg (by omega)]
theorem a9D:∀ (k n:Nat),n<128 ^ (k+1)→(a6S n).length≤k+1
 | 0,n,h=>by rw[put7_lo (by omega)];simp
 | k+1,n,h=>by
  by_cases hn:n<128
  ·rw[put7_lo hn];simp
  ·rw[put7_hi (by omega)]
   have:=a9D k (n / 128) (by rw[Nat.pow_succ]at h;omega)
   simp only[List.length_cons];omega
theorem a0M(v:Int):(pn v).length≤8:=by
 unfold pn
 split
 ·exact a9D 7 _ (by simp;omega)
 ·simp
theorem b3p(n:Nat):a6S n≠[]:=by
 by_cases hn:n<128
 ·rw[put7_lo hn];simp
 ·rw[put7_hi (by omega)];simp
theorem b0J(v:Int):pn v=[]↔¬ (0≤v∧v≤72057594037927935):=by
 unfold pn
 split
 ·simp[b3p, *]
 ·simp[*]
def a2n:Nat→List UInt8→Bool→Int × Nat × Int
 | 0,_,_=>(0,0,4)
 | _+1,[],_=>(0,0,2)
 | f+1,c::r,fst=>
  if c.toNat<128 then (if c.toNat=0∧fst=false then (0,0,3) else ((c.toNat:Int),1,0))
  else match a2n f r false with
   | (v,n,e)=>if e=0 then (((c.toNat % 128:Nat):Int)+128 * v,n+1,0) else (0,0,e)
def nx(s:List UInt8)(at':Int):Int × Int × Int:=
 if 0≤at'∧at'≤s.length then
  match a2n 8 (s.drop at'.toNat) true with
  | (v,n,e)=>if e=0 then (v,at'+n,0) else (0,0,e)
 else (0,0,1)
def a9i(u k:Nat):Int × Nat × Int→Int × Nat × Int
 | (v,n,e)=>if e=0 then ((u:Int)+128 ^ k * v,n+k,0) else (0,0,e)
theorem b0p(u k f:Nat)(c:UInt8)(r:List UInt8)(b:Bool)(h:128≤c.toNat):
  a9i u k (a2n (f+1) (c::r) b)=a9i (u+c.toNat % 128 * 128 ^ k) (k+1) (a2n f r false):=by
 rw[a2n,if_neg (by omega)]
 obtain ⟨v,n,e⟩:=a2n f r false
 by_cases he:e=0
 ·simp only[a9i,he,if_true,Prod.mk.injEq,and_true]
  refine ⟨?_,by omega⟩
  rw[Int.mul_add,Int.pow_succ,Int.mul_assoc, ← Int.add_assoc,Int.natCast_add,Int.natCast_mul,Int.natCast_pow,Int.mul_comm (128 ^ k:Int)]
  rfl
 ·simp[a9i,he]
theorem a9q:∀ (f:Nat) (r:List UInt8) (b:Bool),0≤(a2n f r b).1∧(a2n f r b).1<128 ^ f∧(a2n f r b).2.1≤r.length
 | 0,_,_=>by simp[a2n]
 | f+1,[],_=>by simp[a2n];exact Int.pow_pos (by omega)
 | f+1,c::r,b=>by
  have hp:(0:Int)<128 ^ f:=Int.pow_pos (by omega)
  have hp':(128:Int) ^ (f+1)=128 ^ f * 128:=Int.pow_succ _ _
  rw[a2n]
  split
  ·split
   ·refine ⟨by simp,by simp;omega,by simp⟩
   ·refine ⟨by simp, ?_,by simp⟩
    simp only
    omega
  ·have ih:=a9q f r false
   generalize a2n f r false=g at ih ⊢
   obtain ⟨v,n,e⟩:=g
   simp only at ih ⊢
   split
   ·refine ⟨by omega,by omega,by simp;omega⟩
   ·refine ⟨by simp,by simp;omega,by simp⟩
theorem a9r:∀ (f:Nat) (r:List UInt8) (b:Bool),(a2n f r b).2.2≠0→(a2n f r b).1=0∧(a2n f r b).2.1=0
 | 0,_,_,_=>by simp[a2n]
 | f+1,[],_,_=>by simp[a2n]
 | f+1,c::r,b,h=>by
  rw[a2n]at h ⊢
  split at h
  ·rename_i hc
   rw[if_pos hc]
   split at h
   ·rename_i hd;rw[if_pos hd];simp
   ·simp at h
  ·rename_i hc
   rw[if_neg hc]
   generalize a2n f r false=g at h ⊢
   obtain ⟨v,n,e⟩:=g
   simp only at h ⊢
   split at h
   ·simp at h
   ·rename_i he;rw[if_neg he];simp
theorem a7V(g:Int × Nat × Int)(h:g.2.2≠0→g.1=0∧g.2.1=0):a9i 0 0 g=g:=by
 obtain ⟨v,n,e⟩:=g
 by_cases he:e=0
 ·simp[a9i,he]
 ·have:=h he
  simp only at this
  simp[a9i,he,this]
def b0s(i:Nat):Int × Nat × Int→Int × Int × Int
 | (v,n,e)=>if e=0 then (v,(i:Int)+n,0) else (0,0,e)
theorem nx_in{s:List UInt8}{i:Nat}(h:i≤s.length):nx s i=b0s i (a2n 8 (s.drop i) true):=by
 simp only[nx,if_pos (show (0≤(i:Int)∧(i:Int)≤s.length) by omega),Int.toNat_natCast]
 rfl
theorem nx_out{s:List UInt8}{i:Int}(h:¬ (0≤i∧i≤s.length)):nx s i=(0,0,1):=by simp only[nx,if_neg h]
theorem tn2(i k:Nat):((i:Int)+(k:Int)).toNat=i+k:=by omega
theorem drop_get{s:List UInt8}{i:Nat}(h:i<s.length):s.drop i=s.getD i 0::s.drop (i+1):=by
 rw[List.drop_eq_getElem_cons h];simp[h]
theorem inv7{s:List UInt8}{i k u:Nat}(h1:k<8)(h2:a2n 8 (s.drop i) true=a9i u k (a2n (8 - k) (s.drop (i+k)) (decide (k=0)))):
  (s.length≤i+k→a2n 8 (s.drop i) true=(0,0,2))∧
  (i+k<s.length→128≤(s.getD (i+k) 0).toNat→a2n 8 (s.drop i) true=a9i (u+(s.getD (i+k) 0).toNat % 128 * 128 ^ k) (k+1) (a2n (8 - (k+1)) (s.drop (i+(k+1))) (decide (k+1=0))))∧
  (i+k<s.length→(s.getD (i+k) 0).toNat=0→0<k→a2n 8 (s.drop i) true=(0,0,3))∧
  (i+k<s.length→(s.getD (i+k) 0).toNat<128→¬ ((s.getD (i+k) 0).toNat=0∧0<k)→a2n 8 (s.drop i) true=(((u+(s.getD (i+k) 0).toNat % 128 * 128 ^ k:Nat):Int),k+1,0)):=by
 have e:8 - k=(8 - (k+1))+1:=by omega
 rw[h2]
 refine ⟨fun h=>?_,fun h g=>?_,fun h g g'=>?_,fun h g g'=>?_⟩
 ·rw[List.drop_eq_nil_of_le h,e,a2n];rfl
 ·rw[e,drop_get h,b0p _ _ _ _ _ _ g]
  rfl
 ·rw[e,drop_get h,a2n,if_pos (by omega),if_pos ⟨g,by simp;omega⟩];rfl
 ·rw[e,drop_get h,a2n,if_pos (by omega),if_neg (by rintro ⟨a,b⟩;simp at b;exact g' ⟨a,by omega⟩)]
  simp only[a9i,if_true]
  rw[Nat.mod_eq_of_lt g,Int.natCast_add,Int.natCast_mul,Int.natCast_pow,Int.mul_comm,Nat.add_comm 1 k]
  rfl
theorem b6f(n:Nat):IntKind.u8.wrap ((BitVec.ofInt IntKind.u8.bits (IntKind.u8.wrap (n:Int)) ||| BitVec.ofInt IntKind.u8.bits 128).toNat:Int)=((n % 128+128:Nat):Int):=by
 have h:∀ x:BitVec 8,(x ||| 128#8).toNat=x.toNat % 128+128:=by decide
 have e:(BitVec.ofInt 8 ((n:Int) % 256)).toNat=n % 256:=by
  rw[BitVec.toNat_ofInt];omega
 have:=h (BitVec.ofInt 8 ((n:Int) % 256))
 rw[IntKind.wrap_u8,IntKind.wrap_u8]
 show ((BitVec.ofInt 8 ((n:Int) % 256) ||| 128#8).toNat:Int) % 256=_
 rw[this,e]
 omega
theorem b2G(c:UInt8):IntKind.u8.wrap ((BitVec.ofInt IntKind.u8.bits (c.toNat:Int) &&& ~~~BitVec.ofInt IntKind.u8.bits 128).toNat:Int)=((c.toNat % 128:Nat):Int):=by
 have h:∀ x:BitVec 8,(x &&& ~~~128#8).toNat=x.toNat % 128:=by decide
 have hc:c.toNat<256:=c.toNat_lt
 have e:(BitVec.ofInt 8 (c.toNat:Int)).toNat=c.toNat:=by
  rw[BitVec.toNat_ofInt];omega
 have:=h (BitVec.ofInt 8 (c.toNat:Int))
 rw[IntKind.wrap_u8]
 show ((BitVec.ofInt 8 (c.toNat:Int) &&& ~~~128#8).toNat:Int) % 256=_
 rw[this,e]
 omega
theorem b7L(n:Nat):(n:Int).fdiv (2 ^ (min 7 IntKind.u64.bits))=((n / 128:Nat):Int):=by
 have:(2:Int) ^ (min 7 IntKind.u64.bits)=128:=by decide
 rw[this,Int.fdiv_eq_ediv_of_nonneg _ (by omega)]
 omega
theorem b4y(u c m:Nat)(hu:u<2 ^ m)(hs:u+c * 2 ^ m<2 ^ 64):IntKind.u64.wrap ((BitVec.ofInt IntKind.u64.bits (u:Int) ||| BitVec.ofInt IntKind.u64.bits ((c * 2 ^ m:Nat):Int)).toNat:Int)=((u+c * 2 ^ m:Nat):Int):=by
 have h1:(BitVec.ofInt 64 (u:Int)).toNat=u:=by rw[BitVec.toNat_ofInt];omega
 have h2:(BitVec.ofInt 64 ((c * 2 ^ m:Nat):Int)).toNat=c * 2 ^ m:=by rw[BitVec.toNat_ofInt];omega
 rw[IntKind.wrap_u64]
 show ((BitVec.ofInt 64 (u:Int) ||| BitVec.ofInt 64 ((c * 2 ^ m:Nat):Int)).toNat:Int) % 18446744073709551616=_
 rw[BitVec.toNat_or,h1,h2]
 have:u ||| c * 2 ^ m=u+c * 2 ^ m:=by
  have:=Nat.shiftLeft_add_eq_or_of_lt hu c
  rw[Nat.shiftLeft_eq]at this
  rw[Nat.or_comm, ← this,Nat.add_comm]
 rw[this]
 omega
theorem b6k(k:Nat):2 ^ (7 * k)=128 ^ k:=by rw[Nat.pow_mul]
theorem b7p(u k:Nat)(c:UInt8)(hu:u<128 ^ k)(hk:k≤7):
  IntKind.u64.wrap ((BitVec.ofInt IntKind.u64.bits (u:Int) ||| BitVec.ofInt IntKind.u64.bits (IntKind.u64.wrap (IntKind.u64.wrap (IntKind.u8.wrap ((BitVec.ofInt IntKind.u8.bits (c.toNat:Int) &&& ~~~BitVec.ofInt IntKind.u8.bits 128).toNat:Int)) * 2 ^ min (7 * (k:Int)).toNat IntKind.u64.bits))).toNat:Int)=((u+c.toNat % 128 * 128 ^ k:Nat):Int):=by
 rw[b2G]
 have hd:c.toNat % 128<128:=by omega
 generalize c.toNat % 128=d at hd
 have e:min (7 * (k:Int)).toNat IntKind.u64.bits=7 * k:=by
  have:IntKind.u64.bits=64:=rfl
  omega
 have h2:u+d * 2 ^ (7 * k)<2 ^ 64:=by
  have h3:2 ^ (7 * k)≤2 ^ 49:=Nat.pow_le_pow_right (by omega) (by omega)
  have:=Nat.mul_le_mul (show d≤127 by omega) h3
  rw[← b6k]at hu
  omega
 have h3:((d:Int) * 2 ^ (7 * k))=((d * 2 ^ (7 * k):Nat):Int):=by rw[Int.natCast_mul,Int.natCast_pow];rfl
 have h4:IntKind.u64.wrap (d:Int)=d:=by rw[IntKind.wrap_u64];omega
 have h5:IntKind.u64.wrap ((d * 2 ^ (7 * k):Nat):Int)=((d * 2 ^ (7 * k):Nat):Int):=by rw[IntKind.wrap_u64];omega
 rw[e,h4,h3,h5, ← b6k]
 exact b4y u d (7 * k) (by rw[b6k];exact hu) h2
end
section
set_option maxRecDepth 100000
theorem a5r:1000000≤maxLen:=by unfold maxLen;decide
abbrev btl(l:List UInt8):List (List AV):=l.map a0y
theorem sxLeb{A B:Prop}(h:B)(e:A=B:=by (simp (disch:=omega) only[*, ↓Ed,Eu, ↓reduceIte,reduceCtorEq,Nat.reduceAdd,Nat.reduceEqDiff,Nat.reduceLT,Nat.reduceLeDiff,Int.reduceToNat,Int.reduceEq,Int.reduceLT,Int.reduceLE,w64,b6f,b7L,List.length_map,List.length_append];first|done|rfl)):A:=e▸h
theorem b6i(v:Int):CP Tryz.prog 73 [.int .i64 v] (.bool (decide (0≤v∧v≤72057594037927935))):=by
 refine a9V _ _ (by simp) ?_
 simp only[a7S];refine sxLeb ?_
 repeat' ((first|exact tt|refine na fun b=>?_|refine nb fun b hb=>?_|refine iq ?_|(refine jq ?_ ?_<;>intro h h')|refine Two_intro ?_ ?_|exact wZ|fail)<;>try refine sxLeb ?_)
 all_goals (try simp only[a0f,Hn]at *)
 all_goals simp[*]
 all_goals omega
theorem b4m(u:Nat):[[AV.int .u8 ((u % 128+128:Nat):Int)]]=btl [UInt8.ofNat (u % 128+128)]:=by
 have:(UInt8.ofNat (u % 128+128)).toNat=u % 128+128:=by rw[UInt8.toNat_ofNat'];omega
 show [[AV.int .u8 _]]=[[AV.int .u8 (((UInt8.ofNat (u % 128+128)).toNat:Nat):Int)]]
 rw[this]
theorem b4o(u:Nat)(h:u<128):[[AV.int .u8 (IntKind.u8.wrap (u:Int))]]=btl [UInt8.ofNat u]:=by
 have:(UInt8.ofNat u).toNat=u:=by rw[UInt8.toNat_ofNat'];omega
 simp only[List.map_cons,List.map_nil,a0y,this,IntKind.wrap_u8,List.cons.injEq,AV.int.injEq,and_true,true_and]
 omega
theorem b2Z(v:Int):CP Tryz.prog 38 [.int .i64 v] (.str (pn v)):=by
 have hm:=a5r
 refine a9U _ _ (by simp) ?_
 simp only[a7R];refine sxLeb ?_
 repeat' ((first|exact tt|refine CallO_pure (b6i _) ?_|refine na fun b=>?_|refine nb fun b hb=>?_|refine iq ?_|(refine jq ?_ ?_<;>intro h h')|refine Two_intro ?_ ?_|exact wZ|fail)<;>try refine sxLeb ?_)
 ·have hv:=of_decide_eq_true h
  have hp:pn v=a6S v.toNat:=by simp only[pn,if_pos hv]
  have h8:=a0M v
  rw[hp]at h8 ⊢
  refine wpx_loop (fun x:List UInt8 × Nat=>⟨lk [(3,.sl (some 5) 1 (btl x.1)),(4,.int .u64 (x.2:Int))],lk []⟩) (fun x=>x.1++a6S x.2=a6S v.toNat∧x.1.length≤8) (fun x=>x.2) ([],v.toNat) (by simp) (Le_lit (by simp[LeL,lk,IntKind.wrap_u64];omega)) ?_
  rintro ⟨out,u⟩ ⟨h1,h2⟩
  simp only at h1 h2
  refine sxLeb ?_
  repeat' ((first|exact tt|refine na fun b=>?_|refine nb fun b hb=>?_|refine iq ?_|(refine jq ?_ ?_<;>intro h h')|refine Two_intro ?_ ?_|exact wZ|fail)<;>try refine sxLeb ?_)
  ·rw[b4m, ← List.map_append]
   rw[put7_hi (by omega),List.append_cons]at h1
   refine Round_lit (out++[UInt8.ofNat (u % 128+128)],u / 128) ⟨Le_lit (by simp[LeL,lk]),⟨h1, ?_⟩,by simp only;omega⟩
   rw[← h1]at h8
   simp only[List.length_append]at h8 ⊢
   omega
  ·rw[put7_lo (by omega)]at h1
   rw[b4o u (by omega), ← List.map_append,h1,BytesW_map]
   refine sxLeb ?_;try exact tt
 ·have hv:=of_decide_eq_false h
  simp only[pn,if_neg hv]
theorem b2t(s:List UInt8)(at':Int)(hs:s.length≤4611686018427387904):
  CP Tryz.prog 51 [.str s,.int .i64 at'] (.tup [.int .i64 (nx s at').1,.int .i64 (nx s at').2.1,.int .i64 (nx s at').2.2]):=by
 refine a8S _ _ (by simp) ?_
 simp only[a6I];refine sxLeb ?_
 repeat' ((first|exact tt|refine na fun b=>?_|refine nb fun b hb=>?_|refine iq ?_|(refine jq ?_ ?_<;>intro h h')|refine Two_intro ?_ ?_|exact wZ|fail)<;>try refine sxLeb ?_)
 ·simp[nx_out (show ¬ (0≤at'∧at'≤s.length) by omega)]
 ·simp[nx_out (show ¬ (0≤at'∧at'≤s.length) by omega)]
 obtain ⟨i,rfl⟩:∃ i:Nat,at'=i:=⟨at'.toNat,by omega⟩
 have hi:i≤s.length:=by omega
 rw[nx_in hi]
 refine wpx_loop (fun x:Nat × Nat=>⟨lk [(0,.str s),(1,.int .i64 i),(7,.int .u64 (x.1:Int)),(18,.int .i64 x.2)],lk []⟩)
  (fun x=>x.2≤8∧x.1<128 ^ x.2∧a0f (a2n 8 (s.drop i) true=a9i x.1 x.2 (a2n (8 - x.2) (s.drop (i+x.2)) (decide (x.2=0))))) (fun x=>8 - x.2) (0,0)
  ⟨by omega,by simp,(a7V _ (a9r _ _ _)).symm⟩ (Le_lit (by simp[LeL,lk,IntKind.wrap_u64])) ?_
 rintro ⟨u,k⟩ ⟨h1,h2,h3⟩
 simp only at h1 h2 h3
 refine sxLeb ?_
 repeat' ((first|exact tt|refine na fun b=>?_|refine nb fun b hb=>?_|refine iq ?_|(refine jq ?_ ?_<;>intro h h')|refine Two_intro ?_ ?_|exact wZ|fail)<;>try refine sxLeb ?_)
 ·rw[(inv7 (by omega) h3).1 (by omega)];simp[b0s]
 ·(try rw[tn2]at h);rw[tn2]at h'
  have hc:=(s.getD (i+k) 0).toNat_lt
  refine Round_lit (u+(s.getD (i+k) 0).toNat % 128 * 128 ^ k,k+1) ⟨Le_lit ?_,⟨by simp only;omega, ?_,(inv7 (by omega) h3).2.1 (by omega) (by omega)⟩,by simp only;omega⟩
  ·simp only[LeL,lk_cons,tn2,b7p u k _ h2 (by omega)]
   simp
  ·simp only[Nat.pow_succ]
   have:(s.getD (i+k) 0).toNat % 128 * 128 ^ k≤127 * 128 ^ k:=Nat.mul_le_mul_right _ (by omega)
   omega
 ·simp only[a0f,Hn,tn2]at *
  rw[(inv7 (by omega) h3).2.2.1 (by omega) (by omega) (by omega)];simp[b0s]
 case' refine_2.refine_2.refine_2=>
  rw[h3,show 8 - k=0 by omega];simp[a9i,a2n,b0s]
 all_goals
  rw[b7p u k _ h2 (by omega)]
  simp only[a0f,Hn,tn2]at *
  rw[(inv7 (by omega) h3).2.2.2 (by omega) (by omega) (by omega)]
  have hp:128 ^ k≤128 ^ 7:=Nat.pow_le_pow_right (by omega) (by omega)
  have hq:(s.getD (i+k) 0).toNat % 128 * 128 ^ k≤127 * 128 ^ k:=Nat.mul_le_mul_right _ (by omega)
  generalize (s.getD (i+k) 0).toNat % 128 * 128 ^ k=z at *
  rw[w64 (by omega)]
  simp[b0s]
  try omega
end
section
set_option maxRecDepth 100000
theorem b6V(c:UInt8):IntKind.i64.wrap (c.toNat:Int)=c.toNat:=w64 (by have:=c.toNat_lt;omega)
theorem b6S(u:Nat):(u:Int).tmod 128=((u % 128:Nat):Int):=rfl
theorem b6R(u:Nat):(u:Int).tdiv 128=((u / 128:Nat):Int):=rfl
theorem b4n(u:Nat):[[AV.int .u8 (IntKind.u8.wrap (((u % 128:Nat):Int)+128))]]=btl [UInt8.ofNat (u % 128+128)]:=by
 rw[← b4m,IntKind.wrap_u8]
 simp only[List.cons.injEq,AV.int.injEq,and_true,true_and]
 omega
theorem sxRle{A B:Prop}(h:B)(e:A=B:=by (simp (disch:=omega) only[*, ↓Ed,Eu, ↓reduceIte,reduceCtorEq,Nat.reduceAdd,Nat.reduceEqDiff,Nat.reduceLT,Nat.reduceLeDiff,Int.reduceToNat,Int.reduceEq,Int.reduceLT,Int.reduceLE,w64,b6S,b6R,b6V,List.length_map,List.length_append];first|done|rfl)):A:=e▸h
theorem a7B(v:Int):CP Tryz.prog 39 [.int .i64 v] (.str (pn v)):=by
 have hm:=a5r
 refine a4P _ _ (by simp) ?_
 simp only[a2N];refine sxRle ?_
 repeat' ((first|exact tt|refine na fun b=>?_|refine nb fun b hb=>?_|refine iq ?_|(refine jq ?_ ?_<;>intro h h')|refine Two_intro ?_ ?_|exact wZ|fail)<;>try refine sxRle ?_)
 ·simp[pn];omega
 ·simp[pn];omega
 obtain ⟨n,rfl⟩:∃ n:Nat,v=n:=⟨v.toNat,by omega⟩
 have hp:pn n=a6S n:=by simp only[pn,if_pos (show (0≤(n:Int)∧(n:Int)≤72057594037927935) by omega),Int.toNat_natCast]
 have h8:=a0M n
 rw[hp]at h8 ⊢
 refine wpx_loop (fun x:List UInt8 × Nat=>⟨lk [(0,.int .i64 (x.2:Int)),(3,.sl (some 5) 1 (btl x.1))],lk []⟩) (fun x=>a0f (x.1++a6S x.2=a6S n)∧x.1.length≤8∧x.2≤72057594037927935) (fun x=>x.2) ([],n) (by simp[a0f];omega) (Le_lit (by simp[LeL,lk])) ?_
 rintro ⟨out,u⟩ ⟨h1,h2,h3⟩
 simp only at h1 h2 h3
 refine sxRle ?_
 repeat' ((first|exact tt|refine na fun b=>?_|refine nb fun b hb=>?_|refine iq ?_|(refine jq ?_ ?_<;>intro h h')|refine Two_intro ?_ ?_|exact wZ|fail)<;>try refine sxRle ?_)
 ·rw[b4n, ← List.map_append]
  rw[put7_hi (by omega),List.append_cons]at h1
  refine Round_lit (out++[UInt8.ofNat (u % 128+128)],u / 128) ⟨Le_lit (by simp[LeL,lk]),⟨h1, ?_,by simp only;omega⟩,by simp only;omega⟩
  rw[← show _=a6S n from h1]at h8
  simp only[List.length_append]at h8 ⊢
  omega
 ·rw[put7_lo (by omega)]at h1
  rw[b4o u (by omega), ← List.map_append,show _=a6S n from h1,BytesW_map]
  refine sxRle ?_;try exact tt
theorem nx_at{s:List UInt8}{i:Int}(h:0≤i∧i≤s.length):∃ n:Nat,i=n∧n≤s.length:=⟨i.toNat,by omega,by omega⟩
theorem a6b(s:List UInt8)(at':Int)(hs:s.length≤4611686018427387904):
  CP Tryz.prog 52 [.str s,.int .i64 at'] (.tup [.int .i64 (nx s at').1,.int .i64 (nx s at').2.1,.int .i64 (nx s at').2.2]):=by
 refine a4s _ _ (by simp) ?_
 simp only[a2p];refine sxRle ?_
 repeat' ((first|exact tt|refine na fun b=>?_|refine nb fun b hb=>?_|refine iq ?_|(refine jq ?_ ?_<;>intro h h')|refine Two_intro ?_ ?_|exact wZ|fail)<;>try refine sxRle ?_)
 ·simp[nx_out (show ¬ (0≤at'∧at'≤s.length) by omega)]
 ·simp[nx_out (show ¬ (0≤at'∧at'≤s.length) by omega)]
 obtain ⟨i,rfl,hi⟩:=nx_at (s:=s) (i:=at') (by omega)
 rw[nx_in hi]
 refine wpx_loop (fun x:Nat × Nat=>⟨lk [(0,.str s),(1,.int .i64 (i+x.2:Nat)),(7,.int .i64 (x.1:Int)),(8,.int .i64 (128 ^ x.2:Nat)),(9,.int .i64 x.2)],lk []⟩)
  (fun x=>x.2≤8∧x.1<128 ^ x.2∧a0f (a2n 8 (s.drop i) true=a9i x.1 x.2 (a2n (8 - x.2) (s.drop (i+x.2)) (decide (x.2=0))))) (fun x=>8 - x.2) (0,0)
  ⟨by omega,by simp,(a7V _ (a9r _ _ _)).symm⟩ (Le_lit (by simp[LeL,lk])) ?_
 rintro ⟨u,k⟩ ⟨h1,h2,h3⟩
 simp only at h1 h2 h3
 have hp:k<8→128 ^ k≤562949953421312:=fun h=>Nat.pow_le_pow_right (n:=128) (j:=7) (by omega) (by omega)
 have hq:(s.getD (i+k) 0).toNat % 128 * 128 ^ k≤127 * 128 ^ k:=Nat.mul_le_mul_right _ (by omega)
 refine sxRle ?_
 repeat' ((first|exact tt|refine na fun b=>?_|refine nb fun b hb=>?_|refine iq ?_|(refine jq ?_ ?_<;>intro h h')|refine Two_intro ?_ ?_|exact wZ|fail)<;>try refine sxRle ?_)
 case' refine_2.refine_2.refine_2=>
  rw[h3,show 8 - k=0 by omega];simp[a9i,a2n,b0s]
 all_goals
  simp only[a0f,Hn]at *
 ·rw[(inv7 (by omega) h3).1 (by omega)];simp[b0s]
 ·rw[(inv7 (by omega) h3).2.2.1 (by omega) (by omega) (by omega)];simp[b0s]
 ·rw[(inv7 (by omega) h3).2.2.2 (by omega) (by omega) (by omega)]
  simp[b0s];omega
 ·rw[(inv7 (by omega) h3).2.2.2 (by omega) (by omega) (by omega)]
  simp[b0s];omega
 ·refine Round_lit (u+(s.getD (i+k) 0).toNat % 128 * 128 ^ k,k+1) ⟨Le_lit ?_,⟨by simp only;omega, ?_,(inv7 (by omega) h3).2.1 (by omega) (by omega)⟩,by simp only;omega⟩
  ·simp only[LeL,lk_cons,Nat.pow_succ]
   simp
   omega
  ·simp only[Nat.pow_succ]
   omega
end
section
def a6C(s:List UInt8)(least most:Int)(x:Int × Int):Int × Int × Int:=
 if x.2≠0 then (0,x.1,x.2) else if (nx s x.1).2.2≠0 then (0,x.1,(nx s x.1).2.2)
 else if (nx s x.1).1<least∨most<(nx s x.1).1 then (0,x.1,1) else ((nx s x.1).1,(nx s x.1).2.1,0)
def a4f(s:List UInt8)(most:Int)(x:Int × Int):List UInt8 × Int × Int:=
 if x.2≠0 then ([],x.1,x.2) else if (nx s x.1).2.2≠0 then ([],x.1,(nx s x.1).2.2)
 else if most<(nx s x.1).1 then ([],x.1,4) else if (s.length:Int) - (nx s x.1).2.1<(nx s x.1).1 then ([],x.1,2)
 else ((s.take ((nx s x.1).2.1+(nx s x.1).1).toNat).drop (nx s x.1).2.1.toNat,(nx s x.1).2.1+(nx s x.1).1,0)
def rend(s:List UInt8)(x:Int × Int):Int:=if x.2=0∧x.1<s.length then 3 else x.2
theorem a9w(s:List UInt8)(n:Int):0≤(nx s n).1∧(nx s n).1<72057594037927936∧0≤(nx s n).2.1∧(nx s n).2.1≤s.length:=by
 unfold nx
 split
 ·have hb:=a9q 8 (s.drop n.toNat) true
  generalize a2n 8 (s.drop n.toNat) true=g at hb
  obtain ⟨v,k,e⟩:=g
  simp only[List.length_drop]at hb ⊢
  split
  ·simp only;omega
  ·simp only;omega
 ·simp only;omega
theorem b2l(s:List UInt8)(n:Int)(h:(nx s n).2.2≠0):(nx s n).1=0∧(nx s n).2.1=0:=by
 unfold nx at h ⊢
 split
 ·rename_i hn
  rw[if_pos hn]at h
  generalize a2n 8 (s.drop n.toNat) true=g at h ⊢
  obtain ⟨v,k,e⟩:=g
  simp only at h ⊢
  split
  ·rename_i he;rw[if_pos he]at h;simp at h
  ·simp
 ·simp
theorem b0Q(s:List UInt8)(least most:Int)(x:Int × Int)(h:0≤x.1∧x.1≤s.length):0≤(a6C s least most x).2.1∧(a6C s least most x).2.1≤s.length:=by
 have:=a9w s x.1
 unfold a6C
 split
 ·exact h
 split
 ·exact h
 split
 ·exact h
 ·simp only;omega
end
end Go.Proofs.YthdcogkdacnheaaGreatDoor
