import Derived.Test.YthdcogkdacnheaaGreatDoorK14
import Derived.Test.YthdcogkdacnheaaGreatDoorK12
import Derived.Lib.ItoaNum
import Derived.Lib.IndexMore
import Derived.Lib.Strings
import Derived.Test.YthdcogkdacnheaaGreatDoorK16
import Derived.Lib.SplitLaws
namespace Go.Proofs.YthdcogkdacnheaaGreatDoor
set_option linter.all false
set_option maxHeartbeats 9000000
section
set_option maxRecDepth 100000
theorem a0n(s:List UInt8):(s=([]:List UInt8))=(s.length=0):=by simp[List.length_eq_zero_iff]
theorem sxPna{A B:Prop}(h:B)(e:A=B:=by (simp (disch:=omega) only[*, ↓Ed,Eu, ↓reduceIte,reduceCtorEq,Nat.reduceAdd,Nat.reduceEqDiff,Nat.reduceLT,Nat.reduceLeDiff,Int.reduceToNat,Int.reduceEq,Int.reduceLT,Int.reduceLE,w64,a0n];first|done|rfl)):A:=e▸h
set_option maxHeartbeats 4000000 in
theorem b4z(s:List UInt8)(hs:s.length≤4611686018427387904):CP Tryz.prog 96 [.str s] (.bool (a5S s)):=by
 refine a8l _ _ (by simp) ?_
 simp only[a5B];refine sxPna ?_
 repeat' ((first|exact tt|refine na fun b=>?_|refine nb fun b hb=>?_|refine iq ?_|(refine jq ?_ ?_<;>intro h h')|refine Two_intro ?_ ?_|exact wZ|fail)<;>try refine sxPna ?_)
 refine wpx_loop (fun k:Nat=>⟨lk [(0,.str s),(7,.int .i64 s.length),(8,.int .i64 k)],lk []⟩) (fun k=>k≤s.length∧a0f (∀ j,j<k→a8F s j)) (fun k=>s.length - k) 0 ⟨by omega,fun j h=>by omega⟩ (Le_lit (by simp[LeL,lk])) ?_
 intro k ⟨h1,h2⟩
 refine sxPna ?_
 repeat' ((first|exact tt|refine na fun b=>?_|refine nb fun b hb=>?_|refine iq ?_|(refine jq ?_ ?_<;>intro h h')|refine Two_intro ?_ ?_|exact wZ|fail)<;>try refine sxPna ?_)
 all_goals simp only[a0f,Hn,a0n]at *
 all_goals first
  | (refine Round_lit (k+1) ⟨Le_lit (by simp[LeL,lk]),⟨by omega,name_step h2 (by unfold a8F;omega)⟩,by omega⟩;done)
  | (refine name_bad (k:=k) (by omega) (by unfold a8F;omega);done)
  | (exact (nameP_f fun g=>g.1 (List.eq_nil_of_length_eq_zero (by omega))).symm)
  | (rw[name_dec (by omega) h2,decide_eq_decide];omega)
  | skip
theorem a6e(p:List UInt8)(c:Int)(hs:p.length≤4611686018427387904):CP Tryz.prog 62 [.agg [.str p,.int .i64 c]] (.bool (a1E p c)):=by
 refine a8T _ _ (by simp) ?_
 simp only[a6J];refine sxPna ?_
 repeat' ((first|exact tt|refine CallO_pure (b4z p hs) ?_|refine na fun b=>?_|refine nb fun b hb=>?_|refine iq ?_|(refine jq ?_ ?_<;>intro h h')|refine Two_intro ?_ ?_|exact wZ|fail)<;>try refine sxPna ?_)
 all_goals (try simp only[a0f,Hn]at *)
 all_goals simp[a1E, *]
theorem b3k(s:List UInt8)(hs:s.length≤4611686018427387904):CP Tryz.prog 33 [.str s] (.bool (a5S s)):=by
 refine a5Y _ _ (by simp) ?_
 simp only[a3J];refine sxPna ?_
 repeat' ((first|exact tt|refine na fun b=>?_|refine nb fun b hb=>?_|refine iq ?_|(refine jq ?_ ?_<;>intro h h')|refine Two_intro ?_ ?_|exact wZ|fail)<;>try refine sxPna ?_)
 case' refine_2.refine_2.refine_2.refine_2=>
  refine wpx_loop (fun k:Nat=>⟨lk [(0,.str s),(3,.int .i64 k)],lk []⟩) (fun k=>k≤s.length∧a0f (∀ j,j<k→a8F s j)) (fun k=>s.length - k) 0 ⟨by omega,fun j h=>by omega⟩ (Le_lit (by simp[LeL,lk])) ?_
  intro k ⟨h1,h2⟩
  have h97:k=0→97≤(s.getD k 0).toNat∧(s.getD k 0).toNat≤122:=fun e=>by subst e;simp only[a0f,Hn]at *;exact ⟨by omega,by omega⟩
  refine sxPna ?_
  repeat' ((first|exact tt|refine na fun b=>?_|refine nb fun b hb=>?_|refine iq ?_|(refine jq ?_ ?_<;>intro h h')|refine Two_intro ?_ ?_|exact wZ|fail)<;>try refine sxPna ?_)
 all_goals simp only[a0f,Hn]at *
 all_goals first
  | (refine Round_lit (k+1) ⟨Le_lit (by simp[LeL,lk]),⟨by omega,name_step h2 (by unfold a8F;omega)⟩,by omega⟩;done)
  | (refine name_bad (k:=k) (by omega) (by unfold a8F;omega);done)
  | (rw[name_dec (k:=k) (by omega) h2];exact (decide_eq_true ⟨by omega,by omega⟩).symm)
  | (exact (nameP_f fun g=>by have:=g.2.1;have:=g.2.2 0 (by omega);unfold a8F at this;omega).symm)
  | (refine (nameP_f fun g=>?_).symm;have h0:=List.length_pos_iff.2 g.1;omega)
  | skip
theorem a1u(p:List UInt8)(c:Int)(hs:p.length≤4611686018427387904):CP Tryz.prog 7 [.agg [.str p,.int .i64 c]] (.bool (a1E p c)):=by
 refine a4O _ _ (by simp) ?_
 simp only[a2M];refine sxPna ?_
 repeat' ((first|exact tt|refine CallO_pure (b3k p hs) ?_|refine na fun b=>?_|refine nb fun b hb=>?_|refine iq ?_|(refine jq ?_ ?_<;>intro h h')|refine Two_intro ?_ ?_|exact wZ|fail)<;>try refine sxPna ?_)
 all_goals (try simp only[a0f,Hn]at *)
 all_goals simp[a1E, *]
end
section
open Go
theorem b1t(a b:List UInt8)(i:Nat)(d:UInt8)(h:i<a.length):(a++b).getD i d=a.getD i d:=by simp[List.getD,List.getElem?_append_left h]
def a2E(c:UInt8):Prop:=48≤c.toNat∧c.toNat≤57
instance (c:UInt8):Decidable (a2E c):=by unfold a2E;exact inferInstance
def a6Z(s:List UInt8):Nat:=s.foldl (fun v c=>10 * v+(c.toNat - 48)) 0
def a9v(s:List UInt8):Prop:=(∀ c∈s,a2E c)∧¬ (1<s.length∧s.getD 0 0=48)
instance (s:List UInt8):Decidable (a9v s):=by unfold a9v;exact inferInstance
def a3g(s:List UInt8):Int × Int:=
 if s=[] then (0,2) else if ¬ a9v s then (0,3) else if 17<s.length then (0,4) else if 72057594037927935<a6Z s then (0,4) else ((a6Z s:Int),0)
abbrev dig(n:Nat):List UInt8:=Lib.decDigits n
theorem dig_lo{n:Nat}(h:n<10):dig n=[UInt8.ofNat (48+n)]:=by rw[dig,Lib.decDigits,dif_pos h]
theorem dig_hi{n:Nat}(h:¬ n<10):dig n=dig (n / 10)++[UInt8.ofNat (48+n % 10)]:=by rw[dig,Lib.decDigits,dif_neg h]
theorem u8n{n:Nat}(h:n<256):(UInt8.ofNat n).toNat=n:=by rw[UInt8.toNat_ofNat'];omega
theorem b0r:∀ (n:Nat), ∀ c∈dig n,a2E c:=by
 intro n
 induction n using Nat.strongRecOn with
 | _ n ih=>
  intro c hc
  by_cases h:n<10
  ·rw[dig_lo h]at hc
   simp only[List.mem_singleton]at hc
   subst hc
   unfold a2E
   rw[u8n (by omega)];omega
  ·rw[dig_hi h]at hc
   rcases List.mem_append.1 hc with hc|hc
   ·exact ih (n / 10) (by omega) c hc
   ·simp only[List.mem_singleton]at hc
    subst hc
    unfold a2E
    rw[u8n (by omega)];omega
theorem a8C(s:List UInt8)(c:UInt8):a6Z (s++[c])=10 * a6Z s+(c.toNat - 48):=by simp[a6Z,List.foldl_append]
theorem a8H(n:Nat):a6Z (dig n)=n:=by
 induction n using Nat.strongRecOn with
 | _ n ih=>
  by_cases h:n<10
  ·rw[dig_lo h]
   simp only[a6Z,List.foldl_cons,List.foldl_nil]
   rw[u8n (by omega)];omega
  ·rw[dig_hi h,a8C,ih (n / 10) (by omega),u8n (by omega)];omega
theorem a9j(n:Nat):dig n≠[]:=by
 by_cases h:n<10
 ·rw[dig_lo h];simp
 ·rw[dig_hi h];simp
theorem a5H:∀ (k n:Nat),n<10 ^ (k+1)→(dig n).length≤k+1
 | 0,n,h=>by rw[dig_lo (by omega)];simp
 | k+1,n,h=>by
  by_cases hn:n<10
  ·rw[dig_lo hn];simp
  ·rw[dig_hi hn]
   have:=a5H k (n / 10) (by rw[Nat.pow_succ]at h;omega)
   simp only[List.length_append,List.length_cons,List.length_nil];omega
theorem b1p(n:Nat)(h:0<n):(dig n).getD 0 0≠48:=by
 induction n using Nat.strongRecOn with
 | _ n ih=>
  by_cases hn:n<10
  ·rw[dig_lo hn]
   intro e
   have:=congrArg UInt8.toNat e
   simp only[List.getD_cons_zero]at this
   rw[u8n (by omega)]at this
   have h48:(48:UInt8).toNat=48:=rfl
   omega
  ·rw[dig_hi hn]
   have h1:=List.length_pos_iff.2 (a9j (n / 10))
   have:=ih (n / 10) (by omega) (by omega)
   rwa [b1t _ _ _ _ h1]
theorem num_dig{n:Nat}(h:n≤72057594037927935):a3g (dig n)=((n:Int),0):=by
 have h17:=a5H 16 n (by omega)
 have hq:a9v (dig n):=by
  refine ⟨b0r n,fun ⟨h1,h2⟩=>?_⟩
  by_cases h0:n=0
  ·subst h0;rw[dig_lo (by omega)]at h1;simp at h1
  ·exact b1p n (by omega) h2
 unfold a3g
 rw[if_neg (a9j n),if_neg (by simpa using hq),if_neg (by omega),a8H,if_neg (by omega)]
theorem dig_inj{a b:Nat}(h:dig a=dig b):a=b:=by rw[← a8H a, ← a8H b,h]
end
section
open Go.RowKit
set_option maxRecDepth 100000
theorem a3f:1000000≤maxLen:=by unfold maxLen;decide
abbrev bts(l:List UInt8):List (List AV):=l.map a0y
theorem sxPaa{A B:Prop}(h:B)(e:A=B:=by (simp (disch:=omega) only[*, ↓Ed,Eu, ↓reduceIte,reduceCtorEq,Nat.reduceAdd,Nat.reduceEqDiff,Nat.reduceLT,Nat.reduceLeDiff,Int.reduceToNat,Int.reduceEq,Int.reduceLT,Int.reduceLE,w64,a0n,List.length_append,Nat.reduceMul];first|done|rfl)):A:=e▸h
theorem b2r(a b:List UInt8)(c d:Int):CP Tryz.prog 61 [.agg [.str a,.int .i64 c],.agg [.str b,.int .i64 d]] (.bool (Op.bytesLess a b||(decide (a=b)&&decide (c<d)))):=by
 refine a8k _ _ (by simp) ?_
 simp only[a5A, ↓Ed,Eu, ↓reduceIte,reduceCtorEq,Nat.reduceAdd,Nat.reduceEqDiff,Nat.reduceLT,Nat.reduceLeDiff,Int.reduceToNat,Int.reduceEq,Int.reduceLT,Int.reduceLE,w64,a0n,List.length_append,Nat.reduceMul]
 repeat' ((first|refine NewB_intro0 (fun b=>?_)|(refine NewB_intro (fun b hb=>?_);simp only[ln_cons2,ln_nil,and_true]at hb)|(with_reducible apply wA;focus exact OM_a)|((first|refine gW_sp ?_|refine condW_sp ?_|refine pickW_sp ?_);(try refine Sp_n ?_);(first|refine wT ?_|refine wF ?_|refine wL (fun h h'=>?_) (fun h h'=>?_)|refine wE (fun h h'=>?_) (fun h h'=>?_)|refine Sp_split (fun h=>?_) (fun h=>?_))<;>(try (exfalso;omega)))|refine TreeW_intro (by rfl) ?_|refine TreeW_all ?_|refine a0a ?_|refine Two_intro ?_ ?_|exact wZ|fail)<;>(try refine sxPaa ?_)<;>(try exact True.intro))
 all_goals (try simp only[a0f,Bool.not_eq_true',Bool.not_eq_false',decide_eq_true_eq,decide_eq_false_iff_not]at *)
 all_goals simp_all
theorem b0D(a b:List UInt8)(c d:Int):CP Tryz.prog 55 [.agg [.str a,.int .i64 c],.agg [.str b,.int .i64 d]] (.bool (Op.bytesLess a b||(decide (a=b)&&decide (c<d)))):=by
 refine a4r _ _ (by simp) ?_
 simp only[a2o, ↓Ed,Eu, ↓reduceIte,reduceCtorEq,Nat.reduceAdd,Nat.reduceEqDiff,Nat.reduceLT,Nat.reduceLeDiff,Int.reduceToNat,Int.reduceEq,Int.reduceLT,Int.reduceLE,w64,a0n,List.length_append,Nat.reduceMul]
 repeat' ((first|refine NewB_intro0 (fun b=>?_)|(refine NewB_intro (fun b hb=>?_);simp only[ln_cons2,ln_nil,and_true]at hb)|(with_reducible apply wA;focus exact OM_a)|((first|refine gW_sp ?_|refine condW_sp ?_|refine pickW_sp ?_);(try refine Sp_n ?_);(first|refine wT ?_|refine wF ?_|refine wL (fun h h'=>?_) (fun h h'=>?_)|refine wE (fun h h'=>?_) (fun h h'=>?_)|refine Sp_split (fun h=>?_) (fun h=>?_))<;>(try (exfalso;omega)))|refine TreeW_intro (by rfl) ?_|refine TreeW_all ?_|refine a0a ?_|refine Two_intro ?_ ?_|exact wZ|fail)<;>(try refine sxPaa ?_)<;>(try exact True.intro))
 all_goals (try simp only[a0f,Bool.not_eq_true',Bool.not_eq_false',decide_eq_true_eq,decide_eq_false_iff_not]at *)
 all_goals simp_all
theorem b1b(s:List UInt8):Lib.trimS s digs=[]↔∀ c∈s,a2E c:=by
 have hd:∀ c:UInt8,digs.contains c=true↔a2E c:=by
  intro c
  have h:∀ n:Fin 256,digs.contains (UInt8.ofNat n.val)=decide (48≤n.val∧n.val≤57):=by decide
  have:=h ⟨c.toNat,c.toNat_lt⟩
  simp only[UInt8.ofNat_toNat]at this
  rw[this,decide_eq_true_eq];rfl
 have hn:∀ (p:UInt8→Bool) (l:List UInt8),l.dropWhile p=[]↔∀ x∈l,p x=true:=by
  intro p l
  induction l with
  | nil=>simp
  | cons x l ih=>
   rw[List.dropWhile_cons]
   cases h:p x with
   | true=>simp[h,ih]
   | false=>simp[h]
 have hh:∀ (p:UInt8→Bool) (l:List UInt8) (y:UInt8) (ys:List UInt8),l.dropWhile p=y::ys→p y=false:=by
  intro p l
  induction l with
  | nil=>intro y ys h;simp at h
  | cons x l ih=>
   intro y ys h
   rw[List.dropWhile_cons]at h
   cases hx:p x with
   | true=>rw[hx]at h;exact ih y ys (by simpa using h)
   | false=>rw[hx]at h;simp at h;rw[← h.1];exact hx
 unfold Lib.trimS Lib.trimLeftS Lib.trimRightS
 rw[hn]
 constructor
 ·intro h c hc
  have h3:s.reverse.dropWhile (digs.contains ·)=[]:=by
   cases hd':s.reverse.dropWhile (digs.contains ·) with
   | nil=>rfl
   | cons y ys=>
    have h4:=hh _ _ _ _ hd'
    have h5:=h y (by rw[hd'];simp)
    rw[h5]at h4;cases h4
  rw[hn]at h3
  exact (hd c).1 (h3 c (by simpa using hc))
 ·intro h c hc
  have hz:s.reverse.dropWhile (digs.contains ·)=[]:=by
   rw[hn]
   intro x hx
   exact (hd x).2 (h x (by simpa using hx))
  rw[hz]at hc
  simp at hc
theorem valD_take{s:List UInt8}{k:Nat}(h:k<s.length):a6Z (s.take (k+1))=10 * a6Z (s.take k)+((s.getD k 0).toNat - 48):=by
 rw[List.take_add_one,List.getElem?_eq_getElem h]
 simp only[Option.toList_some]
 rw[a8C]
 simp[List.getD,List.getElem?_eq_getElem h]
theorem valD_le{s:List UInt8}(hd:∀ c∈s,a2E c):∀ k,k≤s.length→a6Z (s.take k)+1≤10 ^ k
 | 0,_=>by simp[a6Z]
 | k+1,h=>by
  have ih:=valD_le hd k (by omega)
  rw[valD_take (by omega),Nat.pow_succ]
  have hk:k<s.length:=by omega
  have:a2E (s.getD k 0):=by
   rw[List.getD,List.getElem?_eq_getElem hk];exact hd _ (List.getElem_mem hk)
  unfold a2E at this
  omega
theorem u48{c:UInt8}:((c.toNat:Int)=48)=(c=48):=propext ⟨fun h=>UInt8.toNat_inj.1 (by have:(48:UInt8).toNat=48:=rfl;omega),fun h=>by rw[h];rfl⟩
theorem dig_at{s:List UInt8}(hd:∀ c∈s,a2E c){k:Nat}(hk:k<s.length):48≤(s.getD k 0).toNat∧(s.getD k 0).toNat≤57:=by
 rw[List.getD,List.getElem?_eq_getElem hk];exact hd _ (List.getElem_mem hk)
theorem wsub{n:Nat}(h:48≤n∧n≤57):IntKind.u8.wrap ((n:Int) - 48)=((n - 48:Nat):Int):=by rw[IntKind.wrap_u8];omega
theorem numP_form{s:List UInt8}(h0:¬ s=[])(h:¬ a9v s):a3g s=(0,3):=by unfold a3g;rw[if_neg h0,if_pos h]
theorem numP_long{s:List UInt8}(hq:a9v s)(h:17<s.length):a3g s=(0,4):=by
 unfold a3g;rw[if_neg (fun e=>by subst e;simp at h),if_neg (by simpa using hq),if_pos h]
theorem numP_big{s:List UInt8}(h0:¬ s=[])(hq:a9v s)(h:¬ 17<s.length)(hv:72057594037927935<a6Z s):a3g s=(0,4):=by
 unfold a3g;rw[if_neg h0,if_neg (by simpa using hq),if_neg h,if_pos hv]
theorem numP_ok{s:List UInt8}(h0:¬ s=[])(hq:a9v s)(h:¬ 17<s.length)(hv:¬ 72057594037927935<a6Z s):a3g s=((a6Z s:Int),0):=by
 unfold a3g;rw[if_neg h0,if_neg (by simpa using hq),if_neg h,if_neg hv]
theorem a7A(s:List UInt8)(hs:s.length≤16000000):CP Tryz.prog 93 [.str s] (.tup [.int .i64 (a3g s).1,.int .i64 (a3g s).2]):=by
  by_cases h0:s=[]
  · subst h0
    refine a3N _ _ (by simp) ?_
    simp only[a2C, ↓Ed,Eu, ↓reduceIte,reduceCtorEq,Nat.reduceAdd,Nat.reduceEqDiff,Nat.reduceLT,Nat.reduceLeDiff,Int.reduceToNat,Int.reduceEq,Int.reduceLT,Int.reduceLE,w64,a0n,List.length_append,Nat.reduceMul]
    repeat' ((first|refine NewB_intro0 (fun b=>?_)|(refine NewB_intro (fun b hb=>?_);simp only[ln_cons2,ln_nil,and_true]at hb)|(with_reducible apply wA;focus exact OM_a)|((first|refine gW_sp ?_|refine condW_sp ?_|refine pickW_sp ?_);(try refine Sp_n ?_);(first|refine wT ?_|refine wF ?_|refine wL (fun h h'=>?_) (fun h h'=>?_)|refine wE (fun h h'=>?_) (fun h h'=>?_)|refine Sp_split (fun h=>?_) (fun h=>?_))<;>(try (exfalso;omega)))|refine TreeW_intro (by rfl) ?_|refine TreeW_all ?_|refine a0a ?_|refine Two_intro ?_ ?_|exact wZ|fail)<;>(try refine sxPaa ?_)<;>(try exact True.intro))
    all_goals simp[a3g]
  have ht:=b1b s
  rw[← List.length_eq_zero_iff]at ht
  have hl:¬ s.length=0:=fun e=>h0 (List.length_eq_zero_iff.1 e)
  refine a3N _ _ (by simp) ?_
  simp only[a2C, ↓Ed,Eu, ↓reduceIte,reduceCtorEq,Nat.reduceAdd,Nat.reduceEqDiff,Nat.reduceLT,Nat.reduceLeDiff,Int.reduceToNat,Int.reduceEq,Int.reduceLT,Int.reduceLE,w64,a0n,List.length_append,Nat.reduceMul]
  repeat' ((first|refine CallO_pure (b3c s (by omega)) ?_|refine NewB_intro0 (fun b=>?_)|(refine NewB_intro (fun b hb=>?_);simp only[ln_cons2,ln_nil,and_true]at hb)|(with_reducible apply wA;focus exact OM_a)|((first|refine gW_sp ?_|refine condW_sp ?_|refine pickW_sp ?_);(try refine Sp_n ?_);(first|refine wT ?_|refine wF ?_|refine wL (fun h h'=>?_) (fun h h'=>?_)|refine wE (fun h h'=>?_) (fun h h'=>?_)|refine Sp_split (fun h=>?_) (fun h=>?_))<;>(try (exfalso;omega)))|refine TreeW_intro (by rfl) ?_|refine TreeW_all ?_|refine a0a ?_|refine Two_intro ?_ ?_|exact wZ|fail)<;>(try refine sxPaa ?_)<;>(try exact True.intro))
  all_goals (try simp only[a0f,Bool.not_eq_true',Bool.not_eq_false',decide_eq_true_eq,decide_eq_false_iff_not,u48]at *)
  case' refine_2.refine_1.refine_1.right.refine_2.refine_2=>have hq:a9v s:=⟨by assumption,fun g=>by simp_all⟩
  case' refine_2.refine_1.refine_2.refine_2=>have hq:a9v s:=⟨by assumption,fun g=>by omega⟩
  case' refine_2.refine_1.refine_1.right.refine_2.refine_2|refine_2.refine_1.refine_2.refine_2=>
    clear ht
    refine wpx_loop (fun k:Nat=>⟨lk [(0,.str s),(4,.int .i64 (a6Z (s.take k))),(25,.int .i64 s.length),(26,.int .i64 k)],lk []⟩) (fun k=>k≤s.length) (fun k=>s.length - k) 0 (by omega) (Le_lit (by simp[LeL,lk,a6Z])) ?_
    intro k h1
    have hv:=valD_le hq.1 k h1
    have h17:10 ^ k≤10 ^ 17:=Nat.pow_le_pow_right (by omega) (by omega)
    have hlt:a6Z (s.take k)<100000000000000000:=by omega
    clear hv h17
    simp only[↓Ed,Eu, ↓reduceIte,reduceCtorEq,Nat.reduceAdd,Nat.reduceEqDiff,Nat.reduceLT,Nat.reduceLeDiff,Int.reduceToNat,Int.reduceEq,Int.reduceLT,Int.reduceLE,w64,a0n,List.length_append,Nat.reduceMul]
    repeat' ((first|refine NewB_intro0 (fun b=>?_)|(refine NewB_intro (fun b hb=>?_);simp only[ln_cons2,ln_nil,and_true]at hb)|(with_reducible apply wA;focus exact OM_a)|((first|refine gW_sp ?_|refine condW_sp ?_|refine pickW_sp ?_);(try refine Sp_n ?_);(first|refine wT ?_|refine wF ?_|refine wL (fun h h'=>?_) (fun h h'=>?_)|refine wE (fun h h'=>?_) (fun h h'=>?_)|refine Sp_split (fun h=>?_) (fun h=>?_))<;>(try (exfalso;omega)))|refine TreeW_intro (by rfl) ?_|refine TreeW_all ?_|refine a0a ?_|refine Two_intro ?_ ?_|exact wZ|fail)<;>(try refine sxPaa ?_)<;>(try exact True.intro))
  all_goals (try simp only[a0f,Bool.not_eq_true',Bool.not_eq_false',decide_eq_true_eq,decide_eq_false_iff_not,u48]at *)
  all_goals first
    | (rw[numP_form h0 (fun g=>g.2 ⟨by omega,by assumption⟩)];exact ⟨rfl,rfl⟩)
    | (rw[numP_form h0 (fun g=>absurd g.1 (by assumption))];exact ⟨rfl,rfl⟩)
    | (have h3:17<s.length:=by omega
       have hq:a9v s:=⟨by assumption,fun g=>by simp_all⟩
       rw[numP_long hq h3];exact ⟨rfl,rfl⟩)
    | (exact absurd (by assumption) hl)
    | (obtain rfl:k=s.length:=by omega
       rw[List.take_length]at *
       first
         | (rw[numP_big h0 hq (by omega) (by omega)];exact ⟨rfl,rfl⟩)
         | (rw[numP_ok h0 hq (by omega) (by omega)];exact ⟨rfl,rfl⟩))
    | (have hd:=dig_at hq.1 (k:=k) (by omega)
       simp only[wsub hd]
       refine Round_lit (k+1) ⟨Le_lit ?_,by omega,by omega⟩
       rw[valD_take (by omega)]
       generalize (s.getD k 0).toNat=y at *
       simp[LeL,lk]
       rw[IntKind.wrap_i64,IntKind.wrap_i64];omega)
theorem b1F(n:Int):CP Tryz.prog 70 [.int .i64 n] (.bool (decide (1≤n)&&decide (n≤3))):=by
 refine a6z _ _ (by simp) ?_
 simp only[a4m, ↓Ed,Eu, ↓reduceIte,reduceCtorEq,Nat.reduceAdd,Nat.reduceEqDiff,Nat.reduceLT,Nat.reduceLeDiff,Int.reduceToNat,Int.reduceEq,Int.reduceLT,Int.reduceLE,w64,a0n,List.length_append,Nat.reduceMul]
 repeat' ((first|refine NewB_intro0 (fun b=>?_)|(refine NewB_intro (fun b hb=>?_);simp only[ln_cons2,ln_nil,and_true]at hb)|(with_reducible apply wA;focus exact OM_a)|((first|refine gW_sp ?_|refine condW_sp ?_|refine pickW_sp ?_);(try refine Sp_n ?_);(first|refine wT ?_|refine wF ?_|refine wL (fun h h'=>?_) (fun h h'=>?_)|refine wE (fun h h'=>?_) (fun h h'=>?_)|refine Sp_split (fun h=>?_) (fun h=>?_))<;>(try (exfalso;omega)))|refine TreeW_intro (by rfl) ?_|refine TreeW_all ?_|refine a0a ?_|refine Two_intro ?_ ?_|exact wZ|fail)<;>(try refine sxPaa ?_)<;>(try exact True.intro))
 all_goals (try simp only[a0f,Bool.not_eq_true',Bool.not_eq_false',decide_eq_true_eq,decide_eq_false_iff_not]at *)
 all_goals simp_all
 all_goals omega
end
section
open Go
abbrev chn:List UInt8:=[99,104,97,110,110,101,108,45]
abbrev b0N:List UInt8:=[112,111,114,116,115]
abbrev b0k:List UInt8:=[99,104,97,110,110,101,108,115]
abbrev b3N:List UInt8:=[115,101,113,117,101,110,99,101,115]
def a1l(k:Int):List UInt8:=
 if k=1 then [99,111,109,109,105,116,109,101,110,116,115] else if k=2 then [114,101,99,101,105,112,116,115] else if k=3 then [97,99,107,115] else if k=4 then [110,101,120,116,83,101,113,117,101,110,99,101,83,101,110,100] else if k=5 then [110,101,120,116,83,101,113,117,101,110,99,101,82,101,99,118] else if k=6 then [110,101,120,116,83,101,113,117,101,110,99,101,65,99,107] else if k=7 then [99,104,97,110,110,101,108,69,110,100,115] else []
theorem wordP_out{k:Int}(h:k<1∨7<k):a1l k=[]:=by
 unfold a1l
 repeat rw[if_neg (by omega)]
theorem wordP_in{k:Int}(h:1≤k∧k≤7):a1l k≠[]:=by
 obtain rfl|rfl|rfl|rfl|rfl|rfl|rfl:k=1∨k=2∨k=3∨k=4∨k=5∨k=6∨k=7:=by omega
 all_goals simp[a1l]
theorem wordP_inj{k j:Int}(h:1≤k∧k≤7)(g:1≤j∧j≤7)(e:a1l k=a1l j):k=j:=by
 obtain rfl|rfl|rfl|rfl|rfl|rfl|rfl:k=1∨k=2∨k=3∨k=4∨k=5∨k=6∨k=7:=by omega
 all_goals
  obtain rfl|rfl|rfl|rfl|rfl|rfl|rfl:j=1∨j=2∨j=3∨j=4∨j=5∨j=6∨j=7:=by omega
  all_goals first|rfl|(simp[a1l]at e)
theorem a6l(k:Int):(a1l k).length≤16:=by
 unfold a1l
 repeat' split
 all_goals decide
theorem a5v(k:Int):47 ∉ a1l k:=by
 unfold a1l
 repeat' split
 all_goals decide
theorem itoa_dig{n:Int}(h:0≤n):Lib.itoa n=dig n.toNat:=by unfold Lib.itoa;rw[if_neg (by omega)]
def b2N(s:List UInt8):Bool:=Lib.hasPrefix s chn&&decide ((a3g (Lib.trimPrefix s chn)).2=0)
def a9l(s:List UInt8):Int:=(a3g (Lib.trimPrefix s chn)).1
noncomputable def b3I (p s:List UInt8):Bool:=b2N s&&a1E p (a9l s)
def a7c(k:Int)(p:List UInt8)(c:Int):List UInt8:=a1l k++[47]++b0N++[47]++p++[47]++b0k++[47]++chn++Lib.itoa c
noncomputable def ofP (k:Int) (p:List UInt8) (c q:Int):List UInt8:=
 if a1l k=[]∨¬ a1E p c=true then [] else if 1≤k∧k≤3 then if 1≤q∧q≤1099511627776 then a7c k p c++[47]++b3N++[47]++Lib.itoa q else [] else if q=0 then a7c k p c else []
theorem mayP_t{p:List UInt8}{c:Int}(h:a1E p c=true):p.length≤12∧0≤c∧c≤999∧a4K p:=by
 simp only[a1E,Bool.and_eq_true,decide_eq_true_eq,nameP_iff]at h
 exact ⟨h.1.1.2.1,h.1.2,h.2,h.1.1⟩
theorem dig_len3{c:Int}(h:0≤c∧c≤999):(Lib.itoa c).length≤3:=by rw[itoa_dig h.1];exact a5H 2 _ (by omega)
theorem dig_len13{c:Int}(h:0≤c∧c≤1099511627776):(Lib.itoa c).length≤13:=by rw[itoa_dig h.1];exact a5H 12 _ (by omega)
end
section
open Go.RowKit
set_option maxRecDepth 100000
theorem sxPab{A B:Prop}(h:B)(e:A=B:=by (simp (disch:=omega) only[*, ↓Ed,Eu, ↓reduceIte,reduceCtorEq,Nat.reduceAdd,Nat.reduceEqDiff,Nat.reduceLT,Nat.reduceLeDiff,Int.reduceToNat,Int.reduceEq,Int.reduceLT,Int.reduceLE,w64,a0n,List.length_append,Nat.reduceMul];first|done|rfl)):A:=e▸h
theorem a9B(k:Int):CP Tryz.prog 68 [.int .i64 k] (.str (a1l k)):=by
 by_cases h:0≤k∧k≤7
 ·obtain rfl|rfl|rfl|rfl|rfl|rfl|rfl|rfl:k=0∨k=1∨k=2∨k=3∨k=4∨k=5∨k=6∨k=7:=by omega
  all_goals
   refine a5a _ _ (by simp) ?_
   simp only[a3S, ↓Ed,Eu, ↓reduceIte,reduceCtorEq,Nat.reduceAdd,Nat.reduceEqDiff,Nat.reduceLT,Nat.reduceLeDiff,Int.reduceToNat,Int.reduceEq,Int.reduceLT,Int.reduceLE,w64,a0n,List.length_append,Nat.reduceMul]
   repeat' ((first|refine NewB_intro0 (fun b=>?_)|(refine NewB_intro (fun b hb=>?_);simp only[ln_cons2,ln_nil,and_true]at hb)|(with_reducible apply wA;focus exact OM_a)|((first|refine gW_sp ?_|refine condW_sp ?_|refine pickW_sp ?_);(try refine Sp_n ?_);(first|refine wT ?_|refine wF ?_|refine wL (fun h h'=>?_) (fun h h'=>?_)|refine wE (fun h h'=>?_) (fun h h'=>?_)|refine Sp_split (fun h=>?_) (fun h=>?_))<;>(try (exfalso;omega)))|refine TreeW_intro (by rfl) ?_|refine TreeW_all ?_|refine a0a ?_|refine Two_intro ?_ ?_|exact wZ|fail)<;>(try refine sxPab ?_)<;>(try exact True.intro))
  all_goals first|rfl|(simp[a1l];done)|skip
 ·refine a5a _ _ (by simp) ?_
  simp only[a3S, ↓Ed,Eu, ↓reduceIte,reduceCtorEq,Nat.reduceAdd,Nat.reduceEqDiff,Nat.reduceLT,Nat.reduceLeDiff,Int.reduceToNat,Int.reduceEq,Int.reduceLT,Int.reduceLE,w64,a0n,List.length_append,Nat.reduceMul]
  repeat' ((first|refine NewB_intro0 (fun b=>?_)|(refine NewB_intro (fun b hb=>?_);simp only[ln_cons2,ln_nil,and_true]at hb)|(with_reducible apply wA;focus exact OM_a)|((first|refine gW_sp ?_|refine condW_sp ?_|refine pickW_sp ?_);(try refine Sp_n ?_);(first|refine wT ?_|refine wF ?_|refine wL (fun h h'=>?_) (fun h h'=>?_)|refine wE (fun h h'=>?_) (fun h h'=>?_)|refine Sp_split (fun h=>?_) (fun h=>?_))<;>(try (exfalso;omega)))|refine TreeW_intro (by rfl) ?_|refine TreeW_all ?_|refine a0a ?_|refine Two_intro ?_ ?_|exact wZ|fail)<;>(try refine sxPab ?_)<;>(try exact True.intro))
  all_goals first|(simp[wordP_out (show k<1∨7<k by omega)];done)|(exfalso;simp only[a0f,Bool.not_eq_true',Bool.not_eq_false',decide_eq_true_eq,decide_eq_false_iff_not]at *;omega)
theorem a7I(k:Int):CP Tryz.prog 40 [.int .i64 k] (.str (a1l k)):=by
 refine a5Z _ _ (by simp) ?_
 simp only[a3K, ↓Ed,Eu, ↓reduceIte,reduceCtorEq,Nat.reduceAdd,Nat.reduceEqDiff,Nat.reduceLT,Nat.reduceLeDiff,Int.reduceToNat,Int.reduceEq,Int.reduceLT,Int.reduceLE,w64,a0n,List.length_append,Nat.reduceMul]
 repeat' ((first|refine NewB_intro0 (fun b=>?_)|(refine NewB_intro (fun b hb=>?_);simp only[ln_cons2,ln_nil,and_true]at hb)|(with_reducible apply wA;focus exact OM_a)|((first|refine gW_sp ?_|refine condW_sp ?_|refine pickW_sp ?_);(try refine Sp_n ?_);(first|refine wT ?_|refine wF ?_|refine wL (fun h h'=>?_) (fun h h'=>?_)|refine wE (fun h h'=>?_) (fun h h'=>?_)|refine Sp_split (fun h=>?_) (fun h=>?_))<;>(try (exfalso;omega)))|refine TreeW_intro (by rfl) ?_|refine TreeW_all ?_|refine a0a ?_|refine Two_intro ?_ ?_|exact wZ|fail)<;>(try refine sxPab ?_)<;>(try exact True.intro))
 all_goals (try simp only[a0f,Bool.not_eq_true',Bool.not_eq_false',decide_eq_true_eq,decide_eq_false_iff_not]at *)
 all_goals (try subst_vars)
 all_goals first|rfl|(simp[a1l, *];done)|skip
theorem a9Y(p s:List UInt8)(hp:p.length≤1000000)(hs:s.length≤1000000):CP Tryz.prog 92 [.str p,.str s] (.tup [.agg [.str p,.int .i64 (a9l s)],.bool (b3I p s)]):=by
 have hm:=a3f
 have hl:=Lib.trimPrefix_le s chn
 simp only[chn]at hl
 refine a8U _ _ (by simp) ?_
 simp only[a6K, ↓Ed,Eu, ↓reduceIte,reduceCtorEq,Nat.reduceAdd,Nat.reduceEqDiff,Nat.reduceLT,Nat.reduceLeDiff,Int.reduceToNat,Int.reduceEq,Int.reduceLT,Int.reduceLE,w64,a0n,List.length_append,Nat.reduceMul]
 repeat' ((first|refine CallO_pure (a8X _ _) ?_|refine CallO_pure (a7A _ (by omega)) ?_|refine CallO_pure (a7x _ (by omega)) ?_|refine CallO_pure (a6e _ _ (by omega)) ?_|refine CallW_intro (a6e _ _ (by omega)) ?_|refine NewB_intro0 (fun b=>?_)|(refine NewB_intro (fun b hb=>?_);simp only[ln_cons2,ln_nil,and_true]at hb)|(with_reducible apply wA;focus exact OM_a)|((first|refine gW_sp ?_|refine condW_sp ?_|refine pickW_sp ?_);(try refine Sp_n ?_);(first|refine wT ?_|refine wF ?_|refine wL (fun h h'=>?_) (fun h h'=>?_)|refine wE (fun h h'=>?_) (fun h h'=>?_)|refine Sp_split (fun h=>?_) (fun h=>?_))<;>(try (exfalso;omega)))|refine TreeW_intro (by rfl) ?_|refine TreeW_all ?_|refine a0a ?_|refine Two_intro ?_ ?_|exact wZ|fail)<;>(try refine sxPab ?_)<;>(try exact True.intro))
 all_goals (try simp only[a0f,Bool.not_eq_true',Bool.not_eq_false',decide_eq_true_eq,decide_eq_false_iff_not]at *)
 all_goals simp[a9l,b3I,b2N,chn, *]
theorem a9Z(k:Int)(p:List UInt8)(c q:Int)(hp:p.length≤1000000):CP Tryz.prog 34 [.int .i64 k,.agg [.str p,.int .i64 c],.int .i64 q] (.str (ofP k p c q)):=by
 have hm:=a3f
 have hw:=a6l k
 have ht13:_→(Lib.itoa q).length≤13:=dig_len13
 cases hM:a1E p c with
 | false=>
  refine a6Q _ _ (by simp) ?_
  simp only[a5C, ↓Ed,Eu, ↓reduceIte,reduceCtorEq,Nat.reduceAdd,Nat.reduceEqDiff,Nat.reduceLT,Nat.reduceLeDiff,Int.reduceToNat,Int.reduceEq,Int.reduceLT,Int.reduceLE,w64,a0n,List.length_append,Nat.reduceMul]
  repeat' ((first|refine CallO_pure (a9B k) ?_|refine CallW_intro (a9B k) ?_|refine CallO_pure (a6e p c (by omega)) ?_|refine NewB_intro0 (fun b=>?_)|(refine NewB_intro (fun b hb=>?_);simp only[ln_cons2,ln_nil,and_true]at hb)|(with_reducible apply wA;focus exact OM_a)|((first|refine gW_sp ?_|refine condW_sp ?_|refine pickW_sp ?_);(try refine Sp_n ?_);(first|refine wT ?_|refine wF ?_|refine wL (fun h h'=>?_) (fun h h'=>?_)|refine wE (fun h h'=>?_) (fun h h'=>?_)|refine Sp_split (fun h=>?_) (fun h=>?_))<;>(try (exfalso;omega)))|refine TreeW_intro (by rfl) ?_|refine TreeW_all ?_|refine a0a ?_|refine Two_intro ?_ ?_|exact wZ|fail)<;>(try refine sxPab ?_)<;>(try exact True.intro))
  all_goals simp[ofP,hM]
 | true=>
  obtain ⟨hp2,hc1,hc2,_⟩:=mayP_t hM
  have h3:=dig_len3 ⟨hc1,hc2⟩
  refine a6Q _ _ (by simp) ?_
  simp only[a5C, ↓Ed,Eu, ↓reduceIte,reduceCtorEq,Nat.reduceAdd,Nat.reduceEqDiff,Nat.reduceLT,Nat.reduceLeDiff,Int.reduceToNat,Int.reduceEq,Int.reduceLT,Int.reduceLE,w64,a0n,List.length_append,Nat.reduceMul]
  repeat' ((first|refine CallO_pure (a9B k) ?_|refine CallW_intro (a9B k) ?_|refine CallO_pure (a6e p c (by omega)) ?_|refine CallO_pure (b1F k) ?_|refine CallW_intro (b2q c (by omega)) ?_|refine CallO_pure (b2q q (by simp only[a0f,Bool.not_eq_true',Bool.not_eq_false',decide_eq_true_eq,decide_eq_false_iff_not]at *;omega)) ?_|refine NewB_intro0 (fun b=>?_)|(refine NewB_intro (fun b hb=>?_);simp only[ln_cons2,ln_nil,and_true]at hb)|(with_reducible apply wA;focus exact OM_a)|((first|refine gW_sp ?_|refine condW_sp ?_|refine pickW_sp ?_);(try refine Sp_n ?_);(first|refine wT ?_|refine wF ?_|refine wL (fun h h'=>?_) (fun h h'=>?_)|refine wE (fun h h'=>?_) (fun h h'=>?_)|refine Sp_split (fun h=>?_) (fun h=>?_))<;>(try (exfalso;omega)))|refine TreeW_intro (by rfl) ?_|refine TreeW_all ?_|refine a0a ?_|refine Two_intro ?_ ?_|exact wZ|fail)<;>(try refine sxPab ?_)<;>(try exact True.intro))
  all_goals (try simp only[a0f,Bool.not_eq_true',Bool.not_eq_false',decide_eq_true_eq,decide_eq_false_iff_not]at *)
  all_goals simp_all [ofP,a7c,b0N,b0k,chn,b3N]
  all_goals omega
end
section
open Go.RowKit
set_option maxRecDepth 100000
theorem b2E(u:Nat):(u:Int).tmod 10=((u % 10:Nat):Int):=rfl
theorem b2D(u:Nat):(u:Int).tdiv 10=((u / 10:Nat):Int):=rfl
theorem a4F(c:UInt8):IntKind.i64.wrap (c.toNat:Int)=c.toNat:=w64 (by have:=c.toNat_lt;omega)
theorem b7a(n:Nat):[[AV.int .u8 (IntKind.u8.wrap (48+((n % 10:Nat):Int)))]]=bts [UInt8.ofNat (48+n % 10)]:=by
 simp only[bts,List.map_cons,List.map_nil,a0y,List.cons.injEq,AV.int.injEq,and_true,true_and]
 rw[u8n (by omega),IntKind.wrap_u8];omega
def b2M(u:Nat)(out:List UInt8):List UInt8:=if u=0 then out else dig u++out
theorem digR_step{u:Nat}(out:List UInt8)(h:0<u):b2M (u / 10) (UInt8.ofNat (48+u % 10)::out)=b2M u out:=by
 unfold b2M
 rw[if_neg (show ¬ u=0 by omega)]
 by_cases hu:u<10
 ·rw[if_pos (by omega),dig_lo hu,show u % 10=u by omega];rfl
 ·rw[if_neg (by omega),dig_hi hu];simp
theorem a9O(n:Nat):b2M (n / 10) [UInt8.ofNat (48+n % 10)]=dig n:=by
 by_cases h:n=0
 ·subst h;rw[dig_lo (by omega)];rfl
 ·rw[digR_step [] (by omega)];unfold b2M;rw[if_neg h,List.append_nil]
theorem sxPac{A B:Prop}(h:B)(e:A=B:=by (simp (disch:=omega) only[*, ↓Ed,Eu, ↓reduceIte,reduceCtorEq,Nat.reduceAdd,Nat.reduceEqDiff,Nat.reduceLT,Nat.reduceLeDiff,Int.reduceToNat,Int.reduceEq,Int.reduceLT,Int.reduceLE,w64,a0n,List.length_append,Nat.reduceMul,b2E,b2D,List.length_map,a4F];first|done|rfl)):A:=e▸h
theorem b1C(n:Nat)(hn:n≤72057594037927935):CP Tryz.prog 41 [.int .i64 n] (.str (dig n)):=by
 have hm:=a3f
 have hl:=a5H 16 n (by omega)
 refine a4N _ _ (by simp) ?_
 simp only[a2L, ↓Ed,Eu, ↓reduceIte,reduceCtorEq,Nat.reduceAdd,Nat.reduceEqDiff,Nat.reduceLT,Nat.reduceLeDiff,Int.reduceToNat,Int.reduceEq,Int.reduceLT,Int.reduceLE,w64,a0n,List.length_append,Nat.reduceMul,b2E,b2D,List.length_map,a4F]
 repeat' ((first|refine NewB_intro0 (fun b=>?_)|(refine NewB_intro (fun b hb=>?_);simp only[ln_cons2,ln_nil,and_true]at hb)|(with_reducible apply wA;focus exact OM_a)|((first|refine gW_sp ?_|refine condW_sp ?_|refine pickW_sp ?_);(try refine Sp_n ?_);(first|refine wT ?_|refine wF ?_|refine wL (fun h h'=>?_) (fun h h'=>?_)|refine wE (fun h h'=>?_) (fun h h'=>?_)|refine Sp_split (fun h=>?_) (fun h=>?_))<;>(try (exfalso;omega)))|refine TreeW_intro (by rfl) ?_|refine TreeW_all ?_|refine a0a ?_|refine Two_intro ?_ ?_|exact wZ|fail)<;>(try refine sxPac ?_)<;>(try exact True.intro))
 simp (disch:=omega) only[b7a, ↓Ed,Eu, ↓reduceIte,reduceCtorEq,Nat.reduceAdd,Nat.reduceEqDiff,Nat.reduceLT,Nat.reduceLeDiff,Int.reduceToNat,Int.reduceEq,Int.reduceLT,Int.reduceLE,w64,a0n,List.length_append,Nat.reduceMul,b2E,b2D,List.length_map,a4F]
 refine wpx_loop (fun x:List UInt8 × Nat=>⟨lk [(0,.int .i64 (x.2:Int)),(3,.sl (some 5) 1 (bts x.1))],lk []⟩) (fun x=>a0f (b2M x.2 x.1=dig n)∧x.1.length≤17∧x.2≤72057594037927935) (fun x=>x.2) ([UInt8.ofNat (48+n % 10)],n / 10) ⟨a9O n,by simp,by simp only;omega⟩ (Le_lit (by simp[LeL,lk])) ?_
 rintro ⟨out,u⟩ ⟨h1,h2,h3⟩
 simp only at h1 h2 h3
 simp only[↓Ed,Eu, ↓reduceIte,reduceCtorEq,Nat.reduceAdd,Nat.reduceEqDiff,Nat.reduceLT,Nat.reduceLeDiff,Int.reduceToNat,Int.reduceEq,Int.reduceLT,Int.reduceLE,w64,a0n,List.length_append,Nat.reduceMul,b2E,b2D,List.length_map,a4F]
 repeat' ((first|refine NewB_intro0 (fun b=>?_)|(refine NewB_intro (fun b hb=>?_);simp only[ln_cons2,ln_nil,and_true]at hb)|(with_reducible apply wA;focus exact OM_a)|((first|refine gW_sp ?_|refine condW_sp ?_|refine pickW_sp ?_);(try refine Sp_n ?_);(first|refine wT ?_|refine wF ?_|refine wL (fun h h'=>?_) (fun h h'=>?_)|refine wE (fun h h'=>?_) (fun h h'=>?_)|refine Sp_split (fun h=>?_) (fun h=>?_))<;>(try (exfalso;omega)))|refine TreeW_intro (by rfl) ?_|refine TreeW_all ?_|refine a0a ?_|refine Two_intro ?_ ?_|exact wZ|fail)<;>(try refine sxPac ?_)<;>(try exact True.intro))
 all_goals (try simp only[a0f,Bool.not_eq_true',Bool.not_eq_false',decide_eq_true_eq,decide_eq_false_iff_not]at *)
 ·have hl2:out.length+1≤17:=by
   rw[← h1]at hl
   unfold b2M at hl
   rw[if_neg (by omega)]at hl
   have:=List.length_pos_iff.2 (a9j u)
   simp only[List.length_append]at hl;omega
  rw[b7a, ← List.map_append]
  refine Round_lit (UInt8.ofNat (48+u % 10)::out,u / 10) ⟨Le_lit (by simp[LeL,lk]),⟨(digR_step out (by omega)).trans h1,by simp only[List.length_cons];omega,by simp only;omega⟩,by simp only;omega⟩
 ·obtain rfl:u=0:=by omega
  exact h1
theorem all_dig{s:List UInt8}{k:Nat}(hk:s.length≤k)(h:∀ j,j<k→a2E (s.getD j 0)):∀ c∈s,a2E c:=by
 intro c hc
 obtain ⟨i,hi,rfl⟩:=List.getElem_of_mem hc
 have:=h i (by omega)
 rwa [List.getD,List.getElem?_eq_getElem hi]at this
theorem num_bad{s:List UInt8}{k:Nat}(hk:k<s.length)(h:¬ a2E (s.getD k 0)):¬ a9v s:=fun g=>by
 refine h ?_
 rw[List.getD,List.getElem?_eq_getElem hk]
 exact g.1 _ (List.getElem_mem hk)
theorem a4z(s:List UInt8)(hs:s.length≤16000000):CP Tryz.prog 89 [.str s] (.tup [.int .i64 (a3g s).1,.int .i64 (a3g s).2]):=by
  by_cases h0:s=[]
  · subst h0
    refine a2w _ _ (by simp) ?_
    simp only[a1D, ↓Ed,Eu, ↓reduceIte,reduceCtorEq,Nat.reduceAdd,Nat.reduceEqDiff,Nat.reduceLT,Nat.reduceLeDiff,Int.reduceToNat,Int.reduceEq,Int.reduceLT,Int.reduceLE,w64,a0n,List.length_append,Nat.reduceMul,b2E,b2D,List.length_map,a4F]
    repeat' ((first|refine NewB_intro0 (fun b=>?_)|(refine NewB_intro (fun b hb=>?_);simp only[ln_cons2,ln_nil,and_true]at hb)|(with_reducible apply wA;focus exact OM_a)|((first|refine gW_sp ?_|refine condW_sp ?_|refine pickW_sp ?_);(try refine Sp_n ?_);(first|refine wT ?_|refine wF ?_|refine wL (fun h h'=>?_) (fun h h'=>?_)|refine wE (fun h h'=>?_) (fun h h'=>?_)|refine Sp_split (fun h=>?_) (fun h=>?_))<;>(try (exfalso;omega)))|refine TreeW_intro (by rfl) ?_|refine TreeW_all ?_|refine a0a ?_|refine Two_intro ?_ ?_|exact wZ|fail)<;>(try refine sxPac ?_)<;>(try exact True.intro))
    all_goals simp[a3g]
  have hl:¬ s.length=0:=fun e=>h0 (List.length_eq_zero_iff.1 e)
  refine a2w _ _ (by simp) ?_
  simp only[a1D, ↓Ed,Eu, ↓reduceIte,reduceCtorEq,Nat.reduceAdd,Nat.reduceEqDiff,Nat.reduceLT,Nat.reduceLeDiff,Int.reduceToNat,Int.reduceEq,Int.reduceLT,Int.reduceLE,w64,a0n,List.length_append,Nat.reduceMul,b2E,b2D,List.length_map,a4F]
  repeat' ((first|refine NewB_intro0 (fun b=>?_)|(refine NewB_intro (fun b hb=>?_);simp only[ln_cons2,ln_nil,and_true]at hb)|(with_reducible apply wA;focus exact OM_a)|((first|refine gW_sp ?_|refine condW_sp ?_|refine pickW_sp ?_);(try refine Sp_n ?_);(first|refine wT ?_|refine wF ?_|refine wL (fun h h'=>?_) (fun h h'=>?_)|refine wE (fun h h'=>?_) (fun h h'=>?_)|refine Sp_split (fun h=>?_) (fun h=>?_))<;>(try (exfalso;omega)))|refine TreeW_intro (by rfl) ?_|refine TreeW_all ?_|refine a0a ?_|refine Two_intro ?_ ?_|exact wZ|fail)<;>(try refine sxPac ?_)<;>(try exact True.intro))
  case' neg.refine_1.right=>
    simp only[a0f,Bool.not_eq_true',Bool.not_eq_false',decide_eq_true_eq,decide_eq_false_iff_not]at *
    contradiction
  refine wpx_loop (fun k:Nat=>⟨lk [(0,.str s),(4,.int .i64 k)],lk []⟩) (fun k=>k≤s.length∧a0f (∀ j,j<k→a2E (s.getD j 0))) (fun k=>s.length - k) 0 ⟨by omega,fun j h=>by omega⟩ (Le_lit (by simp[LeL,lk])) ?_
  intro k ⟨h1,h2⟩
  simp only[↓Ed,Eu, ↓reduceIte,reduceCtorEq,Nat.reduceAdd,Nat.reduceEqDiff,Nat.reduceLT,Nat.reduceLeDiff,Int.reduceToNat,Int.reduceEq,Int.reduceLT,Int.reduceLE,w64,a0n,List.length_append,Nat.reduceMul,b2E,b2D,List.length_map,a4F]
  repeat' ((first|refine NewB_intro0 (fun b=>?_)|(refine NewB_intro (fun b hb=>?_);simp only[ln_cons2,ln_nil,and_true]at hb)|(with_reducible apply wA;focus exact OM_a)|((first|refine gW_sp ?_|refine condW_sp ?_|refine pickW_sp ?_);(try refine Sp_n ?_);(first|refine wT ?_|refine wF ?_|refine wL (fun h h'=>?_) (fun h h'=>?_)|refine wE (fun h h'=>?_) (fun h h'=>?_)|refine Sp_split (fun h=>?_) (fun h=>?_))<;>(try (exfalso;omega)))|refine TreeW_intro (by rfl) ?_|refine TreeW_all ?_|refine a0a ?_|refine Two_intro ?_ ?_|exact wZ|fail)<;>(try refine sxPac ?_)<;>(try exact True.intro))
  all_goals (try simp only[a0f,Bool.not_eq_true',Bool.not_eq_false',decide_eq_true_eq,decide_eq_false_iff_not,u48]at *)
  case' neg.refine_2.refine_2.right.refine_1.refine_2.refine_2|neg.refine_2.refine_2.right.refine_2.refine_2=>
    have hq:a9v s:=⟨all_dig (by omega) h2,fun g=>by first|omega|exact absurd g.2 (by assumption)⟩
    clear h2 h1
    refine wpx_loop (fun k:Nat=>⟨lk [(0,.str s),(5,.int .i64 (a6Z (s.take k))),(6,.int .i64 k)],lk []⟩) (fun k=>k≤s.length) (fun k=>s.length - k) 0 (by omega) (Le_lit (by simp[LeL,lk,a6Z])) ?_
    intro j h1
    have hv:=valD_le hq.1 j h1
    have h17:10 ^ j≤10 ^ 17:=Nat.pow_le_pow_right (by omega) (by omega)
    have hlt:a6Z (s.take j)<100000000000000000:=by omega
    clear hv h17
    simp only[↓Ed,Eu, ↓reduceIte,reduceCtorEq,Nat.reduceAdd,Nat.reduceEqDiff,Nat.reduceLT,Nat.reduceLeDiff,Int.reduceToNat,Int.reduceEq,Int.reduceLT,Int.reduceLE,w64,a0n,List.length_append,Nat.reduceMul,b2E,b2D,List.length_map,a4F]
    repeat' ((first|refine NewB_intro0 (fun b=>?_)|(refine NewB_intro (fun b hb=>?_);simp only[ln_cons2,ln_nil,and_true]at hb)|(with_reducible apply wA;focus exact OM_a)|((first|refine gW_sp ?_|refine condW_sp ?_|refine pickW_sp ?_);(try refine Sp_n ?_);(first|refine wT ?_|refine wF ?_|refine wL (fun h h'=>?_) (fun h h'=>?_)|refine wE (fun h h'=>?_) (fun h h'=>?_)|refine Sp_split (fun h=>?_) (fun h=>?_))<;>(try (exfalso;omega)))|refine TreeW_intro (by rfl) ?_|refine TreeW_all ?_|refine a0a ?_|refine Two_intro ?_ ?_|exact wZ|fail)<;>(try refine sxPac ?_)<;>(try exact True.intro))
  all_goals (try simp only[a0f,Bool.not_eq_true',Bool.not_eq_false',decide_eq_true_eq,decide_eq_false_iff_not,u48]at *)
  all_goals first
    | (refine Round_lit (k+1) ⟨Le_lit (by simp[LeL,lk]),⟨by omega,fun j hj=>?_⟩,by omega⟩
       by_cases e:j=k
       · subst e;unfold a2E;omega
       · exact h2 j (by omega))
    | (rw[numP_form h0 (num_bad (k:=k) (by omega) (by unfold a2E;omega))];exact ⟨rfl,rfl⟩)
    | (rw[numP_form h0 (fun g=>g.2 ⟨by omega,by assumption⟩)];exact ⟨rfl,rfl⟩)
    | (have h3:17<s.length:=by omega
       have hq:a9v s:=⟨all_dig (k:=k) (by omega) h2,fun g=>absurd g.2 (by assumption)⟩
       rw[numP_long hq h3];exact ⟨rfl,rfl⟩)
    | (obtain rfl:j=s.length:=by omega
       rw[List.take_length]at *
       first
         | (rw[numP_big h0 hq (by omega) (by omega)];exact ⟨rfl,rfl⟩)
         | (rw[numP_ok h0 hq (by omega) (by omega)];exact ⟨rfl,rfl⟩))
    | (have hd:=dig_at hq.1 (k:=j) (by omega)
       simp only[wsub hd]
       refine Round_lit (j+1) ⟨Le_lit ?_,by omega,by omega⟩
       rw[valD_take (by omega)]
       generalize (s.getD j 0).toNat=y at *
       simp[LeL,lk]
       rw[IntKind.wrap_i64,IntKind.wrap_i64];omega)
    | skip
end
section
open Go.RowKit
set_option maxRecDepth 100000
theorem byn(c:UInt8):((c.toNat:Int)=47)=(c=47):=propext ⟨fun h=>UInt8.toNat_inj.1 (by have:(47:UInt8).toNat=47:=rfl;omega),fun h=>by rw[h];rfl⟩
theorem b2p(c:Int)(h:0≤c∧c≤72057594037927935):CP Tryz.prog 41 [.int .i64 c] (.str (Lib.itoa c)):=by
 rw[itoa_dig h.1]
 have e:c=(c.toNat:Int):=by omega
 have:=b1C c.toNat (by omega)
 rwa [← e]at this
theorem sxPad{A B:Prop}(h:B)(e:A=B:=by (simp (disch:=omega) only[*, ↓Ed,Eu, ↓reduceIte,reduceCtorEq,Nat.reduceAdd,Nat.reduceEqDiff,Nat.reduceLT,Nat.reduceLeDiff,Int.reduceToNat,Int.reduceEq,Int.reduceLT,Int.reduceLE,w64,a0n,List.length_append,Nat.reduceMul,List.length_map,a4F,byn];first|done|rfl)):A:=e▸h
theorem a7H(k:Int)(p:List UInt8)(c q:Int)(hp:p.length≤1000000):CP Tryz.prog 14 [.int .i64 k,.agg [.str p,.int .i64 c],.int .i64 q] (.str (ofP k p c q)):=by
 have hm:=a3f
 have hw:=a6l k
 have ht13:_→(Lib.itoa q).length≤13:=dig_len13
 cases hM:a1E p c with
 | false=>
  refine a4t _ _ (by simp) ?_
  simp only[a3a, ↓Ed,Eu, ↓reduceIte,reduceCtorEq,Nat.reduceAdd,Nat.reduceEqDiff,Nat.reduceLT,Nat.reduceLeDiff,Int.reduceToNat,Int.reduceEq,Int.reduceLT,Int.reduceLE,w64,a0n,List.length_append,Nat.reduceMul,List.length_map,a4F,byn]
  repeat' ((first|refine CallO_pure (a7I k) ?_|refine CallW_intro (a7I k) ?_|refine CallO_pure (a1u p c (by omega)) ?_|refine NewB_intro0 (fun b=>?_)|(refine NewB_intro (fun b hb=>?_);simp only[ln_cons2,ln_nil,and_true]at hb)|(with_reducible apply wA;focus exact OM_a)|((first|refine gW_sp ?_|refine condW_sp ?_|refine pickW_sp ?_);(try refine Sp_n ?_);(first|refine wT ?_|refine wF ?_|refine wL (fun h h'=>?_) (fun h h'=>?_)|refine wE (fun h h'=>?_) (fun h h'=>?_)|refine Sp_split (fun h=>?_) (fun h=>?_))<;>(try (exfalso;omega)))|refine TreeW_intro (by rfl) ?_|refine TreeW_all ?_|refine a0a ?_|refine Two_intro ?_ ?_|exact wZ|fail)<;>(try refine sxPad ?_)<;>(try exact True.intro))
  all_goals simp[ofP,hM]
 | true=>
  obtain ⟨hp2,hc1,hc2,_⟩:=mayP_t hM
  have h3:=dig_len3 ⟨hc1,hc2⟩
  have hk:a1l k≠[]→1≤k:=fun h=>by by_cases g:1≤k;exact g;exact absurd (wordP_out (by omega)) h
  refine a4t _ _ (by simp) ?_
  simp only[a3a, ↓Ed,Eu, ↓reduceIte,reduceCtorEq,Nat.reduceAdd,Nat.reduceEqDiff,Nat.reduceLT,Nat.reduceLeDiff,Int.reduceToNat,Int.reduceEq,Int.reduceLT,Int.reduceLE,w64,a0n,List.length_append,Nat.reduceMul,List.length_map,a4F,byn]
  repeat' ((first|refine CallO_pure (a7I k) ?_|refine CallW_intro (a7I k) ?_|refine CallO_pure (a1u p c (by omega)) ?_|refine CallW_intro (b2p c (by omega)) ?_|refine CallO_pure (b2p q (by simp only[a0f,Bool.not_eq_true',Bool.not_eq_false',decide_eq_true_eq,decide_eq_false_iff_not]at *;omega)) ?_|refine NewB_intro0 (fun b=>?_)|(refine NewB_intro (fun b hb=>?_);simp only[ln_cons2,ln_nil,and_true]at hb)|(with_reducible apply wA;focus exact OM_a)|((first|refine gW_sp ?_|refine condW_sp ?_|refine pickW_sp ?_);(try refine Sp_n ?_);(first|refine wT ?_|refine wF ?_|refine wL (fun h h'=>?_) (fun h h'=>?_)|refine wE (fun h h'=>?_) (fun h h'=>?_)|refine Sp_split (fun h=>?_) (fun h=>?_))<;>(try (exfalso;omega)))|refine TreeW_intro (by rfl) ?_|refine TreeW_all ?_|refine a0a ?_|refine Two_intro ?_ ?_|exact wZ|fail)<;>(try refine sxPad ?_)<;>(try exact True.intro))
  all_goals (try simp only[a0f,Bool.not_eq_true',Bool.not_eq_false',decide_eq_true_eq,decide_eq_false_iff_not]at *)
  all_goals simp_all [ofP,a7c,b0N,b0k,chn,b3N]
  all_goals omega
end
section
open Go.RowKit
set_option maxRecDepth 100000
end
section
open Go
set_option maxRecDepth 100000
theorem a3T:∀ {a b x y:List UInt8},47 ∉ a→47 ∉ b→a++47::x=b++47::y→a=b∧x=y
 | [],[],_,_,_,_,h=>⟨rfl,by simpa using h⟩
 | [],d::b,_,_,_,hb,h=>by simp at h;exact absurd h.1 (fun e=>hb (by simp[e]))
 | c::a,[],_,_,ha,_,h=>by simp at h;exact absurd h.1 (fun e=>ha (by simp[e]))
 | c::a,d::b,x,y,ha,hb,h=>by
  simp only[List.cons_append,List.cons.injEq]at h
  obtain ⟨rfl,h⟩:=h
  obtain ⟨e1,e2⟩:=a3T (fun g=>ha (by simp[g])) (fun g=>hb (by simp[g])) h
  exact ⟨by rw[e1],e2⟩
theorem name_no{p:List UInt8}(h:a4K p):47 ∉ p:=by
 intro hm
 obtain ⟨i,hi,e⟩:=List.getElem_of_mem hm
 have:=h.2.2 i hi
 unfold a8F at this
 have e2:p.getD i 0=47:=by rw[List.getD,List.getElem?_eq_getElem hi];exact e
 rw[e2]at this
 have h47:(47:UInt8).toNat=47:=rfl
 omega
theorem b4i(n:Nat):47 ∉ dig n:=fun h=>by
 have:=b0r n 47 h
 unfold a2E at this
 have h47:(47:UInt8).toNat=47:=rfl
 omega
theorem itoa_no{n:Int}(h:0≤n):47 ∉ Lib.itoa n:=by rw[itoa_dig h];exact b4i _
theorem itoa_inj{n m:Int}(h:0≤n)(g:0≤m)(e:Lib.itoa n=Lib.itoa m):n=m:=by
 rw[itoa_dig h,itoa_dig g]at e
 have:=dig_inj e
 omega
theorem chan_no{n:Int}(h:0≤n):47 ∉ chn++Lib.itoa n:=by
 intro hm
 rcases List.mem_append.1 hm with hm|hm
 ·revert hm;decide
 ·exact itoa_no h hm
inductive OfQ:List UInt8→Int→List UInt8→Int→Int→Prop
 | num {k p c q} (hk:1≤k∧k≤3) (hp:a4K p) (hc:0≤c∧c≤999) (hq:1≤q∧q≤1099511627776):
   OfQ (a1l k++47::(b0N++47::(p++47::(b0k++47::((chn++Lib.itoa c)++47::(b3N++47::Lib.itoa q)))))) k p c q
 | base {k p c} (hk:4≤k∧k≤7) (hp:a4K p) (hc:0≤c∧c≤999):OfQ (a1l k++47::(b0N++47::(p++47::(b0k++47::(chn++Lib.itoa c))))) k p c 0
theorem ofP_q{k:Int}{p:List UInt8}{c q:Int}:ofP k p c q=[]∨OfQ (ofP k p c q) k p c q:=by
 unfold ofP
 split
 ·exact .inl rfl
 rename_i h
 simp only[not_or,Decidable.not_not]at h
 obtain ⟨hw,hm⟩:=h
 have hm:=mayP_t hm
 have hk:1≤k∧k≤7:=by
  by_cases g:1≤k∧k≤7
  ·exact g
  ·exact absurd (wordP_out (by omega)) hw
 split
 ·split
  ·right
   have:=OfQ.num (k:=k) (p:=p) (c:=c) (q:=q) (by omega) hm.2.2.2 ⟨hm.2.1,hm.2.2.1⟩ (by assumption)
   simpa[a7c]using this
  ·exact .inl rfl
 ·split
  ·subst_vars
   right
   have:=OfQ.base (k:=k) (p:=p) (c:=c) (by omega) hm.2.2.2 ⟨hm.2.1,hm.2.2.1⟩
   simpa[a7c]using this
  ·exact .inl rfl
theorem OfQ.inj{s k p c q k' p' c' q'}(h:OfQ s k p c q)(g:OfQ s k' p' c' q'):k=k'∧p=p'∧c=c'∧q=q':=by
 have main:∀ {x y:List UInt8} {k k':Int} {p p':List UInt8},(1≤k∧k≤7)→(1≤k'∧k'≤7)→a4K p→a4K p'→
   a1l k++47::(b0N++47::(p++47::(b0k++47::x)))=a1l k'++47::(b0N++47::(p'++47::(b0k++47::y)))→k=k'∧p=p'∧x=y:=by
  intro x y k k' p p' h1 h2 h3 h4 e
  obtain ⟨e1,e⟩:=a3T (a5v k) (a5v k') e
  obtain ⟨_,e⟩:=a3T (by decide) (by decide) e
  obtain ⟨e2,e⟩:=a3T (name_no h3) (name_no h4) e
  obtain ⟨_,e⟩:=a3T (by decide) (by decide) e
  exact ⟨wordP_inj h1 h2 e1,e2,e⟩
 generalize hs:s=t at h g
 cases h with
 | num hk hp hc hq=>
  generalize hs:a1l k++47::(b0N++47::(p++47::(b0k++47::((chn++Lib.itoa c)++47::(b3N++47::Lib.itoa q)))))=t at g
  cases g with
  | num hk' hp' hc' hq'=>
   obtain ⟨e1,e2,e⟩:=main (by omega) (by omega) hp hp' hs
   obtain ⟨e3,e⟩:=a3T (chan_no hc.1) (chan_no hc'.1) e
   obtain ⟨_,e⟩:=a3T (by decide) (by decide) e
   exact ⟨e1,e2,itoa_inj hc.1 hc'.1 (List.append_cancel_left e3),itoa_inj (by omega) (by omega) e⟩
  | base hk' hp' hc'=>
   obtain ⟨e1,e2,e⟩:=main (by omega) (by omega) hp hp' hs
   omega
 | base hk hp hc=>
  generalize hs:a1l k++47::(b0N++47::(p++47::(b0k++47::(chn++Lib.itoa c))))=t at g
  cases g with
  | num hk' hp' hc' hq'=>
   obtain ⟨e1,e2,e⟩:=main (by omega) (by omega) hp hp' hs
   omega
  | base hk' hp' hc'=>
   obtain ⟨e1,e2,e⟩:=main (by omega) (by omega) hp hp' hs
   exact ⟨e1,e2,itoa_inj hc.1 hc'.1 (List.append_cancel_left e),rfl⟩
def sp:List UInt8→List (List UInt8)
 | []=>[[]]
 | c::t=>if c=47 then []::sp t else match sp t with | []=>[[c]]|x::xs=>(c::x)::xs
theorem a6j:∀ {a:List UInt8},47 ∉ a→sp a=[a]
 | [],_=>rfl
 | c::t,h=>by
  simp only[List.mem_cons,not_or]at h
  rw[sp,if_neg (fun e=>h.1 e.symm),a6j h.2]
theorem a2x:∀ {a x:List UInt8},47 ∉ a→sp (a++47::x)=a::sp x
 | [],x,_=>by simp[sp]
 | c::t,x,h=>by
  simp only[List.mem_cons,not_or]at h
  rw[List.cons_append,sp,if_neg (fun e=>h.1 e.symm),a2x h.2]
theorem OfQ.sp{s k p c q}(h:OfQ s k p c q):sp s=if k≤3 then [a1l k,b0N,p,b0k,chn++Lib.itoa c,b3N,Lib.itoa q] else [a1l k,b0N,p,b0k,chn++Lib.itoa c]:=by
 cases h with
 | num hk hp hc hq=>
  rw[if_pos hk.2,a2x (a5v k),a2x (by decide),a2x (name_no hp),a2x (by decide),a2x (chan_no hc.1),a2x (by decide),a6j (itoa_no (by omega))]
 | base hk hp hc=>
  rw[if_neg (by omega),a2x (a5v k),a2x (by decide),a2x (name_no hp),a2x (by decide),a6j (chan_no hc.1)]
end
section
open Go.RowKit
set_option maxRecDepth 100000
theorem occ1{s:List UInt8}{i:Nat}:Lib.occAt s [47] i=true↔i<s.length∧s.getD i 0=47:=by
 unfold Lib.occAt
 by_cases h:i<s.length
 ·rw[List.drop_eq_getElem_cons h,List.getD,List.getElem?_eq_getElem h]
  simp only[List.isPrefixOf_cons₂,List.isPrefixOf_nil_left,Bool.and_true,beq_iff_eq,Option.getD_some]
  exact ⟨fun e=>⟨h,e.symm⟩,fun e=>e.2.symm⟩
 ·rw[List.drop_eq_nil_of_le (by omega)]
  simp[List.isPrefixOf,h]
theorem pre_iff{s:List UInt8}:Lib.hasPrefix s chn=true↔s.take 8=chn:=by
 unfold Lib.hasPrefix
 rw[List.isPrefixOf_iff_prefix,List.prefix_iff_eq_take]
 exact eq_comm
end
section
open Go
set_option maxRecDepth 100000
theorem b0V:∀ (n:Nat) (s:List UInt8),s.length≤n→∀ k,s.count 47≤k→Lib.splitK [47] 0 k s=sp s:=by
 intro n
 induction n with
 | zero=>
  intro s hs k hk
  obtain rfl:=List.eq_nil_of_length_eq_zero (by omega:s.length=0)
  cases k<;>rfl
 | succ n ih=>
  intro s hs k hk
  rcases Lib.index_spec s [47]with ⟨h1,h2⟩ | ⟨i,h1,h2,h3,h4⟩
  ·have hn:47 ∉ s:=by
    intro hm
    obtain ⟨j,hj,e⟩:=List.getElem_of_mem hm
    have:=h2 j (by omega)
    rw[occ1.2 ⟨hj,by rw[List.getD,List.getElem?_eq_getElem hj];exact e⟩]at this
    cases this
   rw[a6j hn]
   cases k with
   | zero=>rfl
   | succ k=>rw[Lib.splitK,h1];rfl
  ·obtain ⟨hi,h47⟩:=occ1.1 h3
   have hn:47 ∉ s.take i:=by
    intro hm
    obtain ⟨j,hj,e⟩:=List.getElem_of_mem hm
    rw[List.length_take]at hj
    have hj':j<s.length:=by omega
    have hf:=h4 j (by omega)
    rw[occ1.2 ⟨hj',by rw[List.getD,List.getElem?_eq_getElem hj'];simpa using e⟩]at hf
    cases hf
   have he:s=s.take i++47::s.drop (i+1):=by
    have:=List.take_append_drop i s
    rw[List.drop_eq_getElem_cons hi]at this
    rw[List.getD,List.getElem?_eq_getElem hi]at h47
    simp only[Option.getD_some]at h47
    rw[h47]at this
    exact this.symm
   have hc:s.count 47=1+(s.drop (i+1)).count 47:=by
    conv=>lhs;rw[he]
    rw[List.count_append,List.count_eq_zero.2 hn,List.count_cons_self];omega
   cases k with
   | zero=>omega
   | succ k=>
    rw[Lib.splitK,h1,if_neg (by simp)]
    have:=ih (s.drop (i+1)) (by rw[List.length_drop];omega) k (by omega)
    conv=>rhs;rw[he,a2x hn]
    simp[this]
theorem a4A(s:List UInt8):pieces s=sp s:=by
 unfold pieces
 exact b0V s.length s (by omega) _ (by rw[← Lib.count_one];exact Nat.le_refl _)
open Classical in
noncomputable def a0R (s:List UInt8):Int × List UInt8 × Int × Int × Int:=
 if h:∃ x:Int × List UInt8 × Int × Int,OfQ s x.1 x.2.1 x.2.2.1 x.2.2.2 then (h.choose.1,h.choose.2.1,h.choose.2.2.1,h.choose.2.2.2,0) else (0,[],0,0,3)
theorem readP_of{s k p c q}(h:OfQ s k p c q):a0R s=(k,p,c,q,0):=by
 have hx:∃ x:Int × List UInt8 × Int × Int,OfQ s x.1 x.2.1 x.2.2.1 x.2.2.2:=⟨(k,p,c,q),h⟩
 unfold a0R
 rw[dif_pos hx]
 obtain ⟨e1,e2,e3,e4⟩:=hx.choose_spec.inj h
 rw[e1,e2,e3,e4]
theorem readP_no{s}(h:∀ k p c q, ¬ OfQ s k p c q):a0R s=(0,[],0,0,3):=by
 unfold a0R
 rw[dif_neg (fun ⟨x,hx⟩=>h _ _ _ _ hx)]
theorem OfQ.eq{s k p c q}(h:OfQ s k p c q):ofP k p c q=s:=by
 have hm:∀ {p:List UInt8} {c:Int},a4K p→(0≤c∧c≤999)→a1E p c=true:=fun hp hc=>by simp[a1E,nameP_iff.2 hp,hc.1,hc.2]
 cases h with
 | num hk hp hc hq=>
  unfold ofP
  rw[if_neg (by simp[hm hp hc,wordP_in (show 1≤k∧k≤7 by omega)]),if_pos hk,if_pos hq]
  simp[a7c]
 | base hk hp hc=>
  unfold ofP
  rw[if_neg (by simp[hm hp hc,wordP_in (show 1≤k∧k≤7 by omega)]),if_neg (by omega),if_pos rfl]
  simp[a7c]
theorem b2J(x:List UInt8):Lib.hasPrefix (chn++x) chn=true∧Lib.trimPrefix (chn++x) chn=x:=by
 have h:Lib.hasPrefix (chn++x) chn=true:=by rw[pre_iff];simp[chn]
 refine ⟨h, ?_⟩
 unfold Lib.trimPrefix
 rw[if_pos h]
 simp[chn]
theorem end_of{p:List UInt8}{c:Int}(hp:a4K p)(hc:0≤c∧c≤999):a9l (chn++Lib.itoa c)=c∧b3I p (chn++Lib.itoa c)=true:=by
 have h1:=b2J (Lib.itoa c)
 have e:a3g (Lib.itoa c)=(c,0):=by
  rw[itoa_dig hc.1,num_dig (by omega)]
  simp;omega
 have hn:a9l (chn++Lib.itoa c)=c:=by unfold a9l;rw[h1.2,e]
 refine ⟨hn, ?_⟩
 unfold b3I b2N
 rw[hn,h1.1,h1.2,e]
 simp[a1E,nameP_iff.2 hp,hc.1,hc.2]
theorem num_itoa{q:Int}(h:0≤q∧q≤72057594037927935):a3g (Lib.itoa q)=(q,0):=by
 rw[itoa_dig h.1,num_dig (by omega)]
 simp;omega
end
end Go.Proofs.YthdcogkdacnheaaGreatDoor
