import Derived.Test.YtgdhinnepnlihaaGreatDoorK11
import Derived.Laws.BitsAllLaws
import Derived.Test.YtgdhinnepnlihaaGreatDoorK13
namespace Go.Proofs.YtgdhinnepnlihaaGreatDoor
set_option linter.all false
set_option maxHeartbeats 9000000
section
def a9D(n:Nat):List UInt8:=if n<128 then [UInt8.ofNat n] else UInt8.ofNat (n % 128+128)::a9D (n / 128)
termination_by n
decreasing_by omega
def pn(v:Int):List UInt8:=if 0≤v∧v≤72057594037927935 then a9D v.toNat else []
theorem put7_lo{n:Nat}(h:n<128):a9D n=[UInt8.ofNat n]:=by rw[a9D,if_pos h]
theorem put7_hi{n:Nat}(h:128≤n):a9D n=UInt8.ofNat (n % 128+128)::a9D (n / 128):=by rw[a9D,if_neg (by omega)]
theorem b0J:∀ (k n:Nat),n<128 ^ (k+1)→(a9D n).length≤k+1
 | 0,n,h=>by rw[put7_lo (by omega)];simp
 | k+1,n,h=>by
  by_cases hn:n<128
  ·rw[put7_lo hn];simp
  ·rw[put7_hi (by omega)]
   have:=b0J k (n / 128) (by rw[Nat.pow_succ]at h;omega)
   simp only[List.length_cons];omega
theorem a0H(v:Int):(pn v).length≤8:=by
 unfold pn
 split
 ·exact b0J 7 _ (by simp;omega)
 ·simp
def a2C:Nat→List UInt8→Bool→Int × Nat × Int
 | 0,_,_=>(0,0,4)
 | _+1,[],_=>(0,0,2)
 | f+1,c::r,fst=>
  if c.toNat<128 then (if c.toNat=0∧fst=false then (0,0,3) else ((c.toNat:Int),1,0))
  else match a2C f r false with
   | (v,n,e)=>if e=0 then (((c.toNat % 128:Nat):Int)+128 * v,n+1,0) else (0,0,e)
def nx(s:List UInt8)(at':Int):Int × Int × Int:=
 if 0≤at'∧at'≤s.length then
  match a2C 8 (s.drop at'.toNat) true with
  | (v,n,e)=>if e=0 then (v,at'+n,0) else (0,0,e)
 else (0,0,1)
def b1w(u k:Nat):Int × Nat × Int→Int × Nat × Int
 | (v,n,e)=>if e=0 then ((u:Int)+128 ^ k * v,n+k,0) else (0,0,e)
theorem b1G(u k f:Nat)(c:UInt8)(r:List UInt8)(b:Bool)(h:128≤c.toNat):
  b1w u k (a2C (f+1) (c::r) b)=b1w (u+c.toNat % 128 * 128 ^ k) (k+1) (a2C f r false):=by
 rw[a2C,if_neg (by omega)]
 obtain ⟨v,n,e⟩:=a2C f r false
 by_cases he:e=0
 ·simp only[b1w,he,if_true,Prod.mk.injEq,and_true]
  refine ⟨?_,by omega⟩
  rw[Int.mul_add,Int.pow_succ,Int.mul_assoc, ← Int.add_assoc,Int.natCast_add,Int.natCast_mul,Int.natCast_pow,Int.mul_comm (128 ^ k:Int)]
  rfl
 ·simp[b1w,he]
theorem b0u:∀ (f:Nat) (r:List UInt8) (b:Bool),0≤(a2C f r b).1∧(a2C f r b).1<128 ^ f∧(a2C f r b).2.1≤r.length
 | 0,_,_=>by simp[a2C]
 | f+1,[],_=>by simp[a2C];exact Int.pow_pos (by omega)
 | f+1,c::r,b=>by
  have hp:(0:Int)<128 ^ f:=Int.pow_pos (by omega)
  have hp':(128:Int) ^ (f+1)=128 ^ f * 128:=Int.pow_succ _ _
  rw[a2C]
  split
  ·split
   ·refine ⟨by simp,by simp;omega,by simp⟩
   ·refine ⟨by simp, ?_,by simp⟩
    simp only
    omega
  ·have ih:=b0u f r false
   generalize a2C f r false=g at ih ⊢
   obtain ⟨v,n,e⟩:=g
   simp only at ih ⊢
   split
   ·refine ⟨by omega,by omega,by simp;omega⟩
   ·refine ⟨by simp,by simp;omega,by simp⟩
theorem b3e:∀ (f:Nat) (r:List UInt8) (b:Bool),(a2C f r b).2.2≠0→(a2C f r b).1=0∧(a2C f r b).2.1=0
 | 0,_,_,_=>by simp[a2C]
 | f+1,[],_,_=>by simp[a2C]
 | f+1,c::r,b,h=>by
  rw[a2C]at h ⊢
  split at h
  ·rename_i hc
   rw[if_pos hc]
   split at h
   ·rename_i hd;rw[if_pos hd];simp
   ·simp at h
  ·rename_i hc
   rw[if_neg hc]
   generalize a2C f r false=g at h ⊢
   obtain ⟨v,n,e⟩:=g
   simp only at h ⊢
   split at h
   ·simp at h
   ·rename_i he;rw[if_neg he];simp
theorem b1H(g:Int × Nat × Int)(h:g.2.2≠0→g.1=0∧g.2.1=0):b1w 0 0 g=g:=by
 obtain ⟨v,n,e⟩:=g
 by_cases he:e=0
 ·simp[b1w,he]
 ·have:=h he
  simp only at this
  simp[b1w,he,this]
def b6b(i:Nat):Int × Nat × Int→Int × Int × Int
 | (v,n,e)=>if e=0 then (v,(i:Int)+n,0) else (0,0,e)
theorem nx_in{s:List UInt8}{i:Nat}(h:i≤s.length):nx s i=b6b i (a2C 8 (s.drop i) true):=by
 simp only[nx,if_pos (show (0≤(i:Int)∧(i:Int)≤s.length) by omega),Int.toNat_natCast]
 rfl
theorem nx_out{s:List UInt8}{i:Int}(h:¬ (0≤i∧i≤s.length)):nx s i=(0,0,1):=by simp only[nx,if_neg h]
theorem tn2(i k:Nat):((i:Int)+(k:Int)).toNat=i+k:=by omega
theorem drop_get{s:List UInt8}{i:Nat}(h:i<s.length):s.drop i=s.getD i 0::s.drop (i+1):=by
 rw[List.drop_eq_getElem_cons h];simp[h]
theorem inv7{s:List UInt8}{i k u:Nat}(h1:k<8)(h2:a2C 8 (s.drop i) true=b1w u k (a2C (8 - k) (s.drop (i+k)) (decide (k=0)))):
  (s.length≤i+k→a2C 8 (s.drop i) true=(0,0,2))∧
  (i+k<s.length→128≤(s.getD (i+k) 0).toNat→a2C 8 (s.drop i) true=b1w (u+(s.getD (i+k) 0).toNat % 128 * 128 ^ k) (k+1) (a2C (8 - (k+1)) (s.drop (i+(k+1))) (decide (k+1=0))))∧
  (i+k<s.length→(s.getD (i+k) 0).toNat=0→0<k→a2C 8 (s.drop i) true=(0,0,3))∧
  (i+k<s.length→(s.getD (i+k) 0).toNat<128→¬ ((s.getD (i+k) 0).toNat=0∧0<k)→a2C 8 (s.drop i) true=(((u+(s.getD (i+k) 0).toNat % 128 * 128 ^ k:Nat):Int),k+1,0)):=by
 have e:8 - k=(8 - (k+1))+1:=by omega
 rw[h2]
 refine ⟨fun h=>?_,fun h g=>?_,fun h g g'=>?_,fun h g g'=>?_⟩
 ·rw[List.drop_eq_nil_of_le h,e,a2C];rfl
 ·rw[e,drop_get h,b1G _ _ _ _ _ _ g]
  rfl
 ·rw[e,drop_get h,a2C,if_pos (by omega),if_pos ⟨g,by simp;omega⟩];rfl
 ·rw[e,drop_get h,a2C,if_pos (by omega),if_neg (by rintro ⟨a,b⟩;simp at b;exact g' ⟨a,by omega⟩)]
  simp only[b1w,if_true]
  rw[Nat.mod_eq_of_lt g,Int.natCast_add,Int.natCast_mul,Int.natCast_pow,Int.mul_comm,Nat.add_comm 1 k]
  rfl
theorem b8V(n:Nat):IntKind.u8.wrap ((BitVec.ofInt IntKind.u8.bits (IntKind.u8.wrap (n:Int)) ||| BitVec.ofInt IntKind.u8.bits 128).toNat:Int)=((n % 128+128:Nat):Int):=by
 have h:∀ x:BitVec 8,(x ||| 128#8).toNat=x.toNat % 128+128:=by decide
 have e:(BitVec.ofInt 8 ((n:Int) % 256)).toNat=n % 256:=by
  rw[BitVec.toNat_ofInt];omega
 have:=h (BitVec.ofInt 8 ((n:Int) % 256))
 rw[IntKind.wrap_u8,IntKind.wrap_u8]
 show ((BitVec.ofInt 8 ((n:Int) % 256) ||| 128#8).toNat:Int) % 256=_
 rw[this,e]
 omega
theorem b4H(c:UInt8):IntKind.u8.wrap ((BitVec.ofInt IntKind.u8.bits (c.toNat:Int) &&& ~~~BitVec.ofInt IntKind.u8.bits 128).toNat:Int)=((c.toNat % 128:Nat):Int):=by
 have h:∀ x:BitVec 8,(x &&& ~~~128#8).toNat=x.toNat % 128:=by decide
 have hc:c.toNat<256:=c.toNat_lt
 have e:(BitVec.ofInt 8 (c.toNat:Int)).toNat=c.toNat:=by
  rw[BitVec.toNat_ofInt];omega
 have:=h (BitVec.ofInt 8 (c.toNat:Int))
 rw[IntKind.wrap_u8]
 show ((BitVec.ofInt 8 (c.toNat:Int) &&& ~~~128#8).toNat:Int) % 256=_
 rw[this,e]
 omega
theorem c0K(n:Nat):(n:Int).fdiv (2 ^ (min 7 IntKind.u64.bits))=((n / 128:Nat):Int):=by
 have:(2:Int) ^ (min 7 IntKind.u64.bits)=128:=by decide
 rw[this,Int.fdiv_eq_ediv_of_nonneg _ (by omega)]
 omega
theorem b6J(u c m:Nat)(hu:u<2 ^ m)(hs:u+c * 2 ^ m<2 ^ 64):IntKind.u64.wrap ((BitVec.ofInt IntKind.u64.bits (u:Int) ||| BitVec.ofInt IntKind.u64.bits ((c * 2 ^ m:Nat):Int)).toNat:Int)=((u+c * 2 ^ m:Nat):Int):=by
 have h1:(BitVec.ofInt 64 (u:Int)).toNat=u:=by rw[BitVec.toNat_ofInt];omega
 have h2:(BitVec.ofInt 64 ((c * 2 ^ m:Nat):Int)).toNat=c * 2 ^ m:=by rw[BitVec.toNat_ofInt];omega
 rw[IntKind.wrap_u64]
 show ((BitVec.ofInt 64 (u:Int) ||| BitVec.ofInt 64 ((c * 2 ^ m:Nat):Int)).toNat:Int) % 18446744073709551616=_
 rw[BitVec.toNat_or,h1,h2]
 have:u ||| c * 2 ^ m=u+c * 2 ^ m:=by
  have:=Nat.shiftLeft_add_eq_or_of_lt hu c
  rw[Nat.shiftLeft_eq]at this
  rw[Nat.or_comm, ← this,Nat.add_comm]
 rw[this]
 omega
theorem b9a(k:Nat):2 ^ (7 * k)=128 ^ k:=by rw[Nat.pow_mul]
theorem c0j(u k:Nat)(c:UInt8)(hu:u<128 ^ k)(hk:k≤7):
  IntKind.u64.wrap ((BitVec.ofInt IntKind.u64.bits (u:Int) ||| BitVec.ofInt IntKind.u64.bits (IntKind.u64.wrap (IntKind.u64.wrap (IntKind.u8.wrap ((BitVec.ofInt IntKind.u8.bits (c.toNat:Int) &&& ~~~BitVec.ofInt IntKind.u8.bits 128).toNat:Int)) * 2 ^ min (7 * (k:Int)).toNat IntKind.u64.bits))).toNat:Int)=((u+c.toNat % 128 * 128 ^ k:Nat):Int):=by
 rw[b4H]
 have hd:c.toNat % 128<128:=by omega
 generalize c.toNat % 128=d at hd
 have e:min (7 * (k:Int)).toNat IntKind.u64.bits=7 * k:=by
  have:IntKind.u64.bits=64:=rfl
  omega
 have h2:u+d * 2 ^ (7 * k)<2 ^ 64:=by
  have h3:2 ^ (7 * k)≤2 ^ 49:=Nat.pow_le_pow_right (by omega) (by omega)
  have:=Nat.mul_le_mul (show d≤127 by omega) h3
  rw[← b9a]at hu
  omega
 have h3:((d:Int) * 2 ^ (7 * k))=((d * 2 ^ (7 * k):Nat):Int):=by rw[Int.natCast_mul,Int.natCast_pow];rfl
 have h4:IntKind.u64.wrap (d:Int)=d:=by rw[IntKind.wrap_u64];omega
 have h5:IntKind.u64.wrap ((d * 2 ^ (7 * k):Nat):Int)=((d * 2 ^ (7 * k):Nat):Int):=by rw[IntKind.wrap_u64];omega
 rw[e,h4,h3,h5, ← b9a]
 exact b6J u d (7 * k) (by rw[b9a];exact hu) h2
end
section
set_option maxRecDepth 100000
theorem b5c:1000000≤maxLen:=by unfold maxLen;decide
abbrev bts(l:List UInt8):List (List AV):=l.map a0m
theorem sxLeb{A B:Prop}(h:B)(e:A=B:=by (simp (disch:=omega) only[*, ↓Ed,Eu, ↓reduceIte,reduceCtorEq,Nat.reduceAdd,Nat.reduceEqDiff,Nat.reduceLT,Nat.reduceLeDiff,Int.reduceToNat,Int.reduceEq,Int.reduceLT,Int.reduceLE,w64,b8V,c0K,List.length_map,List.length_append];first|done|rfl)):A:=e▸h
theorem b8C(u:Nat):[[AV.int .u8 ((u % 128+128:Nat):Int)]]=bts [UInt8.ofNat (u % 128+128)]:=by
 have:(UInt8.ofNat (u % 128+128)).toNat=u % 128+128:=by rw[UInt8.toNat_ofNat'];omega
 show [[AV.int .u8 _]]=[[AV.int .u8 (((UInt8.ofNat (u % 128+128)).toNat:Nat):Int)]]
 rw[this]
theorem b8D(u:Nat)(h:u<128):[[AV.int .u8 (IntKind.u8.wrap (u:Int))]]=bts [UInt8.ofNat u]:=by
 have:(UInt8.ofNat u).toNat=u:=by rw[UInt8.toNat_ofNat'];omega
 simp only[List.map_cons,List.map_nil,a0m,this,IntKind.wrap_u8,List.cons.injEq,AV.int.injEq,and_true,true_and]
 omega
theorem b4s(s:List UInt8)(at':Int)(hs:s.length≤4611686018427387904):
  CP Tryz.prog 99 [.str s,.int .i64 at'] (.tup [.int .i64 (nx s at').1,.int .i64 (nx s at').2.1,.int .i64 (nx s at').2.2]):=by
 refine a9Q _ _ (by simp) ?_
 simp only[a7q];refine sxLeb ?_
 repeat' ((first|exact tt|refine na fun b=>?_|refine nb fun b hb=>?_|refine iq ?_|(refine jq ?_ ?_<;>intro h h')|refine Two_intro ?_ ?_|exact wZ|fail)<;>try refine sxLeb ?_)
 ·simp[nx_out (show ¬ (0≤at'∧at'≤s.length) by omega)]
 ·simp[nx_out (show ¬ (0≤at'∧at'≤s.length) by omega)]
 obtain ⟨i,rfl⟩:∃ i:Nat,at'=i:=⟨at'.toNat,by omega⟩
 have hi:i≤s.length:=by omega
 rw[nx_in hi]
 refine wpx_loop (fun x:Nat × Nat=>⟨lk [(0,.str s),(1,.int .i64 i),(7,.int .u64 (x.1:Int)),(18,.int .i64 x.2)],lk []⟩)
  (fun x=>x.2≤8∧x.1<128 ^ x.2∧a0a (a2C 8 (s.drop i) true=b1w x.1 x.2 (a2C (8 - x.2) (s.drop (i+x.2)) (decide (x.2=0))))) (fun x=>8 - x.2) (0,0)
  ⟨by omega,by simp,(b1H _ (b3e _ _ _)).symm⟩ (Le_lit (by simp[LeL,lk,IntKind.wrap_u64])) ?_
 rintro ⟨u,k⟩ ⟨h1,h2,h3⟩
 simp only at h1 h2 h3
 refine sxLeb ?_
 repeat' ((first|exact tt|refine na fun b=>?_|refine nb fun b hb=>?_|refine iq ?_|(refine jq ?_ ?_<;>intro h h')|refine Two_intro ?_ ?_|exact wZ|fail)<;>try refine sxLeb ?_)
 ·rw[(inv7 (by omega) h3).1 (by omega)];simp[b6b]
 ·(try rw[tn2]at h);rw[tn2]at h'
  have hc:=(s.getD (i+k) 0).toNat_lt
  refine Round_lit (u+(s.getD (i+k) 0).toNat % 128 * 128 ^ k,k+1) ⟨Le_lit ?_,⟨by simp only;omega, ?_,(inv7 (by omega) h3).2.1 (by omega) (by omega)⟩,by simp only;omega⟩
  ·simp only[LeL,lk_cons,tn2,c0j u k _ h2 (by omega)]
   simp
  ·simp only[Nat.pow_succ]
   have:(s.getD (i+k) 0).toNat % 128 * 128 ^ k≤127 * 128 ^ k:=Nat.mul_le_mul_right _ (by omega)
   omega
 ·simp only[a0a,Hn,tn2]at *
  rw[(inv7 (by omega) h3).2.2.1 (by omega) (by omega) (by omega)];simp[b6b]
 case' refine_2.refine_2.refine_2=>
  rw[h3,show 8 - k=0 by omega];simp[b1w,a2C,b6b]
 all_goals
  rw[c0j u k _ h2 (by omega)]
  simp only[a0a,Hn,tn2]at *
  rw[(inv7 (by omega) h3).2.2.2 (by omega) (by omega) (by omega)]
  have hp:128 ^ k≤128 ^ 7:=Nat.pow_le_pow_right (by omega) (by omega)
  have hq:(s.getD (i+k) 0).toNat % 128 * 128 ^ k≤127 * 128 ^ k:=Nat.mul_le_mul_right _ (by omega)
  generalize (s.getD (i+k) 0).toNat % 128 * 128 ^ k=z at *
  rw[w64 (by omega)]
  simp[b6b]
  try omega
end
section
set_option maxRecDepth 100000
theorem c0L(c:UInt8):IntKind.i64.wrap (c.toNat:Int)=c.toNat:=w64 (by have:=c.toNat_lt;omega)
theorem b9L(u:Nat):(u:Int).tmod 128=((u % 128:Nat):Int):=rfl
theorem b9J(u:Nat):(u:Int).tdiv 128=((u / 128:Nat):Int):=rfl
theorem b6w(u:Nat):[[AV.int .u8 (IntKind.u8.wrap (((u % 128:Nat):Int)+128))]]=bts [UInt8.ofNat (u % 128+128)]:=by
 rw[← b8C,IntKind.wrap_u8]
 simp only[List.cons.injEq,AV.int.injEq,and_true,true_and]
 omega
theorem sxRle{A B:Prop}(h:B)(e:A=B:=by (simp (disch:=omega) only[*, ↓Ed,Eu, ↓reduceIte,reduceCtorEq,Nat.reduceAdd,Nat.reduceEqDiff,Nat.reduceLT,Nat.reduceLeDiff,Int.reduceToNat,Int.reduceEq,Int.reduceLT,Int.reduceLE,w64,b9L,b9J,c0L,List.length_map,List.length_append];first|done|rfl)):A:=e▸h
theorem a1I(v:Int):CP Tryz.prog 87 [.int .i64 v] (.str (pn v)):=by
 have hm:=b5c
 refine a5i _ _ (by simp) ?_
 simp only[a3k];refine sxRle ?_
 repeat' ((first|exact tt|refine na fun b=>?_|refine nb fun b hb=>?_|refine iq ?_|(refine jq ?_ ?_<;>intro h h')|refine Two_intro ?_ ?_|exact wZ|fail)<;>try refine sxRle ?_)
 ·simp[pn];omega
 ·simp[pn];omega
 obtain ⟨n,rfl⟩:∃ n:Nat,v=n:=⟨v.toNat,by omega⟩
 have hp:pn n=a9D n:=by simp only[pn,if_pos (show (0≤(n:Int)∧(n:Int)≤72057594037927935) by omega),Int.toNat_natCast]
 have h8:=a0H n
 rw[hp]at h8 ⊢
 refine wpx_loop (fun x:List UInt8 × Nat=>⟨lk [(0,.int .i64 (x.2:Int)),(3,.sl (some 5) 1 (bts x.1))],lk []⟩) (fun x=>a0a (x.1++a9D x.2=a9D n)∧x.1.length≤8∧x.2≤72057594037927935) (fun x=>x.2) ([],n) (by simp[a0a];omega) (Le_lit (by simp[LeL,lk])) ?_
 rintro ⟨out,u⟩ ⟨h1,h2,h3⟩
 simp only at h1 h2 h3
 refine sxRle ?_
 repeat' ((first|exact tt|refine na fun b=>?_|refine nb fun b hb=>?_|refine iq ?_|(refine jq ?_ ?_<;>intro h h')|refine Two_intro ?_ ?_|exact wZ|fail)<;>try refine sxRle ?_)
 ·rw[b6w, ← List.map_append]
  rw[put7_hi (by omega),List.append_cons]at h1
  refine Round_lit (out++[UInt8.ofNat (u % 128+128)],u / 128) ⟨Le_lit (by simp[LeL,lk]),⟨h1, ?_,by simp only;omega⟩,by simp only;omega⟩
  rw[← show _=a9D n from h1]at h8
  simp only[List.length_append]at h8 ⊢
  omega
 ·rw[put7_lo (by omega)]at h1
  rw[b8D u (by omega), ← List.map_append,show _=a9D n from h1,BytesW_map]
  refine sxRle ?_;try exact tt
end
end Go.Proofs.YtgdhinnepnlihaaGreatDoor
