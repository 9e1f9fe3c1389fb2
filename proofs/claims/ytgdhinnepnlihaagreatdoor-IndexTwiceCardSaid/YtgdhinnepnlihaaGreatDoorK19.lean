import Derived.Test.YtgdhinnepnlihaaGreatDoorK18
import Derived.Test.YtgdhinnepnlihaaGreatDoorK16
import Derived.Test.YtgdhinnepnlihaaGreatDoorK11
import Derived.Test.YtgdhinnepnlihaaGreatDoorK12
import Derived.Test.YtgdhinnepnlihaaGreatDoorK10
import Derived.Test.YtgdhinnepnlihaaGreatDoorK17
import Derived.Shelf.RegionOpenPlain
import Derived.WalkKit
import Derived.Deep.LoopGhost
import Derived.Lib.Walk
import Derived.Lib.SliceRun
namespace Go.Proofs.YtgdhinnepnlihaaGreatDoor
set_option linter.all false
set_option maxHeartbeats 9000000
section
open Go.RowKit
def a6W(l:List UInt8):Nat:=l.foldl (fun n b=>n * 256+b.toNat) 0
theorem b2c(l:List UInt8)(b:UInt8):a6W (l++[b])=a6W l * 256+b.toNat:=by simp[a6W]
theorem b0A:∀ (l:List UInt8) (n:Nat),l.foldl (fun n b=>n * 256+b.toNat) n<(n+1) * 256 ^ l.length
 | [],n=>by simp
 | b::l,n=>by
  have h1:=b0A l (n * 256+b.toNat)
  have h2:=b.toNat_lt
  rw[List.foldl_cons,List.length_cons,Nat.pow_succ,Nat.mul_comm (256 ^ _), ← Nat.mul_assoc]
  exact Nat.lt_of_lt_of_le h1 (Nat.mul_le_mul_right _ (by omega))
theorem b5f(l:List UInt8):a6W l<256 ^ l.length:=by
 have:=b0A l 0
 simpa[a6W]using this
theorem numB_take{l:List UInt8}{k:Nat}(h:k<l.length):a6W (l.take (k+1))=a6W (l.take k) * 256+(l.getD k 0).toNat:=by
 rw[List.take_succ,List.getElem?_eq_getElem h]
 show a6W (l.take k++[l[k]])=_
 rw[b2c]
 simp[List.getD,h]
theorem numB_le{l:List UInt8}{k:Nat}(h:k≤4):a6W (l.take k)<4294967296:=by
 have h1:=b5f (l.take k)
 have h2:(l.take k).length≤4:=by simp;omega
 have h3:256 ^ (l.take k).length≤256 ^ 4:=Nat.pow_le_pow_right (by omega) h2
 omega
theorem b5h(n:Nat)(b:UInt8)(h:n<4294967296):IntKind.wrap .i64 ((BitVec.ofInt (IntKind.bits .i64) (IntKind.wrap .i64 ((n:Int) * 2 ^ (min 8 (IntKind.bits .i64)))) ||| BitVec.ofInt (IntKind.bits .i64) (IntKind.wrap .i64 (b.toNat:Int))).toNat:Int)=((n * 256+b.toNat:Nat):Int):=by
 have hb:=b.toNat_lt
 have w:∀ m:Nat,m<9223372036854775808→IntKind.wrap .i64 (m:Int)=(m:Int):=fun m hm=>by
  have h1:(m:Int) % 18446744073709551616=m:=by omega
  show (if (true&&decide ((m:Int) % 18446744073709551616≥9223372036854775808))=true then (m:Int) % 18446744073709551616 - 18446744073709551616 else (m:Int) % 18446744073709551616)=m
  rw[h1,if_neg (by simp;omega)]
 have e1:IntKind.wrap .i64 ((n:Int) * 2 ^ (min 8 (IntKind.bits .i64)))=((n * 256:Nat):Int):=by
  rw[← w (n * 256) (by omega)]
  rfl
 rw[e1,w b.toNat (by omega)]
 have e2:(BitVec.ofInt (IntKind.bits .i64) ((n * 256:Nat):Int) ||| BitVec.ofInt (IntKind.bits .i64) (b.toNat:Int)).toNat=n * 256+b.toNat:=by
  show (BitVec.ofInt 64 ((n * 256:Nat):Int) ||| BitVec.ofInt 64 (b.toNat:Int)).toNat=_
  rw[BitVec.toNat_or,BitVec.ofInt_natCast,BitVec.ofInt_natCast,BitVec.toNat_ofNat,BitVec.toNat_ofNat,Nat.mod_eq_of_lt (by omega),Nat.mod_eq_of_lt (by omega),show n * 256=n <<< 8 by rw[Nat.shiftLeft_eq],Nat.shiftLeft_add_eq_or_of_lt (by omega)]
 rw[e2]
 exact w _ (by omega)
def b0e(s:List UInt8):List UInt8:=(b3N s).take 4
def a3C(s:List UInt8):List UInt8 × Int × Int:=
 if s.length<8 then ([],0,2) else if 2147483647<a6W (s.take 4) then ([],0,4) else if s.length - 8<a6W (s.take 4) then ([],0,2)
 else if b0e ((s.take (8+a6W (s.take 4))).drop 8)=(s.take 8).drop 4 then ((s.take (8+a6W (s.take 4))).drop 8,((8+a6W (s.take 4):Nat):Int),0) else ([],0,5)
def a0G(s:List UInt8):List UInt8 × Int:=
 if (a3C s).2.2≠0 then ([],(a3C s).2.2) else if (a3C s).2.1<s.length then ([],3) else ((a3C s).1,0)
def a0V(b:List UInt8):List UInt8:=[UInt8.ofNat (b.length / 16777216),UInt8.ofNat (b.length / 65536),UInt8.ofNat (b.length / 256),UInt8.ofNat b.length]++(b0e b++b)
end
section
open Go.RowKit
set_option maxRecDepth 100000
theorem t8n(n:Nat):(8+(n:Int)).toNat=8+n:=by omega
theorem c0s(n b:Nat):(n:Int) * 256+(b:Int)=((n * 256+b:Nat):Int):=by omega
theorem sxFrm{A B:Prop}(h:B)(e:A=B:=by (simp (disch:=omega) only[*, ↓Ed,Eu, ↓reduceIte,reduceCtorEq,Nat.reduceAdd,Nat.reduceEqDiff,Nat.reduceLT,Nat.reduceLeDiff,Int.reduceToNat,Int.reduceEq,Int.reduceLT,Int.reduceLE,w64,List.length_append,List.length_map,List.length_cons,List.length_nil,Int.toNat_natCast,nn,Nat.mul_one,Nat.zero_add,Int.reduceAdd,b5h,t8n,Int.zero_add,c0s,Int.sub_zero];first|done|rfl)):A:=e▸h
theorem b6S(s:List UInt8)(h:s.length≤100000000000000):CP Tryz.prog 182 [.str s] (.str (b0e s)):=by
 have hS:=b6Y (.sl none 1 [[.str s]]) [s] rfl (by simp) (by simp;omega)
 rw[show [s].flatten=s by simp]at hS
 have hT:=b5B (b3N s) (a4W s)
 have hl:=a4W s
 refine a9f _ _ (by simp) ?_
 simp only[a5Z];refine sxFrm ?_
 repeat' ((first|exact tt|refine CallO_pure (hS) ?_|refine CallO_pure (hT) ?_|refine na fun b=>?_|refine nb fun b hb=>?_|refine iq ?_|(refine jq ?_ ?_<;>intro h h')|refine Two_intro ?_ ?_|exact wZ|fail)<;>try refine sxFrm ?_)
 all_goals rfl
theorem b6R(s:List UInt8)(h:s.length≤100000000000000):CP Tryz.prog 115 [.str s] (.str (b0e s)):=by
 have hS:=b6W s h
 have hT:=b5y (b3N s) (a4W s)
 have hl:=a4W s
 refine a6L _ _ (by simp) ?_
 simp only[a4f];refine sxFrm ?_
 repeat' ((first|exact tt|refine CallO_pure (hS) ?_|refine CallO_pure (hT) ?_|refine na fun b=>?_|refine nb fun b hb=>?_|refine iq ?_|(refine jq ?_ ?_<;>intro h h')|refine Two_intro ?_ ?_|exact wZ|fail)<;>try refine sxFrm ?_)
 all_goals rfl
theorem b6Q(s:List UInt8)(h:s.length=4):CP Tryz.prog 181 [.str s] (.int .i64 (a6W s:Int)):=by
 refine a6H _ _ (by simp) ?_
 simp only[a4b];refine sxFrm ?_
 repeat' ((first|exact tt|refine na fun b=>?_|refine nb fun b hb=>?_|refine iq ?_|(refine jq ?_ ?_<;>intro h h')|refine Two_intro ?_ ?_|exact wZ|fail)<;>try refine sxFrm ?_)
 refine wpx_loop (fun k:Nat=>⟨lk [(0,.str s),(3,.int .i64 (a6W (s.take k):Int)),(6,.int .i64 (s.length:Int)),(7,.int .i64 (k:Int))],lk []⟩) (fun k=>k≤4) (fun k=>4 - k) 0 (by omega) (Le_lit (by simp[LeL,lk,a6W,h])) ?_
 intro k hk
 have hb:=numB_le (l:=s) hk
 by_cases hlt:k<4
 ·have f1:a0a (decide ((k:Int)<(s.length:Int))=true):=fo
  have hn:=numB_take (l:=s) (k:=k) (by omega)
  generalize hq:a6W (s.take (k+1))=n' at *
  generalize a6W (s.take k)=n at *
  refine sxFrm ?_
  repeat' ((first|exact tt|refine na fun b=>?_|refine nb fun b hb=>?_|refine iq ?_|(refine jq ?_ ?_<;>intro h h')|refine Two_intro ?_ ?_|exact wZ|fail)<;>try refine sxFrm ?_)
  all_goals exact Round_lit (k+1) ⟨Le_lit (by simp[LeL,lk,hq,hn,h]),by omega,by omega⟩
 have f1:a0a (decide ((k:Int)<(s.length:Int))=false):=fo
 obtain rfl:k=4:=by omega
 rw[show s.take 4=s from List.take_of_length_le (by omega)]
 refine sxFrm ?_
 repeat' ((first|exact tt|refine na fun b=>?_|refine nb fun b hb=>?_|refine iq ?_|(refine jq ?_ ?_<;>intro h h')|refine Two_intro ?_ ?_|exact wZ|fail)<;>try refine sxFrm ?_)
theorem b5s(s:List UInt8)(h:s.length≤100000000000000):CP Tryz.prog 117 [.str s,.int .i64 0] (.tup [.str (a3C s).1,.int .i64 (a3C s).2.1,.int .i64 (a3C s).2.2]):=by
 refine a8l _ _ (by simp) ?_
 have h0:List.take s.length s=s:=List.take_length
 unfold a3C
 by_cases h8:s.length<8
 ·rw[if_pos h8]
  have f1:a0a (decide ((s.length:Int)<8)=true):=fo
  simp only[a1F];refine sxFrm ?_
  repeat' ((first|exact tt|refine na fun b=>?_|refine nb fun b hb=>?_|refine iq ?_|(refine jq ?_ ?_<;>intro h h')|refine Two_intro ?_ ?_|exact wZ|fail)<;>try refine sxFrm ?_)
 rw[if_neg h8]
 have f1:a0a (decide ((s.length:Int)<8)=false):=fo
 have hL:=b6Q (s.take 4) (by simp;omega)
 generalize a6W (s.take 4)=n at *
 by_cases hn:2147483647<n
 ·rw[if_pos hn]
  have f2:a0a (decide (2147483647<(n:Int))=true):=fo
  clear hn
  simp only[a1F];refine sxFrm ?_
  repeat' ((first|exact tt|refine CallO_pure (hL) ?_|refine na fun b=>?_|refine nb fun b hb=>?_|refine iq ?_|(refine jq ?_ ?_<;>intro h h')|refine Two_intro ?_ ?_|exact wZ|fail)<;>try refine sxFrm ?_)
 rw[if_neg hn]
 have f2:a0a (decide (2147483647<(n:Int))=false):=fo
 by_cases hm:s.length - 8<n
 ·rw[if_pos hm]
  have f3:a0a (decide ((s.length:Int) - 8<(n:Int))=true):=fo
  clear hn
  simp only[a1F];refine sxFrm ?_
  repeat' ((first|exact tt|refine CallO_pure (hL) ?_|refine na fun b=>?_|refine nb fun b hb=>?_|refine iq ?_|(refine jq ?_ ?_<;>intro h h')|refine Two_intro ?_ ?_|exact wZ|fail)<;>try refine sxFrm ?_)
 rw[if_neg hm]
 have f3:a0a (decide ((s.length:Int) - 8<(n:Int))=false):=fo
 have hb:((s.take (8+n)).drop 8).length≤100000000000000:=by simp;omega
 have hS:=b6S ((s.take (8+n)).drop 8) hb
 have hC:=b2e ((s.take (8+n)).drop 8) (by omega)
 by_cases hq:b0e ((s.take (8+n)).drop 8)=(s.take 8).drop 4
 ·rw[if_pos hq]
  have f4:a0a (decide (b0e ((s.take (8+n)).drop 8)=(s.take 8).drop 4)=true):=by simp only[a0a,Hn];exact hq
  clear hq hb
  generalize b0e ((s.take (8+n)).drop 8)=q at *
  simp only[a1F];refine sxFrm ?_
  repeat' ((first|exact tt|refine CallO_pure (hL) ?_|refine CallW_intro (hS) ?_|refine CallO_pure (hC) ?_|refine na fun b=>?_|refine nb fun b hb=>?_|refine iq ?_|(refine jq ?_ ?_<;>intro h h')|refine Two_intro ?_ ?_|exact wZ|fail)<;>try refine sxFrm ?_)
  all_goals omega
 ·rw[if_neg hq]
  have f4:a0a (decide (b0e ((s.take (8+n)).drop 8)=(s.take 8).drop 4)=false):=by simp only[a0a,Hn];exact hq
  clear hq hb
  generalize b0e ((s.take (8+n)).drop 8)=q at *
  simp only[a1F];refine sxFrm ?_
  repeat' ((first|exact tt|refine CallO_pure (hL) ?_|refine CallW_intro (hS) ?_|refine CallO_pure (hC) ?_|refine na fun b=>?_|refine nb fun b hb=>?_|refine iq ?_|(refine jq ?_ ?_<;>intro h h')|refine Two_intro ?_ ?_|exact wZ|fail)<;>try refine sxFrm ?_)
theorem b5t(s:List UInt8)(h:s.length≤100000000000000):CP Tryz.prog 60 [.str s] (.tup [.str (a0G s).1,.int .i64 (a0G s).2]):=by
 have hN:=b5s s h
 unfold a0G
 generalize a3C s=x at *
 refine a8m _ _ (by simp) ?_
 by_cases h1:x.2.2=0
 ·rw[if_neg (by simp[h1])]
  rw[h1]at hN
  by_cases h2:x.2.1<s.length
  ·rw[if_pos h2]
   have f2:a0a (decide (x.2.1<(s.length:Int))=true):=by simp only[a0a,Hn];exact h2
   clear h1 h2
   simp only[a2E];refine sxFrm ?_
   repeat' ((first|exact tt|refine CallO_pure (hN) ?_|refine na fun b=>?_|refine nb fun b hb=>?_|refine iq ?_|(refine jq ?_ ?_<;>intro h h')|refine Two_intro ?_ ?_|exact wZ|fail)<;>try refine sxFrm ?_)
  ·rw[if_neg h2]
   have f2:a0a (decide (x.2.1<(s.length:Int))=false):=fo
   clear h1 h2
   simp only[a2E];refine sxFrm ?_
   repeat' ((first|exact tt|refine CallO_pure (hN) ?_|refine na fun b=>?_|refine nb fun b hb=>?_|refine iq ?_|(refine jq ?_ ?_<;>intro h h')|refine Two_intro ?_ ?_|exact wZ|fail)<;>try refine sxFrm ?_)
 ·rw[if_pos h1]
  have f1:a0a (decide (x.2.2=0)=false):=by simp only[a0a,Hn];exact h1
  clear h1
  simp only[a2E];refine sxFrm ?_
  repeat' ((first|exact tt|refine CallO_pure (hN) ?_|refine na fun b=>?_|refine nb fun b hb=>?_|refine iq ?_|(refine jq ?_ ?_<;>intro h h')|refine Two_intro ?_ ?_|exact wZ|fail)<;>try refine sxFrm ?_)
end
section
open Go.RowKit
theorem findK_map{α:Type}[DecidableEq α](ks:List Kd)(ag:Bool)(κ:α→AV)(h:∀ a b,a3N ks ag (κ a) (κ b)=some (decide (a=b)))(a:α)(l:List α):∀ i,a8V ks ag (κ a) (l.map κ) i=some ((l.idxOf? a).map (· + i)):=by
 induction l with
 | nil=>intro i;rfl
 | cons x r ih=>
  intro i
  simp only[List.map_cons,a8V,h,List.idxOf?_cons]
  by_cases hx:a=x
  ·subst hx;simp
  ·have hx2:(x==a)=false:=by simp[Ne.symm hx]
   simp only[hx,decide_false,ih,hx2]
   cases r.idxOf? a<;>simp<;>omega
theorem findM_map{α:Type}[DecidableEq α](ks:List Kd)(ag:Bool)(κ:α→AV)(h:∀ a b,a3N ks ag (κ a) (κ b)=some (decide (a=b)))(a:α)(l:List α):a2M ks ag (κ a) (l.map κ)=some (l.idxOf? a):=by
 simp only[a2M,h,Option.bind_some,findK_map ks ag κ h]
 cases l.idxOf? a<;>simp
theorem findM_no{α:Type}[DecidableEq α](ks:List Kd)(ag:Bool)(κ:α→AV)(h:∀ a b,a3N ks ag (κ a) (κ b)=some (decide (a=b)))(a:α)(l:List α)(hn:a ∉ l):a2M ks ag (κ a) (l.map κ)=some none:=by
 rw[findM_map ks ag κ h,List.idxOf?_eq_none_iff.2 hn]
theorem findM_snoc{α:Type}[DecidableEq α](ks:List Kd)(ag:Bool)(κ:α→AV)(h:∀ a b,a3N ks ag (κ a) (κ b)=some (decide (a=b)))(a:α)(l:List α)(hn:a ∉ l):a2M ks ag (κ a) (l.map κ++[κ a])=some (some l.length):=by
 have:=findM_map ks ag κ h a (l++[a])
 rw[List.map_append,List.map_singleton]at this
 rw[this]
 congr 1
 induction l with
 | nil=>simp[List.idxOf?_cons]
 | cons x r ih=>
  simp only[List.mem_cons,not_or]at hn
  have hx:(x==a)=false:=by simp[Ne.symm hn.1]
  have ih':=ih hn.2 (by rw[findM_map ks ag κ h a (r++[a]) |>.symm];simp)
  simp only[List.cons_append,List.idxOf?_cons,hx,ih',List.length_cons]
  simp
theorem snoc_set{α:Type}(l:List α)(z v:α)(k:Nat)(h:l.length=k):(l++[z]).set k v=l++[v]:=by
 rw[List.set_append_right _ _ (by omega)];simp[h]
theorem snoc_get{α:Type}(l:List α)(z d:α)(k:Nat)(h:l.length=k):(l++[z]).getD k d=z:=by
 simp[List.getD, ← h]
theorem b1N(bs:List Nat)(n:Nat)(hn:n ∉ bs):∀ i,a7P (n:Int) (bs++[n]) i=some (bs.length+i):=by
 induction bs with
 | nil=>intro i;simp[a7P]
 | cons b r ih=>
  intro i
  simp only[List.mem_cons,not_or]at hn
  have hb:¬ (b:Int)=n:=by omega
  simp only[List.cons_append,a7P,hb,if_false,ih hn.2,List.length_cons]
  congr 1;omega
theorem a9L(k i:Nat):a7P (k:Int) (List.range k++[k]) i=some (k+i):=by
 have:=b1N (List.range k) k (by simp) i
 simpa using this
def b0n(e:List UInt8 × Int):AV:=.agg [.str e.1,.int .i64 e.2]
theorem a9J(a b:List UInt8 × Int):a3N [.s,.i] true (b0n a) (b0n b)=some (decide (a=b)):=by
 obtain ⟨x,y⟩:=a;obtain ⟨z,w⟩:=b
 simp[b0n,a3N,eqC,eq1,Prod.ext_iff]
end
section
open Go.RowKit
set_option maxRecDepth 100000
structure HdC where
 h:Int
 t:Int
 r:List Int
 n:r.length=32
 deriving DecidableEq
instance:Inhabited HdC:=⟨⟨0,0,List.replicate 32 0,by simp⟩⟩
def HdC.rt(x:HdC):List AV:=x.r.map (.int .u8 ·)
abbrev HdC.cs(x:HdC):List AV:=.int .i64 x.h :: .int .i64 x.t::x.rt
def hds(l:List HdC):List (List AV):=l.map HdC.cs
theorem idx_get{α:Type}[DecidableEq α]:∀ {l:List α} {a:α} {i:Nat},l.idxOf? a=some i→l[i]?=some a
 | [],_,_,h=>by simp at h
 | x::l,a,i,h=>by
  rw[List.idxOf?_cons]at h
  by_cases hx:x=a
  ·subst hx;simp at h;subst h;rfl
  ·have hx2:(x==a)=false:=by simp[hx]
   rw[hx2]at h
   simp only[Bool.false_eq_true,if_false,Option.map_eq_some_iff]at h
   obtain ⟨j,hj,rfl⟩:=h
   simpa using idx_get hj
theorem idx_ex{α:Type}[DecidableEq α]{l:List α}{a:α}(h:a∈l):∃ i,l.idxOf? a=some i∧i<l.length:=by
 cases hi:l.idxOf? a with
 | none=>exact absurd h (List.idxOf?_eq_none_iff.1 hi)
 | some i=>exact ⟨i,rfl,(List.getElem?_eq_some_iff.1 (idx_get hi)).1⟩
end
section
open Go.RowKit
abbrev a8e(k:KeyC):AV:=.agg k.cs
abbrev b4i(x:EntC):AV:=.agg x.cs
theorem a9N(a b:KeyC):a3N [.s,.i,.b,.i] true (a8e a) (a8e b)=some (decide (a=b)):=by
 obtain ⟨a1,a2,a3,a4⟩:=a;obtain ⟨b1,b2,b3,b4⟩:=b
 simp only[a8e,a3N,eqC_s,eqC_i,eqC_b,eqC_nil,oand_some,Bool.and_true]
 congr 1
 rw[Bool.eq_iff_iff]
 simp
structure Tb where
 K:List (KeyC × EntC)
 C:List a4Z
def a2c(l:List (KeyC × EntC))(k:KeyC):Option EntC:=(l.find? fun x=>decide (x.1=k)).map (·.2)
def tk(l:List (KeyC × EntC)):List AV:=(l.map (·.1)).map a8e
def tv(l:List (KeyC × EntC)):List AV:=l.map fun x=>b4i x.2
abbrev mpK(l:List (KeyC × EntC)):AV:=.mp (tk l) (tv l) (List.range l.length) l.length
abbrev mpC(l:List a4Z):AV:=.mp (l.map b0n) (List.replicate l.length (.int .i64 1)) (List.range l.length) l.length
abbrev b1q(c m n:Nat)(t:Tb):List (Nat × List AV):=[(c,[.mapv m,.mapv n]),(m,[mpK t.K]),(n,[mpC t.C])]
theorem findE_none{l:List (KeyC × EntC)}{k:KeyC}(h:a2c l k=none):∀ x∈l,x.1≠k:=by
 intro x hx e
 simp only[a2c,Option.map_eq_none_iff,List.find?_eq_none]at h
 have:=h x hx
 simp[e]at this
theorem lookK_none{l:List (KeyC × EntC)}{k:KeyC}(h:a2c l k=none):a2M [.s,.i,.b,.i] true (a8e k) (tk l)=some none:=by
 refine findM_no [.s,.i,.b,.i] true a8e a9N k _ fun hm=>?_
 obtain ⟨x,hx,e⟩:=List.mem_map.1 hm
 exact findE_none h x hx e
theorem lookK_some{l:List (KeyC × EntC)}{k:KeyC}{x:EntC}(h:a2c l k=some x):∃ i,i<l.length∧a2M [.s,.i,.b,.i] true (a8e k) (tk l)=some (some i)∧(tv l).getD i .undef=b4i x∧l[i]?=some (k,x):=by
 induction l with
 | nil=>simp[a2c]at h
 | cons y l ih=>
  have e:=findM_map [.s,.i,.b,.i] true a8e a9N k ((y::l).map (·.1))
  by_cases hy:y.1=k
  ·simp[a2c,hy]at h
   subst h
   refine ⟨0,by simp, ?_,rfl,by simp[← hy]⟩
   rw[tk,e,List.map_cons,List.idxOf?_cons,hy];simp
  ·have h':a2c l k=some x:=by simpa[a2c,hy]using h
   obtain ⟨i,h1,h2,h3,h4⟩:=ih h'
   refine ⟨i+1,by simpa using h1, ?_,by simpa[tv]using h3,by simpa using h4⟩
   have e2:=findM_map [.s,.i,.b,.i] true a8e a9N k (l.map (·.1))
   rw[tk,e2]at h2
   rw[tk,e,List.map_cons,List.idxOf?_cons]
   have:(y.1==k)=false:=by simp[hy]
   rw[this]
   simp only[Option.some.injEq]at h2
   simp[h2]
theorem lookC_no{l:List a4Z}{e:a4Z}(h:e ∉ l):a2M [.s,.i] true (b0n e) (l.map b0n)=some none:=findM_no [.s,.i] true b0n a9J e l h
theorem lookC_in{l:List a4Z}{e:a4Z}(h:e∈l):∃ i,i<l.length∧a2M [.s,.i] true (b0n e) (l.map b0n)=some (some i)∧(List.replicate l.length (AV.int .i64 1)).getD i .undef=.int .i64 1:=by
 have h2:=findM_map [.s,.i] true b0n a9J e l
 obtain ⟨i,hi,hlt⟩:=idx_ex h
 exact ⟨i,hlt,by rw[h2,hi],by simp[List.getD,hlt]⟩
def b1j(k:Int):Bool:=decide (k=1∨k=4∨k=5)
def b4h(p:PktC):EntC:=⟨p,[],false,false,false,false,false⟩
def a5F(k:Int):Nat:=if k=1 then 9 else if k=2 then 10 else if k=3 then 11 else if k=4 then 12 else 13
def marked(x:EntC)(k:Int):Bool:=if k=1 then x.s else if k=2 then x.r else if k=3 then x.w else if k=4 then x.c else x.t
def a3O(x:EntC)(e:EvC):EntC:=if e.k=1 then { x with s:=true } else if e.k=2 then { x with r:=true } else if e.k=3 then { x with w:=true,a:=e.a } else if e.k=4 then { x with c:=true } else { x with t:=true }
def a4M(x:EntC)(k:Int):Bool:=(decide (k=4)&&x.t)||(decide (k=5)&&x.c)
def b1o(l:List (KeyC × EntC))(k:KeyC)(y:EntC):List (KeyC × EntC):=l.map fun x=>if x.1=k then (k,y) else x
noncomputable def a5e (e:EvC):KeyC:=⟨(a2y e).1,(a2y e).2.1,b1j e.k,(a2y e).2.2.1⟩
open Classical in
noncomputable def a1f (t:Tb) (e:EvC):Tb × Int:=
 if a1k e=false then (t,1) else if e.k=7 then (t,0) else if e.k=6 then (if ((e.e,e.ec):a4Z)∈t.C then (t,8) else (⟨t.K,t.C++[(e.e,e.ec)]⟩,0))
 else match a2c t.K (a5e e) with
  | none=>(⟨t.K++[(a5e e,a3O (b4h e.p) e)],t.C⟩,0)
  | some x=>if ¬ x.p=e.p then (t,3) else if marked x e.k then (t,8) else if a4M x e.k then (t,16) else (⟨b1o t.K (a5e e) (a3O x e),t.C⟩,0)
end
section
open Go.RowKit
noncomputable def b1a (t:Tb) (l:List EvC):Tb:=l.foldl (fun t e=>(a1f t e).1) t
theorem b1b(t:Tb)(l:List EvC)(e:EvC):b1a t (l++[e])=(a1f (b1a t l) e).1:=by simp[b1a]
structure Tgood (n:Nat) (t:Tb):Prop where
 k:(t.K.map (·.1)).Nodup
 c:t.C.Nodup
 lk:t.K.length≤n
 lc:t.C.length≤n
theorem Tgood.mono{n m:Nat}{t:Tb}(h:Tgood n t)(hm:n≤m):Tgood m t:=⟨h.k,h.c,Nat.le_trans h.lk hm,Nat.le_trans h.lc hm⟩
theorem b7G:Tgood 0 ⟨[],[]⟩:=⟨List.nodup_nil,List.nodup_nil,Nat.le_refl _,Nat.le_refl _⟩
theorem b2C(l:List (KeyC × EntC))(k:KeyC)(y:EntC):(b1o l k y).map (·.1)=l.map (·.1):=by
 simp only[b1o,List.map_map]
 congr 1;funext x;simp only[Function.comp];split<;>simp_all
theorem a9M(t:Tb)(e:EvC):(∃ n,a1f t e=(t,n)∧n≠0)∨(e.k=7∧a1f t e=(t,0))∨
  (a1k e=true∧e.k=6∧((e.e,e.ec):a4Z) ∉ t.C∧a1f t e=(⟨t.K,t.C++[(e.e,e.ec)]⟩,0))∨
  (a1k e=true∧e.k≠6∧e.k≠7∧a2c t.K (a5e e)=none∧a1f t e=(⟨t.K++[(a5e e,a3O (b4h e.p) e)],t.C⟩,0))∨
  (∃ x,a1k e=true∧e.k≠6∧e.k≠7∧a2c t.K (a5e e)=some x∧x.p=e.p∧marked x e.k=false∧a4M x e.k=false∧a1f t e=(⟨b1o t.K (a5e e) (a3O x e),t.C⟩,0)):=by
 unfold a1f
 by_cases hm:a1k e=false
 ·rw[if_pos hm];exact .inl ⟨1,rfl,by decide⟩
 rw[if_neg hm]
 have hm':a1k e=true:=by simpa using hm
 by_cases h7:e.k=7
 ·rw[if_pos h7];exact .inr (.inl ⟨h7,rfl⟩)
 rw[if_neg h7]
 by_cases h6:e.k=6
 ·rw[if_pos h6]
  split
  ·exact .inl ⟨8,rfl,by decide⟩
  ·rename_i hc
   exact .inr (.inr (.inl ⟨hm',h6,hc,rfl⟩))
 rw[if_neg h6]
 cases hf:a2c t.K (a5e e) with
 | none=>exact .inr (.inr (.inr (.inl ⟨hm',h6,h7,rfl,rfl⟩)))
 | some x=>
  simp only
  by_cases h1:¬ x.p=e.p
  ·rw[if_pos h1];exact .inl ⟨3,rfl,by decide⟩
  rw[if_neg h1]
  by_cases h2:marked x e.k=true
  ·rw[if_pos h2];exact .inl ⟨8,rfl,by decide⟩
  rw[if_neg h2]
  by_cases h3:a4M x e.k=true
  ·rw[if_pos h3];exact .inl ⟨16,rfl,by decide⟩
  rw[if_neg h3]
  exact .inr (.inr (.inr (.inr ⟨x,hm',h6,h7,rfl,by simpa using h1,by simpa using h2,by simpa using h3,rfl⟩)))
theorem nodup_snoc{α:Type}{l:List α}{x:α}(h:l.Nodup)(hn:x ∉ l):(l++[x]).Nodup:=
 List.nodup_append.2 ⟨h,by simp,fun a ha b hb=>by simp at hb;subst hb;intro e;subst e;exact hn ha⟩
theorem fold_good{n:Nat}{t:Tb}(h:Tgood n t)(e:EvC):Tgood (n+1) (a1f t e).1:=by
 have h':=h.mono (Nat.le_succ n)
 rcases a9M t e with ⟨m,g,_⟩ | ⟨_,g⟩ | ⟨_,_,hc,g⟩ | ⟨_,_,_,hf,g⟩ | ⟨x,_,_,_,_,_,_,_,g⟩<;>rw[g]
 ·exact h'
 ·exact h'
 ·exact ⟨h.k,nodup_snoc h.c hc,h'.lk,by simp;exact h.lc⟩
 ·refine ⟨?_,h.c,by simp;exact h.lk,h'.lc⟩
  simp only[List.map_append,List.map_cons,List.map_nil]
  refine nodup_snoc h.k fun hm=>?_
  obtain ⟨y,hy,e1⟩:=List.mem_map.1 hm
  exact findE_none hf y hy e1
 ·exact ⟨by simp only[b2C];exact h.k,h.c,by simp only[b1o,List.length_map];exact h'.lk,h'.lc⟩
theorem foldL_good{n:Nat}{t:Tb}(h:Tgood n t):∀ l:List EvC,Tgood (n+l.length) (b1a t l):=by
 intro l
 induction l generalizing n t with
 | nil=>exact h
 | cons e l ih=>
  have:=ih (fold_good h e)
  rw[List.length_cons,show n+(l.length+1)=n+1+l.length by omega]
  exact this
def Tb.app(a b:Tb):Tb:=⟨a.K++b.K,a.C++b.C⟩
end
section
open Go.RowKit
structure Dt where
 K:List KeyC
 E:List EntC
 C:List a4Z
def a8f(t:Tb):List KeyC:=srtL a2U (t.K.map (·.1))
def b8B(t:Tb):List a4Z:=srtL a1H t.C
def c0u(t:Tb)(k:KeyC):EntC:=(a2c t.K k).getD default
def dOf(t:Tb):Dt:=⟨a8f t,(a8f t).map (c0u t),b8B t⟩
end
section
open Go.RowKit
end
section
open Go.RowKit
abbrev RgP:=Int × Int
abbrev rgC(r:RgP):List AV:=[.int .i64 r.1,.int .i64 r.2]
def rgs(l:List RgP):List (List AV):=l.map rgC
theorem a0B(l:List RgP):(rgs l).length=l.length:=by simp[rgs]
theorem a0A(l:List RgP)(i:Nat)(h:i<l.length):(rgs l).getD i []=rgC (l.getD i default):=by simp[rgs,h]
def mxN:Int:=72057594037927935
structure GoodR (l:List RgP):Prop where
 bd:∀ i,i<l.length→0≤(l.getD i default).1∧(l.getD i default).1≤(l.getD i default).2∧(l.getD i default).2≤mxN
 gap:∀ i,i+1<l.length→(l.getD i default).2+2≤(l.getD (i+1) default).1
def a4A(l:List RgP)(n:Int):List RgP:=
 if l.length=0 then [(n,n)] else if n - (l.getD (l.length - 1) default).2<2 then l.set (l.length - 1) ((l.getD (l.length - 1) default).1,n) else l++[(n,n)]
def ofN(l:List Int):List RgP:=l.foldl a4A []
theorem b0B(l:List Int)(n:Int):ofN (l++[n])=a4A (ofN l) n:=by simp[ofN]
def RiseN(l:List Int):Prop:=(∀ i,i<l.length→0≤l.getD i 0∧l.getD i 0≤mxN)∧∀ i,i+1<l.length→l.getD i 0<l.getD (i+1) 0
theorem RiseN.take{l:List Int}(h:RiseN l)(k:Nat):RiseN (l.take k):=by
 refine ⟨fun i hi=>?_,fun i hi=>?_⟩
 ·have h1:i<l.length∧i<k:=by simp at hi;omega
  have:=h.1 i h1.1
  simpa[List.getD,List.getElem?_take,h1.2]using this
 ·have h1:i+1<l.length∧i+1<k:=by simp at hi;omega
  have:=h.2 i h1.1
  simpa[List.getD,List.getElem?_take,h1.2,show i<k by omega]using this
theorem snoc_last{l:List RgP}{n:Int}:(a4A l n).length≠0∧((a4A l n).getD ((a4A l n).length - 1) default).2=n∧(a4A l n).length≤l.length+1:=by
 unfold a4A
 split
 ·simp
 ·split
  ·rename_i h1 h2
   refine ⟨by simpa using h1, ?_,by simp⟩
   simp only[List.length_set,List.getD]
   rw[List.getElem?_set_self (by omega)];rfl
  ·simp
theorem good_snoc{l:List RgP}{n:Int}(h:GoodR l)(hn:0≤n∧n≤mxN)(hl:l.length≠0→(l.getD (l.length - 1) default).2<n):GoodR (a4A l n):=by
 unfold a4A
 split
 ·refine ⟨fun i hi=>?_,fun i hi=>?_⟩
  ·have:i=0:=by simpa using hi
   subst this;simp;omega
  ·simp at hi
 ·rename_i h0
  have h1:=hl h0
  have h2:=h.bd (l.length - 1) (by omega)
  split
  ·rename_i h3
   refine ⟨fun i hi=>?_,fun i hi=>?_⟩
   ·rw[List.length_set]at hi
    by_cases hi2:i=l.length - 1
    ·subst hi2
     simp only[List.getD]at h1 h2 ⊢
     rw[List.getElem?_set_self (by omega)]
     simp only[Option.getD_some];omega
    ·have:=h.bd i hi
     simp only[List.getD]at this ⊢
     rw[List.getElem?_set_ne (by omega)];exact this
   ·rw[List.length_set]at hi
    have:=h.gap i hi
    simp only[List.getD]at this ⊢
    rw[List.getElem?_set_ne (by omega)]
    by_cases hi2:i+1=l.length - 1
    ·rw[hi2]at this ⊢
     rw[List.getElem?_set_self (by omega)];exact this
    ·rw[List.getElem?_set_ne (by omega)];exact this
  ·rename_i h3
   refine ⟨fun i hi=>?_,fun i hi=>?_⟩
   ·by_cases hi2:i<l.length
    ·have:=h.bd i hi2
     simp only[List.getD]at this ⊢
     rw[List.getElem?_append_left hi2];exact this
    ·have:i=l.length:=by simp at hi;omega
     subst this
     simp only[List.getD]
     rw[List.getElem?_append_right (Nat.le_refl _)];simp;omega
   ·by_cases hi2:i+1<l.length
    ·have:=h.gap i hi2
     simp only[List.getD]at this ⊢
     rw[List.getElem?_append_left hi2,List.getElem?_append_left (by omega)];exact this
    ·have:i=l.length - 1:=by simp at hi;omega
     subst this
     have e:l.length - 1+1=l.length:=by omega
     rw[e]
     simp only[List.getD]at h3 ⊢
     rw[List.getElem?_append_right (Nat.le_refl _),List.getElem?_append_left (by omega)]
     simp
     omega
theorem take_snocI{l:List Int}{k:Nat}(h:k<l.length):l.take (k+1)=l.take k++[l.getD k 0]:=by
 rw[List.take_succ,List.getElem?_eq_getElem h];simp[List.getD,h]
theorem ofN_take{l:List Int}{k:Nat}(h:k<l.length):ofN (l.take (k+1))=a4A (ofN (l.take k)) (l.getD k 0):=by rw[take_snocI h,b0B]
theorem ofN_good{l:List Int}(h:RiseN l):∀ k,k≤l.length→GoodR (ofN (l.take k))∧(ofN (l.take k)).length≤k∧((ofN (l.take k)).length=0↔k=0)∧∀ j,j+1=k→((ofN (l.take k)).getD ((ofN (l.take k)).length - 1) default).2=l.getD j 0
 | 0,_=>⟨⟨fun i hi=>by simp[ofN]at hi,fun i hi=>by simp[ofN]at hi⟩,by simp[ofN],by simp[ofN],fun j hj=>by omega⟩
 | k+1,hk=>by
  obtain ⟨h1,h2,h3,h4⟩:=ofN_good h k (by omega)
  rw[ofN_take (by omega)]
  obtain ⟨s1,s2,s3⟩:=snoc_last (l:=ofN (l.take k)) (n:=l.getD k 0)
  refine ⟨good_snoc h1 (h.1 k (by omega)) fun h0=>?_,by omega,⟨fun h=>absurd h s1,fun h=>by omega⟩,fun j hj=>?_⟩
  ·have hk0:k≠0:=fun e=>h0 (h3.2 e)
   rw[h4 (k - 1) (by omega)]
   have:=h.2 (k - 1) (by omega)
   rwa [show k - 1+1=k by omega]at this
  ·have:j=k:=by omega
   subst this;exact s2
def a1x:List RgP→Int→Int→List RgP
 | [],f,t=>if f≤t then [(f,t)] else []
 | r::l,f,t=>(if f<r.1∧f≤t then [(f,min (r.1 - 1) t)] else [])++a1x l (max f (r.2+1)) t
theorem b0w:∀ (l:List RgP) (f t:Int),(a1x l f t).length≤l.length+1
 | [],f,t=>by rw[a1x];split<;>simp
 | r::l,f,t=>by
  have:=b0w l (max f (r.2+1)) t
  rw[a1x];split<;>simp<;>omega
end
section
open Go.RowKit
def ltI(x y:Int):Bool:=decide (x<y)
theorem a3f:STO ltI where
 irr a:=by simp[ltI]
 tr a b c h1 h2:=by simp only[ltI,decide_eq_true_eq]at *;omega
 tot a b h1 h2:=by simp only[ltI,decide_eq_false_iff_not]at *;omega
def a0I(L:List BlkC)(h:Int):Option BlkC:=L.find? fun b=>decide (b.h=h)
def hgs(L:List BlkC):List Int:=L.map (·.h)
def hsI(L:List BlkC):List Int:=srtL ltI (hgs L)
def a9I(L:List BlkC)(h:Int):BlkC:=(a0I L h).getD default
def dI(L:List BlkC):List BlkC:=(hsI L).map (a9I L)
theorem findH_none{L:List BlkC}{h:Int}(hf:a0I L h=none):∀ b∈L,b.h≠h:=by
 intro b hb e
 simp only[a0I,List.find?_eq_none]at hf
 exact absurd e (by simpa using hf b hb)
theorem findH_no{L:List BlkC}{h:Int}(hf:a0I L h=none):h ∉ hgs L:=fun hm=>by
 obtain ⟨b,hb,e⟩:=List.mem_map.1 hm
 exact findH_none hf b hb e
theorem findH_some{L:List BlkC}{h:Int}{b:BlkC}(hf:a0I L h=some b):b∈L∧b.h=h:=by
 unfold a0I at hf
 exact ⟨List.mem_of_find?_eq_some hf,by simpa using List.find?_some hf⟩
theorem findH_mem{L:List BlkC}(hN:(hgs L).Nodup){b:BlkC}(hb:b∈L):a0I L b.h=some b:=by
 induction L with
 | nil=>simp at hb
 | cons x L ih=>
  unfold a0I
  rw[List.find?_cons]
  simp only[hgs,List.map_cons,List.nodup_cons]at hN
  by_cases hx:x.h=b.h
  ·simp only[hx,decide_true]
   rcases List.mem_cons.1 hb with rfl|hb
   ·rfl
   ·exact absurd (List.mem_map.2 ⟨b,hb,rfl⟩) (hx▸hN.1)
  ·simp only[hx,decide_false]
   rcases List.mem_cons.1 hb with rfl|hb
   ·exact absurd rfl hx
   ·exact ih hN.2 hb
theorem mem_hgs{L:List BlkC}{h:Int}:h∈hgs L↔(a0I L h).isSome=true:=by
 constructor
 ·intro hm
  cases hf:a0I L h with
  | some x=>rfl
  | none=>exact absurd hm (findH_no hf)
 ·intro hs
  obtain ⟨b,hb⟩:=Option.isSome_iff_exists.1 hs
  obtain ⟨h1,h2⟩:=findH_some hb
  exact List.mem_map.2 ⟨b,h1,h2⟩
theorem mem_hsI{L:List BlkC}{h:Int}:h∈hsI L↔(a0I L h).isSome=true:=by rw[hsI,(srtL_perm _ _).mem_iff,mem_hgs]
theorem b0m(L:List BlkC):(dI L).length=L.length:=by simp[dI,hsI,hgs,(srtL_perm _ _).length_eq]
theorem a7R(L:List BlkC):(hsI L).length=L.length:=by simp[hsI,hgs,(srtL_perm _ _).length_eq]
theorem b9S(L:List BlkC)(i:Nat)(hi:i<L.length):((dI L).getD i default).h=(hsI L).getD i 0∧a0I L ((hsI L).getD i 0)=some ((dI L).getD i default):=by
 have hi':i<(hsI L).length:=by rw[a7R];exact hi
 have hm:(hsI L).getD i 0∈hsI L:=by rw[List.getD,List.getElem?_eq_getElem hi',Option.getD_some];exact List.getElem_mem hi'
 obtain ⟨b,hb⟩:=Option.isSome_iff_exists.1 (mem_hsI.1 hm)
 have e:(dI L).getD i default=b:=by
  have hg:(hsI L).getD i 0=(hsI L)[i]:=by simp[List.getD,hi']
  have:(dI L).getD i default=a9I L (hsI L)[i]:=by simp[dI,List.getD,hi']
  rw[this, ← hg,a9I,hb];rfl
 rw[e]
 exact ⟨(findH_some hb).2,hb⟩
theorem dI_mem{L:List BlkC}(hN:(hgs L).Nodup){b:BlkC}:b∈dI L↔b∈L:=by
 constructor
 ·intro h
  obtain ⟨i,hi,rfl⟩:=List.getElem_of_mem h
  have hi':i<L.length:=by rw[← b0m L];exact hi
  have:=(findH_some (b9S L i hi').2).1
  simpa[List.getD,hi]using this
 ·intro h
  have hf:=findH_mem hN h
  have hm:b.h∈hsI L:=mem_hsI.2 (by rw[hf];rfl)
  exact List.mem_map.2 ⟨b.h,hm,by rw[a9I,hf];rfl⟩
theorem hs_new{L:List BlkC}(hN:(hgs L).Nodup){b:BlkC}(hf:a0I L b.h=none):hsI (L++[b])=(hsI L).take (plL ltI b.h (hsI L))++[b.h]++(hsI L).drop (plL ltI b.h (hsI L)):=by
 unfold hsI
 have e:hgs (L++[b])=hgs L++[b.h]:=by simp[hgs]
 rw[e,srtL_snoc a3f hN (findH_no hf),insL_at]
theorem blk_new{L:List BlkC}{b:BlkC}(hf:a0I L b.h=none)(h:Int):a9I (L++[b]) h=if h=b.h then b else a9I L h:=by
 unfold a9I a0I
 rw[List.find?_append]
 by_cases e:h=b.h
 ·subst e
  rw[if_pos rfl]
  have:L.find? (fun x=>decide (x.h=b.h))=none:=hf
  rw[this];simp
 ·rw[if_neg e]
  cases hq:L.find? fun x=>decide (x.h=h) with
  | some y=>rfl
  | none=>simp[Ne.symm e]
def plI(h:Int)(L:List BlkC):Nat:=plL ltI h (hsI L)
theorem dI_new{L:List BlkC}(hN:(hgs L).Nodup){b:BlkC}(hf:a0I L b.h=none):dI (L++[b])=(dI L).take (plI b.h L)++[b]++(dI L).drop (plI b.h L):=by
 have hmap:∀ l:List Int,(∀ y∈l,y∈hsI L)→l.map (a9I (L++[b]))=l.map (a9I L):=fun l hl=>List.map_congr_left fun y hy=>by
  rw[blk_new hf,if_neg (fun e:y=b.h=>findH_no hf (by have:=hl y hy;rwa [hsI,(srtL_perm _ _).mem_iff,e]at this))]
 unfold dI plI
 rw[hs_new hN hf]
 simp only[List.map_append,List.map_cons,List.map_nil]
 rw[hmap _ (fun y hy=>List.mem_of_mem_take hy),hmap _ (fun y hy=>List.mem_of_mem_drop hy),blk_new hf,if_pos rfl,List.map_take,List.map_drop]
noncomputable def a2n (c:List UInt8) (top:Int) (L:List BlkC) (s:List UInt8):List BlkC × Int:=
 if (a0G s).2≠0 then (L,(a0G s).2) else if (a3L (a0G s).1).2≠0 then (L,(a3L (a0G s).1).2)
 else if (a3L (a0G s).1).1.c≠c then (L,6) else if top<(a3L (a0G s).1).1.h then (L,1)
 else match a0I L (a3L (a0G s).1).1.h with
  | none=>(L++[(a3L (a0G s).1).1],0)
  | some b=>if b=(a3L (a0G s).1).1 then (L,0) else (L,8)
theorem a7n(c:List UInt8)(top:Int)(L:List BlkC)(s:List UInt8):
  ((a0G s).2≠0∧a2n c top L s=(L,(a0G s).2))∨((a0G s).2=0∧((a3L (a0G s).1).2≠0∧a2n c top L s=(L,(a3L (a0G s).1).2)∨((a3L (a0G s).1).2=0∧
   ∃ b,(a3L (a0G s).1).1=b∧((b.c≠c∧a2n c top L s=(L,6))∨(b.c=c∧((top<b.h∧a2n c top L s=(L,1))∨(b.h≤top∧
    ((a0I L b.h=none∧a2n c top L s=(L++[b],0))∨(a0I L b.h=some b∧a2n c top L s=(L,0))∨∃ b',a0I L b.h=some b'∧b'≠b∧a2n c top L s=(L,8))))))))):=by
 unfold a2n
 by_cases h1:(a0G s).2=0
 rotate_left
 ·exact .inl ⟨h1,by rw[if_pos h1]⟩
 refine .inr ⟨h1, ?_⟩
 rw[if_neg (by simpa using h1)]
 by_cases h2:(a3L (a0G s).1).2=0
 rotate_left
 ·exact .inl ⟨h2,by rw[if_pos h2]⟩
 refine .inr ⟨h2,_,rfl, ?_⟩
 rw[if_neg (by simpa using h2)]
 by_cases h3:(a3L (a0G s).1).1.c=c
 rotate_left
 ·exact .inl ⟨h3,by rw[if_pos h3]⟩
 refine .inr ⟨h3, ?_⟩
 rw[if_neg (by simpa using h3)]
 by_cases h4:top<(a3L (a0G s).1).1.h
 ·exact .inl ⟨h4,by rw[if_pos h4]⟩
 refine .inr ⟨by omega, ?_⟩
 rw[if_neg h4]
 cases h5:a0I L (a3L (a0G s).1).1.h with
 | none=>exact .inl ⟨rfl,rfl⟩
 | some b'=>
  by_cases h6:b'=(a3L (a0G s).1).1
  ·exact .inr (.inl ⟨by rw[h6],by simp[h6]⟩)
  ·exact .inr (.inr ⟨b',rfl,h6,by simp[h6]⟩)
theorem b3f:∀ (f:Nat) (r:List UInt8) (b:Bool),(a2C f r b).2.2=0→1≤(a2C f r b).2.1
 | 0,_,_,h=>by simp[a2C]at h
 | f+1,[],_,h=>by simp[a2C]at h
 | f+1,c::r,b,h=>by
  rw[a2C]at h ⊢
  split
  ·split
   ·rename_i h1 h2;rw[if_pos h1,if_pos h2]at h;simp at h
   ·simp
  ·rename_i h1
   rw[if_neg h1]at h
   rcases hg:a2C f r false with ⟨v,n,e⟩
   rw[hg]at h
   simp only at h ⊢
   split
   ·simp
   ·rename_i he;rw[if_neg he]at h;exact absurd h he
theorem nx_adv{s:List UInt8}{n:Int}(h:(nx s n).2.2=0):n+1≤(nx s n).2.1:=by
 unfold nx at h ⊢
 split
 ·rename_i h1
  rw[if_pos h1]at h
  rcases hg:a2C 8 (s.drop n.toNat) true with ⟨v,k,e⟩
  rw[hg]at h
  simp only at h ⊢
  by_cases he:e=0
  ·rw[if_pos he]
   have:=b3f 8 (s.drop n.toNat) true (by rw[hg];exact he)
   rw[hg]at this
   simp only at this ⊢
   omega
  ·rw[if_neg he]at h;exact absurd h he
 ·rename_i h1;rw[if_neg h1]at h;simp at h
theorem rtext_adv{s:List UInt8}{m:Int}{x:Int × Int}(h:(a0x s m x).2.2=0):x.1+1≤(a0x s m x).2.1:=by
 unfold a0x at h ⊢
 split
 ·rename_i h1;rw[if_pos h1]at h;exact absurd h h1
 ·rename_i h1
  rw[if_neg h1]at h
  split
  ·rename_i h2;rw[if_pos h2]at h;exact absurd h h2
  ·rename_i h2
   rw[if_neg h2]at h
   have h3:=nx_adv (s:=s) (n:=x.1) (by simpa using h2)
   have h4:=(a6C s x.1).1
   split
   ·rename_i h5;rw[if_pos h5]at h;simp at h
   ·split
    ·rename_i h5 h6;rw[if_neg h5,if_pos h6]at h;simp at h
    ·simp only;omega
theorem rdEvs_len{s:List UInt8}:∀ (n:Nat) (x:Int × Int) (L:List EvC),inT s x→((a3Y s n x L).1.length:Int)≤L.length+(s.length - x.1)
 | 0,x,L,hx=>by simp only[a3Y];have:=hx.2;omega
 | n+1,x,L,hx=>by
  have h2:=a1l s 1000 x hx
  rw[a3Y]
  split
  ·simp only;have:=hx.2;omega
  ·rename_i h1
   have h3:=rtext_adv (s:=s) (m:=1000) (x:=x) (by simpa using h1)
   split
   ·simp only;have:=hx.2;omega
   ·have:=rdEvs_len n (a0x s 1000 x).2 (L++[(a6V (a0x s 1000 x).1).1]) h2
    simp only[List.length_append,List.length_cons,List.length_nil]at this
    omega
theorem rdEvs_sm{s:List UInt8}(hs:s.length≤1000000):∀ (n:Nat) (x:Int × Int) (L:List EvC),inT s x→a7b L→(L.length:Int)≤x.1→a7b (a3Y s n x L).1
 | 0,x,L,_,hL,_=>by simpa only[a3Y]using hL
 | n+1,x,L,hx,hL,hl=>by
  have h2:=a1l s 1000 x hx
  rw[a3Y]
  split
  ·exact hL
  ·rename_i h1
   have h3:=rtext_adv (s:=s) (m:=1000) (x:=x) (by simpa using h1)
   split
   ·exact hL
   ·refine rdEvs_sm hs n _ _ h2 (evsS_snoc hs hL (by have:=hx.2;omega) x) ?_
    simp only[List.length_append,List.length_cons,List.length_nil]
    omega
theorem a3I:a7b []:=⟨by simp,fun i hi=>by simp at hi⟩
theorem decB_sm{s:List UInt8}(hs:s.length≤1000000):a7b (a3L s).1.e:=by
 have h0:inT s (0,0):=⟨by simp,by simp⟩
 have h1:=a1l s 12 _ h0
 have h2:=a0W s 1 mxH _ h1
 have h3:=a0W s 0 mxH _ h2
 have h4:=a6S s 1073741824 _ h3
 have h5:=rdEvs_sm hs (a2g s 1073741824 (a1Q s 0 mxH (a1Q s 1 mxH (a0x s 12 (0,0)).2).2).2).1.toNat _ [] h4 a3I (by simpa using h4.1)
 simp only[a3L,b3E,b1M]
 split
 ·exact a3I
 ·split
  ·exact a3I
  ·split
   ·exact a3I
   ·exact h5
theorem b4N(s:List UInt8):(a3L s).1.e.length≤s.length:=by
 have h0:inT s (0,0):=⟨by simp,by simp⟩
 have h1:=a1l s 12 _ h0
 have h2:=a0W s 1 mxH _ h1
 have h3:=a0W s 0 mxH _ h2
 have h4:=a6S s 1073741824 _ h3
 have h5:=rdEvs_len (s:=s) (a2g s 1073741824 (a1Q s 0 mxH (a1Q s 1 mxH (a0x s 12 (0,0)).2).2).2).1.toNat _ [] h4
 have h6:=h4.1
 simp only[a3L,b3E,b1M]
 split
 ·simp[bkz]
 ·split
  ·simp[bkz]
  ·split
   ·simp[bkz]
   ·simp only[List.length_nil]at h5 ⊢
    omega
theorem decB_may{s:List UInt8}(h:(a3L s).2=0):a1n (a3L s).1=true:=by
 simp only[a3L,b3E,b1M]at h ⊢
 split
 ·rename_i h1;rw[if_pos h1]at h;exact absurd h h1
 ·rename_i h1
  rw[if_neg h1]at h
  split
  ·rename_i h2;rw[if_pos h2]at h;exact absurd h h2
  ·rename_i h2
   rw[if_neg h2]at h
   split
   ·rename_i h3;rw[if_pos h3]at h;simp at h
   ·rename_i h3;simpa using h3
theorem a9m(s:List UInt8):(a0G s).1.length≤s.length:=by
 have hn:(a3C s).1.length≤s.length:=by
  unfold a3C
  repeat' split
  all_goals first|(simp;done)|(simp;omega)
 unfold a0G
 repeat' split
 all_goals first|(simp;done)|exact hn|omega
structure IxG (c:List UInt8) (top:Int) (n:Nat) (L:List BlkC):Prop where
 nd:(hgs L).Nodup
 ok:∀ b∈L,a1n b=true∧b.c=c∧b.h≤top
 ev:((dI L).map (·.e.length)).sum≤n
 sm:∀ b∈L,a7b b.e
 ln:L.length≤n
theorem c0x(c:List UInt8)(top:Int):IxG c top 0 []:=⟨by simp[hgs],fun b hb=>by simp at hb,by simp[dI,hsI,hgs,srtL],fun b hb=>by simp at hb,by simp⟩
theorem IxG.mono{c:List UInt8}{top:Int}{n m:Nat}{L:List BlkC}(h:IxG c top n L)(hm:n≤m):IxG c top m L:=⟨h.nd,h.ok,Nat.le_trans h.ev hm,h.sm,Nat.le_trans h.ln hm⟩
def evI(L:List BlkC):List EvC:=(dI L).flatMap (·.e)
theorem b1J(L:List BlkC):(evI L).length=((dI L).map (·.e.length)).sum:=by unfold evI;rw[List.length_flatMap]
theorem b5P(l:List BlkC)(b:BlkC)(i:Nat):((l.take i++[b]++l.drop i).map (·.e.length)).sum=(l.map (·.e.length)).sum+b.e.length:=by
 have:(l.map (·.e.length)).sum=((l.take i).map (·.e.length)).sum+((l.drop i).map (·.e.length)).sum:=by
  rw[← List.sum_append, ← List.map_append,List.take_append_drop]
 simp only[List.map_append,List.sum_append,List.map_cons,List.map_nil,List.sum_cons,List.sum_nil]
 omega
theorem addI_good{c:List UInt8}{top:Int}{n:Nat}{L:List BlkC}(h:IxG c top n L)(s:List UInt8)(hs:s.length≤1000000):IxG c top (n+s.length+1) (a2n c top L s).1:=by
 have h':=h.mono (show n≤n+s.length+1 by omega)
 rcases a7n c top L s with ⟨_,g⟩ | ⟨_,⟨_,g⟩ | ⟨hd,b,hb,⟨_,g⟩ | ⟨hc,⟨_,g⟩ | ⟨ht,⟨hf,g⟩ | ⟨_,g⟩ | ⟨_,_,_,g⟩⟩⟩⟩⟩<;>rw[g]
 all_goals try exact h'
 have hl:=a9m s
 refine ⟨?_,fun x hx=>?_, ?_,fun x hx=>?_, ?_⟩
 ·have e:hgs (L++[b])=hgs L++[b.h]:=by simp[hgs]
  rw[e];exact nodup_snoc h.nd (findH_no hf)
 ·rcases List.mem_append.1 hx with hx|hx
  ·exact h.ok x hx
  ·obtain rfl:x=b:=by simpa using hx
   exact ⟨by rw[← hb];exact decB_may hd,hc,ht⟩
 ·show ((dI (L++[b])).map _).sum≤_
  rw[dI_new h.nd hf,b5P]
  have:=b4N (a0G s).1
  rw[hb]at this
  have:=h.ev
  omega
 ·rcases List.mem_append.1 hx with hx|hx
  ·exact h.sm x hx
  ·obtain rfl:x=b:=by simpa using hx
   have h1:=decB_sm (s:=(a0G s).1) (by omega)
   rw[hb]at h1;exact h1
 ·simp only[List.length_append,List.length_cons,List.length_nil]
  have:=h.ln;omega
noncomputable def a2b (c:List UInt8) (top:Int) (l:List (List UInt8)):List BlkC × List Int:=l.foldl (fun x s=>((a2n c top x.1 s).1,x.2++[(a2n c top x.1 s).2])) ([],[])
theorem a8U(c:List UInt8)(top:Int):a2b c top []=([],[]):=rfl
theorem a7x(c:List UInt8)(top:Int)(l:List (List UInt8))(s:List UInt8):a2b c top (l++[s])=((a2n c top (a2b c top l).1 s).1,(a2b c top l).2++[(a2n c top (a2b c top l).1 s).2]):=by simp[a2b]
theorem b1L(c:List UInt8)(top:Int)(l:List (List UInt8)):(a2b c top l).2.length=l.length:=by
 have key:∀ (l:List (List UInt8)) (x:List BlkC × List Int),(l.foldl (fun x s=>((a2n c top x.1 s).1,x.2++[(a2n c top x.1 s).2])) x).2.length=x.2.length+l.length:=by
  intro l
  induction l with
  | nil=>intro x;rfl
  | cons s l ih=>intro x;rw[List.foldl_cons,ih];simp;omega
 have:=key l ([],[])
 simpa[a2b]using this
theorem b0Z(c:List UInt8)(top:Int):∀ (l:List (List UInt8)) (n:Nat),(∀ s∈l,s.length≤1000000)→(l.map (·.length)).sum≤n→IxG c top (n+l.length) (a2b c top l).1:=by
 have key:∀ (l:List (List UInt8)) (x:List BlkC × List Int) (n:Nat),(∀ s∈l,s.length≤1000000)→IxG c top n x.1→IxG c top (n+((l.map (·.length)).sum+l.length)) (l.foldl (fun x s=>((a2n c top x.1 s).1,x.2++[(a2n c top x.1 s).2])) x).1:=by
  intro l
  induction l with
  | nil=>intro x n _ h;simpa using h
  | cons s l ih=>
   intro x n hs h
   have:=ih ((a2n c top x.1 s).1,x.2++[(a2n c top x.1 s).2]) _ (fun t ht=>hs t (List.mem_cons_of_mem _ ht)) (addI_good h s (hs s (List.mem_cons_self ..)))
   rw[List.foldl_cons]
   refine this.mono ?_
   simp only[List.map_cons,List.sum_cons,List.length_cons];omega
 intro l n hs hn
 exact (key l ([],[]) 0 hs (c0x c top)).mono (by omega)
end
section
open Go.RowKit Go.ChangeMaps Go.Sort Go.Shelf Go.Maps
set_option maxRecDepth 100000
theorem ins_perm{H:Type}(x:Lit × DataW H):∀ l:List (Lit × DataW H),(DataW.insert x l).Perm (x::l)
 | []=>.refl _
 | y::r=>by
  rw[DataW.insert]
  split
  ·exact .refl _
  ·exact ((ins_perm x r).cons y).trans (.swap x y r)
theorem insAll_perm{H:Type}:∀ l:List (Lit × DataW H),(l.foldr DataW.insert []).Perm l
 | []=>.refl _
 | x::r=>(ins_perm x _).trans ((insAll_perm r).cons x)
def b4b(v:Value):Option (DataW Unit × List MemPlace):=some (.nil,[])
theorem wf_num{x:Int}(h:0≤x∧x≤mxN):(Lit.int .i64 x).wf=true:=by
 have e:mxN=72057594037927935:=rfl
 have e1:IntKind.min .i64 = -9223372036854775808:=by decide
 have e2:IntKind.max .i64=9223372036854775807:=by decide
 simp only[Lit.wf,e1,e2,decide_eq_true_eq,Bool.and_eq_true]
 omega
theorem ikt_srt{ss l:List Int}(hp:ss.Perm l)(ha:l.Nodup):ss.mergeSort (fun x y=>decide (x≤y))=srtL ltI l:=by
 have tr:∀ a b c:Int,leI a b=true→leI b c=true→leI a c=true:=fun a b c h1 h2=>by simp only[leI,decide_eq_true_eq]at *;exact Int.le_trans h1 h2
 have tot:∀ a b:Int,(leI a b||leI b a)=true:=fun a b=>by simp only[leI,Bool.or_eq_true,decide_eq_true_eq];exact Int.le_total a b
 have hq:(ss.mergeSort leI).Perm l:=(List.mergeSort_perm ss leI).trans hp
 have hN:(ss.mergeSort leI).Nodup:=hq.nodup_iff.2 ha
 have hS:=List.pairwise_mergeSort tr tot ss
 refine rise_unique a3f ?_ (srtL_rise a3f ha) (hq.trans (srtL_perm ltI l).symm)
 refine (hS.and hN).imp fun {a b} h=>?_
 have h1:=h.1
 have h2:=h.2
 simp only[leI,ltI,decide_eq_true_eq]at *
 omega
set_option maxHeartbeats 4000000 in
theorem b1d(bx m:Nat)(h1:¬ bx=m)(l:List Int)(vals:List AV)(ha:l.Nodup)(hl:l.length≤100000)(hb:∀ x∈l,0≤x∧x≤mxN):
  CT Tryz.prog 64 [.clo 131 [.ptr bx 0]] (lk [(bx,[.mapv m]),(m,[.mp (l.map (AV.int .i64 ·)) vals (List.range l.length) l.length])])
   (fun r o=>r=.sl (some 3) 1 ((srtL ltI l).map fun x=>[.int .i64 x])∧o=lk [(bx,[.mapv m]),(m,[.mp (l.map (AV.int .i64 ·)) vals (List.range l.length) l.length])]):=by
 refine CT_reads fun W U vs hG hlen hv ho=>?_
 obtain rfl:vs=[.func (.func 131) #[] #[.pointer (some ⟨bx,0,none⟩)]]:=by
  match vs,hlen with
  | [v],_=>rw[(hv 0 v _ rfl rfl).clo1_inv]
 obtain ⟨us,ty,q1,q2,q3⟩:ObC W U bx [.mapv m]:=ho bx _ (lk_hd _ _ _)
 obtain ⟨es,g1,g2,g3,g4,g5,g6,g7⟩:ObR W U m [.mp (l.map (AV.int .i64 ·)) vals (List.range l.length) l.length]:=ho m _ (lk_tl (fun e=>h1 e.symm) (lk_hd _ _ _))
 have hus:us = #[.map (some m)]:=by
  have h0:=(q3 0 _ rfl).1.map_inv
  match us,q2 with
  | ⟨[a]⟩,_=>simp at h0;subst h0;rfl
 subst hus
 have hsz:es.size=l.length:=by rw[g2];simp
 have hborn:∀ (i:Nat) (e:MapEntry),es[i]?=some e→e.born=i:=by
  intro i e he
  have hi:i<es.size:=(Array.getElem?_eq_some_iff.1 he).1
  exact (g7 i e he).2.2 i (by rw[List.getElem?_range (by omega)])
 have hval:es.toList.map (·.key)=l.map encZ:=by
  apply List.ext_getElem?
  intro i
  by_cases hi:i<es.size
  ·have hil:i<l.length:=by omega
   have he:es[i]?=some es[i]:=Array.getElem?_eq_getElem hi
   have hx:=(g7 i _ he).1 (.int .i64 l[i]) (by simp[List.getElem?_eq_getElem hil])
   simp only[List.getElem?_map,Array.getElem?_toList,he,Option.map_some,List.getElem?_eq_getElem hil]
   have hxi:∀ {v:Value} {n:Int},VR W U v (.int .i64 n)→v=encZ n:=fun h=>by cases h;rfl
   exact congrArg some (hxi hx)
  ·rw[List.getElem?_eq_none (by simp;omega),List.getElem?_eq_none (by simp;omega)]
 have hb1:∀ x∈es.toList,x.born<l.length:=by
  intro x hx
  obtain ⟨i,hi,rfl⟩:=List.getElem_of_mem hx
  simp at hi
  have:=hborn i es[i] (Array.getElem?_eq_getElem hi)
  simp[this];omega
 have hnd:(es.toList.map (·.born)).Nodup:=by
  have:es.toList.map (·.born)=List.range es.size:=by
   apply List.ext_getElem
   ·simp
   ·intro i h2 h3
    simp at h2
    simp[hborn i es[i] (Array.getElem?_eq_getElem h2)]
  rw[this];exact List.nodup_range
 have hkn:(es.toList.map (·.key)).Nodup:=by
  rw[hval]
  exact List.pairwise_map.2 (ha.imp fun {a b} hab e=>hab (encZ_inj e))
 have hrd:∀ x∈es.toList, ∃ z:Int,z∈l∧x.key=encZ z∧WideElems.rd Tryz.prog 3 b4b x=some (.int .i64 z,.nil):=by
  intro x hx
  have hk:x.key∈es.toList.map (·.key):=List.mem_map.2 ⟨x,hx,rfl⟩
  rw[hval]at hk
  obtain ⟨z,hz,e⟩:=List.mem_map.1 hk
  have hw:=wf_num (hb z hz)
  have hkey:keyOf Tryz.prog 3 x.key=some (.int .i64 z):=by
   rw[← e];simp[keyOf,Tryz.underlying3,mapKey,encZ,hw]
  exact ⟨z,hz,e.symm,by simp[WideElems.rd,hkey,b4b]⟩
 have hmx:(100000:Nat)≤maxLen:=by unfold maxLen;decide
 have hF:WideElems.Fit Tryz.prog 3 b4b es l.length:=⟨by omega,⟨hb1,hnd,hkn⟩,fun x hx=>by obtain ⟨z,_,_,h⟩:=hrd x hx;exact ⟨_,h⟩⟩
 have hown:=World.ownsMap_of_fit (R:=b4b) g1 hF fun _ _ _ h=>h
 generalize hD:(DataW.map ((es.toList.map (WideElems.rg Tryz.prog 3 b4b)).foldr DataW.insert []):DataW Unit)=D0 at hown
 have hperm:(intKeys D0).Perm l:=by
  rw[← hD]
  show (((es.toList.map (WideElems.rg Tryz.prog 3 b4b)).foldr DataW.insert []).map fun p=>Go.intOf p.1).Perm l
  refine ((insAll_perm _).map _).trans ?_
  rw[List.map_map]
  have:es.toList.map ((fun p:Lit × DataW Unit=>Go.intOf p.1) ∘ WideElems.rg Tryz.prog 3 b4b)=l:=by
   have h2:es.toList.map ((fun p:Lit × DataW Unit=>Go.intOf p.1) ∘ WideElems.rg Tryz.prog 3 b4b)=(es.toList.map (·.key)).map fun v=>match v with | .int _ a=>a|_=>0:=by
    rw[List.map_map]
    refine List.map_congr_left fun x hx=>?_
    obtain ⟨z,_,e,h⟩:=hrd x hx
    simp only[Function.comp,WideElems.rg_of h,e,encZ,Go.intOf]
   rw[h2,hval,List.map_map]
   have:(fun v:Value=>match v with | .int _ a=>a|_=>0) ∘ encZ=id:=by funext a;rfl
   rw[this,List.map_id]
  rw[this]
 have hsize:Maps.size D0=l.length:=by
  have:=hperm.length_eq
  rw[← hD]at this ⊢
  simpa[intKeys,Maps.size]using this
 have hc1:W.cell? ⟨bx,0,none⟩=some (.map (some m)):=by simp[World.cell?,q1]
 have hbxl:bx<W.heap.size:=(Array.getElem?_eq_some_iff.1 q1).1
 have hseq:SeqGives Fence.wide 3 Tryz.prog 131 #[.pointer (some ⟨bx,0,none⟩)] encZ (fun ss=>ss.Perm (intKeys D0)) (Maps.size D0) W:=
  AnyZI.keys_gives (ρ:=Tryz.keys65_ren) { Tryz.keys65 with } Fence.wide _ trivial rfl (by omega) bx m es.size D0 W hbxl hc1 hown
 have hs:AnyZI.SortsIn Tryz.prog Tryz.sorted64_ren Fence.wide 5:=
  ⟨fun blk off cap ss W hH hblk hsz=>callsIn_wide.2 (AnyM.slices_Sort_int Tryz.isort128 blk off cap ss W hH hblk hsz),fun p cap W=>callsIn_wide.2 (AnyM.slices_Sort_int_none Tryz.isort128 p cap W)⟩
 have cS:=AnyZI.sorted_in Tryz.sorted64 Fence.wide 6 trivial trivial trivial trivial rfl (by omega) hs (enters_of Tryz.func128 (by kernel_rfl) rfl) 131 #[.pointer (some ⟨bx,0,none⟩)] trivial (enters_of Tryz.func131 (by kernel_rfl) rfl) _ _ (by rw[hsize];omega) (by rw[hsize];omega) W hseq
 change CallsIn _ _ Tryz.prog 64 _ _ _ at cS
 refine (callsIn_wide.1 cS).mono ?_
 rintro e W' ⟨v,ss,rfl,hS,hrow,hnil,hbl⟩
 have hsl:ss.Perm l:=hS.trans hperm
 rw[ikt_srt hsl ha]at hrow
 have hlen2:(srtL ltI l).length=ss.length:=((srtL_perm ltI l).trans hsl.symm).length_eq
 obtain ⟨U',r1,r2,r3⟩:=row_VR (U:=U) (e:=3) (k:=1) (els:=(srtL ltI l).map fun x=>[AV.int .i64 x]) (by omega) hbl hrow (by simp[hlen2]) (fun l hl=>by
   simp only[List.mem_map]at hl
   obtain ⟨a,_,rfl⟩:=hl
   rfl) (fun u hu=>by
   obtain ⟨x,_,rfl⟩:=List.mem_map.1 hu
   rfl) (fun i j l' c u hl' hc hu W2 U2=>by
   simp only[List.getElem?_map,Option.map_eq_some_iff]at hl'
   obtain ⟨x,hx,rfl⟩:=hl'
   have hj:j<1:=(List.getElem?_eq_some_iff.1 hc).1
   obtain rfl:j=0:=by omega
   simp only[Nat.mul_one,Nat.add_zero,List.getElem?_map,hx,Option.map_some,Option.some.injEq]at hu
   simp only[List.getElem?_cons_zero,Option.some.injEq]at hc
   subst hu;subst hc
   exact .int _ _)
 exact ⟨v,U',rfl,r1,fun e sz els he=>by cases he;exact r2,r3⟩
theorem b3g(m:Nat):CT Tryz.prog 65 [.mapv m] (lk []) (fun r o=>∃ b,r=.clo 131 [.ptr b 0]∧o=lk [(b,[.mapv m])]):=by
 refine CT_lays (R:=fun b=>.clo _ [.ptr b 0]) fun W U vs hl hv=>?_
 obtain rfl:vs=[.map (some m)]:=by
  match vs,hl with
  | [v],_=>rw[(hv 0 v _ rfl rfl).map_inv]
 go_enter Tryz.func65,Tryz.ntmps65
 go_wp2
 go_ret
 refine ⟨_,_,_,rfl,rfl,rfl,fun u hu=>(by cases hu),fun j u hj=>?_,fun W2 U2 hc=>?_,by simp⟩
 ·match j with
  | 0=>
   simp at hj;subst hj
   exact ⟨rfl,fun x hx=>by simp at hx;subst hx;exact ⟨.mapv m,by simp⟩⟩
  | j+1=>simp at hj
 ·refine .clo _ [_] [_] rfl fun i v c h1 h2=>?_
  match i with
  | 0=>simp at h1 h2;subst h1;subst h2;exact .ptr _ _ hc
  | i+1=>simp at h1
end
section
open Go.RowKit Go.Shelf Go.Sort Go.Lib
set_option maxRecDepth 100000
theorem flatM_len{k:Nat}:∀ els:List (List AV),(∀ e∈els,e.length=k)→(els.flatMap a0X).length=els.length * k
 | [],_=>by simp
 | e::r,h=>by
  rw[List.flatMap_cons,List.length_append,a1a,h e (by simp),flatM_len r fun x hx=>h x (by simp[hx]),List.length_cons,Nat.add_mul];omega
theorem flatM_get{k:Nat}:∀ (els:List (List AV)) (i j:Nat),(∀ e∈els,e.length=k)→i<els.length→j<k→(els.flatMap a0X)[i * k+j]?=(a0X (els.getD i []))[j]?
 | [],i,j,_,h,_=>by simp at h
 | e::r,0,j,h,_,hj=>by
  rw[List.flatMap_cons,List.getElem?_append_left (by rw[a1a,h e (by simp)];omega)];simp
 | e::r,i+1,j,h,hi,hj=>by
  have he:=h e (by simp)
  rw[List.flatMap_cons,List.getElem?_append_right (by rw[a1a,he,Nat.add_mul];omega),a1a,he]
  have:(i+1) * k+j - k=i * k+j:=by rw[Nat.add_mul];omega
  rw[this,flatM_get r i j (fun x hx=>h x (by simp[hx])) (by simpa using hi) hj];simp
section
variable {P:Program} {ρ:Ren}
set_option maxHeartbeats 2000000 in
theorem b2V(L:SlLaysE0.n41 P ρ)(i0:TypeInfo)(z:Value)(size bytes:Nat)(hi:P.info? (ρ.t 23)=some i0)(hz0:i0.zero=some z)(hz1:i0.size=size)(hz2:i0.bytes=bytes)(hzs:z.cells.size=size)(hsz:0<size)
  (z23:∀ w,(Go.sizeOf (ρ.t 23)).run P w=.ok size w) (a:Addr) (c:Nat) (w:World):
  Calls P (ρ.f 41) #[.slice (some a) 0 c] w fun e w'=>∃ v',e=.returned v'∧w'.ownsRow w.heap.size (ρ.t 23) size v' 0 []∧RowKit.Below w.heap.size w w':=by
 have mixed:=L.mixed;have t4:=L.t4;have a4:=L.a4;have z4:=L.z4;have v4:=L.v4;have t22:=L.t22;have a22:=L.a22;have z22:=L.z22;have v22:=L.v22
 have q22:∀ (w:World) (a:Option Addr) (n c n' c':Nat),(binOp .eql (ρ.t 22) (.slice a n c) (.slice none n' c')).run P w=.ok (.bool a.isNone) w:=fun w a n c n' c'=>Lib.run_eql_slice_nil w _ _ a n c n' c' L.t22
 have u22:∀ w,Sem.run P (underlying (ρ.t 22)) w=.ok (TypeDesc.slice (ρ.t 23)) w:=run_underlying t22
 obtain ⟨_,_,FG⟩:=L.f41
 go_enter FG,SlBodyN.n41_ntmps ρ
 go_wp2_with (at_builtin;refine wpList_append_own _ rfl _ _ (ρ.t 22) rfl w.heap.size (ρ.t 23) i0 z size bytes t22 hi hz0 hz1 hz2 hzs hsz _ _ _ rfl (World.ownsRow_made w #[] 0 (Nat.le_refl _) (Nat.zero_le _) (by simp)) a 0 c [] rfl (by simp) (by intro j u hj;simp at hj) (by intro u hu;cases hu) (by unfold maxLen;omega) (by omega) (by simp) ?_)
 intro v' w1 hown hgrow hnil
 go_wp2
 go_ret
 exact ⟨v',rfl,by simpa using hown,((RowKit.Below.refl _ w).alloc (Nat.le_refl _) _).grown hgrow (by simp) (by intro k hk;simp[Value.ownBlock]at hk;omega)⟩
theorem b0i(L:SlLaysE0.n41 P ρ)(i0:TypeInfo)(z:Value)(size bytes:Nat)(hi:P.info? (ρ.t 23)=some i0)(hz0:i0.zero=some z)(hz1:i0.size=size)(hz2:i0.bytes=bytes)(hzs:z.cells.size=size)(hsz:0<size)
  (z23:∀ w,(Go.sizeOf (ρ.t 23)).run P w=.ok size w) (els:List (List AV)) (hb:els.length * bytes≤140737488355328) (hl:els.length≤maxLen) (hs:∀ e∈els,e.length=size) (hf:∀ e∈els,a5A e=true):
  CP P (ρ.f 41) [.sl none size els] (.sl (some (ρ.t 23)) size els):=by
 intro W U vs hG hlen hv
 obtain ⟨v,rfl⟩:∃ v,vs=[v]:=by
  match vs,hlen with
  | [v],_=>exact ⟨v,rfl⟩
 have h:=hv 0 v _ rfl rfl
 have hget:∀ (i j:Nat) (l:List AV) (c:AV) (u:Value),els[i]?=some l→l[j]?=some c→(els.flatMap a0X)[i * size+j]?=some u→∀ W U,VR W U u c:=by
  intro i j l c u hl' hc hu W2 U2
  have hi':i<els.length:=(List.getElem?_eq_some_iff.1 hl').1
  have hm:l∈els:=List.mem_of_getElem? hl'
  have hj:j<size:=by rw[← hs l hm];exact (List.getElem?_eq_some_iff.1 hc).1
  rw[flatM_get els i j hs hi' hj]at hu
  have e:els.getD i []=l:=by simp[List.getD,hl']
  rw[e]at hu
  exact (a1N l (hf l hm) j c u hc hu).1 W2 U2
 have hone:∀ u∈els.flatMap a0X,u.oneCell'=true:=by
  intro u hu
  obtain ⟨e,he,h2⟩:=List.mem_flatMap.1 hu
  exact plainV_one (hf e he) u h2
 have fin:∀ (W':World) (v':Value),RowKit.Below W.heap.size W W'→W'.ownsRow W.heap.size (ρ.t 23) size v' els.length (els.flatMap a0X)→
   ∃ v U',Ending.returned v'=.returned v∧VR W' U' v (.sl (some (ρ.t 23)) size els)∧Own1 W' U' (W.heap.size ≤ ·) v (.sl (some (ρ.t 23)) size els)∧Ext W U W' U':=by
  intro W' v' hbl hrow
  obtain ⟨U',r1,r2,r3⟩:=row_VR (U:=U) (e:=ρ.t 23) (k:=size) (els:=els) hsz hbl hrow rfl hs hone hget
  exact ⟨v',U',rfl,r1,r2,r3⟩
 cases h with
 | sl A cap own _ b o _ f hcap hmax hA _ hc hvv=>
  rcases Nat.eq_zero_or_pos els.length with h0|h0
  ·obtain rfl:els=[]:=List.eq_nil_of_length_eq_zero h0
   cases A with
   | none=>
    refine (AnyE.slices_Clone_nil L 0 cap W).mono ?_
    rintro e W' ⟨rfl,rfl⟩
    exact fin _ _ (RowKit.Below.refl _ _) ⟨by simp,.inl ⟨rfl,rfl⟩⟩
   | some a=>
    refine (b2V L i0 z size bytes hi hz0 hz1 hz2 hzs hsz z23 a cap W).mono ?_
    rintro e W' ⟨v',rfl,hrow,hbl⟩
    exact fin W' v' hbl (by simpa using hrow)
  ·obtain rfl:=hA h0
   refine (AnyE.slices_Clone L i0 z size bytes hi hz0 hz1 hz2 hzs hsz z23 b o els.length cap (els.flatMap a0X) W (flatM_len els hs) hl hb (fun t u hu=>?_) hone).mono ?_
   ·have ht:t<els.length * size:=by rw[← flatM_len els hs];exact (List.getElem?_eq_some_iff.1 hu).1
    have hi':t / size<els.length:=(Nat.div_lt_iff_lt_mul hsz).2 ht
    have hj:t % size<size:=Nat.mod_lt _ hsz
    have e:t / size * size+t % size=t:=by rw[Nat.mul_comm];exact Nat.div_add_mod t size
    obtain ⟨c1,_,_⟩:=hc (t / size) (t % size) hi' hj
    have hm:els.getD (t / size) []∈els:=by rw[List.getD,List.getElem?_eq_getElem hi',Option.getD_some];exact List.getElem_mem hi'
    have hle:=hs _ hm
    have hc2:=List.getElem?_eq_getElem (l:=els.getD (t / size) []) (i:=t % size) (by rw[hle];exact hj)
    have hvr:=hvv (t / size) _ (t % size) _ (by rw[List.getD,List.getElem?_eq_getElem hi',Option.getD_some]) hc2
    have hu2:=flatM_get els (t / size) (t % size) hs hi' hj
    rw[e,hu]at hu2
    have:=(a1N _ (hf _ hm) (t % size) _ u hc2 hu2.symm).2.1 W U _ hvr
    rw[show o+t=o+t / size * size+t % size by omega,c1,this]
   ·rintro e W' ⟨v',rfl,hrow,_,hbl⟩
    exact fin W' v' hbl hrow
end
end
end Go.Proofs.YtgdhinnepnlihaaGreatDoor
