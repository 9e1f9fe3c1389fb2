import Derived.Test.YtgdhinnepnlihaaGreatDoorK19
import Derived.Test.YtgdhinnepnlihaaGreatDoorK17
import Derived.Test.YtgdhinnepnlihaaGreatDoorK11
import Derived.Test.YtgdhinnepnlihaaGreatDoorK15
import Derived.Test.YtgdhinnepnlihaaGreatDoorK16
import Derived.Test.YtgdhinnepnlihaaGreatDoorK12
import Derived.Test.YtgdhinnepnlihaaGreatDoorK5
namespace Go.Proofs.YtgdhinnepnlihaaGreatDoor
set_option linter.all false
set_option maxHeartbeats 9000000
section
open Go.RowKit
set_option maxRecDepth 100000
def ixs(l:List Int):List (List AV):=l.map fun x=>[.int .i64 x]
theorem a0f(l:List Int):(ixs l).length=l.length:=by simp[ixs]
theorem a0e(l:List Int)(i:Nat)(h:i<l.length):(ixs l).getD i []=[.int .i64 (l.getD i 0)]:=by simp[ixs,h]
theorem b9K(n:Nat):Int.tdiv (n:Int) 4=((n / 4:Nat):Int):=rfl
def Asc(l:List Int):Prop:=∀ i j,i≤j→j<l.length→l.getD i 0≤l.getD j 0
theorem sxSrt{A B:Prop}(h:B)(e:A=B:=by (simp (disch:=omega) only[*, ↓Ed,Eu, ↓reduceIte,reduceCtorEq,Nat.reduceAdd,Nat.reduceEqDiff,Nat.reduceLT,Nat.reduceLeDiff,Int.reduceToNat,Int.reduceEq,Int.reduceLT,Int.reduceLE,w64,List.length_append,List.length_map,Int.reduceAdd,a0f,a0e,b9K,Int.mul_one,Int.zero_add,Int.sub_zero];first|done|rfl)):A:=e▸h
theorem b2m(x:Int):CP Tryz.prog 283 [.int .i64 x] (.bool false):=by
 refine a5H _ _ (by simp) ?_
 simp only[a3v];refine sxSrt ?_
 repeat' ((first|exact tt|refine na fun b=>?_|refine nb fun b hb=>?_|refine iq ?_|(refine jq ?_ ?_<;>intro h h')|refine Two_intro ?_ ?_|exact wZ|fail)<;>try refine sxSrt ?_)
theorem b5q(x y:Int):CP Tryz.prog 237 [.int .i64 x,.int .i64 y] (.bool (decide (x<y))):=by
 have h1:=b2m x
 have h2:=b2m y
 refine a6E _ _ (by simp) ?_
 simp only[a4a];refine sxSrt ?_
 repeat' ((first|exact tt|refine CallO_pure (h1) ?_|refine CallO_pure (h2) ?_|refine na fun b=>?_|refine nb fun b hb=>?_|refine iq ?_|(refine jq ?_ ?_<;>intro h h')|refine Two_intro ?_ ?_|exact wZ|fail)<;>try refine sxSrt ?_)
theorem h_asc{l:List Int}(ha:Asc l){x y:Int}(h0:0≤x)(hxy:x≤y)(hy:y<l.length):CP Tryz.prog 237 [.int .i64 (l.getD y.toNat 0),.int .i64 (l.getD x.toNat 0)] (.bool false):=by
 have:=b5q (l.getD y.toNat 0) (l.getD x.toNat 0)
 rwa [decide_eq_false (by have:=ha x.toNat y.toNat (by omega) (by omega);omega)]at this
theorem b0T(b:Nat)(l:List Int)(x y:Int)(h0:0≤x)(hxy:x≤y)(hy:y<l.length)(ha:Asc l):
  CT Tryz.prog 307 [.sl none 1 (ixs l),.int .i64 x,.int .i64 y,.ptr b 0] (lk [(b,[.int .i64 0])]) (fun r o=>r=.tup [.int .i64 x,.int .i64 y]∧o=lk [(b,[.int .i64 0])]):=by
 have hL:=h_asc ha h0 hxy hy
 have e1:x.toNat<l.length:=by omega
 have e2:y.toNat<l.length:=by omega
 refine a2l _ _ _ (by simp) ?_
 simp only[a1s];refine sxSrt ?_
 repeat' ((first|exact tt|refine CallW_intro (hL) ?_|refine na fun b=>?_|refine nb fun b hb=>?_|refine iq ?_|(refine jq ?_ ?_<;>intro h h')|refine Two_intro ?_ ?_|exact wZ|fail)<;>try refine sxSrt ?_)
 all_goals exact ro_mk (by simp[LeL,lk,r_two,rl_cons,rl_nil,arR,al_int]) (fun _ cs h=>⟨cs,h⟩)
theorem b0S(b:Nat)(l:List Int)(x y z:Int)(h0:0≤x)(hxy:x≤y)(hyz:y≤z)(hz:z<l.length)(ha:Asc l):
  CT Tryz.prog 282 [.sl none 1 (ixs l),.int .i64 x,.int .i64 y,.int .i64 z,.ptr b 0] (lk [(b,[.int .i64 0])]) (fun r o=>r=.int .i64 y∧o=lk [(b,[.int .i64 0])]):=by
 have h1:=b0T b l x y h0 hxy (by omega) ha
 have h2:=b0T b l y z (by omega) hyz hz ha
 refine a2k _ _ _ (by simp) ?_
 simp only[a1r];refine sxSrt ?_
 repeat' ((first|exact tt|refine c1 (h1) ?_|refine c1 (h2) ?_|refine na fun b=>?_|refine nb fun b hb=>?_|refine iq ?_|(refine jq ?_ ?_<;>intro h h')|refine Two_intro ?_ ?_|exact wZ|fail)<;>try refine sxSrt ?_)
 all_goals exact ro_mk (by simp[LeL,lk,a0Q,arR]) (fun _ cs h=>⟨cs,h⟩)
theorem a8F(b:Nat)(l:List Int)(y:Int)(h0:1≤y)(hz:y+1<l.length)(hb:y≤1000000)(ha:Asc l):
  CT Tryz.prog 281 [.sl none 1 (ixs l),.int .i64 y,.ptr b 0] (lk [(b,[.int .i64 0])]) (fun r o=>r=.int .i64 y∧o=lk [(b,[.int .i64 0])]):=by
 have h1:=b0S b l (y - 1) y (y+1) (by omega) (by omega) (by omega) hz ha
 refine a1y _ _ _ (by simp) ?_
 simp only[a0J];refine sxSrt ?_
 repeat' ((first|exact tt|refine c1 (h1) ?_|refine na fun b=>?_|refine nb fun b hb=>?_|refine iq ?_|(refine jq ?_ ?_<;>intro h h')|refine Two_intro ?_ ?_|exact wZ|fail)<;>try refine sxSrt ?_)
 all_goals exact ro_mk (by simp[LeL,lk,a0Q,arR]) (fun _ cs h=>⟨cs,h⟩)
theorem b3v(l:List Int)(h13:12<l.length)(hb:l.length≤1000000)(ha:Asc l):
  CP Tryz.prog 234 [.sl none 1 (ixs l),.int .i64 0,.int .i64 (l.length:Int)] (.tup [.int .i64 (((l.length / 4:Nat):Int) * 2),.int .i64 1]):=by
 have m1:=fun b=>a8F b l ((l.length / 4:Nat):Int) (by omega) (by omega) (by omega) ha
 have m2:=fun b=>a8F b l (((l.length / 4:Nat):Int) * 2) (by omega) (by omega) (by omega) ha
 have m3:=fun b=>a8F b l (((l.length / 4:Nat):Int) * 3) (by omega) (by omega) (by omega) ha
 have m4:=fun b=>b0S b l ((l.length / 4:Nat):Int) (((l.length / 4:Nat):Int) * 2) (((l.length / 4:Nat):Int) * 3) (by omega) (by omega) (by omega) (by omega) ha
 have f1:a0a (decide ((8:Int)≤l.length)=true):=fo
 refine a1J _ _ (by simp) ?_
 by_cases h5:50≤l.length
 ·have f2:a0a (decide ((50:Int)≤l.length)=true):=fo
  simp only[a0E];refine sxSrt ?_
  repeat' ((first|exact tt|refine c1 ((m1 _)) ?_|refine c1 ((m2 _)) ?_|refine c1 ((m3 _)) ?_|refine c1 ((m4 _)) ?_|refine na fun b=>?_|refine nb fun b hb=>?_|refine iq ?_|(refine jq ?_ ?_<;>intro h h')|refine Two_intro ?_ ?_|exact wZ|fail)<;>try refine sxSrt ?_)
 ·have f2:a0a (decide ((50:Int)≤l.length)=false):=fo
  simp only[a0E];refine sxSrt ?_
  repeat' ((first|exact tt|refine c1 ((m4 _)) ?_|refine na fun b=>?_|refine nb fun b hb=>?_|refine iq ?_|(refine jq ?_ ?_<;>intro h h')|refine Two_intro ?_ ?_|exact wZ|fail)<;>try refine sxSrt ?_)
theorem b2p(l:List Int)(h13:12<l.length)(hb:l.length≤1000000)(ha:Asc l):
  CP Tryz.prog 236 [.sl none 1 (ixs l),.int .i64 0,.int .i64 (l.length:Int)] (.bool true):=by
 refine a1b _ _ (by simp) ?_
 simp only[a0F];refine sxSrt ?_
 repeat' ((first|exact tt|refine na fun b=>?_|refine nb fun b hb=>?_|refine iq ?_|(refine jq ?_ ?_<;>intro h h')|refine Two_intro ?_ ?_|exact wZ|fail)<;>try refine sxSrt ?_)
 refine wpx_loop (fun _:Unit=>⟨lk [(0,.sl none 1 (ixs l)),(1,.int .i64 0),(2,.int .i64 (l.length:Int)),(7,.int .i64 1),(8,.int .i64 0)],lk []⟩) (fun _=>True) (fun _=>0) () trivial (Le_lit (by simp[LeL,lk])) ?_
 rintro ⟨⟩ -
 refine sxSrt ?_
 repeat' ((first|exact tt|refine na fun b=>?_|refine nb fun b hb=>?_|refine iq ?_|(refine jq ?_ ?_<;>intro h h')|refine Two_intro ?_ ?_|exact wZ|fail)<;>try refine sxSrt ?_)
 refine wpx_loop (fun k:Nat=>⟨lk [(0,.sl none 1 (ixs l)),(1,.int .i64 0),(2,.int .i64 (l.length:Int)),(7,.int .i64 (k:Int)),(8,.int .i64 0)],lk []⟩) (fun k=>1≤k∧k≤l.length) (fun k=>l.length - k) 1 (by omega) (Le_lit (by simp[LeL,lk])) ?_
 rintro k ⟨k1,k2⟩
 by_cases hk:k<l.length
 ·have f1:a0a (decide ((k:Int)<l.length)=true):=fo
  have hL:=h_asc ha (x:=(k:Int) - 1) (y:=(k:Int)) (by omega) (by omega) (by omega)
  have e1:((k:Int) - 1).toNat<l.length:=by omega
  refine sxSrt ?_
  repeat' ((first|exact tt|refine CallW_intro (hL) ?_|refine na fun b=>?_|refine nb fun b hb=>?_|refine iq ?_|(refine jq ?_ ?_<;>intro h h')|refine Two_intro ?_ ?_|exact wZ|fail)<;>try refine sxSrt ?_)
  all_goals exact Round_lit (k+1) ⟨Le_lit (by simp[LeL,lk]),by omega,by omega⟩
 ·obtain rfl:k=l.length:=by omega
  have f1:a0a (decide ((l.length:Int)<l.length)=false):=fo
  refine sxSrt ?_
  repeat' ((first|exact tt|refine na fun b=>?_|refine nb fun b hb=>?_|refine iq ?_|(refine jq ?_ ?_<;>intro h h')|refine Two_intro ?_ ?_|exact wZ|fail)<;>try refine sxSrt ?_)
theorem b3x(l:List Int)(h12:l.length≤12)(ha:Asc l):
  CP Tryz.prog 231 [.sl none 1 (ixs l),.int .i64 0,.int .i64 (l.length:Int)] (.tup []):=by
 refine a1G _ _ (by simp) ?_
 simp only[a0L];refine sxSrt ?_
 repeat' ((first|exact tt|refine na fun b=>?_|refine nb fun b hb=>?_|refine iq ?_|(refine jq ?_ ?_<;>intro h h')|refine Two_intro ?_ ?_|exact wZ|fail)<;>try refine sxSrt ?_)
 refine wpx_loop (fun k:Nat=>⟨lk [(0,.sl none 1 (ixs l)),(1,.int .i64 0),(2,.int .i64 (l.length:Int)),(6,.int .i64 (k:Int))],lk []⟩) (fun k=>1≤k∧k≤l.length+1) (fun k=>l.length+1 - k) 1 (by omega) (Le_lit (by simp[LeL,lk])) ?_
 rintro k ⟨k1,k2⟩
 by_cases hk:k<l.length
 ·have f1:a0a (decide ((k:Int)<l.length)=true):=fo
  have f2:a0a (decide ((0:Int)<k)=true):=fo
  have hL:=h_asc ha (x:=(k:Int) - 1) (y:=(k:Int)) (by omega) (by omega) (by omega)
  have e1:((k:Int) - 1).toNat<l.length:=by omega
  refine sxSrt ?_
  repeat' ((first|exact tt|refine na fun b=>?_|refine nb fun b hb=>?_|refine iq ?_|(refine jq ?_ ?_<;>intro h h')|refine Two_intro ?_ ?_|exact wZ|fail)<;>try refine sxSrt ?_)
  refine wpx_loop (fun _:Unit=>⟨lk [(0,.sl none 1 (ixs l)),(1,.int .i64 0),(2,.int .i64 (l.length:Int)),(6,.int .i64 (k:Int)),(7,.int .i64 (k:Int))],lk []⟩) (fun _=>True) (fun _=>0) () trivial (Le_lit (by simp[LeL,lk])) ?_
  rintro ⟨⟩ -
  refine sxSrt ?_
  repeat' ((first|exact tt|refine CallW_intro (hL) ?_|refine na fun b=>?_|refine nb fun b hb=>?_|refine iq ?_|(refine jq ?_ ?_<;>intro h h')|refine Two_intro ?_ ?_|exact wZ|fail)<;>try refine sxSrt ?_)
  all_goals exact Round_lit (k+1) ⟨Le_lit (by simp[LeL,lk]),by omega,by omega⟩
 ·have f1:a0a (decide ((k:Int)<l.length)=false):=fo
  refine sxSrt ?_
  repeat' ((first|exact tt|refine na fun b=>?_|refine nb fun b hb=>?_|refine iq ?_|(refine jq ?_ ?_<;>intro h h')|refine Two_intro ?_ ?_|exact wZ|fail)<;>try refine sxSrt ?_)
theorem b8Y(l:List Int)(hb:l.length≤1000000)(ha:Asc l)(lim:Int)(h0:12<l.length→0<lim):
  CP Tryz.prog 187 [.sl none 1 (ixs l),.int .i64 0,.int .i64 (l.length:Int),.int .i64 lim] (.tup []):=by
 refine a2j _ _ (by simp) ?_
 simp only[a1j];refine sxSrt ?_
 repeat' ((first|exact tt|refine na fun b=>?_|refine nb fun b hb=>?_|refine iq ?_|(refine jq ?_ ?_<;>intro h h')|refine Two_intro ?_ ?_|exact wZ|fail)<;>try refine sxSrt ?_)
 refine wpx_loop (fun _:Unit=>⟨lk [(0,.sl none 1 (ixs l)),(1,.int .i64 0),(2,.int .i64 (l.length:Int)),(3,.int .i64 lim),(8,.bool true),(9,.bool true)],lk []⟩) (fun _=>True) (fun _=>0) () trivial (Le_lit (by simp[LeL,lk])) ?_
 rintro ⟨⟩ -
 by_cases h12:l.length≤12
 ·have hI:=b3x l h12 ha
  have f1:a0a (decide ((l.length:Int)≤12)=true):=fo
  clear h0
  refine sxSrt ?_
  repeat' ((first|exact tt|refine CallO_pure (hI) ?_|refine na fun b=>?_|refine nb fun b hb=>?_|refine iq ?_|(refine jq ?_ ?_<;>intro h h')|refine Two_intro ?_ ?_|exact wZ|fail)<;>try refine sxSrt ?_)
 ·have hC:=b3v l (by omega) hb ha
  have hP:=b2p l (by omega) hb ha
  have f1:a0a (decide ((l.length:Int)≤12)=false):=fo
  have f2:a0a (decide (lim=0)=false):=by simp only[a0a,Hn];have:=h0 (by omega);omega
  clear h0
  refine sxSrt ?_
  repeat' ((first|exact tt|refine CallO_pure (hC) ?_|refine CallO_pure (hP) ?_|refine na fun b=>?_|refine nb fun b hb=>?_|refine iq ?_|(refine jq ?_ ?_<;>intro h h')|refine Two_intro ?_ ?_|exact wZ|fail)<;>try refine sxSrt ?_)
theorem b3u(n:Nat)(h:n≤1000000):CP Tryz.prog 176 [.int .u64 (n:Int)] (.int .i64 (Lib.bitLen n:Nat)):=
 CP_lib (vs:=[.int .u64 (n:Int)]) (v:=.int .i64 (Lib.bitLen n:Nat)) rfl (by simp) rfl fun W=>by
  have:=Tryz.bits_Len (n:Int) W (by omega) (by omega)
  refine this.mono ?_
  rintro e w' ⟨rfl,rfl⟩
  exact ⟨by simp,RowKit.Below.refl _ _⟩
theorem b5u(l:List Int)(hb:l.length≤1000000)(ha:Asc l):CP Tryz.prog 128 [.sl none 1 (ixs l)] (.tup []):=by
 have hL:=b3u l.length hb
 have hP:=b8Y l hb ha (Lib.bitLen l.length:Nat) (fun h=>by
  have h2:=Lib.bitLen_half l.length (by omega) (by omega)
  omega)
 have hw:IntKind.wrap .u64 (l.length:Int)=l.length:=by show (l.length:Int) % 18446744073709551616=_;omega
 refine a3s _ _ (by simp) ?_
 simp only[a1U];refine sxSrt ?_
 repeat' ((first|exact tt|refine CallO_pure (hL) ?_|refine CallO_pure (hP) ?_|refine na fun b=>?_|refine nb fun b hb=>?_|refine iq ?_|(refine jq ?_ ?_<;>intro h h')|refine Two_intro ?_ ?_|exact wZ|fail)<;>try refine sxSrt ?_)
end
section
open Go.RowKit
set_option maxRecDepth 100000
structure GenC where
 ap:List UInt8
 ac:Int
 bp:List UInt8
 bc:Int
 o:Bool
 n:Int
 deriving DecidableEq,Inhabited
abbrev GenC.cs(g:GenC):List AV:=[.str g.ap,.int .i64 g.ac,.str g.bp,.int .i64 g.bc,.bool g.o,.int .i64 g.n]
theorem b3p(k:Nat):(List.replicate k (AV.int .i64 1)++[AV.int .i64 0]).set k (.int .i64 1)=List.replicate (k+1) (.int .i64 1):=by
 rw[snoc_set _ _ _ _ (by simp),List.replicate_succ']
theorem b3o(k:Nat):(List.replicate k (AV.int .i64 1)++[AV.int .i64 0]).getD k .undef=AV.int .i64 0:=snoc_get _ _ _ _ (by simp)
theorem b2v(k:Nat):List.range k++[k]=List.range (k+1):=List.range_succ.symm
end
section
open Go.RowKit
set_option maxRecDepth 100000
theorem sxLfa{A B:Prop}(h:B)(e:A=B:=by (simp (disch:=omega) only[*, ↓Ed,Eu, ↓reduceIte,reduceCtorEq,Nat.reduceAdd,Nat.reduceEqDiff,Nat.reduceLT,Nat.reduceLeDiff,Int.reduceToNat,Int.reduceEq,Int.reduceLT,Int.reduceLE,w64,List.length_append,List.length_map,Nat.mul_one,beq_self_eq_true,PktC.cs,EvC.cs,EntC.cs,KeyC.cs,a0i,a9L,b3p,b3o,Int.reduceAdd];first|done|rfl)):A:=e▸h
theorem b7E:CT Tryz.prog 68 [] (lk []) (b8U [mpK []] [mpC []]):=by
 refine a9l _ _ _ (by simp) ?_
 simp only[a7r];refine sxLfa ?_
 repeat' ((first|exact tt|refine na fun b=>?_|refine nb fun b hb=>?_|refine iq ?_|(refine jq ?_ ?_<;>intro h h')|refine Two_intro ?_ ?_|exact wZ|fail)<;>try refine sxLfa ?_)
 rename_i M N HN
 exact ro_new3 b M N (by simp[LeL,lk,hb,HN,a0Q,arR,tk,tv]) (by simp[hb,Hn];exact HN.2)
theorem a9s(b:Nat)(k:Int):CP Tryz.prog 136 [.ptr b 0,.int .i64 k] (.ptr b (a5F k)):=by
 refine a4P _ _ (by simp) ?_
 have h:(a0a (decide (k=1)=true)∧a5F k=9)∨(a0a (decide (k=1)=false)∧a0a (decide (k=2)=true)∧a5F k=10)∨(a0a (decide (k=1)=false)∧a0a (decide (k=2)=false)∧a0a (decide (k=3)=true)∧a5F k=11)∨
   (a0a (decide (k=1)=false)∧a0a (decide (k=2)=false)∧a0a (decide (k=3)=false)∧a0a (decide (k=4)=true)∧a5F k=12)∨(a0a (decide (k=1)=false)∧a0a (decide (k=2)=false)∧a0a (decide (k=3)=false)∧a0a (decide (k=4)=false)∧a5F k=13):=by
  unfold a5F
  simp only[a0a,decide_eq_true_eq,decide_eq_false_iff_not]
  by_cases h1:k=1
  ·exact .inl ⟨h1,if_pos h1⟩
  by_cases h2:k=2
  ·exact .inr (.inl ⟨h1,h2,by rw[if_neg h1,if_pos h2]⟩)
  by_cases h3:k=3
  ·exact .inr (.inr (.inl ⟨h1,h2,h3,by rw[if_neg h1,if_neg h2,if_pos h3]⟩))
  by_cases h4:k=4
  ·exact .inr (.inr (.inr (.inl ⟨h1,h2,h3,h4,by rw[if_neg h1,if_neg h2,if_neg h3,if_pos h4]⟩)))
  ·exact .inr (.inr (.inr (.inr ⟨h1,h2,h3,h4,by rw[if_neg h1,if_neg h2,if_neg h3,if_neg h4]⟩)))
 rcases h with ⟨f1,h⟩ | ⟨f1,f2,h⟩ | ⟨f1,f2,f3,h⟩ | ⟨f1,f2,f3,f4,h⟩ | ⟨f1,f2,f3,f4,h⟩
 all_goals rw[h]
 all_goals clear h
 all_goals (simp only[a2N];refine sxLfa ?_;try exact tt)
 all_goals repeat' ((first|exact tt|refine na fun b=>?_|refine nb fun b hb=>?_|refine iq ?_|(refine jq ?_ ?_<;>intro h h')|refine Two_intro ?_ ?_|exact wZ|fail)<;>try refine sxLfa ?_)
theorem a9t(k:Int):CP Tryz.prog 135 [.int .i64 k] (.bool (b1j k)):=by
 refine a9R _ _ (by simp) ?_
 unfold b1j
 by_cases h:k=1∨k=4∨k=5
 ·rw[decide_eq_true h]
  have F:a0a (k=1∨k=4∨k=5):=h
  clear h
  simp only[a5a];refine sxLfa ?_
  repeat' ((first|exact tt|refine na fun b=>?_|refine nb fun b hb=>?_|refine iq ?_|(refine jq ?_ ?_<;>intro h h')|refine Two_intro ?_ ?_|exact wZ|fail)<;>try refine sxLfa ?_)
  all_goals (simp only[a0a,Hn]at *;omega)
 ·rw[decide_eq_false h]
  have F:a0a (¬ (k=1∨k=4∨k=5)):=h
  clear h
  simp only[a5a];refine sxLfa ?_
  repeat' ((first|exact tt|refine na fun b=>?_|refine nb fun b hb=>?_|refine iq ?_|(refine jq ?_ ?_<;>intro h h')|refine Two_intro ?_ ?_|exact wZ|fail)<;>try refine sxLfa ?_)
  all_goals (simp only[a0a,Hn]at *;omega)
theorem en0:(default:EntC)=⟨⟨[],0,[],0,0,[],0,0⟩,[],false,false,false,false,false⟩:=rfl
theorem b7D(c m n:Nat)(hh:(¬ c=m∧¬ m=c)∧(¬ c=n∧¬ n=c)∧¬ m=n∧¬ n=m)(t:Tb)(k:KeyC):CT Tryz.prog 23 [.ptr c 0,.agg k.cs] (lk (b1q c m n t)) (fun r o=>r=.tup [.agg ((a2c t.K k).getD default).cs,.bool (a2c t.K k).isSome]∧o=lk (b1q c m n t)):=by
 refine a4R _ _ _ (by simp) ?_
 cases hs:a2c t.K k with
 | none=>
  have hf:=lookK_none hs
  clear hs
  simp only[a1Y];refine sxLfa ?_
  repeat' ((first|exact tt|refine na fun b=>?_|refine nb fun b hb=>?_|refine iq ?_|(refine jq ?_ ?_<;>intro h h')|refine Two_intro ?_ ?_|exact wZ|fail)<;>try refine sxLfa ?_)
  rename_i B1 H1 B2 H2
  exact ro_mk (by simp[LeL,lk,hh,hb,H1,H2,r_two,rl_cons,rl_nil,arR,view,l_all,al_agg,al_bool,en0]) dom3
 | some x=>
  obtain ⟨i,hi,hf,hg,_⟩:=lookK_some hs
  clear hs
  simp only[a1Y];refine sxLfa ?_
  repeat' ((first|exact tt|refine na fun b=>?_|refine nb fun b hb=>?_|refine iq ?_|(refine jq ?_ ?_<;>intro h h')|refine Two_intro ?_ ?_|exact wZ|fail)<;>try refine sxLfa ?_)
  rename_i B1 H1 B2 H2
  exact ro_mk (by simp[LeL,lk,hh,hb,H1,H2,r_two,rl_cons,rl_nil,arR,view,l_all,al_agg,al_bool]) dom3
set_option maxHeartbeats 4000000 in
theorem b7F(c m n:Nat)(hh:(¬ c=m∧¬ m=c)∧(¬ c=n∧¬ n=c)∧¬ m=n∧¬ n=m)(t:Tb)(e:List UInt8)(ec:Int):CT Tryz.prog 134 [.ptr c 0,.agg [.str e,.int .i64 ec]] (lk (b1q c m n t))
  (fun r o=>r=.int .i64 (if ((e,ec):a4Z)∈t.C then 8 else 0)∧o=lk (b1q c m n (if ((e,ec):a4Z)∈t.C then t else ⟨t.K,t.C++[(e,ec)]⟩))):=by
 refine a4v _ _ _ (by simp) ?_
 by_cases hs:((e,ec):a4Z)∈t.C
 ·obtain ⟨i,hi,hf,hg⟩:=lookC_in hs
  rw[if_pos hs,if_pos hs]
  simp only[b0n]at hf
  clear hs
  simp only[a1M];refine sxLfa ?_
  repeat' ((first|exact tt|refine na fun b=>?_|refine nb fun b hb=>?_|refine iq ?_|(refine jq ?_ ?_<;>intro h h')|refine Two_intro ?_ ?_|exact wZ|fail)<;>try refine sxLfa ?_)
  all_goals exact ro_mk (by simp[LeL,lk,hh,a0Q,arR]) dom3
 ·have hf:=lookC_no hs
  have hf2:=findM_snoc [.s,.i] true b0n a9J ((e,ec):a4Z) t.C hs
  rw[if_neg hs,if_neg hs]
  simp only[b0n]at hf hf2
  clear hs
  simp only[a1M];refine sxLfa ?_
  repeat' ((first|exact tt|refine na fun b=>?_|refine nb fun b hb=>?_|refine iq ?_|(refine jq ?_ ?_<;>intro h h')|refine Two_intro ?_ ?_|exact wZ|fail)<;>try refine sxLfa ?_)
  all_goals exact ro_mk (by simp[LeL,lk,hh,a0Q,arR,b2v,b0n]) dom3
end
section
open Go.RowKit
set_option maxRecDepth 100000
theorem k5(k:Int):(k=1∧a0a (decide (k=1)=true))∨(k=2∧a0a (decide (k=1)=false)∧a0a (decide (k=2)=true))∨(k=3∧a0a (decide (k=1)=false)∧a0a (decide (k=2)=false)∧a0a (decide (k=3)=true))∨
  (k=4∧a0a (decide (k=1)=false)∧a0a (decide (k=2)=false)∧a0a (decide (k=3)=false)∧a0a (decide (k=4)=true))∨((k≠1∧k≠2∧k≠3∧k≠4)∧a0a (decide (k=1)=false)∧a0a (decide (k=2)=false)∧a0a (decide (k=3)=false)∧a0a (decide (k=4)=false)):=by
 simp only[a0a,decide_eq_true_eq,decide_eq_false_iff_not]
 omega
end
section
open Go.RowKit
structure RowT {α:Type} (f:α→List AV) (sz:Nat):Prop where
 len:∀ x,(f x).length=sz
 no:∀ x, ∀ c∈f x,(∀ t k l,c ≠ .sl (some t) k l)∧∀ t,c ≠ .nilT t
section
variable {α:Type} {f:α→List AV} {sz:Nat} (R:RowT f sz)
include R
theorem RowT.all(l:List α):∀ e∈l.map f,e.length=sz:=fun e he=>by
 obtain ⟨x,_,rfl⟩:=List.mem_map.1 he;exact R.len x
theorem RowT.noOwn(l:List α):noOwn (l.map f):=fun e he=>by
 obtain ⟨x,_,rfl⟩:=List.mem_map.1 he;exact R.no x
theorem RowT.len_hc(cap:Nat)(l:List α):(hc sz cap (l.map f)).length=(max cap l.length) * sz:=by rw[hc_len (R.all l),List.length_map]
theorem RowT.drop_take(cap:Nat)(l:List α)(i:Nat)(d:α)(hi:i<l.length):((hc sz cap (l.map f)).drop (i * sz)).take sz=f (l.getD i d):=by
 apply List.ext_getElem?
 intro j
 have he:(l.map f)[i]?=some (f (l.getD i d)):=by simp[List.getD,hi]
 by_cases hj:j<sz
 ·rw[List.getElem?_take_of_lt hj,List.getElem?_drop,hc_get (R.all l) he hj]
 ·rw[List.getElem?_take_eq_none (by omega),List.getElem?_eq_none (by rw[R.len];omega)]
theorem RowT.ld(cap:Nat)(l:List α)(i:Nat)(d:α)(hi:i<l.length)(K:AV→Prop):RK (ldR (some sz) ((hc sz cap (l.map f)).drop (i * sz))) K=K (.agg (f (l.getD i d))):=by
 have hb:sz≤((hc sz cap (l.map f)).drop (i * sz)).length:=by
  rw[List.length_drop,R.len_hc]
  have:=Nat.mul_le_mul_right sz (show i+1≤max cap l.length by omega)
  rw[Nat.add_mul,Nat.one_mul]at this;omega
 have e:ldR (some sz) ((hc sz cap (l.map f)).drop (i * sz))=fun r=>sz≤((hc sz cap (l.map f)).drop (i * sz)).length∧r=.agg (((hc sz cap (l.map f)).drop (i * sz)).take sz):=by
  funext r;generalize (hc sz cap (l.map f)).drop (i * sz)=X;cases X<;>rfl
 rw[e,RK_and,R.drop_take cap l i d hi]
 exact propext ⟨fun h=>h.2,fun h=>⟨hb,h⟩⟩
theorem RowT.sto(cap:Nat)(l:List α)(i:Nat)(y:α)(hi:i<l.length):splice (hc sz cap (l.map f)) (i * sz) (f y)=hc sz cap ((l.set i y).map f):=by
 have hb:i * sz+(f y).length≤(hc sz cap (l.map f)).length:=by
  rw[R.len_hc,R.len]
  have:=Nat.mul_le_mul_right sz (show i+1≤max cap l.length by omega)
  rw[Nat.add_mul,Nat.one_mul]at this;omega
 apply List.ext_getElem?
 intro p
 rw[a0q _ _ _ hb]
 rcases Nat.eq_zero_or_pos sz with h0|hsz
 ·have hfy:(f y).length=0:=by rw[R.len];exact h0
  rw[if_neg (by omega)]
  have h1:(hc sz cap (l.map f))=[]:=List.eq_nil_of_length_eq_zero (by rw[R.len_hc];subst h0;simp)
  have h2:(hc sz cap ((l.set i y).map f))=[]:=List.eq_nil_of_length_eq_zero (by rw[R.len_hc];subst h0;simp)
  rw[h1,h2]
 have hdm:p / sz * sz+p % sz=p:=by rw[Nat.mul_comm];exact Nat.div_add_mod p sz
 have hml:=Nat.mod_lt p hsz
 by_cases hpl:p / sz<l.length
 ·have hpl':p / sz<(l.set i y).length:=by simpa using hpl
  have he:((l.set i y).map f)[p / sz]?=some (f ((l.set i y).getD (p / sz) y)):=by rw[List.getElem?_map,List.getElem?_eq_getElem hpl',List.getD,List.getElem?_eq_getElem hpl'];rfl
  have he2:(l.map f)[p / sz]?=some (f (l.getD (p / sz) y)):=by simp[List.getD,hpl]
  have r1:=hc_get (cap:=cap) (R.all (l.set i y)) he hml
  have r2:=hc_get (cap:=cap) (R.all l) he2 hml
  rw[hdm]at r1 r2
  rw[r1,r2]
  by_cases hpi:p / sz=i
  ·rw[if_pos (by rw[R.len, ← hpi];omega)]
   have:p - i * sz=p % sz:=by rw[← hpi];omega
   rw[this,hpi]
   simp[List.getD,hi]
  ·rw[if_neg]
   ·have:(l.set i y).getD (p / sz) y=l.getD (p / sz) y:=by simp[List.getD,List.getElem?_set,Ne.symm hpi]
    rw[this]
   ·rw[R.len]
    rintro ⟨a1,a2⟩
    apply hpi
    have b1:i≤p / sz:=(Nat.le_div_iff_mul_le hsz).2 a1
    have b2:p / sz<i+1:=(Nat.div_lt_iff_lt_mul hsz).2 (by rw[Nat.add_mul,Nat.one_mul];exact a2)
    omega
 ·have hge:l.length * sz≤p:=(Nat.le_div_iff_mul_le hsz).1 (Nat.not_lt.1 hpl)
  rw[if_neg]
  ·unfold hc
   have l1:(l.map f).flatten.length=l.length * sz:=by rw[flatten_len (R.all l),List.length_map]
   have l2:((l.set i y).map f).flatten.length=l.length * sz:=by rw[flatten_len (R.all _),List.length_map,List.length_set]
   rw[List.getElem?_append_right (by omega),List.getElem?_append_right (by omega),l1,l2]
   simp
  ·rw[R.len]
   have:=Nat.mul_le_mul_right sz (show i+1≤l.length from hi)
   rw[Nat.add_mul,Nat.one_mul]at this
   omega
theorem RowT.src_sl(o:Nat→Option (List AV))(own:Option Nat)(l:List α):b6f o sz (.sl own sz (l.map f)) (l.map f):=⟨rfl,rfl⟩
variable {P:Program} {d:Option Nat} {s:St} {K:St→Prop} {e bytes:Nat} {q:AV}
theorem RowT.hap_nil{m:List α}(hs:b6f s.o sz q (m.map f))(hb:m.length * bytes≤140737488355328∧m.length≤maxLen)(h0:m.length=0→KS (St.put s d (.hnil e sz)) K)
  (h1:0<m.length→a9C s.o (fun g=>∀ cap,m.length≤cap→KS (St.put ⟨s.t,upd s.o g (some (hc sz cap (m.map f)))⟩ d (.hsl g e sz m.length cap)) K)):b6k e sz bytes d s K (.hnil e sz) q:=
 ⟨rfl,m.map f,hs,R.noOwn m,by simpa using hb,fun h=>h0 (by simpa using h),fun h g hg cap hc=>by
  have:=h1 (by simpa using h) g hg cap (by simpa using hc)
  simpa using this⟩
theorem RowT.hap_row{g n cap:Nat}{l m:List α}(hg:s.o g=some (hc sz cap (l.map f)))(hs:b6f s.o sz q (m.map f))(hn:n≤l.length∧l.length≤cap)(hb:(n+m.length) * bytes≤140737488355328∧n+m.length≤maxLen)
  (h1:a9C (upd s.o g none) (fun g'=>∀ cap',n+m.length≤cap'→KS (St.put ⟨s.t,upd (upd s.o g none) g' (some (hc sz cap' ((l.take n++m).map f)))⟩ d (.hsl g' e sz (n+m.length) cap')) K)):b6k e sz bytes d s K (.hsl g e sz n cap) q:=
 ⟨⟨rfl,rfl⟩,m.map f,l.map f,hs,R.noOwn m,hg,R.all l,R.noOwn l,by simpa using hn,by simpa using hb,fun g' hg' cap' hc=>by
  have:=h1 g' hg' cap' (by simpa using hc)
  simpa using this⟩
end
end
section
open Go.RowKit Classical
set_option maxRecDepth 100000
def kys(l:List KeyC):List (List AV):=l.map KeyC.cs
theorem a2w(l:List KeyC):(kys l).length=l.length:=by simp[kys]
theorem a2v(l:List KeyC)(i:Nat)(h:i<l.length):(kys l).getD i []=(l.getD i default).cs:=by simp[kys,h]
def ens(l:List a4Z):List (List AV):=l.map fun e=>[.str e.1,.int .i64 e.2]
end
section
open Go.RowKit
set_option maxRecDepth 100000
theorem fold_no{t:Tb}{e:EvC}(h:a1k e=false):a1f t e=(t,1):=by unfold a1f;rw[if_pos h]
theorem fold_up{t:Tb}{e:EvC}(h:a1k e=true)(hk:e.k=7):a1f t e=(t,0):=by unfold a1f;rw[if_neg (by rw[h];simp),if_pos hk]
theorem fold_cl{t:Tb}{e:EvC}(h:a1k e=true)(hk:e.k=6):a1f t e=(if ((e.e,e.ec):a4Z)∈t.C then t else ⟨t.K,t.C++[(e.e,e.ec)]⟩,if ((e.e,e.ec):a4Z)∈t.C then 8 else 0):=by
 unfold a1f;rw[if_neg (by rw[h];simp),if_neg (by omega),if_pos hk]
 by_cases hc:((e.e,e.ec):a4Z)∈t.C
 ·rw[if_pos hc,if_pos hc,if_pos hc]
 ·rw[if_neg hc,if_neg hc,if_neg hc]
theorem fold_new{t:Tb}{e:EvC}(h:a1k e=true)(hk:1≤e.k∧e.k≤5)(hf:a2c t.K (a5e e)=none):a1f t e=(⟨t.K++[(a5e e,a3O (b4h e.p) e)],t.C⟩,0):=by
 unfold a1f;rw[if_neg (by rw[h];simp),if_neg (by omega),if_neg (by omega),hf]
theorem fold_some{t:Tb}{e:EvC}{x:EntC}(h:a1k e=true)(hk:1≤e.k∧e.k≤5)(hf:a2c t.K (a5e e)=some x):a1f t e=if ¬ x.p=e.p then (t,3) else if marked x e.k then (t,8) else if a4M x e.k then (t,16) else (⟨b1o t.K (a5e e) (a3O x e),t.C⟩,0):=by
 unfold a1f;rw[if_neg (by rw[h];simp),if_neg (by omega),if_neg (by omega),hf]
theorem a6T(l:List (KeyC × EntC))(k:KeyC)(y:EntC):tk (b1o l k y)=tk l:=by
 simp only[tk,b1o,List.map_map]
 congr 1
 funext x
 simp only[Function.comp]
 split<;>simp_all
theorem setE_tv{l:List (KeyC × EntC)}{k:KeyC}{x y:EntC}{i:Nat}(hi:l[i]?=some (k,x))(hn:(l.map (·.1)).Nodup):(tv l).set i (b4i y)=tv (b1o l k y):=by
 apply List.ext_getElem?
 intro j
 rw[List.getElem?_set]
 obtain ⟨hil,hix⟩:=List.getElem?_eq_some_iff.1 hi
 split
 ·rename_i e;subst e
  simp[tv,b1o,hil,hix]
 ·rename_i hij
  simp only[tv,b1o,List.getElem?_map,Option.map_map]
  cases hj:l[j]? with
  | none=>rfl
  | some z=>
   simp only[Option.map_some,Function.comp,Option.some.injEq]
   split
   ·rename_i hz
    exfalso
    obtain ⟨hjl,hjz⟩:=List.getElem?_eq_some_iff.1 hj
    have h1:(l.map (·.1))[i]'(by simpa using hil)=(l.map (·.1))[j]'(by simpa using hjl):=by simp[hix,hjz,hz]
    exact hij ((List.getElem_inj hn).1 h1)
   ·rfl
theorem a4V(l:List (KeyC × EntC))(k:KeyC)(y:EntC):(b1o l k y).length=l.length:=by simp[b1o]
theorem sxLfb{A B:Prop}(h:B)(e:A=B:=by (simp (disch:=omega) only[*, ↓Ed,Eu, ↓reduceIte,reduceCtorEq,Nat.reduceAdd,Nat.reduceEqDiff,Nat.reduceLT,Nat.reduceLeDiff,Int.reduceToNat,Int.reduceEq,Int.reduceLT,Int.reduceLE,w64,List.length_append,List.length_map,Nat.mul_one,beq_self_eq_true,PktC.cs,EvC.cs,EntC.cs,KeyC.cs,a0i,Int.reduceAdd];first|done|rfl)):A:=e▸h
set_option maxHeartbeats 8000000 in
theorem b7C(c m n:Nat)(hh:(¬ c=m∧¬ m=c)∧(¬ c=n∧¬ n=c)∧¬ m=n∧¬ n=m)(t:Tb)(e:EvC)(hN:(t.K.map (·.1)).Nodup)(h1:e.p.s.length≤1000000)(h2:e.p.d.length≤1000000)(h3:e.p.x.length≤1000000)(h4:e.e.length≤1000000)(h5:e.a.length≤1000000):
  CT Tryz.prog 69 [.ptr c 0,.agg e.cs] (lk (b1q c m n t)) (fun r o=>r=.int .i64 (a1f t e).2∧o=lk (b1q c m n (a1f t e).1)):=by
 have hO:=b6O e h1 h2 h3 h4 h5
 have hM:=b0G e h1 h2 h3 h4 h5
 refine a4t _ _ _ (by simp) ?_
 by_cases hm:a1k e=true
 rotate_left
 ·have hm':a1k e=false:=by simpa using hm
  rw[own_no hm']at hO
  rw[fold_no hm']
  rw[hm']at hM
  clear hm hm' hN
  simp only[a0c];refine sxLfb ?_
  repeat' ((first|exact tt|refine CallO_pure (hM) ?_|refine CallO_pure (hO) ?_|refine na fun b=>?_|refine nb fun b hb=>?_|refine iq ?_|(refine jq ?_ ?_<;>intro h h')|refine Two_intro ?_ ?_|exact wZ|fail)<;>try refine sxLfb ?_)
  all_goals exact ro_mk (by simp[LeL,lk,hh,a0Q,arR]) dom3
 have hr:=may_range hm
 rcases b0v e.k with ⟨k1,k2,k3,k4,k5,k6,k7,k8,k9,k10,k11,k12⟩ | ⟨k1,k2,k3,k4,k5,k6,k7,k8,k9,k10,k11,k12⟩ | ⟨k1,k2,k3,k4,k5,k6,k7,k8,k9,k10,k11,k12⟩ | ⟨k1,k2,k3,k4,k5,k6,k7,k8,k9,k10,k11,k12⟩ | ⟨k1,k2,k3,k4,k5,k6,k7,k8,k9,k10,k11,k12⟩ | ⟨k1,k2,k3,k4,k5,k6,k7,k8,k9,k10,k11,k12⟩ | ⟨k1,k2,k3,k4,k5,k6,k7,k8,k9,k10,k11,k12⟩ | ⟨k1,k2,k3,k4,k5,k6,k7,k8,k9,k10,k11,k12⟩ | ⟨k1,k2,k3,k4,k5,k6,k7,k8,k9,k10,k11,k12⟩
 ·have hk:e.k=1:=k12
  have hkk:1≤e.k∧e.k≤5:=by omega
  have hMk:=fun b=>a9s b e.k
  have hOut:=a9t e.k
  have hSm:=fun a b=>a2z a b
  rw[show b1j e.k=true by rw[hk];rfl]at hOut
  have hmo:∀ b,AV.ptr b (a5F e.k)=.ptr b 9:=fun b=>by rw[hk];rfl
  simp only[hmo]at hMk
  have hokk:(a2y e).2.2.2=true:=by
   first|rw[own_src hm (by omega)]|rw[own_dst hm (by omega)]
  rw[hokk]at hO
  have hmk:∀ x,a3O x e={ x with s:=true }:=fun x=>by simp[a3O,hk]
  have hke:a5e e=⟨(a2y e).1,(a2y e).2.1,true,(a2y e).2.2.1⟩:=by unfold a5e;rw[show b1j e.k=true by rw[hk];rfl]
  cases hf0:a2c t.K (a5e e) with
  | none=>
   have hf:=lookK_none hf0
   rw[fold_new hm hkk hf0,hmk]
   rw[hke]at hf ⊢
   rw[hm]at hM
   have hSe:=a2z e.p e.p
   rw[decide_eq_true rfl]at hSe
   simp only[a8e]at hf
   clear hm hr k12 hN hf0 hke hmk hmo hokk hk hkk hSm
   generalize a2y e=OW at *
   simp only[a0c];refine sxLfb ?_
   repeat' ((first|exact tt|refine CallO_pure (hM) ?_|refine CallO_pure (hO) ?_|refine CallW_intro (hOut) ?_|refine CallO_pure (hMk _) ?_|refine CallO_pure (hSe) ?_|refine na fun b=>?_|refine nb fun b hb=>?_|refine iq ?_|(refine jq ?_ ?_<;>intro h h')|refine Two_intro ?_ ?_|exact wZ|fail)<;>try refine sxLfb ?_)
   all_goals exact ro_mk (by simp[LeL,lk,hh,a0Q,arR,mpK,tk,tv,b4h,List.range_succ]) dom3
  | some x=>
   obtain ⟨i,hi,hf,hg,hix⟩:=lookK_some hf0
   rw[fold_some hm hkk hf0,hmk]
   have hset:=fun y=>setE_tv (y:=y) hix hN
   rw[hke]at hf hset ⊢
   rw[hm]at hM
   have hSe:=a2z x.p e.p
   simp only[a8e]at hf
   have hmx:marked x e.k=x.s:=by simp[marked,hk]
   have hla:a4M x e.k=false:=by simp[a4M,hk]
   rw[hmx,hla]
   clear hm hr k12 hN hf0 hke hmk hmo hokk hk hkk hSm hix hmx hla
   generalize a2y e=OW at *
   by_cases hp:x.p=e.p
   rotate_left
   ·rw[decide_eq_false hp]at hSe
    rw[if_pos hp]
    clear hp hset
    simp only[a0c];refine sxLfb ?_
    repeat' ((first|exact tt|refine CallO_pure (hM) ?_|refine CallO_pure (hO) ?_|refine CallW_intro (hOut) ?_|refine CallO_pure (hMk _) ?_|refine CallO_pure (hSe) ?_|refine na fun b=>?_|refine nb fun b hb=>?_|refine iq ?_|(refine jq ?_ ?_<;>intro h h')|refine Two_intro ?_ ?_|exact wZ|fail)<;>try refine sxLfb ?_)
    all_goals exact ro_mk (by simp[LeL,lk,hh,a0Q,arR]) dom3
   ·rw[decide_eq_true hp]at hSe
    rw[if_neg (fun h=>h hp)]
    clear hp
    cases hb1:x.s with
    | true=>
     clear hset
     simp only[a0c];refine sxLfb ?_
     repeat' ((first|exact tt|refine CallO_pure (hM) ?_|refine CallO_pure (hO) ?_|refine CallW_intro (hOut) ?_|refine CallO_pure (hMk _) ?_|refine CallO_pure (hSe) ?_|refine na fun b=>?_|refine nb fun b hb=>?_|refine iq ?_|(refine jq ?_ ?_<;>intro h h')|refine Two_intro ?_ ?_|exact wZ|fail)<;>try refine sxLfb ?_)
     all_goals exact ro_mk (by simp[LeL,lk,hh,a0Q,arR]) dom3
    | false=>
     simp only[a0c,hh,Bool.false_eq_true,if_false, ↓Ed,Eu, ↓reduceIte,reduceCtorEq,Nat.reduceAdd,Nat.reduceEqDiff,Nat.reduceLT,Nat.reduceLeDiff,Int.reduceToNat,Int.reduceEq,Int.reduceLT,Int.reduceLE,w64,List.length_append,List.length_map,Nat.mul_one,beq_self_eq_true,PktC.cs,EvC.cs,EntC.cs,KeyC.cs,a0i,Int.reduceAdd]
     repeat' ((first|exact tt|refine CallO_pure (hM) ?_|refine CallO_pure (hO) ?_|refine CallW_intro (hOut) ?_|refine CallO_pure (hMk _) ?_|refine CallO_pure (hSe) ?_|refine na fun b=>?_|refine nb fun b hb=>?_|refine iq ?_|(refine jq ?_ ?_<;>intro h h')|refine Two_intro ?_ ?_|exact wZ|fail)<;>try refine sxLfb ?_)
     all_goals exact ro_mk (by simp[LeL,lk,hh,a0Q,arR,mpK,a6T,a4V, ← hset,b4i,EntC.cs,hb1]) dom3
 ·have hk:e.k=2:=k12
  have hkk:1≤e.k∧e.k≤5:=by omega
  have hMk:=fun b=>a9s b e.k
  have hOut:=a9t e.k
  have hSm:=fun a b=>a2z a b
  rw[show b1j e.k=false by rw[hk];rfl]at hOut
  have hmo:∀ b,AV.ptr b (a5F e.k)=.ptr b 10:=fun b=>by rw[hk];rfl
  simp only[hmo]at hMk
  have hokk:(a2y e).2.2.2=true:=by
   first|rw[own_src hm (by omega)]|rw[own_dst hm (by omega)]
  rw[hokk]at hO
  have hmk:∀ x,a3O x e={ x with r:=true }:=fun x=>by simp[a3O,hk]
  have hke:a5e e=⟨(a2y e).1,(a2y e).2.1,false,(a2y e).2.2.1⟩:=by unfold a5e;rw[show b1j e.k=false by rw[hk];rfl]
  cases hf0:a2c t.K (a5e e) with
  | none=>
   have hf:=lookK_none hf0
   rw[fold_new hm hkk hf0,hmk]
   rw[hke]at hf ⊢
   rw[hm]at hM
   have hSe:=a2z e.p e.p
   rw[decide_eq_true rfl]at hSe
   simp only[a8e]at hf
   clear hm hr k12 hN hf0 hke hmk hmo hokk hk hkk hSm
   generalize a2y e=OW at *
   simp only[a0c];refine sxLfb ?_
   repeat' ((first|exact tt|refine CallO_pure (hM) ?_|refine CallO_pure (hO) ?_|refine CallW_intro (hOut) ?_|refine CallO_pure (hMk _) ?_|refine CallO_pure (hSe) ?_|refine na fun b=>?_|refine nb fun b hb=>?_|refine iq ?_|(refine jq ?_ ?_<;>intro h h')|refine Two_intro ?_ ?_|exact wZ|fail)<;>try refine sxLfb ?_)
   all_goals exact ro_mk (by simp[LeL,lk,hh,a0Q,arR,mpK,tk,tv,b4h,List.range_succ]) dom3
  | some x=>
   obtain ⟨i,hi,hf,hg,hix⟩:=lookK_some hf0
   rw[fold_some hm hkk hf0,hmk]
   have hset:=fun y=>setE_tv (y:=y) hix hN
   rw[hke]at hf hset ⊢
   rw[hm]at hM
   have hSe:=a2z x.p e.p
   simp only[a8e]at hf
   have hmx:marked x e.k=x.r:=by simp[marked,hk]
   have hla:a4M x e.k=false:=by simp[a4M,hk]
   rw[hmx,hla]
   clear hm hr k12 hN hf0 hke hmk hmo hokk hk hkk hSm hix hmx hla
   generalize a2y e=OW at *
   by_cases hp:x.p=e.p
   rotate_left
   ·rw[decide_eq_false hp]at hSe
    rw[if_pos hp]
    clear hp hset
    simp only[a0c];refine sxLfb ?_
    repeat' ((first|exact tt|refine CallO_pure (hM) ?_|refine CallO_pure (hO) ?_|refine CallW_intro (hOut) ?_|refine CallO_pure (hMk _) ?_|refine CallO_pure (hSe) ?_|refine na fun b=>?_|refine nb fun b hb=>?_|refine iq ?_|(refine jq ?_ ?_<;>intro h h')|refine Two_intro ?_ ?_|exact wZ|fail)<;>try refine sxLfb ?_)
    all_goals exact ro_mk (by simp[LeL,lk,hh,a0Q,arR]) dom3
   ·rw[decide_eq_true hp]at hSe
    rw[if_neg (fun h=>h hp)]
    clear hp
    cases hb1:x.r with
    | true=>
     clear hset
     simp only[a0c];refine sxLfb ?_
     repeat' ((first|exact tt|refine CallO_pure (hM) ?_|refine CallO_pure (hO) ?_|refine CallW_intro (hOut) ?_|refine CallO_pure (hMk _) ?_|refine CallO_pure (hSe) ?_|refine na fun b=>?_|refine nb fun b hb=>?_|refine iq ?_|(refine jq ?_ ?_<;>intro h h')|refine Two_intro ?_ ?_|exact wZ|fail)<;>try refine sxLfb ?_)
     all_goals exact ro_mk (by simp[LeL,lk,hh,a0Q,arR]) dom3
    | false=>
     simp only[a0c,hh,Bool.false_eq_true,if_false, ↓Ed,Eu, ↓reduceIte,reduceCtorEq,Nat.reduceAdd,Nat.reduceEqDiff,Nat.reduceLT,Nat.reduceLeDiff,Int.reduceToNat,Int.reduceEq,Int.reduceLT,Int.reduceLE,w64,List.length_append,List.length_map,Nat.mul_one,beq_self_eq_true,PktC.cs,EvC.cs,EntC.cs,KeyC.cs,a0i,Int.reduceAdd]
     repeat' ((first|exact tt|refine CallO_pure (hM) ?_|refine CallO_pure (hO) ?_|refine CallW_intro (hOut) ?_|refine CallO_pure (hMk _) ?_|refine CallO_pure (hSe) ?_|refine na fun b=>?_|refine nb fun b hb=>?_|refine iq ?_|(refine jq ?_ ?_<;>intro h h')|refine Two_intro ?_ ?_|exact wZ|fail)<;>try refine sxLfb ?_)
     all_goals exact ro_mk (by simp[LeL,lk,hh,a0Q,arR,mpK,a6T,a4V, ← hset,b4i,EntC.cs,hb1]) dom3
 ·have hk:e.k=4:=k12
  have hkk:1≤e.k∧e.k≤5:=by omega
  have hMk:=fun b=>a9s b e.k
  have hOut:=a9t e.k
  have hSm:=fun a b=>a2z a b
  rw[show b1j e.k=true by rw[hk];rfl]at hOut
  have hmo:∀ b,AV.ptr b (a5F e.k)=.ptr b 12:=fun b=>by rw[hk];rfl
  simp only[hmo]at hMk
  have hokk:(a2y e).2.2.2=true:=by
   first|rw[own_src hm (by omega)]|rw[own_dst hm (by omega)]
  rw[hokk]at hO
  have hmk:∀ x,a3O x e={ x with c:=true }:=fun x=>by simp[a3O,hk]
  have hke:a5e e=⟨(a2y e).1,(a2y e).2.1,true,(a2y e).2.2.1⟩:=by unfold a5e;rw[show b1j e.k=true by rw[hk];rfl]
  cases hf0:a2c t.K (a5e e) with
  | none=>
   have hf:=lookK_none hf0
   rw[fold_new hm hkk hf0,hmk]
   rw[hke]at hf ⊢
   rw[hm]at hM
   have hSe:=a2z e.p e.p
   rw[decide_eq_true rfl]at hSe
   simp only[a8e]at hf
   clear hm hr k12 hN hf0 hke hmk hmo hokk hk hkk hSm
   generalize a2y e=OW at *
   simp only[a0c];refine sxLfb ?_
   repeat' ((first|exact tt|refine CallO_pure (hM) ?_|refine CallO_pure (hO) ?_|refine CallW_intro (hOut) ?_|refine CallO_pure (hMk _) ?_|refine CallO_pure (hSe) ?_|refine na fun b=>?_|refine nb fun b hb=>?_|refine iq ?_|(refine jq ?_ ?_<;>intro h h')|refine Two_intro ?_ ?_|exact wZ|fail)<;>try refine sxLfb ?_)
   all_goals exact ro_mk (by simp[LeL,lk,hh,a0Q,arR,mpK,tk,tv,b4h,List.range_succ]) dom3
  | some x=>
   obtain ⟨i,hi,hf,hg,hix⟩:=lookK_some hf0
   rw[fold_some hm hkk hf0,hmk]
   have hset:=fun y=>setE_tv (y:=y) hix hN
   rw[hke]at hf hset ⊢
   rw[hm]at hM
   have hSe:=a2z x.p e.p
   simp only[a8e]at hf
   have hmx:marked x e.k=x.c:=by simp[marked,hk]
   have hla:a4M x e.k=x.t:=by simp[a4M,hk]
   rw[hmx,hla]
   clear hm hr k12 hN hf0 hke hmk hmo hokk hk hkk hSm hix hmx hla
   generalize a2y e=OW at *
   by_cases hp:x.p=e.p
   rotate_left
   ·rw[decide_eq_false hp]at hSe
    rw[if_pos hp]
    clear hp hset
    simp only[a0c];refine sxLfb ?_
    repeat' ((first|exact tt|refine CallO_pure (hM) ?_|refine CallO_pure (hO) ?_|refine CallW_intro (hOut) ?_|refine CallO_pure (hMk _) ?_|refine CallO_pure (hSe) ?_|refine na fun b=>?_|refine nb fun b hb=>?_|refine iq ?_|(refine jq ?_ ?_<;>intro h h')|refine Two_intro ?_ ?_|exact wZ|fail)<;>try refine sxLfb ?_)
    all_goals exact ro_mk (by simp[LeL,lk,hh,a0Q,arR]) dom3
   ·rw[decide_eq_true hp]at hSe
    rw[if_neg (fun h=>h hp)]
    clear hp
    cases hb1:x.c with
    | true=>
     clear hset
     simp only[a0c];refine sxLfb ?_
     repeat' ((first|exact tt|refine CallO_pure (hM) ?_|refine CallO_pure (hO) ?_|refine CallW_intro (hOut) ?_|refine CallO_pure (hMk _) ?_|refine CallO_pure (hSe) ?_|refine na fun b=>?_|refine nb fun b hb=>?_|refine iq ?_|(refine jq ?_ ?_<;>intro h h')|refine Two_intro ?_ ?_|exact wZ|fail)<;>try refine sxLfb ?_)
     all_goals exact ro_mk (by simp[LeL,lk,hh,a0Q,arR]) dom3
    | false=>
     cases hb2:x.t with
     | true=>
      clear hset
      simp only[a0c,hh,if_true,Bool.false_eq_true,if_false, ↓Ed,Eu, ↓reduceIte,reduceCtorEq,Nat.reduceAdd,Nat.reduceEqDiff,Nat.reduceLT,Nat.reduceLeDiff,Int.reduceToNat,Int.reduceEq,Int.reduceLT,Int.reduceLE,w64,List.length_append,List.length_map,Nat.mul_one,beq_self_eq_true,PktC.cs,EvC.cs,EntC.cs,KeyC.cs,a0i,Int.reduceAdd]
      repeat' ((first|exact tt|refine CallO_pure (hM) ?_|refine CallO_pure (hO) ?_|refine CallW_intro (hOut) ?_|refine CallO_pure (hMk _) ?_|refine CallO_pure (hSe) ?_|refine na fun b=>?_|refine nb fun b hb=>?_|refine iq ?_|(refine jq ?_ ?_<;>intro h h')|refine Two_intro ?_ ?_|exact wZ|fail)<;>try refine sxLfb ?_)
      all_goals exact ro_mk (by simp[LeL,lk,hh,a0Q,arR]) dom3
     | false=>
      simp only[a0c,hh,Bool.false_eq_true,if_false, ↓Ed,Eu, ↓reduceIte,reduceCtorEq,Nat.reduceAdd,Nat.reduceEqDiff,Nat.reduceLT,Nat.reduceLeDiff,Int.reduceToNat,Int.reduceEq,Int.reduceLT,Int.reduceLE,w64,List.length_append,List.length_map,Nat.mul_one,beq_self_eq_true,PktC.cs,EvC.cs,EntC.cs,KeyC.cs,a0i,Int.reduceAdd]
      repeat' ((first|exact tt|refine CallO_pure (hM) ?_|refine CallO_pure (hO) ?_|refine CallW_intro (hOut) ?_|refine CallO_pure (hMk _) ?_|refine CallO_pure (hSe) ?_|refine na fun b=>?_|refine nb fun b hb=>?_|refine iq ?_|(refine jq ?_ ?_<;>intro h h')|refine Two_intro ?_ ?_|exact wZ|fail)<;>try refine sxLfb ?_)
      all_goals exact ro_mk (by simp[LeL,lk,hh,a0Q,arR,mpK,a6T,a4V, ← hset,b4i,EntC.cs,hb1,hb2]) dom3
 ·have hk:e.k=5:=k12
  have hkk:1≤e.k∧e.k≤5:=by omega
  have hMk:=fun b=>a9s b e.k
  have hOut:=a9t e.k
  have hSm:=fun a b=>a2z a b
  rw[show b1j e.k=true by rw[hk];rfl]at hOut
  have hmo:∀ b,AV.ptr b (a5F e.k)=.ptr b 13:=fun b=>by rw[hk];rfl
  simp only[hmo]at hMk
  have hokk:(a2y e).2.2.2=true:=by
   first|rw[own_src hm (by omega)]|rw[own_dst hm (by omega)]
  rw[hokk]at hO
  have hmk:∀ x,a3O x e={ x with t:=true }:=fun x=>by simp[a3O,hk]
  have hke:a5e e=⟨(a2y e).1,(a2y e).2.1,true,(a2y e).2.2.1⟩:=by unfold a5e;rw[show b1j e.k=true by rw[hk];rfl]
  cases hf0:a2c t.K (a5e e) with
  | none=>
   have hf:=lookK_none hf0
   rw[fold_new hm hkk hf0,hmk]
   rw[hke]at hf ⊢
   rw[hm]at hM
   have hSe:=a2z e.p e.p
   rw[decide_eq_true rfl]at hSe
   simp only[a8e]at hf
   clear hm hr k12 hN hf0 hke hmk hmo hokk hk hkk hSm
   generalize a2y e=OW at *
   simp only[a0c];refine sxLfb ?_
   repeat' ((first|exact tt|refine CallO_pure (hM) ?_|refine CallO_pure (hO) ?_|refine CallW_intro (hOut) ?_|refine CallO_pure (hMk _) ?_|refine CallO_pure (hSe) ?_|refine na fun b=>?_|refine nb fun b hb=>?_|refine iq ?_|(refine jq ?_ ?_<;>intro h h')|refine Two_intro ?_ ?_|exact wZ|fail)<;>try refine sxLfb ?_)
   all_goals exact ro_mk (by simp[LeL,lk,hh,a0Q,arR,mpK,tk,tv,b4h,List.range_succ]) dom3
  | some x=>
   obtain ⟨i,hi,hf,hg,hix⟩:=lookK_some hf0
   rw[fold_some hm hkk hf0,hmk]
   have hset:=fun y=>setE_tv (y:=y) hix hN
   rw[hke]at hf hset ⊢
   rw[hm]at hM
   have hSe:=a2z x.p e.p
   simp only[a8e]at hf
   have hmx:marked x e.k=x.t:=by simp[marked,hk]
   have hla:a4M x e.k=x.c:=by simp[a4M,hk]
   rw[hmx,hla]
   clear hm hr k12 hN hf0 hke hmk hmo hokk hk hkk hSm hix hmx hla
   generalize a2y e=OW at *
   by_cases hp:x.p=e.p
   rotate_left
   ·rw[decide_eq_false hp]at hSe
    rw[if_pos hp]
    clear hp hset
    simp only[a0c];refine sxLfb ?_
    repeat' ((first|exact tt|refine CallO_pure (hM) ?_|refine CallO_pure (hO) ?_|refine CallW_intro (hOut) ?_|refine CallO_pure (hMk _) ?_|refine CallO_pure (hSe) ?_|refine na fun b=>?_|refine nb fun b hb=>?_|refine iq ?_|(refine jq ?_ ?_<;>intro h h')|refine Two_intro ?_ ?_|exact wZ|fail)<;>try refine sxLfb ?_)
    all_goals exact ro_mk (by simp[LeL,lk,hh,a0Q,arR]) dom3
   ·rw[decide_eq_true hp]at hSe
    rw[if_neg (fun h=>h hp)]
    clear hp
    cases hb1:x.t with
    | true=>
     clear hset
     simp only[a0c];refine sxLfb ?_
     repeat' ((first|exact tt|refine CallO_pure (hM) ?_|refine CallO_pure (hO) ?_|refine CallW_intro (hOut) ?_|refine CallO_pure (hMk _) ?_|refine CallO_pure (hSe) ?_|refine na fun b=>?_|refine nb fun b hb=>?_|refine iq ?_|(refine jq ?_ ?_<;>intro h h')|refine Two_intro ?_ ?_|exact wZ|fail)<;>try refine sxLfb ?_)
     all_goals exact ro_mk (by simp[LeL,lk,hh,a0Q,arR]) dom3
    | false=>
     cases hb2:x.c with
     | true=>
      clear hset
      simp only[a0c,hh,if_true,Bool.false_eq_true,if_false, ↓Ed,Eu, ↓reduceIte,reduceCtorEq,Nat.reduceAdd,Nat.reduceEqDiff,Nat.reduceLT,Nat.reduceLeDiff,Int.reduceToNat,Int.reduceEq,Int.reduceLT,Int.reduceLE,w64,List.length_append,List.length_map,Nat.mul_one,beq_self_eq_true,PktC.cs,EvC.cs,EntC.cs,KeyC.cs,a0i,Int.reduceAdd]
      repeat' ((first|exact tt|refine CallO_pure (hM) ?_|refine CallO_pure (hO) ?_|refine CallW_intro (hOut) ?_|refine CallO_pure (hMk _) ?_|refine CallO_pure (hSe) ?_|refine na fun b=>?_|refine nb fun b hb=>?_|refine iq ?_|(refine jq ?_ ?_<;>intro h h')|refine Two_intro ?_ ?_|exact wZ|fail)<;>try refine sxLfb ?_)
      all_goals exact ro_mk (by simp[LeL,lk,hh,a0Q,arR]) dom3
     | false=>
      simp only[a0c,hh,Bool.false_eq_true,if_false, ↓Ed,Eu, ↓reduceIte,reduceCtorEq,Nat.reduceAdd,Nat.reduceEqDiff,Nat.reduceLT,Nat.reduceLeDiff,Int.reduceToNat,Int.reduceEq,Int.reduceLT,Int.reduceLE,w64,List.length_append,List.length_map,Nat.mul_one,beq_self_eq_true,PktC.cs,EvC.cs,EntC.cs,KeyC.cs,a0i,Int.reduceAdd]
      repeat' ((first|exact tt|refine CallO_pure (hM) ?_|refine CallO_pure (hO) ?_|refine CallW_intro (hOut) ?_|refine CallO_pure (hMk _) ?_|refine CallO_pure (hSe) ?_|refine na fun b=>?_|refine nb fun b hb=>?_|refine iq ?_|(refine jq ?_ ?_<;>intro h h')|refine Two_intro ?_ ?_|exact wZ|fail)<;>try refine sxLfb ?_)
      all_goals exact ro_mk (by simp[LeL,lk,hh,a0Q,arR,mpK,a6T,a4V, ← hset,b4i,EntC.cs,hb1,hb2]) dom3
 ·have hk:e.k=3:=k12
  have hkk:1≤e.k∧e.k≤5:=by omega
  have hMk:=fun b=>a9s b e.k
  have hOut:=a9t e.k
  have hSm:=fun a b=>a2z a b
  rw[show b1j e.k=false by rw[hk];rfl]at hOut
  have hmo:∀ b,AV.ptr b (a5F e.k)=.ptr b 11:=fun b=>by rw[hk];rfl
  simp only[hmo]at hMk
  have hokk:(a2y e).2.2.2=true:=by
   first|rw[own_src hm (by omega)]|rw[own_dst hm (by omega)]
  rw[hokk]at hO
  have hmk:∀ x,a3O x e={ x with w:=true,a:=e.a }:=fun x=>by simp[a3O,hk]
  have hke:a5e e=⟨(a2y e).1,(a2y e).2.1,false,(a2y e).2.2.1⟩:=by unfold a5e;rw[show b1j e.k=false by rw[hk];rfl]
  cases hf0:a2c t.K (a5e e) with
  | none=>
   have hf:=lookK_none hf0
   rw[fold_new hm hkk hf0,hmk]
   rw[hke]at hf ⊢
   rw[hm]at hM
   have hSe:=a2z e.p e.p
   rw[decide_eq_true rfl]at hSe
   simp only[a8e]at hf
   clear hm hr k12 hN hf0 hke hmk hmo hokk hk hkk hSm
   generalize a2y e=OW at *
   simp only[a0c];refine sxLfb ?_
   repeat' ((first|exact tt|refine CallO_pure (hM) ?_|refine CallO_pure (hO) ?_|refine CallW_intro (hOut) ?_|refine CallO_pure (hMk _) ?_|refine CallO_pure (hSe) ?_|refine na fun b=>?_|refine nb fun b hb=>?_|refine iq ?_|(refine jq ?_ ?_<;>intro h h')|refine Two_intro ?_ ?_|exact wZ|fail)<;>try refine sxLfb ?_)
   all_goals exact ro_mk (by simp[LeL,lk,hh,a0Q,arR,mpK,tk,tv,b4h,List.range_succ]) dom3
  | some x=>
   obtain ⟨i,hi,hf,hg,hix⟩:=lookK_some hf0
   rw[fold_some hm hkk hf0,hmk]
   have hset:=fun y=>setE_tv (y:=y) hix hN
   rw[hke]at hf hset ⊢
   rw[hm]at hM
   have hSe:=a2z x.p e.p
   simp only[a8e]at hf
   have hmx:marked x e.k=x.w:=by simp[marked,hk]
   have hla:a4M x e.k=false:=by simp[a4M,hk]
   rw[hmx,hla]
   clear hm hr k12 hN hf0 hke hmk hmo hokk hk hkk hSm hix hmx hla
   generalize a2y e=OW at *
   by_cases hp:x.p=e.p
   rotate_left
   ·rw[decide_eq_false hp]at hSe
    rw[if_pos hp]
    clear hp hset
    simp only[a0c];refine sxLfb ?_
    repeat' ((first|exact tt|refine CallO_pure (hM) ?_|refine CallO_pure (hO) ?_|refine CallW_intro (hOut) ?_|refine CallO_pure (hMk _) ?_|refine CallO_pure (hSe) ?_|refine na fun b=>?_|refine nb fun b hb=>?_|refine iq ?_|(refine jq ?_ ?_<;>intro h h')|refine Two_intro ?_ ?_|exact wZ|fail)<;>try refine sxLfb ?_)
    all_goals exact ro_mk (by simp[LeL,lk,hh,a0Q,arR]) dom3
   ·rw[decide_eq_true hp]at hSe
    rw[if_neg (fun h=>h hp)]
    clear hp
    cases hb1:x.w with
    | true=>
     clear hset
     simp only[a0c];refine sxLfb ?_
     repeat' ((first|exact tt|refine CallO_pure (hM) ?_|refine CallO_pure (hO) ?_|refine CallW_intro (hOut) ?_|refine CallO_pure (hMk _) ?_|refine CallO_pure (hSe) ?_|refine na fun b=>?_|refine nb fun b hb=>?_|refine iq ?_|(refine jq ?_ ?_<;>intro h h')|refine Two_intro ?_ ?_|exact wZ|fail)<;>try refine sxLfb ?_)
     all_goals exact ro_mk (by simp[LeL,lk,hh,a0Q,arR]) dom3
    | false=>
     simp only[a0c,hh,Bool.false_eq_true,if_false, ↓Ed,Eu, ↓reduceIte,reduceCtorEq,Nat.reduceAdd,Nat.reduceEqDiff,Nat.reduceLT,Nat.reduceLeDiff,Int.reduceToNat,Int.reduceEq,Int.reduceLT,Int.reduceLE,w64,List.length_append,List.length_map,Nat.mul_one,beq_self_eq_true,PktC.cs,EvC.cs,EntC.cs,KeyC.cs,a0i,Int.reduceAdd]
     repeat' ((first|exact tt|refine CallO_pure (hM) ?_|refine CallO_pure (hO) ?_|refine CallW_intro (hOut) ?_|refine CallO_pure (hMk _) ?_|refine CallO_pure (hSe) ?_|refine na fun b=>?_|refine nb fun b hb=>?_|refine iq ?_|(refine jq ?_ ?_<;>intro h h')|refine Two_intro ?_ ?_|exact wZ|fail)<;>try refine sxLfb ?_)
     all_goals exact ro_mk (by simp[LeL,lk,hh,a0Q,arR,mpK,a6T,a4V, ← hset,b4i,EntC.cs,hb1]) dom3
 ·have hS:=b7F c m n hh t e.e e.ec
  rw[own_close hm k12]at hO
  rw[fold_cl hm k12]
  rw[hm]at hM
  clear hm hr k12 hN
  generalize (if ((e.e,e.ec):a4Z)∈t.C then (8:Int) else 0)=R at hS ⊢
  generalize (if ((e.e,e.ec):a4Z)∈t.C then t else ⟨t.K,t.C++[(e.e,e.ec)]⟩)=T at hS ⊢
  simp only[a0c];refine sxLfb ?_
  repeat' ((first|exact tt|refine CallO_pure (hM) ?_|refine CallO_pure (hO) ?_|refine c3 (hS) ?_|refine na fun b=>?_|refine nb fun b hb=>?_|refine iq ?_|(refine jq ?_ ?_<;>intro h h')|refine Two_intro ?_ ?_|exact wZ|fail)<;>try refine sxLfb ?_)
  all_goals exact ro_mk (by simp[LeL,lk,hh,a0Q,arR]) dom3
 ·rw[own_up hm k12]at hO
  rw[fold_up hm k12]
  rw[hm]at hM
  clear hm hr k12 hN
  simp only[a0c];refine sxLfb ?_
  repeat' ((first|exact tt|refine CallO_pure (hM) ?_|refine CallO_pure (hO) ?_|refine na fun b=>?_|refine nb fun b hb=>?_|refine iq ?_|(refine jq ?_ ?_<;>intro h h')|refine Two_intro ?_ ?_|exact wZ|fail)<;>try refine sxLfb ?_)
  all_goals exact ro_mk (by simp[LeL,lk,hh,a0Q,arR]) dom3
 ·have:e.k<1:=k12
  omega
 ·have:7<e.k:=k12
  omega
end
section
open Go.RowKit Classical
set_option maxRecDepth 100000
def hcE(cap:Nat)(l:List EntC):List AV:=hc 14 cap (l.map EntC.cs)
structure Fx where
 k:AV
 c:AV
 g:Nat
 cap:Nat
 X:List AV
def Fx.ok(x:Fx)(b:Nat)(t:Tb):Prop:=x.k.alias=.sl none 4 (kys (dOf t).K)∧x.c.alias=.sl none 2 (ens (dOf t).C)∧(¬ x.g=b∧¬ b=x.g)∧(dOf t).E.length≤x.cap
abbrev Fx.o(x:Fx)(b g:Nat)(t:Tb):List (Nat × List AV):=[(b,[x.k,.hsl x.g 223 14 (dOf t).E.length x.cap,x.c]),(x.g,hcE x.cap (dOf t).E),(g,x.X)]
section
variable {d:Option Nat} {s:St} {K:St→Prop}
end
end
end Go.Proofs.YtgdhinnepnlihaaGreatDoor
