import Derived.Test.YtfgihnhoocnmdaaGreatDoorK19
import Derived.Test.YtfgihnhoocnmdaaGreatDoorK17
import Derived.Test.YtfgihnhoocnmdaaGreatDoorK18
namespace Go.Proofs.YtfgihnhoocnmdaaGreatDoor
set_option linter.all false
set_option maxHeartbeats 9000000
section
open Go.RowKit
set_option maxRecDepth 100000
theorem t32(n:Nat):(32 - (n:Int)).toNat=32 - n:=by omega
theorem c1x(l:List UInt8)(i:Nat)(h:i<l.length):(l.map a0h).getD i []=a0h (l.getD i 0):=by simp[List.getD,h]
theorem c2i(b:UInt8)(K:AV→Prop):RK (ldR none (a0h b)) K=K (.int .u8 (b.toNat:Int)):=by simp[RK,ldR,a0h,AV.alias]
theorem sxShr{A B:Prop}(h:B)(e:A=B:=by (simp (disch:=omega) only[*, ↓Ed,Eu, ↓reduceIte,reduceCtorEq,Nat.reduceAdd,Nat.reduceEqDiff,Nat.reduceLT,Nat.reduceLeDiff,Int.reduceToNat,Int.reduceEq,Int.reduceLT,Int.reduceLE,w64,List.length_append,List.length_map,b4b,b2f,b2h,b2e,b2g,a9c,a5O,b7f,Int.toNat_natCast,nn,b5Z,b6a,b6b,b9K,b9N,b6Y,b6Z,b7a,Nat.mul_one,Nat.zero_add,Int.reduceAdd,b3W,a2r,b3h,b7r,a0K,S8.c8,a5k,t32,c2u,c1x,a5i,c2i];first|done|rfl)):A:=e▸h
theorem c1b(x:Wd)(n:Nat)(h:1≤n∧n≤31):CP Tryz.prog 195 [aW x,.int .i64 (n:Int)] (aW (rot x n)):=by
 refine a8o _ _ (by simp) ?_
 simp only[a4C];refine sxShr ?_
 repeat' ((first|exact tt|refine na fun b=>?_|refine nb fun b hb=>?_|refine iq ?_|(refine jq ?_ ?_<;>intro h h')|refine Two_intro ?_ ?_|exact wZ|fail)<;>try refine sxShr ?_)
 all_goals omega
theorem a1O(x:Wd)(k:Int)(n:Nat)(hk:k=(n:Int))(h:1≤n∧n≤31):CP Tryz.prog 195 [aW x,.int .i64 k] (aW (rot x n)):=by subst hk;exact c1b x n h
theorem c0P:CP Tryz.prog 152 [] (.agg (shaK.map aW)):=by
 refine a4c _ _ (by simp) ?_
 simp only[a2j];refine sxShr ?_
 repeat' ((first|exact tt|refine na fun b=>?_|refine nb fun b hb=>?_|refine iq ?_|(refine jq ?_ ?_<;>intro h h')|refine Two_intro ?_ ?_|exact wZ|fail)<;>try refine sxShr ?_)
 all_goals rfl
abbrev c2F(l:List UInt8):AV:=.sl none 1 (l.map a0h)
set_option maxHeartbeats 4000000 in
theorem c1P(h:S8)(s:List UInt8)(hs:s.length=64):CP Tryz.prog 153 [.agg h.c8,c2F s,.agg (shaK.map aW)] (.agg (b4G h s).c8):=by
 refine a8T _ _ (by simp) ?_
 have hk64:(shaK.map aW).length=64:=rfl
 have h0k:0<(shaK.map aW).length:=by rw[hk64];omega
 have hst:=a5i shaK
 generalize hK:shaK.map aW=KK at *
 simp only[a5c];refine sxShr ?_
 repeat' ((first|exact tt|refine na fun b=>?_|refine nb fun b hb=>?_|refine iq ?_|(refine jq ?_ ?_<;>intro h h')|refine Two_intro ?_ ?_|exact wZ|fail)<;>try refine sxShr ?_)
 rename_i bh bk hbk br hbr
 subst hK
 clear hst
 refine wpx_loop (fun i:Nat=>⟨lk [(1,c2F s),(3,.ptr bh 0),(5,.ptr bk 0),(6,.ptr br 0),(7,.ptr b 0),(8,.int .i64 (i:Int))],lk [(bh,h.c8),(bk,shaK.map aW),(br,z8),(b,(a5T s i).map aW)]⟩) (fun i=>i≤64) (fun i=>64 - i) 0 (by omega) (Le_lit (by rw[b4c s];simp[LeL,lk,hb,hbk,hbr])) ?_
 intro i hi
 by_cases hlt:i<64
 ·have f1:a0d (decide ((i:Int)<64)=true):=fo
  have l64:(a5T s i).length=64:=a5U s i hi
  by_cases h16:i<16
  ·have f2:a0d (decide ((i:Int)<16)=true):=fo
   have hS:=a7A (a5T s i) i (b3x s i) (by omega)
   rw[a5V s i hlt (b3x s i) (by rw[if_pos h16])]at hS
   have hX:=a2r s i hi
   generalize (a5T s i).map aW=X at *
   clear l64 hk64 h0k
   simp only[b3x,b0B]at hS
   refine sxShr ?_
   repeat' ((first|exact tt|refine na fun b=>?_|refine nb fun b hb=>?_|refine iq ?_|(refine jq ?_ ?_<;>intro h h')|refine Two_intro ?_ ?_|exact wZ|fail)<;>try refine sxShr ?_)
   all_goals exact Round_lit (i+1) ⟨Le_lit (by simp[LeL,lk,hb,hbk,hbr]),by omega,by omega⟩
  ·have f2:a0d (decide ((i:Int)<16)=false):=fo
   have hS:=a7A (a5T s i) i (nxW (a0x s i) i) (by omega)
   rw[a5V s i hlt (nxW (a0x s i) i) (by rw[if_neg h16])]at hS
   have hX:=a2r s i hi
   clear l64 hk64 h0k
   simp only[nxW]at hS
   refine sxShr ?_
   repeat' ((first|exact tt|refine CallW_intro (a1O _ 7 7 rfl (by omega)) ?_|refine CallW_intro (a1O _ 18 18 rfl (by omega)) ?_|refine CallW_intro (a1O _ 17 17 rfl (by omega)) ?_|refine CallW_intro (a1O _ 19 19 rfl (by omega)) ?_|refine na fun b=>?_|refine nb fun b hb=>?_|refine iq ?_|(refine jq ?_ ?_<;>intro h h')|refine Two_intro ?_ ?_|exact wZ|fail)<;>try refine sxShr ?_)
   all_goals exact Round_lit (i+1) ⟨Le_lit (by simp[LeL,lk,hb,hbk,hbr]),by omega,by omega⟩
 have f1:a0d (decide ((i:Int)<64)=false):=fo
 obtain rfl:i=64:=by omega
 rw[show (a5T s 64)=a0x s 64 by simp[a5T]]
 refine sxShr ?_
 repeat' ((first|exact tt|refine na fun b=>?_|refine nb fun b hb=>?_|refine iq ?_|(refine jq ?_ ?_<;>intro h h')|refine Two_intro ?_ ?_|exact wZ|fail)<;>try refine sxShr ?_)
 rename_i bw hbw
 clear f1 hlt hi
 refine wpx_loop (fun i:Nat=>⟨lk [(3,.ptr bh 0),(5,.ptr bk 0),(6,.ptr br 0),(7,.ptr bw 0),(11,.ptr b 0),(12,.int .i64 (i:Int))],lk [(bh,h.c8),(bk,shaK.map aW),(br,z8),(bw,(a0x s 64).map aW),(b,(a9g h (a0x s 64) i).c8)]⟩) (fun i=>i≤64) (fun i=>64 - i) 0 (by omega) (Le_lit (by simp[LeL,lk,hb,hbk,hbr,hbw,a9g])) ?_
 intro i hi
 by_cases hlt:i<64
 ·have f1:a0d (decide ((i:Int)<64)=true):=fo
  have hR:a9g h (a0x s 64) (i+1)=b1X (a9g h (a0x s 64) i) (shaK.getD i 0) ((a0x s 64).getD i 0):=rfl
  generalize a9g h (a0x s 64) i=S at *
  clear hk64 h0k
  refine sxShr ?_
  repeat' ((first|exact tt|refine CallW_intro (a1O _ 6 6 rfl (by omega)) ?_|refine CallW_intro (a1O _ 11 11 rfl (by omega)) ?_|refine CallW_intro (a1O _ 25 25 rfl (by omega)) ?_|refine CallW_intro (a1O _ 2 2 rfl (by omega)) ?_|refine CallW_intro (a1O _ 13 13 rfl (by omega)) ?_|refine CallW_intro (a1O _ 22 22 rfl (by omega)) ?_|refine na fun b=>?_|refine nb fun b hb=>?_|refine iq ?_|(refine jq ?_ ?_<;>intro h h')|refine Two_intro ?_ ?_|exact wZ|fail)<;>try refine sxShr ?_)
  all_goals exact Round_lit (i+1) ⟨Le_lit (by simp[-List.getD_eq_getElem?_getD,LeL,lk,hb,hbk,hbr,hbw,hR,b1X,stepT,b5l]),by omega,by omega⟩
 have f1:a0d (decide ((i:Int)<64)=false):=fo
 obtain rfl:i=64:=by omega
 have hM:b4G h s=b4e h (a9g h (a0x s 64) 64):=rfl
 rw[hM]
 generalize a9g h (a0x s 64) 64=S at *
 clear hk64 h0k hM hlt hi
 refine sxShr ?_
 repeat' ((first|exact tt|refine na fun b=>?_|refine nb fun b hb=>?_|refine iq ?_|(refine jq ?_ ?_<;>intro h h')|refine Two_intro ?_ ?_|exact wZ|fail)<;>try refine sxShr ?_)
 clear f1
 refine wpx_loop (fun i:Nat=>⟨lk [(3,.ptr bh 0),(6,.ptr br 0),(11,.ptr b 0),(17,.int .i64 (i:Int))],lk [(bh,a5k h S i),(br,z8),(b,S.c8)]⟩) (fun i=>i≤8) (fun i=>8 - i) 0 (by omega) (Le_lit (by simp[LeL,lk,hb,hbk,hbr,hbw,a5k])) ?_
 intro i hi
 by_cases hlt:i<8
 ·have hc8:i=0∨i=1∨i=2∨i=3∨i=4∨i=5∨i=6∨i=7:=by omega
  rcases hc8 with rfl|rfl|rfl|rfl|rfl|rfl|rfl|rfl
  all_goals (refine sxShr ?_;try exact tt)
  all_goals repeat' ((first|exact tt|refine na fun b=>?_|refine nb fun b hb=>?_|refine iq ?_|(refine jq ?_ ?_<;>intro h h')|refine Two_intro ?_ ?_|exact wZ|fail)<;>try refine sxShr ?_)
  all_goals first|exact Round_lit 1 ⟨Le_lit (by simp[LeL,lk,hb,hbk,hbr,hbw,a5k]),by omega,by omega⟩|exact Round_lit 2 ⟨Le_lit (by simp[LeL,lk,hb,hbk,hbr,hbw,a5k]),by omega,by omega⟩|exact Round_lit 3 ⟨Le_lit (by simp[LeL,lk,hb,hbk,hbr,hbw,a5k]),by omega,by omega⟩|exact Round_lit 4 ⟨Le_lit (by simp[LeL,lk,hb,hbk,hbr,hbw,a5k]),by omega,by omega⟩|exact Round_lit 5 ⟨Le_lit (by simp[LeL,lk,hb,hbk,hbr,hbw,a5k]),by omega,by omega⟩|exact Round_lit 6 ⟨Le_lit (by simp[LeL,lk,hb,hbk,hbr,hbw,a5k]),by omega,by omega⟩|exact Round_lit 7 ⟨Le_lit (by simp[LeL,lk,hb,hbk,hbr,hbw,a5k]),by omega,by omega⟩|exact Round_lit 8 ⟨Le_lit (by simp[LeL,lk,hb,hbk,hbr,hbw,a5k]),by omega,by omega⟩
 have f1:a0d (decide ((i:Int)<8)=false):=fo
 obtain rfl:i=8:=by omega
 have hA:a5k h S 8=(b4e h S).c8:=rfl
 rw[hA]
 generalize b4e h S=R
 clear hA hlt hi
 refine sxShr ?_
 repeat' ((first|exact tt|refine na fun b=>?_|refine nb fun b hb=>?_|refine iq ?_|(refine jq ?_ ?_<;>intro h h')|refine Two_intro ?_ ?_|exact wZ|fail)<;>try refine sxShr ?_)
end
section
open Go.RowKit
set_option maxRecDepth 100000
theorem c2w(i:Nat):(24 - 8 * ((i % 4:Nat):Int)).toNat=24 - 8 * (i % 4):=by omega
theorem a6K(n:Nat):len8 n=[byL n 7,byL n 6,byL n 5,byL n 4,byL n 3,byL n 2,byL n 1,byL n 0]:=rfl
theorem b0T:shaK.length=64:=rfl
theorem c1h:splice z64 0 (shaK.map aW)=shaK.map aW:=a1e z64 _ rfl
theorem c0B(n:Nat)(h:n≤281474976710656):IntKind.wrap .u64 (IntKind.wrap .u64 (n:Int) * 8)=((n * 8:Nat):Int):=by
 show ((n:Int) % 18446744073709551616 * 8) % 18446744073709551616=_
 omega
theorem c0q(l:List UInt8)(i:Nat)(hi:i<l.length)(K:AV→Prop):RK (ldR none ((l.map byC).drop i)) K=K (byC (l.getD i 0)):=by
 rw[List.drop_eq_getElem_cons (by simpa using hi)]
 apply propext
 simp[RK,ldR,byC,AV.alias,List.getD,hi]
def b4j(l:List UInt8)(i:Nat):List UInt8:=l.take i++List.replicate (32 - i) 0
theorem b2T(l:List UInt8)(i:Nat)(hl:l.length=32)(h:i≤32):(b4j l i).length=32:=by simp[b4j];omega
theorem b6n(l:List UInt8)(i:Nat)(hl:l.length=32)(h:i<32):(b4j l i).set i (l.getD i 0)=b4j l (i+1):=by
 unfold b4j
 have e:(l.take i).length=i:=by simp;omega
 rw[List.set_append_right _ _ (by rw[e];exact Nat.le_refl i),e,Nat.sub_self,show 32 - i=(32 - (i+1))+1 by omega,List.replicate_succ,List.set_cons_zero,List.take_succ,List.getElem?_eq_getElem (by omega)]
 simp[-List.take_append_getElem,List.getD,show i<l.length by omega]
theorem sxShs{A B:Prop}(h:B)(e:A=B:=by (simp (disch:=omega) only[*, ↓Ed,Eu, ↓reduceIte,reduceCtorEq,Nat.reduceAdd,Nat.reduceEqDiff,Nat.reduceLT,Nat.reduceLeDiff,Int.reduceToNat,Int.reduceEq,Int.reduceLT,Int.reduceLE,w64,List.length_append,List.length_map,List.length_replicate,List.length_cons,List.length_nil,Int.toNat_natCast,nn,Nat.mul_one,Nat.zero_add,Int.reduceAdd,Int.reduceSub,Int.reduceMul,tm1,tq4,tm4,c2w,a5O,b3s,b7s,c0B,k0,k1,k2,k3,k4,k5n,k6,k7,a5i,List.length_take,a4y,b0T,c1h];first|done|rfl)):A:=e▸h
theorem a8C(l:List UInt8)(hl:l.length=32):CP Tryz.prog 85 [.agg (hcs l)] (.str l):=by
 refine a8n _ _ (by simp) ?_
 have hs:(hcs l).map AV.store=hcs l:=by rw[List.map_map];rfl
 have h0:0<(hcs l).length:=by simp[hl]
 simp only[a4B];refine sxShs ?_
 repeat' ((first|exact tt|refine na fun b=>?_|refine nb fun b hb=>?_|refine iq ?_|(refine jq ?_ ?_<;>intro h h')|refine Two_intro ?_ ?_|exact wZ|fail)<;>try refine sxShs ?_)
 rename_i bl
 clear hs h0
 refine wpx_loop (fun i:Nat=>⟨lk [(1,.ptr bl 0),(3,.osl b 0 32),(4,.int .i64 (i:Int))],lk [(bl,hcs l),(b,(b4j l i).map byC)]⟩) (fun i=>i≤32) (fun i=>32 - i) 0 (by omega) (Le_lit (by simp[LeL,lk,hb,b4j,byC])) ?_
 intro i hi
 by_cases hlt:i<32
 ·have f1:a0d (decide ((i:Int)<32)=true):=fo
  have hld:∀ K:AV→Prop,RK (ldR none ((hcs l).drop i)) K=K (byC (l.getD i 0)):=c0q l i (by omega)
  have hst:=a7B (b4j l i) i (l.getD i 0) (by rw[b2T l i hl hi];exact hlt)
  rw[b6n l i hl hlt]at hst
  have hlen:((b4j l i).map byC).length=32:=by rw[List.length_map,b2T l i hl hi]
  have hlen2:(hcs l).length=32:=by rw[List.length_map,hl]
  have hal:(byC (l.getD i 0)).alias=byC (l.getD i 0):=rfl
  have hce:(byC (l.getD i 0)).cells=[byC (l.getD i 0)]:=rfl
  generalize (b4j l i).map byC=X at *
  generalize byC (l.getD i 0)=y at *
  generalize hcs l=Y at *
  refine sxShs ?_
  repeat' ((first|exact tt|refine na fun b=>?_|refine nb fun b hb=>?_|refine iq ?_|(refine jq ?_ ?_<;>intro h h')|refine Two_intro ?_ ?_|exact wZ|fail)<;>try refine sxShs ?_)
  all_goals exact Round_lit (i+1) ⟨Le_lit (by simp[LeL,lk,hb]),by omega,by omega⟩
 have f1:a0d (decide ((i:Int)<32)=false):=fo
 obtain rfl:i=32:=by omega
 rw[show b4j l 32=l by simp[b4j];exact List.take_of_length_le (by omega)]
 refine sxShs ?_
 repeat' ((first|exact tt|refine BytesO_intro l (List.take_of_length_le (by simp[hl])) hl ?_|refine na fun b=>?_|refine nb fun b hb=>?_|refine iq ?_|(refine jq ?_ ?_<;>intro h h')|refine Two_intro ?_ ?_|exact wZ|fail)<;>try refine sxShs ?_)
set_option maxHeartbeats 4000000 in
theorem b1K(s:List UInt8)(hl:s.length≤100000000000000):CP Tryz.prog 86 [.str s] (.agg (hcs (a4h s))):=by
 refine a8Q _ _ (by simp) ?_
 have hmx:maxLen=9223372036854775807:=rfl
 simp only[a5b];refine sxShs ?_
 repeat' ((first|exact tt|refine na fun b=>?_|refine nb fun b hb=>?_|refine iq ?_|(refine jq ?_ ?_<;>intro h h')|refine Two_intro ?_ ?_|exact wZ|fail)<;>try refine sxShs ?_)
 obtain ⟨z,hz,hzl⟩:∃ z:List AV,z32=z∧z.length=32:=⟨_,rfl,rfl⟩
 refine wpx_loop (fun k:Nat=>⟨lk [(0,.str s),(2,.ptr b 0),(3,.sl (some 5) 1 ((s++128::List.replicate k 0).map a0h))],lk [(b,z)]⟩) (fun k=>k≤(119 - s.length % 64) % 64) (fun k=>(119 - s.length % 64) % 64 - k) 0 (by omega) (Le_lit (by rw[← hz];simp[LeL,lk,a0h])) ?_
 clear hz
 intro k hk
 have hq:(s++128::List.replicate k (0:UInt8)).length=s.length+(k+1):=by simp
 by_cases hlt:k<(119 - s.length % 64) % 64
 ·have f1:a0d (decide ((((s++128::List.replicate k (0:UInt8)).length % 64:Nat):Int)=56)=false):=fo
  have hn:(s++128::List.replicate k (0:UInt8)).map a0h++[[.int .u8 0]]=(s++128::List.replicate (k+1) 0).map a0h:=by
   rw[List.replicate_succ'];simp[a0h]
  generalize (s++128::List.replicate k (0:UInt8))=q at *
  simp (disch:=omega) only[hn,List.nil_append, ↓Ed,Eu, ↓reduceIte,reduceCtorEq,Nat.reduceAdd,Nat.reduceEqDiff,Nat.reduceLT,Nat.reduceLeDiff,Int.reduceToNat,Int.reduceEq,Int.reduceLT,Int.reduceLE,w64,List.length_append,List.length_map,List.length_replicate,List.length_cons,List.length_nil,Int.toNat_natCast,nn,Nat.mul_one,Nat.zero_add,Int.reduceAdd,Int.reduceSub,Int.reduceMul,tm1,tq4,tm4,c2w,a5O,b3s,b7s,c0B,k0,k1,k2,k3,k4,k5n,k6,k7,a5i,List.length_take,a4y,b0T,c1h]
  repeat' ((first|exact tt|refine na fun b=>?_|refine nb fun b hb=>?_|refine iq ?_|(refine jq ?_ ?_<;>intro h h')|refine Two_intro ?_ ?_|exact wZ|fail)<;>try refine sxShs ?_)
  all_goals exact Round_lit (k+1) ⟨Le_lit (by simp[LeL,lk]),by omega,by omega⟩
 obtain rfl:k=(119 - s.length % 64) % 64:=by omega
 have f1:a0d (decide ((((s++128::List.replicate ((119 - s.length % 64) % 64) (0:UInt8)).length % 64:Nat):Int)=56)=true):=fo
 have hP:(s++128::List.replicate ((119 - s.length % 64) % 64) 0)++len8 s.length=a2u s:=by simp[a2u]
 obtain ⟨N,hN,hN1⟩:∃ N,(a2u s).length=64 * N∧(a2u s).length / 64=N:=⟨_,(b0k s).1,rfl⟩
 have hSh:a4h s=a4Q (a7w (a2u s) N):=by rw[← hN1];rfl
 clear hN1 hlt hk
 rw[hSh]
 clear hSh
 generalize (s++128::List.replicate ((119 - s.length % 64) % 64) (0:UInt8))=q at *
 simp (disch:=omega) only[List.nil_append, ↓Ed,Eu, ↓reduceIte,reduceCtorEq,Nat.reduceAdd,Nat.reduceEqDiff,Nat.reduceLT,Nat.reduceLeDiff,Int.reduceToNat,Int.reduceEq,Int.reduceLT,Int.reduceLE,w64,List.length_append,List.length_map,List.length_replicate,List.length_cons,List.length_nil,Int.toNat_natCast,nn,Nat.mul_one,Nat.zero_add,Int.reduceAdd,Int.reduceSub,Int.reduceMul,tm1,tq4,tm4,c2w,a5O,b3s,b7s,c0B,k0,k1,k2,k3,k4,k5n,k6,k7,a5i,List.length_take,a4y,b0T,c1h]
 repeat' ((first|exact tt|refine na fun b=>?_|refine nb fun b hb=>?_|refine iq ?_|(refine jq ?_ ?_<;>intro h h')|refine Two_intro ?_ ?_|exact wZ|fail)<;>try refine sxShs ?_)
 clear f1
 refine wpx_loop (fun j:Nat=>⟨lk [(2,.ptr b 0),(3,.sl (some 5) 1 ((q++(len8 s.length).take j).map a0h)),(4,.int .u64 ((s.length * 8:Nat):Int)),(5,.int .i64 (7 - (j:Int)))],lk [(b,z)]⟩) (fun j=>j≤8) (fun j=>8 - j) 0 (by omega) (Le_lit (by simp[LeL,lk])) ?_
 intro j hj
 by_cases hlt:j<8
 ·have hc8:j=0∨j=1∨j=2∨j=3∨j=4∨j=5∨j=6∨j=7:=by omega
  rcases hc8 with rfl|rfl|rfl|rfl|rfl|rfl|rfl|rfl
  all_goals (refine sxShs ?_;try exact tt)
  all_goals repeat' ((first|exact tt|refine na fun b=>?_|refine nb fun b hb=>?_|refine iq ?_|(refine jq ?_ ?_<;>intro h h')|refine Two_intro ?_ ?_|exact wZ|fail)<;>try refine sxShs ?_)
  all_goals first|exact Round_lit 1 ⟨Le_lit (by simp[LeL,lk,a6K,byL,a0h,IntKind.bits]),by omega,by omega⟩|exact Round_lit 2 ⟨Le_lit (by simp[LeL,lk,a6K,byL,a0h,IntKind.bits]),by omega,by omega⟩|exact Round_lit 3 ⟨Le_lit (by simp[LeL,lk,a6K,byL,a0h,IntKind.bits]),by omega,by omega⟩|exact Round_lit 4 ⟨Le_lit (by simp[LeL,lk,a6K,byL,a0h,IntKind.bits]),by omega,by omega⟩|exact Round_lit 5 ⟨Le_lit (by simp[LeL,lk,a6K,byL,a0h,IntKind.bits]),by omega,by omega⟩|exact Round_lit 6 ⟨Le_lit (by simp[LeL,lk,a6K,byL,a0h,IntKind.bits]),by omega,by omega⟩|exact Round_lit 7 ⟨Le_lit (by simp[LeL,lk,a6K,byL,a0h,IntKind.bits]),by omega,by omega⟩|exact Round_lit 8 ⟨Le_lit (by simp[LeL,lk,a6K,byL,a0h,IntKind.bits]),by omega,by omega⟩
 obtain rfl:j=8:=by omega
 rw[show q++(len8 s.length).take 8=a2u s by rw[List.take_of_length_le (by simp[len8]),hP]]
 have hpb:64 * N≤100000000000300:=by rw[← hN, ← hP,List.length_append,a4y,hq];omega
 clear hP hq hlt hj
 generalize a2u s=p at *
 refine sxShs ?_
 repeat' ((first|exact tt|refine CallO_pure (c0P) ?_|refine na fun b=>?_|refine nb fun b hb=>?_|refine iq ?_|(refine jq ?_ ?_<;>intro h h')|refine Two_intro ?_ ?_|exact wZ|fail)<;>try refine sxShs ?_)
 rename_i br bh hbh
 refine wpx_loop (fun k:Nat=>⟨lk [(2,.ptr br 0),(3,.sl (some 5) 1 (p.map a0h)),(6,.ptr bh 0),(7,.ptr b 0),(8,.int .i64 (64 * (k:Int)))],lk [(br,z),(bh,(a7w p k).c8),(b,shaK.map aW)]⟩) (fun k=>k≤N) (fun k=>N - k) 0 (by omega) (Le_lit (by simp[LeL,lk,hb,hbh,a7w,sha0,wI])) ?_
 intro k hk
 by_cases hlt:k<N
 ·have f1:a0d (decide (64 * (k:Int)<(p.length:Int))=true):=fo
  have hR:a7w p (k+1)=b4G (a7w p k) ((p.drop (64 * k)).take 64):=rfl
  have hM:=c1P (a7w p k) ((p.drop (64 * k)).take 64) (by rw[List.length_take,List.length_drop];omega)
  have hch:List.drop (64 * k) (List.take (64 * k+64) (p.map a0h))=((p.drop (64 * k)).take 64).map a0h:=by
   rw[List.drop_take,show 64 * k+64 - 64 * k=64 by omega,List.map_take,List.map_drop]
  have t1:(64 * (k:Int)).toNat=64 * k:=by omega
  have t2:(64 * (k:Int)+64).toNat=64 * k+64:=by omega
  have t3:List.take 64 (shaK.map aW)=shaK.map aW:=rfl
  rw[← hR]at hM
  generalize hS':a7w p (k+1)=S' at *
  generalize a7w p k=S at *
  generalize (p.drop (64 * k)).take 64=c at *
  clear hR
  refine sxShs ?_
  repeat' ((first|exact tt|refine CallW_intro (hM) ?_|refine na fun b=>?_|refine nb fun b hb=>?_|refine iq ?_|(refine jq ?_ ?_<;>intro h h')|refine Two_intro ?_ ?_|exact wZ|fail)<;>try refine sxShs ?_)
  all_goals exact Round_lit (k+1) ⟨Le_lit (by simp[LeL,lk,hb,hbh,hS'];omega),by omega,by omega⟩
 obtain rfl:k=N:=by omega
 have f1:a0d (decide (64 * (k:Int)<(p.length:Int))=false):=fo
 generalize a7w p k=S at *
 refine sxShs ?_
 repeat' ((first|exact tt|refine na fun b=>?_|refine nb fun b hb=>?_|refine iq ?_|(refine jq ?_ ?_<;>intro h h')|refine Two_intro ?_ ?_|exact wZ|fail)<;>try refine sxShs ?_)
 rename_i bk hbk
 clear f1 hlt hk hN
 have hO:(a7X S 0).map byC=z32:=rfl
 refine wpx_loop (fun i:Nat=>⟨lk [(2,.ptr br 0),(6,.ptr bh 0),(9,.ptr b 0),(10,.int .i64 (i:Int))],lk [(br,z),(bh,S.l.map aW),(b,(a7X S i).map byC)]⟩) (fun i=>i≤32) (fun i=>32 - i) 0 (by omega) (Le_lit (by rw[hO];simp[LeL,lk,hb,hbh,hbk])) ?_
 clear hO
 intro i hi
 by_cases hlt:i<32
 ·have f1:a0d (decide ((i:Int)<32)=true):=fo
  have h4:i / 4<8:=by omega
  have hld:=a8s S.l (i / 4) h4
  have hst:=a7B (a7X S i) i (b3L S i) (by rw[a5S S i hi];exact hlt)
  rw[b0g S i hlt _ rfl]at hst
  have hlen:((a7X S i).map byC).length=32:=by rw[List.length_map,a5S S i hi]
  have hlen8:(S.l.map aW).length=8:=rfl
  have hB:b3L S i=wB ((S.l.getD (i / 4) 0) >>> (24 - 8 * (i % 4))):=rfl
  rw[hB]at hst
  simp only[byC]at hst
  generalize S.l=sl at *
  generalize (a7X S i).map byC=X at *
  clear hB
  refine sxShs ?_
  repeat' ((first|exact tt|refine na fun b=>?_|refine nb fun b hb=>?_|refine iq ?_|(refine jq ?_ ?_<;>intro h h')|refine Two_intro ?_ ?_|exact wZ|fail)<;>try refine sxShs ?_)
  all_goals exact Round_lit (i+1) ⟨Le_lit (by simp[LeL,lk,hb,hbh,hbk]),by omega,by omega⟩
 have f1:a0d (decide ((i:Int)<32)=false):=fo
 obtain rfl:i=32:=by omega
 have hT:List.take 32 (hcs (a4Q S))=hcs (a4Q S):=List.take_of_length_le (by simp[a4Q])
 have hst:(hcs (a4Q S)).map AV.store=hcs (a4Q S):=by rw[List.map_map];rfl
 have hP:=a1e z (hcs (a4Q S)) (by rw[hzl];simp[a4Q])
 have hL:(hcs (a4Q S)).length=32:=by simp[a4Q]
 rw[show (a7X S 32).map byC=hcs (a4Q S) by rw[b0f]]
 generalize hcs (a4Q S)=X at *
 generalize S.l.map aW=Y at *
 refine sxShs ?_
 repeat' ((first|exact tt|refine na fun b=>?_|refine nb fun b hb=>?_|refine iq ?_|(refine jq ?_ ?_<;>intro h h')|refine Two_intro ?_ ?_|exact wZ|fail)<;>try refine sxShs ?_)
end
section
open Go.RowKit
set_option maxRecDepth 100000
def eiC(n:Nat)(k:Nat):List AV:=((List.replicate (8 - k) (0:UInt8))++(eight n).drop (8 - k)).map byC
theorem w8m(v:Nat):IntKind.wrap .u8 (Int.tmod (v:Int) 256)=((v % 256:Nat):Int):=by
 rw[Int.tmod_eq_emod_of_nonneg (by omega)]
 show ((v:Int) % 256) % 256=_
 omega
theorem w8d(v:Nat):Int.tdiv (v:Int) 256=((v / 256:Nat):Int):=by
 rw[Int.tdiv_eq_ediv_of_nonneg (by omega)];omega
theorem w8q(v:Nat)(h:v≤72057594037927935):IntKind.wrap .i64 (Int.tdiv (v:Int) 256)=((v / 256:Nat):Int):=by
 rw[w8d]
 exact w64 (by omega)
theorem b1k(n k:Nat)(h:k<8):splice (eiC n k) (7 - k) [.int .u8 ((n / 256 ^ k % 256:Nat):Int)]=eiC n (k+1):=by
 have hc:k=0∨k=1∨k=2∨k=3∨k=4∨k=5∨k=6∨k=7:=by omega
 rcases hc with rfl|rfl|rfl|rfl|rfl|rfl|rfl|rfl
 all_goals simp[eiC,eight,splice,List.replicate,byC]
theorem sxEgt{A B:Prop}(h:B)(e:A=B:=by (simp (disch:=omega) only[*, ↓Ed,Eu, ↓reduceIte,reduceCtorEq,Nat.reduceAdd,Nat.reduceEqDiff,Nat.reduceLT,Nat.reduceLeDiff,Int.reduceToNat,Int.reduceEq,Int.reduceLT,Int.reduceLE,w64,List.length_append,List.length_map,Int.reduceAdd];first|done|rfl)):A:=e▸h
theorem b0v(n:Nat)(h:n≤72057594037927935):CP Tryz.prog 87 [.int .i64 (n:Int)] (.str (eight n)):=by
 refine a7b _ _ (by simp) ?_
 have f1:a0d (decide ((n:Int)<0)=false):=fo
 have f2:a0d (decide ((72057594037927935:Int)<n)=false):=fo
 simp only[a3B];refine sxEgt ?_
 repeat' ((first|exact tt|refine na fun b=>?_|refine nb fun b hb=>?_|refine iq ?_|(refine jq ?_ ?_<;>intro h h')|refine Two_intro ?_ ?_|exact wZ|fail)<;>try refine sxEgt ?_)
 refine wpx_loop (fun k:Nat=>⟨lk [(0,.int .i64 ((n / 256 ^ k:Nat):Int)),(3,.osl b 0 8),(4,.int .i64 (7 - (k:Int)))],lk [(b,eiC n k)]⟩) (fun k=>k≤8) (fun k=>8 - k) 0 (by omega) (Le_lit (by simp[LeL,lk,eiC,byC,eight,List.replicate])) ?_
 clear f1 f2
 intro k hk
 by_cases hk8:k<8
 rotate_left
 ·obtain rfl:k=8:=by omega
  have f1:a0d (decide ((0:Int)≤7 - ((8:Nat):Int))=false):=by simp[a0d]
  refine sxEgt ?_
  repeat' ((first|exact tt|refine BytesO_intro (eight n) rfl rfl ?_|refine na fun b=>?_|refine nb fun b hb=>?_|refine iq ?_|(refine jq ?_ ?_<;>intro h h')|refine Two_intro ?_ ?_|exact wZ|fail)<;>try refine sxEgt ?_)
 have f1:a0d (decide ((0:Int)≤7 - (k:Int))=true):=fo
 have e0:(7 - (k:Int)).toNat * 1=7 - k:=by omega
 have e1:=w8q (n / 256 ^ k) (Nat.le_trans (Nat.div_le_self _ _) h)
 have e2:n / 256 ^ k / 256=n / 256 ^ (k+1):=by rw[Nat.div_div_eq_div_mul, ← Nat.pow_succ]
 have e3:=b1k n k hk8
 have e4:7 - (k:Int) - 1=7 - ((k+1:Nat):Int):=by omega
 have e5:7 - k+1≤(eiC n k).length:=by simp[eiC,eight]
 refine sxEgt ?_
 repeat' ((first|exact tt|refine na fun b=>?_|refine nb fun b hb=>?_|refine iq ?_|(refine jq ?_ ?_<;>intro h h')|refine Two_intro ?_ ?_|exact wZ|fail)<;>try refine sxEgt ?_)
 rw[w8m,e3]
 exact Round_lit (k+1) ⟨Le_lit (by simp[LeL,lk]),by omega,by omega⟩
end
section
open Go.RowKit Go.Lib
set_option maxRecDepth 100000
def vKey(k:Int)(p:List UInt8)(c q:Int):Prop:=a1S p c=true∧((1≤k∧k≤3∧1≤q∧q≤1099511627776)∨(4≤k∧k≤7∧q=0))
theorem vKey.q{k:Int}{p:List UInt8}{c q:Int}(h:vKey k p c q):OfQ (ofP k p c q) k p c q:=by
 rcases @ofP_q k p c q with e|e
 ·exfalso
  obtain ⟨hm,hk⟩:=h
  unfold ofP at e
  rw[if_neg (by rintro (h1|h1);exact wordP_in (by omega) h1;exact h1 hm)]at e
  rcases hk with hk|hk
  ·rw[if_pos (by omega),if_pos (by omega)]at e;simp[a7C]at e
  ·rw[if_neg (by omega),if_pos hk.2.2]at e;simp[a7C]at e
 ·exact e
theorem vKey.ne{k k':Int}{p p':List UInt8}{c c' q q':Int}(h:vKey k p c q)(h':vKey k' p' c' q')(hn:¬ (k=k'∧p=p'∧c=c'∧q=q')):ofP k p c q≠ofP k' p' c' q':=by
 intro e
 have a:=h.q
 rw[e]at a
 exact hn (a.inj h'.q)
theorem vKey.may{k:Int}{p:List UInt8}{c q:Int}(h:vKey k p c q){v:List UInt8}(hv:1≤v.length∧v.length≤64):a0Z (ofP k p c q) v=true:=by
 have h1:=List.length_pos_iff.2 h.q.ne
 have h2:=a7P k p c q
 unfold a0Z
 rw[decide_eq_true (by omega)]
theorem vBase{k:Int}(hk:4≤k∧k≤7){p:List UInt8}{c:Int}(h:a1S p c=true):vKey k p c 0:=⟨h,.inr ⟨hk.1,hk.2,rfl⟩⟩
theorem vNum{k:Int}(hk:1≤k∧k≤3){p:List UInt8}{c q:Int}(h:a1S p c=true)(hq:1≤q∧q≤1099511627776):vKey k p c q:=⟨h,.inl ⟨hk.1,hk.2,hq.1,hq.2⟩⟩
theorem mayK_parts{p:PktC}(h:a6h p=true):a1S p.s p.sc=true∧a1S p.d p.dc=true∧(1≤p.q∧p.q≤1099511627776)∧(0≤p.th∧p.th≤1099511627776)∧(0≤p.ta∧p.ta≤1099511627776)∧p.x.length≤200:=by
 simp only[a6h,Bool.and_eq_true,decide_eq_true_eq]at h
 exact ⟨h.1.1.1.1.1,h.1.1.1.1.2,h.1.2,h.1.1.1.2,h.1.1.2,h.2⟩
theorem decP_may{v:List UInt8}(h:(a7J v).2=0):(a7J v).1.may=true:=by
 by_cases h1:rend v (dst v).2=0
 ·cases g:(Es.of v).may with
  | true=>rw[decP_ok h1 g];exact g
  | false=>rw[decP_no h1 g]at h;cases h
 ·rw[decP_bad h1]at h;exact absurd h h1
theorem getE_may{L:List PrP}{p:List UInt8}{c:Int}(h:(a3k L p c).2=true):(a3k L p c).1.may=true:=by
 unfold a3k at h ⊢
 simp only[Bool.and_eq_true,decide_eq_true_eq]at h
 exact decP_may h.2
theorem getE_old{L:List PrP}(hr:a2Q L){p:List UInt8}{c:Int}{k v:List UInt8}(hk:ofP 7 p c 0≠k):a3k (a2f L k v) p c=a3k L p c:=by
 have h:=get_set_old hr (v:=v) hk
 unfold a3k
 rw[h.1,h.2]
theorem c1Q(n:Int)(h:0≤n∧n≤72057594037927935):1≤(pn n).length∧(pn n).length≤64:=⟨b3p n h,by have:=a0I n;omega⟩
theorem b5C(s:List UInt8):1≤(a4h s).length∧(a4h s).length≤64:=by rw[a0U];omega
structure StB (L:List PrP) (n:Nat):Prop where
 I:StI L
 b:L.length≤n
theorem StB.set{L:List PrP}{n:Nat}(h:StB L n)(hn:n≤990){k v:List UInt8}(hm:a0Z k v=true):StB (a2f L k v) (n+1):=
 ⟨set_I h.I hm (by have:=h.b;omega),by have:=a3m L k v;have:=h.b;omega⟩
theorem StB.drop{L:List PrP}{n:Nat}(h:StB L n)(k:List UInt8):StB (b1j L k) n:=⟨drop_I h.I k,Nat.le_trans (a5P L k).length_le h.b⟩
theorem StB.mono{L:List PrP}{n m:Nat}(h:StB L n)(hm:n≤m):StB L m:=⟨h.I,Nat.le_trans h.b hm⟩
end
section
open Go.RowKit Go.Lib
set_option maxRecDepth 100000
theorem b3t:∀ {M:List PrP} {k:List UInt8},(∀ q∈M,ltS q.1 k=true)→a0v M k=M.length
 | [],_,_=>rfl
 | y::r,k,h=>by
  rw[b5w,if_pos (h y (by simp)),b3t (fun q hq=>h q (by simp[hq]))];rfl
theorem set_last{M:List PrP}{k:List UInt8}(h:∀ q∈M,ltS q.1 k=true)(v:List UInt8):a2f M k v=M++[(k,v)]:=by
 have hp:=b3t h
 have hh:a1G M k=false:=by simp[a1G,hp]
 unfold a2f
 rw[hp,hh];simp
theorem put_own{L:List PrP}(h:StI L){i:Nat}(hi:i<L.length):a7f (L.take i) (L.getD i default).1 (L.getD i default).2=L.take (i+1):=by
 have e:L.getD i default=L[i]:=by simp[List.getD,hi]
 unfold a7f
 rw[e,if_pos (h.may _ (List.getElem_mem hi)),set_last,List.take_succ,List.getElem?_eq_getElem hi]
 ·rfl
 ·intro q hq
  obtain ⟨j,hj,rfl⟩:=List.getElem_of_mem hq
  rw[List.length_take]at hj
  rw[List.getElem_take]
  exact List.pairwise_iff_getElem.1 h.rise j i (by omega) hi (by omega)
theorem take_I{L:List PrP}(h:StI L)(i:Nat):StI (L.take i):=
 ⟨List.Pairwise.sublist (List.take_sublist i L) h.rise,fun q hq=>h.may q (List.mem_of_mem_take hq),by have:=h.len;rw[List.length_take];omega⟩
noncomputable def a9A (L:List PrP) (l:List PktC):Nat→List PrP
 | 0=>L
 | i+1=>if a6h (l.getD i default)=true then a2f (a9A L l i) (ofP 1 (l.getD i default).s (l.getD i default).sc (l.getD i default).q) (a1E (l.getD i default)) else a9A L l i
noncomputable def a5N (L:List PrP) (l:List PrP):Nat→List PrP
 | 0=>L
 | i+1=>a7f (a5N L l i) (l.getD i default).1 (l.getD i default).2
theorem kep_B{L:List PrP}{n:Nat}(h:StB L n)(l:List PktC):∀ {i:Nat},n+i≤900→StB (a9A L l i) (n+i)
 | 0,_=>h
 | i+1,hi=>by
  have ih:=kep_B h l (i:=i) (by omega)
  unfold a9A
  split
  ·rename_i hm
   have hp:=mayK_parts hm
   exact ih.set (by omega) ((vNum (by omega) hp.1 hp.2.2.1).may (b5C _))
  ·exact ih.mono (by omega)
theorem put_B{L:List PrP}{n:Nat}(h:StB L n)(hn:n≤980)(k v:List UInt8):StB (a7f L k v) (n+1):=by
 unfold a7f
 split
 ·rename_i hm;exact h.set (by omega) hm
 ·exact h.mono (by omega)
theorem mor_B{L:List PrP}{n:Nat}(h:StB L n)(l:List PrP):∀ {i:Nat},n+i≤900→StB (a5N L l i) (n+i)
 | 0,_=>h
 | i+1,hi=>put_B (mor_B h l (i:=i) (by omega)) (by omega) _ _
theorem pkt_ok{L:List PrP}{p:List UInt8}{c:Int}{d:List UInt8}{th ta:Int}(h:a4l L p c d th ta=0):(a3k L p c).2=true∧(a3k L p c).1.cl=false∧a6h (a1u L p c d th ta)=true:=by
 unfold a4l at h
 split at h
 ·cases h
 rename_i h1
 split at h
 ·cases h
 rename_i h2
 split at h
 ·cases h
 split at h
 ·cases h
 rename_i h4
 exact ⟨by simpa using h1,by simpa using h2,by simpa using h4⟩
theorem send_B{L:List PrP}{n:Nat}(hB:StB L n)(hn:n≤980){q:PktC}(hq:a6h q=true):StB (a5M L q) (n+2):=by
 have hp:=mayK_parts hq
 unfold a5M
 exact (hB.set (by omega) ((vBase (by omega) hp.1).may (c1Q _ (by omega)))).set (by omega) ((vNum (by omega) hp.1 hp.2.2.1).may (b5C _))
end
section
open Go.RowKit
set_option maxRecDepth 100000
theorem hz_rules{x:Hs}(h:x.length=32):(hcs x).map AV.store=hcs x∧splice z32 0 (hcs x)=hcs x∧(hcs x).take 32=hcs x∧(hcs x).length=32:=by
 have hl:(hcs x).length=32:=by rw[List.length_map,h]
 exact ⟨by rw[List.map_map];rfl,a1e z32 _ (by rw[hl];rfl),List.take_of_length_le (by omega),hl⟩
theorem sxTra{A B:Prop}(h:B)(e:A=B:=by (simp (disch:=omega) only[*, ↓Ed,Eu, ↓reduceIte,reduceCtorEq,Nat.reduceAdd,Nat.reduceEqDiff,Nat.reduceLT,Nat.reduceLeDiff,Int.reduceToNat,Int.reduceEq,Int.reduceLT,Int.reduceLE,w64,List.length_append,List.length_map,List.length_cons,List.length_nil,Int.reduceAdd,Nat.zero_add,Nat.mul_one];first|done|rfl)):A:=e▸h
theorem c0X(k v:List UInt8)(hk:k.length≤1000000)(hv:v.length≤1000000):CP Tryz.prog 144 [.str k,.str v] (.agg (hcs (a8I k v))):=by
 have hE:=b0v k.length (by omega)
 have hS:=b1K ([0]++eight k.length++k++v) (by simp only[List.length_append,a1h,List.length_cons,List.length_nil];omega)
 rw[show a4h ([0]++eight k.length++k++v)=a8I k v by unfold a8I;simp]at hS
 refine a8e _ _ (by simp) ?_
 have he:=a1h k.length
 obtain ⟨z1,z2,z3,z4⟩:=hz_rules (a7L k v)
 generalize eight k.length=e at *
 generalize hcs (a8I k v)=Z at *
 simp only[a4u];refine sxTra ?_
 repeat' ((first|exact tt|refine CallW_intro (hE) ?_|refine CallO_pure (hE) ?_|refine CallW_intro (hS) ?_|refine CallO_pure (hS) ?_|refine na fun b=>?_|refine nb fun b hb=>?_|refine iq ?_|(refine jq ?_ ?_<;>intro h h')|refine Two_intro ?_ ?_|exact wZ|fail)<;>try refine sxTra ?_)
theorem c0Z(a b:Hs)(ha:a.length=32)(hb:b.length=32):CP Tryz.prog 196 [.agg (hcs a),.agg (hcs b)] (.agg (hcs (a9r a b))):=by
 have h1:=a8C a ha
 have h2:=a8C b hb
 have hS:=b1K ([1]++a++b) (by simp only[List.length_append,List.length_cons,List.length_nil];omega)
 rw[show a4h ([1]++a++b)=a9r a b by unfold a9r;simp]at hS
 obtain ⟨z1,z2,z3,z4⟩:=hz_rules (b0b a b)
 obtain ⟨y1,y2,y3,y4⟩:=hz_rules ha
 obtain ⟨x1,x2,x3,x4⟩:=hz_rules hb
 generalize hcs (a9r a b)=Z at *
 generalize hcs a=Y at *
 generalize hcs b=X at *
 refine a8h _ _ (by simp) ?_
 simp only[a4z];refine sxTra ?_
 repeat' ((first|exact tt|refine CallW_intro (h1) ?_|refine CallO_pure (h1) ?_|refine CallW_intro (h2) ?_|refine CallO_pure (h2) ?_|refine CallW_intro (hS) ?_|refine CallO_pure (hS) ?_|refine na fun b=>?_|refine nb fun b hb=>?_|refine iq ?_|(refine jq ?_ ?_<;>intro h h')|refine Two_intro ?_ ?_|exact wZ|fail)<;>try refine sxTra ?_)
theorem c1a(n:Nat)(t:Hs)(ht:t.length=32)(hn:n≤1073741824):CP Tryz.prog 154 [.int .i64 (n:Int),.agg (hcs t)] (.agg (hcs (a9G n t))):=by
 have hE:=b0v n (by omega)
 have h1:=a8C t ht
 have hS:=b1K ([2]++eight n++t) (by simp only[List.length_append,a1h,List.length_cons,List.length_nil];omega)
 rw[show a4h ([2]++eight n++t)=a9G n t by unfold a9G;simp]at hS
 refine a8m _ _ (by simp) ?_
 have he:=a1h n
 obtain ⟨z1,z2,z3,z4⟩:=hz_rules (a8l n t)
 obtain ⟨y1,y2,y3,y4⟩:=hz_rules ht
 generalize eight n=e at *
 generalize hcs (a9G n t)=Z at *
 generalize hcs t=Y at *
 simp only[a4A];refine sxTra ?_
 repeat' ((first|exact tt|refine CallW_intro (hE) ?_|refine CallO_pure (hE) ?_|refine CallW_intro (h1) ?_|refine CallO_pure (h1) ?_|refine CallW_intro (hS) ?_|refine CallO_pure (hS) ?_|refine na fun b=>?_|refine nb fun b hb=>?_|refine iq ?_|(refine jq ?_ ?_<;>intro h h')|refine Two_intro ?_ ?_|exact wZ|fail)<;>try refine sxTra ?_)
end
section
open Go.RowKit
set_option maxRecDepth 100000
abbrev hsR(l:List Hs):List (List AV):=l.map hcs
theorem a9m(l:List Hs):(hsR l).length=l.length:=by simp
theorem sxTrc{A B:Prop}(h:B)(e:A=B:=by (simp (disch:=omega) only[*, ↓Ed,Eu, ↓reduceIte,reduceCtorEq,Nat.reduceAdd,Nat.reduceEqDiff,Nat.reduceLT,Nat.reduceLeDiff,Int.reduceToNat,Int.reduceEq,Int.reduceLT,Int.reduceLE,w64,List.length_append,List.length_map,List.length_cons,List.length_nil,Int.reduceAdd,Nat.zero_add,Nat.mul_one,a0w,a1g];first|done|rfl)):A:=e▸h
theorem c0W(n:Nat)(h1:1<n)(h2:n≤1073741824):CP Tryz.prog 191 [.int .i64 (n:Int)] (.int .i64 (a2e n:Int)):=by
 refine a8d _ _ (by simp) ?_
 simp only[a4t];refine sxTrc ?_
 repeat' ((first|exact tt|refine na fun b=>?_|refine nb fun b hb=>?_|refine iq ?_|(refine jq ?_ ?_<;>intro h h')|refine Two_intro ?_ ?_|exact wZ|fail)<;>try refine sxTrc ?_)
 have hlog:Nat.log2 (n - 1)<30:=by rw[Nat.log2_lt (by omega)];omega
 refine wpx_loop (fun k:Nat=>⟨lk [(0,.int .i64 (n:Int)),(3,.int .i64 ((2 ^ k:Nat):Int))],lk []⟩) (fun k=>k≤Nat.log2 (n - 1)) (fun k=>Nat.log2 (n - 1) - k) 0 (by omega) (Le_lit (by simp[LeL,lk])) ?_
 intro k hk
 have hp:2 ^ k≤2 ^ 30:=Nat.pow_le_pow_right (by omega) (by omega)
 have hp2:2 ^ k≤2 ^ Nat.log2 (n - 1):=Nat.pow_le_pow_right (by omega) hk
 have hl:=Nat.log2_self_le (n:=n - 1) (by omega)
 have hp1:=Nat.two_pow_pos k
 have hs:((2 ^ (k+1):Nat):Int)=2 * ((2 ^ k:Nat):Int):=by rw[Nat.pow_succ];omega
 by_cases hlt:2 * 2 ^ k<n
 ·have f1:a0d (decide (2 * ((2 ^ k:Nat):Int)<(n:Int))=true):=fo
  have hk2:k<Nat.log2 (n - 1):=by
   rcases Nat.lt_or_ge k (Nat.log2 (n - 1)) with h|h
   ·exact h
   ·have e:k=Nat.log2 (n - 1):=by omega
    have:=half_ge h1
    unfold a2e at this
    rw[e]at hlt;omega
  generalize hq:2 ^ k=q at *
  generalize hr:2 ^ (k+1)=r at *
  refine sxTrc ?_
  repeat' ((first|exact tt|refine na fun b=>?_|refine nb fun b hb=>?_|refine iq ?_|(refine jq ?_ ?_<;>intro h h')|refine Two_intro ?_ ?_|exact wZ|fail)<;>try refine sxTrc ?_)
  all_goals exact Round_lit (k+1) ⟨Le_lit (by simp[LeL,lk,hs,hr]),by omega,by omega⟩
 ·have f1:a0d (decide (2 * ((2 ^ k:Nat):Int)<(n:Int))=false):=fo
  have e:2 ^ k=a2e n:=half_one (by omega) (by omega)
  generalize 2 ^ k=q at *
  subst e
  refine sxTrc ?_
  repeat' ((first|exact tt|refine na fun b=>?_|refine nb fun b hb=>?_|refine iq ?_|(refine jq ?_ ?_<;>intro h h')|refine Two_intro ?_ ?_|exact wZ|fail)<;>try refine sxTrc ?_)
set_option maxHeartbeats 4000000 in
theorem b5n:∀ (m:Nat) (own:Option Nat) (l:List Hs),l.length≤m→(∀ x∈l,x.length=32)→l.length≤1000000→CP Tryz.prog 155 [.sl none 32 (hsR l)] (.agg (hcs (b0W l)))
 | m,own,l,hm,h32,hb=>by
  refine a8S _ _ (by simp) ?_
  by_cases h1:1<l.length
  ·have hH:=c0W l.length h1 (by omega)
   have hlt:=half_lt h1
   have hps:=a9X l.length
   have ht:∀ x∈l.take (a2e l.length),x.length=32:=fun x hx=>h32 x (List.mem_of_mem_take hx)
   have hd:∀ x∈l.drop (a2e l.length),x.length=32:=fun x hx=>h32 x (List.mem_of_mem_drop hx)
   obtain ⟨m',rfl⟩:∃ m',m=m'+1:=⟨m - 1,by omega⟩
   have hA:=b5n m' none (l.take (a2e l.length)) (by simp;omega) ht (by simp;omega)
   have hB:=b5n m' none (l.drop (a2e l.length)) (by simp;omega) hd (by simp;omega)
   have hN:=c0Z _ _ (top_len ht) (top_len hd)
   rw[← top_more h1]at hN
   rw[hsR,List.map_take]at hA
   rw[hsR,List.map_drop]at hB
   change CP Tryz.prog 155 [.sl none 32 (List.take _ (hsR l))] _ at hA
   change CP Tryz.prog 155 [.sl none 32 (List.drop _ (hsR l))] _ at hB
   have hl:=a9m l
   obtain ⟨z1,z2,z3,z4⟩:=hz_rules (top_len h32)
   obtain ⟨y1,y2,y3,y4⟩:=hz_rules (top_len ht)
   obtain ⟨x1,x2,x3,x4⟩:=hz_rules (top_len hd)
   have f0:a0d (decide ((l.length:Int)=0)=false):=fo
   have f1:a0d (decide ((l.length:Int)=1)=false):=fo
   clear h32 ht hd hm
   generalize hcs (b0W l)=Z at *
   generalize hcs (b0W (l.take (a2e l.length)))=A at *
   generalize hcs (b0W (l.drop (a2e l.length)))=B at *
   generalize a2e l.length=h at *
   generalize hsR l=X at *
   have hX:List.take l.length X=X:=List.take_of_length_le (by omega)
   simp only[a1Z];refine sxTrc ?_
   repeat' ((first|exact tt|refine CallO_pure (hH) ?_|refine CallW_intro (hA) ?_|refine CallW_intro (hB) ?_|refine CallW_intro (hN) ?_|refine na fun b=>?_|refine nb fun b hb=>?_|refine iq ?_|(refine jq ?_ ?_<;>intro h h')|refine Two_intro ?_ ?_|exact wZ|fail)<;>try refine sxTrc ?_)
  ·have hl:=a9m l
   by_cases h0:l.length=0
   ·have e:hcs (b0W l)=z32:=by
     rw[List.length_eq_zero_iff.1 h0,top_one (by simp)];rfl
    rw[e]
    have f0:a0d (decide ((l.length:Int)=0)=true):=fo
    clear h32 h0
    generalize hsR l=X at *
    simp only[a1Z];refine sxTrc ?_
    repeat' ((first|exact tt|refine na fun b=>?_|refine nb fun b hb=>?_|refine iq ?_|(refine jq ?_ ?_<;>intro h h')|refine Two_intro ?_ ?_|exact wZ|fail)<;>try refine sxTrc ?_)
   ·have hx:=h32 (l.getD 0 b2l) (by rw[List.getD,List.getElem?_eq_getElem (by omega)];exact List.getElem_mem _)
    rw[top_one (by omega)]
    have f0:a0d (decide ((l.length:Int)=0)=false):=fo
    have f1:a0d (decide ((l.length:Int)=1)=true):=fo
    obtain ⟨z1,z2,z3,z4⟩:=hz_rules hx
    have hg:(hsR l).getD 0 []=hcs (l.getD 0 b2l):=by simp[List.getD,show 0<l.length by omega]
    clear h32 hx
    generalize hcs (l.getD 0 b2l)=Z at *
    generalize hsR l=X at *
    simp only[a1Z];refine sxTrc ?_
    repeat' ((first|exact tt|refine na fun b=>?_|refine nb fun b hb=>?_|refine iq ?_|(refine jq ?_ ?_<;>intro h h')|refine Two_intro ?_ ?_|exact wZ|fail)<;>try refine sxTrc ?_)
theorem lvs_snoc{L:List PrP}{i:Nat}(h:i<L.length):hsR ((a7k L).take (i+1))=hsR ((a7k L).take i)++[hcs (a8I (L.getD i default).1 (L.getD i default).2)]:=by
 have hl:(a7k L).length=L.length:=by simp[a7k]
 rw[List.take_succ,List.getElem?_eq_getElem (by omega)]
 simp[a7k,List.getD,h]
theorem b7y(L:List PrP)(hb:L.length≤1000)(hs:∀ i,i<L.length→(L.getD i default).1.length≤1000000∧(L.getD i default).2.length≤1000000):CP Tryz.prog 76 [.sl none 2 (prR L)] (.sl (some 29) 32 (hsR (a7k L))):=by
 refine a6y _ _ (by simp) ?_
 simp only[a3i];refine sxTrc ?_
 repeat' ((first|exact tt|refine na fun b=>?_|refine nb fun b hb=>?_|refine iq ?_|(refine jq ?_ ?_<;>intro h h')|refine Two_intro ?_ ?_|exact wZ|fail)<;>try refine sxTrc ?_)
 have hll:(a7k L).length=L.length:=by simp[a7k]
 have hmx:maxLen=9223372036854775807:=rfl
 refine wpx_loop (fun i:Nat=>⟨lk [(0,.sl none 2 (prR L)),(3,.sl (some 29) 32 (hsR ((a7k L).take i))),(4,.int .i64 (i:Int))],lk []⟩) (fun i=>i≤L.length) (fun i=>L.length - i) 0 (by omega) (Le_lit (by simp[LeL,lk])) ?_
 intro i hi
 have hXl:(hsR ((a7k L).take i)).length=i:=by rw[a9m,List.length_take];omega
 by_cases hlt:i<L.length
 ·have f1:a0d (decide ((i:Int)<L.length)=true):=fo
  obtain ⟨s1,s2⟩:=hs i hlt
  have hL:=c0X _ _ s1 s2
  obtain ⟨z1,z2,z3,z4⟩:=hz_rules (a7L (L.getD i default).1 (L.getD i default).2)
  have hn:=lvs_snoc hlt
  clear hs
  generalize hX':hsR ((a7k L).take (i+1))=X' at *
  generalize hsR ((a7k L).take i)=X at *
  generalize hcs (a8I (L.getD i default).1 (L.getD i default).2)=Z at *
  obtain ⟨⟨k,v⟩,hgd⟩:∃ a,L.getD i default=a:=⟨_,rfl⟩
  rw[hgd]at hL s1 s2
  refine sxTrc ?_
  repeat' ((first|exact tt|refine CallW_intro (hL) ?_|refine na fun b=>?_|refine nb fun b hb=>?_|refine iq ?_|(refine jq ?_ ?_<;>intro h h')|refine Two_intro ?_ ?_|exact wZ|fail)<;>try refine sxTrc ?_)
  all_goals exact Round_lit (i+1) ⟨Le_lit (by simp[LeL,lk,hX',hn]),hlt,by omega⟩
 ·obtain rfl:i=L.length:=by omega
  have f1:a0d (decide ((L.length:Int)<L.length)=false):=fo
  rw[List.take_of_length_le (by omega)]at hXl ⊢
  generalize hsR (a7k L)=X at *
  refine sxTrc ?_
  repeat' ((first|exact tt|refine na fun b=>?_|refine nb fun b hb=>?_|refine iq ?_|(refine jq ?_ ?_<;>intro h h')|refine Two_intro ?_ ?_|exact wZ|fail)<;>try refine sxTrc ?_)
theorem b7c(L:List PrP)(hb:L.length≤1000)(hs:∀ i,i<L.length→(L.getD i default).1.length≤1000000∧(L.getD i default).2.length≤1000000):CP Tryz.prog 88 [.sl none 2 (prR L)] (.agg (hcs (b2J L))):=by
 have hl:(a7k L).length=L.length:=by simp[a7k]
 have hA:=b7y L hb hs
 have hB:=b5n (a7k L).length none (a7k L) (Nat.le_refl _) (b4J L) (by omega)
 have hC:=c1a L.length (b0W (a7k L)) (top_len (b4J L)) (by omega)
 obtain ⟨z1,z2,z3,z4⟩:=hz_rules (a8l L.length (b0W (a7k L)))
 obtain ⟨y1,y2,y3,y4⟩:=hz_rules (top_len (b4J L))
 unfold b2J
 generalize hcs (a9G L.length (b0W (a7k L)))=Z at *
 generalize hcs (b0W (a7k L))=Y at *
 generalize hsR (a7k L)=X at *
 clear hs
 refine a6x _ _ (by simp) ?_
 simp only[a3h];refine sxTrc ?_
 repeat' ((first|exact tt|refine CallO_pure (hA) ?_|refine CallO_pure (hB) ?_|refine CallO_pure (hC) ?_|refine na fun b=>?_|refine nb fun b hb=>?_|refine iq ?_|(refine jq ?_ ?_<;>intro h h')|refine Two_intro ?_ ?_|exact wZ|fail)<;>try refine sxTrc ?_)
end
section
open Go.RowKit
set_option maxRecDepth 100000
def c1G(l:List PrP):Prop:=∀ i,i<l.length→(l.getD i default).1.length≤400∧(l.getD i default).2.length≤400
theorem b1Z(L l:List PrP):∀ i,(a5N L l i).length≤L.length+i
 | 0=>Nat.le_refl _
 | i+1=>by
  have h1:=b1Z L l i
  have h2:=b0S (a5N L l i) (l.getD i default).1 (l.getD i default).2
  simp only[a5N];omega
theorem sxTrd{A B:Prop}(h:B)(e:A=B:=by (simp (disch:=omega) only[*, ↓Ed,Eu, ↓reduceIte,reduceCtorEq,Nat.reduceAdd,Nat.reduceEqDiff,Nat.reduceLT,Nat.reduceLeDiff,Int.reduceToNat,Int.reduceEq,Int.reduceLT,Int.reduceLE,w64,List.length_append,List.length_map,List.length_cons,List.length_nil,Int.reduceAdd,Nat.zero_add,Nat.mul_one,a0w,a1g];first|done|rfl)):A:=e▸h
set_option maxHeartbeats 4000000 in
theorem c1M(l:List PrP)(hl:c1G l)(hb:l.length≤100):CP Tryz.prog 31 [.sl none 2 (prR l)] (.sl (some 102) 2 (prR (a5N [] l l.length))):=by
 refine a7Y _ _ (by simp) ?_
 simp only[a4o];refine sxTrd ?_
 repeat' ((first|exact tt|refine na fun b=>?_|refine nb fun b hb=>?_|refine iq ?_|(refine jq ?_ ?_<;>intro h h')|refine Two_intro ?_ ?_|exact wZ|fail)<;>try refine sxTrd ?_)
 refine wpx_loop (fun q:Nat=>⟨lk [(0,.sl none 2 (prR l)),(3,.sl (some 102) 2 (prR (a5N [] l q))),(4,.int .i64 (q:Int))],lk []⟩) (fun q=>q≤l.length) (fun q=>l.length - q) 0 (by omega) (Le_lit (by simp[LeL,lk,a5N,prR])) ?_
 intro i hi
 have hml:=b1Z [] l i
 by_cases hlt:i<l.length
 ·have f1:a0d (decide ((i:Int)<l.length)=true):=fo
  obtain ⟨s1,s2⟩:=hl i hlt
  have hM:=b1H (l.getD i default).1 (l.getD i default).2 (by omega) (by omega)
  have hS:=a9D (a5N [] l i) (by simp only[List.length_nil]at hml;omega) (l.getD i default).1 (l.getD i default).2
  have hn:a5N [] l (i+1)=a7f (a5N [] l i) (l.getD i default).1 (l.getD i default).2:=rfl
  unfold a7f at hn
  clear hl
  obtain ⟨⟨k,v⟩,hgd⟩:∃ a,l.getD i default=a:=⟨_,rfl⟩
  rw[hgd]at hM hS hn s1 s2
  generalize hX':a5N [] l (i+1)=X' at *
  generalize a5N [] l i=X at *
  cases hm:a0Z k v with
  | true=>
   rw[show a0Z (k,v).1 (k,v).2=true from hm]at hM hn
   rw[if_pos rfl]at hn
   rw[← hn]at hS
   clear hm hn hml
   refine sxTrd ?_
   repeat' ((first|exact tt|refine CallW_intro (hM) ?_|refine CallW_intro (hS) ?_|refine na fun b=>?_|refine nb fun b hb=>?_|refine iq ?_|(refine jq ?_ ?_<;>intro h h')|refine Two_intro ?_ ?_|exact wZ|fail)<;>try refine sxTrd ?_)
   all_goals exact Round_lit (i+1) ⟨Le_lit (by simp[LeL,lk,hX']),hlt,by omega⟩
  | false=>
   rw[show a0Z (k,v).1 (k,v).2=false from hm]at hM hn
   rw[if_neg (by simp)]at hn
   clear hm hS hml
   refine sxTrd ?_
   repeat' ((first|exact tt|refine CallW_intro (hM) ?_|refine na fun b=>?_|refine nb fun b hb=>?_|refine iq ?_|(refine jq ?_ ?_<;>intro h h')|refine Two_intro ?_ ?_|exact wZ|fail)<;>try refine sxTrd ?_)
   all_goals exact Round_lit (i+1) ⟨Le_lit (by simp[LeL,lk,hX',hn]),hlt,by omega⟩
 ·obtain rfl:i=l.length:=by omega
  have f1:a0d (decide ((l.length:Int)<l.length)=false):=fo
  clear hml
  generalize a5N [] l l.length=X at *
  refine sxTrd ?_
  repeat' ((first|exact tt|refine na fun b=>?_|refine nb fun b hb=>?_|refine iq ?_|(refine jq ?_ ?_<;>intro h h')|refine Two_intro ?_ ?_|exact wZ|fail)<;>try refine sxTrd ?_)
end
section
open Go.RowKit Go.Lib
set_option maxRecDepth 100000
theorem c0v(l:List a9L):(enR l).length=l.length:=by simp
theorem c0u(l:List a9L)(i:Nat)(h:i<l.length):(enR l).getD i []=enC (l.getD i default):=by simp[h]
theorem sxSam{A B:Prop}(h:B)(e:A=B:=by (simp (disch:=omega) only[*, ↓Ed,Eu, ↓reduceIte,reduceCtorEq,Nat.reduceAdd,Nat.reduceEqDiff,Nat.reduceLT,Nat.reduceLeDiff,Int.reduceToNat,Int.reduceEq,Int.reduceLT,Int.reduceLE,w64,a0w,a1g,c0v,c0u];first|done|rfl)):A:=e▸h
theorem b7q(L:List PrP)(hb:L.length≤1000)(e:Option Nat):CP Tryz.prog 62 [prV L,prV L] (.bool true):=by
 refine a6Y _ _ (by simp) ?_
 simp only[a3z];refine sxSam ?_
 repeat' ((first|exact tt|refine na fun b=>?_|refine nb fun b hb=>?_|refine iq ?_|(refine jq ?_ ?_<;>intro h h')|refine Two_intro ?_ ?_|exact wZ|fail)<;>try refine sxSam ?_)
 all_goals first|(exfalso;omega)|skip
 refine wpx_loop (fun i:Nat=>⟨lk [(0,prV L),(1,prV L),(5,.int .i64 (i:Int))],lk []⟩) (fun i=>i≤L.length) (fun i=>L.length - i) 0 (by omega) (Le_lit (by simp[LeL,lk])) ?_
 intro i hi
 by_cases hlt:i<L.length
 ·have f1:a0d (decide ((i:Int)<L.length)=true):=fo
  refine sxSam ?_
  repeat' ((first|exact tt|refine na fun b=>?_|refine nb fun b hb=>?_|refine iq ?_|(refine jq ?_ ?_<;>intro h h')|refine Two_intro ?_ ?_|exact wZ|fail)<;>try refine sxSam ?_)
  all_goals exact Round_lit (i+1) ⟨Le_lit (by simp[LeL,lk]),hlt,by omega⟩
 ·have f1:a0d (decide ((i:Int)<L.length)=false):=fo
  refine sxSam ?_
  repeat' ((first|exact tt|refine na fun b=>?_|refine nb fun b hb=>?_|refine iq ?_|(refine jq ?_ ?_<;>intro h h')|refine Two_intro ?_ ?_|exact wZ|fail)<;>try refine sxSam ?_)
def b1T(e x:a9L):Bool:=decide (x.1=e.1)&&decide (x.2=e.2)
theorem b4B(e x:a9L):b1T e x=true↔x=e:=by
 obtain ⟨a,b⟩:=e;obtain ⟨c,d⟩:=x
 simp[b1T]
end
section
open Go.RowKit Go.Lib
set_option maxRecDepth 100000
structure GnC where
 p:List UInt8
 c:Int
 q:List UInt8
 d:Int
 o:Bool
 n:Int
 deriving Inhabited
abbrev GnC.cs(x:GnC):List AV:=[.str x.p,.int .i64 x.c,.str x.q,.int .i64 x.d,.bool x.o,.int .i64 x.n]
def gns(l:List GnC):List (List AV):=l.map GnC.cs
theorem a1B(l:List GnC):(gns l).length=l.length:=by simp[gns]
theorem a1A(l:List GnC)(i:Nat)(h:i<l.length):(gns l).getD i []=(l.getD i default).cs:=by simp[gns,h]
noncomputable def okG (x:GnC):Bool:=a1S x.p x.c&&a1S x.q x.d&&(decide (1≤x.n)&&decide (x.n≤1099511627777))
def a2K(x:GnC):a9L:=(x.p,x.c)
noncomputable def a7I:List a9L→List GnC→Int
 | _,[]=>0
 | s,x::r=>if okG x=false then 1 else if s.any (b1T (a2K x))=true then 8 else a7I (s++[a2K x]) r
noncomputable def b1Q (l:List GnC):Int:=if 6<l.length then 22 else a7I [] l
theorem chk_step{l:List GnC}{i:Nat}(h:i<l.length):a7I ((l.take i).map a2K) (l.drop i)=if okG (l.getD i default)=false then 1 else if ((l.take i).map a2K).any (b1T (a2K (l.getD i default)))=true then 8 else a7I ((l.take (i+1)).map a2K) (l.drop (i+1)):=by
 rw[List.drop_eq_getElem_cons h,a7I]
 have e:l[i]=l.getD i default:=by simp[List.getD,h]
 rw[e,take_snocA h,List.map_append];rfl
def b1x(l:List GnC):Prop:=∀ i,i<l.length→(l.getD i default).p.length≤1000∧(l.getD i default).q.length≤1000
theorem any_t{l:List GnC}{i k:Nat}{e:a9L}(hk:k<i)(hi:i≤l.length)(h:b1T e (a2K (l.getD k default))=true):((l.take i).map a2K).any (b1T e)=true:=by
 rw[List.any_eq_true]
 have h1:k<(l.take i).length:=by rw[List.length_take];omega
 refine ⟨a2K (l.getD k default),List.mem_map.2 ⟨l.getD k default, ?_,rfl⟩,h⟩
 have e1:l.getD k default=(l.take i)[k]:=by simp[List.getD,show k<l.length by omega]
 rw[e1];exact List.getElem_mem h1
theorem any_f{l:List GnC}{i:Nat}{e:a9L}(hi:i≤l.length)(h:∀ j,j<i→b1T e (a2K (l.getD j default))=false):((l.take i).map a2K).any (b1T e)=false:=by
 rw[List.any_eq_false]
 intro x hx
 obtain ⟨y,hy,rfl⟩:=List.mem_map.1 hx
 obtain ⟨j,hj,rfl⟩:=List.getElem_of_mem hy
 have hj':j<i∧j<l.length:=by rw[List.length_take]at hj;omega
 have:=h j hj'.1
 simp only[List.getD,List.getElem?_eq_getElem hj'.2,Option.getD_some]at this
 rw[List.getElem_take,this];simp
theorem sxChg{A B:Prop}(h:B)(e:A=B:=by (simp (disch:=omega) only[*, ↓Ed,Eu, ↓reduceIte,reduceCtorEq,Nat.reduceAdd,Nat.reduceEqDiff,Nat.reduceLT,Nat.reduceLeDiff,Int.reduceToNat,Int.reduceEq,Int.reduceLT,Int.reduceLE,w64,a1B,a1A,GnC.cs];first|done|rfl)):A:=e▸h
set_option maxHeartbeats 8000000 in
theorem b2B(l:List GnC)(hl:b1x l)(hb:l.length≤1000):CP Tryz.prog 35 [.sl none 6 (gns l)] (.int .i64 (b1Q l)):=by
 refine a3J _ _ (by simp) ?_
 by_cases h6:6<l.length
 ·have f0:a0d (decide ((6:Int)<l.length)=true):=fo
  unfold b1Q
  rw[if_pos h6]
  simp only[a1f];refine sxChg ?_
  repeat' ((first|exact tt|refine na fun b=>?_|refine nb fun b hb=>?_|refine iq ?_|(refine jq ?_ ?_<;>intro h h')|refine Two_intro ?_ ?_|exact wZ|fail)<;>try refine sxChg ?_)
 have f0:a0d (decide ((6:Int)<l.length)=false):=fo
 unfold b1Q
 rw[if_neg h6]
 simp only[a1f];refine sxChg ?_
 repeat' ((first|exact tt|refine na fun b=>?_|refine nb fun b hb=>?_|refine iq ?_|(refine jq ?_ ?_<;>intro h h')|refine Two_intro ?_ ?_|exact wZ|fail)<;>try refine sxChg ?_)
 refine wpx_loop (fun i:Nat=>⟨lk [(0,.sl none 6 (gns l)),(3,.int .i64 (i:Int))],lk []⟩) (fun i=>i≤l.length∧a0d (a7I [] l=a7I ((l.take i).map a2K) (l.drop i))) (fun i=>l.length - i) 0 ⟨by omega,rfl⟩ (Le_lit (by simp[LeL,lk])) ?_
 intro i ⟨i1,i2⟩
 have i2:a7I [] l=a7I ((l.take i).map a2K) (l.drop i):=i2
 rw[i2]
 by_cases hil:i<l.length
 ·have f1:a0d (decide ((i:Int)<l.length)=true):=fo
  have hst:=chk_step hil
  have hli:=hl i hil
  obtain ⟨⟨p,c,q,d,o,n⟩,hgd⟩:∃ a,l.getD i default=a:=⟨_,rfl⟩
  rw[hgd]at hst hli
  have hM1:=a2U p c (by have:=hli.1;simp only at this;omega)
  have hM2:=a2U q d (by have:=hli.2;simp only at this;omega)
  clear hli hl
  by_cases hn:1≤n∧n≤1099511627777
  ·have hok:okG ⟨p,c,q,d,o,n⟩=(a1S p c&&a1S q d):=by
    unfold okG
    simp only[decide_eq_true hn.1,decide_eq_true hn.2,Bool.and_true]
   rw[hok]at hst
   clear hok
   cases ha:a1S p c with
   | false=>
    rw[ha,Bool.false_and,if_pos rfl]at hst
    rw[ha]at hM1
    rw[hst]
    clear hst i2
    refine sxChg ?_
    repeat' ((first|exact tt|refine CallO_pure (hM1) ?_|refine na fun b=>?_|refine nb fun b hb=>?_|refine iq ?_|(refine jq ?_ ?_<;>intro h h')|refine Two_intro ?_ ?_|exact wZ|fail)<;>try refine sxChg ?_)
   | true=>
    rw[ha]at hM1
    cases hb':a1S q d with
    | false=>
     rw[ha,hb',Bool.true_and,if_pos rfl]at hst
     rw[hb']at hM2
     rw[hst]
     clear hst i2
     refine sxChg ?_
     repeat' ((first|exact tt|refine CallO_pure (hM1) ?_|refine CallO_pure (hM2) ?_|refine na fun b=>?_|refine nb fun b hb=>?_|refine iq ?_|(refine jq ?_ ?_<;>intro h h')|refine Two_intro ?_ ?_|exact wZ|fail)<;>try refine sxChg ?_)
    | true=>
     rw[ha,hb',Bool.true_and,if_neg (by simp)]at hst
     rw[hb']at hM2
     have hi0:=i2
     rw[hst]at i2 ⊢
     clear ha hb'
     have hgo:a2K ⟨p,c,q,d,o,n⟩=(p,c):=rfl
     rw[hgo]at hst i2 ⊢
     refine sxChg ?_
     repeat' ((first|exact tt|refine CallO_pure (hM1) ?_|refine CallO_pure (hM2) ?_|refine na fun b=>?_|refine nb fun b hb=>?_|refine iq ?_|(refine jq ?_ ?_<;>intro h h')|refine Two_intro ?_ ?_|exact wZ|fail)<;>try refine sxChg ?_)
     refine wpx_loop (fun k:Nat=>⟨lk [(0,.sl none 6 (gns l)),(3,.int .i64 (i:Int)),(4,.int .i64 (k:Int))],lk []⟩) (fun k=>k≤i∧a0d (∀ j,j<k→b1T (p,c) (a2K (l.getD j default))=false)) (fun k=>i - k) 0 ⟨by omega,fun j hj=>by omega⟩ (Le_lit (by simp[LeL,lk])) ?_
     intro k ⟨k1,k2⟩
     have k2:∀ j,j<k→b1T (p,c) (a2K (l.getD j default))=false:=k2
     by_cases hki:k<i
     ·have f3:a0d (decide ((k:Int)<i)=true):=fo
      obtain ⟨⟨p',c',q',d',o',n'⟩,hgk⟩:∃ a,l.getD k default=a:=⟨_,rfl⟩
      cases hq:b1T (p,c) (p',c') with
      | true=>
       have hA:=any_t (l:=l) (e:=(p,c)) hki (by omega) (by rw[hgk];exact hq)
       rw[if_pos hA]
       clear hst i2 hi0 hA k2
       unfold b1T at hq
       refine sxChg ?_
       repeat' ((first|exact tt|refine na fun b=>?_|refine nb fun b hb=>?_|refine iq ?_|(refine jq ?_ ?_<;>intro h h')|refine Two_intro ?_ ?_|exact wZ|fail)<;>try refine sxChg ?_)
      | false=>
       have hk':∀ j,j<k+1→b1T (p,c) (a2K (l.getD j default))=false:=fun j hj=>by
        by_cases e:j<k
        ·exact k2 j e
        ·obtain rfl:j=k:=by omega
         rw[hgk];exact hq
       clear hst i2 hi0 k2
       unfold b1T at hq
       simp only at hq
       generalize (if ((l.take i).map a2K).any (b1T (p,c))=true then (8:Int) else a7I ((l.take (i+1)).map a2K) (l.drop (i+1)))=res at *
       refine sxChg ?_
       repeat' ((first|exact tt|refine na fun b=>?_|refine nb fun b hb=>?_|refine iq ?_|(refine jq ?_ ?_<;>intro h h')|refine Two_intro ?_ ?_|exact wZ|fail)<;>try refine sxChg ?_)
       all_goals exact Round_lit (k+1) ⟨Le_lit (by simp[LeL,lk]),⟨hki,hk'⟩,by omega⟩
     ·obtain rfl:k=i:=by omega
      have f3:a0d (decide ((k:Int)<k)=false):=fo
      have hA:=any_f (l:=l) (e:=(p,c)) i1 k2
      rw[if_neg (by rw[hA];simp)]at i2 ⊢
      rw[← i2]
      clear hst hi0 k2 hA
      have i3:a0d (a7I [] l=a7I ((l.take (k+1)).map a2K) (l.drop (k+1))):=i2
      clear i2
      refine sxChg ?_
      repeat' ((first|exact tt|refine na fun b=>?_|refine nb fun b hb=>?_|refine iq ?_|(refine jq ?_ ?_<;>intro h h')|refine Two_intro ?_ ?_|exact wZ|fail)<;>try refine sxChg ?_)
      all_goals exact Round_lit (k+1) ⟨Le_lit (by simp[LeL,lk]),⟨hil,i3⟩,by omega⟩
  ·have hok:okG ⟨p,c,q,d,o,n⟩=false:=by
    unfold okG
    cases a1S p c<;>cases a1S q d<;>simp<;>omega
   rw[hok,if_pos rfl]at hst
   rw[hst]
   clear hst hok i2
   generalize a1S p c=a1 at *
   generalize a1S q d=a2 at *
   cases a1<;>cases a2
   all_goals
    refine sxChg ?_
    repeat' ((first|exact tt|refine CallO_pure (hM1) ?_|refine CallO_pure (hM2) ?_|refine na fun b=>?_|refine nb fun b hb=>?_|refine iq ?_|(refine jq ?_ ?_<;>intro h h')|refine Two_intro ?_ ?_|exact wZ|fail)<;>try refine sxChg ?_)
   all_goals first|skip;done|(exfalso;omega)
 ·obtain rfl:i=l.length:=by omega
  have f1:a0d (decide ((l.length:Int)<l.length)=false):=fo
  rw[List.drop_length,a7I]
  clear i2
  refine sxChg ?_
  repeat' ((first|exact tt|refine na fun b=>?_|refine nb fun b hb=>?_|refine iq ?_|(refine jq ?_ ?_<;>intro h h')|refine Two_intro ?_ ?_|exact wZ|fail)<;>try refine sxChg ?_)
end
end Go.Proofs.YtfgihnhoocnmdaaGreatDoor
