import Derived.Test.YtgdhinnepnlihaaGreatDoorK18
import Derived.Test.YtgdhinnepnlihaaGreatDoorK16
import Derived.Test.YtgdhinnepnlihaaGreatDoorK11
import Derived.Test.YtgdhinnepnlihaaGreatDoorK12
namespace Go.Proofs.YtgdhinnepnlihaaGreatDoor
set_option linter.all false
set_option maxHeartbeats 9000000
section
open Go.RowKit
set_option maxRecDepth 100000
theorem a5V(n:Nat):(len8 n).length=8:=by simp[len8]
theorem tm1(n:Nat):(n:Int).tmod 64=((n % 64:Nat):Int):=rfl
theorem tm2(n:Nat):(119 - ((n % 64:Nat):Int)).tmod 64=(((119 - n % 64) % 64:Nat):Int):=by
 rw[show (119 - ((n % 64:Nat):Int))=((119 - n % 64:Nat):Int) by omega];rfl
theorem tq4(i:Nat):(i:Int).tdiv 4=((i / 4:Nat):Int):=rfl
theorem tm4(i:Nat):(i:Int).tmod 4=((i % 4:Nat):Int):=rfl
theorem sh4(i:Nat):(24 - ((i % 4:Nat):Int) * 8).toNat=24 - 8 * (i % 4):=by omega
theorem a9t(l:List UInt8)(i:Nat)(x:UInt8)(hi:i<l.length):splice (l.map byC) i [byC x]=(l.set i x).map byC:=by
 induction l generalizing i with
 | nil=>simp at hi
 | cons y l ih=>cases i with
  | zero=>simp[splice]
  | succ i=>simp only[List.map_cons,splice,List.set_cons_succ];rw[ih i (by simpa using hi)]
abbrev z32:List AV:=[.int .u8 0,.int .u8 0,.int .u8 0,.int .u8 0,.int .u8 0,.int .u8 0,.int .u8 0,.int .u8 0,.int .u8 0,.int .u8 0,.int .u8 0,.int .u8 0,.int .u8 0,.int .u8 0,.int .u8 0,.int .u8 0,.int .u8 0,.int .u8 0,.int .u8 0,.int .u8 0,.int .u8 0,.int .u8 0,.int .u8 0,.int .u8 0,.int .u8 0,.int .u8 0,.int .u8 0,.int .u8 0,.int .u8 0,.int .u8 0,.int .u8 0,.int .u8 0]
theorem sxShd{A B:Prop}(h:B)(e:A=B:=by (simp (disch:=omega) only[*, ↓Ed,Eu, ↓reduceIte,reduceCtorEq,Nat.reduceAdd,Nat.reduceEqDiff,Nat.reduceLT,Nat.reduceLeDiff,Int.reduceToNat,Int.reduceEq,Int.reduceLT,Int.reduceLE,w64,List.length_append,List.length_map,List.length_replicate,List.length_cons,List.length_nil,List.length_drop,List.length_take,a5V,Int.toNat_natCast,nn,Nat.mul_one,Nat.zero_add,Int.reduceAdd,a5S,tm1,tm2,tq4,tm4,sh4,a7s,b5J];first|done|rfl)):A:=e▸h
theorem b6Z:CP Tryz.prog 277 [] (.agg sha0.c8):=by
 refine b0I _ _ (by simp) ?_
 simp only[a7J];refine sxShd ?_
 repeat' ((first|exact tt|refine na fun b=>?_|refine nb fun b hb=>?_|refine iq ?_|(refine jq ?_ ?_<;>intro h h')|refine Two_intro ?_ ?_|exact wZ|fail)<;>try refine sxShd ?_)
 all_goals rfl
set_option maxHeartbeats 2000000 in
theorem b8P(g:AV)(l:List (List UInt8))(hg:g.alias=.sl none 1 (l.map fun p=>[.str p]))(hn:l.length≤1000000)(hl:l.flatten.length≤140737488355328):CP Tryz.prog 229 [g] (.agg (hcs (b5x l.flatten))):=by
 have hJ:=b6U none [] l (by omega) (by rw[a5S];exact hl)
 rw[a5S]at hJ
 generalize l.flatten=s at *
 have hR:=b8D ((119 - s.length % 64) % 64) (by omega)
 have hL:=b8L s.length (by omega)
 refine b2Q _ _ (by simp) ?_
 simp only[b0n];refine sxShd ?_
 repeat' ((first|exact tt|refine CallO_pure (hJ) ?_|refine CallO_pure (hR) ?_|refine CallO_pure (hL) ?_|refine CallO_pure (b6Z) ?_|refine na fun b=>?_|refine nb fun b hb=>?_|refine iq ?_|(refine jq ?_ ?_<;>intro h h')|refine Two_intro ?_ ?_|exact wZ|fail)<;>try refine sxShd ?_)
 rename_i br
 clear hJ hR hL
 obtain ⟨N,hN,hN1⟩:∃ N,(a3K s).length=64 * N∧(a3K s).length / 64=N:=⟨_,(b2k s).1,rfl⟩
 have hSh:b5x s=a6p (a9j (a3K s) N):=by rw[← hN1];rfl
 have hPd:a3K s=s++([128]++List.replicate ((119 - s.length % 64) % 64) 0++len8 s.length):=by simp[a3K]
 obtain ⟨z,hz,hzl⟩:∃ z:List AV,z32=z∧z.length=32:=⟨_,rfl,rfl⟩
 have hPl:(a3K s).length≤140737488355328+200:=by rw[hPd];simp[len8];omega
 refine wpx_loop (fun k:Nat=>⟨lk [(2,.ptr br 0),(3,.str ((a3K s).drop (64 * k))),(5,.ptr b 0)],lk [(br,z),(b,(a9j (a3K s) k).c8)]⟩) (fun k=>k≤N) (fun k=>N - k) 0 (by omega) (Le_lit (by rw[← hz,hPd];simp[LeL,lk,hb,a9j])) ?_
 clear hz hPd hN1
 rw[hSh]
 clear hSh
 intro k hk
 by_cases hlt:k<N
 ·have hne:(a3K s).drop (64 * k)≠[]:=fun e=>by
   have:=congrArg List.length e
   rw[List.length_drop]at this
   simp at this;omega
  have f1:a0a (decide ((a3K s).drop (64 * k)=[])=false):=by simp only[a0a,Hn];exact hne
  have hR:a9j (a3K s) (k+1)=b6M (a9j (a3K s) k) (((a3K s).drop (64 * k)).take 64):=rfl
  have hM:=c0M (a9j (a3K s) k) (((a3K s).drop (64 * k)).take 64) (by rw[List.length_take,List.length_drop];omega)
  have hdl:((a3K s).drop (64 * k)).length=64 * N - 64 * k:=by rw[List.length_drop,hN]
  have hdd:((a3K s).drop (64 * k)).drop 64=(a3K s).drop (64 * (k+1)):=by rw[List.drop_drop];congr 1
  rw[← hR]at hM
  have hdt:((a3K s).drop (64 * k)).take (64 * N - 64 * k)=(a3K s).drop (64 * k):=List.take_of_length_le (by omega)
  generalize hS':a9j (a3K s) (k+1)=S' at *
  generalize a9j (a3K s) k=S at *
  generalize (a3K s).drop (64 * k)=q at *
  clear hne hR
  refine sxShd ?_
  repeat' ((first|exact tt|refine CallW_intro (hM) ?_|refine na fun b=>?_|refine nb fun b hb=>?_|refine iq ?_|(refine jq ?_ ?_<;>intro h h')|refine Two_intro ?_ ?_|exact wZ|fail)<;>try refine sxShd ?_)
  all_goals exact Round_lit (k+1) ⟨Le_lit (by simp[LeL,lk,hb, *]),by omega,by omega⟩
 obtain rfl:k=N:=by omega
 have hne:(a3K s).drop (64 * k)=[]:=List.drop_eq_nil_of_le (by omega)
 have f1:a0a (decide ((a3K s).drop (64 * k)=[])=true):=by simp only[a0a,Hn];exact hne
 generalize a9j (a3K s) k=S at *
 rw[hne]at f1 ⊢
 clear hne hN hlt hk hPl
 refine sxShd ?_
 repeat' ((first|exact tt|refine na fun b=>?_|refine nb fun b hb=>?_|refine iq ?_|(refine jq ?_ ?_<;>intro h h')|refine Two_intro ?_ ?_|exact wZ|fail)<;>try refine sxShd ?_)
 rename_i bs hbs
 clear f1
 have hO:(a9V S 0).map byC=z32:=rfl
 have h8:S.c8=S.l.map aW:=rfl
 refine wpx_loop (fun i:Nat=>⟨lk [(2,.ptr br 0),(5,.ptr bs 0),(6,.ptr b 0),(32,.int .i64 (i:Int))],lk [(br,z),(bs,S.l.map aW),(b,(a9V S i).map byC)]⟩) (fun i=>i≤32) (fun i=>32 - i) 0 (by omega) (Le_lit (by rw[hO];simp[LeL,lk,hb,hbs])) ?_
 clear hO h8
 intro i hi
 by_cases hlt:i<32
 ·have f1:a0a (decide ((i:Int)<32)=true):=fo
  have h4:i / 4<8:=by omega
  have hld:=b0l S.l (i / 4) h4
  have hst:=a9t (a9V S i) i (b6a S i) (by rw[a7w S i hi];exact hlt)
  rw[b2b S i hlt _ rfl]at hst
  have hlen:((a9V S i).map byC).length=32:=by rw[List.length_map,a7w S i hi]
  have hlen8:(S.l.map aW).length=8:=rfl
  have hB:b6a S i=wB ((S.l.getD (i / 4) 0) >>> (24 - 8 * (i % 4))):=rfl
  rw[hB]at hst
  simp only[byC]at hst
  generalize S.l=sl at *
  generalize (a9V S i).map byC=X at *
  clear hB
  refine sxShd ?_
  repeat' ((first|exact tt|refine na fun b=>?_|refine nb fun b hb=>?_|refine iq ?_|(refine jq ?_ ?_<;>intro h h')|refine Two_intro ?_ ?_|exact wZ|fail)<;>try refine sxShd ?_)
  all_goals exact Round_lit (i+1) ⟨Le_lit (by simp[LeL,lk,hb,hbs]),by omega,by omega⟩
 have f1:a0a (decide ((i:Int)<32)=false):=fo
 obtain rfl:i=32:=by omega
 have hT:List.take 32 (hcs (a6p S))=hcs (a6p S):=List.take_of_length_le (by simp[a6p])
 have hst:(hcs (a6p S)).map AV.store=hcs (a6p S):=by rw[List.map_map];rfl
 have hP:=a2w z (hcs (a6p S)) (by rw[hzl];simp[a6p])
 have hL:(hcs (a6p S)).length=32:=by simp[a6p]
 rw[show (a9V S 32).map byC=hcs (a6p S) by rw[b2a]]
 generalize hcs (a6p S)=X at *
 generalize S.l.map aW=Y at *
 refine sxShd ?_
 repeat' ((first|exact tt|refine na fun b=>?_|refine nb fun b hb=>?_|refine iq ?_|(refine jq ?_ ?_<;>intro h h')|refine Two_intro ?_ ?_|exact wZ|fail)<;>try refine sxShd ?_)
end
section
open Go.RowKit
set_option maxRecDepth 100000
theorem t32(n:Nat):(32 - (n:Int)).toNat=32 - n:=by omega
theorem b8h(l:List UInt8)(i:Nat)(h:i<l.length):(l.map a0r).getD i []=a0r (l.getD i 0):=by simp[List.getD,h]
theorem c0q(b:UInt8)(K:AV→Prop):RK (ldR none (a0r b)) K=K (.int .u8 (b.toNat:Int)):=by simp[RK,ldR,a0r,AV.alias]
theorem sxShr{A B:Prop}(h:B)(e:A=B:=by (simp (disch:=omega) only[*, ↓Ed,Eu, ↓reduceIte,reduceCtorEq,Nat.reduceAdd,Nat.reduceEqDiff,Nat.reduceLT,Nat.reduceLeDiff,Int.reduceToNat,Int.reduceEq,Int.reduceLT,Int.reduceLE,w64,List.length_append,List.length_map,b6o,b4n,b4p,b4m,b4o,b1b,a7s,b9D,Int.toNat_natCast,nn,b8o,b8p,b8q,c1Z,c2a,b9y,b9z,b9A,Nat.mul_one,Nat.zero_add,Int.reduceAdd,b6l,a3F,b5u,b9O,a1C,S8.c8,a6L,t32,c0U,b8h,a6I,c0q];first|done|rfl)):A:=e▸h
theorem b7l(x:Wd)(n:Nat)(h:1≤n∧n≤31):CP Tryz.prog 273 [aW x,.int .i64 (n:Int)] (aW (rot x n)):=by
 refine a8o _ _ (by simp) ?_
 simp only[a5i];refine sxShr ?_
 repeat' ((first|exact tt|refine na fun b=>?_|refine nb fun b hb=>?_|refine iq ?_|(refine jq ?_ ?_<;>intro h h')|refine Two_intro ?_ ?_|exact wZ|fail)<;>try refine sxShr ?_)
 all_goals omega
theorem a2o(x:Wd)(k:Int)(n:Nat)(hk:k=(n:Int))(h:1≤n∧n≤31):CP Tryz.prog 273 [aW x,.int .i64 k] (aW (rot x n)):=by subst hk;exact b7l x n h
theorem b7c:CP Tryz.prog 226 [] (.agg (shaK.map aW)):=by
 refine a4U _ _ (by simp) ?_
 simp only[a2R];refine sxShr ?_
 repeat' ((first|exact tt|refine na fun b=>?_|refine nb fun b hb=>?_|refine iq ?_|(refine jq ?_ ?_<;>intro h h')|refine Two_intro ?_ ?_|exact wZ|fail)<;>try refine sxShr ?_)
 all_goals rfl
abbrev c1F(l:List UInt8):AV:=.sl none 1 (l.map a0r)
set_option maxHeartbeats 4000000 in
theorem b8N(h:S8)(s:List UInt8)(hs:s.length=64):CP Tryz.prog 227 [.agg h.c8,c1F s,.agg (shaK.map aW)] (.agg (b6M h s).c8):=by
 refine a8L _ _ (by simp) ?_
 have hk64:(shaK.map aW).length=64:=rfl
 have h0k:0<(shaK.map aW).length:=by rw[hk64];omega
 have hst:=a6I shaK
 generalize hK:shaK.map aW=KK at *
 simp only[a5I];refine sxShr ?_
 repeat' ((first|exact tt|refine na fun b=>?_|refine nb fun b hb=>?_|refine iq ?_|(refine jq ?_ ?_<;>intro h h')|refine Two_intro ?_ ?_|exact wZ|fail)<;>try refine sxShr ?_)
 rename_i bh bk hbk br hbr
 subst hK
 clear hst
 refine wpx_loop (fun i:Nat=>⟨lk [(1,c1F s),(3,.ptr bh 0),(5,.ptr bk 0),(6,.ptr br 0),(7,.ptr b 0),(8,.int .i64 (i:Int))],lk [(bh,h.c8),(bk,shaK.map aW),(br,z8),(b,(a7z s i).map aW)]⟩) (fun i=>i≤64) (fun i=>64 - i) 0 (by omega) (Le_lit (by rw[b6q s];simp[LeL,lk,hb,hbk,hbr])) ?_
 intro i hi
 by_cases hlt:i<64
 ·have f1:a0a (decide ((i:Int)<64)=true):=fo
  have l64:(a7z s i).length=64:=a7A s i hi
  by_cases h16:i<16
  ·have f2:a0a (decide ((i:Int)<16)=true):=fo
   have hS:=a9s (a7z s i) i (b5O s i) (by omega)
   rw[a7B s i hlt (b5O s i) (by rw[if_pos h16])]at hS
   have hX:=a3F s i hi
   generalize (a7z s i).map aW=X at *
   clear l64 hk64 h0k
   simp only[b5O,b2F]at hS
   refine sxShr ?_
   repeat' ((first|exact tt|refine na fun b=>?_|refine nb fun b hb=>?_|refine iq ?_|(refine jq ?_ ?_<;>intro h h')|refine Two_intro ?_ ?_|exact wZ|fail)<;>try refine sxShr ?_)
   all_goals exact Round_lit (i+1) ⟨Le_lit (by simp[LeL,lk,hb,hbk,hbr]),by omega,by omega⟩
  ·have f2:a0a (decide ((i:Int)<16)=false):=fo
   have hS:=a9s (a7z s i) i (nxW (sched s i) i) (by omega)
   rw[a7B s i hlt (nxW (sched s i) i) (by rw[if_neg h16])]at hS
   have hX:=a3F s i hi
   clear l64 hk64 h0k
   simp only[nxW]at hS
   refine sxShr ?_
   repeat' ((first|exact tt|refine CallW_intro (a2o _ 7 7 rfl (by omega)) ?_|refine CallW_intro (a2o _ 18 18 rfl (by omega)) ?_|refine CallW_intro (a2o _ 17 17 rfl (by omega)) ?_|refine CallW_intro (a2o _ 19 19 rfl (by omega)) ?_|refine na fun b=>?_|refine nb fun b hb=>?_|refine iq ?_|(refine jq ?_ ?_<;>intro h h')|refine Two_intro ?_ ?_|exact wZ|fail)<;>try refine sxShr ?_)
   all_goals exact Round_lit (i+1) ⟨Le_lit (by simp[LeL,lk,hb,hbk,hbr]),by omega,by omega⟩
 have f1:a0a (decide ((i:Int)<64)=false):=fo
 obtain rfl:i=64:=by omega
 rw[show (a7z s 64)=sched s 64 by simp[a7z]]
 refine sxShr ?_
 repeat' ((first|exact tt|refine na fun b=>?_|refine nb fun b hb=>?_|refine iq ?_|(refine jq ?_ ?_<;>intro h h')|refine Two_intro ?_ ?_|exact wZ|fail)<;>try refine sxShr ?_)
 rename_i bw hbw
 clear f1 hlt hi
 refine wpx_loop (fun i:Nat=>⟨lk [(3,.ptr bh 0),(5,.ptr bk 0),(6,.ptr br 0),(7,.ptr bw 0),(11,.ptr b 0),(12,.int .i64 (i:Int))],lk [(bh,h.c8),(bk,shaK.map aW),(br,z8),(bw,(sched s 64).map aW),(b,(b1f h (sched s 64) i).c8)]⟩) (fun i=>i≤64) (fun i=>64 - i) 0 (by omega) (Le_lit (by simp[LeL,lk,hb,hbk,hbr,hbw,b1f])) ?_
 intro i hi
 by_cases hlt:i<64
 ·have f1:a0a (decide ((i:Int)<64)=true):=fo
  have hR:b1f h (sched s 64) (i+1)=b4h (b1f h (sched s 64) i) (shaK.getD i 0) ((sched s 64).getD i 0):=rfl
  generalize b1f h (sched s 64) i=S at *
  clear hk64 h0k
  refine sxShr ?_
  repeat' ((first|exact tt|refine CallW_intro (a2o _ 6 6 rfl (by omega)) ?_|refine CallW_intro (a2o _ 11 11 rfl (by omega)) ?_|refine CallW_intro (a2o _ 25 25 rfl (by omega)) ?_|refine CallW_intro (a2o _ 2 2 rfl (by omega)) ?_|refine CallW_intro (a2o _ 13 13 rfl (by omega)) ?_|refine CallW_intro (a2o _ 22 22 rfl (by omega)) ?_|refine na fun b=>?_|refine nb fun b hb=>?_|refine iq ?_|(refine jq ?_ ?_<;>intro h h')|refine Two_intro ?_ ?_|exact wZ|fail)<;>try refine sxShr ?_)
  all_goals exact Round_lit (i+1) ⟨Le_lit (by simp[-List.getD_eq_getElem?_getD,LeL,lk,hb,hbk,hbr,hbw,hR,b4h,stepT,b7z]),by omega,by omega⟩
 have f1:a0a (decide ((i:Int)<64)=false):=fo
 obtain rfl:i=64:=by omega
 have hM:b6M h s=b6s h (b1f h (sched s 64) 64):=rfl
 rw[hM]
 generalize b1f h (sched s 64) 64=S at *
 clear hk64 h0k hM hlt hi
 refine sxShr ?_
 repeat' ((first|exact tt|refine na fun b=>?_|refine nb fun b hb=>?_|refine iq ?_|(refine jq ?_ ?_<;>intro h h')|refine Two_intro ?_ ?_|exact wZ|fail)<;>try refine sxShr ?_)
 clear f1
 refine wpx_loop (fun i:Nat=>⟨lk [(3,.ptr bh 0),(6,.ptr br 0),(11,.ptr b 0),(17,.int .i64 (i:Int))],lk [(bh,a6L h S i),(br,z8),(b,S.c8)]⟩) (fun i=>i≤8) (fun i=>8 - i) 0 (by omega) (Le_lit (by simp[LeL,lk,hb,hbk,hbr,hbw,a6L])) ?_
 intro i hi
 by_cases hlt:i<8
 ·have hc8:i=0∨i=1∨i=2∨i=3∨i=4∨i=5∨i=6∨i=7:=by omega
  rcases hc8 with rfl|rfl|rfl|rfl|rfl|rfl|rfl|rfl
  all_goals (refine sxShr ?_;try exact tt)
  all_goals repeat' ((first|exact tt|refine na fun b=>?_|refine nb fun b hb=>?_|refine iq ?_|(refine jq ?_ ?_<;>intro h h')|refine Two_intro ?_ ?_|exact wZ|fail)<;>try refine sxShr ?_)
  all_goals first|exact Round_lit 1 ⟨Le_lit (by simp[LeL,lk,hb,hbk,hbr,hbw,a6L]),by omega,by omega⟩|exact Round_lit 2 ⟨Le_lit (by simp[LeL,lk,hb,hbk,hbr,hbw,a6L]),by omega,by omega⟩|exact Round_lit 3 ⟨Le_lit (by simp[LeL,lk,hb,hbk,hbr,hbw,a6L]),by omega,by omega⟩|exact Round_lit 4 ⟨Le_lit (by simp[LeL,lk,hb,hbk,hbr,hbw,a6L]),by omega,by omega⟩|exact Round_lit 5 ⟨Le_lit (by simp[LeL,lk,hb,hbk,hbr,hbw,a6L]),by omega,by omega⟩|exact Round_lit 6 ⟨Le_lit (by simp[LeL,lk,hb,hbk,hbr,hbw,a6L]),by omega,by omega⟩|exact Round_lit 7 ⟨Le_lit (by simp[LeL,lk,hb,hbk,hbr,hbw,a6L]),by omega,by omega⟩|exact Round_lit 8 ⟨Le_lit (by simp[LeL,lk,hb,hbk,hbr,hbw,a6L]),by omega,by omega⟩
 have f1:a0a (decide ((i:Int)<8)=false):=fo
 obtain rfl:i=8:=by omega
 have hA:a6L h S 8=(b6s h S).c8:=rfl
 rw[hA]
 generalize b6s h S=R
 clear hA hlt hi
 refine sxShr ?_
 repeat' ((first|exact tt|refine na fun b=>?_|refine nb fun b hb=>?_|refine iq ?_|(refine jq ?_ ?_<;>intro h h')|refine Two_intro ?_ ?_|exact wZ|fail)<;>try refine sxShr ?_)
end
section
open Go.RowKit
set_option maxRecDepth 100000
theorem c1w(i:Nat):(24 - 8 * ((i % 4:Nat):Int)).toNat=24 - 8 * (i % 4):=by omega
theorem a6Z(n:Nat):len8 n=[byL n 7,byL n 6,byL n 5,byL n 4,byL n 3,byL n 2,byL n 1,byL n 0]:=rfl
theorem a9Z:shaK.length=64:=rfl
theorem b7y:splice z64 0 (shaK.map aW)=shaK.map aW:=a2w z64 _ rfl
theorem b6J(n:Nat)(h:n≤281474976710656):IntKind.wrap .u64 (IntKind.wrap .u64 (n:Int) * 8)=((n * 8:Nat):Int):=by
 show ((n:Int) % 18446744073709551616 * 8) % 18446744073709551616=_
 omega
theorem b6w(l:List UInt8)(i:Nat)(hi:i<l.length)(K:AV→Prop):RK (ldR none ((l.map byC).drop i)) K=K (byC (l.getD i 0)):=by
 rw[List.drop_eq_getElem_cons (by simpa using hi)]
 apply propext
 simp[RK,ldR,byC,AV.alias,List.getD,hi]
def b3e(l:List UInt8)(i:Nat):List UInt8:=l.take i++List.replicate (32 - i) 0
theorem b1S(l:List UInt8)(i:Nat)(hl:l.length=32)(h:i≤32):(b3e l i).length=32:=by simp[b3e];omega
theorem b4K(l:List UInt8)(i:Nat)(hl:l.length=32)(h:i<32):(b3e l i).set i (l.getD i 0)=b3e l (i+1):=by
 unfold b3e
 have e:(l.take i).length=i:=by simp;omega
 rw[List.set_append_right _ _ (by rw[e];exact Nat.le_refl i),e,Nat.sub_self,show 32 - i=(32 - (i+1))+1 by omega,List.replicate_succ,List.set_cons_zero,List.take_succ,List.getElem?_eq_getElem (by omega)]
 simp[-List.take_append_getElem,List.getD,show i<l.length by omega]
theorem sxShs{A B:Prop}(h:B)(e:A=B:=by (simp (disch:=omega) only[*, ↓Ed,Eu, ↓reduceIte,reduceCtorEq,Nat.reduceAdd,Nat.reduceEqDiff,Nat.reduceLT,Nat.reduceLeDiff,Int.reduceToNat,Int.reduceEq,Int.reduceLT,Int.reduceLE,w64,List.length_append,List.length_map,List.length_replicate,List.length_cons,List.length_nil,Int.toNat_natCast,nn,Nat.mul_one,Nat.zero_add,Int.reduceAdd,Int.reduceSub,Int.reduceMul,tm1,tq4,tm4,c1w,a7s,b5J,b9P,b6J,k0,k1,k2,k3,k4,k5n,k6,k7,a6I,List.length_take,a5V,a9Z,b7y];first|done|rfl)):A:=e▸h
theorem b7k(l:List UInt8)(hl:l.length=32):CP Tryz.prog 179 [.agg (hcs l)] (.str l):=by
 refine a8m _ _ (by simp) ?_
 have hs:(hcs l).map AV.store=hcs l:=by rw[List.map_map];rfl
 have h0:0<(hcs l).length:=by simp[hl]
 simp only[a5g];refine sxShs ?_
 repeat' ((first|exact tt|refine na fun b=>?_|refine nb fun b hb=>?_|refine iq ?_|(refine jq ?_ ?_<;>intro h h')|refine Two_intro ?_ ?_|exact wZ|fail)<;>try refine sxShs ?_)
 rename_i bl
 clear hs h0
 refine wpx_loop (fun i:Nat=>⟨lk [(1,.ptr bl 0),(3,.osl b 0 32),(4,.int .i64 (i:Int))],lk [(bl,hcs l),(b,(b3e l i).map byC)]⟩) (fun i=>i≤32) (fun i=>32 - i) 0 (by omega) (Le_lit (by simp[LeL,lk,hb,b3e,byC])) ?_
 intro i hi
 by_cases hlt:i<32
 ·have f1:a0a (decide ((i:Int)<32)=true):=fo
  have hld:∀ K:AV→Prop,RK (ldR none ((hcs l).drop i)) K=K (byC (l.getD i 0)):=b6w l i (by omega)
  have hst:=a9t (b3e l i) i (l.getD i 0) (by rw[b1S l i hl hi];exact hlt)
  rw[b4K l i hl hlt]at hst
  have hlen:((b3e l i).map byC).length=32:=by rw[List.length_map,b1S l i hl hi]
  have hlen2:(hcs l).length=32:=by rw[List.length_map,hl]
  have hal:(byC (l.getD i 0)).alias=byC (l.getD i 0):=rfl
  have hce:(byC (l.getD i 0)).cells=[byC (l.getD i 0)]:=rfl
  generalize (b3e l i).map byC=X at *
  generalize byC (l.getD i 0)=y at *
  generalize hcs l=Y at *
  refine sxShs ?_
  repeat' ((first|exact tt|refine na fun b=>?_|refine nb fun b hb=>?_|refine iq ?_|(refine jq ?_ ?_<;>intro h h')|refine Two_intro ?_ ?_|exact wZ|fail)<;>try refine sxShs ?_)
  all_goals exact Round_lit (i+1) ⟨Le_lit (by simp[LeL,lk,hb]),by omega,by omega⟩
 have f1:a0a (decide ((i:Int)<32)=false):=fo
 obtain rfl:i=32:=by omega
 rw[show b3e l 32=l by simp[b3e];exact List.take_of_length_le (by omega)]
 refine sxShs ?_
 repeat' ((first|exact tt|refine BytesO_intro l (List.take_of_length_le (by simp[hl])) hl ?_|refine na fun b=>?_|refine nb fun b hb=>?_|refine iq ?_|(refine jq ?_ ?_<;>intro h h')|refine Two_intro ?_ ?_|exact wZ|fail)<;>try refine sxShs ?_)
set_option maxHeartbeats 4000000 in
theorem b8M(s:List UInt8)(hl:s.length≤100000000000000):CP Tryz.prog 180 [.str s] (.agg (hcs (b5x s))):=by
 refine a8K _ _ (by simp) ?_
 have hmx:maxLen=9223372036854775807:=rfl
 simp only[a5H];refine sxShs ?_
 repeat' ((first|exact tt|refine na fun b=>?_|refine nb fun b hb=>?_|refine iq ?_|(refine jq ?_ ?_<;>intro h h')|refine Two_intro ?_ ?_|exact wZ|fail)<;>try refine sxShs ?_)
 obtain ⟨z,hz,hzl⟩:∃ z:List AV,z32=z∧z.length=32:=⟨_,rfl,rfl⟩
 refine wpx_loop (fun k:Nat=>⟨lk [(0,.str s),(2,.ptr b 0),(3,.sl (some 5) 1 ((s++128::List.replicate k 0).map a0r))],lk [(b,z)]⟩) (fun k=>k≤(119 - s.length % 64) % 64) (fun k=>(119 - s.length % 64) % 64 - k) 0 (by omega) (Le_lit (by rw[← hz];simp[LeL,lk,a0r])) ?_
 clear hz
 intro k hk
 have hq:(s++128::List.replicate k (0:UInt8)).length=s.length+(k+1):=by simp
 by_cases hlt:k<(119 - s.length % 64) % 64
 ·have f1:a0a (decide ((((s++128::List.replicate k (0:UInt8)).length % 64:Nat):Int)=56)=false):=fo
  have hn:(s++128::List.replicate k (0:UInt8)).map a0r++[[.int .u8 0]]=(s++128::List.replicate (k+1) 0).map a0r:=by
   rw[List.replicate_succ'];simp[a0r]
  generalize (s++128::List.replicate k (0:UInt8))=q at *
  simp (disch:=omega) only[hn,List.nil_append, ↓Ed,Eu, ↓reduceIte,reduceCtorEq,Nat.reduceAdd,Nat.reduceEqDiff,Nat.reduceLT,Nat.reduceLeDiff,Int.reduceToNat,Int.reduceEq,Int.reduceLT,Int.reduceLE,w64,List.length_append,List.length_map,List.length_replicate,List.length_cons,List.length_nil,Int.toNat_natCast,nn,Nat.mul_one,Nat.zero_add,Int.reduceAdd,Int.reduceSub,Int.reduceMul,tm1,tq4,tm4,c1w,a7s,b5J,b9P,b6J,k0,k1,k2,k3,k4,k5n,k6,k7,a6I,List.length_take,a5V,a9Z,b7y]
  repeat' ((first|exact tt|refine na fun b=>?_|refine nb fun b hb=>?_|refine iq ?_|(refine jq ?_ ?_<;>intro h h')|refine Two_intro ?_ ?_|exact wZ|fail)<;>try refine sxShs ?_)
  all_goals exact Round_lit (k+1) ⟨Le_lit (by simp[LeL,lk]),by omega,by omega⟩
 obtain rfl:k=(119 - s.length % 64) % 64:=by omega
 have f1:a0a (decide ((((s++128::List.replicate ((119 - s.length % 64) % 64) (0:UInt8)).length % 64:Nat):Int)=56)=true):=fo
 have hP:(s++128::List.replicate ((119 - s.length % 64) % 64) 0)++len8 s.length=a3K s:=by simp[a3K]
 obtain ⟨N,hN,hN1⟩:∃ N,(a3K s).length=64 * N∧(a3K s).length / 64=N:=⟨_,(b2k s).1,rfl⟩
 have hSh:b5x s=a6p (a9j (a3K s) N):=by rw[← hN1];rfl
 clear hN1 hlt hk
 rw[hSh]
 clear hSh
 generalize (s++128::List.replicate ((119 - s.length % 64) % 64) (0:UInt8))=q at *
 simp (disch:=omega) only[List.nil_append, ↓Ed,Eu, ↓reduceIte,reduceCtorEq,Nat.reduceAdd,Nat.reduceEqDiff,Nat.reduceLT,Nat.reduceLeDiff,Int.reduceToNat,Int.reduceEq,Int.reduceLT,Int.reduceLE,w64,List.length_append,List.length_map,List.length_replicate,List.length_cons,List.length_nil,Int.toNat_natCast,nn,Nat.mul_one,Nat.zero_add,Int.reduceAdd,Int.reduceSub,Int.reduceMul,tm1,tq4,tm4,c1w,a7s,b5J,b9P,b6J,k0,k1,k2,k3,k4,k5n,k6,k7,a6I,List.length_take,a5V,a9Z,b7y]
 repeat' ((first|exact tt|refine na fun b=>?_|refine nb fun b hb=>?_|refine iq ?_|(refine jq ?_ ?_<;>intro h h')|refine Two_intro ?_ ?_|exact wZ|fail)<;>try refine sxShs ?_)
 clear f1
 refine wpx_loop (fun j:Nat=>⟨lk [(2,.ptr b 0),(3,.sl (some 5) 1 ((q++(len8 s.length).take j).map a0r)),(4,.int .u64 ((s.length * 8:Nat):Int)),(5,.int .i64 (7 - (j:Int)))],lk [(b,z)]⟩) (fun j=>j≤8) (fun j=>8 - j) 0 (by omega) (Le_lit (by simp[LeL,lk])) ?_
 intro j hj
 by_cases hlt:j<8
 ·have hc8:j=0∨j=1∨j=2∨j=3∨j=4∨j=5∨j=6∨j=7:=by omega
  rcases hc8 with rfl|rfl|rfl|rfl|rfl|rfl|rfl|rfl
  all_goals (refine sxShs ?_;try exact tt)
  all_goals repeat' ((first|exact tt|refine na fun b=>?_|refine nb fun b hb=>?_|refine iq ?_|(refine jq ?_ ?_<;>intro h h')|refine Two_intro ?_ ?_|exact wZ|fail)<;>try refine sxShs ?_)
  all_goals first|exact Round_lit 1 ⟨Le_lit (by simp[LeL,lk,a6Z,byL,a0r,IntKind.bits]),by omega,by omega⟩|exact Round_lit 2 ⟨Le_lit (by simp[LeL,lk,a6Z,byL,a0r,IntKind.bits]),by omega,by omega⟩|exact Round_lit 3 ⟨Le_lit (by simp[LeL,lk,a6Z,byL,a0r,IntKind.bits]),by omega,by omega⟩|exact Round_lit 4 ⟨Le_lit (by simp[LeL,lk,a6Z,byL,a0r,IntKind.bits]),by omega,by omega⟩|exact Round_lit 5 ⟨Le_lit (by simp[LeL,lk,a6Z,byL,a0r,IntKind.bits]),by omega,by omega⟩|exact Round_lit 6 ⟨Le_lit (by simp[LeL,lk,a6Z,byL,a0r,IntKind.bits]),by omega,by omega⟩|exact Round_lit 7 ⟨Le_lit (by simp[LeL,lk,a6Z,byL,a0r,IntKind.bits]),by omega,by omega⟩|exact Round_lit 8 ⟨Le_lit (by simp[LeL,lk,a6Z,byL,a0r,IntKind.bits]),by omega,by omega⟩
 obtain rfl:j=8:=by omega
 rw[show q++(len8 s.length).take 8=a3K s by rw[List.take_of_length_le (by simp[len8]),hP]]
 have hpb:64 * N≤100000000000300:=by rw[← hN, ← hP,List.length_append,a5V,hq];omega
 clear hP hq hlt hj
 generalize a3K s=p at *
 refine sxShs ?_
 repeat' ((first|exact tt|refine CallO_pure (b7c) ?_|refine na fun b=>?_|refine nb fun b hb=>?_|refine iq ?_|(refine jq ?_ ?_<;>intro h h')|refine Two_intro ?_ ?_|exact wZ|fail)<;>try refine sxShs ?_)
 rename_i br bh hbh
 refine wpx_loop (fun k:Nat=>⟨lk [(2,.ptr br 0),(3,.sl (some 5) 1 (p.map a0r)),(6,.ptr bh 0),(7,.ptr b 0),(8,.int .i64 (64 * (k:Int)))],lk [(br,z),(bh,(a9j p k).c8),(b,shaK.map aW)]⟩) (fun k=>k≤N) (fun k=>N - k) 0 (by omega) (Le_lit (by simp[LeL,lk,hb,hbh,a9j,sha0,wI])) ?_
 intro k hk
 by_cases hlt:k<N
 ·have f1:a0a (decide (64 * (k:Int)<(p.length:Int))=true):=fo
  have hR:a9j p (k+1)=b6M (a9j p k) ((p.drop (64 * k)).take 64):=rfl
  have hM:=b8N (a9j p k) ((p.drop (64 * k)).take 64) (by rw[List.length_take,List.length_drop];omega)
  have hch:List.drop (64 * k) (List.take (64 * k+64) (p.map a0r))=((p.drop (64 * k)).take 64).map a0r:=by
   rw[List.drop_take,show 64 * k+64 - 64 * k=64 by omega,List.map_take,List.map_drop]
  have t1:(64 * (k:Int)).toNat=64 * k:=by omega
  have t2:(64 * (k:Int)+64).toNat=64 * k+64:=by omega
  have t3:List.take 64 (shaK.map aW)=shaK.map aW:=rfl
  rw[← hR]at hM
  generalize hS':a9j p (k+1)=S' at *
  generalize a9j p k=S at *
  generalize (p.drop (64 * k)).take 64=c at *
  clear hR
  refine sxShs ?_
  repeat' ((first|exact tt|refine CallW_intro (hM) ?_|refine na fun b=>?_|refine nb fun b hb=>?_|refine iq ?_|(refine jq ?_ ?_<;>intro h h')|refine Two_intro ?_ ?_|exact wZ|fail)<;>try refine sxShs ?_)
  all_goals exact Round_lit (k+1) ⟨Le_lit (by simp[LeL,lk,hb,hbh,hS'];omega),by omega,by omega⟩
 obtain rfl:k=N:=by omega
 have f1:a0a (decide (64 * (k:Int)<(p.length:Int))=false):=fo
 generalize a9j p k=S at *
 refine sxShs ?_
 repeat' ((first|exact tt|refine na fun b=>?_|refine nb fun b hb=>?_|refine iq ?_|(refine jq ?_ ?_<;>intro h h')|refine Two_intro ?_ ?_|exact wZ|fail)<;>try refine sxShs ?_)
 rename_i bk hbk
 clear f1 hlt hk hN
 have hO:(a9V S 0).map byC=z32:=rfl
 refine wpx_loop (fun i:Nat=>⟨lk [(2,.ptr br 0),(6,.ptr bh 0),(9,.ptr b 0),(10,.int .i64 (i:Int))],lk [(br,z),(bh,S.l.map aW),(b,(a9V S i).map byC)]⟩) (fun i=>i≤32) (fun i=>32 - i) 0 (by omega) (Le_lit (by rw[hO];simp[LeL,lk,hb,hbh,hbk])) ?_
 clear hO
 intro i hi
 by_cases hlt:i<32
 ·have f1:a0a (decide ((i:Int)<32)=true):=fo
  have h4:i / 4<8:=by omega
  have hld:=b0l S.l (i / 4) h4
  have hst:=a9t (a9V S i) i (b6a S i) (by rw[a7w S i hi];exact hlt)
  rw[b2b S i hlt _ rfl]at hst
  have hlen:((a9V S i).map byC).length=32:=by rw[List.length_map,a7w S i hi]
  have hlen8:(S.l.map aW).length=8:=rfl
  have hB:b6a S i=wB ((S.l.getD (i / 4) 0) >>> (24 - 8 * (i % 4))):=rfl
  rw[hB]at hst
  simp only[byC]at hst
  generalize S.l=sl at *
  generalize (a9V S i).map byC=X at *
  clear hB
  refine sxShs ?_
  repeat' ((first|exact tt|refine na fun b=>?_|refine nb fun b hb=>?_|refine iq ?_|(refine jq ?_ ?_<;>intro h h')|refine Two_intro ?_ ?_|exact wZ|fail)<;>try refine sxShs ?_)
  all_goals exact Round_lit (i+1) ⟨Le_lit (by simp[LeL,lk,hb,hbh,hbk]),by omega,by omega⟩
 have f1:a0a (decide ((i:Int)<32)=false):=fo
 obtain rfl:i=32:=by omega
 have hT:List.take 32 (hcs (a6p S))=hcs (a6p S):=List.take_of_length_le (by simp[a6p])
 have hst:(hcs (a6p S)).map AV.store=hcs (a6p S):=by rw[List.map_map];rfl
 have hP:=a2w z (hcs (a6p S)) (by rw[hzl];simp[a6p])
 have hL:(hcs (a6p S)).length=32:=by simp[a6p]
 rw[show (a9V S 32).map byC=hcs (a6p S) by rw[b2a]]
 generalize hcs (a6p S)=X at *
 generalize S.l.map aW=Y at *
 refine sxShs ?_
 repeat' ((first|exact tt|refine na fun b=>?_|refine nb fun b hb=>?_|refine iq ?_|(refine jq ?_ ?_<;>intro h h')|refine Two_intro ?_ ?_|exact wZ|fail)<;>try refine sxShs ?_)
end
section
open Go.RowKit
def a6x(l:List UInt8):Nat:=l.foldl (fun n b=>n * 256+b.toNat) 0
theorem b3J(l:List UInt8)(b:UInt8):a6x (l++[b])=a6x l * 256+b.toNat:=by simp[a6x]
theorem b1Y:∀ (l:List UInt8) (n:Nat),l.foldl (fun n b=>n * 256+b.toNat) n<(n+1) * 256 ^ l.length
 | [],n=>by simp
 | b::l,n=>by
  have h1:=b1Y l (n * 256+b.toNat)
  have h2:=b.toNat_lt
  rw[List.foldl_cons,List.length_cons,Nat.pow_succ,Nat.mul_comm (256 ^ _), ← Nat.mul_assoc]
  exact Nat.lt_of_lt_of_le h1 (Nat.mul_le_mul_right _ (by omega))
theorem b6O(l:List UInt8):a6x l<256 ^ l.length:=by
 have:=b1Y l 0
 simpa[a6x]using this
theorem numB_take{l:List UInt8}{k:Nat}(h:k<l.length):a6x (l.take (k+1))=a6x (l.take k) * 256+(l.getD k 0).toNat:=by
 rw[List.take_succ,List.getElem?_eq_getElem h]
 show a6x (l.take k++[l[k]])=_
 rw[b3J]
 simp[List.getD,h]
theorem numB_le{l:List UInt8}{k:Nat}(h:k≤4):a6x (l.take k)<4294967296:=by
 have h1:=b6O (l.take k)
 have h2:(l.take k).length≤4:=by simp;omega
 have h3:256 ^ (l.take k).length≤256 ^ 4:=Nat.pow_le_pow_right (by omega) h2
 omega
theorem b6Q(n:Nat)(b:UInt8)(h:n<4294967296):IntKind.wrap .i64 ((BitVec.ofInt (IntKind.bits .i64) (IntKind.wrap .i64 ((n:Int) * 2 ^ (min 8 (IntKind.bits .i64)))) ||| BitVec.ofInt (IntKind.bits .i64) (IntKind.wrap .i64 (b.toNat:Int))).toNat:Int)=((n * 256+b.toNat:Nat):Int):=by
 have hb:=b.toNat_lt
 have w:∀ m:Nat,m<9223372036854775808→IntKind.wrap .i64 (m:Int)=(m:Int):=fun m hm=>by
  have h1:(m:Int) % 18446744073709551616=m:=by omega
  show (if (true&&decide ((m:Int) % 18446744073709551616≥9223372036854775808))=true then (m:Int) % 18446744073709551616 - 18446744073709551616 else (m:Int) % 18446744073709551616)=m
  rw[h1,if_neg (by simp;omega)]
 have e1:IntKind.wrap .i64 ((n:Int) * 2 ^ (min 8 (IntKind.bits .i64)))=((n * 256:Nat):Int):=by
  rw[← w (n * 256) (by omega)]
  rfl
 rw[e1,w b.toNat (by omega)]
 have e2:(BitVec.ofInt (IntKind.bits .i64) ((n * 256:Nat):Int) ||| BitVec.ofInt (IntKind.bits .i64) (b.toNat:Int)).toNat=n * 256+b.toNat:=by
  show (BitVec.ofInt 64 ((n * 256:Nat):Int) ||| BitVec.ofInt 64 (b.toNat:Int)).toNat=_
  rw[BitVec.toNat_or,BitVec.ofInt_natCast,BitVec.ofInt_natCast,BitVec.toNat_ofNat,BitVec.toNat_ofNat,Nat.mod_eq_of_lt (by omega),Nat.mod_eq_of_lt (by omega),show n * 256=n <<< 8 by rw[Nat.shiftLeft_eq],Nat.shiftLeft_add_eq_or_of_lt (by omega)]
 rw[e2]
 exact w _ (by omega)
def b0a(s:List UInt8):List UInt8:=(b5x s).take 4
def a4d(s:List UInt8):List UInt8 × Int × Int:=
 if s.length<8 then ([],0,2) else if 2147483647<a6x (s.take 4) then ([],0,4) else if s.length - 8<a6x (s.take 4) then ([],0,2)
 else if b0a ((s.take (8+a6x (s.take 4))).drop 8)=(s.take 8).drop 4 then ((s.take (8+a6x (s.take 4))).drop 8,((8+a6x (s.take 4):Nat):Int),0) else ([],0,5)
def a0F(s:List UInt8):List UInt8 × Int:=
 if (a4d s).2.2≠0 then ([],(a4d s).2.2) else if (a4d s).2.1<s.length then ([],3) else ((a4d s).1,0)
def b1z(b:List UInt8):List UInt8:=[UInt8.ofNat (b.length / 16777216),UInt8.ofNat (b.length / 65536),UInt8.ofNat (b.length / 256),UInt8.ofNat b.length]++(b0a b++b)
end
section
open Go.RowKit
set_option maxRecDepth 100000
theorem t8n(n:Nat):(8+(n:Int)).toNat=8+n:=by omega
theorem c2e(n b:Nat):(n:Int) * 256+(b:Int)=((n * 256+b:Nat):Int):=by omega
theorem sxFrm{A B:Prop}(h:B)(e:A=B:=by (simp (disch:=omega) only[*, ↓Ed,Eu, ↓reduceIte,reduceCtorEq,Nat.reduceAdd,Nat.reduceEqDiff,Nat.reduceLT,Nat.reduceLeDiff,Int.reduceToNat,Int.reduceEq,Int.reduceLT,Int.reduceLE,w64,List.length_append,List.length_map,List.length_cons,List.length_nil,Int.toNat_natCast,nn,Nat.mul_one,Nat.zero_add,Int.reduceAdd,b6Q,t8n,Int.zero_add,c2e,Int.sub_zero];first|done|rfl)):A:=e▸h
theorem b8I(s:List UInt8)(h:s.length≤100000000000000):CP Tryz.prog 182 [.str s] (.str (b0a s)):=by
 have hS:=b8P (.sl none 1 [[.str s]]) [s] rfl (by simp) (by simp;omega)
 rw[show [s].flatten=s by simp]at hS
 have hT:=b7n (b5x s) (a6m s)
 have hl:=a6m s
 refine b0F _ _ (by simp) ?_
 simp only[a7G];refine sxFrm ?_
 repeat' ((first|exact tt|refine CallO_pure (hS) ?_|refine CallO_pure (hT) ?_|refine na fun b=>?_|refine nb fun b hb=>?_|refine iq ?_|(refine jq ?_ ?_<;>intro h h')|refine Two_intro ?_ ?_|exact wZ|fail)<;>try refine sxFrm ?_)
 all_goals rfl
theorem b6c(s:List UInt8)(h:s.length≤100000000000000):CP Tryz.prog 115 [.str s] (.str (b0a s)):=by
 have hS:=b8M s h
 have hT:=b7k (b5x s) (a6m s)
 have hl:=a6m s
 refine a8n _ _ (by simp) ?_
 simp only[a5h];refine sxFrm ?_
 repeat' ((first|exact tt|refine CallO_pure (hS) ?_|refine CallO_pure (hT) ?_|refine na fun b=>?_|refine nb fun b hb=>?_|refine iq ?_|(refine jq ?_ ?_<;>intro h h')|refine Two_intro ?_ ?_|exact wZ|fail)<;>try refine sxFrm ?_)
 all_goals rfl
theorem b8H(s:List UInt8)(h:s.length=4):CP Tryz.prog 181 [.str s] (.int .i64 (a6x s:Int)):=by
 refine a8j _ _ (by simp) ?_
 simp only[a5d];refine sxFrm ?_
 repeat' ((first|exact tt|refine na fun b=>?_|refine nb fun b hb=>?_|refine iq ?_|(refine jq ?_ ?_<;>intro h h')|refine Two_intro ?_ ?_|exact wZ|fail)<;>try refine sxFrm ?_)
 refine wpx_loop (fun k:Nat=>⟨lk [(0,.str s),(3,.int .i64 (a6x (s.take k):Int)),(6,.int .i64 (s.length:Int)),(7,.int .i64 (k:Int))],lk []⟩) (fun k=>k≤4) (fun k=>4 - k) 0 (by omega) (Le_lit (by simp[LeL,lk,a6x,h])) ?_
 intro k hk
 have hb:=numB_le (l:=s) hk
 by_cases hlt:k<4
 ·have f1:a0a (decide ((k:Int)<(s.length:Int))=true):=fo
  have hn:=numB_take (l:=s) (k:=k) (by omega)
  generalize hq:a6x (s.take (k+1))=n' at *
  generalize a6x (s.take k)=n at *
  refine sxFrm ?_
  repeat' ((first|exact tt|refine na fun b=>?_|refine nb fun b hb=>?_|refine iq ?_|(refine jq ?_ ?_<;>intro h h')|refine Two_intro ?_ ?_|exact wZ|fail)<;>try refine sxFrm ?_)
  all_goals exact Round_lit (k+1) ⟨Le_lit (by simp[LeL,lk,hq,hn,h]),by omega,by omega⟩
 have f1:a0a (decide ((k:Int)<(s.length:Int))=false):=fo
 obtain rfl:k=4:=by omega
 rw[show s.take 4=s from List.take_of_length_le (by omega)]
 refine sxFrm ?_
 repeat' ((first|exact tt|refine na fun b=>?_|refine nb fun b hb=>?_|refine iq ?_|(refine jq ?_ ?_<;>intro h h')|refine Two_intro ?_ ?_|exact wZ|fail)<;>try refine sxFrm ?_)
theorem b7d(s:List UInt8)(h:s.length≤100000000000000):CP Tryz.prog 117 [.str s,.int .i64 0] (.tup [.str (a4d s).1,.int .i64 (a4d s).2.1,.int .i64 (a4d s).2.2]):=by
 refine a9L _ _ (by simp) ?_
 have h0:List.take s.length s=s:=List.take_length
 unfold a4d
 by_cases h8:s.length<8
 ·rw[if_pos h8]
  have f1:a0a (decide ((s.length:Int)<8)=true):=fo
  simp only[a1Z];refine sxFrm ?_
  repeat' ((first|exact tt|refine na fun b=>?_|refine nb fun b hb=>?_|refine iq ?_|(refine jq ?_ ?_<;>intro h h')|refine Two_intro ?_ ?_|exact wZ|fail)<;>try refine sxFrm ?_)
 rw[if_neg h8]
 have f1:a0a (decide ((s.length:Int)<8)=false):=fo
 have hL:=b8H (s.take 4) (by simp;omega)
 generalize a6x (s.take 4)=n at *
 by_cases hn:2147483647<n
 ·rw[if_pos hn]
  have f2:a0a (decide (2147483647<(n:Int))=true):=fo
  clear hn
  simp only[a1Z];refine sxFrm ?_
  repeat' ((first|exact tt|refine CallO_pure (hL) ?_|refine na fun b=>?_|refine nb fun b hb=>?_|refine iq ?_|(refine jq ?_ ?_<;>intro h h')|refine Two_intro ?_ ?_|exact wZ|fail)<;>try refine sxFrm ?_)
 rw[if_neg hn]
 have f2:a0a (decide (2147483647<(n:Int))=false):=fo
 by_cases hm:s.length - 8<n
 ·rw[if_pos hm]
  have f3:a0a (decide ((s.length:Int) - 8<(n:Int))=true):=fo
  clear hn
  simp only[a1Z];refine sxFrm ?_
  repeat' ((first|exact tt|refine CallO_pure (hL) ?_|refine na fun b=>?_|refine nb fun b hb=>?_|refine iq ?_|(refine jq ?_ ?_<;>intro h h')|refine Two_intro ?_ ?_|exact wZ|fail)<;>try refine sxFrm ?_)
 rw[if_neg hm]
 have f3:a0a (decide ((s.length:Int) - 8<(n:Int))=false):=fo
 have hb:((s.take (8+n)).drop 8).length≤100000000000000:=by simp;omega
 have hS:=b8I ((s.take (8+n)).drop 8) hb
 have hC:=b3N ((s.take (8+n)).drop 8) (by omega)
 by_cases hq:b0a ((s.take (8+n)).drop 8)=(s.take 8).drop 4
 ·rw[if_pos hq]
  have f4:a0a (decide (b0a ((s.take (8+n)).drop 8)=(s.take 8).drop 4)=true):=by simp only[a0a,Hn];exact hq
  clear hq hb
  generalize b0a ((s.take (8+n)).drop 8)=q at *
  simp only[a1Z];refine sxFrm ?_
  repeat' ((first|exact tt|refine CallO_pure (hL) ?_|refine CallW_intro (hS) ?_|refine CallO_pure (hC) ?_|refine na fun b=>?_|refine nb fun b hb=>?_|refine iq ?_|(refine jq ?_ ?_<;>intro h h')|refine Two_intro ?_ ?_|exact wZ|fail)<;>try refine sxFrm ?_)
  all_goals omega
 ·rw[if_neg hq]
  have f4:a0a (decide (b0a ((s.take (8+n)).drop 8)=(s.take 8).drop 4)=false):=by simp only[a0a,Hn];exact hq
  clear hq hb
  generalize b0a ((s.take (8+n)).drop 8)=q at *
  simp only[a1Z];refine sxFrm ?_
  repeat' ((first|exact tt|refine CallO_pure (hL) ?_|refine CallW_intro (hS) ?_|refine CallO_pure (hC) ?_|refine na fun b=>?_|refine nb fun b hb=>?_|refine iq ?_|(refine jq ?_ ?_<;>intro h h')|refine Two_intro ?_ ?_|exact wZ|fail)<;>try refine sxFrm ?_)
theorem b7e(s:List UInt8)(h:s.length≤100000000000000):CP Tryz.prog 60 [.str s] (.tup [.str (a0F s).1,.int .i64 (a0F s).2]):=by
 have hN:=b7d s h
 unfold a0F
 generalize a4d s=x at *
 refine a9M _ _ (by simp) ?_
 by_cases h1:x.2.2=0
 ·rw[if_neg (by simp[h1])]
  rw[h1]at hN
  by_cases h2:x.2.1<s.length
  ·rw[if_pos h2]
   have f2:a0a (decide (x.2.1<(s.length:Int))=true):=by simp only[a0a,Hn];exact h2
   clear h1 h2
   simp only[a3b];refine sxFrm ?_
   repeat' ((first|exact tt|refine CallO_pure (hN) ?_|refine na fun b=>?_|refine nb fun b hb=>?_|refine iq ?_|(refine jq ?_ ?_<;>intro h h')|refine Two_intro ?_ ?_|exact wZ|fail)<;>try refine sxFrm ?_)
  ·rw[if_neg h2]
   have f2:a0a (decide (x.2.1<(s.length:Int))=false):=fo
   clear h1 h2
   simp only[a3b];refine sxFrm ?_
   repeat' ((first|exact tt|refine CallO_pure (hN) ?_|refine na fun b=>?_|refine nb fun b hb=>?_|refine iq ?_|(refine jq ?_ ?_<;>intro h h')|refine Two_intro ?_ ?_|exact wZ|fail)<;>try refine sxFrm ?_)
 ·rw[if_pos h1]
  have f1:a0a (decide (x.2.2=0)=false):=by simp only[a0a,Hn];exact h1
  clear h1
  simp only[a3b];refine sxFrm ?_
  repeat' ((first|exact tt|refine CallO_pure (hN) ?_|refine na fun b=>?_|refine nb fun b hb=>?_|refine iq ?_|(refine jq ?_ ?_<;>intro h h')|refine Two_intro ?_ ?_|exact wZ|fail)<;>try refine sxFrm ?_)
theorem b5j(s:List UInt8)(h:s.length≤100000000000000):CP Tryz.prog 195 [.str s,.int .i64 0] (.tup [.str (a4d s).1,.int .i64 (a4d s).2.1,.int .i64 (a4d s).2.2]):=by
 refine a4Q _ _ (by simp) ?_
 unfold a4d
 by_cases h8:s.length<8
 ·rw[if_pos h8]
  have f1:a0a (decide ((s.length:Int)<8)=true):=fo
  simp only[a1V];refine sxFrm ?_
  repeat' ((first|exact tt|refine na fun b=>?_|refine nb fun b hb=>?_|refine iq ?_|(refine jq ?_ ?_<;>intro h h')|refine Two_intro ?_ ?_|exact wZ|fail)<;>try refine sxFrm ?_)
  all_goals trace_state
 rw[if_neg h8]
 have f1:a0a (decide ((s.length:Int)<8)=false):=fo
 simp only[a1V];refine sxFrm ?_
 repeat' ((first|exact tt|refine na fun b=>?_|refine nb fun b hb=>?_|refine iq ?_|(refine jq ?_ ?_<;>intro h h')|refine Two_intro ?_ ?_|exact wZ|fail)<;>try refine sxFrm ?_)
 refine wpx_loop (fun k:Nat=>⟨lk [(0,.str s),(1,.int .i64 0),(7,.int .i64 (a6x (s.take k):Int)),(8,.int .i64 (k:Int))],lk []⟩) (fun k=>k≤4) (fun k=>4 - k) 0 (by omega) (Le_lit (by simp[LeL,lk,a6x])) ?_
 intro k hk
 have hb:=numB_le (l:=s) hk
 by_cases hlt:k<4
 ·have f2:a0a (decide ((k:Int)<4)=true):=fo
  have hn:=numB_take (l:=s) (k:=k) (by omega)
  have hbt:=(s.getD k 0).toNat_lt
  generalize hq:a6x (s.take (k+1))=n' at *
  generalize a6x (s.take k)=n at *
  refine sxFrm ?_
  repeat' ((first|exact tt|refine na fun b=>?_|refine nb fun b hb=>?_|refine iq ?_|(refine jq ?_ ?_<;>intro h h')|refine Two_intro ?_ ?_|exact wZ|fail)<;>try refine sxFrm ?_)
  all_goals exact Round_lit (k+1) ⟨Le_lit (by simp[-List.getD_eq_getElem?_getD,LeL,lk,hq,hn]),by omega,by omega⟩
 have f2:a0a (decide ((k:Int)<4)=false):=fo
 obtain rfl:k=4:=by omega
 clear hlt hk
 generalize a6x (s.take 4)=n at *
 by_cases hn:2147483647<n
 ·rw[if_pos hn]
  have f3:a0a (decide (2147483647<(n:Int))=true):=fo
  refine sxFrm ?_
  repeat' ((first|exact tt|refine na fun b=>?_|refine nb fun b hb=>?_|refine iq ?_|(refine jq ?_ ?_<;>intro h h')|refine Two_intro ?_ ?_|exact wZ|fail)<;>try refine sxFrm ?_)
 rw[if_neg hn]
 have f3:a0a (decide (2147483647<(n:Int))=false):=fo
 by_cases hm:s.length - 8<n
 ·rw[if_pos hm]
  have f4:a0a (decide ((s.length:Int) - 8<(n:Int))=true):=fo
  refine sxFrm ?_
  repeat' ((first|exact tt|refine na fun b=>?_|refine nb fun b hb=>?_|refine iq ?_|(refine jq ?_ ?_<;>intro h h')|refine Two_intro ?_ ?_|exact wZ|fail)<;>try refine sxFrm ?_)
 rw[if_neg hm]
 have f4:a0a (decide ((s.length:Int) - 8<(n:Int))=false):=fo
 have hbl:((s.take (8+n)).drop 8).length≤100000000000000:=by simp;omega
 have hS:=b6c ((s.take (8+n)).drop 8) hbl
 by_cases hq:b0a ((s.take (8+n)).drop 8)=(s.take 8).drop 4
 ·rw[if_pos hq]
  have f5:a0a (decide (b0a ((s.take (8+n)).drop 8)=(s.take 8).drop 4)=true):=by simp only[a0a,Hn];exact hq
  clear hq hbl
  generalize b0a ((s.take (8+n)).drop 8)=q at *
  refine sxFrm ?_
  repeat' ((first|exact tt|refine CallW_intro (hS) ?_|refine na fun b=>?_|refine nb fun b hb=>?_|refine iq ?_|(refine jq ?_ ?_<;>intro h h')|refine Two_intro ?_ ?_|exact wZ|fail)<;>try refine sxFrm ?_)
  all_goals omega
 ·rw[if_neg hq]
  have f5:a0a (decide (b0a ((s.take (8+n)).drop 8)=(s.take 8).drop 4)=false):=by simp only[a0a,Hn];exact hq
  clear hq hbl
  generalize b0a ((s.take (8+n)).drop 8)=q at *
  refine sxFrm ?_
  repeat' ((first|exact tt|refine CallW_intro (hS) ?_|refine na fun b=>?_|refine nb fun b hb=>?_|refine iq ?_|(refine jq ?_ ?_<;>intro h h')|refine Two_intro ?_ ?_|exact wZ|fail)<;>try refine sxFrm ?_)
theorem b7j(s:List UInt8)(h:s.length≤100000000000000):CP Tryz.prog 143 [.str s] (.tup [.str (a0F s).1,.int .i64 (a0F s).2]):=by
 have hN:=b5j s h
 unfold a0F
 generalize a4d s=x at *
 refine a4R _ _ (by simp) ?_
 by_cases h1:x.2.2=0
 ·rw[if_neg (by simp[h1])]
  rw[h1]at hN
  by_cases h2:x.2.1<s.length
  ·rw[if_pos h2]
   have f2:a0a (decide (x.2.1<(s.length:Int))=true):=by simp only[a0a,Hn];exact h2
   clear h1 h2
   simp only[a1m];refine sxFrm ?_
   repeat' ((first|exact tt|refine CallO_pure (hN) ?_|refine na fun b=>?_|refine nb fun b hb=>?_|refine iq ?_|(refine jq ?_ ?_<;>intro h h')|refine Two_intro ?_ ?_|exact wZ|fail)<;>try refine sxFrm ?_)
  ·rw[if_neg h2]
   have f2:a0a (decide (x.2.1<(s.length:Int))=false):=fo
   clear h1 h2
   simp only[a1m];refine sxFrm ?_
   repeat' ((first|exact tt|refine CallO_pure (hN) ?_|refine na fun b=>?_|refine nb fun b hb=>?_|refine iq ?_|(refine jq ?_ ?_<;>intro h h')|refine Two_intro ?_ ?_|exact wZ|fail)<;>try refine sxFrm ?_)
 ·rw[if_pos h1]
  have f1:a0a (decide (x.2.2=0)=false):=by simp only[a0a,Hn];exact h1
  clear h1
  simp only[a1m];refine sxFrm ?_
  repeat' ((first|exact tt|refine CallO_pure (hN) ?_|refine na fun b=>?_|refine nb fun b hb=>?_|refine iq ?_|(refine jq ?_ ?_<;>intro h h')|refine Two_intro ?_ ?_|exact wZ|fail)<;>try refine sxFrm ?_)
end
section
open Go.RowKit
theorem findK_map{α:Type}[DecidableEq α](ks:List Kd)(ag:Bool)(κ:α→AV)(h:∀ a b,a4M ks ag (κ a) (κ b)=some (decide (a=b)))(a:α)(l:List α):∀ i,b0v ks ag (κ a) (l.map κ) i=some ((l.idxOf? a).map (· + i)):=by
 induction l with
 | nil=>intro i;rfl
 | cons x r ih=>
  intro i
  simp only[List.map_cons,b0v,h,List.idxOf?_cons]
  by_cases hx:a=x
  ·subst hx;simp
  ·have hx2:(x==a)=false:=by simp[Ne.symm hx]
   simp only[hx,decide_false,ih,hx2]
   cases r.idxOf? a<;>simp<;>omega
theorem findM_map{α:Type}[DecidableEq α](ks:List Kd)(ag:Bool)(κ:α→AV)(h:∀ a b,a4M ks ag (κ a) (κ b)=some (decide (a=b)))(a:α)(l:List α):a3k ks ag (κ a) (l.map κ)=some (l.idxOf? a):=by
 simp only[a3k,h,Option.bind_some,findK_map ks ag κ h]
 cases l.idxOf? a<;>simp
theorem findM_no{α:Type}[DecidableEq α](ks:List Kd)(ag:Bool)(κ:α→AV)(h:∀ a b,a4M ks ag (κ a) (κ b)=some (decide (a=b)))(a:α)(l:List α)(hn:a ∉ l):a3k ks ag (κ a) (l.map κ)=some none:=by
 rw[findM_map ks ag κ h,List.idxOf?_eq_none_iff.2 hn]
theorem findM_snoc{α:Type}[DecidableEq α](ks:List Kd)(ag:Bool)(κ:α→AV)(h:∀ a b,a4M ks ag (κ a) (κ b)=some (decide (a=b)))(a:α)(l:List α)(hn:a ∉ l):a3k ks ag (κ a) (l.map κ++[κ a])=some (some l.length):=by
 have:=findM_map ks ag κ h a (l++[a])
 rw[List.map_append,List.map_singleton]at this
 rw[this]
 congr 1
 induction l with
 | nil=>simp[List.idxOf?_cons]
 | cons x r ih=>
  simp only[List.mem_cons,not_or]at hn
  have hx:(x==a)=false:=by simp[Ne.symm hn.1]
  have ih':=ih hn.2 (by rw[findM_map ks ag κ h a (r++[a]) |>.symm];simp)
  simp only[List.cons_append,List.idxOf?_cons,hx,ih',List.length_cons]
  simp
theorem snoc_set{α:Type}(l:List α)(z v:α)(k:Nat)(h:l.length=k):(l++[z]).set k v=l++[v]:=by
 rw[List.set_append_right _ _ (by omega)];simp[h]
theorem snoc_get{α:Type}(l:List α)(z d:α)(k:Nat)(h:l.length=k):(l++[z]).getD k d=z:=by
 simp[List.getD, ← h]
theorem b3x(bs:List Nat)(n:Nat)(hn:n ∉ bs):∀ i,a9y (n:Int) (bs++[n]) i=some (bs.length+i):=by
 induction bs with
 | nil=>intro i;simp[a9y]
 | cons b r ih=>
  intro i
  simp only[List.mem_cons,not_or]at hn
  have hb:¬ (b:Int)=n:=by omega
  simp only[List.cons_append,a9y,hb,if_false,ih hn.2,List.length_cons]
  congr 1;omega
theorem b1i(k i:Nat):a9y (k:Int) (List.range k++[k]) i=some (k+i):=by
 have:=b3x (List.range k) k (by simp) i
 simpa using this
def b1N(e:List UInt8 × Int):AV:=.agg [.str e.1,.int .i64 e.2]
theorem b1g(a b:List UInt8 × Int):a4M [.s,.i] true (b1N a) (b1N b)=some (decide (a=b)):=by
 obtain ⟨x,y⟩:=a;obtain ⟨z,w⟩:=b
 simp[b1N,a4M,eqC,eq1,Prod.ext_iff]
end
section
open Go.RowKit
set_option maxRecDepth 100000
structure HdC where
 h:Int
 t:Int
 r:List Int
 n:r.length=32
 deriving DecidableEq
instance:Inhabited HdC:=⟨⟨0,0,List.replicate 32 0,by simp⟩⟩
def HdC.rt(x:HdC):List AV:=x.r.map (.int .u8 ·)
abbrev HdC.cs(x:HdC):List AV:=.int .i64 x.h :: .int .i64 x.t::x.rt
def hds(l:List HdC):List (List AV):=l.map HdC.cs
theorem idx_get{α:Type}[DecidableEq α]:∀ {l:List α} {a:α} {i:Nat},l.idxOf? a=some i→l[i]?=some a
 | [],_,_,h=>by simp at h
 | x::l,a,i,h=>by
  rw[List.idxOf?_cons]at h
  by_cases hx:x=a
  ·subst hx;simp at h;subst h;rfl
  ·have hx2:(x==a)=false:=by simp[hx]
   rw[hx2]at h
   simp only[Bool.false_eq_true,if_false,Option.map_eq_some_iff]at h
   obtain ⟨j,hj,rfl⟩:=h
   simpa using idx_get hj
theorem idx_ex{α:Type}[DecidableEq α]{l:List α}{a:α}(h:a∈l):∃ i,l.idxOf? a=some i∧i<l.length:=by
 cases hi:l.idxOf? a with
 | none=>exact absurd h (List.idxOf?_eq_none_iff.1 hi)
 | some i=>exact ⟨i,rfl,(List.getElem?_eq_some_iff.1 (idx_get hi)).1⟩
end
section
open Go.RowKit
abbrev a9D(k:KeyC):AV:=.agg k.cs
abbrev b5R(x:EntC):AV:=.agg x.cs
theorem b1k(a b:KeyC):a4M [.s,.i,.b,.i] true (a9D a) (a9D b)=some (decide (a=b)):=by
 obtain ⟨a1,a2,a3,a4⟩:=a;obtain ⟨b1,b2,b3,b4⟩:=b
 simp only[a9D,a4M,eqC_s,eqC_i,eqC_b,eqC_nil,oand_some,Bool.and_true]
 congr 1
 rw[Bool.eq_iff_iff]
 simp
structure Tb where
 K:List (KeyC × EntC)
 C:List a1D
def a0O(l:List (KeyC × EntC))(k:KeyC):Option EntC:=(l.find? fun x=>decide (x.1=k)).map (·.2)
def tk(l:List (KeyC × EntC)):List AV:=(l.map (·.1)).map a9D
def tv(l:List (KeyC × EntC)):List AV:=l.map fun x=>b5R x.2
abbrev mpK(l:List (KeyC × EntC)):AV:=.mp (tk l) (tv l) (List.range l.length) l.length
abbrev mpC(l:List a1D):AV:=.mp (l.map b1N) (List.replicate l.length (.int .i64 1)) (List.range l.length) l.length
abbrev b0f(c m n:Nat)(t:Tb):List (Nat × List AV):=[(c,[.mapv m,.mapv n]),(m,[mpK t.K]),(n,[mpC t.C])]
theorem findE_none{l:List (KeyC × EntC)}{k:KeyC}(h:a0O l k=none):∀ x∈l,x.1≠k:=by
 intro x hx e
 simp only[a0O,Option.map_eq_none_iff,List.find?_eq_none]at h
 have:=h x hx
 simp[e]at this
theorem lookK_none{l:List (KeyC × EntC)}{k:KeyC}(h:a0O l k=none):a3k [.s,.i,.b,.i] true (a9D k) (tk l)=some none:=by
 refine findM_no [.s,.i,.b,.i] true a9D b1k k _ fun hm=>?_
 obtain ⟨x,hx,e⟩:=List.mem_map.1 hm
 exact findE_none h x hx e
theorem lookK_some{l:List (KeyC × EntC)}{k:KeyC}{x:EntC}(h:a0O l k=some x):∃ i,i<l.length∧a3k [.s,.i,.b,.i] true (a9D k) (tk l)=some (some i)∧(tv l).getD i .undef=b5R x∧l[i]?=some (k,x):=by
 induction l with
 | nil=>simp[a0O]at h
 | cons y l ih=>
  have e:=findM_map [.s,.i,.b,.i] true a9D b1k k ((y::l).map (·.1))
  by_cases hy:y.1=k
  ·simp[a0O,hy]at h
   subst h
   refine ⟨0,by simp, ?_,rfl,by simp[← hy]⟩
   rw[tk,e,List.map_cons,List.idxOf?_cons,hy];simp
  ·have h':a0O l k=some x:=by simpa[a0O,hy]using h
   obtain ⟨i,h1,h2,h3,h4⟩:=ih h'
   refine ⟨i+1,by simpa using h1, ?_,by simpa[tv]using h3,by simpa using h4⟩
   have e2:=findM_map [.s,.i,.b,.i] true a9D b1k k (l.map (·.1))
   rw[tk,e2]at h2
   rw[tk,e,List.map_cons,List.idxOf?_cons]
   have:(y.1==k)=false:=by simp[hy]
   rw[this]
   simp only[Option.some.injEq]at h2
   simp[h2]
theorem lookC_no{l:List a1D}{e:a1D}(h:e ∉ l):a3k [.s,.i] true (b1N e) (l.map b1N)=some none:=findM_no [.s,.i] true b1N b1g e l h
theorem lookC_in{l:List a1D}{e:a1D}(h:e∈l):∃ i,i<l.length∧a3k [.s,.i] true (b1N e) (l.map b1N)=some (some i)∧(List.replicate l.length (AV.int .i64 1)).getD i .undef=.int .i64 1:=by
 have h2:=findM_map [.s,.i] true b1N b1g e l
 obtain ⟨i,hi,hlt⟩:=idx_ex h
 exact ⟨i,hlt,by rw[h2,hi],by simp[List.getD,hlt]⟩
def b0N(k:Int):Bool:=decide (k=1∨k=4∨k=5)
def a6X(p:PktC):EntC:=⟨p,[],false,false,false,false,false⟩
def a7m(k:Int):Nat:=if k=1 then 9 else if k=2 then 10 else if k=3 then 11 else if k=4 then 12 else 13
def marked(x:EntC)(k:Int):Bool:=if k=1 then x.s else if k=2 then x.r else if k=3 then x.w else if k=4 then x.c else x.t
def a0R(x:EntC)(e:EvC):EntC:=if e.k=1 then { x with s:=true } else if e.k=2 then { x with r:=true } else if e.k=3 then { x with w:=true,a:=e.a } else if e.k=4 then { x with c:=true } else { x with t:=true }
def a4N(x:EntC)(k:Int):Bool:=(decide (k=4)&&x.t)||(decide (k=5)&&x.c)
def a7e(l:List (KeyC × EntC))(k:KeyC)(y:EntC):List (KeyC × EntC):=l.map fun x=>if x.1=k then (k,y) else x
noncomputable def a1p (e:EvC):KeyC:=⟨(a1B e).1,(a1B e).2.1,b0N e.k,(a1B e).2.2.1⟩
open Classical in
noncomputable def a0T (t:Tb) (e:EvC):Tb × Int:=
 if a1e e=false then (t,1) else if e.k=7 then (t,0) else if e.k=6 then (if ((e.e,e.ec):a1D)∈t.C then (t,8) else (⟨t.K,t.C++[(e.e,e.ec)]⟩,0))
 else match a0O t.K (a1p e) with
  | none=>(⟨t.K++[(a1p e,a0R (a6X e.p) e)],t.C⟩,0)
  | some x=>if ¬ x.p=e.p then (t,3) else if marked x e.k then (t,8) else if a4N x e.k then (t,16) else (⟨a7e t.K (a1p e) (a0R x e),t.C⟩,0)
end
section
open Go.RowKit
noncomputable def b1j (t:Tb) (l:List EvC):Tb:=l.foldl (fun t e=>(a0T t e).1) t
theorem b2L(t:Tb)(l:List EvC)(e:EvC):b1j t (l++[e])=(a0T (b1j t l) e).1:=by simp[b1j]
structure Tgood (n:Nat) (t:Tb):Prop where
 k:(t.K.map (·.1)).Nodup
 c:t.C.Nodup
 lk:t.K.length≤n
 lc:t.C.length≤n
theorem Tgood.mono{n m:Nat}{t:Tb}(h:Tgood n t)(hm:n≤m):Tgood m t:=⟨h.k,h.c,Nat.le_trans h.lk hm,Nat.le_trans h.lc hm⟩
theorem b9x:Tgood 0 ⟨[],[]⟩:=⟨List.nodup_nil,List.nodup_nil,Nat.le_refl _,Nat.le_refl _⟩
theorem a8x(l:List (KeyC × EntC))(k:KeyC)(y:EntC):(a7e l k y).map (·.1)=l.map (·.1):=by
 simp only[a7e,List.map_map]
 congr 1;funext x;simp only[Function.comp];split<;>simp_all
theorem a7W(t:Tb)(e:EvC):(∃ n,a0T t e=(t,n)∧n≠0)∨(e.k=7∧a0T t e=(t,0))∨
  (a1e e=true∧e.k=6∧((e.e,e.ec):a1D) ∉ t.C∧a0T t e=(⟨t.K,t.C++[(e.e,e.ec)]⟩,0))∨
  (a1e e=true∧e.k≠6∧e.k≠7∧a0O t.K (a1p e)=none∧a0T t e=(⟨t.K++[(a1p e,a0R (a6X e.p) e)],t.C⟩,0))∨
  (∃ x,a1e e=true∧e.k≠6∧e.k≠7∧a0O t.K (a1p e)=some x∧x.p=e.p∧marked x e.k=false∧a4N x e.k=false∧a0T t e=(⟨a7e t.K (a1p e) (a0R x e),t.C⟩,0)):=by
 unfold a0T
 by_cases hm:a1e e=false
 ·rw[if_pos hm];exact .inl ⟨1,rfl,by decide⟩
 rw[if_neg hm]
 have hm':a1e e=true:=by simpa using hm
 by_cases h7:e.k=7
 ·rw[if_pos h7];exact .inr (.inl ⟨h7,rfl⟩)
 rw[if_neg h7]
 by_cases h6:e.k=6
 ·rw[if_pos h6]
  split
  ·exact .inl ⟨8,rfl,by decide⟩
  ·rename_i hc
   exact .inr (.inr (.inl ⟨hm',h6,hc,rfl⟩))
 rw[if_neg h6]
 cases hf:a0O t.K (a1p e) with
 | none=>exact .inr (.inr (.inr (.inl ⟨hm',h6,h7,rfl,rfl⟩)))
 | some x=>
  simp only
  by_cases h1:¬ x.p=e.p
  ·rw[if_pos h1];exact .inl ⟨3,rfl,by decide⟩
  rw[if_neg h1]
  by_cases h2:marked x e.k=true
  ·rw[if_pos h2];exact .inl ⟨8,rfl,by decide⟩
  rw[if_neg h2]
  by_cases h3:a4N x e.k=true
  ·rw[if_pos h3];exact .inl ⟨16,rfl,by decide⟩
  rw[if_neg h3]
  exact .inr (.inr (.inr (.inr ⟨x,hm',h6,h7,rfl,by simpa using h1,by simpa using h2,by simpa using h3,rfl⟩)))
theorem nodup_snoc{α:Type}{l:List α}{x:α}(h:l.Nodup)(hn:x ∉ l):(l++[x]).Nodup:=
 List.nodup_append.2 ⟨h,by simp,fun a ha b hb=>by simp at hb;subst hb;intro e;subst e;exact hn ha⟩
theorem fold_good{n:Nat}{t:Tb}(h:Tgood n t)(e:EvC):Tgood (n+1) (a0T t e).1:=by
 have h':=h.mono (Nat.le_succ n)
 rcases a7W t e with ⟨m,g,_⟩ | ⟨_,g⟩ | ⟨_,_,hc,g⟩ | ⟨_,_,_,hf,g⟩ | ⟨x,_,_,_,_,_,_,_,g⟩<;>rw[g]
 ·exact h'
 ·exact h'
 ·exact ⟨h.k,nodup_snoc h.c hc,h'.lk,by simp;exact h.lc⟩
 ·refine ⟨?_,h.c,by simp;exact h.lk,h'.lc⟩
  simp only[List.map_append,List.map_cons,List.map_nil]
  refine nodup_snoc h.k fun hm=>?_
  obtain ⟨y,hy,e1⟩:=List.mem_map.1 hm
  exact findE_none hf y hy e1
 ·exact ⟨by simp only[a8x];exact h.k,h.c,by simp only[a7e,List.length_map];exact h'.lk,h'.lc⟩
theorem foldL_good{n:Nat}{t:Tb}(h:Tgood n t):∀ l:List EvC,Tgood (n+l.length) (b1j t l):=by
 intro l
 induction l generalizing n t with
 | nil=>exact h
 | cons e l ih=>
  have:=ih (fold_good h e)
  rw[List.length_cons,show n+(l.length+1)=n+1+l.length by omega]
  exact this
def Tb.app(a b:Tb):Tb:=⟨a.K++b.K,a.C++b.C⟩
theorem find_app{A B:List (KeyC × EntC)}{k:KeyC}(h:∀ x∈A,x.1≠k):a0O (A++B) k=a0O B k:=by
 unfold a0O
 rw[List.find?_append,List.find?_eq_none.2 (fun x hx=>by simp[h x hx])]
 rfl
theorem find_mem{l:List (KeyC × EntC)}(hN:(l.map (·.1)).Nodup){k:KeyC}{x:EntC}:a0O l k=some x↔(k,x)∈l:=by
 induction l with
 | nil=>simp[a0O]
 | cons y l ih=>
  obtain ⟨h1,h2⟩:=List.nodup_cons.1 hN
  by_cases hy:y.1=k
  ·subst hy
   have:a0O (y::l) y.1=some y.2:=by simp[a0O]
   rw[this]
   constructor
   ·intro e;cases e;exact List.mem_cons_self ..
   ·intro e
    rcases List.mem_cons.1 e with e|e
    ·rw[← e]
    ·exact absurd (List.mem_map.2 ⟨_,e,rfl⟩) h1
  ·have:a0O (y::l) k=a0O l k:=by simp[a0O,hy]
   rw[this,ih h2,List.mem_cons]
   refine ⟨.inr,fun h=>h.resolve_left fun e=>hy (by rw[← e])⟩
end
end Go.Proofs.YtgdhinnepnlihaaGreatDoor
