import Derived.Test.YtfgihnhoocnmdaaGreatDoorK19
namespace Go.Proofs.YtfgihnhoocnmdaaGreatDoor
set_option linter.all false
set_option maxHeartbeats 64000000
set_option maxRecDepth 100000
open Go.RowKit
theorem k0:((0:Nat):Int)=0:=rfl
theorem k1:((1:Nat):Int)=1:=rfl
theorem k2:((2:Nat):Int)=2:=rfl
theorem k3:((3:Nat):Int)=3:=rfl
theorem k4:((4:Nat):Int)=4:=rfl
theorem Pk:((5:Nat):Int)=5:=rfl
theorem k6:((6:Nat):Int)=6:=rfl
theorem k7:((7:Nat):Int)=7:=rfl
def B9(n k:Nat):UInt8:=UInt8.ofNat (n * 8 / 2 ^ (8 * k))
def GJ(n i:Nat):List AV:=[Bg (if 7<i then B9 n 7 else 0),Bg (if 6<i then B9 n 6 else 0),Bg (if 5<i then B9 n 5 else 0),Bg (if 4<i then B9 n 4 else 0),Bg (if 3<i then B9 n 3 else 0),Bg (if 2<i then B9 n 2 else 0),Bg (if 1<i then B9 n 1 else 0),Bg (if 0<i then B9 n 0 else 0)]
theorem a4S(n:Nat)(h:n≤281474976710656):IntKind.wrap .u64 (IntKind.wrap .u64 (n:Int) * 2 ^ (min 3 (IntKind.bits .u64)))=((n * 8:Nat):Int):=by
 show ((n:Int) % 18446744073709551616 * 8) % 18446744073709551616=_
 omega
theorem Po(m k:Nat):IntKind.wrap .u8 (((m:Nat):Int).fdiv (2 ^ k))=((UInt8.ofNat (m / 2 ^ k)).toNat:Int):=by
 show ((m:Int).fdiv (2 ^ k)) % 256=_
 rw[Ty,Int.fdiv_eq_ediv_of_nonneg _ (Int.natCast_nonneg _),UInt8.toNat_ofNat']
 rfl
theorem JV{A B:Prop}(h:B)(e:A=B:=by (simp (disch:=omega) only[*, ↓Ed,Eu, ↓reduceIte,reduceCtorEq,Nat.reduceAdd,Nat.reduceEqDiff,Nat.reduceLT,Nat.reduceLeDiff,Int.reduceToNat,Int.reduceEq,Int.reduceLT,Int.reduceLE,Ap,Ao,Ax,Dh,nn,AN,AH,Int.reduceAdd,GJ,Int.reduceSub,Int.reduceMul,Po,a4S,k0,k1,k2,k3,k4,Pk,k6,k7];first|done|rfl)):A:=e▸h
theorem a9F(n:Nat)(h:n≤281474976710656):CP Tryz.prog 206 [.int .i64 (n:Int)] (.str (len8 n)):=by
 refine a7r _ _ (by simp) ?_
 simp only[V7];refine JV ?_
 repeat' ((first|exact tt|refine na fun b=>?_|refine nb fun b hb=>?_|refine iq ?_|(refine jq ?_ ?_<;>intro h h')|exact wZ|refine Aa ?_ ?_)<;>try refine JV ?_)
 refine A2 (fun i:Nat=>⟨lk [(0,.int .i64 (n:Int)),(3,.ptr b 0),(5,.int .i64 (i:Int))],lk [(b,GJ n i)]⟩) (fun i=>i≤8) (fun i=>8 - i) 0 (by omega) (An (by simp[Am,lk,GJ,Bg])) ?_
 intro i hi
 by_cases hlt:i<8
 ·have f1:Ac (decide ((i:Int)<8)=true):=fo
  have hc8:i=0∨i=1∨i=2∨i=3∨i=4∨i=5∨i=6∨i=7:=by omega
  rcases hc8 with rfl|rfl|rfl|rfl|rfl|rfl|rfl|rfl
  all_goals (refine JV ?_;try exact tt)
  all_goals repeat' ((first|exact tt|refine na fun b=>?_|refine nb fun b hb=>?_|refine iq ?_|(refine jq ?_ ?_<;>intro h h')|exact wZ|refine Aa ?_ ?_)<;>try refine JV ?_)
  all_goals first|exact AC 1 ⟨An (by simp[Am,lk,GJ,Bg,B9,IntKind.bits]),by omega,by omega⟩|exact AC 2 ⟨An (by simp[Am,lk,GJ,Bg,B9,IntKind.bits]),by omega,by omega⟩|exact AC 3 ⟨An (by simp[Am,lk,GJ,Bg,B9,IntKind.bits]),by omega,by omega⟩|exact AC 4 ⟨An (by simp[Am,lk,GJ,Bg,B9,IntKind.bits]),by omega,by omega⟩|exact AC 5 ⟨An (by simp[Am,lk,GJ,Bg,B9,IntKind.bits]),by omega,by omega⟩|exact AC 6 ⟨An (by simp[Am,lk,GJ,Bg,B9,IntKind.bits]),by omega,by omega⟩|exact AC 7 ⟨An (by simp[Am,lk,GJ,Bg,B9,IntKind.bits]),by omega,by omega⟩|exact AC 8 ⟨An (by simp[Am,lk,GJ,Bg,B9,IntKind.bits]),by omega,by omega⟩
 have f1:Ac (decide ((i:Int)<8)=false):=fo
 obtain rfl:i=8:=by omega
 refine JV ?_
 repeat' ((first|exact tt|refine MO (len8 n) rfl rfl ?_|refine na fun b=>?_|refine nb fun b hb=>?_|refine iq ?_|(refine jq ?_ ?_<;>intro h h')|exact wZ|refine Aa ?_ ?_)<;>try refine JV ?_)
abbrev Ae(l:List UInt8):List AV:=l.map Bg
theorem L9(l:List UInt8)(hl:l.length=32):CP Tryz.prog 123 [.agg (Ae l)] (.str l):=by
 refine a7p _ _ (by simp) ?_
 have hs:(Ae l).map AV.store=Ae l:=by rw[EX];rfl
 have ht:List.take 32 (Ae l)=Ae l:=B0 (by simp[hl])
 have h0:0<(Ae l).length:=by simp[hl]
 simp only[V5];refine JV ?_
 repeat' ((first|exact tt|refine MO l rfl hl ?_|refine na fun b=>?_|refine nb fun b hb=>?_|refine iq ?_|(refine jq ?_ ?_<;>intro h h')|exact wZ|refine Aa ?_ ?_)<;>try refine JV ?_)
theorem b4h{A:Prop}(h:A:=by first|(simp[Am,lk,GJ,Bg,B9,IntKind.bits];done)|fail):A:=h
theorem Nt(n:Nat):(len8 n).length=8:=by simp[len8]
theorem Qu(n:Nat):(n:Int).tmod 64=((n % 64:Nat):Int):=rfl
theorem tm2(n:Nat):(119 - ((n % 64:Nat):Int)).tmod 64=(((119 - n % 64) % 64:Nat):Int):=by
 rw[show (119 - ((n % 64:Nat):Int))=((119 - n % 64:Nat):Int) by omega];rfl
theorem Qy(i:Nat):(i:Int).tdiv 4=((i / 4:Nat):Int):=rfl
theorem Qv(i:Nat):(i:Int).tmod 4=((i % 4:Nat):Int):=rfl
theorem sh4(i:Nat):(24 - ((i % 4:Nat):Int) * 8).toNat=24 - 8 * (i % 4):=by omega
theorem QZ(l:List UInt8)(i:Nat)(x:UInt8)(hi:i<l.length):splice (l.map Bg) i [Bg x]=(l.set i x).map Bg:=by
 induction l generalizing i with
 | nil=>simp at hi
 | cons y l ih=>cases i with
  | zero=>simp[splice]
  | succ i=>simp only[CX,splice,List.set_cons_succ];rw[ih i (by simpa using hi)]
abbrev Ip:List AV:=[.int .u8 0,.int .u8 0,.int .u8 0,.int .u8 0,.int .u8 0,.int .u8 0,.int .u8 0,.int .u8 0,.int .u8 0,.int .u8 0,.int .u8 0,.int .u8 0,.int .u8 0,.int .u8 0,.int .u8 0,.int .u8 0,.int .u8 0,.int .u8 0,.int .u8 0,.int .u8 0,.int .u8 0,.int .u8 0,.int .u8 0,.int .u8 0,.int .u8 0,.int .u8 0,.int .u8 0,.int .u8 0,.int .u8 0,.int .u8 0,.int .u8 0,.int .u8 0]
theorem GY{A B:Prop}(h:B)(e:A=B:=by (simp (disch:=omega) only[*, ↓Ed,Eu, ↓reduceIte,reduceCtorEq,Nat.reduceAdd,Nat.reduceEqDiff,Nat.reduceLT,Nat.reduceLeDiff,Int.reduceToNat,Int.reduceEq,Int.reduceLT,Int.reduceLE,Ap,Ao,Ax,List.length_replicate,AJ,AY,Cc,BL,Nt,Dh,nn,AN,AH,Int.reduceAdd,Pi,Qu,tm2,Qy,Qv,sh4,G0,QB];first|done|rfl)):A:=e▸h
theorem a9g:CP Tryz.prog 207 [] (.agg sha0.c8):=by
 refine a7q _ _ (by simp) ?_
 simp only[V6];refine GY ?_
 repeat' ((first|exact tt|refine na fun b=>?_|refine nb fun b hb=>?_|refine iq ?_|(refine jq ?_ ?_<;>intro h h')|exact wZ|refine Aa ?_ ?_)<;>try refine GY ?_)
 all_goals rfl
theorem L8(g:AV)(l:List (List UInt8))(hg:g.alias=.sl none 1 (l.map fun p=>[.str p]))(hn:l.length≤1000000)(hl:l.flatten.length≤140737488355328):CP Tryz.prog 163 [g] (.agg (Ae (BB l.flatten))):=by
 have hJ:=a8K none [] l (by omega) (by rw[Pi];exact hl)
 rw[Pi]at hJ
 generalize l.flatten=s at *
 have hR:=a8Y ((119 - s.length % 64) % 64) (by omega)
 have hL:=a9F s.length (by omega)
 refine a7o _ _ (by simp) ?_
 simp only[V4,Cz.z2];refine GY ?_
 repeat' ((first|exact tt|refine Ab hJ ?_|refine Ab hR ?_|refine Ab hL ?_|refine Ab a9g ?_|refine na fun b=>?_|refine nb fun b hb=>?_|refine iq ?_|(refine jq ?_ ?_<;>intro h h')|exact wZ|refine Aa ?_ ?_)<;>try refine GY ?_)
 rename_i br
 clear hJ hR hL
 obtain ⟨N,hN,hN1⟩:∃ N,(BQ s).length=64 * N∧(BQ s).length / 64=N:=⟨_,(ZJ s).1,rfl⟩
 have hSh:BB s=CJ (Ef (BQ s) N):=by rw[← hN1];rfl
 have hPd:BQ s=s++([128]++List.replicate ((119 - s.length % 64) % 64) 0++len8 s.length):=by simp[BQ]
 obtain ⟨z,hz,hzl⟩:∃ z:List AV,Ip=z∧z.length=32:=⟨_,rfl,rfl⟩
 have hPl:(BQ s).length≤140737488355328+200:=by rw[hPd];simp[len8];omega
 refine A2 (fun k:Nat=>⟨lk [(2,.ptr br 0),(3,.str ((BQ s).drop (64 * k))),(5,.ptr b 0)],lk [(br,z),(b,(Ef (BQ s) k).c8)]⟩) (fun k=>k≤N) (fun k=>N - k) 0 (by omega) (An (by rw[← hz,hPd];simp[Am,lk,hb,Ef])) ?_
 clear hz hPd hN1
 rw[hSh]
 clear hSh
 intro k hk
 by_cases hlt:k<N
 ·have hne:(BQ s).drop (64 * k)≠[]:=fun e=>by
   have:=congrArg List.length e
   rw[Cc]at this
   simp at this;omega
  have f1:Ac (decide ((BQ s).drop (64 * k)=[])=false):=by simp only[Ac,Hn];exact hne
  have hR:Ef (BQ s) (k+1)=Kw (Ef (BQ s) k) (((BQ s).drop (64 * k)).take 64):=rfl
  have hM:=a9P (Ef (BQ s) k) (((BQ s).drop (64 * k)).take 64) (by rw[BL,Cc];omega)
  have hdl:((BQ s).drop (64 * k)).length=64 * N - 64 * k:=by rw[Cc,hN]
  have hdd:((BQ s).drop (64 * k)).drop 64=(BQ s).drop (64 * (k+1)):=by rw[List.drop_drop];congr 1
  rw[← hR]at hM
  have hdt:((BQ s).drop (64 * k)).take (64 * N - 64 * k)=(BQ s).drop (64 * k):=B0 (by omega)
  generalize hS':Ef (BQ s) (k+1)=S' at *
  generalize Ef (BQ s) k=S at *
  generalize (BQ s).drop (64 * k)=q at *
  clear hne hR
  refine GY ?_
  repeat' ((first|exact tt|refine Ag hM ?_|refine na fun b=>?_|refine nb fun b hb=>?_|refine iq ?_|(refine jq ?_ ?_<;>intro h h')|exact wZ|refine Aa ?_ ?_)<;>try refine GY ?_)
  all_goals exact AC (k+1) ⟨An (by simp[Am,lk,hb, *]),by omega,by omega⟩
 obtain rfl:k=N:=by omega
 have hne:(BQ s).drop (64 * k)=[]:=Jd (by omega)
 have f1:Ac (decide ((BQ s).drop (64 * k)=[])=true):=by simp only[Ac,Hn];exact hne
 generalize Ef (BQ s) k=S at *
 rw[hne]at f1 ⊢
 clear hne hN hlt hk hPl
 refine GY ?_
 repeat' ((first|exact tt|refine na fun b=>?_|refine nb fun b hb=>?_|refine iq ?_|(refine jq ?_ ?_<;>intro h h')|exact wZ|refine Aa ?_ ?_)<;>try refine GY ?_)
 rename_i bs hbs
 clear f1
 have hO:(Er S 0).map Bg=Ip:=rfl
 have h8:S.c8=S.l.map aW:=rfl
 refine A2 (fun i:Nat=>⟨lk [(2,.ptr br 0),(5,.ptr bs 0),(6,.ptr b 0),(32,.int .i64 (i:Int))],lk [(br,z),(bs,S.l.map aW),(b,(Er S i).map Bg)]⟩) (fun i=>i≤32) (fun i=>32 - i) 0 (by omega) (An (by rw[hO];simp[Am,lk,hb,hbs])) ?_
 clear hO h8
 intro i hi
 by_cases hlt:i<32
 ·have f1:Ac (decide ((i:Int)<32)=true):=fo
  have h4:i / 4<8:=by omega
  have hld:=M2 S.l (i / 4) h4
  have hst:=QZ (Er S i) i (JA S i) (by rw[PL S i hi];exact hlt)
  rw[Zb S i hlt _ rfl]at hst
  have hlen:((Er S i).map Bg).length=32:=by rw[Ax,PL S i hi]
  have hlen8:(S.l.map aW).length=8:=rfl
  have hB:JA S i=wB ((S.l.getD (i / 4) 0) >>> (24 - 8 * (i % 4))):=rfl
  rw[hB]at hst
  simp only[Bg]at hst
  generalize S.l=sl at *
  generalize (Er S i).map Bg=X at *
  clear hB
  refine GY ?_
  repeat' ((first|exact tt|refine na fun b=>?_|refine nb fun b hb=>?_|refine iq ?_|(refine jq ?_ ?_<;>intro h h')|exact wZ|refine Aa ?_ ?_)<;>try refine GY ?_)
  all_goals exact AC (i+1) ⟨An (by simp[Am,lk,hb,hbs]),by omega,by omega⟩
 have f1:Ac (decide ((i:Int)<32)=false):=fo
 obtain rfl:i=32:=by omega
 have hT:List.take 32 (Ae (CJ S))=Ae (CJ S):=B0 (by simp[CJ])
 have hst:(Ae (CJ S)).map AV.store=Ae (CJ S):=by rw[EX];rfl
 have hP:=I4 z (Ae (CJ S)) (by rw[hzl];simp[CJ])
 have hL:(Ae (CJ S)).length=32:=by simp[CJ]
 rw[show (Er S 32).map Bg=Ae (CJ S) by rw[Za]]
 generalize Ae (CJ S)=X at *
 generalize S.l.map aW=Y at *
 refine GY ?_
 repeat' ((first|exact tt|refine na fun b=>?_|refine nb fun b hb=>?_|refine iq ?_|(refine jq ?_ ?_<;>intro h h')|exact wZ|refine Aa ?_ ?_)<;>try refine GY ?_)
theorem t32(n:Nat):(32 - (n:Int)).toNat=32 - n:=by omega
theorem a2D(l:List UInt8)(i:Nat)(h:i<l.length):(l.map Bh).getD i []=Bh (l.getD i 0):=by simp[List.getD,h]
theorem a2E(b:UInt8)(K:AV→Prop):RK (A5 none (Bh b)) K=K (.int .u8 (b.toNat:Int)):=by simp[RK,A5,Bh,AV.alias]
theorem Ek{A B:Prop}(h:B)(e:A=B:=by (simp (disch:=omega) only[*, ↓Ed,Eu, ↓reduceIte,reduceCtorEq,Nat.reduceAdd,Nat.reduceEqDiff,Nat.reduceLT,Nat.reduceLeDiff,Int.reduceToNat,Int.reduceEq,Int.reduceLT,Int.reduceLE,Ap,Ao,Ax,J1,Oc,Of,Ob,Od,J2,G0,Oe,Dh,nn,Xq,Xr,Xs,a0M,a1l,a1m,a1n,a1o,AN,AH,Int.reduceAdd,a0l,Ml,P8,Pm,HD,S8.c8,CZ,t32,b0M,a2D,Mv,a2E];first|done|rfl)):A:=e▸h
theorem b0b(x:Wd)(n:Nat)(h:1≤n∧n≤31):CP Tryz.prog 195 [aW x,.int .i64 (n:Int)] (aW (Cv x n)):=by
 refine a6W _ _ (by simp) ?_
 simp only[VO];refine Ek ?_
 repeat' ((first|exact tt|refine na fun b=>?_|refine nb fun b hb=>?_|refine iq ?_|(refine jq ?_ ?_<;>intro h h')|exact wZ|refine Aa ?_ ?_)<;>try refine Ek ?_)
 all_goals omega
theorem H6(x:Wd)(k:Int)(n:Nat)(hk:k=(n:Int))(h:1≤n∧n≤31):CP Tryz.prog 195 [aW x,.int .i64 k] (aW (Cv x n)):=by subst hk;exact b0b x n h
theorem a9k:CP Tryz.prog 152 [] (.agg (shaK.map aW)):=by
 refine a6S _ _ (by simp) ?_
 simp only[VK,Cz.z3];refine Ek ?_
 repeat' ((first|exact tt|refine na fun b=>?_|refine nb fun b hb=>?_|refine iq ?_|(refine jq ?_ ?_<;>intro h h')|exact wZ|refine Aa ?_ ?_)<;>try refine Ek ?_)
 all_goals rfl
abbrev UN(l:List UInt8):AV:=.sl none 1 (l.map Bh)
theorem b0a(h:S8)(s:List UInt8)(hs:s.length=64):CP Tryz.prog 153 [.agg h.c8,UN s,.agg (shaK.map aW)] (.agg (Kw h s).c8):=by
 refine a6V _ _ (by simp) ?_
 have hk64:(shaK.map aW).length=64:=rfl
 have h0k:0<(shaK.map aW).length:=by rw[hk64];omega
 have hst:=Mv shaK
 generalize hK:shaK.map aW=KK at *
 simp only[VN,Cz.z3];refine Ek ?_
 repeat' ((first|exact tt|refine na fun b=>?_|refine nb fun b hb=>?_|refine iq ?_|(refine jq ?_ ?_<;>intro h h')|exact wZ|refine Aa ?_ ?_)<;>try refine Ek ?_)
 rename_i bh bk hbk br hbr
 subst hK
 clear hst
 refine A2 (fun i:Nat=>⟨lk [(1,UN s),(3,.ptr bh 0),(5,.ptr bk 0),(6,.ptr br 0),(7,.ptr b 0),(8,.int .i64 (i:Int))],lk [(bh,h.c8),(bk,shaK.map aW),(br,z8),(b,(Dl s i).map aW)]⟩) (fun i=>i≤64) (fun i=>64 - i) 0 (by omega) (An (by rw[a1F s];simp[Am,lk,hb,hbk,hbr])) ?_
 intro i hi
 by_cases hlt:i<64
 ·have f1:Ac (decide ((i:Int)<64)=true):=fo
  have l64:(Dl s i).length=64:=P9 s i hi
  by_cases h16:i<16
  ·have f2:Ac (decide ((i:Int)<16)=true):=fo
   have hS:=Ox (Dl s i) i (Ji s i) (by omega)
   rw[Qa s i hlt (Ji s i) (by rw[Af h16])]at hS
   have hX:=Ml s i hi
   generalize (Dl s i).map aW=X at *
   clear l64 hk64 h0k
   simp only[Ji,Lc]at hS
   refine Ek ?_
   repeat' ((first|exact tt|refine na fun b=>?_|refine nb fun b hb=>?_|refine iq ?_|(refine jq ?_ ?_<;>intro h h')|exact wZ|refine Aa ?_ ?_)<;>try refine Ek ?_)
   all_goals exact AC (i+1) ⟨An (by simp[Am,lk,hb,hbk,hbr]),by omega,by omega⟩
  ·have f2:Ac (decide ((i:Int)<16)=false):=fo
   have hS:=Ox (Dl s i) i (Jz (BJ s i) i) (by omega)
   rw[Qa s i hlt (Jz (BJ s i) i) (by rw[Ad h16])]at hS
   have hX:=Ml s i hi
   clear l64 hk64 h0k
   simp only[Jz]at hS
   refine Ek ?_
   repeat' ((first|exact tt|refine Ag (H6 _ 7 7 rfl (by omega)) ?_|refine Ag (H6 _ 18 18 rfl (by omega)) ?_|refine Ag (H6 _ 17 17 rfl (by omega)) ?_|refine Ag (H6 _ 19 19 rfl (by omega)) ?_|refine na fun b=>?_|refine nb fun b hb=>?_|refine iq ?_|(refine jq ?_ ?_<;>intro h h')|exact wZ|refine Aa ?_ ?_)<;>try refine Ek ?_)
   all_goals exact AC (i+1) ⟨An (by simp[Am,lk,hb,hbk,hbr]),by omega,by omega⟩
 have f1:Ac (decide ((i:Int)<64)=false):=fo
 obtain rfl:i=64:=by omega
 rw[show (Dl s 64)=BJ s 64 by simp[Dl]]
 refine Ek ?_
 repeat' ((first|exact tt|refine na fun b=>?_|refine nb fun b hb=>?_|refine iq ?_|(refine jq ?_ ?_<;>intro h h')|exact wZ|refine Aa ?_ ?_)<;>try refine Ek ?_)
 rename_i bw hbw
 clear f1 hlt hi
 refine A2 (fun i:Nat=>⟨lk [(3,.ptr bh 0),(5,.ptr bk 0),(6,.ptr br 0),(7,.ptr bw 0),(11,.ptr b 0),(12,.int .i64 (i:Int))],lk [(bh,h.c8),(bk,shaK.map aW),(br,z8),(bw,(BJ s 64).map aW),(b,(Fi h (BJ s 64) i).c8)]⟩) (fun i=>i≤64) (fun i=>64 - i) 0 (by omega) (An (by simp[Am,lk,hb,hbk,hbr,hbw,Fi])) ?_
 intro i hi
 by_cases hlt:i<64
 ·have f1:Ac (decide ((i:Int)<64)=true):=fo
  have hR:Fi h (BJ s 64) (i+1)=N1 (Fi h (BJ s 64) i) (shaK.getD i 0) ((BJ s 64).getD i 0):=rfl
  generalize Fi h (BJ s 64) i=S at *
  clear hk64 h0k
  refine Ek ?_
  repeat' ((first|exact tt|refine Ag (H6 _ 6 6 rfl (by omega)) ?_|refine Ag (H6 _ 11 11 rfl (by omega)) ?_|refine Ag (H6 _ 25 25 rfl (by omega)) ?_|refine Ag (H6 _ 2 2 rfl (by omega)) ?_|refine Ag (H6 _ 13 13 rfl (by omega)) ?_|refine Ag (H6 _ 22 22 rfl (by omega)) ?_|refine na fun b=>?_|refine nb fun b hb=>?_|refine iq ?_|(refine jq ?_ ?_<;>intro h h')|exact wZ|refine Aa ?_ ?_)<;>try refine Ek ?_)
  all_goals exact AC (i+1) ⟨An (by simp[-List.getD_eq_getElem?_getD,Am,lk,hb,hbk,hbr,hbw,hR,N1,stepT,TS]),by omega,by omega⟩
 have f1:Ac (decide ((i:Int)<64)=false):=fo
 obtain rfl:i=64:=by omega
 have hM:Kw h s=J9 h (Fi h (BJ s 64) 64):=rfl
 rw[hM]
 generalize Fi h (BJ s 64) 64=S at *
 clear hk64 h0k hM hlt hi
 refine Ek ?_
 repeat' ((first|exact tt|refine na fun b=>?_|refine nb fun b hb=>?_|refine iq ?_|(refine jq ?_ ?_<;>intro h h')|exact wZ|refine Aa ?_ ?_)<;>try refine Ek ?_)
 clear f1
 refine A2 (fun i:Nat=>⟨lk [(3,.ptr bh 0),(6,.ptr br 0),(11,.ptr b 0),(17,.int .i64 (i:Int))],lk [(bh,CZ h S i),(br,z8),(b,S.c8)]⟩) (fun i=>i≤8) (fun i=>8 - i) 0 (by omega) (An (by simp[Am,lk,hb,hbk,hbr,hbw,CZ])) ?_
 intro i hi
 by_cases hlt:i<8
 ·have hc8:i=0∨i=1∨i=2∨i=3∨i=4∨i=5∨i=6∨i=7:=by omega
  rcases hc8 with rfl|rfl|rfl|rfl|rfl|rfl|rfl|rfl
  all_goals (refine Ek ?_;try exact tt)
  all_goals repeat' ((first|exact tt|refine na fun b=>?_|refine nb fun b hb=>?_|refine iq ?_|(refine jq ?_ ?_<;>intro h h')|exact wZ|refine Aa ?_ ?_)<;>try refine Ek ?_)
  all_goals first|exact AC 1 ⟨An (by simp[Am,lk,hb,hbk,hbr,hbw,CZ]),by omega,by omega⟩|exact AC 2 ⟨An (by simp[Am,lk,hb,hbk,hbr,hbw,CZ]),by omega,by omega⟩|exact AC 3 ⟨An (by simp[Am,lk,hb,hbk,hbr,hbw,CZ]),by omega,by omega⟩|exact AC 4 ⟨An (by simp[Am,lk,hb,hbk,hbr,hbw,CZ]),by omega,by omega⟩|exact AC 5 ⟨An (by simp[Am,lk,hb,hbk,hbr,hbw,CZ]),by omega,by omega⟩|exact AC 6 ⟨An (by simp[Am,lk,hb,hbk,hbr,hbw,CZ]),by omega,by omega⟩|exact AC 7 ⟨An (by simp[Am,lk,hb,hbk,hbr,hbw,CZ]),by omega,by omega⟩|exact AC 8 ⟨An (by simp[Am,lk,hb,hbk,hbr,hbw,CZ]),by omega,by omega⟩
 have f1:Ac (decide ((i:Int)<8)=false):=fo
 obtain rfl:i=8:=by omega
 have hA:CZ h S 8=(J9 h S).c8:=rfl
 rw[hA]
 generalize J9 h S=R
 clear hA hlt hi
 refine Ek ?_
 repeat' ((first|exact tt|refine na fun b=>?_|refine nb fun b hb=>?_|refine iq ?_|(refine jq ?_ ?_<;>intro h h')|exact wZ|refine Aa ?_ ?_)<;>try refine Ek ?_)
theorem TJ(i:Nat):(24 - 8 * ((i % 4:Nat):Int)).toNat=24 - 8 * (i % 4):=by omega
theorem IM(n:Nat):len8 n=[B9 n 7,B9 n 6,B9 n 5,B9 n 4,B9 n 3,B9 n 2,B9 n 1,B9 n 0]:=rfl
theorem TK:shaK.length=64:=rfl
theorem TN:splice QI 0 (shaK.map aW)=shaK.map aW:=I4 QI _ rfl
theorem Sv(n:Nat)(h:n≤281474976710656):IntKind.wrap .u64 (IntKind.wrap .u64 (n:Int) * 8)=((n * 8:Nat):Int):=by
 show ((n:Int) % 18446744073709551616 * 8) % 18446744073709551616=_
 omega
theorem a2h(l:List UInt8)(i:Nat)(hi:i<l.length)(K:AV→Prop):RK (A5 none ((l.map Bg).drop i)) K=K (Bg (l.getD i 0)):=by
 rw[Jc (by simpa using hi)]
 apply propext
 simp[RK,A5,Bg,AV.alias,List.getD,hi]
def GF(l:List UInt8)(i:Nat):List UInt8:=l.take i++List.replicate (32 - i) 0
theorem Xx(l:List UInt8)(i:Nat)(hl:l.length=32)(h:i≤32):(GF l i).length=32:=by simp[GF];omega
theorem a3J(l:List UInt8)(i:Nat)(hl:l.length=32)(h:i<32):(GF l i).set i (l.getD i 0)=GF l (i+1):=by
 unfold GF
 have e:(l.take i).length=i:=by simp;omega
 rw[List.set_append_right _ _ (by rw[e];exact A8 i),e,Nat.sub_self,show 32 - i=(32 - (i+1))+1 by omega,J7,List.set_cons_zero,List.take_succ,Aw (by omega)]
 simp[-List.take_append_getElem,List.getD,show i<l.length by omega]
theorem DN{A B:Prop}(h:B)(e:A=B:=by (simp (disch:=omega) only[*, ↓Ed,Eu, ↓reduceIte,reduceCtorEq,Nat.reduceAdd,Nat.reduceEqDiff,Nat.reduceLT,Nat.reduceLeDiff,Int.reduceToNat,Int.reduceEq,Int.reduceLT,Int.reduceLE,Ap,Ao,Ax,List.length_replicate,AJ,AY,Dh,nn,AN,AH,Int.reduceAdd,Int.reduceSub,Int.reduceMul,Qu,Qy,Qv,TJ,G0,QB,Po,Sv,k0,k1,k2,k3,k4,Pk,k6,k7,Mv,BL,Nt,TK,TN];first|done|rfl)):A:=e▸h
theorem NK(l:List UInt8)(hl:l.length=32):CP Tryz.prog 85 [.agg (Ae l)] (.str l):=by
 refine a6P _ _ (by simp) ?_
 have hs:(Ae l).map AV.store=Ae l:=by rw[EX];rfl
 have h0:0<(Ae l).length:=by simp[hl]
 simp only[VJ];refine DN ?_
 repeat' ((first|exact tt|refine na fun b=>?_|refine nb fun b hb=>?_|refine iq ?_|(refine jq ?_ ?_<;>intro h h')|exact wZ|refine Aa ?_ ?_)<;>try refine DN ?_)
 rename_i bl
 clear hs h0
 refine A2 (fun i:Nat=>⟨lk [(1,.ptr bl 0),(3,.osl b 0 32),(4,.int .i64 (i:Int))],lk [(bl,Ae l),(b,(GF l i).map Bg)]⟩) (fun i=>i≤32) (fun i=>32 - i) 0 (by omega) (An (by simp[Am,lk,hb,GF,Bg])) ?_
 intro i hi
 by_cases hlt:i<32
 ·have f1:Ac (decide ((i:Int)<32)=true):=fo
  have hld:∀ K:AV→Prop,RK (A5 none ((Ae l).drop i)) K=K (Bg (l.getD i 0)):=a2h l i (by omega)
  have hst:=QZ (GF l i) i (l.getD i 0) (by rw[Xx l i hl hi];exact hlt)
  rw[a3J l i hl hlt]at hst
  have hlen:((GF l i).map Bg).length=32:=by rw[Ax,Xx l i hl hi]
  have hlen2:(Ae l).length=32:=by rw[Ax,hl]
  have Ca:(Bg (l.getD i 0)).alias=Bg (l.getD i 0):=rfl
  have hce:(Bg (l.getD i 0)).cells=[Bg (l.getD i 0)]:=rfl
  generalize (GF l i).map Bg=X at *
  generalize Bg (l.getD i 0)=y at *
  generalize Ae l=Y at *
  refine DN ?_
  repeat' ((first|exact tt|refine na fun b=>?_|refine nb fun b hb=>?_|refine iq ?_|(refine jq ?_ ?_<;>intro h h')|exact wZ|refine Aa ?_ ?_)<;>try refine DN ?_)
  all_goals exact AC (i+1) ⟨An (by simp[Am,lk,hb]),by omega,by omega⟩
 have f1:Ac (decide ((i:Int)<32)=false):=fo
 obtain rfl:i=32:=by omega
 rw[show GF l 32=l by simp[GF];exact B0 (by omega)]
 refine DN ?_
 repeat' ((first|exact tt|refine MO l (B0 (by simp[hl])) hl ?_|refine na fun b=>?_|refine nb fun b hb=>?_|refine iq ?_|(refine jq ?_ ?_<;>intro h h')|exact wZ|refine Aa ?_ ?_)<;>try refine DN ?_)
theorem NJ(s:List UInt8)(hl:s.length≤100000000000000):CP Tryz.prog 86 [.str s] (.agg (Ae (BB s))):=by
 refine a6O _ _ (by simp) ?_
 have hmx:maxLen=9223372036854775807:=rfl
 simp only[VI,Cz.z2,Cz.z3];refine DN ?_
 repeat' ((first|exact tt|refine na fun b=>?_|refine nb fun b hb=>?_|refine iq ?_|(refine jq ?_ ?_<;>intro h h')|exact wZ|refine Aa ?_ ?_)<;>try refine DN ?_)
 obtain ⟨z,hz,hzl⟩:∃ z:List AV,Ip=z∧z.length=32:=⟨_,rfl,rfl⟩
 refine A2 (fun k:Nat=>⟨lk [(0,.str s),(2,.ptr b 0),(3,.sl (some 5) 1 ((s++128::List.replicate k 0).map Bh))],lk [(b,z)]⟩) (fun k=>k≤(119 - s.length % 64) % 64) (fun k=>(119 - s.length % 64) % 64 - k) 0 (by omega) (An (by rw[← hz];simp[Am,lk,Bh])) ?_
 clear hz
 intro k hk
 have hq:(s++128::List.replicate k (0:UInt8)).length=s.length+(k+1):=by simp
 by_cases hlt:k<(119 - s.length % 64) % 64
 ·have f1:Ac (decide ((((s++128::List.replicate k (0:UInt8)).length % 64:Nat):Int)=56)=false):=fo
  have hn:(s++128::List.replicate k (0:UInt8)).map Bh++[[.int .u8 0]]=(s++128::List.replicate (k+1) 0).map Bh:=by
   rw[List.replicate_succ'];simp[Bh]
  generalize (s++128::List.replicate k (0:UInt8))=q at *
  simp (disch:=omega) only[hn,Bj, ↓Ed,Eu, ↓reduceIte,reduceCtorEq,Nat.reduceAdd,Nat.reduceEqDiff,Nat.reduceLT,Nat.reduceLeDiff,Int.reduceToNat,Int.reduceEq,Int.reduceLT,Int.reduceLE,Ap,Ao,Ax,List.length_replicate,AJ,AY,Dh,nn,AN,AH,Int.reduceAdd,Int.reduceSub,Int.reduceMul,Qu,Qy,Qv,TJ,G0,QB,Po,Sv,k0,k1,k2,k3,k4,Pk,k6,k7,Mv,BL,Nt,TK,TN]
  repeat' ((first|exact tt|refine na fun b=>?_|refine nb fun b hb=>?_|refine iq ?_|(refine jq ?_ ?_<;>intro h h')|exact wZ|refine Aa ?_ ?_)<;>try refine DN ?_)
  all_goals exact AC (k+1) ⟨An Mc,by omega,by omega⟩
 obtain rfl:k=(119 - s.length % 64) % 64:=by omega
 have f1:Ac (decide ((((s++128::List.replicate ((119 - s.length % 64) % 64) (0:UInt8)).length % 64:Nat):Int)=56)=true):=fo
 have hP:(s++128::List.replicate ((119 - s.length % 64) % 64) 0)++len8 s.length=BQ s:=by simp[BQ]
 obtain ⟨N,hN,hN1⟩:∃ N,(BQ s).length=64 * N∧(BQ s).length / 64=N:=⟨_,(ZJ s).1,rfl⟩
 have hSh:BB s=CJ (Ef (BQ s) N):=by rw[← hN1];rfl
 clear hN1 hlt hk
 rw[hSh]
 clear hSh
 generalize (s++128::List.replicate ((119 - s.length % 64) % 64) (0:UInt8))=q at *
 simp (disch:=omega) only[Bj, ↓Ed,Eu, ↓reduceIte,reduceCtorEq,Nat.reduceAdd,Nat.reduceEqDiff,Nat.reduceLT,Nat.reduceLeDiff,Int.reduceToNat,Int.reduceEq,Int.reduceLT,Int.reduceLE,Ap,Ao,Ax,List.length_replicate,AJ,AY,Dh,nn,AN,AH,Int.reduceAdd,Int.reduceSub,Int.reduceMul,Qu,Qy,Qv,TJ,G0,QB,Po,Sv,k0,k1,k2,k3,k4,Pk,k6,k7,Mv,BL,Nt,TK,TN]
 repeat' ((first|exact tt|refine na fun b=>?_|refine nb fun b hb=>?_|refine iq ?_|(refine jq ?_ ?_<;>intro h h')|exact wZ|refine Aa ?_ ?_)<;>try refine DN ?_)
 clear f1
 refine A2 (fun j:Nat=>⟨lk [(2,.ptr b 0),(3,.sl (some 5) 1 ((q++(len8 s.length).take j).map Bh)),(4,.int .u64 ((s.length * 8:Nat):Int)),(5,.int .i64 (7 - (j:Int)))],lk [(b,z)]⟩) (fun j=>j≤8) (fun j=>8 - j) 0 (by omega) (An Mc) ?_
 intro j hj
 by_cases hlt:j<8
 ·have hc8:j=0∨j=1∨j=2∨j=3∨j=4∨j=5∨j=6∨j=7:=by omega
  rcases hc8 with rfl|rfl|rfl|rfl|rfl|rfl|rfl|rfl
  all_goals (refine DN ?_;try exact tt)
  all_goals repeat' ((first|exact tt|refine na fun b=>?_|refine nb fun b hb=>?_|refine iq ?_|(refine jq ?_ ?_<;>intro h h')|exact wZ|refine Aa ?_ ?_)<;>try refine DN ?_)
  all_goals first|exact AC 1 ⟨An (by simp[Am,lk,IM,B9,Bh,IntKind.bits]),by omega,by omega⟩|exact AC 2 ⟨An (by simp[Am,lk,IM,B9,Bh,IntKind.bits]),by omega,by omega⟩|exact AC 3 ⟨An (by simp[Am,lk,IM,B9,Bh,IntKind.bits]),by omega,by omega⟩|exact AC 4 ⟨An (by simp[Am,lk,IM,B9,Bh,IntKind.bits]),by omega,by omega⟩|exact AC 5 ⟨An (by simp[Am,lk,IM,B9,Bh,IntKind.bits]),by omega,by omega⟩|exact AC 6 ⟨An (by simp[Am,lk,IM,B9,Bh,IntKind.bits]),by omega,by omega⟩|exact AC 7 ⟨An (by simp[Am,lk,IM,B9,Bh,IntKind.bits]),by omega,by omega⟩|exact AC 8 ⟨An (by simp[Am,lk,IM,B9,Bh,IntKind.bits]),by omega,by omega⟩
 obtain rfl:j=8:=by omega
 rw[show q++(len8 s.length).take 8=BQ s by rw[B0 (by simp[len8]),hP]]
 have hpb:64 * N≤100000000000300:=by rw[← hN, ← hP,Ao,Nt,hq];omega
 clear hP hq hlt hj
 generalize BQ s=p at *
 refine DN ?_
 repeat' ((first|exact tt|refine Ab a9k ?_|refine na fun b=>?_|refine nb fun b hb=>?_|refine iq ?_|(refine jq ?_ ?_<;>intro h h')|exact wZ|refine Aa ?_ ?_)<;>try refine DN ?_)
 rename_i br bh hbh
 refine A2 (fun k:Nat=>⟨lk [(2,.ptr br 0),(3,.sl (some 5) 1 (p.map Bh)),(6,.ptr bh 0),(7,.ptr b 0),(8,.int .i64 (64 * (k:Int)))],lk [(br,z),(bh,(Ef p k).c8),(b,shaK.map aW)]⟩) (fun k=>k≤N) (fun k=>N - k) 0 (by omega) (An (by simp[Am,lk,hb,hbh,Ef,sha0,wI])) ?_
 intro k hk
 by_cases hlt:k<N
 ·have f1:Ac (decide (64 * (k:Int)<(p.length:Int))=true):=fo
  have hR:Ef p (k+1)=Kw (Ef p k) ((p.drop (64 * k)).take 64):=rfl
  have hM:=b0a (Ef p k) ((p.drop (64 * k)).take 64) (by rw[BL,Cc];omega)
  have hch:List.drop (64 * k) (List.take (64 * k+64) (p.map Bh))=((p.drop (64 * k)).take 64).map Bh:=by
   rw[List.drop_take,show 64 * k+64 - 64 * k=64 by omega,List.map_take,List.map_drop]
  have t1:(64 * (k:Int)).toNat=64 * k:=by omega
  have t2:(64 * (k:Int)+64).toNat=64 * k+64:=by omega
  have t3:List.take 64 (shaK.map aW)=shaK.map aW:=rfl
  rw[← hR]at hM
  generalize hS':Ef p (k+1)=S' at *
  generalize Ef p k=S at *
  generalize (p.drop (64 * k)).take 64=c at *
  clear hR
  refine DN ?_
  repeat' ((first|exact tt|refine Ag hM ?_|refine na fun b=>?_|refine nb fun b hb=>?_|refine iq ?_|(refine jq ?_ ?_<;>intro h h')|exact wZ|refine Aa ?_ ?_)<;>try refine DN ?_)
  all_goals exact AC (k+1) ⟨An (by simp[Am,lk,hb,hbh,hS'];omega),by omega,by omega⟩
 obtain rfl:k=N:=by omega
 have f1:Ac (decide (64 * (k:Int)<(p.length:Int))=false):=fo
 generalize Ef p k=S at *
 refine DN ?_
 repeat' ((first|exact tt|refine na fun b=>?_|refine nb fun b hb=>?_|refine iq ?_|(refine jq ?_ ?_<;>intro h h')|exact wZ|refine Aa ?_ ?_)<;>try refine DN ?_)
 rename_i bk hbk
 clear f1 hlt hk hN
 have hO:(Er S 0).map Bg=Ip:=rfl
 refine A2 (fun i:Nat=>⟨lk [(2,.ptr br 0),(6,.ptr bh 0),(9,.ptr b 0),(10,.int .i64 (i:Int))],lk [(br,z),(bh,S.l.map aW),(b,(Er S i).map Bg)]⟩) (fun i=>i≤32) (fun i=>32 - i) 0 (by omega) (An (by rw[hO];simp[Am,lk,hb,hbh,hbk])) ?_
 clear hO
 intro i hi
 by_cases hlt:i<32
 ·have f1:Ac (decide ((i:Int)<32)=true):=fo
  have h4:i / 4<8:=by omega
  have hld:=M2 S.l (i / 4) h4
  have hst:=QZ (Er S i) i (JA S i) (by rw[PL S i hi];exact hlt)
  rw[Zb S i hlt _ rfl]at hst
  have hlen:((Er S i).map Bg).length=32:=by rw[Ax,PL S i hi]
  have hlen8:(S.l.map aW).length=8:=rfl
  have hB:JA S i=wB ((S.l.getD (i / 4) 0) >>> (24 - 8 * (i % 4))):=rfl
  rw[hB]at hst
  simp only[Bg]at hst
  generalize S.l=sl at *
  generalize (Er S i).map Bg=X at *
  clear hB
  refine DN ?_
  repeat' ((first|exact tt|refine na fun b=>?_|refine nb fun b hb=>?_|refine iq ?_|(refine jq ?_ ?_<;>intro h h')|exact wZ|refine Aa ?_ ?_)<;>try refine DN ?_)
  all_goals exact AC (i+1) ⟨An (by simp[Am,lk,hb,hbh,hbk]),by omega,by omega⟩
 have f1:Ac (decide ((i:Int)<32)=false):=fo
 obtain rfl:i=32:=by omega
 have hT:List.take 32 (Ae (CJ S))=Ae (CJ S):=B0 (by simp[CJ])
 have hst:(Ae (CJ S)).map AV.store=Ae (CJ S):=by rw[EX];rfl
 have hP:=I4 z (Ae (CJ S)) (by rw[hzl];simp[CJ])
 have hL:(Ae (CJ S)).length=32:=by simp[CJ]
 rw[show (Er S 32).map Bg=Ae (CJ S) by rw[Za]]
 generalize Ae (CJ S)=X at *
 generalize S.l.map aW=Y at *
 refine DN ?_
 repeat' ((first|exact tt|refine na fun b=>?_|refine nb fun b hb=>?_|refine iq ?_|(refine jq ?_ ?_<;>intro h h')|exact wZ|refine Aa ?_ ?_)<;>try refine DN ?_)
theorem qr9{A:Prop}(h:A:=by first|(simp[Am,lk,IM,B9,Bh,IntKind.bits];done)|fail):A:=h
def Hi(n:Nat)(k:Nat):List AV:=((List.replicate (8 - k) (0:UInt8))++(eight n).drop (8 - k)).map Bg
theorem w8m(v:Nat):IntKind.wrap .u8 (Int.tmod (v:Int) 256)=((v % 256:Nat):Int):=by
 rw[Int.tmod_eq_emod_of_nonneg (by omega)]
 show ((v:Int) % 256) % 256=_
 omega
theorem w8d(v:Nat):Int.tdiv (v:Int) 256=((v / 256:Nat):Int):=by
 rw[Int.tdiv_eq_ediv_of_nonneg (by omega)];omega
theorem w8q(v:Nat)(h:v≤72057594037927935):IntKind.wrap .i64 (Int.tdiv (v:Int) 256)=((v / 256:Nat):Int):=by
 rw[w8d]
 exact Ap (by omega)
theorem WY(n k:Nat)(h:k<8):splice (Hi n k) (7 - k) [.int .u8 ((n / 256 ^ k % 256:Nat):Int)]=Hi n (k+1):=by
 have hc:k=0∨k=1∨k=2∨k=3∨k=4∨k=5∨k=6∨k=7:=by omega
 rcases hc with rfl|rfl|rfl|rfl|rfl|rfl|rfl|rfl
 all_goals simp[Hi,eight,splice,List.replicate,Bg]
theorem Mw{A B:Prop}(h:B)(e:A=B:=by (simp (disch:=omega) only[*, ↓Ed,Eu, ↓reduceIte,reduceCtorEq,Nat.reduceAdd,Nat.reduceEqDiff,Nat.reduceLT,Nat.reduceLeDiff,Int.reduceToNat,Int.reduceEq,Int.reduceLT,Int.reduceLE,Ap,Ao,Ax,Int.reduceAdd];first|done|rfl)):A:=e▸h
theorem PO(n:Nat)(h:n≤72057594037927935):CP Tryz.prog 87 [.int .i64 (n:Int)] (.str (eight n)):=by
 refine a6B _ _ (by simp) ?_
 have f1:Ac (decide ((n:Int)<0)=false):=fo
 have f2:Ac (decide ((72057594037927935:Int)<n)=false):=fo
 simp only[Vx];refine Mw ?_
 repeat' ((first|exact tt|refine na fun b=>?_|refine nb fun b hb=>?_|refine iq ?_|(refine jq ?_ ?_<;>intro h h')|exact wZ|refine Aa ?_ ?_)<;>try refine Mw ?_)
 refine A2 (fun k:Nat=>⟨lk [(0,.int .i64 ((n / 256 ^ k:Nat):Int)),(3,.osl b 0 8),(4,.int .i64 (7 - (k:Int)))],lk [(b,Hi n k)]⟩) (fun k=>k≤8) (fun k=>8 - k) 0 (by omega) (An (by simp[Am,lk,Hi,Bg,eight,List.replicate])) ?_
 clear f1 f2
 intro k hk
 by_cases hk8:k<8
 rotate_left
 ·obtain rfl:k=8:=by omega
  have f1:Ac (decide ((0:Int)≤7 - ((8:Nat):Int))=false):=by simp[Ac]
  refine Mw ?_
  repeat' ((first|exact tt|refine MO (eight n) rfl rfl ?_|refine na fun b=>?_|refine nb fun b hb=>?_|refine iq ?_|(refine jq ?_ ?_<;>intro h h')|exact wZ|refine Aa ?_ ?_)<;>try refine Mw ?_)
 have f1:Ac (decide ((0:Int)≤7 - (k:Int))=true):=fo
 have e0:(7 - (k:Int)).toNat * 1=7 - k:=by omega
 have e1:=w8q (n / 256 ^ k) (En (Nat.div_le_self _ _) h)
 have e2:n / 256 ^ k / 256=n / 256 ^ (k+1):=by rw[Nat.div_div_eq_div_mul, ← F8]
 have e3:=WY n k hk8
 have e4:7 - (k:Int) - 1=7 - ((k+1:Nat):Int):=by omega
 have e5:7 - k+1≤(Hi n k).length:=by simp[Hi,eight]
 refine Mw ?_
 repeat' ((first|exact tt|refine na fun b=>?_|refine nb fun b hb=>?_|refine iq ?_|(refine jq ?_ ?_<;>intro h h')|exact wZ|refine Aa ?_ ?_)<;>try refine Mw ?_)
 rw[w8m,e3]
 exact AC (k+1) ⟨An Mc,by omega,by omega⟩
section
open Go.RowKit Go.Lib
def vKey(k:Int)(p:List UInt8)(c q:Int):Prop:=Ba p c=true∧((1≤k∧k≤3∧1≤q∧q≤1099511627776)∨(4≤k∧k≤7∧q=0))
theorem vKey.q{k:Int}{p:List UInt8}{c q:Int}(h:vKey k p c q):OfQ (Ah k p c q) k p c q:=by
 rcases @ofP_q k p c q with e|e
 ·exfalso
  obtain ⟨hm,hk⟩:=h
  unfold Ah at e
  rw[Ad (by rintro (h1|h1);exact a1D (by omega) h1;exact h1 hm)]at e
  rcases hk with hk|hk
  ·rw[Af (by omega),Af (by omega)]at e;simp[Iu]at e
  ·rw[Ad (by omega),Af hk.2.2]at e;simp[Iu]at e
 ·exact e
theorem vKey.ne{k k':Int}{p p':List UInt8}{c c' q q':Int}(h:vKey k p c q)(h':vKey k' p' c' q')(hn:¬ (k=k'∧p=p'∧c=c'∧q=q')):Ah k p c q≠Ah k' p' c' q':=by
 intro e
 have a:=h.q
 rw[e]at a
 exact hn (a.inj h'.q)
theorem vKey.may{k:Int}{p:List UInt8}{c q:Int}(h:vKey k p c q){v:List UInt8}(hv:1≤v.length∧v.length≤64):B3 (Ah k p c q) v=true:=by
 have h1:=List.length_pos_iff.2 h.q.ne
 have h2:=Ky k p c q
 unfold B3
 rw[AO (by omega)]
theorem MH{k:Int}(hk:4≤k∧k≤7){p:List UInt8}{c:Int}(h:Ba p c=true):vKey k p c 0:=⟨h,.inr ⟨hk.1,hk.2,rfl⟩⟩
theorem MI{k:Int}(hk:1≤k∧k≤3){p:List UInt8}{c q:Int}(h:Ba p c=true)(hq:1≤q∧q≤1099511627776):vKey k p c q:=⟨h,.inl ⟨hk.1,hk.2,hq.1,hq.2⟩⟩
theorem Gh{p:PktC}(h:BO p=true):Ba p.s p.sc=true∧Ba p.d p.dc=true∧(1≤p.q∧p.q≤1099511627776)∧(0≤p.th∧p.th≤1099511627776)∧(0≤p.ta∧p.ta≤1099511627776)∧p.x.length≤200:=by
 simp only[BO,AP,Bs]at h
 exact ⟨h.1.1.1.1.1,h.1.1.1.1.2,h.1.2,h.1.1.1.2,h.1.1.2,h.2⟩
theorem a2U{v:List UInt8}(h:(C1 v).2=0):(C1 v).1.may=true:=by
 by_cases h1:rend v (dst v).2=0
 ·cases g:(Es.of v).may with
  | true=>rw[WR h1 g];exact g
  | false=>rw[WQ h1 g]at h;cases h
 ·rw[WP h1]at h;exact absurd h h1
theorem Sb{L:List PrP}{p:List UInt8}{c:Int}(h:(Av L p c).2=true):(Av L p c).1.may=true:=by
 unfold Av at h ⊢
 simp only[AP,Bs]at h
 exact a2U h.2
theorem b4n{L:List PrP}(hr:DT L){p:List UInt8}{c:Int}{x:Es}(hx:x.may=true):Av (A7 L (Ah 7 p c 0) x.enc) p c=(x,true):=by
 have h:=a9l hr (Ah 7 p c 0) x.enc
 unfold Av
 rw[h.1,h.2,a2V hx];simp
theorem XE{L:List PrP}(hr:DT L){p:List UInt8}{c:Int}{k v:List UInt8}(hk:Ah 7 p c 0≠k):Av (A7 L k v) p c=Av L p c:=by
 have h:=a3Q hr (v:=v) hk
 unfold Av
 rw[h.1,h.2]
theorem b4m{L:List PrP}(hr:DT L){p:List UInt8}{c:Int}{k:List UInt8}(hk:Ah 7 p c 0≠k):Av (DF L k) p c=Av L p c:=by
 have h:=b4o hr hk
 unfold Av
 rw[h.1,h.2]
theorem b4B{L:List PrP}(hr:DT L){k:Int}(hk:4≤k∧k≤6){p:List UInt8}{c n:Int}(hn:0≤n∧n≤72057594037927935):Fg (A7 L (Ah k p c 0) (pn n)) k p c=n:=by
 have h:=a9l hr (Ah k p c 0) (pn n)
 have hx:=PF [] [] n hn
 simp only[Bj,Jb,AY]at hx
 have hx':nx (pn n) 0=(n,((pn n).length:Int),0):=hx
 unfold Fg
 rw[h.2,hx',Af]
 refine ⟨?_,rfl,by simp⟩
 simp only[EC,AP,Bs];omega
theorem b4C{L:List PrP}(hr:DT L){w:Int}{p:List UInt8}{c:Int}{k v:List UInt8}(hk:Ah w p c 0≠k):Fg (A7 L k v) w p c=Fg L w p c:=by
 unfold Fg
 rw[(a3Q hr (v:=v) hk).2]
theorem a9q{m:MsgC}(h:Eq m)(h1:m.k≠1):Ba m.p.s m.p.sc=true∧Ba m.p.d m.p.dc=true∧(1≤m.p.q∧m.p.q≤1099511627776)∧(0≤m.nx∧m.nx≤1099511627777):=by
 have h2:=h.2.2.2.2 h1
 have h3:=Gh h2.1
 exact ⟨h3.1,h3.2.1,h3.2.2.1,h2.2.1⟩
theorem TB{L:List PrP}{K:List HdC}{ht tm:Int}{m:MsgC}(h:(H7 L K ht tm m).2.1=0):
  (Av L m.p.d m.p.dc).2=true∧((Av L m.p.d m.p.dc).1.p=m.p.s∧(Av L m.p.d m.p.dc).1.c=m.p.sc)∧(Av L m.p.d m.p.dc).1.cl=false∧H5 m.p ht tm=false∧LE L m.p (Av L m.p.d m.p.dc).1.o=0∧
  H7 L K ht tm m=([EN 2 m.p, { EN 3 m.p with a:=E2 m.p.x }],0,Me L m.p (Av L m.p.d m.p.dc).1.o):=by
 unfold H7 at h ⊢
 split at h
 ·cases h
 rename_i h1
 simp only[not_or,Decidable.not_not,Bool.not_eq_false]at h1
 split at h
 ·cases h
 rename_i h2
 split at h
 ·cases h
 rename_i h3
 split at h
 ·rename_i h4;exact absurd h h4
 rename_i h4
 simp only[ne_eq,Decidable.not_not]at h4
 split at h
 ·cases h
 rename_i x hx
 split at h
 ·cases h
 rename_i h5
 refine ⟨h1.1,h1.2,by simpa using h2,by simpa using h3,h4, ?_⟩
 rw[Ad (by simp[h1.1,h1.2]),Ad h2,Ad h3,Ad (by simp[h4])]
 simp only[hx,Ad h5]
theorem QV{L:List PrP}{K:List HdC}{m:MsgC}(h:(HO L K m).2.1=0):DX L m.p=0∧HO L K m=([EN 4 m.p],0,K6 L m.p (Av L m.p.s m.p.sc).1.o):=by
 unfold HO at h ⊢
 split at h
 ·rename_i h1;exact absurd h h1
 rename_i h1
 split at h
 ·cases h
 rename_i h2
 split at h
 ·cases h
 rename_i x hx
 split at h
 ·cases h
 rename_i h3
 refine ⟨by simpa using h1, ?_⟩
 rw[Ad h1,Ad h2]
 simp only[hx,Ad h3]
theorem PM{L:List PrP}{K:List HdC}{m:MsgC}(h:(Gn L K m).2.1=0):DX L m.p=0∧IL m (Av L m.p.s m.p.sc).1.o=0∧
  (m.k=4→(Av L m.p.s m.p.sc).1.o=true→(Av L m.p.s m.p.sc).1.cl=false→m.nx=m.p.q)∧Gn L K m=(K8 m (Av L m.p.s m.p.sc).1,0,Ha L m (Av L m.p.s m.p.sc).1):=by
 unfold Gn at h ⊢
 split at h
 ·rename_i h1;exact absurd h h1
 rename_i h1
 split at h
 ·cases h
 rename_i x hx
 split at h
 ·cases h
 rename_i h2
 split at h
 ·cases h
 rename_i h3
 split at h
 ·rename_i h4;exact absurd h h4
 rename_i h4
 split at h
 ·cases h
 rename_i h5
 split at h
 ·cases h
 rename_i h6
 refine ⟨by simpa using h1,by simpa using h4,fun a b c=>?_, ?_⟩
 ·by_cases e:m.nx=m.p.q
  ·exact e
  ·exact absurd ⟨a,b,.inr ⟨c,e⟩⟩ h5
 ·rw[Ad h1]
  simp only[hx,Ad h2,Ad h3,Ad h4,Ad h5,Ad h6]
theorem FT{L:List PrP}{p:PktC}(h:DX L p=0):(Av L p.s p.sc).2=true∧((Av L p.s p.sc).1.p=p.d∧(Av L p.s p.sc).1.c=p.dc)∧A9 L (Ah 1 p.s p.sc p.q)=true∧C2 L (Ah 1 p.s p.sc p.q)=Cg p:=by
 unfold DX at h
 split at h
 ·cases h
 rename_i h1
 split at h
 ·cases h
 rename_i h2
 simp only[not_or,Decidable.not_not,Bool.not_eq_false]at h1 h2
 exact ⟨h1.1,h1.2,h2.1,h2.2⟩
theorem a9p{L:List PrP}{p:PktC}(h1:(Av L p.s p.sc).2=true)(h2:(Av L p.s p.sc).1.p=p.d∧(Av L p.s p.sc).1.c=p.dc)(h3:A9 L (Ah 1 p.s p.sc p.q)=false):DX L p=17:=by
 unfold DX
 rw[Ad (by simp[h1,h2]),Af (.inl h3)]
theorem RP{L:List PrP}{K:List HdC}{ht tm:Int}{m:MsgC}(hm:Eq m)(h:m.k=2):EJ L K ht tm m=H7 L K ht tm m:=by
 unfold EJ;rw[Ad (not_not_intro hm),Af h]
theorem RQ{L:List PrP}{K:List HdC}{ht tm:Int}{m:MsgC}(hm:Eq m)(h:m.k=3):EJ L K ht tm m=HO L K m:=by
 unfold EJ;rw[Ad (not_not_intro hm),Ad (by omega),Af h]
theorem RS{L:List PrP}{K:List HdC}{ht tm:Int}{m:MsgC}(hm:Eq m)(h2:¬ m.k=2)(h3:¬ m.k=3):EJ L K ht tm m=Gn L K m:=by
 unfold EJ;rw[Ad (not_not_intro hm),Ad h2,Ad h3]
theorem RU{L:List PrP}{K:List HdC}{ht tm:Int}{m:MsgC}(he:(EJ L K ht tm m).2.1=0):Eq m:=by
 unfold EJ at he
 split at he
 ·cases he
 ·rename_i hm;exact Classical.not_not.1 hm
theorem b3b{L:List PrP}{K:List HdC}{ht tm:Int}{m:MsgC}(h:(EJ L K ht tm m).2.1≠0):(EJ L K ht tm m).1=[]∧(EJ L K ht tm m).2.2=L:=by
 revert h
 unfold EJ
 split
 ·exact fun _=>⟨rfl,rfl⟩
 split
 ·unfold H7
  repeat' split
  all_goals intro h;first|exact ⟨rfl,rfl⟩|exact absurd rfl h
 split
 ·unfold HO
  repeat' split
  all_goals intro h;first|exact ⟨rfl,rfl⟩|exact absurd rfl h
 ·unfold Gn
  repeat' split
  all_goals intro h;first|exact ⟨rfl,rfl⟩|exact absurd rfl h
theorem a2c(d:List UInt8):1≤(E2 d).length∧(E2 d).length≤32:=by
 unfold E2
 split
 ·simp
 ·split
  ·simp
  ·simp;omega
theorem Tv(n:Int)(h:0≤n∧n≤72057594037927935):1≤(pn n).length∧(pn n).length≤64:=⟨PX n h,by have:=C5 n;omega⟩
theorem Qe(s:List UInt8):1≤(BB s).length∧(BB s).length≤64:=by rw[FB];omega
structure StB (L:List PrP) (n:Nat):Prop where
 I:StI L
 b:L.length≤n
theorem StB.set{L:List PrP}{n:Nat}(h:StB L n)(hn:n≤990){k v:List UInt8}(hm:B3 k v=true):StB (A7 L k v) (n+1):=
 ⟨b2b h.I hm (by have:=h.b;omega),by have:=NZ L k v;have:=h.b;omega⟩
theorem StB.drop{L:List PrP}{n:Nat}(h:StB L n)(k:List UInt8):StB (DF L k) n:=⟨a3l h.I k,En (Lx L k).length_le h.b⟩
theorem StB.mono{L:List PrP}{n m:Nat}(h:StB L n)(hm:n≤m):StB L m:=⟨h.I,En h.b hm⟩
theorem X3{m:MsgC}{o:Bool}(h:IL m o=0):(o=true→¬ m.nx=0∧m.nx≤m.p.q):=by
 intro ho
 subst ho
 unfold IL at h
 split at h
 ·cases h
 rename_i h1
 split at h
 ·cases h
 rename_i h2
 refine ⟨fun e=>h1 (by simp[e]), ?_⟩
 by_cases g:m.nx≤m.p.q
 ·exact g
 ·exact absurd ⟨rfl,by omega⟩ h2
theorem a0s{s:Es}{n:Int}(hs:s.may=true)(ho:s.o=true)(hn:1≤n∧n≤1099511627777):(I0 s n).may=true:=by
 simp only[Es.may,I0,AP]at hs ⊢
 refine ⟨hs.1, ?_⟩
 rw[ho]
 simp[hn.1,hn.2]
theorem b2W{L:List PrP}{n:Nat}(hB:StB L n)(hn:n≤980){K:List HdC}{ht tm:Int}{m:MsgC}(h1:m.k≠1):StB (EJ L K ht tm m).2.2 (n+2):=by
 by_cases he:(EJ L K ht tm m).2.1=0
 rotate_left
 ·rw[(b3b he).2];exact hB.mono (by omega)
 unfold EJ at he ⊢
 split at he
 ·cases he
 rename_i hm
 rw[Ad hm]
 have hm:=Classical.not_not.1 hm
 obtain ⟨v1,v2,v3,v4⟩:=a9q hm h1
 split at he
 ·rename_i h2
  rw[Af h2]
  obtain ⟨_,_,_,_,_,e⟩:=TB he
  rw[e]
  show StB (Me L m.p _) _
  unfold Me
  refine StB.set ?_ (by omega) ((MI (by omega) v2 v3).may (Qe _))
  split
  ·exact hB.set (by omega) ((MH (by omega) v2).may (Tv _ (by omega)))
  ·exact hB.set (by omega) ((MI (by omega) v2 v3).may (by simp))
 rename_i h2
 rw[Ad h2]
 split at he
 ·rename_i h3
  rw[Af h3]
  obtain ⟨_,e⟩:=QV he
  rw[e]
  show StB (K6 L m.p _) _
  unfold K6
  split
  ·exact ((hB.drop _).set (by omega) ((MH (by omega) v1).may (Tv _ (by omega)))).mono (by omega)
  ·exact (hB.drop _).mono (by omega)
 ·rename_i h3
  rw[Ad h3]
  obtain ⟨g1,g2,g3,e⟩:=PM he
  rw[e]
  show StB (Ha L m _) _
  unfold Ha
  split
  ·rename_i hs
   have hg:=Sb (FT g1).1
   have hl:=X3 g2 hs.1
   have hsm:=a0s hg hs.1 (n:=m.nx) (by omega)
   exact ((hB.drop _).set (by omega) ((MH (by omega) v1).may ⟨R1 hsm,R0 hsm⟩)).mono (by omega)
  ·exact (hB.drop _).mono (by omega)
theorem b4F{L:List PrP}(hr:DT L){K:List HdC}{ht tm:Int}{m:MsgC}(hm:Eq m)(h1:m.k=2)(he:(EJ L K ht tm m).2.1=0):(EJ (EJ L K ht tm m).2.2 K ht tm m).2.1=15:=by
 obtain ⟨v1,v2,v3,v4⟩:=a9q hm (by omega)
 rw[RP hm h1,RP hm h1]
 rw[RP hm h1]at he
 obtain ⟨g1,g2,g3,g4,g5,e⟩:=TB he
 rw[e]
 show (H7 (Me L m.p _) K ht tm m).2.1=15
 have k2:vKey 2 m.p.d m.p.dc m.p.q:=MI (by omega) v2 v3
 have k3:vKey 3 m.p.d m.p.dc m.p.q:=MI (by omega) v2 v3
 have k5:vKey 5 m.p.d m.p.dc 0:=MH (by omega) v2
 have k7:vKey 7 m.p.d m.p.dc 0:=MH (by omega) v2
 have hr1:DT (if (Av L m.p.d m.p.dc).1.o=true then A7 L (Ah 5 m.p.d m.p.dc 0) (pn (m.p.q+1)) else A7 L (Ah 2 m.p.d m.p.dc m.p.q) [1]):=by
  split<;>exact Qc hr _ _
 have hg:Av (Me L m.p (Av L m.p.d m.p.dc).1.o) m.p.d m.p.dc=Av L m.p.d m.p.dc:=by
  unfold Me
  rw[XE hr1 (k7.ne k3 (by omega))]
  split
  ·exact XE hr (k7.ne k5 (by omega))
  ·exact XE hr (k7.ne k2 (by omega))
 have hf:LE (Me L m.p (Av L m.p.d m.p.dc).1.o) m.p (Av L m.p.d m.p.dc).1.o=15:=by
  unfold LE Me
  cases ho:(Av L m.p.d m.p.dc).1.o with
  | true=>
   simp only[Bo]
   rw[ho]at hr1
   rw[b4C (by simpa using hr1) (k5.ne k3 (by omega)),b4B hr (by omega) (by omega),Af (by omega)]
  | false=>
   simp only[D3,BV]
   rw[ho]at hr1
   rw[(a3Q (by simpa using hr1) (k2.ne k3 (by omega))).1,(a9l hr _ _).1,Af rfl]
 unfold H7
 rw[hg,Ad (by simp[g1,g2]),Ad (by simp[g3]),Ad (by simp[g4]),hf]
 simp
theorem a9A{L:List PrP}(hr:DT L){p:PktC}(v1:Ba p.s p.sc=true)(v3:1≤p.q∧p.q≤1099511627776)(g:DX L p=0){s':Es}{L':List PrP}
  (hL:L'=DF L (Ah 1 p.s p.sc p.q)∨(∃ v,L'=A7 (DF L (Ah 1 p.s p.sc p.q)) (Ah 6 p.s p.sc 0) v)∨(L'=A7 (DF L (Ah 1 p.s p.sc p.q)) (Ah 7 p.s p.sc 0) s'.enc∧s'.may=true∧s'.p=(Av L p.s p.sc).1.p∧s'.c=(Av L p.s p.sc).1.c)):
  DX L' p=17∧A9 L' (Ah 1 p.s p.sc p.q)=false:=by
 obtain ⟨g1,g2,g3,g4⟩:=FT g
 have k1:vKey 1 p.s p.sc p.q:=MI (by omega) v1 v3
 have k6:vKey 6 p.s p.sc 0:=MH (by omega) v1
 have k7:vKey 7 p.s p.sc 0:=MH (by omega) v1
 have hd:=a3m hr (Ah 1 p.s p.sc p.q)
 have hn:=b4z hr (Ah 1 p.s p.sc p.q)
 have hgd:=b4m hr (p:=p.s) (c:=p.sc) (k7.ne k1 (by omega))
 rcases hL with rfl | ⟨v,rfl⟩ | ⟨rfl,hs,e1,e2⟩
 ·exact ⟨a9p (by rw[hgd];exact g1) (by rw[hgd];exact g2) hn,hn⟩
 ·have hh:=(a3Q hd (v:=v) (k1.ne k6 (by omega))).1
  rw[hn]at hh
  have hg:=XE hd (v:=v) (p:=p.s) (c:=p.sc) (k7.ne k6 (by omega))
  rw[hgd]at hg
  exact ⟨a9p (by rw[hg];exact g1) (by rw[hg];exact g2) hh,hh⟩
 ·have hh:=(a3Q hd (v:=s'.enc) (k1.ne k7 (by omega))).1
  rw[hn]at hh
  have hg:=b4n hd (p:=p.s) (c:=p.sc) hs
  exact ⟨a9p (by rw[hg]) (by rw[hg,e1,e2];exact g2) hh,hh⟩
theorem a9G{L:List PrP}(hr:DT L){K:List HdC}{ht tm:Int}{m:MsgC}(hm:Eq m)(h1:3≤m.k)(he:(EJ L K ht tm m).2.1=0):
  (EJ (EJ L K ht tm m).2.2 K ht tm m).2.1=17∧A9 (EJ L K ht tm m).2.2 (Ah 1 m.p.s m.p.sc m.p.q)=false:=by
 obtain ⟨v1,v2,v3,v4⟩:=a9q hm (by omega)
 by_cases h3:m.k=3
 ·rw[RQ hm h3,RQ hm h3]
  rw[RQ hm h3]at he
  obtain ⟨g,e⟩:=QV he
  rw[e]
  have hh:=a9A hr v1 v3 g (s':=Es.zero) (L':=K6 L m.p (Av L m.p.s m.p.sc).1.o) (by
   unfold K6
   split
   ·exact .inr (.inl ⟨_,rfl⟩)
   ·exact .inl rfl)
  refine ⟨?_,hh.2⟩
  show (HO (K6 L m.p _) K m).2.1=17
  unfold HO
  rw[Af (by rw[hh.1];decide),hh.1]
 ·have h2:¬ m.k=2:=by omega
  rw[RS hm h2 h3,RS hm h2 h3]
  rw[RS hm h2 h3]at he
  obtain ⟨g,gl,g3,e⟩:=PM he
  rw[e]
  have hh:=a9A hr v1 v3 g (s':=I0 (Av L m.p.s m.p.sc).1 m.nx) (L':=Ha L m (Av L m.p.s m.p.sc).1) (by
   unfold Ha
   split
   ·rename_i hs
    have hl:=X3 gl hs.1
    exact .inr (.inr ⟨rfl,a0s (Sb (FT g).1) hs.1 (by have:=hl.1;omega),rfl,rfl⟩)
   ·exact .inl rfl)
  refine ⟨?_,hh.2⟩
  show (Gn (Ha L m _) K m).2.1=17
  unfold Gn
  rw[Af (by rw[hh.1];decide),hh.1]
end
section
open Go.RowKit Go.Lib
theorem ZM:∀ {M:List PrP} {k:List UInt8},(∀ q∈M,BX q.1 k=true)→AE M k=M.length
 | [],_,_=>rfl
 | y::r,k,h=>by
  rw[b0p,Af (h y (by simp)),ZM (fun q hq=>h q (by simp[hq]))];rfl
theorem b2c{M:List PrP}{k:List UInt8}(h:∀ q∈M,BX q.1 k=true)(v:List UInt8):A7 M k v=M++[(k,v)]:=by
 have hp:=ZM h
 have hh:A9 M k=false:=by simp[A9,hp]
 unfold A7
 rw[hp,hh];simp
theorem b0z{L:List PrP}(h:StI L){i:Nat}(hi:i<L.length):CQ (L.take i) (L.getD i default).1 (L.getD i default).2=L.take (i+1):=by
 have e:L.getD i default=L[i]:=by simp[List.getD,hi]
 unfold CQ
 rw[e,Af (h.may _ (Di hi)),b2c,List.take_succ,Aw hi]
 ·rfl
 ·intro q hq
  obtain ⟨j,hj,rfl⟩:=Do hq
  rw[BL]at hj
  rw[List.getElem_take]
  exact J6.1 h.rise j i (by omega) hi (by omega)
theorem b3q{L:List PrP}(h:StI L)(i:Nat):StI (L.take i):=
 ⟨List.Pairwise.sublist (List.take_sublist i L) h.rise,fun q hq=>h.may q (EZ hq),by have:=h.len;rw[BL];omega⟩
noncomputable def D6 (L:List PrP) (l:List PktC):Nat→List PrP
 | 0=>L
 | i+1=>if BO (l.getD i default)=true then A7 (D6 L l i) (Ah 1 (l.getD i default).s (l.getD i default).sc (l.getD i default).q) (Cg (l.getD i default)) else D6 L l i
noncomputable def Cn (L:List PrP) (l:List PrP):Nat→List PrP
 | 0=>L
 | i+1=>CQ (Cn L l i) (l.getD i default).1 (l.getD i default).2
theorem Sm{L:List PrP}{n:Nat}(h:StB L n)(l:List PktC):∀ {i:Nat},n+i≤900→StB (D6 L l i) (n+i)
 | 0,_=>h
 | i+1,hi=>by
  have ih:=Sm h l (i:=i) (by omega)
  unfold D6
  split
  ·rename_i hm
   have hp:=Gh hm
   exact ih.set (by omega) ((MI (by omega) hp.1 hp.2.2.1).may (Qe _))
  ·exact ih.mono (by omega)
theorem b0y{L:List PrP}{n:Nat}(h:StB L n)(hn:n≤980)(k v:List UInt8):StB (CQ L k v) (n+1):=by
 unfold CQ
 split
 ·rename_i hm;exact h.set (by omega) hm
 ·exact h.mono (by omega)
theorem NA{L:List PrP}{n:Nat}(h:StB L n)(l:List PrP):∀ {i:Nat},n+i≤900→StB (Cn L l i) (n+i)
 | 0,_=>h
 | i+1,hi=>b0y (NA h l (i:=i) (by omega)) (by omega) _ _
theorem b0n{L:List PrP}{p:List UInt8}{c:Int}{d:List UInt8}{th ta:Int}(h:NY L p c d th ta=0):(Av L p c).2=true∧(Av L p c).1.cl=false∧BO (Dj L p c d th ta)=true:=by
 unfold NY at h
 split at h
 ·cases h
 rename_i h1
 split at h
 ·cases h
 rename_i h2
 split at h
 ·cases h
 split at h
 ·cases h
 rename_i h4
 exact ⟨by simpa using h1,by simpa using h2,by simpa using h4⟩
theorem b1W{L:List PrP}{n:Nat}(hB:StB L n)(hn:n≤980){q:PktC}(hq:BO q=true):StB (IX L q) (n+2):=by
 have hp:=Gh hq
 unfold IX
 exact (hB.set (by omega) ((MH (by omega) hp.1).may (Tv _ (by omega)))).set (by omega) ((MI (by omega) hp.1 hp.2.2.1).may (Qe _))
end
theorem BN{x:Hs}(h:x.length=32):(Ae x).map AV.store=Ae x∧splice Ip 0 (Ae x)=Ae x∧(Ae x).take 32=Ae x∧(Ae x).length=32:=by
 have hl:(Ae x).length=32:=by rw[Ax,h]
 exact ⟨by rw[EX];rfl,I4 Ip _ (by rw[hl];rfl),B0 (by omega),hl⟩
theorem MC{A B:Prop}(h:B)(e:A=B:=by (simp (disch:=omega) only[*, ↓Ed,Eu, ↓reduceIte,reduceCtorEq,Nat.reduceAdd,Nat.reduceEqDiff,Nat.reduceLT,Nat.reduceLeDiff,Int.reduceToNat,Int.reduceEq,Int.reduceLT,Int.reduceLE,Ap,Ao,Ax,AJ,AY,Int.reduceAdd,AH,AN];first|done|rfl)):A:=e▸h
theorem a9V(k v:List UInt8)(hk:k.length≤1000000)(hv:v.length≤1000000):CP Tryz.prog 144 [.str k,.str v] (.agg (Ae (DG k v))):=by
 have hE:=PO k.length (by omega)
 have hS:=NJ ([0]++eight k.length++k++v) (by simp only[Ao,Hj,AJ,AY];omega)
 rw[show BB ([0]++eight k.length++k++v)=DG k v by unfold DG;simp]at hS
 refine a6E _ _ (by simp) ?_
 have he:=Hj k.length
 obtain ⟨z1,z2,z3,z4⟩:=BN (Ks k v)
 generalize eight k.length=e at *
 generalize Ae (DG k v)=Z at *
 simp only[VA,Cz.z2];refine MC ?_
 repeat' ((first|exact tt|refine Ag hE ?_|refine Ab hE ?_|refine Ag hS ?_|refine Ab hS ?_|refine na fun b=>?_|refine nb fun b hb=>?_|refine iq ?_|(refine jq ?_ ?_<;>intro h h')|exact wZ|refine Aa ?_ ?_)<;>try refine MC ?_)
theorem a9X(a b:Hs)(ha:a.length=32)(hb:b.length=32):CP Tryz.prog 196 [.agg (Ae a),.agg (Ae b)] (.agg (Ae (EM a b))):=by
 have h1:=NK a ha
 have h2:=NK b hb
 have hS:=NJ ([1]++a++b) (by simp only[Ao,AJ,AY];omega)
 rw[show BB ([1]++a++b)=EM a b by unfold EM;simp]at hS
 obtain ⟨z1,z2,z3,z4⟩:=BN (LX a b)
 obtain ⟨y1,y2,y3,y4⟩:=BN ha
 obtain ⟨x1,x2,x3,x4⟩:=BN hb
 generalize Ae (EM a b)=Z at *
 generalize Ae a=Y at *
 generalize Ae b=X at *
 refine a6J _ _ (by simp) ?_
 simp only[VD,Cz.z2];refine MC ?_
 repeat' ((first|exact tt|refine Ag h1 ?_|refine Ab h1 ?_|refine Ag h2 ?_|refine Ab h2 ?_|refine Ag hS ?_|refine Ab hS ?_|refine na fun b=>?_|refine nb fun b hb=>?_|refine iq ?_|(refine jq ?_ ?_<;>intro h h')|exact wZ|refine Aa ?_ ?_)<;>try refine MC ?_)
theorem a9Y(n:Nat)(t:Hs)(ht:t.length=32)(hn:n≤1073741824):CP Tryz.prog 154 [.int .i64 (n:Int),.agg (Ae t)] (.agg (Ae (DJ n t))):=by
 have hE:=PO n (by omega)
 have h1:=NK t ht
 have hS:=NJ ([2]++eight n++t) (by simp only[Ao,Hj,AJ,AY];omega)
 rw[show BB ([2]++eight n++t)=DJ n t by unfold DJ;simp]at hS
 refine a6M _ _ (by simp) ?_
 have he:=Hj n
 obtain ⟨z1,z2,z3,z4⟩:=BN (JJ n t)
 obtain ⟨y1,y2,y3,y4⟩:=BN ht
 generalize eight n=e at *
 generalize Ae (DJ n t)=Z at *
 generalize Ae t=Y at *
 simp only[VG,Cz.z2];refine MC ?_
 repeat' ((first|exact tt|refine Ag hE ?_|refine Ab hE ?_|refine Ag h1 ?_|refine Ab h1 ?_|refine Ag hS ?_|refine Ab hS ?_|refine na fun b=>?_|refine nb fun b hb=>?_|refine iq ?_|(refine jq ?_ ?_<;>intro h h')|exact wZ|refine Aa ?_ ?_)<;>try refine MC ?_)
abbrev AL(l:List Hs):List (List AV):=l.map Ae
theorem Cm(l:List Hs):(AL l).length=l.length:=by simp
theorem El{A B:Prop}(h:B)(e:A=B:=by (simp (disch:=omega) only[*, ↓Ed,Eu, ↓reduceIte,reduceCtorEq,Nat.reduceAdd,Nat.reduceEqDiff,Nat.reduceLT,Nat.reduceLeDiff,Int.reduceToNat,Int.reduceEq,Int.reduceLT,Int.reduceLE,Ap,Ao,Ax,AJ,AY,Int.reduceAdd,AH,AN,Df,Dw];first|done|rfl)):A:=e▸h
theorem ZD(n:Nat)(h1:1<n)(h2:n≤1073741824):CP Tryz.prog 191 [.int .i64 (n:Int)] (.int .i64 (Ar n:Int)):=by
 refine a6D _ _ (by simp) ?_
 simp only[Vz];refine El ?_
 repeat' ((first|exact tt|refine na fun b=>?_|refine nb fun b hb=>?_|refine iq ?_|(refine jq ?_ ?_<;>intro h h')|exact wZ|refine Aa ?_ ?_)<;>try refine El ?_)
 have hlog:Nat.log2 (n - 1)<30:=by rw[Nat.log2_lt (by omega)];omega
 refine A2 (fun k:Nat=>⟨lk [(0,.int .i64 (n:Int)),(3,.int .i64 ((2 ^ k:Nat):Int))],lk []⟩) (fun k=>k≤Nat.log2 (n - 1)) (fun k=>Nat.log2 (n - 1) - k) 0 (by omega) (An Mc) ?_
 intro k hk
 have hp:2 ^ k≤2 ^ 30:=Nat.pow_le_pow_right (by omega) (by omega)
 have hp2:2 ^ k≤2 ^ Nat.log2 (n - 1):=Nat.pow_le_pow_right (by omega) hk
 have hl:=Nat.log2_self_le (n:=n - 1) (by omega)
 have hp1:=Nat.two_pow_pos k
 have hs:((2 ^ (k+1):Nat):Int)=2 * ((2 ^ k:Nat):Int):=by rw[F8];omega
 by_cases hlt:2 * 2 ^ k<n
 ·have f1:Ac (decide (2 * ((2 ^ k:Nat):Int)<(n:Int))=true):=fo
  have hk2:k<Nat.log2 (n - 1):=by
   rcases FJ k (Nat.log2 (n - 1)) with h|h
   ·exact h
   ·have e:k=Nat.log2 (n - 1):=by omega
    have:=XG h1
    unfold Ar at this
    rw[e]at hlt;omega
  generalize hq:2 ^ k=q at *
  generalize hr:2 ^ (k+1)=r at *
  refine El ?_
  repeat' ((first|exact tt|refine na fun b=>?_|refine nb fun b hb=>?_|refine iq ?_|(refine jq ?_ ?_<;>intro h h')|exact wZ|refine Aa ?_ ?_)<;>try refine El ?_)
  all_goals exact AC (k+1) ⟨An (by simp[Am,lk,hs,hr]),by omega,by omega⟩
 ·have f1:Ac (decide (2 * ((2 ^ k:Nat):Int)<(n:Int))=false):=fo
  have e:2 ^ k=Ar n:=a3Y (by omega) (by omega)
  generalize 2 ^ k=q at *
  subst e
  refine El ?_
  repeat' ((first|exact tt|refine na fun b=>?_|refine nb fun b hb=>?_|refine iq ?_|(refine jq ?_ ?_<;>intro h h')|exact wZ|refine Aa ?_ ?_)<;>try refine El ?_)
theorem NL:∀ (m:Nat) (own:Option Nat) (l:List Hs),l.length≤m→(∀ x∈l,x.length=32)→l.length≤1000000→CP Tryz.prog 155 [.sl none 32 (AL l)] (.agg (Ae (CU l)))
 | m,own,l,hm,h32,hb=>by
  refine a6Q _ _ (by simp) ?_
  by_cases h1:1<l.length
  ·have hH:=ZD l.length h1 (by omega)
   have hlt:=HT h1
   have hps:=IG l.length
   have ht:∀ x∈l.take (Ar l.length),x.length=32:=fun x hx=>h32 x (EZ hx)
   have hd:∀ x∈l.drop (Ar l.length),x.length=32:=fun x hx=>h32 x (EY hx)
   obtain ⟨m',rfl⟩:∃ m',m=m'+1:=⟨m - 1,by omega⟩
   have hA:=NL m' none (l.take (Ar l.length)) (by simp;omega) ht (by simp;omega)
   have hB:=NL m' none (l.drop (Ar l.length)) (by simp;omega) hd (by simp;omega)
   have hN:=a9X _ _ (HH ht) (HH hd)
   rw[← a1p h1]at hN
   rw[AL,List.map_take]at hA
   rw[AL,List.map_drop]at hB
   change CP Tryz.prog 155 [.sl none 32 (List.take _ (AL l))] _ at hA
   change CP Tryz.prog 155 [.sl none 32 (List.drop _ (AL l))] _ at hB
   have hl:=Cm l
   obtain ⟨z1,z2,z3,z4⟩:=BN (HH h32)
   obtain ⟨y1,y2,y3,y4⟩:=BN (HH ht)
   obtain ⟨x1,x2,x3,x4⟩:=BN (HH hd)
   have f0:Ac (decide ((l.length:Int)=0)=false):=fo
   have f1:Ac (decide ((l.length:Int)=1)=false):=fo
   clear h32 ht hd hm
   generalize Ae (CU l)=Z at *
   generalize Ae (CU (l.take (Ar l.length)))=A at *
   generalize Ae (CU (l.drop (Ar l.length)))=B at *
   generalize Ar l.length=h at *
   generalize AL l=X at *
   have hX:List.take l.length X=X:=B0 (by omega)
   simp only[OG,Cz.z2];refine El ?_
   repeat' ((first|exact tt|refine Ab hH ?_|refine Ag hA ?_|refine Ag hB ?_|refine Ag hN ?_|refine na fun b=>?_|refine nb fun b hb=>?_|refine iq ?_|(refine jq ?_ ?_<;>intro h h')|exact wZ|refine Aa ?_ ?_)<;>try refine El ?_)
  ·have hl:=Cm l
   by_cases h0:l.length=0
   ·have e:Ae (CU l)=Ip:=by
     rw[K4.1 h0,TW (by simp)];rfl
    rw[e]
    have f0:Ac (decide ((l.length:Int)=0)=true):=fo
    clear h32 h0
    generalize AL l=X at *
    simp only[OG,Cz.z2];refine El ?_
    repeat' ((first|exact tt|refine na fun b=>?_|refine nb fun b hb=>?_|refine iq ?_|(refine jq ?_ ?_<;>intro h h')|exact wZ|refine Aa ?_ ?_)<;>try refine El ?_)
   ·have hx:=h32 (l.getD 0 F3) (by rw[List.getD,Aw (by omega)];exact Di _)
    rw[TW (by omega)]
    have f0:Ac (decide ((l.length:Int)=0)=false):=fo
    have f1:Ac (decide ((l.length:Int)=1)=true):=fo
    obtain ⟨z1,z2,z3,z4⟩:=BN hx
    have hg:(AL l).getD 0 []=Ae (l.getD 0 F3):=by simp[List.getD,show 0<l.length by omega]
    clear h32 hx
    generalize Ae (l.getD 0 F3)=Z at *
    generalize AL l=X at *
    simp only[OG,Cz.z2];refine El ?_
    repeat' ((first|exact tt|refine na fun b=>?_|refine nb fun b hb=>?_|refine iq ?_|(refine jq ?_ ?_<;>intro h h')|exact wZ|refine Aa ?_ ?_)<;>try refine El ?_)
theorem a5c{L:List PrP}{i:Nat}(h:i<L.length):AL ((Bz L).take (i+1))=AL ((Bz L).take i)++[Ae (DG (L.getD i default).1 (L.getD i default).2)]:=by
 have hl:(Bz L).length=L.length:=by simp[Bz]
 rw[List.take_succ,Aw (by omega)]
 simp[Bz,List.getD,h]
theorem Tp(L:List PrP)(hb:L.length≤1000)(hs:∀ i,i<L.length→(L.getD i default).1.length≤1000000∧(L.getD i default).2.length≤1000000):CP Tryz.prog 76 [.sl none 2 (AX L)] (.sl (some 29) 32 (AL (Bz L))):=by
 refine a6U _ _ (by simp) ?_
 simp only[VM];refine El ?_
 repeat' ((first|exact tt|refine na fun b=>?_|refine nb fun b hb=>?_|refine iq ?_|(refine jq ?_ ?_<;>intro h h')|exact wZ|refine Aa ?_ ?_)<;>try refine El ?_)
 have hll:(Bz L).length=L.length:=by simp[Bz]
 have hmx:maxLen=9223372036854775807:=rfl
 refine A2 (fun i:Nat=>⟨lk [(0,.sl none 2 (AX L)),(3,.sl (some 29) 32 (AL ((Bz L).take i))),(4,.int .i64 (i:Int))],lk []⟩) (fun i=>i≤L.length) (fun i=>L.length - i) 0 (by omega) (An Mc) ?_
 intro i hi
 have hXl:(AL ((Bz L).take i)).length=i:=by rw[Cm,BL];omega
 by_cases hlt:i<L.length
 ·have f1:Ac (decide ((i:Int)<L.length)=true):=fo
  obtain ⟨s1,s2⟩:=hs i hlt
  have hL:=a9V _ _ s1 s2
  obtain ⟨z1,z2,z3,z4⟩:=BN (Ks (L.getD i default).1 (L.getD i default).2)
  have hn:=a5c hlt
  clear hs
  generalize hX':AL ((Bz L).take (i+1))=X' at *
  generalize AL ((Bz L).take i)=X at *
  generalize Ae (DG (L.getD i default).1 (L.getD i default).2)=Z at *
  obtain ⟨⟨k,v⟩,hgd⟩:∃ a,L.getD i default=a:=⟨_,rfl⟩
  rw[hgd]at hL s1 s2
  refine El ?_
  repeat' ((first|exact tt|refine Ag hL ?_|refine na fun b=>?_|refine nb fun b hb=>?_|refine iq ?_|(refine jq ?_ ?_<;>intro h h')|exact wZ|refine Aa ?_ ?_)<;>try refine El ?_)
  all_goals exact AC (i+1) ⟨An (by simp[Am,lk,hX',hn]),hlt,by omega⟩
 ·obtain rfl:i=L.length:=by omega
  have f1:Ac (decide ((L.length:Int)<L.length)=false):=fo
  rw[B0 (by omega)]at hXl ⊢
  generalize AL (Bz L)=X at *
  refine El ?_
  repeat' ((first|exact tt|refine na fun b=>?_|refine nb fun b hb=>?_|refine iq ?_|(refine jq ?_ ?_<;>intro h h')|exact wZ|refine Aa ?_ ?_)<;>try refine El ?_)
theorem a8Z(L:List PrP)(hb:L.length≤1000)(hs:∀ i,i<L.length→(L.getD i default).1.length≤1000000∧(L.getD i default).2.length≤1000000):CP Tryz.prog 88 [.sl none 2 (AX L)] (.agg (Ae (KN L))):=by
 have hl:(Bz L).length=L.length:=by simp[Bz]
 have hA:=Tp L hb hs
 have hB:=NL (Bz L).length none (Bz L) (A8 _) (Nx L) (by omega)
 have hC:=a9Y L.length (CU (Bz L)) (HH (Nx L)) (by omega)
 obtain ⟨z1,z2,z3,z4⟩:=BN (JJ L.length (CU (Bz L)))
 obtain ⟨y1,y2,y3,y4⟩:=BN (HH (Nx L))
 unfold KN
 generalize Ae (DJ L.length (CU (Bz L)))=Z at *
 generalize Ae (CU (Bz L))=Y at *
 generalize AL (Bz L)=X at *
 clear hs
 refine a6N _ _ (by simp) ?_
 simp only[VH,Cz.z2];refine El ?_
 repeat' ((first|exact tt|refine Ab hA ?_|refine Ab hB ?_|refine Ab hC ?_|refine na fun b=>?_|refine nb fun b hb=>?_|refine iq ?_|(refine jq ?_ ?_<;>intro h h')|exact wZ|refine Aa ?_ ?_)<;>try refine El ?_)
end Go.Proofs.YtfgihnhoocnmdaaGreatDoor
