import Derived.Test.YtfgihnhoocnmdaaGreatDoorK21
namespace Go.Proofs.YtfgihnhoocnmdaaGreatDoor
set_option linter.all false
set_option maxHeartbeats 64000000
set_option maxRecDepth 100000
open Go.RowKit
section
open Go.RowKit Go.Lib
theorem XJ(cap:Nat)(l:List LfC)(i j:Nat)(hi:i<l.length)(hj:j<4):∃ r,(CF cap l).drop (i * 4+j)=(BZ none (l.getD i default)).getD j .undef::r:=by
 have h:=lfRow.drop_take cap l i default hi
 have e:((CF cap l).drop (i * 4+j))[0]?=(BZ none (l.getD i default))[j]?:=by
  rw[← h,CW hj,CC,CC];rfl
 generalize (CF cap l).drop (i * 4+j)=X at e
 have hl:(BZ none (l.getD i default)).length=4:=rfl
 cases X with
 | nil=>
  have e2:(BZ none (l.getD i default))[j]?=some _:=Aw (by omega)
  rw[e2]at e;cases e
 | cons c r=>exact ⟨r,by
   simp only[G5]at e
   rw[List.getD, ← e];rfl⟩
theorem b0H(cap:Nat)(l:List LfC)(i:Nat)(hi:i<l.length)(K:AV→Prop):RK (A5 none ((CF cap l).drop (i * 4+3))) K=K (.sl none 32 (AL (l.getD i default).p)):=by
 obtain ⟨r,h⟩:=XJ cap l i 3 hi (by omega)
 rw[h,l_onef,RK_eq];rfl
theorem a4n(cap:Nat)(l:List LfC)(h:l.length≤cap):(CF cap l).length=cap * 4:=by rw[CF,lfRow.len_hc];congr 1;omega
theorem a0x:∀ (cs:List AV) (o:Nat) (v:AV),cs[o]?=some v→splice cs o [v]=cs
 | [],_,_,h=>by simp at h
 | c::r,0,v,h=>by simp only[G5,Az]at h;subst h;simp[splice]
 | c::r,o+1,v,h=>by simp only[splice,a0x r o v (by simpa using h)]
theorem a4o(cap:Nat)(l:List LfC)(i:Nat)(hi:i<l.length):splice (CF cap l) (i * 4+3) [.sl none 32 (AL (l.getD i default).p)]=CF cap l:=by
 obtain ⟨r,h⟩:=XJ cap l i 3 hi (by omega)
 refine a0x _ _ _ ?_
 rw[← Nat.add_zero (i * 4+3), ← CC,h];rfl
theorem a4q(x:Hs):GC (Ae x)=true:=by
 unfold Ae
 induction x with
 | nil=>rfl
 | cons b r ih=>simpa[GC,Bg]using ih
theorem NU{s:St}{rs:List AR}{c:Int}{g e cap:Nat}{l:List LfC}(h:BR s rs (.agg [.int .i64 c,.hsl g e 4 l.length cap]))(hg:s.o g=some (CF cap l)):J8 s rs (lk []) (fun r' _=>r'=.agg [.int .i64 c,.sl none 4 (BW none l)]):=by
 rw[Yj]
 refine b0G (o3:=[(g,CF cap l)]) h (fun b cs hb=>?_) ?_
 ·rw[lk_cons]at hb
  split at hb
  ·rename_i e;subst e;rw[hg];exact hb
  ·cases hb
 ·refine ⟨[.int .i64 c,.sl none 4 (BW none l)],rfl,fun i x d h1 h2=>?_,rfl⟩
  match i with
  | 0=>simp at h1 h2;subst h1 h2;rfl
  | 1=>
   simp at h1 h2;subst h1 h2
   refine ⟨BW none l,by simp[lk,CF,BW],lfRow.all l,by simp[BW], ?_⟩
   rw[B0 (by simp[BW])]
  | i+2=>simp at h1
theorem a9j(p:List Hs)(hp:p.length≤1000)(h32:∀ x∈p,x.length=32):CP Tryz.prog 200 [.sl none 32 (AL p)] (.sl none 32 (AL p)):=by
 obtain ⟨i0,hi,hz0,hz1,hz2⟩:=info_parts (P:=Tryz.prog) (e:=29) (z:=.agg (Array.replicate 32 (.int .u8 0))) (size:=32) (bytes:=32) (by kernel_rfl)
 refine G4 (T7 _ _ _) trivial (Ud Tryz.cln200 i0 _ 32 32 hi hz0 hz1 hz2 rfl (by omega) Tryz.sizeOf29 (AL p) (by rw[Cm];omega) (by rw[Cm];unfold maxLen;omega) (fun e he=>?_) (fun e he=>?_))
 ·obtain ⟨x,hx,rfl⟩:=Dp.1 he
  simpa using h32 x hx
 ·obtain ⟨x,hx,rfl⟩:=Dp.1 he
  exact a4q x
theorem Ij{A B:Prop}(h:B)(e:A=B:=by (simp (disch:=omega) only[*, ↓Ed,Eu, ↓reduceIte,reduceCtorEq,Nat.reduceAdd,Nat.reduceEqDiff,Nat.reduceLT,Nat.reduceLeDiff,Int.reduceToNat,Int.reduceEq,Int.reduceLT,Int.reduceLE,Ap,Ao,Ax,AJ,AY,Int.reduceAdd,AH,AN,Cm,Fc,Fv,Ca, ↓b0H];first|done|rfl)):A:=e▸h
theorem JB(c:Int)(l:List LfC)(hl:l.length≤1000)(hp:∀ i,i<l.length→(l.getD i default).p.length≤1000):
  CP Tryz.prog 158 [.agg [.int .i64 c,.sl none 4 (BW none l)]] (.agg [.int .i64 c,.sl none 4 (BW none l)]):=by
 rcases Gv l.length with h0|h0
 ·obtain rfl:=Dn h0
  show CP _ _ [.agg [.int .i64 c,.sl none 4 []]] (.agg [.int .i64 c,.sl none 4 []])
  have hC:CP Tryz.prog 199 [.sl none 4 []] (.sl none 4 []):=by
   obtain ⟨i0,hi,hz0,hz1,hz2⟩:=info_parts (P:=Tryz.prog) (e:=145) (z:=zLf) (size:=4) (bytes:=64) (by kernel_rfl)
   exact G4 (T7 _ _ _) trivial (Ud Tryz.cln199 i0 _ 4 64 hi hz0 hz1 hz2 rfl (by omega) Tryz.sizeOf145 [] (by simp) (by simp) (by simp) (by simp))
  have f1:Ac (decide (((0:Nat):Int)<((0:Nat):Int))=false):=rfl
  refine YN _ _ (by simp) ?_
  simp only[Lm];refine Ij ?_
  repeat' ((first|exact tt|refine Ab hC ?_|refine na fun b=>?_|refine nb fun b hb=>?_|refine iq ?_|(refine jq ?_ ?_<;>intro h h')|exact wZ|refine Aa ?_ ?_)<;>try refine Ij ?_)
  rename_i b1
  obtain ⟨e1,e2⟩:=hb
  refine A2 (fun _:Nat=>⟨lk [(1,.ptr b1 0),(2,.ptr b 0),(10,.int .i64 0),(11,.int .i64 0)],lk [(b1,[.int .i64 c,.sl none 4 []]),(b,[.int .i64 0,.sl (some 145) 4 []])]⟩) (fun _=>True) (fun _=>0) 0 trivial (An qd) ?_
  intro i hi
  refine Ij ?_
  repeat' ((first|exact tt|refine na fun b=>?_|refine nb fun b hb=>?_|refine iq ?_|(refine jq ?_ ?_<;>intro h h')|exact wZ|refine Aa ?_ ?_)<;>try refine Ij ?_)
 have hC:=b2P l h0 (by omega)
 refine Uf a7I (by simp) ?_
 simp only[Lm];refine Ij ?_
 repeat' ((first|exact tt|((refine a2J hC (fun g cap hn hc=>?_))<;>(try simp only[Bt,Bu,Bc]at hn))|refine na fun b=>?_|refine nb fun b hb=>?_|refine iq ?_|(refine jq ?_ ?_<;>intro h h')|exact wZ|refine Aa ?_ ?_)<;>try refine Ij ?_)
 rename_i b1
 obtain ⟨e1,e2⟩:=hb
 refine A2 (fun i:Nat=>⟨lk [(1,.ptr b1 0),(2,.ptr b 0),(10,.int .i64 (l.length:Int)),(11,.int .i64 (i:Int))],lk [(b1,[.int .i64 c,.hsl g 145 4 l.length cap]),(b,[.int .i64 0,.sl (some 145) 4 []]),(g,CF cap l)]⟩) (fun i=>i≤l.length) (fun i=>l.length - i) 0 (by omega) (An qd) ?_
 intro i hi
 by_cases hil:i<l.length
 ·have g1:Ac (decide ((i:Int)<l.length)=true):=fo
  have hCP:=a9j (l.getD i default).p (hp i hil) (l.getD i default).h
  clear hC hp
  refine Ij ?_
  repeat' ((first|exact tt|refine Ab hCP ?_|refine Ag hCP ?_|refine na fun b=>?_|refine nb fun b hb=>?_|refine iq ?_|(refine jq ?_ ?_<;>intro h h')|exact wZ|refine Aa ?_ ?_)<;>try refine Ij ?_)
  refine ⟨by rw[a4n _ _ hc];omega, ?_⟩
  rw[a4o cap l i hil]
  exact AC (i+1) ⟨An qd,hil,by omega⟩
 ·obtain rfl:i=l.length:=by omega
  have g1:Ac (decide ((l.length:Int)<l.length)=false):=fo
  clear hC hp
  refine Ij ?_
  repeat' ((first|exact tt|refine na fun b=>?_|refine nb fun b hb=>?_|refine iq ?_|(refine jq ?_ ?_<;>intro h h')|exact wZ|refine Aa ?_ ?_)<;>try refine Ij ?_)
  exact NU (g:=g) (e:=145) (cap:=cap) ZV (by simp[lk, *])
end
def FW(m:MsgC):MsgC:=if 1≤m.k∧m.k≤5 then (if m.k=1 then ⟨m.k,m.h,default,[],0,0,zeroF,zeroF⟩ else ⟨m.k,default,m.p,if m.k=3 then m.a else [],if m.k=4∨m.k=5 then m.nx else 0,m.ht,m.pr,if m.k=5 then m.cl else zeroF⟩) else ⟨m.k,default,default,[],0,0,zeroF,zeroF⟩
def IP:AV→AV
 | .nils _ sz=>.sl none sz []
 | a=>a
theorem a1C:∀ l:List AV,K5 l (l.map IP)
 | []=>trivial
 | a::l=>⟨by cases a<;>first|exact Wk.rfl|exact QD _ _,a1C l⟩
theorem MJ{l r:List AV}(h:l.map IP=r):Wk (.agg l) (.agg r):=QC (h▸a1C l)
theorem LW(x:HdC):x.rt.map IP=x.rt:=by
 unfold HdC.rt
 rw[EX]
 rfl
theorem Gq{A B:Prop}(h:B)(e:A=B:=by (simp (disch:=omega) only[*, ↓Ed,Eu, ↓reduceIte,reduceCtorEq,Nat.reduceAdd,Nat.reduceEqDiff,Nat.reduceLT,Nat.reduceLeDiff,Int.reduceToNat,Int.reduceEq,Int.reduceLT,Int.reduceLE,Ap,Ao,Ax,AJ,AY,Int.reduceAdd,AH,AN,Ca, ↓Ht, ↓H0, ↓SK, ↓Gi, ↓Gj, ↓GM, ↓SL, ↓SN, ↓Ff, ↓Gk, ↓Gl, ↓Py, ↓Ez, ↓EL,DZ,C4,PktC.cs,PfC.cs,BF,Co];first|done|rfl)):A:=e▸h
theorem NF(k:Int):CP Tryz.prog 159 [.int .i64 k] (.bool (decide (k=4)||decide (k=5))):=by
 refine YO _ _ (by simp) ?_
 cases h1:decide (k=4)
 all_goals (simp only[Rq];refine Gq ?_;try exact tt)
 all_goals repeat' ((first|exact tt|refine na fun b=>?_|refine nb fun b hb=>?_|refine iq ?_|(refine jq ?_ ?_<;>intro h h')|exact wZ|refine Aa ?_ ?_)<;>try refine Gq ?_)
 all_goals rfl

theorem a9N(k:Int)(hk:¬ (1≤k∧k≤5))(h:HdC)(p:PktC)(a:List UInt8)(nx ht:Int)(pr cl:PfC)(hp:Bw pr)(hc:Bw cl):CP Tryz.prog 93 [.agg (AD ⟨k,h,p,a,nx,ht,pr,cl⟩)] (.agg [.int .i64 k,.int .i64 0,.int .i64 0,.int .u8 0,.int .u8 0,.int .u8 0,.int .u8 0,.int .u8 0,.int .u8 0,.int .u8 0,.int .u8 0,.int .u8 0,.int .u8 0,.int .u8 0,.int .u8 0,.int .u8 0,.int .u8 0,.int .u8 0,.int .u8 0,.int .u8 0,.int .u8 0,.int .u8 0,.int .u8 0,.int .u8 0,.int .u8 0,.int .u8 0,.int .u8 0,.int .u8 0,.int .u8 0,.int .u8 0,.int .u8 0,.int .u8 0,.int .u8 0,.int .u8 0,.int .u8 0,.str [],.int .i64 0,.str [],.int .i64 0,.int .i64 0,.str [],.int .i64 0,.int .i64 0,.str [],.int .i64 0,.int .i64 0,.int .i64 0,.nils 145 4,.int .i64 0,.nils 145 4]):=by
 have hK:=IU k
 rw[A0 hk]at hK
 refine Kz _ _ (by simp) ?_
 simp only[Jl,Cz.z0];refine Gq ?_
 repeat' ((first|exact tt|refine Ab hK ?_|refine Ag hK ?_|refine na fun b=>?_|refine nb fun b hb=>?_|refine iq ?_|(refine jq ?_ ?_<;>intro h h')|exact wZ|refine Aa ?_ ?_)<;>try refine Gq ?_)
theorem a9I(h:HdC)(p:PktC)(a:List UInt8)(nx ht:Int)(pr cl:PfC)(hp:Bw pr)(hc:Bw cl):CP Tryz.prog 93 [.agg (AD ⟨1,h,p,a,nx,ht,pr,cl⟩)] (.agg (.int .i64 1::(h.cs++[.str [],.int .i64 0,.str [],.int .i64 0,.int .i64 0,.str [],.int .i64 0,.int .i64 0,.str [],.int .i64 0,.int .i64 0,.int .i64 0,.nils 145 4,.int .i64 0,.nils 145 4]))):=by
 have hK:=IU 1
 rw[AO (by omega)]at hK
 have f1:Ac (decide ((1:Int)=1)=true):=rfl
 have f3:Ac (decide ((1:Int)=3)=false):=rfl
 have f5:Ac (decide ((1:Int)=5)=false):=rfl
 have hN:=NF 1
 rw[show (decide ((1:Int)=4)||decide ((1:Int)=5))=false from rfl]at hN
 have hsp:splice [.int .u8 0,.int .u8 0,.int .u8 0,.int .u8 0,.int .u8 0,.int .u8 0,.int .u8 0,.int .u8 0,.int .u8 0,.int .u8 0,.int .u8 0,.int .u8 0,.int .u8 0,.int .u8 0,.int .u8 0,.int .u8 0,.int .u8 0,.int .u8 0,.int .u8 0,.int .u8 0,.int .u8 0,.int .u8 0,.int .u8 0,.int .u8 0,.int .u8 0,.int .u8 0,.int .u8 0,.int .u8 0,.int .u8 0,.int .u8 0,.int .u8 0,.int .u8 0,.str [],.int .i64 0,.str [],.int .i64 0,.int .i64 0,.str [],.int .i64 0,.int .i64 0,.str [],.int .i64 0,.int .i64 0,.int .i64 0,.nils 145 4,.int .i64 0,.nils 145 4] 0 h.rt=h.rt++[.str [],.int .i64 0,.str [],.int .i64 0,.int .i64 0,.str [],.int .i64 0,.int .i64 0,.str [],.int .i64 0,.int .i64 0,.int .i64 0,.nils 145 4,.int .i64 0,.nils 145 4]:=by
  show splice ([.int .u8 0,.int .u8 0,.int .u8 0,.int .u8 0,.int .u8 0,.int .u8 0,.int .u8 0,.int .u8 0,.int .u8 0,.int .u8 0,.int .u8 0,.int .u8 0,.int .u8 0,.int .u8 0,.int .u8 0,.int .u8 0,.int .u8 0,.int .u8 0,.int .u8 0,.int .u8 0,.int .u8 0,.int .u8 0,.int .u8 0,.int .u8 0,.int .u8 0,.int .u8 0,.int .u8 0,.int .u8 0,.int .u8 0,.int .u8 0,.int .u8 0,.int .u8 0]++[.str [],.int .i64 0,.str [],.int .i64 0,.int .i64 0,.str [],.int .i64 0,.int .i64 0,.str [],.int .i64 0,.int .i64 0,.int .i64 0,.nils 145 4,.int .i64 0,.nils 145 4]) 0 h.rt=_
  rw[a0w _ _ _ (by simp[BF])]
 have hld:∀ K,RK (A5 (some 50) (.int .i64 1 :: .int .i64 h.h :: .int .i64 h.t::(h.rt++[.str [],.int .i64 0,.str [],.int .i64 0,.int .i64 0,.str [],.int .i64 0,.int .i64 0,.str [],.int .i64 0,.int .i64 0,.int .i64 0,.nils 145 4,.int .i64 0,.nils 145 4]))) K=K (.agg (.int .i64 1 :: .int .i64 h.h :: .int .i64 h.t::(h.rt++[.str [],.int .i64 0,.str [],.int .i64 0,.int .i64 0,.str [],.int .i64 0,.int .i64 0,.str [],.int .i64 0,.int .i64 0,.int .i64 0,.nils 145 4,.int .i64 0,.nils 145 4]))):=fun K=>LQ (cs:=.int .i64 1 :: .int .i64 h.h :: .int .i64 h.t::(h.rt++[.str [],.int .i64 0,.str [],.int .i64 0,.int .i64 0,.str [],.int .i64 0,.int .i64 0,.str [],.int .i64 0,.int .i64 0,.int .i64 0,.nils 145 4,.int .i64 0,.nils 145 4])) (r:=[]) (by simp) (by simp[BF]) K
 have htk:List.take 47 (h.rt++[.str [],.int .i64 0,.str [],.int .i64 0,.int .i64 0,.str [],.int .i64 0,.int .i64 0,.str [],.int .i64 0,.int .i64 0,.int .i64 0,.nils 145 4,.int .i64 0,.nils 145 4])=h.rt++[.str [],.int .i64 0,.str [],.int .i64 0,.int .i64 0,.str [],.int .i64 0,.int .i64 0,.str [],.int .i64 0,.int .i64 0,.int .i64 0,.nils 145 4,.int .i64 0,.nils 145 4]:=B0 (by simp[BF])
 have hsp3:splice [.int .u8 0,.int .u8 0,.int .u8 0,.int .u8 0,.int .u8 0,.int .u8 0,.int .u8 0,.int .u8 0,.int .u8 0,.int .u8 0,.int .u8 0,.int .u8 0,.int .u8 0,.int .u8 0,.int .u8 0,.int .u8 0,.int .u8 0,.int .u8 0,.int .u8 0,.int .u8 0,.int .u8 0,.int .u8 0,.int .u8 0,.int .u8 0,.int .u8 0,.int .u8 0,.int .u8 0,.int .u8 0,.int .u8 0,.int .u8 0,.int .u8 0,.int .u8 0,.str [],.int .i64 0,.str [],.int .i64 0,.int .i64 0,.str [],.int .i64 0,.int .i64 0,.str [],.int .i64 0,.int .i64 0,.int .i64 0,.sl (some 145) 4 [],.int .i64 0,.sl (some 145) 4 []] 0 (h.rt++[.str [],.int .i64 0,.str [],.int .i64 0,.int .i64 0,.str [],.int .i64 0,.int .i64 0,.str [],.int .i64 0,.int .i64 0,.int .i64 0,.nils 145 4,.int .i64 0,.nils 145 4])=h.rt++[.str [],.int .i64 0,.str [],.int .i64 0,.int .i64 0,.str [],.int .i64 0,.int .i64 0,.str [],.int .i64 0,.int .i64 0,.int .i64 0,.nils 145 4,.int .i64 0,.nils 145 4]:=TO _ _ (by simp[BF])
 have hma:List.map AV.store (h.rt++[.str [],.int .i64 0,.str [],.int .i64 0,.int .i64 0,.str [],.int .i64 0,.int .i64 0,.str [],.int .i64 0,.int .i64 0,.int .i64 0,.nils 145 4,.int .i64 0,.nils 145 4])=h.rt++[.str [],.int .i64 0,.str [],.int .i64 0,.int .i64 0,.str [],.int .i64 0,.int .i64 0,.str [],.int .i64 0,.int .i64 0,.int .i64 0,.nils 145 4,.int .i64 0,.nils 145 4]:=by rw[FI,Co];rfl
 refine Kz _ _ (by simp) ?_
 simp (disch:=omega) only[Jl,Cz.z0,hsp, ↓hld,htk,hsp3,hma, ↓Ed,Eu, ↓reduceIte,reduceCtorEq,Nat.reduceAdd,Nat.reduceEqDiff,Nat.reduceLT,Nat.reduceLeDiff,Int.reduceToNat,Int.reduceEq,Int.reduceLT,Int.reduceLE,Ap,Ao,Ax,AJ,AY,Int.reduceAdd,AH,AN,Ca, ↓Ht, ↓H0, ↓SK, ↓Gi, ↓Gj, ↓GM, ↓SL, ↓SN, ↓Ff, ↓Gk, ↓Gl, ↓Py, ↓Ez, ↓EL,DZ,C4,PktC.cs,PfC.cs,BF,Co]
 repeat' ((first|exact tt|refine Ab hK ?_|refine Ag hK ?_|refine Ab hN ?_|refine Ag hN ?_|refine na fun b=>?_|refine nb fun b hb=>?_|refine iq ?_|(refine jq ?_ ?_<;>intro h h')|exact wZ|refine Aa ?_ ?_)<;>try refine Gq ?_)
 all_goals rfl
theorem a9J(h:HdC)(p:PktC)(a:List UInt8)(nx ht:Int)(pr cl:PfC)(hp:Bw pr)(hc:Bw cl):CP Tryz.prog 93 [.agg (AD ⟨2,h,p,a,nx,ht,pr,cl⟩)] (.agg [.int .i64 2,.int .i64 0,.int .i64 0,.int .u8 0,.int .u8 0,.int .u8 0,.int .u8 0,.int .u8 0,.int .u8 0,.int .u8 0,.int .u8 0,.int .u8 0,.int .u8 0,.int .u8 0,.int .u8 0,.int .u8 0,.int .u8 0,.int .u8 0,.int .u8 0,.int .u8 0,.int .u8 0,.int .u8 0,.int .u8 0,.int .u8 0,.int .u8 0,.int .u8 0,.int .u8 0,.int .u8 0,.int .u8 0,.int .u8 0,.int .u8 0,.int .u8 0,.int .u8 0,.int .u8 0,.int .u8 0,.str p.s,.int .i64 p.sc,.str p.d,.int .i64 p.dc,.int .i64 p.q,.str p.x,.int .i64 p.th,.int .i64 p.ta,.str [],.int .i64 0,.int .i64 ht,.int .i64 pr.c,.sl none 4 (Fe pr.l),.int .i64 0,.nils 145 4]):=by
 have hK:=IU 2
 rw[AO (by omega)]at hK
 have f1:Ac (decide ((2:Int)=1)=false):=rfl
 have f3:Ac (decide ((2:Int)=3)=false):=rfl
 have f5:Ac (decide ((2:Int)=5)=false):=rfl
 have hN:=NF 2
 rw[show (decide ((2:Int)=4)||decide ((2:Int)=5))=false from rfl]at hN
 have hC:=JB pr.c pr.l hp.1 (fun i hi=>(hp.2 i hi).2.2)
 have hD:=JB cl.c cl.l hc.1 (fun i hi=>(hc.2 i hi).2.2)
 simp only[← Nu]at hC hD
 refine Kz _ _ (by simp) ?_
 simp only[Jl,Cz.z0];refine Gq ?_
 repeat' ((first|exact tt|refine Ab hK ?_|refine Ag hK ?_|refine Ab hN ?_|refine Ag hN ?_|refine Ab hC ?_|refine Ag hC ?_|refine Ab hD ?_|refine Ag hD ?_|refine na fun b=>?_|refine nb fun b hb=>?_|refine iq ?_|(refine jq ?_ ?_<;>intro h h')|exact wZ|refine Aa ?_ ?_)<;>try refine Gq ?_)
theorem a9K(h:HdC)(p:PktC)(a:List UInt8)(nx ht:Int)(pr cl:PfC)(hp:Bw pr)(hc:Bw cl):CP Tryz.prog 93 [.agg (AD ⟨3,h,p,a,nx,ht,pr,cl⟩)] (.agg [.int .i64 3,.int .i64 0,.int .i64 0,.int .u8 0,.int .u8 0,.int .u8 0,.int .u8 0,.int .u8 0,.int .u8 0,.int .u8 0,.int .u8 0,.int .u8 0,.int .u8 0,.int .u8 0,.int .u8 0,.int .u8 0,.int .u8 0,.int .u8 0,.int .u8 0,.int .u8 0,.int .u8 0,.int .u8 0,.int .u8 0,.int .u8 0,.int .u8 0,.int .u8 0,.int .u8 0,.int .u8 0,.int .u8 0,.int .u8 0,.int .u8 0,.int .u8 0,.int .u8 0,.int .u8 0,.int .u8 0,.str p.s,.int .i64 p.sc,.str p.d,.int .i64 p.dc,.int .i64 p.q,.str p.x,.int .i64 p.th,.int .i64 p.ta,.str a,.int .i64 0,.int .i64 ht,.int .i64 pr.c,.sl none 4 (Fe pr.l),.int .i64 0,.nils 145 4]):=by
 have hK:=IU 3
 rw[AO (by omega)]at hK
 have f1:Ac (decide ((3:Int)=1)=false):=rfl
 have f3:Ac (decide ((3:Int)=3)=true):=rfl
 have f5:Ac (decide ((3:Int)=5)=false):=rfl
 have hN:=NF 3
 rw[show (decide ((3:Int)=4)||decide ((3:Int)=5))=false from rfl]at hN
 have hC:=JB pr.c pr.l hp.1 (fun i hi=>(hp.2 i hi).2.2)
 have hD:=JB cl.c cl.l hc.1 (fun i hi=>(hc.2 i hi).2.2)
 simp only[← Nu]at hC hD
 refine Kz _ _ (by simp) ?_
 simp only[Jl,Cz.z0];refine Gq ?_
 repeat' ((first|exact tt|refine Ab hK ?_|refine Ag hK ?_|refine Ab hN ?_|refine Ag hN ?_|refine Ab hC ?_|refine Ag hC ?_|refine Ab hD ?_|refine Ag hD ?_|refine na fun b=>?_|refine nb fun b hb=>?_|refine iq ?_|(refine jq ?_ ?_<;>intro h h')|exact wZ|refine Aa ?_ ?_)<;>try refine Gq ?_)
theorem a9L(h:HdC)(p:PktC)(a:List UInt8)(nx ht:Int)(pr cl:PfC)(hp:Bw pr)(hc:Bw cl):CP Tryz.prog 93 [.agg (AD ⟨4,h,p,a,nx,ht,pr,cl⟩)] (.agg [.int .i64 4,.int .i64 0,.int .i64 0,.int .u8 0,.int .u8 0,.int .u8 0,.int .u8 0,.int .u8 0,.int .u8 0,.int .u8 0,.int .u8 0,.int .u8 0,.int .u8 0,.int .u8 0,.int .u8 0,.int .u8 0,.int .u8 0,.int .u8 0,.int .u8 0,.int .u8 0,.int .u8 0,.int .u8 0,.int .u8 0,.int .u8 0,.int .u8 0,.int .u8 0,.int .u8 0,.int .u8 0,.int .u8 0,.int .u8 0,.int .u8 0,.int .u8 0,.int .u8 0,.int .u8 0,.int .u8 0,.str p.s,.int .i64 p.sc,.str p.d,.int .i64 p.dc,.int .i64 p.q,.str p.x,.int .i64 p.th,.int .i64 p.ta,.str [],.int .i64 nx,.int .i64 ht,.int .i64 pr.c,.sl none 4 (Fe pr.l),.int .i64 0,.nils 145 4]):=by
 have hK:=IU 4
 rw[AO (by omega)]at hK
 have f1:Ac (decide ((4:Int)=1)=false):=rfl
 have f3:Ac (decide ((4:Int)=3)=false):=rfl
 have f5:Ac (decide ((4:Int)=5)=false):=rfl
 have hN:=NF 4
 rw[show (decide ((4:Int)=4)||decide ((4:Int)=5))=true from rfl]at hN
 have hC:=JB pr.c pr.l hp.1 (fun i hi=>(hp.2 i hi).2.2)
 have hD:=JB cl.c cl.l hc.1 (fun i hi=>(hc.2 i hi).2.2)
 simp only[← Nu]at hC hD
 refine Kz _ _ (by simp) ?_
 simp only[Jl,Cz.z0];refine Gq ?_
 repeat' ((first|exact tt|refine Ab hK ?_|refine Ag hK ?_|refine Ab hN ?_|refine Ag hN ?_|refine Ab hC ?_|refine Ag hC ?_|refine Ab hD ?_|refine Ag hD ?_|refine na fun b=>?_|refine nb fun b hb=>?_|refine iq ?_|(refine jq ?_ ?_<;>intro h h')|exact wZ|refine Aa ?_ ?_)<;>try refine Gq ?_)
theorem a9M(h:HdC)(p:PktC)(a:List UInt8)(nx ht:Int)(pr cl:PfC)(hp:Bw pr)(hc:Bw cl):CP Tryz.prog 93 [.agg (AD ⟨5,h,p,a,nx,ht,pr,cl⟩)] (.agg [.int .i64 5,.int .i64 0,.int .i64 0,.int .u8 0,.int .u8 0,.int .u8 0,.int .u8 0,.int .u8 0,.int .u8 0,.int .u8 0,.int .u8 0,.int .u8 0,.int .u8 0,.int .u8 0,.int .u8 0,.int .u8 0,.int .u8 0,.int .u8 0,.int .u8 0,.int .u8 0,.int .u8 0,.int .u8 0,.int .u8 0,.int .u8 0,.int .u8 0,.int .u8 0,.int .u8 0,.int .u8 0,.int .u8 0,.int .u8 0,.int .u8 0,.int .u8 0,.int .u8 0,.int .u8 0,.int .u8 0,.str p.s,.int .i64 p.sc,.str p.d,.int .i64 p.dc,.int .i64 p.q,.str p.x,.int .i64 p.th,.int .i64 p.ta,.str [],.int .i64 nx,.int .i64 ht,.int .i64 pr.c,.sl none 4 (Fe pr.l),.int .i64 cl.c,.sl none 4 (Fe cl.l)]):=by
 have hK:=IU 5
 rw[AO (by omega)]at hK
 have f1:Ac (decide ((5:Int)=1)=false):=rfl
 have f3:Ac (decide ((5:Int)=3)=false):=rfl
 have f5:Ac (decide ((5:Int)=5)=true):=rfl
 have hN:=NF 5
 rw[show (decide ((5:Int)=4)||decide ((5:Int)=5))=true from rfl]at hN
 have hC:=JB pr.c pr.l hp.1 (fun i hi=>(hp.2 i hi).2.2)
 have hD:=JB cl.c cl.l hc.1 (fun i hi=>(hc.2 i hi).2.2)
 simp only[← Nu]at hC hD
 refine Kz _ _ (by simp) ?_
 simp only[Jl,Cz.z0];refine Gq ?_
 repeat' ((first|exact tt|refine Ab hK ?_|refine Ag hK ?_|refine Ab hN ?_|refine Ag hN ?_|refine Ab hC ?_|refine Ag hC ?_|refine Ab hD ?_|refine Ag hD ?_|refine na fun b=>?_|refine nb fun b hb=>?_|refine iq ?_|(refine jq ?_ ?_<;>intro h h')|exact wZ|refine Aa ?_ ?_)<;>try refine Gq ?_)
theorem a9H(m:MsgC)(hp:Bw m.pr)(hc:Bw m.cl):CP Tryz.prog 93 [.agg (AD m)] (.agg (AD (FW m))):=by
 obtain ⟨k,h,p,a,nx,ht,pr,cl⟩:=m
 by_cases hk:1≤k∧k≤5
 ·have h5:k=1∨k=2∨k=3∨k=4∨k=5:=by omega
  rcases h5 with rfl|rfl|rfl|rfl|rfl
  ·exact G4 (MJ (by simp[LW,IP,FW,AD,Gg,C3,zeroF,Fe];repeat' (first|rfl|refine ⟨?_, ?_⟩))) trivial (a9I h p a nx ht pr cl hp hc)
  ·exact G4 (MJ (by simp[LW,IP,FW,AD,Gg,C3,zeroF,Fe,Mi];repeat' (first|rfl|refine ⟨?_, ?_⟩))) trivial (a9J h p a nx ht pr cl hp hc)
  ·exact G4 (MJ (by simp[LW,IP,FW,AD,Gg,C3,zeroF,Fe,Mi];repeat' (first|rfl|refine ⟨?_, ?_⟩))) trivial (a9K h p a nx ht pr cl hp hc)
  ·exact G4 (MJ (by simp[LW,IP,FW,AD,Gg,C3,zeroF,Fe,Mi];repeat' (first|rfl|refine ⟨?_, ?_⟩))) trivial (a9L h p a nx ht pr cl hp hc)
  ·exact G4 (MJ (by simp[LW,IP,FW,AD,Gg,C3,zeroF,Fe,Mi];repeat' (first|rfl|refine ⟨?_, ?_⟩))) trivial (a9M h p a nx ht pr cl hp hc)
 ·exact G4 (MJ (by simp[LW,IP,FW,AD,Gg,C3,zeroF,Fe,Mi,hk];repeat' (first|rfl|refine ⟨?_, ?_⟩))) trivial (a9N k hk h p a nx ht pr cl hp hc)
abbrev rI(r:List Int):List AV:=r.map (AV.int .u8 ·)
theorem P3{r:List Int}(h:r.length=32):(rI r).map AV.store=rI r∧splice Ip 0 (rI r)=rI r∧(rI r).take 32=rI r∧(rI r).length=32:=by
 have hl:(rI r).length=32:=by rw[Ax,h]
 exact ⟨by rw[EX];rfl,I4 Ip _ (by rw[hl];rfl),B0 (by omega),hl⟩
theorem Ux{α:Type}[Inhabited α](q:α→Bool){l:List α}{k:Nat}(hk:k<l.length):(l.take (k+1)).all q=((l.take k).all q&&q (l.getD k default)):=by
 have e:l.take (k+1)=l.take k++[l.getD k default]:=by
  rw[List.take_add_one,Aw hk]
  simp[List.getD,hk]
 rw[e,List.all_append];simp
theorem Uw{α:Type}[Inhabited α]{q:α→Bool}{l:List α}{k:Nat}(hk:k<l.length)(h:q (l.getD k default)=false):l.all q=false:=by
 rw[List.all_eq_false]
 exact ⟨l[k],Di hk,by simpa[List.getD,hk]using h⟩
theorem F1{A B:Prop}(h:B)(e:A=B:=by (simp (disch:=omega) only[*, ↓Ed,Eu, ↓reduceIte,reduceCtorEq,Nat.reduceAdd,Nat.reduceEqDiff,Nat.reduceLT,Nat.reduceLeDiff,Int.reduceToNat,Int.reduceEq,Int.reduceLT,Int.reduceLE,Ap,Ao,Ax,AJ,AY,Int.reduceAdd,AH,AN,Cm,Fc,Fv,Ca,BZ];first|done|rfl)):A:=e▸h
theorem PS(p:PfC)(hp:Bw p):CP Tryz.prog 95 [.agg p.cs] (.bool (D7 p)):=by
 obtain ⟨c,l⟩:=p
 obtain ⟨hl,hs⟩:=hp
 simp only at hl hs
 refine YS _ _ (by simp) ?_
 unfold D7
 rw[show (PfC.mk c l).cs=[.int .i64 c,.sl none 4 (BW none l)] from rfl]
 simp only
 by_cases h0:0≤c∧c≤1073741824∧l.length≤2
 rotate_left
 ·rw[A0 h0,Bool.false_and]
  have f1:Ac (¬ (0≤c∧c≤1073741824∧l.length≤2)):=h0
  clear h0 hs
  simp only[OJ];refine F1 ?_
  repeat' ((first|exact tt|refine na fun b=>?_|refine nb fun b hb=>?_|refine iq ?_|(refine jq ?_ ?_<;>intro h h')|exact wZ|refine Aa ?_ ?_)<;>try refine F1 ?_)
  all_goals (exfalso;simp only[Ac,Hn]at *;omega)
 rw[AO h0,Gt]
 obtain ⟨h1,h2,h3⟩:=h0
 obtain ⟨n,rfl⟩:∃ n:Nat,c=(n:Int):=⟨c.toNat,by omega⟩
 have f1:Ac (decide ((n:Int)<0)=false):=fo
 have f2:Ac (decide (1073741824<(n:Int))=false):=fo
 have f3:Ac (decide (2<(l.length:Int))=false):=fo
 simp only[OJ];refine F1 ?_
 repeat' ((first|exact tt|refine na fun b=>?_|refine nb fun b hb=>?_|refine iq ?_|(refine jq ?_ ?_<;>intro h h')|exact wZ|refine Aa ?_ ?_)<;>try refine F1 ?_)
 clear f1 f2 f3
 refine A2 (fun k:Nat=>⟨lk [(1,.ptr b 0),(20,.sl none 4 (BW none l)),(21,.int .i64 (l.length:Int)),(22,.int .i64 (k:Int))],lk [(b,[.int .i64 (n:Int),.sl none 4 (BW none l)])]⟩) (fun k=>k≤l.length∧Ac ((l.take k).all (Hr n)=true)) (fun k=>l.length - k) 0 ⟨by omega,rfl⟩ (An Mc) ?_
 rintro k ⟨g1,g2⟩
 by_cases hk:k<l.length
 rotate_left
 ·have f5:Ac (decide ((k:Int)<l.length)=false):=fo
  have:l.all (Hr n)=true:=by
   have:=show (l.take k).all (Hr n)=true from g2
   rwa [B0 (by omega)]at this
  rw[this]
  clear g2 this hs
  refine F1 ?_
  repeat' ((first|exact tt|refine na fun b=>?_|refine nb fun b hb=>?_|refine iq ?_|(refine jq ?_ ?_<;>intro h h')|exact wZ|refine Aa ?_ ?_)<;>try refine F1 ?_)
 have f5:Ac (decide ((k:Int)<l.length)=true):=fo
 obtain ⟨s1,s2,s3⟩:=hs k hk
 have hN:Hr n (l.getD k default)=true→Ac ((l.take (k+1)).all (Hr n)=true):=fun h=>by
  show _=_
  rw[Ux _ hk,show (l.take k).all (Hr n)=true from g2,h];rfl
 have hF:Hr n (l.getD k default)=false→l.all (Hr n)=false:=fun h=>Uw hk h
 clear g2 hs
 obtain ⟨⟨xk,xv,xi,xp,x32⟩,hx⟩:∃ x,l.getD k default=x:=⟨_,rfl⟩
 rw[hx]at hN hF s1 s2 s3
 simp only at s1 s2 s3
 have hS:=ZF xk xv (by omega) (by omega)
 rw[show Hr n ⟨xk,xv,xi,xp,x32⟩=(ET xk xv&&(decide (0≤xi∧xi<(n:Int))&&decide (xp.length=BU (n:Int).toNat xi.toNat))) from rfl]at hN hF
 change CP _ _ _ (.bool (ET xk xv)) at hS
 have hlp:=Cm xp
 cases hz:ET xk xv with
 | false=>
  have hF:=hF (by rw[hz];rfl)
  rw[hz]at hS
  rw[hF]
  clear hN hF
  refine F1 ?_
  repeat' ((first|exact tt|refine Ab hS ?_|refine Ag hS ?_|refine na fun b=>?_|refine nb fun b hb=>?_|refine iq ?_|(refine jq ?_ ?_<;>intro h h')|exact wZ|refine Aa ?_ ?_)<;>try refine F1 ?_)
 | true=>
  rw[hz]at hS hN hF
  by_cases hi:0≤xi∧xi<n
  rotate_left
  ·have hF:=hF (by rw[A0 hi];rfl)
   rw[hF]
   have f6:Ac (¬ (0≤xi∧xi<n)):=hi
   clear hN hF hi
   refine F1 ?_
   repeat' ((first|exact tt|refine Ab hS ?_|refine Ag hS ?_|refine na fun b=>?_|refine nb fun b hb=>?_|refine iq ?_|(refine jq ?_ ?_<;>intro h h')|exact wZ|refine Aa ?_ ?_)<;>try refine F1 ?_)
   all_goals (exfalso;simp only[Ac,Hn]at *;omega)
  ·rw[AO hi]at hN hF
   obtain ⟨i1,i2⟩:=hi
   obtain ⟨i,rfl⟩:∃ i:Nat,xi=(i:Int):=⟨xi.toNat,by omega⟩
   rw[Dh,Dh]at hN hF
   have f6:Ac (decide ((i:Int)<0)=false):=fo
   have f7:Ac (decide ((n:Int)≤i)=false):=fo
   have hD:=Zr n i (by omega) (by omega)
   have e8:decide ((xp.length:Int)=(BU n i:Int))=decide (xp.length=BU n i):=by rw[decide_eq_decide];omega
   cases hd:decide (xp.length=BU n i) with
   | true=>
    rw[hd]at e8
    have hN1:=hN (by rw[hd];rfl)
    clear hN hF
    generalize BU n i=dd at *
    generalize AL xp=X at *
    refine F1 ?_
    repeat' ((first|exact tt|refine Ab hS ?_|refine Ag hS ?_|refine Ab hD ?_|refine Ag hD ?_|refine na fun b=>?_|refine nb fun b hb=>?_|refine iq ?_|(refine jq ?_ ?_<;>intro h h')|exact wZ|refine Aa ?_ ?_)<;>try refine F1 ?_)
    all_goals exact AC (k+1) ⟨An Mc,⟨by omega,hN1⟩,by omega⟩
   | false=>
    rw[hd]at e8
    have hF:=hF (by rw[hd];rfl)
    rw[hF]
    clear hN hF
    generalize BU n i=dd at *
    generalize AL xp=X at *
    refine F1 ?_
    repeat' ((first|exact tt|refine Ab hS ?_|refine Ag hS ?_|refine Ab hD ?_|refine Ag hD ?_|refine na fun b=>?_|refine nb fun b hb=>?_|refine iq ?_|(refine jq ?_ ?_<;>intro h h')|exact wZ|refine Aa ?_ ?_)<;>try refine F1 ?_)
def Nj(a b:MsgC):Bool:=decide (a.k=b.k)&&(decide (a.h=b.h)&&(decide (a.a=b.a)&&(decide (a.nx=b.nx)&&(decide (a.ht=b.ht)&&(decide (a.p=b.p)&&(decide (a.pr.c=b.pr.c∧a.pr.l=b.pr.l)&&decide (a.cl.c=b.cl.c∧a.cl.l=b.cl.l)))))))
theorem Dm{A B:Prop}(h:B)(e:A=B:=by (simp (disch:=omega) only[*, ↓Ed,Eu, ↓reduceIte,reduceCtorEq,Nat.reduceAdd,Nat.reduceEqDiff,Nat.reduceLT,Nat.reduceLeDiff,Int.reduceToNat,Int.reduceEq,Int.reduceLT,Int.reduceLE,Ap,Ao,Ax,AH,AN,Ca,HdC.cs,BF,Cw,Co,HS,HU, ↓Ht, ↓H0, ↓Zy, ↓mg2, ↓SK, ↓Gi, ↓Gj, ↓GM, ↓SL, ↓SN, ↓Ff, ↓Gk, ↓Gl, ↓Py, ↓Ez, ↓EL,DZ,C4,PktC.cs,PfC.cs];first|done|rfl)):A:=e▸h
theorem a9O(a b:MsgC)(h1:Bw a.pr)(h2:Bw a.cl)(h3:Bw b.pr)(h4:Bw b.cl):CP Tryz.prog 92 [.agg (AD a),.agg (AD b)] (.bool (Nj a b)):=by
 have hP:=a9a a.p b.p
 have hF:=Zq none none a.pr b.pr h1 h3
 have hG:=Zq none none a.cl b.cl h2 h4
 simp only[← Nu]at hF hG
 unfold Nj
 refine YM _ _ (by simp) ?_
 clear h1 h2 h3 h4
 generalize decide (a.p=b.p)=P at *
 generalize decide (a.pr.c=b.pr.c∧a.pr.l=b.pr.l)=F at *
 generalize decide (a.cl.c=b.cl.c∧a.cl.l=b.cl.l)=G at *
 cases g1:decide (a.k=b.k)
 ·simp only[Jm];refine Dm ?_
  repeat' ((first|exact tt|refine na fun b=>?_|refine nb fun b hb=>?_|refine iq ?_|(refine jq ?_ ?_<;>intro h h')|exact wZ|refine Aa ?_ ?_)<;>try refine Dm ?_)
  all_goals rfl
 cases g2:decide (a.h=b.h)
 ·simp only[Jm];refine Dm ?_
  repeat' ((first|exact tt|refine na fun b=>?_|refine nb fun b hb=>?_|refine iq ?_|(refine jq ?_ ?_<;>intro h h')|exact wZ|refine Aa ?_ ?_)<;>try refine Dm ?_)
  all_goals rfl
 cases g3:decide (a.a=b.a)
 ·simp only[Jm];refine Dm ?_
  repeat' ((first|exact tt|refine na fun b=>?_|refine nb fun b hb=>?_|refine iq ?_|(refine jq ?_ ?_<;>intro h h')|exact wZ|refine Aa ?_ ?_)<;>try refine Dm ?_)
  all_goals rfl
 cases g4:decide (a.nx=b.nx)
 ·simp only[Jm];refine Dm ?_
  repeat' ((first|exact tt|refine na fun b=>?_|refine nb fun b hb=>?_|refine iq ?_|(refine jq ?_ ?_<;>intro h h')|exact wZ|refine Aa ?_ ?_)<;>try refine Dm ?_)
  all_goals rfl
 cases g5:decide (a.ht=b.ht)
 ·simp only[Jm];refine Dm ?_
  repeat' ((first|exact tt|refine na fun b=>?_|refine nb fun b hb=>?_|refine iq ?_|(refine jq ?_ ?_<;>intro h h')|exact wZ|refine Aa ?_ ?_)<;>try refine Dm ?_)
  all_goals rfl
 simp only[Jm];refine Dm ?_;try exact tt
 cases P
 ·repeat' ((first|exact tt|refine Ab hP ?_|refine Ag hP ?_|refine na fun b=>?_|refine nb fun b hb=>?_|refine iq ?_|(refine jq ?_ ?_<;>intro h h')|exact wZ|refine Aa ?_ ?_)<;>try refine Dm ?_)
  all_goals rfl
 cases F
 ·repeat' ((first|exact tt|refine Ab hP ?_|refine Ag hP ?_|refine Ab hF ?_|refine Ag hF ?_|refine na fun b=>?_|refine nb fun b hb=>?_|refine iq ?_|(refine jq ?_ ?_<;>intro h h')|exact wZ|refine Aa ?_ ?_)<;>try refine Dm ?_)
  all_goals rfl
 repeat' ((first|exact tt|refine Ab hP ?_|refine Ag hP ?_|refine Ab hF ?_|refine Ag hF ?_|refine Ab hG ?_|refine Ag hG ?_|refine na fun b=>?_|refine nb fun b hb=>?_|refine iq ?_|(refine jq ?_ ?_<;>intro h h')|exact wZ|refine Aa ?_ ?_)<;>try refine Dm ?_)
 all_goals rfl
theorem b0l(q:PfC):q=zeroF↔(q.c=0∧q.l=[]):=by
 obtain ⟨c,l⟩:=q
 simp[zeroF]
theorem a3v(m:MsgC)(hk:1≤m.k∧m.k≤5):Nj m (FW m)=true↔KE m:=by
 obtain ⟨k,h,p,a,nx,ht,pr,cl⟩:=m
 simp only at hk
 have h5:k=1∨k=2∨k=3∨k=4∨k=5:=by omega
 have hz:zeroF.c=0∧zeroF.l=[]:=⟨rfl,rfl⟩
 rcases h5 with rfl|rfl|rfl|rfl|rfl
 all_goals simp[Nj,FW,KE,b0l,hz]
 ·constructor
  ·rintro ⟨a1,a2,a3,a4,⟨a5,a6⟩,a7,a8⟩;exact ⟨⟨a4,a3,a5,a6⟩,a1,a2,a7,a8⟩
  ·rintro ⟨⟨a4,a3,a5,a6⟩,a1,a2,a7,a8⟩;exact ⟨a1,a2,a3,a4,⟨a5,a6⟩,a7,a8⟩
theorem Nv:Bw zeroF:=⟨by simp[zeroF],fun i hi=>by simp[zeroF]at hi⟩
theorem Ya{m:MsgC}(hp:Bw m.pr)(hc:Bw m.cl):Bw (FW m).pr∧Bw (FW m).cl:=by
 unfold FW
 split
 ·split
  ·exact ⟨Nv,Nv⟩
  ·refine ⟨hp, ?_⟩
   simp only
   split
   ·exact hc
   ·exact Nv
 ·exact ⟨Nv,Nv⟩
open Classical in
theorem a5m{m:MsgC}(h:¬ (1≤m.k∧m.k≤5)):decide (Eq m)=false:=A0 fun e=>h e.1
open Classical in
theorem a5n{m:MsgC}(h:¬ KE m):decide (Eq m)=false:=A0 fun e=>h e.2.1
open Classical in
theorem a5j{m:MsgC}(hk:m.k=1)(h:KE m):decide (Eq m)=(decide (1≤m.h.h∧m.h.h≤1099511627776)&&decide (0≤m.h.t∧m.h.t≤1099511627776)):=by
 rw[FE]
 simp only[Bs,AP]
 constructor
 ·rintro ⟨_,_,a,_⟩
  obtain ⟨a1,a2,a3,a4⟩:=a hk
  exact ⟨⟨a1,a2⟩,a3,a4⟩
 ·rintro ⟨⟨a1,a2⟩,a3,a4⟩
  exact ⟨by omega,h,fun _=>⟨a1,a2,a3,a4⟩,fun e=>by omega,fun e=>absurd hk e⟩
noncomputable def Mf (m:MsgC):Bool:=decide (0≤m.nx∧m.nx≤1099511627777)&&(decide (1≤m.ht∧m.ht≤1099511627776)&&(BO m.p&&(D7 m.pr&&D7 m.cl)))
theorem ZZ(m:MsgC):Mf m=true↔(BO m.p=true∧(0≤m.nx∧m.nx≤1099511627777)∧(1≤m.ht∧m.ht≤1099511627776)∧D7 m.pr=true∧D7 m.cl=true):=by
 simp only[Mf,AP,Bs]
 constructor
 ·rintro ⟨a1,a2,a3,a4,a5⟩;exact ⟨a3,a1,a2,a4,a5⟩
 ·rintro ⟨a3,a1,a2,a4,a5⟩;exact ⟨a1,a2,a3,a4,a5⟩
open Classical in
theorem a5k{m:MsgC}(hk:m.k=3)(h:KE m):decide (Eq m)=(decide (1≤(m.a.length:Int)∧(m.a.length:Int)≤32)&&Mf m):=by
 rw[FE]
 simp only[Bs,AP,ZZ]
 constructor
 ·rintro ⟨_,_,_,a,b⟩
  have:=a hk
  exact ⟨by omega,b (by omega)⟩
 ·rintro ⟨a,b⟩
  exact ⟨by omega,h,fun e=>by omega,fun _=>by omega,fun _=>b⟩
open Classical in
theorem a5l{m:MsgC}(hk:1≤m.k∧m.k≤5)(h1:¬ m.k=1)(h3:¬ m.k=3)(h:KE m):decide (Eq m)=Mf m:=by
 rw[FE]
 simp only[Bs,ZZ]
 constructor
 ·rintro ⟨_,_,_,_,b⟩
  exact b h1
 ·intro b
  exact ⟨hk,h,fun e=>absurd e h1,fun e=>absurd e h3,fun _=>b⟩
open Classical in
theorem Tq(m:MsgC)(hp:Bw m.pr)(hc:Bw m.cl)(hs:m.p.s.length≤1000000)(hd:m.p.d.length≤1000000)(hx:m.p.x.length≤1000000):CP Tryz.prog 42 [.agg (AD m)] (.bool (decide (Eq m))):=by
 have hK:=IU m.k
 by_cases hk:1≤m.k∧m.k≤5
 rotate_left
 ·rw[a5m hk]
  rw[A0 hk]at hK
  clear hp hc hs hd hx
  refine LY _ _ (by simp) ?_
  simp only[Kg];refine Dm ?_
  repeat' ((first|exact tt|refine Ab hK ?_|refine Ag hK ?_|refine na fun b=>?_|refine nb fun b hb=>?_|refine iq ?_|(refine jq ?_ ?_<;>intro h h')|exact wZ|refine Aa ?_ ?_)<;>try refine Dm ?_)
 rw[AO hk]at hK
 have hP:=a9H m hp hc
 have hS:=a9O m (FW m) hp hc (Ya hp hc).1 (Ya hp hc).2
 have hpl:=a3v m hk
 cases hE:Nj m (FW m)
 ·rw[a5n (fun h=>by rw[hpl.2 h]at hE;cases hE)]
  rw[hE]at hS
  clear hp hc hs hd hx hE hpl
  refine LY _ _ (by simp) ?_
  simp only[Kg];refine Dm ?_
  repeat' ((first|exact tt|refine Ab hK ?_|refine Ag hK ?_|refine Ab hP ?_|refine Ag hP ?_|refine Ab hS ?_|refine Ag hS ?_|refine na fun b=>?_|refine nb fun b hb=>?_|refine iq ?_|(refine jq ?_ ?_<;>intro h h')|exact wZ|refine Aa ?_ ?_)<;>try refine Dm ?_)
 have hpm:=hpl.1 hE
 rw[hE]at hS
 clear hpl hE
 by_cases k1:m.k=1
 ·rw[a5j k1 hpm]
  have b1:=JC m.h.h 1 1099511627776
  have b2:=JC m.h.t 0 1099511627776
  have f1:Ac (decide (m.k=1)=true):=AO k1
  clear hp hc hs hd hx hpm k1 hk
  generalize decide (1≤m.h.h∧m.h.h≤1099511627776)=A at *
  generalize decide (0≤m.h.t∧m.h.t≤1099511627776)=B at *
  refine LY _ _ (by simp) ?_
  simp only[Kg];refine Dm ?_;try exact tt
  cases A
  all_goals repeat' ((first|exact tt|refine Ab hK ?_|refine Ag hK ?_|refine Ab hP ?_|refine Ag hP ?_|refine Ab hS ?_|refine Ag hS ?_|refine Ab b1 ?_|refine Ab b2 ?_|refine na fun b=>?_|refine nb fun b hb=>?_|refine iq ?_|(refine jq ?_ ?_<;>intro h h')|exact wZ|refine Aa ?_ ?_)<;>try refine Dm ?_)
  all_goals rfl
 have b1:=JC m.nx 0 1099511627777
 have b2:=JC m.ht 1 1099511627776
 have b3:=PR m.p hs hd hx
 have b4:=PS m.pr hp
 have b5:=PS m.cl hc
 have b6:=JC (m.a.length:Int) 1 32
 have f1:Ac (decide (m.k=1)=false):=A0 k1
 by_cases k3:m.k=3
 ·rw[a5k k3 hpm]
  have f3:Ac (decide (m.k=3)=true):=AO k3
  unfold Mf
  clear hp hc hs hd hx hpm k1 hk k3
  generalize decide (1≤(m.a.length:Int)∧(m.a.length:Int)≤32)=Z at *
  generalize decide (0≤m.nx∧m.nx≤1099511627777)=A at *
  generalize decide (1≤m.ht∧m.ht≤1099511627776)=B at *
  generalize BO m.p=C at *
  generalize D7 m.pr=D at *
  generalize D7 m.cl=E at *
  refine LY _ _ (by simp) ?_
  simp only[Kg];refine Dm ?_;try exact tt
  cases Z<;>cases A<;>cases B<;>cases C<;>cases D
  all_goals repeat' ((first|exact tt|refine Ab hK ?_|refine Ag hK ?_|refine Ab hP ?_|refine Ag hP ?_|refine Ab hS ?_|refine Ag hS ?_|refine Ab b1 ?_|refine Ab b2 ?_|refine Ab b3 ?_|refine Ab b4 ?_|refine Ab b5 ?_|refine Ab b6 ?_|refine na fun b=>?_|refine nb fun b hb=>?_|refine iq ?_|(refine jq ?_ ?_<;>intro h h')|exact wZ|refine Aa ?_ ?_)<;>try refine Dm ?_)
  all_goals rfl
 ·rw[a5l hk k1 k3 hpm]
  have f3:Ac (decide (m.k=3)=false):=A0 k3
  unfold Mf
  clear hp hc hs hd hx hpm k1 hk k3 b6
  generalize decide (0≤m.nx∧m.nx≤1099511627777)=A at *
  generalize decide (1≤m.ht∧m.ht≤1099511627776)=B at *
  generalize BO m.p=C at *
  generalize D7 m.pr=D at *
  generalize D7 m.cl=E at *
  refine LY _ _ (by simp) ?_
  simp only[Kg];refine Dm ?_;try exact tt
  cases A<;>cases B<;>cases C<;>cases D
  all_goals repeat' ((first|exact tt|refine Ab hK ?_|refine Ag hK ?_|refine Ab hP ?_|refine Ag hP ?_|refine Ab hS ?_|refine Ag hS ?_|refine Ab b1 ?_|refine Ab b2 ?_|refine Ab b3 ?_|refine Ab b4 ?_|refine Ab b5 ?_|refine na fun b=>?_|refine nb fun b hb=>?_|refine iq ?_|(refine jq ?_ ?_<;>intro h h')|exact wZ|refine Aa ?_ ?_)<;>try refine Dm ?_)
  all_goals rfl
def Sz(l:List PrP):Prop:=∀ i,i<l.length→(l.getD i default).1.length≤400∧(l.getD i default).2.length≤400
theorem SQ(L l:List PrP):∀ i,(Cn L l i).length≤L.length+i
 | 0=>A8 _
 | i+1=>by
  have h1:=SQ L l i
  have h2:=Tz (Cn L l i) (l.getD i default).1 (l.getD i default).2
  simp only[Cn];omega
theorem JX{A B:Prop}(h:B)(e:A=B:=by (simp (disch:=omega) only[*, ↓Ed,Eu, ↓reduceIte,reduceCtorEq,Nat.reduceAdd,Nat.reduceEqDiff,Nat.reduceLT,Nat.reduceLeDiff,Int.reduceToNat,Int.reduceEq,Int.reduceLT,Int.reduceLE,Ap,Ao,Ax,AJ,AY,Int.reduceAdd,AH,AN,Df,Dw];first|done|rfl)):A:=e▸h
theorem Zm(l:List PrP)(hl:Sz l)(hb:l.length≤100):CP Tryz.prog 31 [.sl none 2 (AX l)] (.sl (some 102) 2 (AX (Cn [] l l.length))):=by
 refine a6g _ _ (by simp) ?_
 simp only[Vi];refine JX ?_
 repeat' ((first|exact tt|refine na fun b=>?_|refine nb fun b hb=>?_|refine iq ?_|(refine jq ?_ ?_<;>intro h h')|exact wZ|refine Aa ?_ ?_)<;>try refine JX ?_)
 refine A2 (fun q:Nat=>⟨lk [(0,.sl none 2 (AX l)),(3,.sl (some 102) 2 (AX (Cn [] l q))),(4,.int .i64 (q:Int))],lk []⟩) (fun q=>q≤l.length) (fun q=>l.length - q) 0 (by omega) (An (by simp[Am,lk,Cn,AX])) ?_
 intro i hi
 have hml:=SQ [] l i
 by_cases hlt:i<l.length
 ·have f1:Ac (decide ((i:Int)<l.length)=true):=fo
  obtain ⟨s1,s2⟩:=hl i hlt
  have hM:=Zk (l.getD i default).1 (l.getD i default).2 (by omega) (by omega)
  have hS:=NI (Cn [] l i) (by simp only[AY]at hml;omega) (l.getD i default).1 (l.getD i default).2
  have hn:Cn [] l (i+1)=CQ (Cn [] l i) (l.getD i default).1 (l.getD i default).2:=rfl
  unfold CQ at hn
  clear hl
  obtain ⟨⟨k,v⟩,hgd⟩:∃ a,l.getD i default=a:=⟨_,rfl⟩
  rw[hgd]at hM hS hn s1 s2
  generalize hX':Cn [] l (i+1)=X' at *
  generalize Cn [] l i=X at *
  cases hm:B3 k v with
  | true=>
   rw[show B3 (k,v).1 (k,v).2=true from hm]at hM hn
   rw[Af rfl]at hn
   rw[← hn]at hS
   clear hm hn hml
   refine JX ?_
   repeat' ((first|exact tt|refine Ag hM ?_|refine Ag hS ?_|refine na fun b=>?_|refine nb fun b hb=>?_|refine iq ?_|(refine jq ?_ ?_<;>intro h h')|exact wZ|refine Aa ?_ ?_)<;>try refine JX ?_)
   all_goals exact AC (i+1) ⟨An (by simp[Am,lk,hX']),hlt,by omega⟩
  | false=>
   rw[show B3 (k,v).1 (k,v).2=false from hm]at hM hn
   rw[Ad (by simp)]at hn
   clear hm hS hml
   refine JX ?_
   repeat' ((first|exact tt|refine Ag hM ?_|refine na fun b=>?_|refine nb fun b hb=>?_|refine iq ?_|(refine jq ?_ ?_<;>intro h h')|exact wZ|refine Aa ?_ ?_)<;>try refine JX ?_)
   all_goals exact AC (i+1) ⟨An (by simp[Am,lk,hX',hn]),hlt,by omega⟩
 ·obtain rfl:i=l.length:=by omega
  have f1:Ac (decide ((l.length:Int)<l.length)=false):=fo
  clear hml
  generalize Cn [] l l.length=X at *
  refine JX ?_
  repeat' ((first|exact tt|refine na fun b=>?_|refine nb fun b hb=>?_|refine iq ?_|(refine jq ?_ ?_<;>intro h h')|exact wZ|refine Aa ?_ ?_)<;>try refine JX ?_)
section
open Go.RowKit Go.Lib
theorem a3r(l:List FF):(W8 l).length=l.length:=by simp
theorem a3q(l:List FF)(i:Nat)(h:i<l.length):(W8 l).getD i []=W7 (l.getD i default):=by simp[h]
theorem MB{A B:Prop}(h:B)(e:A=B:=by (simp (disch:=omega) only[*, ↓Ed,Eu, ↓reduceIte,reduceCtorEq,Nat.reduceAdd,Nat.reduceEqDiff,Nat.reduceLT,Nat.reduceLeDiff,Int.reduceToNat,Int.reduceEq,Int.reduceLT,Int.reduceLE,Ap,Df,Dw,a3r,a3q];first|done|rfl)):A:=e▸h
theorem a9z(L:List PrP)(hb:L.length≤1000)(e:Option Nat):CP Tryz.prog 62 [Hz L,Hz L] (.bool true):=by
 refine a6f _ _ (by simp) ?_
 simp only[Vh];refine MB ?_
 repeat' ((first|exact tt|refine na fun b=>?_|refine nb fun b hb=>?_|refine iq ?_|(refine jq ?_ ?_<;>intro h h')|exact wZ|refine Aa ?_ ?_)<;>try refine MB ?_)
 all_goals first|(exfalso;omega)|skip
 refine A2 (fun i:Nat=>⟨lk [(0,Hz L),(1,Hz L),(5,.int .i64 (i:Int))],lk []⟩) (fun i=>i≤L.length) (fun i=>L.length - i) 0 (by omega) (An Mc) ?_
 intro i hi
 by_cases hlt:i<L.length
 ·have f1:Ac (decide ((i:Int)<L.length)=true):=fo
  refine MB ?_
  repeat' ((first|exact tt|refine na fun b=>?_|refine nb fun b hb=>?_|refine iq ?_|(refine jq ?_ ?_<;>intro h h')|exact wZ|refine Aa ?_ ?_)<;>try refine MB ?_)
  all_goals exact AC (i+1) ⟨An Mc,hlt,by omega⟩
 ·have f1:Ac (decide ((i:Int)<L.length)=false):=fo
  refine MB ?_
  repeat' ((first|exact tt|refine na fun b=>?_|refine nb fun b hb=>?_|refine iq ?_|(refine jq ?_ ?_<;>intro h h')|exact wZ|refine Aa ?_ ?_)<;>try refine MB ?_)
def E7(e x:FF):Bool:=decide (x.1=e.1)&&decide (x.2=e.2)
theorem XM(e x:FF):E7 e x=true↔x=e:=by
 obtain ⟨a,b⟩:=e;obtain ⟨c,d⟩:=x
 simp[E7]
end
section
open Go.RowKit Go.Lib
structure GnC where
 p:List UInt8
 c:Int
 q:List UInt8
 d:Int
 o:Bool
 n:Int
 deriving Inhabited
abbrev GnC.cs(x:GnC):List AV:=[.str x.p,.int .i64 x.c,.str x.q,.int .i64 x.d,.bool x.o,.int .i64 x.n]
def CL(l:List GnC):List (List AV):=l.map GnC.cs
theorem Gd(l:List GnC):(CL l).length=l.length:=by simp[CL]
theorem Gc(l:List GnC)(i:Nat)(h:i<l.length):(CL l).getD i []=(l.getD i default).cs:=by simp[CL,h]
noncomputable def Dv (x:GnC):Bool:=Ba x.p x.c&&Ba x.q x.d&&(decide (1≤x.n)&&decide (x.n≤1099511627777))
def BP(x:GnC):FF:=(x.p,x.c)
noncomputable def Dr:List FF→List GnC→Int
 | _,[]=>0
 | s,x::r=>if Dv x=false then 1 else if s.any (E7 (BP x))=true then 8 else Dr (s++[BP x]) r
noncomputable def E5 (l:List GnC):Int:=if 6<l.length then 22 else Dr [] l
theorem WH{l:List GnC}{i:Nat}(h:i<l.length):Dr ((l.take i).map BP) (l.drop i)=if Dv (l.getD i default)=false then 1 else if ((l.take i).map BP).any (E7 (BP (l.getD i default)))=true then 8 else Dr ((l.take (i+1)).map BP) (l.drop (i+1)):=by
 rw[Jc h,Dr]
 have e:l[i]=l.getD i default:=by simp[List.getD,h]
 rw[e,a1h h,FI];rfl
def Nw(l:List GnC):Prop:=∀ i,i<l.length→(l.getD i default).p.length≤1000∧(l.getD i default).q.length≤1000
theorem a2e{l:List GnC}{i k:Nat}{e:FF}(hk:k<i)(hi:i≤l.length)(h:E7 e (BP (l.getD k default))=true):((l.take i).map BP).any (E7 e)=true:=by
 rw[List.any_eq_true]
 have h1:k<(l.take i).length:=by rw[BL];omega
 refine ⟨BP (l.getD k default),Dp.2 ⟨l.getD k default, ?_,rfl⟩,h⟩
 have e1:l.getD k default=(l.take i)[k]:=by simp[List.getD,show k<l.length by omega]
 rw[e1];exact Di h1
theorem a2d{l:List GnC}{i:Nat}{e:FF}(hi:i≤l.length)(h:∀ j,j<i→E7 e (BP (l.getD j default))=false):((l.take i).map BP).any (E7 e)=false:=by
 rw[List.any_eq_false]
 intro x hx
 obtain ⟨y,hy,rfl⟩:=Dp.1 hx
 obtain ⟨j,hj,rfl⟩:=Do hy
 have hj':j<i∧j<l.length:=by rw[BL]at hj;omega
 have:=h j hj'.1
 simp only[List.getD,Aw hj'.2,Cp]at this
 rw[List.getElem_take,this];simp
theorem Eh{A B:Prop}(h:B)(e:A=B:=by (simp (disch:=omega) only[*, ↓Ed,Eu, ↓reduceIte,reduceCtorEq,Nat.reduceAdd,Nat.reduceEqDiff,Nat.reduceLT,Nat.reduceLeDiff,Int.reduceToNat,Int.reduceEq,Int.reduceLT,Int.reduceLE,Ap,Gd,Gc,GnC.cs];first|done|rfl)):A:=e▸h
theorem a8A(l:List GnC)(hl:Nw l)(hb:l.length≤1000):CP Tryz.prog 35 [.sl none 6 (CL l)] (.int .i64 (E5 l)):=by
 refine a6n _ _ (by simp) ?_
 by_cases h6:6<l.length
 ·have f0:Ac (decide ((6:Int)<l.length)=true):=fo
  unfold E5
  rw[Af h6]
  simp only[Ri];refine Eh ?_
  repeat' ((first|exact tt|refine na fun b=>?_|refine nb fun b hb=>?_|refine iq ?_|(refine jq ?_ ?_<;>intro h h')|exact wZ|refine Aa ?_ ?_)<;>try refine Eh ?_)
 have f0:Ac (decide ((6:Int)<l.length)=false):=fo
 unfold E5
 rw[Ad h6]
 simp only[Ri];refine Eh ?_
 repeat' ((first|exact tt|refine na fun b=>?_|refine nb fun b hb=>?_|refine iq ?_|(refine jq ?_ ?_<;>intro h h')|exact wZ|refine Aa ?_ ?_)<;>try refine Eh ?_)
 refine A2 (fun i:Nat=>⟨lk [(0,.sl none 6 (CL l)),(3,.int .i64 (i:Int))],lk []⟩) (fun i=>i≤l.length∧Ac (Dr [] l=Dr ((l.take i).map BP) (l.drop i))) (fun i=>l.length - i) 0 ⟨by omega,rfl⟩ (An Mc) ?_
 intro i ⟨i1,i2⟩
 have i2:Dr [] l=Dr ((l.take i).map BP) (l.drop i):=i2
 rw[i2]
 by_cases hil:i<l.length
 ·have f1:Ac (decide ((i:Int)<l.length)=true):=fo
  have hst:=WH hil
  have hli:=hl i hil
  obtain ⟨⟨p,c,q,d,o,n⟩,hgd⟩:∃ a,l.getD i default=a:=⟨_,rfl⟩
  rw[hgd]at hst hli
  have hM1:=KC p c (by have:=hli.1;simp only at this;omega)
  have hM2:=KC q d (by have:=hli.2;simp only at this;omega)
  clear hli hl
  by_cases hn:1≤n∧n≤1099511627777
  ·have hok:Dv ⟨p,c,q,d,o,n⟩=(Ba p c&&Ba q d):=by
    unfold Dv
    simp only[AO hn.1,AO hn.2,Bool.and_true]
   rw[hok]at hst
   clear hok
   cases ha:Ba p c with
   | false=>
    rw[ha,Bool.false_and,Af rfl]at hst
    rw[ha]at hM1
    rw[hst]
    clear hst i2
    refine Eh ?_
    repeat' ((first|exact tt|refine Ab hM1 ?_|refine na fun b=>?_|refine nb fun b hb=>?_|refine iq ?_|(refine jq ?_ ?_<;>intro h h')|exact wZ|refine Aa ?_ ?_)<;>try refine Eh ?_)
   | true=>
    rw[ha]at hM1
    cases hb':Ba q d with
    | false=>
     rw[ha,hb',Gt,Af rfl]at hst
     rw[hb']at hM2
     rw[hst]
     clear hst i2
     refine Eh ?_
     repeat' ((first|exact tt|refine Ab hM1 ?_|refine Ab hM2 ?_|refine na fun b=>?_|refine nb fun b hb=>?_|refine iq ?_|(refine jq ?_ ?_<;>intro h h')|exact wZ|refine Aa ?_ ?_)<;>try refine Eh ?_)
    | true=>
     rw[ha,hb',Gt,Ad (by simp)]at hst
     rw[hb']at hM2
     have hi0:=i2
     rw[hst]at i2 ⊢
     clear ha hb'
     have hgo:BP ⟨p,c,q,d,o,n⟩=(p,c):=rfl
     rw[hgo]at hst i2 ⊢
     refine Eh ?_
     repeat' ((first|exact tt|refine Ab hM1 ?_|refine Ab hM2 ?_|refine na fun b=>?_|refine nb fun b hb=>?_|refine iq ?_|(refine jq ?_ ?_<;>intro h h')|exact wZ|refine Aa ?_ ?_)<;>try refine Eh ?_)
     refine A2 (fun k:Nat=>⟨lk [(0,.sl none 6 (CL l)),(3,.int .i64 (i:Int)),(4,.int .i64 (k:Int))],lk []⟩) (fun k=>k≤i∧Ac (∀ j,j<k→E7 (p,c) (BP (l.getD j default))=false)) (fun k=>i - k) 0 ⟨by omega,fun j hj=>by omega⟩ (An Mc) ?_
     intro k ⟨k1,k2⟩
     have k2:∀ j,j<k→E7 (p,c) (BP (l.getD j default))=false:=k2
     by_cases hki:k<i
     ·have f3:Ac (decide ((k:Int)<i)=true):=fo
      obtain ⟨⟨p',c',q',d',o',n'⟩,hgk⟩:∃ a,l.getD k default=a:=⟨_,rfl⟩
      cases hq:E7 (p,c) (p',c') with
      | true=>
       have hA:=a2e (l:=l) (e:=(p,c)) hki (by omega) (by rw[hgk];exact hq)
       rw[Af hA]
       clear hst i2 hi0 hA k2
       unfold E7 at hq
       refine Eh ?_
       repeat' ((first|exact tt|refine na fun b=>?_|refine nb fun b hb=>?_|refine iq ?_|(refine jq ?_ ?_<;>intro h h')|exact wZ|refine Aa ?_ ?_)<;>try refine Eh ?_)
      | false=>
       have hk':∀ j,j<k+1→E7 (p,c) (BP (l.getD j default))=false:=fun j hj=>by
        by_cases e:j<k
        ·exact k2 j e
        ·obtain rfl:j=k:=by omega
         rw[hgk];exact hq
       clear hst i2 hi0 k2
       unfold E7 at hq
       simp only at hq
       generalize (if ((l.take i).map BP).any (E7 (p,c))=true then (8:Int) else Dr ((l.take (i+1)).map BP) (l.drop (i+1)))=res at *
       refine Eh ?_
       repeat' ((first|exact tt|refine na fun b=>?_|refine nb fun b hb=>?_|refine iq ?_|(refine jq ?_ ?_<;>intro h h')|exact wZ|refine Aa ?_ ?_)<;>try refine Eh ?_)
       all_goals exact AC (k+1) ⟨An Mc,⟨hki,hk'⟩,by omega⟩
     ·obtain rfl:k=i:=by omega
      have f3:Ac (decide ((k:Int)<k)=false):=fo
      have hA:=a2d (l:=l) (e:=(p,c)) i1 k2
      rw[Ad (by rw[hA];simp)]at i2 ⊢
      rw[← i2]
      clear hst hi0 k2 hA
      have i3:Ac (Dr [] l=Dr ((l.take (k+1)).map BP) (l.drop (k+1))):=i2
      clear i2
      refine Eh ?_
      repeat' ((first|exact tt|refine na fun b=>?_|refine nb fun b hb=>?_|refine iq ?_|(refine jq ?_ ?_<;>intro h h')|exact wZ|refine Aa ?_ ?_)<;>try refine Eh ?_)
      all_goals exact AC (k+1) ⟨An Mc,⟨hil,i3⟩,by omega⟩
  ·have hok:Dv ⟨p,c,q,d,o,n⟩=false:=by
    unfold Dv
    cases Ba p c<;>cases Ba q d<;>simp<;>omega
   rw[hok,Af rfl]at hst
   rw[hst]
   clear hst hok i2
   generalize Ba p c=a1 at *
   generalize Ba q d=a2 at *
   cases a1<;>cases a2
   all_goals
    refine Eh ?_
    repeat' ((first|exact tt|refine Ab hM1 ?_|refine Ab hM2 ?_|refine na fun b=>?_|refine nb fun b hb=>?_|refine iq ?_|(refine jq ?_ ?_<;>intro h h')|exact wZ|refine Aa ?_ ?_)<;>try refine Eh ?_)
   all_goals first|skip;done|(exfalso;omega)
 ·obtain rfl:i=l.length:=by omega
  have f1:Ac (decide ((l.length:Int)<l.length)=false):=fo
  rw[List.drop_length,Dr]
  clear i2
  refine Eh ?_
  repeat' ((first|exact tt|refine na fun b=>?_|refine nb fun b hb=>?_|refine iq ?_|(refine jq ?_ ?_<;>intro h h')|exact wZ|refine Aa ?_ ?_)<;>try refine Eh ?_)
end
section
open Go.RowKit Go.Lib
theorem YZ(k:Nat):(List.replicate k (AV.int .i64 1)++[AV.int .i64 0]).set k (.int .i64 1)=List.replicate (k+1) (.int .i64 1):=by
 rw[a0u _ _ _ _ (by simp),List.replicate_succ']
theorem YY(k:Nat):(List.replicate k (AV.int .i64 1)++[AV.int .i64 0]).getD k .undef=AV.int .i64 0:=a0t _ _ _ _ (by simp)
theorem UB(e:FF)(l:List FF):l.any (E7 e)=decide (e∈l):=by
 rw[FE,List.any_eq_true,Bs]
 constructor
 ·rintro ⟨x,hx,h⟩
  rw[XM]at h
  rw[← h];exact hx
 ·intro h
  exact ⟨e,h,(XM e e).2 rfl⟩
theorem a4y{α:Type}[DecidableEq α]{a:α}{l:List α}(h:a∈l):∃ j,l.idxOf? a=some j∧j<l.length:=by
 cases hj:l.idxOf? a with
 | none=>rw[List.idxOf?_eq_none_iff]at hj;exact absurd h hj
 | some j=>
  obtain ⟨h1,_⟩:=List.idxOf?_eq_some_iff.1 hj
  exact ⟨j,rfl,h1⟩
theorem b3p{l:List GnC}{k:Nat}(hk:k<l.length):((l.take (k+1)).map BP).map FN=((l.take k).map BP).map FN++[FN (BP (l.getD k default))]:=by
 rw[a1h hk];simp
theorem FC{A B:Prop}(h:B)(e:A=B:=by (simp (disch:=omega) only[*, ↓Ed,Eu, ↓reduceIte,reduceCtorEq,Nat.reduceAdd,Nat.reduceEqDiff,Nat.reduceLT,Nat.reduceLeDiff,Int.reduceToNat,Int.reduceEq,Int.reduceLT,Int.reduceLE,Ap,Gd,Gc,GnC.cs,Ao,Ax,AN,beq_self_eq_true,R7,YZ,YY,Int.reduceAdd];first|done|rfl)):A:=e▸h
theorem a9n(l:List GnC)(hl:Nw l)(hb:l.length≤1000):CP Tryz.prog 72 [.sl none 6 (CL l)] (.int .i64 (E5 l)):=by
 refine a5K _ _ (by simp) ?_
 by_cases h6:6<l.length
 ·have f0:Ac (decide ((6:Int)<l.length)=true):=fo
  unfold E5
  rw[Af h6]
  simp only[Q5];refine FC ?_
  repeat' ((first|exact tt|refine na fun b=>?_|refine nb fun b hb=>?_|refine iq ?_|(refine jq ?_ ?_<;>intro h h')|exact wZ|refine Aa ?_ ?_)<;>try refine FC ?_)
 have f0:Ac (decide ((6:Int)<l.length)=false):=fo
 unfold E5
 rw[Ad h6]
 simp only[Q5];refine FC ?_
 repeat' ((first|exact tt|refine na fun b=>?_|refine nb fun b hb=>?_|refine iq ?_|(refine jq ?_ ?_<;>intro h h')|exact wZ|refine Aa ?_ ?_)<;>try refine FC ?_)
 refine A2 (fun k:Nat=>⟨lk [(3,.mapv b),(10,.sl none 6 (CL l)),(11,.int .i64 l.length),(12,.int .i64 (k:Int))],lk [(b,[.mp (((l.take k).map BP).map FN) (List.replicate k (.int .i64 1)) (List.range k) k])]⟩) (fun k=>k≤l.length∧Ac (Dr [] l=Dr ((l.take k).map BP) (l.drop k))) (fun k=>l.length - k) 0 ⟨by omega,rfl⟩ (An Mc) ?_
 intro k ⟨i1,i2⟩
 have i2:Dr [] l=Dr ((l.take k).map BP) (l.drop k):=i2
 rw[i2]
 by_cases hk:k<l.length
 ·have f5:Ac (decide ((k:Int)<l.length)=true):=fo
  have hst:=WH hk
  have hli:=hl k hk
  have htk:=b3p hk
  have hlk:((l.take k).map BP).length=k:=by simp;omega
  obtain ⟨⟨p,c,q,d,o,n⟩,hgd⟩:∃ a,l.getD k default=a:=⟨_,rfl⟩
  rw[hgd]at hst hli htk
  have hA:=KD p c (by have:=hli.1;simp only at this;omega)
  have hB:=KD q d (by have:=hli.2;simp only at this;omega)
  have hC:=Tj n
  rw[UB]at hst
  clear hli hl
  have hok:Dv ⟨p,c,q,d,o,n⟩=(Ba p c&&Ba q d&&(decide (1≤n)&&decide (n≤1099511627777))):=rfl
  rw[hok]at hst
  clear hok
  generalize Ba p c=a1 at *
  generalize Ba q d=a2 at *
  generalize (decide (1≤n)&&decide (n≤1099511627777))=a3 at *
  have hgo:BP ⟨p,c,q,d,o,n⟩=(p,c):=rfl
  rw[hgo]at hst htk
  cases a1 with
  | false=>
   rw[Bool.false_and,Bool.false_and,Af rfl]at hst
   rw[hst]
   clear hst i2 htk
   refine FC ?_
   repeat' ((first|exact tt|refine Ab hA ?_|refine Ab hB ?_|refine Ab hC ?_|refine na fun b=>?_|refine nb fun b hb=>?_|refine iq ?_|(refine jq ?_ ?_<;>intro h h')|exact wZ|refine Aa ?_ ?_)<;>try refine FC ?_)
  | true=>
   cases a2 with
   | false=>
    rw[Gt,Bool.false_and,Af rfl]at hst
    rw[hst]
    clear hst i2 htk
    refine FC ?_
    repeat' ((first|exact tt|refine Ab hA ?_|refine Ab hB ?_|refine Ab hC ?_|refine na fun b=>?_|refine nb fun b hb=>?_|refine iq ?_|(refine jq ?_ ?_<;>intro h h')|exact wZ|refine Aa ?_ ?_)<;>try refine FC ?_)
   | true=>
    cases a3 with
    | false=>
     rw[Bool.and_false,Af rfl]at hst
     rw[hst]
     clear hst i2 htk
     refine FC ?_
     repeat' ((first|exact tt|refine Ab hA ?_|refine Ab hB ?_|refine Ab hC ?_|refine na fun b=>?_|refine nb fun b hb=>?_|refine iq ?_|(refine jq ?_ ?_<;>intro h h')|exact wZ|refine Aa ?_ ?_)<;>try refine FC ?_)
    | true=>
     rw[Bool.and_self,Bool.and_self,Ad (by simp)]at hst
     by_cases hm:(p,c)∈(l.take k).map BP
     ·rw[Af (AO hm)]at hst
      rw[hst]
      have hf:=Jt [.s,.i] true FN R2 (p,c) ((l.take k).map BP)
      obtain ⟨j,hj,hjl⟩:=a4y hm
      rw[hj]at hf
      have hjk:j<k:=by rw[hlk]at hjl;exact hjl
      have hv:(List.replicate k (AV.int .i64 1)).getD j .undef=.int .i64 1:=by simp[List.getD,hjk]
      have hf':B2 [.s,.i] true (.agg [.str p,.int .i64 c]) (((l.take k).map BP).map FN)=some (some j):=hf
      clear hst i2 htk hf hj hjl hlk
      simp (disch:=omega) only[hgd,hf',hv, ↓Ed,Eu, ↓reduceIte,reduceCtorEq,Nat.reduceAdd,Nat.reduceEqDiff,Nat.reduceLT,Nat.reduceLeDiff,Int.reduceToNat,Int.reduceEq,Int.reduceLT,Int.reduceLE,Ap,Gd,Gc,GnC.cs,Ao,Ax,AN,beq_self_eq_true,R7,YZ,YY,Int.reduceAdd]
      repeat' ((first|exact tt|refine Ab hA ?_|refine Ab hB ?_|refine Ab hC ?_|refine na fun b=>?_|refine nb fun b hb=>?_|refine iq ?_|(refine jq ?_ ?_<;>intro h h')|exact wZ|refine Aa ?_ ?_)<;>try refine FC ?_)
     ·rw[Ad (by rw[A0 hm];simp)]at hst
      rw[hst]at i2 ⊢
      rw[← i2]
      have i3:Ac (Dr [] l=Dr ((l.take (k+1)).map BP) (l.drop (k+1))):=i2
      have hf:B2 [.s,.i] true (.agg [.str p,.int .i64 c]) (((l.take k).map BP).map FN)=some none:=O3 _ _ FN R2 _ _ hm
      have hf2:B2 [.s,.i] true (.agg [.str p,.int .i64 c]) (((l.take k).map BP).map FN++[.agg [.str p,.int .i64 c]])=some (some k):=by
       have:=Xl [.s,.i] true FN R2 _ _ hm
       rwa [hlk]at this
      clear hst i2 hlk
      refine FC ?_
      repeat' ((first|exact tt|refine Ab hA ?_|refine Ab hB ?_|refine Ab hC ?_|refine na fun b=>?_|refine nb fun b hb=>?_|refine iq ?_|(refine jq ?_ ?_<;>intro h h')|exact wZ|refine Aa ?_ ?_)<;>try refine FC ?_)
      all_goals exact AC (k+1) ⟨An (by simp[-List.map_take, -List.map_map,Am,lk,htk,FN,List.range_succ]),⟨hk,i3⟩,by omega⟩
 ·obtain rfl:k=l.length:=by omega
  have f5:Ac (decide ((l.length:Int)<l.length)=false):=fo
  rw[List.drop_length,Dr]
  clear i2
  refine FC ?_
  repeat' ((first|exact tt|refine na fun b=>?_|refine nb fun b hb=>?_|refine iq ?_|(refine jq ?_ ?_<;>intro h h')|exact wZ|refine Aa ?_ ?_)<;>try refine FC ?_)
end
section
open Go.RowKit Go.Lib
def Ku(l:List GnC):Prop:=l.length≤10∧∀ i,i<l.length→(l.getD i default).p.length≤60∧(l.getD i default).q.length≤60
theorem Ih{A B:Prop}(h:B)(e:A=B:=by (simp (disch:=omega) only[*, ↓Ed,Eu, ↓reduceIte,reduceCtorEq,Nat.reduceAdd,Nat.reduceEqDiff,Nat.reduceLT,Nat.reduceLeDiff,Int.reduceToNat,Int.reduceEq,Int.reduceLT,Int.reduceLE,Ap,Gd,Gc,GnC.cs];first|done|rfl)):A:=e▸h
open Classical in
theorem a8N(l:List GnC):CP Tryz.prog 27 [.agg [.str [],.int .i64 0,.int .i64 0,.int .i64 0,.sl none 6 (CL l)]] (.bool (decide (Ku l))):=by
 refine a6e _ _ (by simp) ?_
 by_cases h10:l.length≤10
 ·simp only[Re];refine Ih ?_
  repeat' ((first|exact tt|refine na fun b=>?_|refine nb fun b hb=>?_|refine iq ?_|(refine jq ?_ ?_<;>intro h h')|exact wZ|refine Aa ?_ ?_)<;>try refine Ih ?_)
  refine A2 (fun i:Nat=>⟨lk [(1,.ptr b 0),(3,.int .i64 (i:Int))],lk [(b,[.str [],.int .i64 0,.int .i64 0,.int .i64 0,.sl none 6 (CL l)])]⟩) (fun i=>i≤l.length∧Ac (∀ j,j<i→(l.getD j default).p.length≤60∧(l.getD j default).q.length≤60)) (fun i=>l.length - i) 0 ⟨by omega,fun j hj=>by omega⟩ (An Mc) ?_
  intro i ⟨i1,i2⟩
  by_cases hil:i<l.length
  ·have f1:Ac (decide ((i:Int)<l.length)=true):=fo
   by_cases hq:(l.getD i default).p.length≤60∧(l.getD i default).q.length≤60
   ·have i3:Ac (∀ j,j<i+1→(l.getD j default).p.length≤60∧(l.getD j default).q.length≤60):=fun j hj=>by
     by_cases e:j<i
     ·exact i2 j e
     ·obtain rfl:j=i:=by omega
      exact hq
    obtain ⟨⟨p,c,q,d,o,n⟩,hgd⟩:∃ a,l.getD i default=a:=⟨_,rfl⟩
    rw[hgd]at hq
    obtain ⟨q1,q2⟩:=hq
    simp only at q1 q2
    clear i2
    generalize decide (Ku l)=res at *
    refine Ih ?_
    repeat' ((first|exact tt|refine na fun b=>?_|refine nb fun b hb=>?_|refine iq ?_|(refine jq ?_ ?_<;>intro h h')|exact wZ|refine Aa ?_ ?_)<;>try refine Ih ?_)
    all_goals exact AC (i+1) ⟨An Mc,⟨hil,i3⟩,by omega⟩
   ·rw[A0 (fun h=>hq (h.2 i hil))]
    obtain ⟨⟨p,c,q,d,o,n⟩,hgd⟩:∃ a,l.getD i default=a:=⟨_,rfl⟩
    rw[hgd]at hq
    simp only at hq
    clear i2
    refine Ih ?_
    repeat' ((first|exact tt|refine na fun b=>?_|refine nb fun b hb=>?_|refine iq ?_|(refine jq ?_ ?_<;>intro h h')|exact wZ|refine Aa ?_ ?_)<;>try refine Ih ?_)
  ·obtain rfl:i=l.length:=by omega
   have f1:Ac (decide ((l.length:Int)<l.length)=false):=fo
   have hls:Ku l:=⟨h10,i2⟩
   rw[AO hls]
   clear hls
   clear i2
   refine Ih ?_
   repeat' ((first|exact tt|refine na fun b=>?_|refine nb fun b hb=>?_|refine iq ?_|(refine jq ?_ ?_<;>intro h h')|exact wZ|refine Aa ?_ ?_)<;>try refine Ih ?_)
 ·rw[A0 (fun h=>h10 h.1)]
  simp only[Re];refine Ih ?_
  repeat' ((first|exact tt|refine na fun b=>?_|refine nb fun b hb=>?_|refine iq ?_|(refine jq ?_ ?_<;>intro h h')|exact wZ|refine Aa ?_ ?_)<;>try refine Ih ?_)
end
end Go.Proofs.YtfgihnhoocnmdaaGreatDoor
