import Derived.Test.YtgdhinnepnlihaaGreatDoorK16
import Derived.Test.YtgdhinnepnlihaaGreatDoorK19
import Derived.Test.YtgdhinnepnlihaaGreatDoorK17
import Derived.Test.YtgdhinnepnlihaaGreatDoorK11
import Derived.Shelf.SlGeneric
import Derived.Shelf.SlSortCmp.NoneTotal
import Derived.Ground.SlsfProg
import Derived.Test.YtgdhinnepnlihaaGreatDoorProg
import Derived.Test.YtgdhinnepnlihaaGreatDoorK12
import Derived.Test.YtgdhinnepnlihaaGreatDoorK13
namespace Go.Proofs.YtgdhinnepnlihaaGreatDoor
set_option linter.all false
set_option maxHeartbeats 9000000
section
open Go.RowKit
theorem a8Z:∀ (f n:Nat) (r:List UInt8) (b:Bool),n<128 ^ (f+1)→(b=true∨n≠0)→a2C (f+1) (a9D n++r) b=((n:Int),(a9D n).length,0)
 | f,n,r,b,h,hb=>by
  by_cases hn:n<128
  ·rw[put7_lo hn,List.singleton_append,a2C]
   have e:(UInt8.ofNat n).toNat=n:=by simp;omega
   rw[e,if_pos hn,if_neg (fun h1=>hb.elim (fun hb=>by rw[hb]at h1;cases h1.2) (fun hb=>hb h1.1))]
   rfl
  ·cases f with
   | zero=>simp at h;omega
   | succ f=>
    rw[put7_hi (by omega),List.cons_append,a2C]
    have e:(UInt8.ofNat (n % 128+128)).toNat=n % 128+128:=by simp;omega
    rw[e,if_neg (by omega),a8Z f (n / 128) r false (by rw[Nat.pow_succ]at h;omega) (.inr (by omega))]
    simp only[if_true,List.length_cons,Prod.mk.injEq,and_true]
    omega
def Dr(s:List UInt8)(n:Int)(r:List UInt8):Prop:=∃ k:Nat,n=k∧k≤s.length∧s.drop k=r
theorem Dr.init(s:List UInt8):Dr s 0 s:=⟨0,rfl,by simp,by simp⟩
theorem Dr.step{s:List UInt8}{n:Int}{a r:List UInt8}(h:Dr s n (a++r)):Dr s (n+a.length) r:=by
 obtain ⟨k,rfl,hk,hd⟩:=h
 have hl:(s.drop k).length=(a++r).length:=by rw[hd]
 simp at hl
 refine ⟨k+a.length,by omega,by omega, ?_⟩
 rw[← List.drop_drop,hd];simp
theorem nx_pn{s:List UInt8}{n v:Int}{r:List UInt8}(h:Dr s n (pn v++r))(h0:0≤v)(h1:v≤72057594037927935):nx s n=(v,n+(pn v).length,0):=by
 obtain ⟨k,rfl,hk,hd⟩:=h
 rw[nx_in hk,hd]
 have e:pn v=a9D v.toNat:=by rw[pn,if_pos ⟨h0,h1⟩]
 rw[e,a8Z 7 v.toNat r true (by simp;omega) (.inl rfl)]
 simp only[b6b,if_true,Prod.mk.injEq,and_true]
 omega
theorem rnum_pn{s:List UInt8}{n v l m:Int}{r:List UInt8}(h:Dr s n (pn v++r))(hl:l≤v)(hm:v≤m)(h0:0≤v)(h1:v≤72057594037927935):a1Q s l m (n,0)=(v,n+(pn v).length,0):=by
 have e:=nx_pn h h0 h1
 unfold a1Q
 simp only[e]
 rw[if_neg (by simp),if_neg (by simp),if_neg (by omega)]
theorem rcount_pn{s:List UInt8}{n v m:Int}{r:List UInt8}(h:Dr s n (pn v++r))(hm:v≤m)(h0:0≤v)(h1:v≤72057594037927935):a2g s m (n,0)=(v,n+(pn v).length,0):=by
 have e:=nx_pn h h0 h1
 unfold a2g
 simp only[e]
 rw[if_neg (by simp),if_neg (by simp),if_neg (by omega)]
def ptx(t:List UInt8):List UInt8:=pn t.length++t
theorem rtext_pt{s:List UInt8}{n m:Int}{t r:List UInt8}(h:Dr s n (ptx t++r))(hm:(t.length:Int)≤m)(h1:(t.length:Int)≤72057594037927935):a0x s m (n,0)=(t,n+(ptx t).length,0):=by
 rw[ptx,List.append_assoc]at h
 have e:=nx_pn h (by omega) h1
 have h2:=h.step
 obtain ⟨k,hk,hk',hd⟩:=h2
 have hl:(s.drop k).length=(t++r).length:=by rw[hd]
 simp at hl
 unfold a0x
 simp only[e]
 rw[if_neg (by simp),if_neg (by simp),if_neg (by omega),if_neg (by omega)]
 rw[show (n+((pn t.length).length:Int)).toNat=k by omega,show (n+((pn t.length).length:Int)+(t.length:Int)).toNat=k+t.length by omega]
 rw[List.drop_take,hd]
 have hpl:(ptx t).length=(pn t.length).length+t.length:=by simp[ptx]
 rw[hpl]
 simp only[Prod.mk.injEq,and_true]
 refine ⟨by simp,by omega⟩
theorem rend_nil{s:List UInt8}{n:Int}(h:Dr s n []):rend s (n,0)=0:=by
 obtain ⟨k,rfl,hk,hd⟩:=h
 have:s.length≤k:=List.drop_eq_nil_iff.1 hd
 unfold rend
 rw[if_neg (by simp only;omega)]
def a8J(p:PktC):List UInt8:=ptx p.s++pn p.sc++ptx p.d++pn p.dc++pn p.q++ptx p.x++pn p.th++pn p.ta
theorem mayK_to{p:PktC}(h:a5G p=true):p.s.length≤12∧(0≤p.sc∧p.sc≤999)∧p.d.length≤12∧(0≤p.dc∧p.dc≤999)∧(1≤p.q∧p.q≤1099511627776)∧p.x.length≤200∧(0≤p.th∧p.th≤1099511627776)∧(0≤p.ta∧p.ta≤1099511627776):=by
 simp only[a5G,a8g,Bool.and_eq_true,decide_eq_true_eq,nameP_iff,a9b]at h
 obtain ⟨⟨⟨⟨⟨⟨⟨h1,h2⟩,h3⟩,⟨h4,h5⟩,h6⟩,h7⟩,h8⟩,h9⟩,h10⟩:=h
 exact ⟨h1.2.1,⟨h2,h3⟩,h4.2.1,⟨h5,h6⟩,h9,h10,h7,h8⟩
theorem rpkt_enc{s:List UInt8}{n:Int}{r:List UInt8}{p:PktC}(hp:a5G p=true)(h:Dr s n (a8J p++r)):a8B s (n,0)=(p,n+(a8J p).length,0)∧Dr s (n+(a8J p).length) r:=by
 refine ⟨?_,h.step⟩
 obtain ⟨a1,a2,a3,a4,a5,a6,a7,a8⟩:=mayK_to hp
 simp only[a8J,List.append_assoc]at h
 have e1:=rtext_pt (m:=12) h (by omega) (by omega)
 have h:=h.step
 have e2:=rnum_pn (l:=0) (m:=999) h (by omega) (by omega) (by omega) (by omega)
 have h:=h.step
 have e3:=rtext_pt (m:=12) h (by omega) (by omega)
 have h:=h.step
 have e4:=rnum_pn (l:=0) (m:=999) h (by omega) (by omega) (by omega) (by omega)
 have h:=h.step
 have e5:=rnum_pn (l:=1) (m:=mxH) h (by omega) (by simp only[mxH];omega) (by omega) (by omega)
 have h:=h.step
 have e6:=rtext_pt (m:=200) h (by omega) (by omega)
 have h:=h.step
 have e7:=rnum_pn (l:=0) (m:=mxH) h (by omega) (by simp only[mxH];omega) (by omega) (by omega)
 have h:=h.step
 have e8:=rnum_pn (l:=0) (m:=mxH) h (by omega) (by simp only[mxH];omega) (by omega) (by omega)
 simp only[a8B,e1,e2,e3,e4,e5,e6,e7,e8]
 simp only[a8J,List.length_append,Prod.mk.injEq,and_true]
 refine ⟨trivial,by omega⟩
def a8I(e:EvC):List UInt8:=pn e.k++(if e.k=6 then ptx e.e++pn e.ec else if e.k=7 then pn e.h else if e.k=3 then a8J e.p++ptx e.a else a8J e.p)
theorem revent_enc{s:List UInt8}{n:Int}{r:List UInt8}{e:EvC}(he:a1k e=true)(h:Dr s n (a8I e++r)):a1z s (n,0)=(e,n+(a8I e).length,0)∧Dr s (n+(a8I e).length) r:=by
 refine ⟨?_,h.step⟩
 simp only[a1k,Bool.and_eq_true,decide_eq_true_eq]at he
 obtain ⟨⟨hk,hp⟩,hw⟩:=he
 simp only[a8I,List.append_assoc]at h
 have e1:=rnum_pn (l:=1) (m:=7) h hk.1 hk.2 (by omega) (by omega)
 have h:=h.step
 unfold a1z
 simp only[e1]
 unfold b0g at hw
 unfold a1K at hp
 simp only[a8I,List.length_append]
 by_cases h6:e.k=6
 ·rw[if_neg (by omega),if_pos h6]at hw
  rw[if_neg (by omega),if_neg (by omega),if_pos h6]at hp
  rw[if_pos h6,List.append_assoc]at h
  rw[if_pos h6,if_pos h6]
  simp only[a8g,Bool.and_eq_true,decide_eq_true_eq,nameP_iff,a9b]at hw
  have e2:=rtext_pt (m:=12) h (by omega) (by omega)
  have h:=h.step
  have e3:=rnum_pn (l:=0) (m:=999) h hw.1.2 hw.2 hw.1.2 (by omega)
  simp only[e2,e3]
  rw[Prod.mk.injEq]
  refine ⟨hp.symm, ?_⟩
  simp only[List.length_append,Prod.mk.injEq,and_true]
  omega
 rw[if_neg h6]
 rw[if_neg h6]at h
 by_cases h7:e.k=7
 ·rw[if_neg (by omega),if_neg h6,if_pos h7,decide_eq_true_eq]at hw
  rw[if_neg (by omega),if_neg (by omega),if_neg h6,if_pos h7]at hp
  rw[if_pos h7]at h
  rw[if_pos h7,if_neg h6,if_pos h7]
  have e2:=rnum_pn (l:=1) (m:=mxH) h (by omega) (by simp only[mxH];omega) (by omega) (by omega)
  simp only[e2]
  rw[Prod.mk.injEq]
  refine ⟨hp.symm, ?_⟩
  simp only[Prod.mk.injEq,and_true]
  omega
 rw[if_neg h7]
 rw[if_neg h7]at h
 by_cases h3:e.k=3
 ·rw[if_pos h3,Bool.and_eq_true,decide_eq_true_eq]at hw
  rw[if_neg (by omega),if_pos h3]at hp
  rw[if_pos h3,List.append_assoc]at h
  rw[if_pos h3,if_neg h6,if_neg h7,if_pos h3]
  obtain ⟨e2,h⟩:=rpkt_enc hw.1 h
  have e3:=rtext_pt (m:=32) h (by omega) (by omega)
  simp only[e2,e3]
  rw[Prod.mk.injEq]
  refine ⟨hp.symm, ?_⟩
  simp only[List.length_append,Prod.mk.injEq,and_true]
  omega
 rw[if_neg h3,if_neg h6,if_neg h7]at hw
 rw[if_pos (by omega)]at hp
 rw[if_neg h3]at h
 rw[if_neg h3,if_neg h6,if_neg h7,if_neg h3]
 obtain ⟨e2,h⟩:=rpkt_enc hw h
 simp only[e2]
 rw[Prod.mk.injEq]
 refine ⟨hp.symm, ?_⟩
 simp only[Prod.mk.injEq,and_true]
 omega
theorem decE_enc{e:EvC}(he:a1k e=true):a6V (a8I e)=(e,0):=by
 obtain ⟨h1,h2⟩:=revent_enc (s:=a8I e) (n:=0) (r:=[]) he (by rw[List.append_nil];exact Dr.init _)
 unfold a6V
 rw[h1,rend_nil h2]
 rw[if_neg (by simp),if_neg (by simp[he])]
theorem a1v(t:List UInt8):(ptx t).length≤8+t.length:=by have:=a0H t.length;simp[ptx];omega
theorem encP_len{p:PktC}(h:a5G p=true):(a8J p).length≤300:=by
 obtain ⟨a1,a2,a3,a4,a5,a6,a7,a8⟩:=mayK_to h
 have b1:=a1v p.s;have b2:=a0H p.sc;have b3:=a1v p.d;have b4:=a0H p.dc;have b5:=a0H p.q;have b6:=a1v p.x;have b7:=a0H p.th;have b8:=a0H p.ta
 simp only[a8J,List.length_append];omega
theorem encE_len{e:EvC}(he:a1k e=true):(a8I e).length≤400:=by
 simp only[a1k,Bool.and_eq_true,decide_eq_true_eq]at he
 obtain ⟨⟨hk,hp⟩,hw⟩:=he
 have b1:=a0H e.k;have b2:=a1v e.e;have b3:=a0H e.ec;have b4:=a0H e.h;have b5:=a1v e.a
 simp only[a8I,List.length_append]
 unfold b0g at hw
 by_cases h3:e.k=3
 ·rw[if_pos h3,Bool.and_eq_true,decide_eq_true_eq]at hw
  have:=encP_len hw.1
  rw[if_neg (by omega),if_neg (by omega),if_pos h3]
  simp only[List.length_append];omega
 rw[if_neg h3]at hw
 by_cases h6:e.k=6
 ·rw[if_pos h6]at hw ⊢
  simp only[a8g,Bool.and_eq_true,decide_eq_true_eq,nameP_iff,a9b]at hw
  simp only[List.length_append];omega
 rw[if_neg h6]at hw ⊢
 by_cases h7:e.k=7
 ·rw[if_pos h7];omega
 rw[if_neg h7]at hw ⊢
 rw[if_neg h3]
 have:=encP_len hw
 omega
theorem a8E(b:List UInt8):(b0e b).length=4:=by simp[b0e,a4W]
theorem a8i(n:Nat)(h:n≤2147483647):a6W [UInt8.ofNat (n / 16777216),UInt8.ofNat (n / 65536),UInt8.ofNat (n / 256),UInt8.ofNat n]=n:=by
 simp only[a6W,List.foldl_cons,List.foldl_nil,UInt8.toNat_ofNat']
 omega
theorem a1p(b:List UInt8):(a0V b).length=8+b.length∧(a0V b).take 4=[UInt8.ofNat (b.length / 16777216),UInt8.ofNat (b.length / 65536),UInt8.ofNat (b.length / 256),UInt8.ofNat b.length]∧((a0V b).take 8).drop 4=b0e b∧((a0V b).take (8+b.length)).drop 8=b:=by
 have hs:=a8E b
 obtain ⟨q,hq⟩:∃ q,b0e b=q:=⟨_,rfl⟩
 rw[a0V,hq]
 rw[hq]at hs
 obtain ⟨a1,a2,a3,a4,rfl⟩:∃ a1 a2 a3 a4,q=[a1,a2,a3,a4]:=by
  match q,hs with
  | [a1,a2,a3,a4],_=>exact ⟨a1,a2,a3,a4,rfl⟩
 refine ⟨by simp;omega,by simp,by simp, ?_⟩
 rw[show 8+b.length=b.length+8 by omega]
 simp
theorem openF_put{b:List UInt8}(h:b.length≤2147483647):a0G (a0V b)=(b,0):=by
 obtain ⟨h1,h2,h3,h4⟩:=a1p b
 have hn:a3C (a0V b)=(b,((8+b.length:Nat):Int),0):=by
  unfold a3C
  rw[if_neg (by omega),h2,a8i _ h,if_neg (by omega),if_neg (by omega),h4,h3,if_pos rfl]
 unfold a0G
 rw[hn]
 simp only
 rw[if_neg (by simp),if_neg (by omega)]
end
section
open Go.RowKit
set_option maxRecDepth 100000
theorem a4z(s:List UInt8)(hs:s.length≤281474976710656):CP Tryz.prog 112 [.str s] (.str (ptx s)):=b2k s hs
theorem b4P(p:PktC):(a8J p).length≤p.s.length+p.d.length+p.x.length+64:=by
 have b1:=a1v p.s;have b2:=a0H p.sc;have b3:=a1v p.d;have b4:=a0H p.dc;have b5:=a0H p.q;have b6:=a1v p.x;have b7:=a0H p.th;have b8:=a0H p.ta
 simp only[a8J,List.length_append];omega
theorem sxBkd{A B:Prop}(h:B)(e:A=B:=by (simp (disch:=omega) only[*, ↓Ed,Eu, ↓reduceIte,reduceCtorEq,Nat.reduceAdd,Nat.reduceEqDiff,Nat.reduceLT,Nat.reduceLeDiff,Int.reduceToNat,Int.reduceEq,Int.reduceLT,Int.reduceLE,w64,List.length_append,List.length_map,PktC.cs,EvC.cs,Int.reduceAdd,pkz,evz];first|done|rfl)):A:=e▸h
theorem a9Z(p:PktC)(h1:p.s.length≤1000000)(h2:p.d.length≤1000000)(h3:p.x.length≤1000000):CP Tryz.prog 178 [.agg p.cs] (.str (a8J p)):=by
 have t1:=a4z p.s (by omega)
 have t2:=a4z p.d (by omega)
 have t3:=a4z p.x (by omega)
 have b1:=a1v p.s;have b2:=a0H p.sc;have b3:=a1v p.d;have b4:=a0H p.dc;have b5:=a0H p.q;have b6:=a1v p.x;have b7:=a0H p.th;have b8:=a0H p.ta
 refine a3R _ _ (by simp) ?_
 simp only[a2s];refine sxBkd ?_
 repeat' ((first|exact tt|refine CallW_intro (t1) ?_|refine CallW_intro (t2) ?_|refine CallW_intro (t3) ?_|refine CallW_intro (a1I _) ?_|refine na fun b=>?_|refine nb fun b hb=>?_|refine iq ?_|(refine jq ?_ ?_<;>intro h h')|refine Two_intro ?_ ?_|exact wZ|fail)<;>try refine sxBkd ?_)
 all_goals simp[a8J,List.append_assoc]
theorem b6K(e:EvC)(h:evS e):CP Tryz.prog 113 [.agg e.cs] (.tup [.str (if a1k e then a8I e else []),.int .i64 (if a1k e then 0 else 1)]):=by
 obtain ⟨h1,h2,h3,h4,h5⟩:=h
 have hM:=b2q e h1 h2 h3 h4 h5
 have hP:=a9Z e.p h1 h2 h3
 have t1:=a4z e.e (by omega)
 have t2:=a4z e.a (by omega)
 have b1:=a1v e.e;have b2:=a0H e.k;have b3:=a1v e.a;have b4:=a0H e.ec;have b5:=a0H e.h;have b6:=b4P e.p
 refine a3r _ _ (by simp) ?_
 unfold a8I
 cases hm:a1k e
 ·rw[hm]at hM
  clear hm
  simp only[a0v];refine sxBkd ?_
  repeat' ((first|exact tt|refine CallO_pure (hM) ?_|refine na fun b=>?_|refine nb fun b hb=>?_|refine iq ?_|(refine jq ?_ ?_<;>intro h h')|refine Two_intro ?_ ?_|exact wZ|fail)<;>try refine sxBkd ?_)
  all_goals simp[a8J,List.append_assoc]
 rw[hm]at hM
 clear hm
 by_cases h6:e.k=6
 ·rw[if_pos h6]
  have f6:a0a (decide (e.k=6)=true):=by simp only[a0a,Hn];exact h6
  clear h6
  simp only[a0v];refine sxBkd ?_
  repeat' ((first|exact tt|refine CallO_pure (hM) ?_|refine CallO_pure (a1I _) ?_|refine CallW_intro (t1) ?_|refine CallW_intro (a1I _) ?_|refine na fun b=>?_|refine nb fun b hb=>?_|refine iq ?_|(refine jq ?_ ?_<;>intro h h')|refine Two_intro ?_ ?_|exact wZ|fail)<;>try refine sxBkd ?_)
  all_goals simp[a8J,List.append_assoc]
 rw[if_neg h6]
 have f6:a0a (decide (e.k=6)=false):=by simp only[a0a,Hn];exact h6
 clear h6
 by_cases h7:e.k=7
 ·rw[if_pos h7]
  have f7:a0a (decide (e.k=7)=true):=by simp only[a0a,Hn];exact h7
  clear h7
  simp only[a0v];refine sxBkd ?_
  repeat' ((first|exact tt|refine CallO_pure (hM) ?_|refine CallO_pure (a1I _) ?_|refine CallW_intro (t1) ?_|refine CallW_intro (a1I _) ?_|refine na fun b=>?_|refine nb fun b hb=>?_|refine iq ?_|(refine jq ?_ ?_<;>intro h h')|refine Two_intro ?_ ?_|exact wZ|fail)<;>try refine sxBkd ?_)
  all_goals simp[a8J,List.append_assoc]
 rw[if_neg h7]
 have f7:a0a (decide (e.k=7)=false):=by simp only[a0a,Hn];exact h7
 clear h7
 by_cases h3:e.k=3
 ·rw[if_pos h3]
  have f3:a0a (decide (e.k=3)=true):=by simp only[a0a,Hn];exact h3
  clear h3
  simp only[a0v];refine sxBkd ?_
  repeat' ((first|exact tt|refine CallO_pure (hM) ?_|refine CallO_pure (hP) ?_|refine CallO_pure (a1I _) ?_|refine CallW_intro (t2) ?_|refine CallW_intro (hP) ?_|refine CallW_intro (a1I _) ?_|refine na fun b=>?_|refine nb fun b hb=>?_|refine iq ?_|(refine jq ?_ ?_<;>intro h h')|refine Two_intro ?_ ?_|exact wZ|fail)<;>try refine sxBkd ?_)
  all_goals simp[a8J,List.append_assoc]
 rw[if_neg h3]
 have f3:a0a (decide (e.k=3)=false):=by simp only[a0a,Hn];exact h3
 clear h3
 simp only[a0v];refine sxBkd ?_
 repeat' ((first|exact tt|refine CallO_pure (hM) ?_|refine CallO_pure (hP) ?_|refine CallO_pure (a1I _) ?_|refine CallW_intro (t2) ?_|refine CallW_intro (hP) ?_|refine CallW_intro (a1I _) ?_|refine na fun b=>?_|refine nb fun b hb=>?_|refine iq ?_|(refine jq ?_ ?_<;>intro h h')|refine Two_intro ?_ ?_|exact wZ|fail)<;>try refine sxBkd ?_)
 all_goals simp[a8J,List.append_assoc]
def eight(n:Nat):List UInt8:=[UInt8.ofNat (n / 72057594037927936),UInt8.ofNat (n / 281474976710656),UInt8.ofNat (n / 1099511627776),UInt8.ofNat (n / 4294967296),UInt8.ofNat (n / 16777216),UInt8.ofNat (n / 65536),UInt8.ofNat (n / 256),UInt8.ofNat n]
def eiC(n:Nat)(k:Nat):List AV:=((List.replicate (8 - k) (0:UInt8))++(eight n).drop (8 - k)).map byC
theorem w8m(v:Nat):IntKind.wrap .u8 (Int.tmod (v:Int) 256)=((v % 256:Nat):Int):=by
 rw[Int.tmod_eq_emod_of_nonneg (by omega)]
 show ((v:Int) % 256) % 256=_
 omega
theorem w8d(v:Nat):Int.tdiv (v:Int) 256=((v / 256:Nat):Int):=by
 rw[Int.tdiv_eq_ediv_of_nonneg (by omega)];omega
theorem w8q(v:Nat)(h:v≤72057594037927935):IntKind.wrap .i64 (Int.tdiv (v:Int) 256)=((v / 256:Nat):Int):=by
 rw[w8d]
 exact w64 (by omega)
theorem b4O(n k:Nat)(h:k<8):splice (eiC n k) (7 - k) [.int .u8 ((n / 256 ^ k % 256:Nat):Int)]=eiC n (k+1):=by
 have hc:k=0∨k=1∨k=2∨k=3∨k=4∨k=5∨k=6∨k=7:=by omega
 rcases hc with rfl|rfl|rfl|rfl|rfl|rfl|rfl|rfl
 all_goals simp[eiC,eight,splice,List.replicate,byC]
theorem b5i(n:Nat)(h:n≤72057594037927935):CP Tryz.prog 114 [.int .i64 (n:Int)] (.str (eight n)):=by
 refine a5I _ _ (by simp) ?_
 have f1:a0a (decide ((n:Int)<0)=false):=fo
 have f2:a0a (decide ((72057594037927935:Int)<n)=false):=fo
 simp only[a3x];refine sxBkd ?_
 repeat' ((first|exact tt|refine na fun b=>?_|refine nb fun b hb=>?_|refine iq ?_|(refine jq ?_ ?_<;>intro h h')|refine Two_intro ?_ ?_|exact wZ|fail)<;>try refine sxBkd ?_)
 refine wpx_loop (fun k:Nat=>⟨lk [(0,.int .i64 ((n / 256 ^ k:Nat):Int)),(3,.osl b 0 8),(4,.int .i64 (7 - (k:Int)))],lk [(b,eiC n k)]⟩) (fun k=>k≤8) (fun k=>8 - k) 0 (by omega) (Le_lit (by simp[LeL,lk,eiC,byC,eight,List.replicate])) ?_
 clear f1 f2
 intro k hk
 by_cases hk8:k<8
 rotate_left
 ·obtain rfl:k=8:=by omega
  have f1:a0a (decide ((0:Int)≤7 - ((8:Nat):Int))=false):=by simp[a0a]
  refine sxBkd ?_
  repeat' ((first|exact tt|refine BytesO_intro (eight n) rfl rfl ?_|refine na fun b=>?_|refine nb fun b hb=>?_|refine iq ?_|(refine jq ?_ ?_<;>intro h h')|refine Two_intro ?_ ?_|exact wZ|fail)<;>try refine sxBkd ?_)
 have f1:a0a (decide ((0:Int)≤7 - (k:Int))=true):=fo
 have e0:(7 - (k:Int)).toNat * 1=7 - k:=by omega
 have e1:=w8q (n / 256 ^ k) (Nat.le_trans (Nat.div_le_self _ _) h)
 have e2:n / 256 ^ k / 256=n / 256 ^ (k+1):=by rw[Nat.div_div_eq_div_mul, ← Nat.pow_succ]
 have e3:=b4O n k hk8
 have e4:7 - (k:Int) - 1=7 - ((k+1:Nat):Int):=by omega
 have e5:7 - k+1≤(eiC n k).length:=by simp[eiC,eight]
 refine sxBkd ?_
 repeat' ((first|exact tt|refine na fun b=>?_|refine nb fun b hb=>?_|refine iq ?_|(refine jq ?_ ?_<;>intro h h')|refine Two_intro ?_ ?_|exact wZ|fail)<;>try refine sxBkd ?_)
 rw[w8m,e3]
 exact Round_lit (k+1) ⟨Le_lit (by simp[LeL,lk]),by omega,by omega⟩
theorem b2f(s:List UInt8)(h:s.length≤2147483647):CP Tryz.prog 57 [.str s] (.tup [.str (a0V s),.int .i64 0]):=by
 have hE:=b5i s.length (by omega)
 have hF:=b6R s (by omega)
 have h4:=a8E s
 have e4:(eight s.length).length=8:=rfl
 have f1:a0a (decide ((2147483647:Int)<s.length)=false):=fo
 have h6:(((eight s.length).take 8).drop 4).length=4:=rfl
 have e5:((eight s.length).take 8).drop 4++b0e s++s=a0V s:=by simp[eight,a0V]
 refine a5J _ _ (by simp) ?_
 simp only[a3y];refine sxBkd ?_
 repeat' ((first|exact tt|refine CallW_intro (hE) ?_|refine CallW_intro (hF) ?_|refine na fun b=>?_|refine nb fun b hb=>?_|refine iq ?_|(refine jq ?_ ?_<;>intro h h')|refine Two_intro ?_ ?_|exact wZ|fail)<;>try refine sxBkd ?_)
end
section
open Go.RowKit
set_option maxRecDepth 100000
def a7a(l:List EvC):List UInt8:=(l.map fun e=>ptx (a8I e)).flatten
theorem encL_take{l:List EvC}{k:Nat}(h:k<l.length):a7a (l.take (k+1))=a7a (l.take k)++ptx (a8I (l.getD k default)):=by
 rw[List.take_succ,List.getElem?_eq_getElem h]
 simp only[a7a,Option.toList_some,List.map_append,List.map_cons,List.map_nil,List.flatten_append,List.flatten_cons,List.flatten_nil,List.append_nil]
 simp[List.getD,h]
theorem a7O:∀ {l:List EvC},l.all a1k=true→(a7a l).length≤408 * l.length
 | [],_=>by simp[a7a]
 | e::l,h=>by
  rw[List.all_cons,Bool.and_eq_true]at h
  have h1:=a7O h.2
  have h2:=encE_len h.1
  have h3:=a1v (a8I e)
  simp only[a7a,List.map_cons,List.flatten_cons,List.length_append,List.length_cons]at *
  omega
def a0Z(b:BlkC):List UInt8:=ptx b.c++pn b.h++pn b.t++pn b.e.length++a7a b.e
theorem mayB_to{b:BlkC}(h:a1n b=true):a2X b.c=true∧b.c.length≤12∧(1≤b.h∧b.h≤1099511627776)∧(0≤b.t∧b.t≤1099511627776)∧b.e.length≤1073741824∧b.e.all a1k=true:=by
 simp only[a1n,Bool.and_eq_true,decide_eq_true_eq]at h
 obtain ⟨⟨⟨h1,h2⟩,h3⟩,h4,h5⟩:=h
 exact ⟨h1,(nameP_iff.1 h1).2.1,h2,h3,h4,h5⟩
theorem rdEvs_enc{s:List UInt8}:∀ {l:List EvC} {n:Int} {r:List UInt8} (L:List EvC),l.all a1k=true→Dr s n (a7a l++r)→a3Y s l.length (n,0) L=(L++l,(n+(a7a l).length,0),0)∧Dr s (n+(a7a l).length) r
 | [],n,r,L,_,h=>by
  refine ⟨?_,h.step⟩
  simp[a3Y,a7a]
 | e::l,n,r,L,ha,h=>by
  refine ⟨?_,h.step⟩
  rw[List.all_cons,Bool.and_eq_true]at ha
  have e0:a7a (e::l)=ptx (a8I e)++a7a l:=rfl
  rw[e0,List.append_assoc]at h
  have hl:=encE_len ha.1
  have e1:=rtext_pt (m:=1000) h (by omega) (by omega)
  have h2:=h.step
  rw[List.length_cons,a3Y,e1]
  simp only[decE_enc ha.1]
  rw[if_neg (by simp),if_neg (by simp),(rdEvs_enc (L++[e]) ha.2 h2).1,e0]
  simp only[List.length_append,Prod.mk.injEq,and_true]
  refine ⟨by simp,by omega⟩
theorem decB_enc{b:BlkC}(h:a1n b=true):a3L (a0Z b)=(b,0):=by
 obtain ⟨h1,h2,h3,h4,h5,h6⟩:=mayB_to h
 have d0:Dr (a0Z b) 0 (a0Z b):=Dr.init _
 rw[show a0Z b=ptx b.c++(pn b.h++(pn b.t++(pn b.e.length++(a7a b.e++[])))) by simp[a0Z]]at d0
 rw[show ptx b.c++(pn b.h++(pn b.t++(pn b.e.length++(a7a b.e++[]))))=a0Z b by simp[a0Z]]at d0
 have d0:Dr (a0Z b) 0 (ptx b.c++(pn b.h++(pn b.t++(pn b.e.length++(a7a b.e++[]))))):=by
  have e:ptx b.c++(pn b.h++(pn b.t++(pn b.e.length++(a7a b.e++[]))))=a0Z b:=by simp[a0Z]
  rw[e];exact Dr.init _
 have e1:=rtext_pt (m:=12) d0 (by omega) (by omega)
 have d1:=d0.step
 have e2:=rnum_pn (l:=1) (m:=mxH) d1 h3.1 h3.2 (by omega) (by omega)
 have d2:=d1.step
 have e3:=rnum_pn (l:=0) (m:=mxH) d2 h4.1 h4.2 (by omega) (by omega)
 have d3:=d2.step
 have e4:=rcount_pn (m:=1073741824) d3 (by omega) (by omega) (by omega)
 have d4:=d3.step
 obtain ⟨e5,d5⟩:=rdEvs_enc [] h6 d4
 unfold a3L
 simp only[e1,e2,e3,e4,Int.toNat_natCast,e5]
 unfold b3E b1M
 simp only[rend_nil d5,List.nil_append]
 rw[if_neg (by simp),if_neg (by simp),if_neg (by simp[h])]
theorem sxBke{A B:Prop}(h:B)(e:A=B:=by (simp (disch:=omega) only[*, ↓Ed,Eu, ↓reduceIte,reduceCtorEq,Nat.reduceAdd,Nat.reduceEqDiff,Nat.reduceLT,Nat.reduceLeDiff,Int.reduceToNat,Int.reduceEq,Int.reduceLT,Int.reduceLE,w64,List.length_append,List.length_map,PktC.cs,EvC.cs,BlkC.cs,Int.reduceAdd,a0O,gdE];first|done|rfl)):A:=e▸h
theorem b4r(q:BlkC)(hc:q.c.length≤1000000)(hE:a7b q.e)(hl:q.e.length≤100000):CP Tryz.prog 56 [.agg q.cs] (.tup [.str (if a1n q then a0Z q else []),.int .i64 (if a1n q then 0 else 1)]):=by
 have hM:=b5v q hc hE
 refine a3q _ _ (by simp) ?_
 cases hm:a1n q
 ·rw[hm]at hM
  clear hm
  simp only[a1i];refine sxBke ?_
  repeat' ((first|exact tt|refine CallO_pure (hM) ?_|refine na fun b=>?_|refine nb fun b hb=>?_|refine iq ?_|(refine jq ?_ ?_<;>intro h h')|refine Two_intro ?_ ?_|exact wZ|fail)<;>try refine sxBke ?_)
 obtain ⟨-,h2, -, -, -,h6⟩:=mayB_to hm
 rw[hm]at hM
 clear hm
 rw[if_pos rfl,if_pos rfl]
 have t1:=a4z q.c (by omega)
 have b1:=a1v q.c
 have b2:=a0H q.h
 have b3:=a0H q.t
 have b4:=a0H q.e.length
 simp only[a1i];refine sxBke ?_
 repeat' ((first|exact tt|refine CallO_pure (hM) ?_|refine CallW_intro (t1) ?_|refine CallW_intro (a1I _) ?_|refine na fun b=>?_|refine nb fun b hb=>?_|refine iq ?_|(refine jq ?_ ?_<;>intro h h')|refine Two_intro ?_ ?_|exact wZ|fail)<;>try refine sxBke ?_)
 obtain ⟨pre,hpre⟩:∃ pre,ptx q.c++pn q.h++pn q.t++pn q.e.length=pre:=⟨_,rfl⟩
 have hq:a0Z q=pre++a7a q.e:=by rw[← hpre];rfl
 have hpl:pre.length≤100:=by rw[← hpre];simp only[List.length_append];omega
 rw[hpre,hq]
 clear hpre hq t1 b1 b2 b3 b4 hM
 obtain ⟨c,h,t,l⟩:=q
 simp only at hc hE hl h2 h6 ⊢
 refine wpx_loop (fun k:Nat=>⟨lk [(1,.ptr b 0),(4,.str (pre++a7a (l.take k))),(5,.int .i64 (k:Int))],lk [(b,BlkC.cs ⟨c,h,t,l⟩)]⟩) (fun k=>k≤l.length) (fun k=>l.length - k) 0 (by omega) (Le_lit (by simp[LeL,lk,a7a])) ?_
 intro k hk
 by_cases hkl:k<l.length
 rotate_left
 ·obtain rfl:k=l.length:=by omega
  have f1:a0a (decide ((l.length:Int)<l.length)=false):=fo
  rw[List.take_length]
  clear h6 hE
  refine sxBke ?_
  repeat' ((first|exact tt|refine na fun b=>?_|refine nb fun b hb=>?_|refine iq ?_|(refine jq ?_ ?_<;>intro h h')|refine Two_intro ?_ ?_|exact wZ|fail)<;>try refine sxBke ?_)
 have f1:a0a (decide ((k:Int)<l.length)=true):=fo
 have hme:a1k (l.getD k default)=true:=by
  rw[List.all_eq_true]at h6
  exact h6 _ (by simp[List.getD,hkl])
 have hX:=b6K _ (hE.2 k hkl)
 rw[hme,if_pos rfl,if_pos rfl]at hX
 have hxl:=encE_len hme
 have hP:=a4z (a8I (l.getD k default)) (by omega)
 have hpx:=a1v (a8I (l.getD k default))
 have hta:=encL_take hkl
 have htl:(a7a (l.take k)).length≤408 * l.length:=by
  have:(l.take k).all a1k=true:=by
   rw[List.all_eq_true]at h6 ⊢
   exact fun x hx=>h6 x (List.mem_of_mem_take hx)
  have:=a7O this
  simp only[List.length_take]at this
  omega
 clear h6 hE hme
 generalize hx:l.getD k default=x at *
 generalize a8I x=ex at *
 generalize hz:ptx ex=z at *
 refine sxBke ?_
 repeat' ((first|exact tt|refine CallO_pure (hX) ?_|refine CallO_pure (hP) ?_|refine na fun b=>?_|refine nb fun b hb=>?_|refine iq ?_|(refine jq ?_ ?_<;>intro h h')|refine Two_intro ?_ ?_|exact wZ|fail)<;>try refine sxBke ?_)
 all_goals exact Round_lit (k+1) ⟨Le_lit (by simp[LeL,lk,hta]),by omega,by omega⟩
end
section
open Go.RowKit
theorem row_own{w W W':World}{row:Option Nat}{e:TypeId}{size k:Nat}{v:Value}{xs:List Value}(h:W.ownsRow w.heap.size e size v k xs)(hg:W.grownBy W' row)(hr:∀ r,row=some r→∃ o:Obj,W.heap[r]?=some o∧o.isCells=false):W'.ownsRow w.heap.size e size v k xs:=by
 refine h.kept hg ?_
 rcases h.2 with ⟨rfl,_⟩ | ⟨g,cap,cur,rfl,_,hgb,_⟩
 ·exact .inl rfl
 ·refine .inr fun e'=>?_
  obtain ⟨o,ho,hc⟩:=hr g (by simpa[Value.ownBlock]using e'.symm)
  rw[hgb]at ho;cases ho;cases hc
end
end Go.Proofs.YtgdhinnepnlihaaGreatDoor
namespace Go.Proofs
open Go.Shelf
def Tryz.sort139_ren:Go.Shelf.Ren:=⟨fun|6=>139|15=>176|14=>194|28=>222|29=>223|20=>241|21=>242|22=>243|23=>244|24=>245|25=>246|26=>247|27=>248|46=>284|47=>269|48=>270|49=>285|50=>286|57=>308|n=>n,fun|22=>53|24=>64|25=>151|3=>3|39=>236|0=>0|53=>295|55=>235|4=>4|46=>289|45=>288|50=>171|5=>5|9=>9|66=>329|70=>333|76=>355|77=>261|n=>n,fun|n=>n⟩
theorem Tryz.sort139:Go.Proofs.SlLaysF0.n6 Tryz.prog Tryz.sort139_ren:={
 mixed:=by kernel_rfl
 f6:=⟨Tryz.f139.name,by decide,Tryz.func139.trans (congrArg some (by kernel_rfl))⟩
 f14:=⟨Tryz.f194.name,by decide,Tryz.func194.trans (congrArg some (by kernel_rfl))⟩
 f15:=Tryz.func176.trans (congrArg some (by kernel_rfl))
 f20:=⟨Tryz.f241.name,by decide,Tryz.func241.trans (congrArg some (by kernel_rfl))⟩
 f21:=⟨Tryz.f242.name,by decide,Tryz.func242.trans (congrArg some (by kernel_rfl))⟩
 f22:=⟨Tryz.f243.name,by decide,Tryz.func243.trans (congrArg some (by kernel_rfl))⟩
 f23:=⟨Tryz.f244.name,by decide,Tryz.func244.trans (congrArg some (by kernel_rfl))⟩
 f24:=⟨Tryz.f245.name,by decide,Tryz.func245.trans (congrArg some (by kernel_rfl))⟩
 f25:=⟨Tryz.f246.name,by decide,Tryz.func246.trans (congrArg some (by kernel_rfl))⟩
 f26:=⟨Tryz.f247.name,by decide,Tryz.func247.trans (congrArg some (by kernel_rfl))⟩
 f27:=⟨Tryz.f248.name,by decide,Tryz.func248.trans (congrArg some (by kernel_rfl))⟩
 f28:=Tryz.func222.trans (congrArg some (by kernel_rfl))
 f29:=Tryz.func223.trans (congrArg some (by kernel_rfl))
 f46:=⟨Tryz.f284.name,by decide,Tryz.func284.trans (congrArg some (by kernel_rfl))⟩
 f47:=Tryz.func269.trans (congrArg some (by kernel_rfl))
 f48:=Tryz.func270.trans (congrArg some (by kernel_rfl))
 f49:=⟨Tryz.f285.name,by decide,Tryz.func285.trans (congrArg some (by kernel_rfl))⟩
 f50:=⟨Tryz.f286.name,by decide,Tryz.func286.trans (congrArg some (by kernel_rfl))⟩
 f57:=⟨Tryz.f308.name,by decide,Tryz.func308.trans (congrArg some (by kernel_rfl))⟩
 t0:=Tryz.underlying0
 a0:=Tryz.isAgg0
 z0:=Tryz.sizeOf0
 v0:=Tryz.zeroValue0
 t3:=Tryz.underlying3
 a3:=Tryz.isAgg3
 z3:=Tryz.sizeOf3
 v3:=Tryz.zeroValue3
 t4:=Tryz.underlying4
 a4:=Tryz.isAgg4
 z4:=Tryz.sizeOf4
 v4:=Tryz.zeroValue4
 t5:=Tryz.underlying5
 a5:=Tryz.isAgg5
 z5:=Tryz.sizeOf5
 v5:=Tryz.zeroValue5
 t9:=Tryz.underlying9
 a9:=Tryz.isAgg9
 z9:=Tryz.sizeOf9
 v9:=Tryz.zeroValue9
 t22:=Tryz.underlying53
 a22:=Tryz.isAgg53
 z22:=Tryz.sizeOf53
 v22:=Tryz.zeroValue53
 t25:=Tryz.underlying151
 a25:=Tryz.isAgg151
 z25:=Tryz.sizeOf151
 v25:=Tryz.zeroValue151
 t39:=Tryz.underlying236
 a39:=Tryz.isAgg236
 z39:=Tryz.sizeOf236
 v39:=Tryz.zeroValue236
 t45:=Tryz.underlying288
 a45:=Tryz.isAgg288
 z45:=Tryz.sizeOf288
 v45:=Tryz.zeroValue288
 t46:=Tryz.underlying289
 a46:=Tryz.isAgg289
 z46:=Tryz.sizeOf289
 v46:=Tryz.zeroValue289
 t50:=Tryz.underlying171
 a50:=Tryz.isAgg171
 z50:=Tryz.sizeOf171
 v50:=Tryz.zeroValue171
 t53:=Tryz.underlying295
 a53:=Tryz.isAgg295
 z53:=Tryz.sizeOf295
 v53:=Tryz.zeroValue295
 t55:=Tryz.underlying235
 a55:=Tryz.isAgg235
 z55:=Tryz.sizeOf235
 v55:=Tryz.zeroValue235
 t66:=Tryz.underlying329
 a66:=Tryz.isAgg329
 z66:=Tryz.sizeOf329
 v66:=Tryz.zeroValue329
 t70:=Tryz.underlying333
 a70:=Tryz.isAgg333
 z70:=Tryz.sizeOf333
 v70:=Tryz.zeroValue333
 t76:=Tryz.underlying355
 a76:=Tryz.isAgg355
 z76:=Tryz.sizeOf355
 v76:=Tryz.zeroValue355
 t77:=Tryz.underlying261
 a77:=Tryz.isAgg261
 z77:=Tryz.sizeOf261
 v77:=Tryz.zeroValue261 }
end Go.Proofs
namespace Go.Proofs.YtgdhinnepnlihaaGreatDoor
set_option linter.all false
set_option maxHeartbeats 9000000
section
open Go.RowKit Go.ChangeMaps Go.Sort Go.Shelf
set_option maxRecDepth 100000 in
set_option maxHeartbeats 4000000 in
theorem kva_iter{α:Type}[Inhabited α](cl:α→List Value)(hcl:∀ x,(cl x).length=4)(h1:∀ x, ∀ u∈cl x,u.oneCell'=true)(F:Fence)(n:Nat)(hf:F.fn 140)(hro:F.round=none)(hn:1≤n)
  (bx b:Nat) (es:Array MapEntry) (clk:Nat) (l:List α) (w:World) (tb:TypeId) (hbx:w.heap[bx]?=some (.cells #[.map (some b)] tb (0,0))) (hb:w.heap[b]?=some (.map es clk))
  (hval:es.toList.map (·.key)=l.map fun x=>.agg (cl x).toArray) (hborn:∀ x∈es.toList,x.born<clk) (hnd:(es.toList.map (·.born)).Nodup):
  SeqStops F n Tryz.prog 140 #[.pointer (some ⟨bx,0,none⟩)] (fun x=>.agg (cl x).toArray) (fun xs=>xs.Perm l) (fun _=>True) l.length w:=by
 intro lp J Jx W hW hJ hJx hY h0
 have hbxl:bx<w.heap.size:=(Array.getElem?_eq_some_iff.1 hbx).1
 have hbl:b<w.heap.size:=(Array.getElem?_eq_some_iff.1 hb).1
 have hbx1:W.heap[bx]?=some (.cells #[.map (some b)] tb (0,0)):=(hW.block bx hbxl).trans hbx
 have hb1:W.heap[b]?=some (.map es clk):=(hW.block b hbl).trans hb
 have hc1:W.cell? ⟨bx,0,none⟩=some (.map (some b)):=by simp[World.cell?,hbx1]
 have hsz:=hW.size
 refine callsIn_of_wp Tryz.func140 rfl hf ?_ hro
 simp only[Tryz.ntmps140,List.size_toArray,List.length_cons,List.length_nil,Nat.reduceAdd,Nat.reduceSub,Array.replicate_succ,Array.replicate_zero,List.push_toArray,List.append_toArray,List.nil_append,List.cons_append]
 gi_wp2_with (first
  | (gi_at_range;refine b1t _ rfl _ _ rfl _ _ Tryz.underlying147 b es clk rfl hb1 ?_)
  | gi_in)
 gi_loopw [3] (fun _ wr=>∃ (seen:Array Nat) (is:List Nat),wr.heap[W.heap.size]?=some (.mapIter (some b) clk seen clk)∧wr.heap[b]?=some (.map es clk)∧W.heap.size≤wr.heap.size∧Came es seen is∧J (is.map fun i=>l.getD i default) wr)
  (fun _ wr=>es.size - b2B wr W.heap.size)
 case atStart=>
  refine ⟨#[],[],World.alloc_heap_new W _,(Below.heap_alloc _ _ b (by omega)).trans hb1,by simp,Came.nil es, ?_⟩
  exact hJ [] W _ none h0 (World.grownBy_alloc W _ none) (fun r e=>by cases e)
 case round=>
  obtain ⟨seen,is,hr1,hr2,hr3,hC,hJs⟩:=hrel
  gi_wp2_with (first
   | (gi_at_next;refine b2M _ rfl _ rfl W.heap.size b clk es seen rfl hr1 hr2 hborn ?_ ?_)
   | gi_in)
  ·intro hl0
   gi_wp2
   go_end0
   refine ⟨⟨_,rfl⟩,.inl ⟨_, ?_,hJs⟩⟩
   have hp:=hC.all hnd hl0
   have hlen:es.size=l.length:=by have:=congrArg List.length hval;simpa using this
   rw[hlen]at hp
   have:=hp.map fun i=>l.getD i default
   rwa [range_getD_map]at this
  ·intro e w2 he hst
   obtain ⟨i,hi,hC2⟩:=hC.step hnd he
   have hil:i<es.size:=(Array.getElem?_eq_some_iff.1 hi).1
   have hlen:es.size=l.length:=by have:=congrArg List.length hval;simpa using this
   have hv:e.key=.agg (cl (l.getD i default)).toArray:=by
    have:=congrArg (fun q=>q[i]?) hval
    simp only[List.getElem?_map,Array.getElem?_toList,hi,Option.map_some]at this
    rw[List.getElem?_eq_getElem (by omega)]at this
    simpa[List.getD,show i<l.length by omega]using this
   have hmem:e∈es.toList:=by
    rw[List.mem_iff_getElem?]
    exact ⟨i,by rw[Array.getElem?_toList];exact hi⟩
   have hne:b≠W.heap.size:=by omega
   have hb2:w2.heap[b]?=some (.map es clk):=(hst.grown.block b (by omega) (by simpa using hne)).trans hr2
   have hJ2:=hJ _ _ w2 _ hJs hst.grown (fun r e=>by cases e;exact ⟨Nat.le_refl _,_,hr1,rfl⟩)
   have hs2:=hst.size
   have hWr:W.heap.size<wr.heap.size:=(Array.getElem?_eq_some_iff.1 hr1).1
   have hr2':=hst.at_
   obtain ⟨x,hx⟩:∃ x,l.getD i default=x:=⟨_,rfl⟩
   rw[hx]at hv
   have hJ3:J (is.map fun i=>l.getD i default) (w2.alloc (.cells (cl x).toArray 64)):=hJ _ _ _ none hJ2 (World.grownBy_alloc w2 _ none) (fun r e=>by cases e)
   have hlt:(is.map fun i=>l.getD i default).length<l.length:=by
    have:=a8h _ _ hC2.nd hC2.lt
    simp at this ⊢;omega
   obtain ⟨fn,tmps,assign,body,hy,hR⟩:=hY _ x _ hJ3 hlt
   have hcs:(cl x).toArray.size=4:=by simp[hcl]
   have hone:∀ u∈(cl x).toArray.toList,u.oneCell'=true:=by simpa using h1 x
   have hso:∀ w,(Go.sizeOf 64).run Tryz.prog w=.ok (cl x).toArray.size w:=fun w=>by rw[hcs];exact Tryz.sizeOf64 w
   generalize (cl x).toArray=c at hv hy hR hcs hone hso
   clear hJ3 hJ2 hJs h1 hcl
   gi_wp2_with (first
    | (refine b1s _ rfl _ rfl W.heap.size b clk es seen e rfl hr2' hb2 hmem hnd ?_)
    | (refine a7H _ rfl rfl _ _ 64 rfl 4 (by kernel_rfl) wr.heap.size _ c 64 rfl (alloc_at hs2 _) rfl rfl hcs hone ?_;rw[alloc_setRow2 hs2])
    | (refine a9B _ rfl _ 64 rfl wr.heap.size c 64 Tryz.isAgg64 hso rfl (alloc_at hs2 _) ?_)
    | gi_in)
   refine hR.mono ?_
   rintro e2 W3 (⟨rfl,hJ4,hk3⟩ | ⟨rfl,hJx4⟩)
   ·gi_wp2
    have ha:(w2.alloc (.cells c 64)).heap[W.heap.size]?=some (.mapIter (some b) clk (seen.push e.born) clk):=(Below.heap_alloc _ _ _ (by omega)).trans hr2'
    have hb3:(w2.alloc (.cells c 64)).heap[b]?=some (.map es clk):=(Below.heap_alloc _ _ _ (by omega)).trans hb2
    have ha3:=hk3.same _ _ ha rfl
    go_roundw
    case rel=>
     refine ⟨_,is++[i],ha3,hk3.same _ _ hb3 rfl, ?_,hC2, ?_⟩
     ·have:=hk3.size;simp at this;omega
     ·rw[List.map_append,List.map_singleton,hx];exact hJ4
    case measure=>
     have q1:b2B W3 W.heap.size=seen.size+1:=by simp[b2B,ha3]
     have q2:b2B wr W.heap.size=seen.size:=by simp[b2B,hr1]
     have q3:=hC2.size
     have q4:=a8h _ _ hC2.nd hC2.lt
     simp only[Array.size_push,List.length_append,List.length_singleton]at q3 q4
     rw[q1,q2];omega
   ·gi_wp2
    (try simp only[Exit.inBlock,Exit.then]);refine bodyPost_ret (results_none rfl _ _ _) rfl ?_
    exact ⟨⟨_,rfl⟩,.inr ⟨_,trivial,hJx4⟩⟩

structure kApI {α:Type} (cl:α→List Value) (w:World) (xs:List α) (W:World):Prop where
 box:∃ v,W.heap[w.heap.size]?=some (.cells #[v] 53 (0,0))∧W.ownsRow w.heap.size 64 4 v xs.length (xs.flatMap cl)
 below:Below w.heap.size w W
theorem kApI.own{α:Type}(cl:α→List Value)(w:World)(B:Nat)(hB:w.heap.size≤B):OwnFrom B (kApI cl w):=by
 intro xs W W' row h hg hr
 obtain ⟨v,hv,hrow⟩:=h.box
 refine ⟨⟨v,(grownBy_keeps_cells hg (fun r e=>(hr r e).2) hv rfl).trans hv,row_own hrow hg fun r e=>(hr r e).2⟩,h.below.grown hg h.below.size fun k e=>Nat.le_trans hB (hr k e).1⟩
set_option maxRecDepth 100000 in
set_option maxHeartbeats 4000000 in
theorem kva_app{α:Type}[Inhabited α](cl:α→List Value)(hcl:∀ x,(cl x).length=4)(h1:∀ x, ∀ u∈cl x,u.oneCell'=true)(F:Fence)(n:Nat)(hf:F.fn 140)
    (hf2:F.fn 193) (hro:F.round=none) (hn:3≤n)
    (bx b:Nat) (es:Array MapEntry) (clk:Nat) (l:List α) (w:World) (tb:TypeId) (hbx:w.heap[bx]?=some (.cells #[.map (some b)] tb (0,0))) (hb:w.heap[b]?=some (.map es clk))
    (hval:es.toList.map (·.key)=l.map fun x=>.agg (cl x).toArray) (hborn:∀ x∈es.toList,x.born<clk) (hnd:(es.toList.map (·.born)).Nodup) (hl:l.length≤1000000):
    CallsIn F n Tryz.prog 193 #[.slice none 0 0,.func (.func 140) #[] #[.pointer (some ⟨bx,0,none⟩)]] w fun e W'=>
      ∃ (v:Value) (xs:List α),e=.returned v∧xs.Perm l∧W'.ownsRow w.heap.size 64 4 v xs.length (xs.flatMap cl)∧Below w.heap.size w W':=by
  have hbxl:bx<w.heap.size:=(Array.getElem?_eq_some_iff.1 hbx).1
  have hbl:b<w.heap.size:=(Array.getElem?_eq_some_iff.1 hb).1
  have hmx:maxLen=9223372036854775807:=rfl
  refine callsIn_of_wp_marks Tryz.func193 rfl hf2 ?_ hro
  simp only[Tryz.ntmps193,List.size_toArray,List.length_cons,List.length_nil,Nat.reduceAdd,Nat.reduceSub,Array.replicate_succ,Array.replicate_zero,List.push_toArray,List.append_toArray,List.nil_append,List.cons_append]
  gi_wp2
  obtain ⟨W0,hW0⟩:∃ W0,w.alloc (.cells #[.slice none 0 0] 53)=W0:=⟨_,rfl⟩
  rw[hW0]
  have hs0:W0.heap.size=w.heap.size+1:=by rw[← hW0];simp
  have hv0:W0.heap[w.heap.size]?=some (.cells #[.slice none 0 0] 53 (0,0)):=by rw[← hW0];exact World.alloc_heap_new w _
  have hB0:Below w.heap.size w W0:=by rw[← hW0];exact (Below.refl _ w).alloc (Nat.le_refl _) _
  have hbx0:W0.heap[bx]?=some (.cells #[.map (some b)] tb (0,0)):=(hB0.block bx hbxl).trans hbx
  have hb0:W0.heap[b]?=some (.map es clk):=(hB0.block b hbl).trans hb
  obtain ⟨i0,hi,hz0,hz1,hz2⟩:=info_parts (P:=Tryz.prog) (e:=64) (z:=.agg #[.string ⟨#[]⟩,.int .i64 0,.bool false,.int .i64 0]) (size:=4) (bytes:=40) (by kernel_rfl)
  refine walk_seq (pt:=7) hro (by omega) (gf:=140) (lb := #[.pointer (some ⟨bx,0,none⟩)]) rfl hf (enters_of Tryz.func140 (by kernel_rfl) rfl)
    (kva_iter cl hcl h1 F (n - 1) hf hro (by omega) bx b es clk l W0 tb hbx0 hb0 hval hborn hnd) (kApI cl w) (kApI.own cl w _ (by omega)) ⟨⟨_,hv0,⟨rfl,.inl ⟨rfl,rfl⟩⟩⟩,hB0⟩
    (fun x=>.cells (cl x).toArray 64 (0,0)) (fun _=>rfl)
    (fun x p=>{ tmps := #[.slice none 0 0,.func (.func 140) #[] #[.pointer (some ⟨bx,0,none⟩)],.pointer (some ⟨w.heap.size,0,none⟩),undef,.slice none 0 0,.pointer (some ⟨p,0,none⟩),.func (.func 140) #[] #[.pointer (some ⟨bx,0,none⟩)],.agg (cl x).toArray,undef,undef,undef,undef,undef],defers:=[] }) ?_ ?_ ?_
  · intro lp x W K hK
    have hcs:(cl x).toArray.size=4:=by simp[hcl]
    have hone:∀ u∈(cl x).toArray.toList,u.oneCell'=true:=by simpa using h1 x
    generalize (cl x).toArray=c at hK hcs hone
    gi_wp2_with (first
      | (refine a7H _ rfl rfl _ _ 64 rfl 4 (by kernel_rfl) W.heap.size _ c 64 rfl (alloc_at rfl _) rfl rfl hcs hone ?_;rw[alloc_setRow2 rfl])
      | (rw[Oper.semAt_eq _ _ _ (fun c h=>by cases h)];go_simp;try go_bits))
    exact hK
  · intro lp pre x W p hI hlen hp hwp
    obtain ⟨⟨v,hv,hrow⟩,hbel⟩:=hI
    have hcv:W.cell? ⟨w.heap.size,0,none⟩=some v:=by simp[World.cell?,hv]
    have hfv:W.frozen? ⟨w.heap.size,0,none⟩=false:=by simp[World.frozen?,hv]
    have hBlt:w.heap.size<W.heap.size:=(Array.getElem?_eq_some_iff.1 hv).1
    have hcs:(cl x).toArray.size=4:=by simp[hcl]
    have hso:∀ w,(Go.sizeOf 64).run Tryz.prog w=.ok (cl x).toArray.size w:=fun w=>by rw[hcs];exact Tryz.sizeOf64 w
    have hcell:∀ j u,(cl x)[j]?=some u→(W.alloc (.cells (cl x).toArray 64)).cell? ((⟨W.heap.size,0,none⟩:Addr).add j)=some u:=by
      intro j u hj
      rw[a0R,cell_of_row _ _ _ _ _ _ (World.alloc_heap_new W _)]
      simpa using hj
    have hlcl:=hcl x
    have hfm:(pre++[x]).flatMap cl=pre.flatMap cl++cl x:=by simp
    have hone:=h1 x
    have hne:some w.heap.size≠v.ownBlock:=by
      rcases hrow.2 with ⟨rfl,_⟩ | ⟨g,cap,cur,rfl,_,hgb,_⟩
      · simp[Value.ownBlock]
      · intro e
        have e':w.heap.size=g:=by simpa[Value.ownBlock]using e
        subst e'
        rw[hv]at hgb
        cases hgb
    gi_wp2_with (first
      | (refine a9B _ rfl _ 64 rfl p (cl x).toArray 64 Tryz.isAgg64 hso rfl hp ?_)
      | (refine b3X _ rfl _ 53 64 rfl i0 Tryz.underlying53 hi _ hz0 4 hz1 rfl (by omega) (by omega) (cl x).toArray rfl hcs ?_)
      | (gi_at_builtin;refine wpListIn_append_own _ rfl _ _ 53 rfl w.heap.size 64 i0 _ 4 40 Tryz.underlying53 hi hz0 hz1 hz2 rfl (by decide) _ _ _ rfl (hrow.alloc _) ⟨W.heap.size,0,none⟩ 1 1 (cl x) rfl (by rw[hlcl]) hcell hone (by omega) (by omega) (by simp;omega) ?_;intro v' w3 hown' hg3 hnil3
         have hv3:w3.heap[w.heap.size]?=some (.cells #[v] 53 (0,0)):=(hg3.block w.heap.size (by simp;omega) hne).trans ((Below.heap_alloc _ _ _ hBlt).trans hv)
         have hcv3:w3.cell? ⟨w.heap.size,0,none⟩=some v:=by simp[World.cell?,hv3]
         have hfv3:w3.frozen? ⟨w.heap.size,0,none⟩=false:=by simp[World.frozen?,hv3]
         obtain ⟨g',cap',cur',rfl,hg'⟩:∃ g' cap' cur',v'=.slice (some ⟨g',0,none⟩) (pre.length+1) cap'∧w3.heap[g']?=some (.cells cur' 64 (0,0)):=by
           rcases hown'.2 with ⟨_,h0⟩ | ⟨g',cap',cur',e,_,q,_⟩
           · exact absurd h0 (by omega)
           · exact ⟨g',cap',cur',e,q⟩)
      | (rw[Oper.semAt_eq _ _ _ (fun c h=>by cases h)];go_simp;try go_bits))
    have hgs:=a7Q w3 w.heap.size (.slice (some ⟨g',0,none⟩) (pre.length+1) cap')
    have hne2:(Value.slice (some ⟨g',0,none⟩) (pre.length+1) cap').ownBlock≠some w.heap.size:=by
      intro e
      have e':g'=w.heap.size:=by simpa[Value.ownBlock]using e
      subst e'
      rw[hv3]at hg'
      cases hg'
    have hrc:∀ (j:Nat) (o:Obj),v.ownBlock=some j→(W.alloc (.cells (cl x).toArray 64)).heap[j]?=some o→o.isCells=true:=by
      intro j o hj ho
      rcases (hrow.alloc (.cells (cl x).toArray 64)).2 with ⟨rfl,_⟩ | ⟨g,cap,cur,rfl,_,hgb,_⟩
      · simp[Value.ownBlock]at hj
      · have:g=j:=by simpa[Value.ownBlock]using hj
        subst this;rw[hgb]at ho;cases ho;rfl
    have hb3:Below w.heap.size w w3:=(hbel.alloc hbel.size _).grown hg3 (by have:=hbel.size;simp;omega) (fun k e=>(hrow.lt k e).1)
    refine ⟨((KeepsOthers.alloc W _).trans (KeepsOthers.of_grownBy hg3 hrc)).trans (KeepsOthers.setCell _ _ _),⟨⟨_,heap_setCell_one _ hv3, ?_⟩,hb3.grown hgs hb3.size (fun k e=>by cases e;exact Nat.le_refl _)⟩⟩
    rw[hfm,List.length_append,List.length_singleton]
    exact hown'.kept hgs (.inr hne2)
  · intro D xs W hD hS hI hK
    obtain ⟨⟨v,hv,hrow⟩,hbel⟩:=hI
    have hcv:W.cell? ⟨w.heap.size,0,none⟩=some v:=by simp[World.cell?,hv]
    gi_wp2
    refine ⟨by simp,.inl ⟨_,_,rfl,run_takeDeferred hK, ?_⟩⟩
    have hgp:=grownBy_putObj' W D (.deferred none)
    exact ⟨_,results_tmp rfl _ _ _,v,xs,rfl,hS,row_own hrow hgp (fun r e=>by cases e;exact ⟨_,hK,rfl⟩),hbel.grown hgp hbel.size (fun k e=>by cases e;omega)⟩
end
section
open Go.RowKit
set_option maxRecDepth 100000
theorem sxLfd{A B:Prop}(h:B)(e:A=B:=by (simp (disch:=omega) only[*, ↓Ed,Eu, ↓reduceIte,reduceCtorEq,Nat.reduceAdd,Nat.reduceEqDiff,Nat.reduceLT,Nat.reduceLeDiff,Int.reduceToNat,Int.reduceEq,Int.reduceLT,Int.reduceLE,w64,List.length_append,List.length_map,Nat.mul_one,beq_self_eq_true,KeyC.cs,Int.reduceAdd];first|done|rfl)):A:=e▸h
theorem b2j(a b:a4Z):CP Tryz.prog 109 [.agg [.str a.1,.int .i64 a.2],.agg [.str b.1,.int .i64 b.2]] (.bool (a1H a b)):=by
 refine a9g _ _ (by simp) ?_
 unfold a1H
 cases h1:Op.bytesLess a.1 b.1<;>cases h2:decide (a.1=b.1)<;>cases h3:decide (a.2<b.2)
 all_goals (simp only[a6b];refine sxLfd ?_;try exact tt)
 all_goals repeat' ((first|exact tt|refine na fun b=>?_|refine nb fun b hb=>?_|refine iq ?_|(refine jq ?_ ?_<;>intro h h')|refine Two_intro ?_ ?_|exact wZ|fail)<;>try refine sxLfd ?_)
 all_goals rfl
def b3s(x y:Bool):Int:=if x=true then -1 else if y=true then 1 else 0
theorem b0b(x y:Bool):CP Tryz.prog 142 [.bool x,.bool y] (.int .i64 (b3s x y)):=by
 refine a8p _ _ (by simp) ?_
 cases x<;>cases y
 all_goals (simp only[a5q];refine sxLfd ?_;try exact tt)
 all_goals repeat' ((first|exact tt|refine na fun b=>?_|refine nb fun b hb=>?_|refine iq ?_|(refine jq ?_ ?_<;>intro h h')|refine Two_intro ?_ ?_|exact wZ|fail)<;>try refine sxLfd ?_)
 all_goals rfl
theorem b5o(a b:a4Z):CP Tryz.prog 141 [.agg [.str a.1,.int .i64 a.2],.agg [.str b.1,.int .i64 b.2]] (.int .i64 (cmpL a1H a b)):=by
 have h1:=b2j a b
 have h2:=b2j b a
 have h3:=b0b (a1H a b) (a1H b a)
 rw[show b3s (a1H a b) (a1H b a)=cmpL a1H a b from rfl]at h3
 refine a8n _ _ (by simp) ?_
 generalize cmpL a1H a b=n at *
 simp only[a5p];refine sxLfd ?_
 repeat' ((first|exact tt|refine CallO_pure (h1) ?_|refine CallO_pure (h2) ?_|refine CallO_pure (h3) ?_|refine CallW_intro (h1) ?_|refine CallW_intro (h2) ?_|refine CallW_intro (h3) ?_|refine na fun b=>?_|refine nb fun b hb=>?_|refine iq ?_|(refine jq ?_ ?_<;>intro h h')|refine Two_intro ?_ ?_|exact wZ|fail)<;>try refine sxLfd ?_)
theorem b5p(a b:KeyC):CP Tryz.prog 72 [.agg a.cs,.agg b.cs] (.int .i64 (cmpL a2U a b)):=by
 have h1:=b5o a.en b.en
 have h2:=b0b (!a.o&&b.o) (a.o && !b.o)
 have h3:=b0b (decide (a.q<b.q)) (decide (b.q<a.q))
 simp only[KeyC.en]at h1
 refine a8o _ _ (by simp) ?_
 have key:(cmpL a1H (a.e,a.ec) (b.e,b.ec)≠0∧cmpL a2U a b=cmpL a1H (a.e,a.ec) (b.e,b.ec))∨(cmpL a1H (a.e,a.ec) (b.e,b.ec)=0∧((b3s (!a.o&&b.o) (a.o && !b.o)≠0∧cmpL a2U a b=b3s (!a.o&&b.o) (a.o && !b.o))∨(b3s (!a.o&&b.o) (a.o && !b.o)=0∧cmpL a2U a b=b3s (decide (a.q<b.q)) (decide (b.q<a.q))))):=by
  by_cases he:a.en=b.en
  ·right
   have e1:a1H (a.e,a.ec) (b.e,b.ec)=false:=by rw[show ((a.e,a.ec):a4Z)=(b.e,b.ec) from he];exact endSTO.irr _
   have e2:a1H (b.e,b.ec) (a.e,a.ec)=false:=by rw[show ((a.e,a.ec):a4Z)=(b.e,b.ec) from he];exact endSTO.irr _
   refine ⟨by simp[cmpL,e1,e2], ?_⟩
   have hk:∀ x y:KeyC,x.en=y.en→a2U x y=((!x.o&&y.o)||(decide (x.o=y.o)&&decide (x.q<y.q))):=fun x y h=>by
    unfold a2U;rw[h,endSTO.irr];simp
   unfold cmpL
   rw[hk a b he,hk b a he.symm]
   cases ha:a.o<;>cases hb:b.o<;>simp[b3s]
  ·left
   have hk:∀ x y:KeyC,x.en≠y.en→a2U x y=a1H x.en y.en:=fun x y h=>by
    unfold a2U;rw[decide_eq_false h];simp
   refine ⟨fun h=>he ?_,by unfold cmpL;rw[hk a b he,hk b a (fun h=>he h.symm)];rfl⟩
   unfold cmpL at h
   refine endSTO.tot _ _ ?_ ?_
   ·cases g:a1H a.en b.en with
    | false=>rfl
    | true=>rw[show a1H (a.e,a.ec) (b.e,b.ec)=true from g]at h;simp at h
   ·cases g:a1H b.en a.en with
    | false=>rfl
    | true=>
     rw[show a1H (b.e,b.ec) (a.e,a.ec)=true from g]at h
     split at h<;>simp at h
 obtain ⟨ae,aec,ao,aq⟩:=a;obtain ⟨be,bec,bo,bq⟩:=b
 simp only at *
 generalize cmpL a1H (ae,aec) (be,bec)=n1 at *
 generalize cmpL a2U _ _=m at *
 generalize b3s (decide (aq<bq)) (decide (bq<aq))=n3 at *
 generalize hn2:b3s (!ao&&bo) (ao && !bo)=n2 at *
 rcases key with ⟨k1,hm⟩ | ⟨k1,⟨k2,hm⟩ | ⟨k2,hm⟩⟩<;>rw[hm]<;>clear hm
 ·have f1:a0a (decide (n1=0)=false):=decide_eq_false k1
  clear k1
  cases ao<;>cases bo<;>simp only[Bool.not_true,Bool.not_false,Bool.and_true,Bool.and_false,Bool.true_and,Bool.false_and]at h2
  all_goals (simp only[a2G];refine sxLfd ?_;try exact tt)
  all_goals repeat' ((first|exact tt|refine CallO_pure (h1) ?_|refine CallO_pure (h2) ?_|refine CallO_pure (h3) ?_|refine CallW_intro (h1) ?_|refine CallW_intro (h2) ?_|refine CallW_intro (h3) ?_|refine na fun b=>?_|refine nb fun b hb=>?_|refine iq ?_|(refine jq ?_ ?_<;>intro h h')|refine Two_intro ?_ ?_|exact wZ|fail)<;>try refine sxLfd ?_)
 ·subst k1
  have f2:a0a (decide (n2=0)=false):=decide_eq_false k2
  clear k2 hn2
  cases ao<;>cases bo<;>simp only[Bool.not_true,Bool.not_false,Bool.and_true,Bool.and_false,Bool.true_and,Bool.false_and]at h2
  all_goals (simp only[a2G];refine sxLfd ?_;try exact tt)
  all_goals repeat' ((first|exact tt|refine CallO_pure (h1) ?_|refine CallO_pure (h2) ?_|refine CallO_pure (h3) ?_|refine CallW_intro (h1) ?_|refine CallW_intro (h2) ?_|refine CallW_intro (h3) ?_|refine na fun b=>?_|refine nb fun b hb=>?_|refine iq ?_|(refine jq ?_ ?_<;>intro h h')|refine Two_intro ?_ ?_|exact wZ|fail)<;>try refine sxLfd ?_)
 ·subst k1
  rw[k2]at h2
  clear hn2 k2
  cases ao<;>cases bo<;>simp only[Bool.not_true,Bool.not_false,Bool.and_true,Bool.and_false,Bool.true_and,Bool.false_and]at h2
  all_goals (simp only[a2G];refine sxLfd ?_;try exact tt)
  all_goals repeat' ((first|exact tt|refine CallO_pure (h1) ?_|refine CallO_pure (h2) ?_|refine CallO_pure (h3) ?_|refine CallW_intro (h1) ?_|refine CallW_intro (h2) ?_|refine CallW_intro (h3) ?_|refine na fun b=>?_|refine nb fun b hb=>?_|refine iq ?_|(refine jq ?_ ?_<;>intro h h')|refine Two_intro ?_ ?_|exact wZ|fail)<;>try refine sxLfd ?_)
end
section
open Go.RowKit Go.ChangeMaps Go.Sort Go.Shelf
set_option maxRecDepth 100000
abbrev b4n(x:KeyC):List AV:=[.str x.e,.int .i64 x.ec,.bool x.o,.int .i64 x.q]
theorem a6A(x:KeyC):a5A (b4n x)=true:=rfl
abbrev b1S(x:KeyC):List Value:=a0X (b4n x)
theorem a4L(x:KeyC):(b1S x).length=4:=rfl
theorem b8K(x y:KeyC)(W:World)(hG:Glob W fun _ _=>False):Calls Tryz.prog 72 #[.agg (b1S x).toArray,.agg (b1S y).toArray] W fun e w'=>e=.returned (.int .i64 (cmpL a2U x y))∧∃ q os',w'=grow (W.drewN q) os':=by
 refine CP_grow (b5p x y) hG (vs:=[_,_]) rfl (fun i u c hu hc=>?_) (fun W' U' u h=>by cases h;rfl)
 match i with
 | 0=>simp at hu hc;subst hu;subst hc;exact flat_VR (a6A x) _ _
 | 1=>simp at hu hc;subst hu;subst hc;exact flat_VR (a6A y) _ _
 | i+2=>simp at hu
theorem b1T(blk off size:Nat)(w:World){U:Nat→Nat→Prop}(hG:Glob w U)(hb:∀ x∈a2i,x.1≠blk):CmpLays Tryz.prog 72 #[] b1S 4 (cmpL a2U) blk off size w:=fun _ _ _ _ x y=>b8K x y _ (glob_sort hG hb)
set_option maxHeartbeats 4000000 in
theorem b3j(bx b:Nat)(es:Array MapEntry)(clk:Nat)(l:List KeyC)(w:World){U:Nat→Nat→Prop}(hG:Glob w U)(tb:TypeId)(hbx:w.heap[bx]?=some (.cells #[.map (some b)] tb (0,0)))(hb:w.heap[b]?=some (.map es clk))
  (hval:es.toList.map (·.key)=l.map fun x=>.agg (b1S x).toArray) (hborn:∀ x∈es.toList,x.born<clk) (hnd:(es.toList.map (·.born)).Nodup) (hl:l.length≤1000000):
  Calls Tryz.prog 70 #[.func (.func 140) #[] #[.pointer (some ⟨bx,0,none⟩)],.func (.func 72) #[] #[]] w fun e W'=>
   ∃ (v:Value) (ds:List KeyC),e=.returned v∧ds.Perm l∧(∀ i j,i<j→j<ds.length→a2U (ds.getD j default) (ds.getD i default)=false)∧W'.ownsRow w.heap.size 64 4 v ds.length (ds.flatMap b1S)∧Below w.heap.size w W':=by
 have hcol:Calls Tryz.prog 138 #[.func (.func 140) #[] #[.pointer (some ⟨bx,0,none⟩)]] w fun e W'=>
   ∃ (v:Value) (xs:List KeyC),e=.returned v∧xs.Perm l∧W'.ownsRow w.heap.size 64 4 v xs.length (xs.flatMap b1S)∧Below w.heap.size w W':=by
  have ha:=callsIn_wide.1 (kva_app b1S a4L (fun x=>plainV_one (a6A x)) Fence.wide 10 trivial trivial rfl (by omega) bx b es clk l w tb hbx hb hval hborn hnd hl)
  go_enter Tryz.func138,Tryz.ntmps138
  go_wp2_with (go_at_call 193;refine ha.mono ?_;rintro e W' ⟨v,xs,rfl,hp,hrow,hbl⟩)
  go_ret
  exact ⟨v,xs,rfl,hp,hrow,hbl⟩
 go_enter Tryz.func70,Tryz.ntmps70
 go_wp2_with (go_at_call 138;refine hcol.mono ?_;rintro e W' ⟨v,xs,rfl,hp,hrow,hbl⟩)
 rcases hrow.2 with ⟨rfl,hz⟩ | ⟨g,cap,cur,rfl,hbase,hgb,r1,r2,r3,r4⟩
 ·have hss:xs=[]:=List.eq_nil_of_length_eq_zero hz
  subst hss
  refine (AnyF.slices_SortFunc_none Tryz.sort139 none 0 _ W').mono ?_
  rintro e W2 ⟨rfl,rfl⟩
  go_wp2
  go_ret
  exact ⟨.slice none 0 0,[],rfl,hp,by simp,by simpa using hrow,hbl⟩
 ·have hH:=holdsK_of_block a4L (by omega) hgb r4
  have hgl:g<W'.heap.size:=(Array.getElem?_eq_some_iff.1 hgb).1
  have hsz:xs.toArray.size<4611686018427387904:=by
   have:=hp.length_eq
   simp;omega
  have hG':=glob_below hG hbl
  have hnt:∀ x∈a2i,x.1≠g:=fun x hx e=>by have:=hG.lt hx;omega
  have cS:=AnyQ.slices_SortFunc Tryz.sort139 4 Tryz.isAgg64 Tryz.sizeOf64 b1S a4L (fun x=>plainV_one (a6A x)) (cmpL a2U) keySTO.swo 72 #[] g 0 cap xs.toArray W' (enters_of Tryz.func72 (by kernel_rfl) rfl) (b1T _ _ _ _ hG' hnt) hH hgl hsz
  refine (show Calls Tryz.prog 139 #[.slice (some ⟨g,0,none⟩) xs.length cap,_] W' _ from cS).mono ?_
  rintro e W2 ⟨rfl,d',nn,os,hperm,hsorted,rfl⟩
  have hpd:d'.toList.Perm xs:=perm_of hperm
  have hown:=ownsRow_sortK (n:=nn) (os:=os) a4L (by omega) (hpd.length_eq) hbase hgb r1 r2 r3
  have hgr:=grown_sortK (cl:=b1S) (k:=4) (w:=W') (g:=g) (n:=nn) (os:=os) d'
  simp only[Array.toArray_toList]at hown
  go_wp2
  go_ret
  refine ⟨_,d'.toList,rfl,hpd.trans hp,fun i j hij hj=>?_, ?_,hbl.grown hgr hbl.size (fun k e=>by cases e;exact hbase)⟩
  ·have hj':j<xs.toArray.size:=by rw[List.size_toArray, ← hpd.length_eq];exact hj
   have h5:=hsorted i j (Nat.zero_le _) hij hj'
   rw[lt_cmpL]at h5
   have hds:d'.size=d'.toList.length:=by simp
   have e1:d'[i]! = d'.toList.getD i default:=by simp[List.getD,getElem!_pos,show i<d'.size by omega]
   have e2:d'[j]! = d'.toList.getD j default:=by simp[List.getD,getElem!_pos,show j<d'.size by omega]
   rw[← e1, ← e2];exact h5
  ·rw[hpd.length_eq];exact hown
theorem b3k(m:Nat):CT Tryz.prog 71 [.mapv m] (lk []) (fun r o=>∃ b,r=.clo 140 [.ptr b 0]∧o=lk [(b,[.mapv m])]):=by
 refine CT_lays (R:=fun b=>.clo _ [.ptr b 0]) fun W U vs hl hv=>?_
 obtain rfl:vs=[.map (some m)]:=by
  match vs,hl with
  | [v],_=>rw[(hv 0 v _ rfl rfl).map_inv]
 go_enter Tryz.func71,Tryz.ntmps71
 go_wp2
 go_ret
 refine ⟨_,_,_,rfl,rfl,rfl,fun u hu=>(by cases hu),fun j u hj=>?_,fun W2 U2 hc=>?_,by simp⟩
 ·match j with
  | 0=>
   simp at hj;subst hj
   exact ⟨rfl,fun x hx=>by simp at hx;subst hx;exact ⟨.mapv m,by simp⟩⟩
  | j+1=>simp at hj
 ·refine .clo _ [_] [_] rfl fun i v c h1 h2=>?_
  match i with
  | 0=>simp at h1 h2;subst h1;subst h2;exact .ptr _ _ hc
  | i+1=>simp at h1
theorem b1f(bx m:Nat)(h1:¬ bx=m)(l:List KeyC)(vals:List AV)(ha:l.Nodup)(hl:l.length≤100000):
  CT Tryz.prog 70 [.clo 140 [.ptr bx 0],.fn 72] (lk [(bx,[.mapv m]),(m,[.mp (l.map fun x=>.agg (b4n x)) vals (List.range l.length) l.length])])
   (fun r o=>r=.sl (some 64) 4 ((srtL a2U l).map b4n)∧o=lk [(bx,[.mapv m]),(m,[.mp (l.map fun x=>.agg (b4n x)) vals (List.range l.length) l.length])]):=by
 refine CT_reads fun W U vs hG hlen hv ho=>?_
 obtain rfl:vs=[.func (.func 140) #[] #[.pointer (some ⟨bx,0,none⟩)],.func (.func 72) #[] #[]]:=by
  match vs,hlen with
  | [v,u],_=>rw[(hv 0 v _ rfl rfl).clo1_inv,(hv 1 u _ rfl rfl).fn_inv]
 obtain ⟨us,ty,q1,q2,q3⟩:ObC W U bx [.mapv m]:=ho bx _ (lk_hd _ _ _)
 obtain ⟨es,g1,g2,g3,g4,g5,g6,g7⟩:ObR W U m [.mp (l.map fun x=>.agg (b4n x)) vals (List.range l.length) l.length]:=ho m _ (lk_tl (fun e=>h1 e.symm) (lk_hd _ _ _))
 have hus:us = #[.map (some m)]:=by
  have h0:=(q3 0 _ rfl).1.map_inv
  match us,q2 with
  | ⟨[a]⟩,_=>simp at h0;subst h0;rfl
 subst hus
 have hsz:es.size=l.length:=by rw[g2];simp
 have hborn:∀ (i:Nat) (e:MapEntry),es[i]?=some e→e.born=i:=by
  intro i e he
  have hi:i<es.size:=(Array.getElem?_eq_some_iff.1 he).1
  exact (g7 i e he).2.2 i (by rw[List.getElem?_range (by omega)])
 have hval:es.toList.map (·.key)=l.map fun x=>.agg (b1S x).toArray:=by
  apply List.ext_getElem?
  intro i
  by_cases hi:i<es.size
  ·have hil:i<l.length:=by omega
   have he:es[i]?=some es[i]:=Array.getElem?_eq_getElem hi
   have hx:=(g7 i _ he).1 (.agg (b4n l[i])) (by simp[List.getElem?_eq_getElem hil])
   simp only[List.getElem?_map,Array.getElem?_toList,he,Option.map_some,List.getElem?_eq_getElem hil]
   rw[flat_inv (a6A _) hx]
  ·rw[List.getElem?_eq_none (by simp;omega),List.getElem?_eq_none (by simp;omega)]
 have hb1:∀ x∈es.toList,x.born<l.length:=by
  intro x hx
  obtain ⟨i,hi,rfl⟩:=List.getElem_of_mem hx
  simp at hi
  have:=hborn i es[i] (Array.getElem?_eq_getElem hi)
  simp[this];omega
 have hnd:(es.toList.map (·.born)).Nodup:=by
  have:es.toList.map (·.born)=List.range es.size:=by
   apply List.ext_getElem
   ·simp
   ·intro i h2 h3
    simp at h2
    simp[hborn i es[i] (Array.getElem?_eq_getElem h2)]
  rw[this];exact List.nodup_range
 refine (b3j bx m es _ l W hG _ q1 g1 hval hb1 hnd (by omega)).mono ?_
 rintro e W' ⟨v,ds,rfl,hp,hs,hrow,hbl⟩
 have hDS:srtL a2U l=ds:=rise_unique keySTO (srtL_rise keySTO ha) (rise_of keySTO hs (hp.nodup_iff.2 ha)) ((srtL_perm _ _).trans hp.symm)
 rw[hDS]
 obtain ⟨U',r1,r2,r3⟩:=row_VR (U:=U) (e:=64) (k:=4) (els:=ds.map b4n) (by omega) hbl hrow (by simp) (fun l hl=>by
   simp only[List.mem_map]at hl
   obtain ⟨a,_,rfl⟩:=hl
   rfl) (fun u hu=>by
   obtain ⟨x,_,hx⟩:=List.mem_flatMap.1 hu
   exact plainV_one (a6A x) u hx) (fun i j l' c u hl' hc hu W2 U2=>by
   simp only[List.getElem?_map,Option.map_eq_some_iff]at hl'
   obtain ⟨x,hx,rfl⟩:=hl'
   have hj:j<4:=(List.getElem?_eq_some_iff.1 hc).1
   have hi:i<ds.length:=(List.getElem?_eq_some_iff.1 hx).1
   rw[a6n a4L ds i j hi hj,hx]at hu
   exact (a1N _ (a6A x) j c u hc hu).1 W2 U2)
 exact ⟨v,U',rfl,r1,fun e sz els he=>by cases he;exact r2,r3⟩
end
section
open Go.RowKit Go.ChangeMaps Go.Sort Go.Shelf
structure eApI {α:Type} (cl:α→List Value) (w:World) (xs:List α) (W:World):Prop where
 box:∃ v,W.heap[w.heap.size]?=some (.cells #[v] 106 (0,0))∧W.ownsRow w.heap.size 56 2 v xs.length (xs.flatMap cl)
 below:Below w.heap.size w W
theorem eApI.own{α:Type}(cl:α→List Value)(w:World)(B:Nat)(hB:w.heap.size≤B):OwnFrom B (eApI cl w):=by
 intro xs W W' row h hg hr
 obtain ⟨v,hv,hrow⟩:=h.box
 refine ⟨⟨v,(grownBy_keeps_cells hg (fun r e=>(hr r e).2) hv rfl).trans hv,row_own hrow hg fun r e=>(hr r e).2⟩,h.below.grown hg h.below.size fun k e=>Nat.le_trans hB (hr k e).1⟩
end
section
open Go.RowKit Go.ChangeMaps Go.Sort Go.Shelf
set_option maxRecDepth 100000
end
end Go.Proofs.YtgdhinnepnlihaaGreatDoor
