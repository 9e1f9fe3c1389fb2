import Derived.Test.YtfgihnhoocnmdaaGreatDoorJ19
import Derived.Lib.BitFns
namespace Go.Proofs.YtfgihnhoocnmdaaGreatDoor
set_option linter.all false
set_option maxHeartbeats 64000000
set_option maxRecDepth 100000
open Go.RowKit
section
open Go.RowKit Go.Lib
def vKey(k:Int)(p:List UInt8)(c q:Int):Prop:=Ba p c=true∧((1≤k∧k≤3∧1≤q∧q≤1099511627776)∨(4≤k∧k≤7∧q=0))
theorem vKey.q{k:Int}{p:List UInt8}{c q:Int}(h:vKey k p c q):OfQ (Ah k p c q) k p c q:=by
 rcases @ofP_q k p c q with e|e
 ·exfalso
  obtain ⟨hm,hk⟩:=h
  unfold Ah at e
  rw[Ad (by rintro (h1|h1);exact a1D (by omega) h1;exact h1 hm)]at e
  rcases hk with hk|hk
  ·rw[Af (by omega),Af (by omega)]at e;simp[Iu]at e
  ·rw[Ad (by omega),Af hk.2.2]at e;simp[Iu]at e
 ·exact e
theorem vKey.ne{k k':Int}{p p':List UInt8}{c c' q q':Int}(h:vKey k p c q)(h':vKey k' p' c' q')(hn:¬ (k=k'∧p=p'∧c=c'∧q=q')):Ah k p c q≠Ah k' p' c' q':=by
 intro e
 have a:=h.q
 rw[e]at a
 exact hn (a.inj h'.q)
theorem vKey.may{k:Int}{p:List UInt8}{c q:Int}(h:vKey k p c q){v:List UInt8}(hv:1≤v.length∧v.length≤64):B3 (Ah k p c q) v=true:=by
 have h1:=List.length_pos_iff.2 h.q.ne
 have h2:=Ky k p c q
 unfold B3
 rw[AO (by omega)]
theorem MH{k:Int}(hk:4≤k∧k≤7){p:List UInt8}{c:Int}(h:Ba p c=true):vKey k p c 0:=⟨h,.inr ⟨hk.1,hk.2,rfl⟩⟩
theorem MI{k:Int}(hk:1≤k∧k≤3){p:List UInt8}{c q:Int}(h:Ba p c=true)(hq:1≤q∧q≤1099511627776):vKey k p c q:=⟨h,.inl ⟨hk.1,hk.2,hq.1,hq.2⟩⟩
theorem Gh{p:PktC}(h:BO p=true):Ba p.s p.sc=true∧Ba p.d p.dc=true∧(1≤p.q∧p.q≤1099511627776)∧(0≤p.th∧p.th≤1099511627776)∧(0≤p.ta∧p.ta≤1099511627776)∧p.x.length≤200:=by
 simp only[BO,AP,Bs]at h
 exact ⟨h.1.1.1.1.1,h.1.1.1.1.2,h.1.2,h.1.1.1.2,h.1.1.2,h.2⟩
theorem a2U{v:List UInt8}(h:(C1 v).2=0):(C1 v).1.may=true:=by
 by_cases h1:rend v (dst v).2=0
 ·cases g:(Es.of v).may with
  | true=>rw[WR h1 g];exact g
  | false=>rw[WQ h1 g]at h;cases h
 ·rw[WP h1]at h;exact absurd h h1
theorem Sb{L:List PrP}{p:List UInt8}{c:Int}(h:(Av L p c).2=true):(Av L p c).1.may=true:=by
 unfold Av at h ⊢
 simp only[AP,Bs]at h
 exact a2U h.2
theorem b4n{L:List PrP}(hr:DT L){p:List UInt8}{c:Int}{x:Es}(hx:x.may=true):Av (A7 L (Ah 7 p c 0) x.enc) p c=(x,true):=by
 have h:=a9l hr (Ah 7 p c 0) x.enc
 unfold Av
 rw[h.1,h.2,a2V hx];simp
theorem XE{L:List PrP}(hr:DT L){p:List UInt8}{c:Int}{k v:List UInt8}(hk:Ah 7 p c 0≠k):Av (A7 L k v) p c=Av L p c:=by
 have h:=a3Q hr (v:=v) hk
 unfold Av
 rw[h.1,h.2]
theorem b4m{L:List PrP}(hr:DT L){p:List UInt8}{c:Int}{k:List UInt8}(hk:Ah 7 p c 0≠k):Av (DF L k) p c=Av L p c:=by
 have h:=b4o hr hk
 unfold Av
 rw[h.1,h.2]
theorem a9q{m:MsgC}(h:Eq m)(h1:m.k≠1):Ba m.p.s m.p.sc=true∧Ba m.p.d m.p.dc=true∧(1≤m.p.q∧m.p.q≤1099511627776)∧(0≤m.nx∧m.nx≤1099511627777):=by
 have h2:=h.2.2.2.2 h1
 have h3:=Gh h2.1
 exact ⟨h3.1,h3.2.1,h3.2.2.1,h2.2.1⟩
theorem TB{L:List PrP}{K:List HdC}{ht tm:Int}{m:MsgC}(h:(H7 L K ht tm m).2.1=0):
  (Av L m.p.d m.p.dc).2=true∧((Av L m.p.d m.p.dc).1.p=m.p.s∧(Av L m.p.d m.p.dc).1.c=m.p.sc)∧(Av L m.p.d m.p.dc).1.cl=false∧H5 m.p ht tm=false∧LE L m.p (Av L m.p.d m.p.dc).1.o=0∧
  H7 L K ht tm m=([EN 2 m.p, { EN 3 m.p with a:=E2 m.p.x }],0,Me L m.p (Av L m.p.d m.p.dc).1.o):=by
 unfold H7 at h ⊢
 split at h
 ·cases h
 rename_i h1
 simp only[not_or,Decidable.not_not,Bool.not_eq_false]at h1
 split at h
 ·cases h
 rename_i h2
 split at h
 ·cases h
 rename_i h3
 split at h
 ·rename_i h4;exact absurd h h4
 rename_i h4
 simp only[ne_eq,Decidable.not_not]at h4
 split at h
 ·cases h
 rename_i x hx
 split at h
 ·cases h
 rename_i h5
 refine ⟨h1.1,h1.2,by simpa using h2,by simpa using h3,h4, ?_⟩
 rw[Ad (by simp[h1.1,h1.2]),Ad h2,Ad h3,Ad (by simp[h4])]
 simp only[hx,Ad h5]
theorem QV{L:List PrP}{K:List HdC}{m:MsgC}(h:(HO L K m).2.1=0):DX L m.p=0∧HO L K m=([EN 4 m.p],0,K6 L m.p (Av L m.p.s m.p.sc).1.o):=by
 unfold HO at h ⊢
 split at h
 ·rename_i h1;exact absurd h h1
 rename_i h1
 split at h
 ·cases h
 rename_i h2
 split at h
 ·cases h
 rename_i x hx
 split at h
 ·cases h
 rename_i h3
 refine ⟨by simpa using h1, ?_⟩
 rw[Ad h1,Ad h2]
 simp only[hx,Ad h3]
theorem PM{L:List PrP}{K:List HdC}{m:MsgC}(h:(Gn L K m).2.1=0):DX L m.p=0∧IL m (Av L m.p.s m.p.sc).1.o=0∧
  (m.k=4→(Av L m.p.s m.p.sc).1.o=true→(Av L m.p.s m.p.sc).1.cl=false→m.nx=m.p.q)∧Gn L K m=(K8 m (Av L m.p.s m.p.sc).1,0,Ha L m (Av L m.p.s m.p.sc).1):=by
 unfold Gn at h ⊢
 split at h
 ·rename_i h1;exact absurd h h1
 rename_i h1
 split at h
 ·cases h
 rename_i x hx
 split at h
 ·cases h
 rename_i h2
 split at h
 ·cases h
 rename_i h3
 split at h
 ·rename_i h4;exact absurd h h4
 rename_i h4
 split at h
 ·cases h
 rename_i h5
 split at h
 ·cases h
 rename_i h6
 refine ⟨by simpa using h1,by simpa using h4,fun a b c=>?_, ?_⟩
 ·by_cases e:m.nx=m.p.q
  ·exact e
  ·exact absurd ⟨a,b,.inr ⟨c,e⟩⟩ h5
 ·rw[Ad h1]
  simp only[hx,Ad h2,Ad h3,Ad h4,Ad h5,Ad h6]
theorem FT{L:List PrP}{p:PktC}(h:DX L p=0):(Av L p.s p.sc).2=true∧((Av L p.s p.sc).1.p=p.d∧(Av L p.s p.sc).1.c=p.dc)∧A9 L (Ah 1 p.s p.sc p.q)=true∧C2 L (Ah 1 p.s p.sc p.q)=Cg p:=by
 unfold DX at h
 split at h
 ·cases h
 rename_i h1
 split at h
 ·cases h
 rename_i h2
 simp only[not_or,Decidable.not_not,Bool.not_eq_false]at h1 h2
 exact ⟨h1.1,h1.2,h2.1,h2.2⟩
theorem RP{L:List PrP}{K:List HdC}{ht tm:Int}{m:MsgC}(hm:Eq m)(h:m.k=2):EJ L K ht tm m=H7 L K ht tm m:=by
 unfold EJ;rw[Ad (not_not_intro hm),Af h]
theorem RQ{L:List PrP}{K:List HdC}{ht tm:Int}{m:MsgC}(hm:Eq m)(h:m.k=3):EJ L K ht tm m=HO L K m:=by
 unfold EJ;rw[Ad (not_not_intro hm),Ad (by omega),Af h]
theorem RS{L:List PrP}{K:List HdC}{ht tm:Int}{m:MsgC}(hm:Eq m)(h2:¬ m.k=2)(h3:¬ m.k=3):EJ L K ht tm m=Gn L K m:=by
 unfold EJ;rw[Ad (not_not_intro hm),Ad h2,Ad h3]
theorem RU{L:List PrP}{K:List HdC}{ht tm:Int}{m:MsgC}(he:(EJ L K ht tm m).2.1=0):Eq m:=by
 unfold EJ at he
 split at he
 ·cases he
 ·rename_i hm;exact Classical.not_not.1 hm
theorem b3b{L:List PrP}{K:List HdC}{ht tm:Int}{m:MsgC}(h:(EJ L K ht tm m).2.1≠0):(EJ L K ht tm m).1=[]∧(EJ L K ht tm m).2.2=L:=by
 revert h
 unfold EJ
 split
 ·exact fun _=>⟨rfl,rfl⟩
 split
 ·unfold H7
  repeat' split
  all_goals intro h;first|exact ⟨rfl,rfl⟩|exact absurd rfl h
 split
 ·unfold HO
  repeat' split
  all_goals intro h;first|exact ⟨rfl,rfl⟩|exact absurd rfl h
 ·unfold Gn
  repeat' split
  all_goals intro h;first|exact ⟨rfl,rfl⟩|exact absurd rfl h
theorem a2c(d:List UInt8):1≤(E2 d).length∧(E2 d).length≤32:=by
 unfold E2
 split
 ·simp
 ·split
  ·simp
  ·simp;omega
theorem Tv(n:Int)(h:0≤n∧n≤72057594037927935):1≤(pn n).length∧(pn n).length≤64:=⟨PX n h,by have:=C5 n;omega⟩
theorem Qe(s:List UInt8):1≤(BB s).length∧(BB s).length≤64:=by rw[FB];omega
structure StB (L:List PrP) (n:Nat):Prop where
 I:StI L
 b:L.length≤n
theorem StB.set{L:List PrP}{n:Nat}(h:StB L n)(hn:n≤990){k v:List UInt8}(hm:B3 k v=true):StB (A7 L k v) (n+1):=
 ⟨b2b h.I hm (by have:=h.b;omega),by have:=NZ L k v;have:=h.b;omega⟩
theorem StB.drop{L:List PrP}{n:Nat}(h:StB L n)(k:List UInt8):StB (DF L k) n:=⟨a3l h.I k,En (Lx L k).length_le h.b⟩
theorem StB.mono{L:List PrP}{n m:Nat}(h:StB L n)(hm:n≤m):StB L m:=⟨h.I,En h.b hm⟩
theorem X3{m:MsgC}{o:Bool}(h:IL m o=0):(o=true→¬ m.nx=0∧m.nx≤m.p.q):=by
 intro ho
 subst ho
 unfold IL at h
 split at h
 ·cases h
 rename_i h1
 split at h
 ·cases h
 rename_i h2
 refine ⟨fun e=>h1 (by simp[e]), ?_⟩
 by_cases g:m.nx≤m.p.q
 ·exact g
 ·exact absurd ⟨rfl,by omega⟩ h2
theorem a0s{s:Es}{n:Int}(hs:s.may=true)(ho:s.o=true)(hn:1≤n∧n≤1099511627777):(I0 s n).may=true:=by
 simp only[Es.may,I0,AP]at hs ⊢
 refine ⟨hs.1, ?_⟩
 rw[ho]
 simp[hn.1,hn.2]
theorem b2W{L:List PrP}{n:Nat}(hB:StB L n)(hn:n≤980){K:List HdC}{ht tm:Int}{m:MsgC}(h1:m.k≠1):StB (EJ L K ht tm m).2.2 (n+2):=by
 by_cases he:(EJ L K ht tm m).2.1=0
 rotate_left
 ·rw[(b3b he).2];exact hB.mono (by omega)
 unfold EJ at he ⊢
 split at he
 ·cases he
 rename_i hm
 rw[Ad hm]
 have hm:=Classical.not_not.1 hm
 obtain ⟨v1,v2,v3,v4⟩:=a9q hm h1
 split at he
 ·rename_i h2
  rw[Af h2]
  obtain ⟨_,_,_,_,_,e⟩:=TB he
  rw[e]
  show StB (Me L m.p _) _
  unfold Me
  refine StB.set ?_ (by omega) ((MI (by omega) v2 v3).may (Qe _))
  split
  ·exact hB.set (by omega) ((MH (by omega) v2).may (Tv _ (by omega)))
  ·exact hB.set (by omega) ((MI (by omega) v2 v3).may (by simp))
 rename_i h2
 rw[Ad h2]
 split at he
 ·rename_i h3
  rw[Af h3]
  obtain ⟨_,e⟩:=QV he
  rw[e]
  show StB (K6 L m.p _) _
  unfold K6
  split
  ·exact ((hB.drop _).set (by omega) ((MH (by omega) v1).may (Tv _ (by omega)))).mono (by omega)
  ·exact (hB.drop _).mono (by omega)
 ·rename_i h3
  rw[Ad h3]
  obtain ⟨g1,g2,g3,e⟩:=PM he
  rw[e]
  show StB (Ha L m _) _
  unfold Ha
  split
  ·rename_i hs
   have hg:=Sb (FT g1).1
   have hl:=X3 g2 hs.1
   have hsm:=a0s hg hs.1 (n:=m.nx) (by omega)
   exact ((hB.drop _).set (by omega) ((MH (by omega) v1).may ⟨R1 hsm,R0 hsm⟩)).mono (by omega)
  ·exact (hB.drop _).mono (by omega)
def Shut(L:List PrP)(p:List UInt8)(c:Int)(s:Es):Prop:=Av L p c=(s,true)∧s.cl=true∧Ba p c=true
theorem a2a{L:List PrP}(hr:DT L){K:List HdC}{ht tm:Int}{m:MsgC}(h1:m.k≠1){p:List UInt8}{c:Int}{s:Es}(hs:Shut L p c s):
  Shut (EJ L K ht tm m).2.2 p c s∧(∀ e∈(EJ L K ht tm m).1,e.k=6→¬ (e.e=p∧e.ec=c))∧(m.k=2→m.p.d=p→m.p.dc=c→(EJ L K ht tm m).2.1≠0):=by
 by_cases he:(EJ L K ht tm m).2.1=0
 rotate_left
 ·rw[(b3b he).1,(b3b he).2]
  exact ⟨hs,by simp,fun _ _ _=>he⟩
 obtain ⟨hg,hcl,hp⟩:=hs
 unfold EJ at he ⊢
 split at he
 ·cases he
 rename_i hm
 have hm:=Classical.not_not.1 hm
 obtain ⟨v1,v2,v3,v4⟩:=a9q hm h1
 rw[Ad (not_not_intro hm)]
 have k7:vKey 7 p c 0:=MH (by omega) hp
 have k2:vKey 2 m.p.d m.p.dc m.p.q:=MI (by omega) v2 v3
 have k3:vKey 3 m.p.d m.p.dc m.p.q:=MI (by omega) v2 v3
 have k5:vKey 5 m.p.d m.p.dc 0:=MH (by omega) v2
 have k1:vKey 1 m.p.s m.p.sc m.p.q:=MI (by omega) v1 v3
 have k6:vKey 6 m.p.s m.p.sc 0:=MH (by omega) v1
 have k7':vKey 7 m.p.s m.p.sc 0:=MH (by omega) v1
 have hd:=a3m hr (Ah 1 m.p.s m.p.sc m.p.q)
 have hgd:Av (DF L (Ah 1 m.p.s m.p.sc m.p.q)) p c=(s,true):=by rw[b4m hr (k7.ne k1 (by omega))];exact hg
 split at he
 ·rename_i h2
  rw[Af h2]
  obtain ⟨g1,g2,g3,g4,g5,e⟩:=TB he
  rw[e]
  refine ⟨⟨?_,hcl,hp⟩, ?_,fun _ e1 e2=>?_⟩
  ·show Av (Me L m.p _) p c=_
   unfold Me
   have hr1:DT (if (Av L m.p.d m.p.dc).1.o=true then A7 L (Ah 5 m.p.d m.p.dc 0) (pn (m.p.q+1)) else A7 L (Ah 2 m.p.d m.p.dc m.p.q) [1]):=by
    split<;>exact Qc hr _ _
   rw[XE hr1 (k7.ne k3 (by omega))]
   split
   ·rw[XE hr (k7.ne k5 (by omega))];exact hg
   ·rw[XE hr (k7.ne k2 (by omega))];exact hg
  ·intro e he h6
   simp only[AZ,B8,Cb]at he
   rcases he with rfl|rfl<;>simp[EN]at h6
  ·rw[e1,e2,hg]at g3
   simp only at g3
   rw[hcl]at g3;cases g3
 rename_i h2
 rw[Ad h2]
 split at he
 ·rename_i h3
  rw[Af h3]
  obtain ⟨_,e⟩:=QV he
  rw[e]
  refine ⟨⟨?_,hcl,hp⟩, ?_,fun e=>absurd e h2⟩
  ·show Av (K6 L m.p _) p c=_
   unfold K6
   split
   ·rw[XE hd (k7.ne k6 (by omega))];exact hgd
   ·exact hgd
  ·intro e he h6
   simp only[AZ,B8,Cb]at he
   subst he
   simp[EN]at h6
 ·rename_i h3
  rw[Ad h3]
  obtain ⟨g,gl,g3,e⟩:=PM he
  rw[e]
  by_cases hq:m.p.s=p∧m.p.sc=c
  ·obtain ⟨rfl,rfl⟩:=hq
   have hb:¬ ((Av L m.p.s m.p.sc).1.o=true∧(Av L m.p.s m.p.sc).1.cl=false):=by
    rw[hg];simp[hcl]
   refine ⟨⟨?_,hcl,hp⟩, ?_,fun e=>absurd e h2⟩
   ·show Av (Ha L m _) _ _=_
    unfold Ha
    rw[Ad hb];exact hgd
   ·intro e he h6
    simp only[K8,Ad hb,AZ,B8,Cb]at he
    subst he
    simp[EN]at h6
  ·refine ⟨⟨?_,hcl,hp⟩, ?_,fun e=>absurd e h2⟩
   ·show Av (Ha L m _) _ _=_
    unfold Ha
    split
    ·rw[XE hd (k7.ne k7' (by rintro ⟨_,a,b,_⟩;exact hq ⟨a.symm,b.symm⟩))];exact hgd
    ·exact hgd
   ·intro e he h6
    simp only[K8,AZ]at he
    rcases he with rfl|he
    ·simp[EN]at h6
    ·split at he
     ·simp only[AZ,B8,Cb]at he
      subst he
      exact hq
     ·cases he
theorem Vh{L:List PrP}(hr:DT L){K:List HdC}{ht tm:Int}{m:MsgC}(h1:m.k≠1)(he:(EJ L K ht tm m).2.1=0)(h2:(EJ L K ht tm m).1.length=2)(h6:((EJ L K ht tm m).1.getD 1 default).k=6):
  ∃ s,((EJ L K ht tm m).1.getD 1 default).e=m.p.s∧((EJ L K ht tm m).1.getD 1 default).ec=m.p.sc∧Shut (EJ L K ht tm m).2.2 m.p.s m.p.sc s∧s.o=true∧1≤s.st∧s.st≤m.p.q:=by
 have hm:=RU he
 obtain ⟨v1,v2,v3,v4⟩:=a9q hm h1
 by_cases g2:m.k=2
 ·rw[RP hm g2]at he h6
  obtain ⟨_,_,_,_,_,e⟩:=TB he
  rw[e]at h6
  simp[EN,List.getD]at h6
 by_cases g3:m.k=3
 ·rw[RQ hm g3]at he h2
  obtain ⟨_,e⟩:=QV he
  rw[e]at h2
  simp at h2
 ·rw[RS hm g2 g3]at he h2 h6 ⊢
  obtain ⟨g,gl,gn,e⟩:=PM he
  rw[e]at h2 h6 ⊢
  by_cases hs:(Av L m.p.s m.p.sc).1.o=true∧(Av L m.p.s m.p.sc).1.cl=false
  ·have hl:=X3 gl hs.1
   have hsm:=a0s (Sb (FT g).1) hs.1 (n:=m.nx) (by omega)
   refine ⟨I0 (Av L m.p.s m.p.sc).1 m.nx, ?_, ?_,⟨?_,rfl,v1⟩,hs.1, ?_, ?_⟩
   ·simp[K8,hs,List.getD]
   ·simp[K8,hs,List.getD]
   ·show Av (Ha L m _) _ _=_
    unfold Ha
    rw[Af hs]
    exact b4n (a3m hr _) hsm
   ·show 1≤m.nx;omega
   ·show m.nx≤m.p.q;omega
  ·simp only[K8,Ad hs]at h2
   simp at h2
end
section
open Go.RowKit Go.Lib
theorem ZM:∀ {M:List PrP} {k:List UInt8},(∀ q∈M,BX q.1 k=true)→AE M k=M.length
 | [],_,_=>rfl
 | y::r,k,h=>by
  rw[b0p,Af (h y (by simp)),ZM (fun q hq=>h q (by simp[hq]))];rfl
theorem b2c{M:List PrP}{k:List UInt8}(h:∀ q∈M,BX q.1 k=true)(v:List UInt8):A7 M k v=M++[(k,v)]:=by
 have hp:=ZM h
 have hh:A9 M k=false:=by simp[A9,hp]
 unfold A7
 rw[hp,hh];simp
theorem b0z{L:List PrP}(h:StI L){i:Nat}(hi:i<L.length):CQ (L.take i) (L.getD i default).1 (L.getD i default).2=L.take (i+1):=by
 have e:L.getD i default=L[i]:=by simp[List.getD,hi]
 unfold CQ
 rw[e,Af (h.may _ (Di hi)),b2c,List.take_succ,Aw hi]
 ·rfl
 ·intro q hq
  obtain ⟨j,hj,rfl⟩:=Do hq
  rw[BL]at hj
  rw[List.getElem_take]
  exact J6.1 h.rise j i (by omega) hi (by omega)
theorem b3q{L:List PrP}(h:StI L)(i:Nat):StI (L.take i):=
 ⟨List.Pairwise.sublist (List.take_sublist i L) h.rise,fun q hq=>h.may q (EZ hq),by have:=h.len;rw[BL];omega⟩
noncomputable def D6 (L:List PrP) (l:List PktC):Nat→List PrP
 | 0=>L
 | i+1=>if BO (l.getD i default)=true then A7 (D6 L l i) (Ah 1 (l.getD i default).s (l.getD i default).sc (l.getD i default).q) (Cg (l.getD i default)) else D6 L l i
noncomputable def Cn (L:List PrP) (l:List PrP):Nat→List PrP
 | 0=>L
 | i+1=>CQ (Cn L l i) (l.getD i default).1 (l.getD i default).2
theorem Sm{L:List PrP}{n:Nat}(h:StB L n)(l:List PktC):∀ {i:Nat},n+i≤900→StB (D6 L l i) (n+i)
 | 0,_=>h
 | i+1,hi=>by
  have ih:=Sm h l (i:=i) (by omega)
  unfold D6
  split
  ·rename_i hm
   have hp:=Gh hm
   exact ih.set (by omega) ((MI (by omega) hp.1 hp.2.2.1).may (Qe _))
  ·exact ih.mono (by omega)
theorem b0y{L:List PrP}{n:Nat}(h:StB L n)(hn:n≤980)(k v:List UInt8):StB (CQ L k v) (n+1):=by
 unfold CQ
 split
 ·rename_i hm;exact h.set (by omega) hm
 ·exact h.mono (by omega)
theorem NA{L:List PrP}{n:Nat}(h:StB L n)(l:List PrP):∀ {i:Nat},n+i≤900→StB (Cn L l i) (n+i)
 | 0,_=>h
 | i+1,hi=>b0y (NA h l (i:=i) (by omega)) (by omega) _ _
theorem b0n{L:List PrP}{p:List UInt8}{c:Int}{d:List UInt8}{th ta:Int}(h:NY L p c d th ta=0):(Av L p c).2=true∧(Av L p c).1.cl=false∧BO (Dj L p c d th ta)=true:=by
 unfold NY at h
 split at h
 ·cases h
 rename_i h1
 split at h
 ·cases h
 rename_i h2
 split at h
 ·cases h
 split at h
 ·cases h
 rename_i h4
 exact ⟨by simpa using h1,by simpa using h2,by simpa using h4⟩
theorem b1W{L:List PrP}{n:Nat}(hB:StB L n)(hn:n≤980){q:PktC}(hq:BO q=true):StB (IX L q) (n+2):=by
 have hp:=Gh hq
 unfold IX
 exact (hB.set (by omega) ((MH (by omega) hp.1).may (Tv _ (by omega)))).set (by omega) ((MI (by omega) hp.1 hp.2.2.1).may (Qe _))
theorem a1P{L:List PrP}{p:List UInt8}{c:Int}{s:Es}(h:Shut L p c s)(d:List UInt8)(th ta:Int):NY L p c d th ta=12:=by
 unfold NY
 rw[h.1,Ad (by simp),Af h.2.1]
end
theorem BN{x:Hs}(h:x.length=32):(Ae x).map AV.store=Ae x∧splice Ip 0 (Ae x)=Ae x∧(Ae x).take 32=Ae x∧(Ae x).length=32:=by
 have hl:(Ae x).length=32:=by rw[Ax,h]
 exact ⟨by rw[EX];rfl,I4 Ip _ (by rw[hl];rfl),B0 (by omega),hl⟩
theorem MC{A B:Prop}(h:B)(e:A=B:=by (simp (disch:=omega) only[*, ↓Ed,Eu, ↓reduceIte,reduceCtorEq,Nat.reduceAdd,Nat.reduceEqDiff,Nat.reduceLT,Nat.reduceLeDiff,Int.reduceToNat,Int.reduceEq,Int.reduceLT,Int.reduceLE,Ap,Ao,Ax,AJ,AY,Int.reduceAdd,AH,AN];first|done|rfl)):A:=e▸h
theorem a9V(k v:List UInt8)(hk:k.length≤1000000)(hv:v.length≤1000000):CP Tryz.prog 144 [.str k,.str v] (.agg (Ae (DG k v))):=by
 have hE:=PO k.length (by omega)
 have hS:=NJ ([0]++eight k.length++k++v) (by simp only[Ao,Hj,AJ,AY];omega)
 rw[show BB ([0]++eight k.length++k++v)=DG k v by unfold DG;simp]at hS
 refine a6E _ _ (by simp) ?_
 have he:=Hj k.length
 obtain ⟨z1,z2,z3,z4⟩:=BN (Ks k v)
 generalize eight k.length=e at *
 generalize Ae (DG k v)=Z at *
 simp only[VA,Cz.z2];refine MC ?_
 repeat' ((first|exact tt|refine Ag hE ?_|refine Ab hE ?_|refine Ag hS ?_|refine Ab hS ?_|refine na fun b=>?_|refine nb fun b hb=>?_|refine iq ?_|(refine jq ?_ ?_<;>intro h h')|exact wZ|refine Aa ?_ ?_)<;>try refine MC ?_)
theorem a9X(a b:Hs)(ha:a.length=32)(hb:b.length=32):CP Tryz.prog 196 [.agg (Ae a),.agg (Ae b)] (.agg (Ae (EM a b))):=by
 have h1:=NK a ha
 have h2:=NK b hb
 have hS:=NJ ([1]++a++b) (by simp only[Ao,AJ,AY];omega)
 rw[show BB ([1]++a++b)=EM a b by unfold EM;simp]at hS
 obtain ⟨z1,z2,z3,z4⟩:=BN (LX a b)
 obtain ⟨y1,y2,y3,y4⟩:=BN ha
 obtain ⟨x1,x2,x3,x4⟩:=BN hb
 generalize Ae (EM a b)=Z at *
 generalize Ae a=Y at *
 generalize Ae b=X at *
 refine a6J _ _ (by simp) ?_
 simp only[VD,Cz.z2];refine MC ?_
 repeat' ((first|exact tt|refine Ag h1 ?_|refine Ab h1 ?_|refine Ag h2 ?_|refine Ab h2 ?_|refine Ag hS ?_|refine Ab hS ?_|refine na fun b=>?_|refine nb fun b hb=>?_|refine iq ?_|(refine jq ?_ ?_<;>intro h h')|exact wZ|refine Aa ?_ ?_)<;>try refine MC ?_)
theorem a9Y(n:Nat)(t:Hs)(ht:t.length=32)(hn:n≤1073741824):CP Tryz.prog 154 [.int .i64 (n:Int),.agg (Ae t)] (.agg (Ae (DJ n t))):=by
 have hE:=PO n (by omega)
 have h1:=NK t ht
 have hS:=NJ ([2]++eight n++t) (by simp only[Ao,Hj,AJ,AY];omega)
 rw[show BB ([2]++eight n++t)=DJ n t by unfold DJ;simp]at hS
 refine a6M _ _ (by simp) ?_
 have he:=Hj n
 obtain ⟨z1,z2,z3,z4⟩:=BN (JJ n t)
 obtain ⟨y1,y2,y3,y4⟩:=BN ht
 generalize eight n=e at *
 generalize Ae (DJ n t)=Z at *
 generalize Ae t=Y at *
 simp only[VG,Cz.z2];refine MC ?_
 repeat' ((first|exact tt|refine Ag hE ?_|refine Ab hE ?_|refine Ag h1 ?_|refine Ab h1 ?_|refine Ag hS ?_|refine Ab hS ?_|refine na fun b=>?_|refine nb fun b hb=>?_|refine iq ?_|(refine jq ?_ ?_<;>intro h h')|exact wZ|refine Aa ?_ ?_)<;>try refine MC ?_)
abbrev AL(l:List Hs):List (List AV):=l.map Ae
theorem Cm(l:List Hs):(AL l).length=l.length:=by simp
theorem El{A B:Prop}(h:B)(e:A=B:=by (simp (disch:=omega) only[*, ↓Ed,Eu, ↓reduceIte,reduceCtorEq,Nat.reduceAdd,Nat.reduceEqDiff,Nat.reduceLT,Nat.reduceLeDiff,Int.reduceToNat,Int.reduceEq,Int.reduceLT,Int.reduceLE,Ap,Ao,Ax,AJ,AY,Int.reduceAdd,AH,AN,Df,Dw];first|done|rfl)):A:=e▸h
theorem ZD(n:Nat)(h1:1<n)(h2:n≤1073741824):CP Tryz.prog 191 [.int .i64 (n:Int)] (.int .i64 (Ar n:Int)):=by
 refine a6D _ _ (by simp) ?_
 simp only[Vz];refine El ?_
 repeat' ((first|exact tt|refine na fun b=>?_|refine nb fun b hb=>?_|refine iq ?_|(refine jq ?_ ?_<;>intro h h')|exact wZ|refine Aa ?_ ?_)<;>try refine El ?_)
 have hlog:Nat.log2 (n - 1)<30:=by rw[Nat.log2_lt (by omega)];omega
 refine A2 (fun k:Nat=>⟨lk [(0,.int .i64 (n:Int)),(3,.int .i64 ((2 ^ k:Nat):Int))],lk []⟩) (fun k=>k≤Nat.log2 (n - 1)) (fun k=>Nat.log2 (n - 1) - k) 0 (by omega) (An BA) ?_
 intro k hk
 have hp:2 ^ k≤2 ^ 30:=Nat.pow_le_pow_right (by omega) (by omega)
 have hp2:2 ^ k≤2 ^ Nat.log2 (n - 1):=Nat.pow_le_pow_right (by omega) hk
 have hl:=Nat.log2_self_le (n:=n - 1) (by omega)
 have hp1:=Nat.two_pow_pos k
 have hs:((2 ^ (k+1):Nat):Int)=2 * ((2 ^ k:Nat):Int):=by rw[F8];omega
 by_cases hlt:2 * 2 ^ k<n
 ·have f1:Ac (decide (2 * ((2 ^ k:Nat):Int)<(n:Int))=true):=fo
  have hk2:k<Nat.log2 (n - 1):=by
   rcases FJ k (Nat.log2 (n - 1)) with h|h
   ·exact h
   ·have e:k=Nat.log2 (n - 1):=by omega
    have:=XG h1
    unfold Ar at this
    rw[e]at hlt;omega
  generalize hq:2 ^ k=q at *
  generalize hr:2 ^ (k+1)=r at *
  refine El ?_
  repeat' ((first|exact tt|refine na fun b=>?_|refine nb fun b hb=>?_|refine iq ?_|(refine jq ?_ ?_<;>intro h h')|exact wZ|refine Aa ?_ ?_)<;>try refine El ?_)
  all_goals exact AC (k+1) ⟨An (by simp[Am,lk,hs,hr]),by omega,by omega⟩
 ·have f1:Ac (decide (2 * ((2 ^ k:Nat):Int)<(n:Int))=false):=fo
  have e:2 ^ k=Ar n:=a3Y (by omega) (by omega)
  generalize 2 ^ k=q at *
  subst e
  refine El ?_
  repeat' ((first|exact tt|refine na fun b=>?_|refine nb fun b hb=>?_|refine iq ?_|(refine jq ?_ ?_<;>intro h h')|exact wZ|refine Aa ?_ ?_)<;>try refine El ?_)
theorem NL:∀ (m:Nat) (own:Option Nat) (l:List Hs),l.length≤m→(∀ x∈l,x.length=32)→l.length≤1000000→CP Tryz.prog 155 [.sl none 32 (AL l)] (.agg (Ae (CU l)))
 | m,own,l,hm,h32,hb=>by
  refine a6Q _ _ (by simp) ?_
  by_cases h1:1<l.length
  ·have hH:=ZD l.length h1 (by omega)
   have hlt:=HT h1
   have hps:=IG l.length
   have ht:∀ x∈l.take (Ar l.length),x.length=32:=fun x hx=>h32 x (EZ hx)
   have hd:∀ x∈l.drop (Ar l.length),x.length=32:=fun x hx=>h32 x (EY hx)
   obtain ⟨m',rfl⟩:∃ m',m=m'+1:=⟨m - 1,by omega⟩
   have hA:=NL m' none (l.take (Ar l.length)) (by simp;omega) ht (by simp;omega)
   have hB:=NL m' none (l.drop (Ar l.length)) (by simp;omega) hd (by simp;omega)
   have hN:=a9X _ _ (HH ht) (HH hd)
   rw[← a1p h1]at hN
   rw[AL,List.map_take]at hA
   rw[AL,List.map_drop]at hB
   change CP Tryz.prog 155 [.sl none 32 (List.take _ (AL l))] _ at hA
   change CP Tryz.prog 155 [.sl none 32 (List.drop _ (AL l))] _ at hB
   have hl:=Cm l
   obtain ⟨z1,z2,z3,z4⟩:=BN (HH h32)
   obtain ⟨y1,y2,y3,y4⟩:=BN (HH ht)
   obtain ⟨x1,x2,x3,x4⟩:=BN (HH hd)
   have f0:Ac (decide ((l.length:Int)=0)=false):=fo
   have f1:Ac (decide ((l.length:Int)=1)=false):=fo
   clear h32 ht hd hm
   generalize Ae (CU l)=Z at *
   generalize Ae (CU (l.take (Ar l.length)))=A at *
   generalize Ae (CU (l.drop (Ar l.length)))=B at *
   generalize Ar l.length=h at *
   generalize AL l=X at *
   have hX:List.take l.length X=X:=B0 (by omega)
   simp only[OG,Cz.z2];refine El ?_
   repeat' ((first|exact tt|refine Ab hH ?_|refine Ag hA ?_|refine Ag hB ?_|refine Ag hN ?_|refine na fun b=>?_|refine nb fun b hb=>?_|refine iq ?_|(refine jq ?_ ?_<;>intro h h')|exact wZ|refine Aa ?_ ?_)<;>try refine El ?_)
  ·have hl:=Cm l
   by_cases h0:l.length=0
   ·have e:Ae (CU l)=Ip:=by
     rw[K4.1 h0,TW (by simp)];rfl
    rw[e]
    have f0:Ac (decide ((l.length:Int)=0)=true):=fo
    clear h32 h0
    generalize AL l=X at *
    simp only[OG,Cz.z2];refine El ?_
    repeat' ((first|exact tt|refine na fun b=>?_|refine nb fun b hb=>?_|refine iq ?_|(refine jq ?_ ?_<;>intro h h')|exact wZ|refine Aa ?_ ?_)<;>try refine El ?_)
   ·have hx:=h32 (l.getD 0 F3) (by rw[List.getD,Aw (by omega)];exact Di _)
    rw[TW (by omega)]
    have f0:Ac (decide ((l.length:Int)=0)=false):=fo
    have f1:Ac (decide ((l.length:Int)=1)=true):=fo
    obtain ⟨z1,z2,z3,z4⟩:=BN hx
    have hg:(AL l).getD 0 []=Ae (l.getD 0 F3):=by simp[List.getD,show 0<l.length by omega]
    clear h32 hx
    generalize Ae (l.getD 0 F3)=Z at *
    generalize AL l=X at *
    simp only[OG,Cz.z2];refine El ?_
    repeat' ((first|exact tt|refine na fun b=>?_|refine nb fun b hb=>?_|refine iq ?_|(refine jq ?_ ?_<;>intro h h')|exact wZ|refine Aa ?_ ?_)<;>try refine El ?_)
theorem a5c{L:List PrP}{i:Nat}(h:i<L.length):AL ((Bz L).take (i+1))=AL ((Bz L).take i)++[Ae (DG (L.getD i default).1 (L.getD i default).2)]:=by
 have hl:(Bz L).length=L.length:=by simp[Bz]
 rw[List.take_succ,Aw (by omega)]
 simp[Bz,List.getD,h]
theorem Tp(L:List PrP)(hb:L.length≤1000)(hs:∀ i,i<L.length→(L.getD i default).1.length≤1000000∧(L.getD i default).2.length≤1000000):CP Tryz.prog 76 [.sl none 2 (AX L)] (.sl (some 29) 32 (AL (Bz L))):=by
 refine a6U _ _ (by simp) ?_
 simp only[VM];refine El ?_
 repeat' ((first|exact tt|refine na fun b=>?_|refine nb fun b hb=>?_|refine iq ?_|(refine jq ?_ ?_<;>intro h h')|exact wZ|refine Aa ?_ ?_)<;>try refine El ?_)
 have hll:(Bz L).length=L.length:=by simp[Bz]
 have hmx:maxLen=9223372036854775807:=rfl
 refine A2 (fun i:Nat=>⟨lk [(0,.sl none 2 (AX L)),(3,.sl (some 29) 32 (AL ((Bz L).take i))),(4,.int .i64 (i:Int))],lk []⟩) (fun i=>i≤L.length) (fun i=>L.length - i) 0 (by omega) (An BA) ?_
 intro i hi
 have hXl:(AL ((Bz L).take i)).length=i:=by rw[Cm,BL];omega
 by_cases hlt:i<L.length
 ·have f1:Ac (decide ((i:Int)<L.length)=true):=fo
  obtain ⟨s1,s2⟩:=hs i hlt
  have hL:=a9V _ _ s1 s2
  obtain ⟨z1,z2,z3,z4⟩:=BN (Ks (L.getD i default).1 (L.getD i default).2)
  have hn:=a5c hlt
  clear hs
  generalize hX':AL ((Bz L).take (i+1))=X' at *
  generalize AL ((Bz L).take i)=X at *
  generalize Ae (DG (L.getD i default).1 (L.getD i default).2)=Z at *
  obtain ⟨⟨k,v⟩,hgd⟩:∃ a,L.getD i default=a:=⟨_,rfl⟩
  rw[hgd]at hL s1 s2
  refine El ?_
  repeat' ((first|exact tt|refine Ag hL ?_|refine na fun b=>?_|refine nb fun b hb=>?_|refine iq ?_|(refine jq ?_ ?_<;>intro h h')|exact wZ|refine Aa ?_ ?_)<;>try refine El ?_)
  all_goals exact AC (i+1) ⟨An (by simp[Am,lk,hX',hn]),hlt,by omega⟩
 ·obtain rfl:i=L.length:=by omega
  have f1:Ac (decide ((L.length:Int)<L.length)=false):=fo
  rw[B0 (by omega)]at hXl ⊢
  generalize AL (Bz L)=X at *
  refine El ?_
  repeat' ((first|exact tt|refine na fun b=>?_|refine nb fun b hb=>?_|refine iq ?_|(refine jq ?_ ?_<;>intro h h')|exact wZ|refine Aa ?_ ?_)<;>try refine El ?_)
theorem a8Z(L:List PrP)(hb:L.length≤1000)(hs:∀ i,i<L.length→(L.getD i default).1.length≤1000000∧(L.getD i default).2.length≤1000000):CP Tryz.prog 88 [.sl none 2 (AX L)] (.agg (Ae (KN L))):=by
 have hl:(Bz L).length=L.length:=by simp[Bz]
 have hA:=Tp L hb hs
 have hB:=NL (Bz L).length none (Bz L) (A8 _) (Nx L) (by omega)
 have hC:=a9Y L.length (CU (Bz L)) (HH (Nx L)) (by omega)
 obtain ⟨z1,z2,z3,z4⟩:=BN (JJ L.length (CU (Bz L)))
 obtain ⟨y1,y2,y3,y4⟩:=BN (HH (Nx L))
 unfold KN
 generalize Ae (DJ L.length (CU (Bz L)))=Z at *
 generalize Ae (CU (Bz L))=Y at *
 generalize AL (Bz L)=X at *
 clear hs
 refine a6N _ _ (by simp) ?_
 simp only[VH,Cz.z2];refine El ?_
 repeat' ((first|exact tt|refine Ab hA ?_|refine Ab hB ?_|refine Ab hC ?_|refine na fun b=>?_|refine nb fun b hb=>?_|refine iq ?_|(refine jq ?_ ?_<;>intro h h')|exact wZ|refine Aa ?_ ?_)<;>try refine El ?_)
theorem GT{A B:Prop}(h:B)(e:A=B:=by (simp (disch:=omega) only[*, ↓Ed,Eu, ↓reduceIte,reduceCtorEq,Nat.reduceAdd,Nat.reduceEqDiff,Nat.reduceLT,Nat.reduceLeDiff,Int.reduceToNat,Int.reduceEq,Int.reduceLT,Int.reduceLE,Ap,Ao,Ax,AN,beq_self_eq_true,PktC.cs,EvC.cs,b0m,a3w,JO];first|done|rfl)):A:=e▸h
theorem Ti(v a b:Int):CP Tryz.prog 120 [.int .i64 v,.int .i64 a,.int .i64 b] (.bool (decide (a≤v∧v≤b))):=by
 refine a7d _ _ (by simp) ?_
 by_cases h:a≤v∧v≤b
 ·have f1:Ac (decide (a≤v)=true):=fo
  have f2:Ac (decide (v≤b)=true):=fo
  rw[AO h]
  clear h
  simp only[Rs];refine GT ?_
  repeat' ((first|exact tt|refine na fun b=>?_|refine nb fun b hb=>?_|refine iq ?_|(refine jq ?_ ?_<;>intro h h')|exact wZ|refine Aa ?_ ?_)<;>try refine GT ?_)
  all_goals (simp only[Ac,Hn]at *;omega)
 ·have F:Ac (¬ (a≤v∧v≤b)):=h
  rw[A0 h]
  clear h
  simp only[Rs];refine GT ?_
  repeat' ((first|exact tt|refine na fun b=>?_|refine nb fun b hb=>?_|refine iq ?_|(refine jq ?_ ?_<;>intro h h')|exact wZ|refine Aa ?_ ?_)<;>try refine GT ?_)
  all_goals (simp only[Ac,Hn]at *;omega)
theorem a9a(a b:PktC):CP Tryz.prog 156 [.agg a.cs,.agg b.cs] (.bool (decide (a=b))):=by
 refine YP _ _ (by simp) ?_
 simp only[Rr];refine GT ?_
 repeat' ((first|exact tt|refine na fun b=>?_|refine nb fun b hb=>?_|refine iq ?_|(refine jq ?_ ?_<;>intro h h')|exact wZ|refine Aa ?_ ?_)<;>try refine GT ?_)
theorem PR(p:PktC)(h1:p.s.length≤1000000)(h2:p.d.length≤1000000)(h3:p.x.length≤1000000):CP Tryz.prog 55 [.agg p.cs] (.bool (BO p)):=by
 have a1:=KD p.s p.sc (by omega)
 have a2:=KD p.d p.dc (by omega)
 have a3:=Ti p.th 0 1099511627776
 have a4:=Ti p.ta 0 1099511627776
 have a5:=Ti p.q 1 1099511627776
 unfold BO
 generalize Ba p.s p.sc=A at *
 generalize Ba p.d p.dc=B at *
 generalize decide (0≤p.th∧p.th≤1099511627776)=C at *
 generalize decide (0≤p.ta∧p.ta≤1099511627776)=D at *
 generalize decide (1≤p.q∧p.q≤1099511627776)=E at *
 refine a7b _ _ (by simp) ?_
 cases A<;>cases B<;>cases C<;>cases D<;>cases E
 all_goals (simp only[VU];refine GT ?_;try exact tt)
 all_goals repeat' ((first|exact tt|refine Ab a1 ?_|refine Ab a2 ?_|refine Ab a3 ?_|refine Ab a4 ?_|refine Ab a5 ?_|refine na fun b=>?_|refine nb fun b hb=>?_|refine iq ?_|(refine jq ?_ ?_<;>intro h h')|exact wZ|refine Aa ?_ ?_)<;>try refine GT ?_)
 all_goals (try simp)
 all_goals (try omega)
theorem ZE(p:PktC)(h1:p.s.length≤1000000)(h2:p.d.length≤1000000)(h3:p.x.length≤1000000):CP Tryz.prog 37 [.agg p.cs] (.bool (BO p)):=by
 have a1:=KC p.s p.sc (by omega)
 have a2:=KC p.d p.dc (by omega)
 refine a6H _ _ (by simp) ?_
 by_cases H:BO p=true
 ·rw[H]
  simp only[BO,AP,Bs]at H
  obtain ⟨⟨⟨⟨⟨g1,g2⟩,g3,g4⟩,g5,g6⟩,g7,g8⟩,g9⟩:=H
  rw[g1]at a1
  rw[g2]at a2
  have e1:Ac (decide (1≤p.q)=true):=fo
  have e2:Ac (decide (p.q≤1099511627776)=true):=fo
  have e3:Ac (decide ((p.x.length:Int)≤200)=true):=fo
  have e4:Ac (decide (0≤p.th)=true):=fo
  have e5:Ac (decide (p.th≤1099511627776)=true):=fo
  have e6:Ac (decide (0≤p.ta)=true):=fo
  have e7:Ac (decide (p.ta≤1099511627776)=true):=fo
  clear g1 g2 g3 g4 g5 g6 g7 g8 g9
  simp only[Rn];refine GT ?_
  repeat' ((first|exact tt|refine Ab a1 ?_|refine Ab a2 ?_|refine na fun b=>?_|refine nb fun b hb=>?_|refine iq ?_|(refine jq ?_ ?_<;>intro h h')|exact wZ|refine Aa ?_ ?_)<;>try refine GT ?_)
  all_goals (simp only[Ac,Hn]at *;omega)
 ·have H':BO p=false:=by simpa using H
  rw[H']
  have F:Ac (Ba p.s p.sc=true→Ba p.d p.dc=true→¬ ((0≤p.th∧p.th≤1099511627776)∧(0≤p.ta∧p.ta≤1099511627776)∧(1≤p.q∧p.q≤1099511627776)∧p.x.length≤200)):=by
   intro b1 b2 ⟨b3,b4,b5,b6⟩
   exact H (by simp only[BO,b1,b2,AO b3,AO b4,AO b5,AO b6];rfl)
  clear H H'
  cases hA:Ba p.s p.sc<;>cases hB:Ba p.d p.dc
  all_goals rw[hA]at a1
  all_goals rw[hB]at a2
  all_goals rw[hA,hB]at F
  all_goals clear hA hB
  all_goals (simp only[Rn];refine GT ?_;try exact tt)
  all_goals repeat' ((first|exact tt|refine Ab a1 ?_|refine Ab a2 ?_|refine na fun b=>?_|refine nb fun b hb=>?_|refine iq ?_|(refine jq ?_ ?_<;>intro h h')|exact wZ|refine Aa ?_ ?_)<;>try refine GT ?_)
  all_goals (simp only[Ac,Hn]at *;first|omega|(have F':=F trivial trivial;omega))
theorem a3n(n k:Nat)(h:k≤8):(Hi n k).length=8:=by
 simp only[Hi,Ax,Ao,List.length_replicate,Cc,Hj];omega
theorem a3o(n k:Nat)(hn:n≤72057594037927935)(h:k<8):IntKind.wrap .u8 ((IntKind.wrap .u64 (n:Int)).fdiv (2 ^ (min (8 * (k:Int)).toNat (IntKind.bits .u64))))=((n / 256 ^ k % 256:Nat):Int):=by
 have e1:IntKind.wrap .u64 (n:Int)=(n:Int):=by rw[IntKind.wrap_u64];omega
 have e2:min (8 * (k:Int)).toNat (IntKind.bits .u64)=8 * k:=by
  show min _ 64=_
  omega
 rw[e1,e2]
 have e4:((2:Int) ^ (8 * k))=((256 ^ k:Nat):Int):=by
  rw[show (256:Nat)=2 ^ 8 from rfl, ← Nat.pow_mul];simp
 rw[e4,Int.fdiv_eq_ediv_of_nonneg _ (Int.natCast_nonneg _), ← Int.natCast_ediv]
 generalize n / 256 ^ k=q
 show ((q:Int) % 256)=_
 omega
theorem GZ{A B:Prop}(h:B)(e:A=B:=by (simp (disch:=omega) only[*, ↓Ed,Eu, ↓reduceIte,reduceCtorEq,Nat.reduceAdd,Nat.reduceEqDiff,Nat.reduceLT,Nat.reduceLeDiff,Int.reduceToNat,Int.reduceEq,Int.reduceLT,Int.reduceLE,Ap,Ao,Ax,AJ,AY,Int.reduceAdd,AH,AN,Dh,a3n];first|done|rfl)):A:=e▸h
theorem PQ(n:Nat)(h:n≤72057594037927935):CP Tryz.prog 174 [.int .i64 (n:Int)] (.str (eight n)):=by
 have hM:=Zz (n:Int)
 rw[AO (by omega)]at hM
 refine a5V _ _ (by simp) ?_
 simp only[Vb];refine GZ ?_
 repeat' ((first|exact tt|refine Ab hM ?_|refine na fun b=>?_|refine nb fun b hb=>?_|refine iq ?_|(refine jq ?_ ?_<;>intro h h')|exact wZ|refine Aa ?_ ?_)<;>try refine GZ ?_)
 refine A2 (fun k:Nat=>⟨lk [(0,.int .i64 (n:Int)),(3,.ptr b 0),(8,.int .i64 (k:Int))],lk [(b,Hi n k)]⟩) (fun k=>k≤8) (fun k=>8 - k) 0 (by omega) (An (by simp[Am,lk,Hi,Bg,eight,List.replicate])) ?_
 intro k hk
 by_cases hk8:k<8
 rotate_left
 ·obtain rfl:k=8:=by omega
  have f1:Ac (decide (((8:Nat):Int)<8)=false):=by simp[Ac]
  refine GZ ?_
  repeat' ((first|exact tt|refine MO (eight n) rfl rfl ?_|refine na fun b=>?_|refine nb fun b hb=>?_|refine iq ?_|(refine jq ?_ ?_<;>intro h h')|exact wZ|refine Aa ?_ ?_)<;>try refine GZ ?_)
 have f1:Ac (decide ((k:Int)<8)=true):=fo
 have e1:=a3o n k h hk8
 have e3:=WY n k hk8
 have e5:(7 - (k:Int)).toNat * 1=7 - k:=by omega
 have e6:(7 - (k:Int)).toNat=7 - k:=by omega
 refine GZ ?_
 repeat' ((first|exact tt|refine na fun b=>?_|refine nb fun b hb=>?_|refine iq ?_|(refine jq ?_ ?_<;>intro h h')|exact wZ|refine Aa ?_ ?_)<;>try refine GZ ?_)
 all_goals exact AC (k+1) ⟨An BA,by omega,by omega⟩
theorem a4H(p:PktC):BB ([eight p.th.toNat,eight p.ta.toNat,BB p.x].flatten)=Cg p:=by unfold Cg;simp
theorem a9w(p:PktC)(h1:p.s.length≤1000000)(h2:p.d.length≤1000000)(h3:p.x.length≤1000000)(hm:BO p=true):CP Tryz.prog 124 [.agg p.cs] (.agg (Ae (Cg p))):=by
 have hp:=Gh hm
 have hM:=PR p h1 h2 h3
 rw[hm]at hM
 have hA:=PQ p.th.toNat (by omega)
 have hB:=PQ p.ta.toNat (by omega)
 rw[show ((p.th.toNat:Nat):Int)=p.th by omega]at hA
 rw[show ((p.ta.toNat:Nat):Int)=p.ta by omega]at hB
 have hS:=L8 (.sl none 1 [[.str p.x]]) [p.x] rfl (by simp) (by simp;omega)
 rw[show [p.x].flatten=p.x by simp]at hS
 have hT:=L9 (BB p.x) (FB _)
 have hF:=L8 (.sl none 1 [[.str (eight p.th.toNat)],[.str (eight p.ta.toNat)],[.str (BB p.x)]]) [eight p.th.toNat,eight p.ta.toNat,BB p.x] rfl (by simp) (by simp[Hj,FB])
 rw[a4H]at hF
 clear hp hm
 refine a7a _ _ (by simp) ?_
 generalize eight p.th.toNat=A at *
 generalize eight p.ta.toNat=B at *
 obtain ⟨z1,z2,z3,z4⟩:=BN (LM p)
 obtain ⟨y1,y2,y3,y4⟩:=BN (FB p.x)
 generalize Ae (Cg p)=Z at *
 generalize Ae (BB p.x)=Y at *
 generalize BB p.x=C at *
 simp only[VT,Cz.z2];refine GZ ?_
 repeat' ((first|exact tt|refine Ab hM ?_|refine Ab hA ?_|refine Ag hA ?_|refine Ab hB ?_|refine Ag hB ?_|refine Ab hS ?_|refine Ag hS ?_|refine Ab hT ?_|refine Ag hT ?_|refine Ab hF ?_|refine Ag hF ?_|refine na fun b=>?_|refine nb fun b hb=>?_|refine iq ?_|(refine jq ?_ ?_<;>intro h h')|exact wZ|refine Aa ?_ ?_)<;>try refine GZ ?_)
theorem PP(p:PktC)(h1:p.s.length≤1000000)(h2:p.d.length≤1000000)(h3:p.x.length≤1000000)(hm:BO p=true):CP Tryz.prog 57 [.agg p.cs] (.str (Cg p)):=by
 have hC:=a9w p h1 h2 h3 hm
 have hT:=L9 (Cg p) (LM p)
 obtain ⟨z1,z2,z3,z4⟩:=BN (LM p)
 generalize Ae (Cg p)=Z at *
 refine a5S _ _ (by simp) ?_
 simp only[U9];refine GZ ?_
 repeat' ((first|exact tt|refine Ab hC ?_|refine Ab hT ?_|refine na fun b=>?_|refine nb fun b hb=>?_|refine iq ?_|(refine jq ?_ ?_<;>intro h h')|exact wZ|refine Aa ?_ ?_)<;>try refine GZ ?_)
theorem a9T(p:PktC)(h1:p.s.length≤1000000)(h2:p.d.length≤1000000)(h3:p.x.length≤1000000)(hm:BO p=true):CP Tryz.prog 39 [.agg p.cs] (.str (Cg p)):=by
 have hp:=Gh hm
 have hM:=ZE p h1 h2 h3
 rw[hm]at hM
 have hA:=PO p.th.toNat (by omega)
 have hB:=PO p.ta.toNat (by omega)
 rw[show ((p.th.toNat:Nat):Int)=p.th by omega]at hA
 rw[show ((p.ta.toNat:Nat):Int)=p.ta by omega]at hB
 have hS:=NJ p.x (by omega)
 have hT:=NK (BB p.x) (FB _)
 have hF:=NJ (eight p.th.toNat++eight p.ta.toNat++BB p.x) (by simp[Hj,FB])
 rw[show BB (eight p.th.toNat++eight p.ta.toNat++BB p.x)=Cg p by unfold Cg;rw[DC]]at hF
 have hT2:=NK (Cg p) (LM _)
 have l1:=Hj p.th.toNat
 have l2:=Hj p.ta.toNat
 have l3:=FB p.x
 obtain ⟨z1,z2,z3,z4⟩:=BN (LM p)
 obtain ⟨y1,y2,y3,y4⟩:=BN (FB p.x)
 generalize Ae (Cg p)=Z at *
 generalize Ae (BB p.x)=Y at *
 clear hp hm
 refine a6z _ _ (by simp) ?_
 generalize eight p.th.toNat=A at *
 generalize eight p.ta.toNat=B at *
 generalize BB p.x=C at *
 simp only[Vv];refine GZ ?_
 repeat' ((first|exact tt|refine Ab hM ?_|refine Ag hA ?_|refine Ag hB ?_|refine Ag hS ?_|refine Ag hT ?_|refine Ag hF ?_|refine Ag hT2 ?_|refine na fun b=>?_|refine nb fun b hb=>?_|refine iq ?_|(refine jq ?_ ?_<;>intro h h')|exact wZ|refine Aa ?_ ?_)<;>try refine GZ ?_)
theorem ME{A B:Prop}(h:B)(e:A=B:=by (simp (disch:=omega) only[*, ↓Ed,Eu, ↓reduceIte,reduceCtorEq,Nat.reduceAdd,Nat.reduceEqDiff,Nat.reduceLT,Nat.reduceLeDiff,Int.reduceToNat,Int.reduceEq,Int.reduceLT,Int.reduceLE,Ap,Ao,Ax,AJ,AY,Int.reduceAdd,AH,AN];first|done|rfl)):A:=e▸h
theorem a9y(k v:List UInt8)(hk:k.length≤1000000)(hv:v.length≤1000000):CP Tryz.prog 212 [.str k,.str v] (.agg (Ae (DG k v))):=by
 have hE:=PQ k.length (by omega)
 have hS:=L8 (.sl none 1 [[.str [0]],[.str (eight k.length)],[.str k],[.str v]]) [[0],eight k.length,k,v] rfl (by simp) (by simp[Hj];omega)
 rw[show BB [[0],eight k.length,k,v].flatten=DG k v by unfold DG;simp]at hS
 refine a7C _ _ (by simp) ?_
 obtain ⟨z1,z2,z3,z4⟩:=BN (Ks k v)
 generalize eight k.length=e at *
 generalize Ae (DG k v)=Z at *
 simp only[Wl,Cz.z2];refine ME ?_
 repeat' ((first|exact tt|refine Ab hE ?_|refine Ag hE ?_|refine Ab hS ?_|refine Ag hS ?_|refine na fun b=>?_|refine nb fun b hb=>?_|refine iq ?_|(refine jq ?_ ?_<;>intro h h')|exact wZ|refine Aa ?_ ?_)<;>try refine ME ?_)
theorem Zv(a b:Hs)(ha:a.length=32)(hb:b.length=32):CP Tryz.prog 251 [.agg (Ae a),.agg (Ae b)] (.agg (Ae (EM a b))):=by
 have h1:=L9 a ha
 have h2:=L9 b hb
 have hS:=L8 (.sl none 1 [[.str [1]],[.str a],[.str b]]) [[1],a,b] rfl (by simp) (by simp;omega)
 rw[show BB [[1],a,b].flatten=EM a b by unfold EM;simp]at hS
 obtain ⟨z1,z2,z3,z4⟩:=BN (LX a b)
 obtain ⟨y1,y2,y3,y4⟩:=BN ha
 obtain ⟨x1,x2,x3,x4⟩:=BN hb
 generalize Ae (EM a b)=Z at *
 generalize Ae a=Y at *
 generalize Ae b=X at *
 refine a7D _ _ (by simp) ?_
 simp only[Wm,Cz.z2];refine ME ?_
 repeat' ((first|exact tt|refine Ab h1 ?_|refine Ag h1 ?_|refine Ab h2 ?_|refine Ag h2 ?_|refine Ab hS ?_|refine Ag hS ?_|refine na fun b=>?_|refine nb fun b hb=>?_|refine iq ?_|(refine jq ?_ ?_<;>intro h h')|exact wZ|refine Aa ?_ ?_)<;>try refine ME ?_)
theorem Zw(n:Nat)(t:Hs)(ht:t.length=32)(hn:n≤1073741824):CP Tryz.prog 210 [.int .i64 (n:Int),.agg (Ae t)] (.agg (Ae (DJ n t))):=by
 have hE:=PQ n (by omega)
 have h1:=L9 t ht
 have hS:=L8 (.sl none 1 [[.str [2]],[.str (eight n)],[.str t]]) [[2],eight n,t] rfl (by simp) (by simp[Hj];omega)
 rw[show BB [[2],eight n,t].flatten=DJ n t by unfold DJ;simp]at hS
 refine a7E _ _ (by simp) ?_
 obtain ⟨z1,z2,z3,z4⟩:=BN (JJ n t)
 obtain ⟨y1,y2,y3,y4⟩:=BN ht
 generalize eight n=e at *
 generalize Ae (DJ n t)=Z at *
 generalize Ae t=Y at *
 simp only[Wn,Cz.z2];refine ME ?_
 repeat' ((first|exact tt|refine Ab hE ?_|refine Ag hE ?_|refine Ab h1 ?_|refine Ag h1 ?_|refine Ab hS ?_|refine Ag hS ?_|refine na fun b=>?_|refine nb fun b hb=>?_|refine iq ?_|(refine jq ?_ ?_<;>intro h h')|exact wZ|refine Aa ?_ ?_)<;>try refine ME ?_)
section
open Go.RowKit
set_option maxRecDepth 100000
end
theorem UL:∀ (f x:Nat),x<2 ^ f→1≤x→Lib.bitLenAux f x=Nat.log2 x+1
 | 0,x,h,h1=>by simp at h;omega
 | f+1,x,h,h1=>by
  rw[Lib.bitLenAux,Ad (by omega)]
  by_cases hx:x=1
  ·subst hx
   have e:Lib.bitLenAux f (1 / 2)=0:=by cases f<;>rfl
   have e2:Nat.log2 1=0:=by decide
   rw[e,e2]
  ·rw[F8]at h
   have ih:=UL f (x / 2) (by omega) (by omega)
   have k1:=Nat.log2_self_le (n:=x / 2) (by omega)
   have k2:=Nat.lt_log2_self (n:=x / 2)
   rw[ih]
   have:Nat.log2 x=Nat.log2 (x / 2)+1:=by
    rw[Nat.log2_eq_iff (by omega)]
    rw[F8]at k2
    rw[F8,F8,F8]
    omega
   rw[this];omega
theorem a9f(x:Nat)(h1:1≤x)(h:x≤1073741824):CP Tryz.prog 217 [.int .u64 (x:Int)] (.int .i64 ((Nat.log2 x+1:Nat):Int)):=
 MQ (vs:=[.int .u64 (x:Int)]) (v:=.int .i64 ((Nat.log2 x+1:Nat):Int)) rfl (by simp) rfl fun W=>(Tryz.bits_Len (x:Int) W (by omega) (by omega)).mono fun e W' ⟨h2,h3⟩=>by
  subst h3
  refine ⟨?_,Below.refl _ _⟩
  rw[h2]
  have:Lib.bitLen x=Nat.log2 x+1:=UL 64 x (by omega) h1
  simp[this]
theorem D2{A B:Prop}(h:B)(e:A=B:=by (simp (disch:=omega) only[*, ↓Ed,Eu, ↓reduceIte,reduceCtorEq,Nat.reduceAdd,Nat.reduceEqDiff,Nat.reduceLT,Nat.reduceLeDiff,Int.reduceToNat,Int.reduceEq,Int.reduceLT,Int.reduceLE,Ap,Ao,Ax,AJ,AY,Int.reduceAdd,AH,AN];first|done|rfl)):A:=e▸h
theorem Zs(n:Nat)(h1:1<n)(h2:n≤1073741824):CP Tryz.prog 202 [.int .i64 (n:Int)] (.int .i64 (Ar n:Int)):=by
 have hL:=a9f (n - 1) (by omega) (by omega)
 have hlog:Nat.log2 (n - 1)<30:=by rw[Nat.log2_lt (by omega)];omega
 have e1:(n:Int) - 1=((n - 1:Nat):Int):=by omega
 have f1:Ac (decide ((n:Int)<2)=false):=fo
 have f2:Ac (decide (1073741824<(n:Int))=false):=fo
 have e2:IntKind.wrap .u64 ((n - 1:Nat):Int)=((n - 1:Nat):Int):=by rw[IntKind.wrap_u64];omega
 have e3:(1:Int) * 2 ^ (min (Nat.log2 (n - 1)) (IntKind.bits .i64))=(Ar n:Int):=by
  have:min (Nat.log2 (n - 1)) (IntKind.bits .i64)=Nat.log2 (n - 1):=by
   show min _ 64=_
   omega
  rw[this];unfold Ar;simp
 have hh:=HT h1
 refine a7B _ _ (by simp) ?_
 generalize Ar n=H at *
 generalize Nat.log2 (n - 1)=q at *
 have e4:((q+1:Nat):Int) - 1=(q:Int):=by omega
 simp (disch:=omega) only[Wj,Dh, ↓Ed,Eu, ↓reduceIte,reduceCtorEq,Nat.reduceAdd,Nat.reduceEqDiff,Nat.reduceLT,Nat.reduceLeDiff,Int.reduceToNat,Int.reduceEq,Int.reduceLT,Int.reduceLE,Ap,Ao,Ax,AJ,AY,Int.reduceAdd,AH,AN]
 repeat' ((first|exact tt|refine Ab hL ?_|refine Ag hL ?_|refine na fun b=>?_|refine nb fun b hb=>?_|refine iq ?_|(refine jq ?_ ?_<;>intro h h')|exact wZ|refine Aa ?_ ?_)<;>try refine D2 ?_)
theorem Zt(n i:Int):CP Tryz.prog 201 [.int .i64 n,.int .i64 i] (.bool (decide (n≤1073741824∧0≤i∧i<n))):=by
 refine a7G _ _ (by simp) ?_
 by_cases h:n≤1073741824∧0≤i∧i<n
 ·rw[AO h]
  have f1:Ac (decide (n≤1073741824)=true):=fo
  have f2:Ac (decide (0≤i)=true):=fo
  have f3:Ac (decide (i<n)=true):=fo
  clear h
  simp only[RB];refine D2 ?_
  repeat' ((first|exact tt|refine na fun b=>?_|refine nb fun b hb=>?_|refine iq ?_|(refine jq ?_ ?_<;>intro h h')|exact wZ|refine Aa ?_ ?_)<;>try refine D2 ?_)
  all_goals (simp only[Ac,Hn]at *;omega)
 ·rw[A0 h]
  have f1:Ac (¬ (n≤1073741824∧0≤i∧i<n)):=h
  clear h
  simp only[RB];refine D2 ?_
  repeat' ((first|exact tt|refine na fun b=>?_|refine nb fun b hb=>?_|refine iq ?_|(refine jq ?_ ?_<;>intro h h')|exact wZ|refine Aa ?_ ?_)<;>try refine D2 ?_)
  all_goals (simp only[Ac,Hn]at *;omega)
theorem Zr(n i:Nat)(hi:i<n)(hn:n≤1073741824):CP Tryz.prog 160 [.int .i64 (n:Int),.int .i64 (i:Int)] (.int .i64 (BU n i:Int)):=by
 refine a7z _ _ (by simp) ?_
 simp only[Wh];refine D2 ?_
 repeat' ((first|exact tt|refine na fun b=>?_|refine nb fun b hb=>?_|refine iq ?_|(refine jq ?_ ?_<;>intro h h')|exact wZ|refine Aa ?_ ?_)<;>try refine D2 ?_)
 refine A2 (fun q:Nat × Nat × Nat=>⟨lk [(0,.int .i64 (q.1:Int)),(1,.int .i64 (q.2.1:Int)),(5,.int .i64 (q.2.2:Int))],lk []⟩) (fun q=>q.2.1<q.1∧q.1≤n∧q.2.2≤n - q.1∧Ac (q.2.2+BU q.1 q.2.1=BU n i)) (fun q=>q.1) (n,i,0) ⟨hi,A8 _,by simp,by simp[Ac]⟩ (An BA) ?_
 rintro ⟨m,j,d⟩ ⟨h1,h2,h3,h4⟩
 simp only at h1 h2 h3 h4
 have hI:=Zt m j
 rw[AO (by omega)]at hI
 by_cases hm:1<m
 rotate_left
 ·have f1:Ac (decide ((1:Int)<(m:Int))=false):=fo
  have e:d=BU n i:=by rw[← h4,Lu (by omega)];rfl
  subst e
  clear h4
  refine D2 ?_
  repeat' ((first|exact tt|refine Ab hI ?_|refine Ag hI ?_|refine na fun b=>?_|refine nb fun b hb=>?_|refine iq ?_|(refine jq ?_ ?_<;>intro h h')|exact wZ|refine Aa ?_ ?_)<;>try refine D2 ?_)
 have f1:Ac (decide ((1:Int)<(m:Int))=true):=fo
 have hH:=Zs m hm (by omega)
 have k1:=IG m
 have k2:=HT hm
 by_cases hj:j<Ar m
 ·rw[OS hm hj]at h4
  have h5:Ac (d+1+BU (Ar m) j=BU n i):=by show _=_;rw[← show d+(BU (Ar m) j+1)=BU n i from h4];omega
  have f2:Ac (decide ((j:Int)<(Ar m:Int))=true):=fo
  clear h4
  generalize Ar m=H at *
  refine D2 ?_
  repeat' ((first|exact tt|refine Ab hI ?_|refine Ag hI ?_|refine Ab hH ?_|refine na fun b=>?_|refine nb fun b hb=>?_|refine iq ?_|(refine jq ?_ ?_<;>intro h h')|exact wZ|refine Aa ?_ ?_)<;>try refine D2 ?_)
  all_goals exact AC (H,j,d+1) ⟨An BA,⟨hj,by simp only;omega,by simp only;omega,h5⟩,by simp only;omega⟩
 ·rw[OR hm hj]at h4
  have h5:Ac (d+1+BU (m - Ar m) (j - Ar m)=BU n i):=by show _=_;rw[← show d+(BU (m - Ar m) (j - Ar m)+1)=BU n i from h4];omega
  have f2:Ac (decide ((j:Int)<(Ar m:Int))=false):=fo
  have e1:(m:Int) - (Ar m:Int)=((m - Ar m:Nat):Int):=by omega
  have e2:(j:Int) - (Ar m:Int)=((j - Ar m:Nat):Int):=by omega
  clear h4
  generalize Ar m=H at *
  refine D2 ?_
  repeat' ((first|exact tt|refine Ab hI ?_|refine Ag hI ?_|refine Ab hH ?_|refine na fun b=>?_|refine nb fun b hb=>?_|refine iq ?_|(refine jq ?_ ?_<;>intro h h')|exact wZ|refine Aa ?_ ?_)<;>try refine D2 ?_)
  all_goals exact AC (m - H,j - H,d+1) ⟨An (by simp[Am,lk,e1,e2]),⟨by simp only;omega,by simp only;omega,by simp only;omega,h5⟩,by simp only;omega⟩
theorem To:∀ (m n i:Nat) (lf:Hs) (w:List Hs),w.length=m→i<n→n≤1073741824→BU n i=m→lf.length=32→(∀ x∈w,x.length=32)→CP Tryz.prog 229 [.int .i64 (n:Int),.int .i64 (i:Int),.agg (Ae lf),.sl none 32 (AL w)] (.agg (Ae (Cl w lf m n i)))
 | m,n,i,lf,w,hm,hi,hn,hd,hl,hw=>by
  have hlw:=Cm w
  refine a7F _ _ (by simp) ?_
  rw[hm]at hlw
  obtain ⟨z1,z2,z3,z4⟩:=BN hl
  by_cases h0:m=0
  ·subst h0
   show BK _ _ (KJ _ (.agg (Ae lf))) _
   clear hw
   have f6:Ac (decide (((0:Nat):Int)=0)=true):=by simp[Ac]
   generalize Ae lf=Z at *
   generalize AL w=X at *
   simp only[OO,Cz.z2];refine D2 ?_
   repeat' ((first|exact tt|refine na fun b=>?_|refine nb fun b hb=>?_|refine iq ?_|(refine jq ?_ ?_<;>intro h h')|exact wZ|refine Aa ?_ ?_)<;>try refine D2 ?_)
  obtain ⟨m',rfl⟩:∃ m',m=m'+1:=⟨m - 1,by omega⟩
  have hmb:m'+1≤30:=by have:=Lt 30 n i (by omega);omega
  have h1:1<n:=by
   rcases FJ 1 n with h|h
   ·exact h
   ·rw[Lu h]at hd;omega
  have f6:Ac (decide (((m'+1:Nat):Int)=0)=false):=fo
  have hH:=Zs n h1 hn
  have k1:=IG n
  have k2:=HT h1
  have hwt:∀ x∈w.take m',x.length=32:=fun x hx=>hw x (EZ hx)
  have hlast:(w.getD m' []).length=32:=hw _ (by rw[List.getD,Aw (by omega)];exact Di _)
  have hg:(AL w).getD m' []=Ae (w.getD m' []):=by simp[List.getD,show m'<w.length by omega]
  have htk:AL (w.take m')=(AL w).take m':=by rw[AL,List.map_take]
  obtain ⟨y1,y2,y3,y4⟩:=BN hlast
  have e0:((m'+1:Nat):Int) - 1=(m':Int):=by omega
  by_cases hj:i<Ar n
  ·have hd':BU (Ar n) i=m':=by rw[OS h1 hj]at hd;omega
   have ih:=To m' (Ar n) i lf (w.take m') (by rw[BL];omega) hj (by omega) hd' hl hwt
   rw[O5 m' m' _ _ (A8 _)]at ih
   have hfl:=O4 (way:=w) hl m' (Ar n) i
   have hN:=Zv (Cl w lf m' (Ar n) i) (w.getD m' []) hfl hlast
   have e3:Cl w lf (m'+1) n i=EM (Cl w lf m' (Ar n) i) (w.getD m' []):=by rw[Cl,Af hj]
   rw[e3]
   obtain ⟨x1,x2,x3,x4⟩:=BN hfl
   obtain ⟨v1,v2,v3,v4⟩:=BN (LX (Cl w lf m' (Ar n) i) (w.getD m' []))
   have f7:Ac (decide ((i:Int)<(Ar n:Int))=true):=fo
   rw[htk]at ih
   clear hw hwt hd hd' e3 hfl hlast htk
   generalize Ae (EM (Cl w lf m' (Ar n) i) (w.getD m' []))=V at *
   generalize Ae (Cl w lf m' (Ar n) i)=A at *
   generalize Ae (w.getD m' [])=B at *
   generalize Ae lf=Z at *
   generalize Ar n=H at *
   generalize AL w=X at *
   simp only[OO,Cz.z2];refine D2 ?_
   repeat' ((first|exact tt|refine Ab hH ?_|refine Ag hH ?_|refine Ab ih ?_|refine Ag ih ?_|refine Ab hN ?_|refine Ag hN ?_|refine na fun b=>?_|refine nb fun b hb=>?_|refine iq ?_|(refine jq ?_ ?_<;>intro h h')|exact wZ|refine Aa ?_ ?_)<;>try refine D2 ?_)
  ·have hd':BU (n - Ar n) (i - Ar n)=m':=by rw[OR h1 hj]at hd;omega
   have ih:=To m' (n - Ar n) (i - Ar n) lf (w.take m') (by rw[BL];omega) (by omega) (by omega) hd' hl hwt
   rw[O5 m' m' _ _ (A8 _)]at ih
   have hfl:=O4 (way:=w) hl m' (n - Ar n) (i - Ar n)
   have hN:=Zv (w.getD m' []) (Cl w lf m' (n - Ar n) (i - Ar n)) hlast hfl
   have e3:Cl w lf (m'+1) n i=EM (w.getD m' []) (Cl w lf m' (n - Ar n) (i - Ar n)):=by rw[Cl,Ad hj]
   rw[e3]
   obtain ⟨x1,x2,x3,x4⟩:=BN hfl
   obtain ⟨v1,v2,v3,v4⟩:=BN (LX (w.getD m' []) (Cl w lf m' (n - Ar n) (i - Ar n)))
   have f7:Ac (decide ((i:Int)<(Ar n:Int))=false):=fo
   have e1:(n:Int) - (Ar n:Int)=((n - Ar n:Nat):Int):=by omega
   have e2:(i:Int) - (Ar n:Int)=((i - Ar n:Nat):Int):=by omega
   rw[htk, ← e1, ← e2]at ih
   clear hw hwt hd hd' e3 hfl hlast htk e1 e2
   generalize Ae (EM (w.getD m' []) (Cl w lf m' (n - Ar n) (i - Ar n)))=V at *
   generalize Ae (Cl w lf m' (n - Ar n) (i - Ar n))=A at *
   generalize Ae (w.getD m' [])=B at *
   generalize Ae lf=Z at *
   generalize Ar n=H at *
   generalize AL w=X at *
   simp only[OO,Cz.z2];refine D2 ?_
   repeat' ((first|exact tt|refine Ab hH ?_|refine Ag hH ?_|refine Ab ih ?_|refine Ag ih ?_|refine Ab hN ?_|refine Ag hN ?_|refine na fun b=>?_|refine nb fun b hb=>?_|refine iq ?_|(refine jq ?_ ?_<;>intro h h')|exact wZ|refine Aa ?_ ?_)<;>try refine D2 ?_)
theorem a9x(n i:Nat)(lf:Hs)(w:List Hs)(hi:i<n)(hn:n≤1073741824)(hd:w.length=BU n i)(hl:lf.length=32)(hw:∀ x∈w,x.length=32):
  CP Tryz.prog 211 [.int .i64 (n:Int),.int .i64 (i:Int),.agg (Ae lf),.sl none 32 (AL w)] (.tup [.agg (Ae (Cl w lf w.length n i)),.bool true]):=by
 have hI:=Zt n i
 rw[AO (by omega)]at hI
 have hD:=Zr n i hi hn
 have hF:=To w.length n i lf w rfl hi hn hd.symm hl hw
 have hlw:=Cm w
 have f1:Ac (decide ((w.length:Int)=(BU n i:Int))=true):=fo
 obtain ⟨z1,z2,z3,z4⟩:=BN hl
 obtain ⟨y1,y2,y3,y4⟩:=BN (O4 (way:=w) hl w.length n i)
 clear hw
 refine a7A _ _ (by simp) ?_
 generalize Ae (Cl w lf w.length n i)=A at *
 generalize Ae lf=Z at *
 generalize BU n i=dd at *
 generalize AL w=X at *
 simp only[Wi,Cz.z2];refine D2 ?_
 repeat' ((first|exact tt|refine Ab hI ?_|refine Ag hI ?_|refine Ab hD ?_|refine Ag hD ?_|refine Ab hF ?_|refine Ag hF ?_|refine na fun b=>?_|refine nb fun b hb=>?_|refine iq ?_|(refine jq ?_ ?_<;>intro h h')|exact wZ|refine Aa ?_ ?_)<;>try refine D2 ?_)
abbrev LfC.cs(x:LfC):List AV:=[.str x.k,.str x.v,.int .i64 x.i,.sl none 32 (x.p.map Ae)]
def Fe(l:List LfC):List (List AV):=l.map LfC.cs
abbrev PfC.cs(p:PfC):List AV:=[.int .i64 p.c,.sl none 4 (Fe p.l)]
def Gg(m:MsgC):List AV:=.int .i64 m.k::m.h.cs
def C3(m:MsgC):List AV:=[.str m.p.s,.int .i64 m.p.sc,.str m.p.d,.int .i64 m.p.dc,.int .i64 m.p.q,.str m.p.x,.int .i64 m.p.th,.int .i64 m.p.ta,.str m.a,.int .i64 m.nx,.int .i64 m.ht,.int .i64 m.pr.c,.sl none 4 (Fe m.pr.l),.int .i64 m.cl.c,.sl none 4 (Fe m.cl.l)]
def AD(m:MsgC):List AV:=Gg m++C3 m
theorem Pt(m:MsgC):(Gg m).length=35:=by simp[Gg,BF]
theorem C4(m:MsgC):(AD m).length=50:=by simp[AD,Pt,C3]
theorem HZ(m:MsgC)(i:Nat):(AD m).drop (35+i)=(C3 m).drop i:=by
 rw[AD,List.drop_append,Pt,Jd (by rw[Pt];omega),Bj];congr 1;omega
theorem HW{c:AV}{l r:List AV}(h:l=c::r)(K:AV→Prop):RK (A5 none l) K=K c.alias:=by subst h;simp[RK,A5]
theorem LQ{n:Nat}{cs l r:List AV}(h:l=cs++r)(hn:cs.length=n)(K:AV→Prop):RK (A5 (some n) l) K=K (.agg cs):=by
 subst h;subst hn;simp[RK,A5]
theorem SK(m:MsgC)(K:AV→Prop):RK (A5 none ((AD m).drop 35)) K=K (.str (m.p.s)):=HW (l:=(AD m).drop 35) (c:=.str (m.p.s)) (r:=(C3 m).drop 1) (by rw[show 35=35+0 from rfl,HZ];rfl) K
theorem H1(m:MsgC)(K:AV→Prop):RK (A5 none ((AD m).drop 39)) K=K (.int .i64 (m.p.q)):=HW (l:=(AD m).drop 39) (c:=.int .i64 (m.p.q)) (r:=(C3 m).drop 5) (by rw[show 39=35+4 from rfl,HZ];rfl) K
theorem Gi(m:MsgC)(K:AV→Prop):RK (A5 none ((AD m).drop 43)) K=K (.str (m.a)):=HW (l:=(AD m).drop 43) (c:=.str (m.a)) (r:=(C3 m).drop 9) (by rw[show 43=35+8 from rfl,HZ];rfl) K
theorem Gj(m:MsgC)(K:AV→Prop):RK (A5 none ((AD m).drop 44)) K=K (.int .i64 (m.nx)):=HW (l:=(AD m).drop 44) (c:=.int .i64 (m.nx)) (r:=(C3 m).drop 10) (by rw[show 44=35+9 from rfl,HZ];rfl) K
theorem GM(m:MsgC)(K:AV→Prop):RK (A5 none ((AD m).drop 45)) K=K (.int .i64 (m.ht)):=HW (l:=(AD m).drop 45) (c:=.int .i64 (m.ht)) (r:=(C3 m).drop 11) (by rw[show 45=35+10 from rfl,HZ];rfl) K
theorem SL(m:MsgC)(K:AV→Prop):RK (A5 none ((AD m).drop 46)) K=K (.int .i64 (m.pr.c)):=HW (l:=(AD m).drop 46) (c:=.int .i64 (m.pr.c)) (r:=(C3 m).drop 12) (by rw[show 46=35+11 from rfl,HZ];rfl) K
theorem SN(m:MsgC)(K:AV→Prop):RK (A5 none ((AD m).drop 48)) K=K (.int .i64 (m.cl.c)):=HW (l:=(AD m).drop 48) (c:=.int .i64 (m.cl.c)) (r:=(C3 m).drop 14) (by rw[show 48=35+13 from rfl,HZ];rfl) K
theorem Ff(m:MsgC)(K:AV→Prop):RK (A5 (some 8) ((AD m).drop 35)) K=K (.agg (m.p.cs)):=LQ (l:=(AD m).drop 35) (cs:=m.p.cs) (r:=(C3 m).drop 8) (by rw[show 35=35+0 from rfl,HZ];rfl) rfl K
theorem b4A(m:MsgC)(K:AV→Prop):RK (A5 (some 2) ((AD m).drop 35)) K=K (.agg ([.str m.p.s,.int .i64 m.p.sc])):=LQ (l:=(AD m).drop 35) (cs:=[.str m.p.s,.int .i64 m.p.sc]) (r:=(C3 m).drop 2) (by rw[show 35=35+0 from rfl,HZ];rfl) rfl K
theorem Oj(m:MsgC)(K:AV→Prop):RK (A5 (some 2) ((AD m).drop 37)) K=K (.agg ([.str m.p.d,.int .i64 m.p.dc])):=LQ (l:=(AD m).drop 37) (cs:=[.str m.p.d,.int .i64 m.p.dc]) (r:=(C3 m).drop 4) (by rw[show 37=35+2 from rfl,HZ];rfl) rfl K
theorem Gk(m:MsgC)(K:AV→Prop):RK (A5 (some 2) ((AD m).drop 46)) K=K (.agg (m.pr.cs)):=LQ (l:=(AD m).drop 46) (cs:=m.pr.cs) (r:=(C3 m).drop 13) (by rw[show 46=35+11 from rfl,HZ];rfl) rfl K
theorem Gl(m:MsgC)(K:AV→Prop):RK (A5 (some 2) ((AD m).drop 48)) K=K (.agg (m.cl.cs)):=LQ (l:=(AD m).drop 48) (cs:=m.cl.cs) (r:=(C3 m).drop 15) (by rw[show 48=35+13 from rfl,HZ];rfl) rfl K
theorem Ht(m:MsgC)(K:AV→Prop):RK (A5 none (AD m)) K=K (.int .i64 m.k):=HW (l:=AD m) (c:=.int .i64 m.k) (r:=m.h.cs++C3 m) rfl K
theorem H0(m:MsgC)(K:AV→Prop):RK (A5 none ((AD m).drop 0)) K=K (.int .i64 m.k):=Ht m K
theorem Zy(m:MsgC)(K:AV→Prop):RK (A5 none ((AD m).drop 1)) K=K (.int .i64 m.h.h):=HW (l:=(AD m).drop 1) (c:=.int .i64 m.h.h) (r:=.int .i64 m.h.t::m.h.rt++C3 m) rfl K
theorem mg2(m:MsgC)(K:AV→Prop):RK (A5 none ((AD m).drop 2)) K=K (.int .i64 m.h.t):=HW (l:=(AD m).drop 2) (c:=.int .i64 m.h.t) (r:=m.h.rt++C3 m) rfl K
theorem Py(m:MsgC)(K:AV→Prop):RK (A5 (some 34) ((AD m).drop 1)) K=K (.agg m.h.cs):=LQ (l:=(AD m).drop 1) (cs:=m.h.cs) (r:=C3 m) rfl (by simp[BF]) K
theorem Ez(m:MsgC)(K:AV→Prop):RK (A5 (some 50) (AD m)) K=K (.agg (AD m)):=LQ (l:=AD m) (cs:=AD m) (r:=[]) (by simp) (C4 m) K
theorem EL(m:MsgC)(K:AV→Prop):RK (A5 (some 50) ((AD m).drop 0)) K=K (.agg (AD m)):=Ez m K
theorem DZ(m:MsgC):(AD m).map AV.store=AD m:=by
 rw[AD,FI]
 congr 1
 rw[Gg,CX,HdC.cs,CX,CX,Co];rfl
theorem a0v:∀ (a b vs:List AV) (i:Nat),splice (a++b) (a.length+i) vs=a++splice b i vs
 | [],b,vs,i=>by simp
 | c::a,b,vs,i=>by
  rw[AJ,show a.length+1+i=(a.length+i)+1 by omega,Bi,sp_s,a0v a b vs i,Bi]
theorem Yr(m:MsgC)(i:Nat)(vs:List AV):splice (AD m) (35+i) vs=Gg m++splice (C3 m) i vs:=by
 have:=a0v (Gg m) (C3 m) vs i
 rwa [Pt]at this
theorem SZ(m:MsgC)(q:PfC):splice (AD m) 46 q.cs=AD { m with pr:=q }:=by
 rw[show 46=35+11 from rfl,Yr];rfl
theorem S0(m:MsgC)(q:PfC):splice (AD m) 48 q.cs=AD { m with cl:=q }:=by
 rw[show 48=35+13 from rfl,Yr];rfl
theorem a0w:∀ (a b vs:List AV),a.length=vs.length→splice (a++b) 0 vs=vs++b
 | [],b,[],_=>by simp[sp_0n]
 | c::a,b,v::vs,h=>by
  rw[Bi,sp_0,a0w a b vs (by simpa using h),Bi]
def Jx:MsgC:=⟨0,default,default,[],0,0,zeroF,zeroF⟩
end Go.Proofs.YtfgihnhoocnmdaaGreatDoor
