import Derived.Test.YtfgihnhoocnmdaaGreatDoorJ12
import Derived.Sort.Walk0
namespace Go.Proofs.YtfgihnhoocnmdaaGreatDoor
set_option linter.all false
set_option maxHeartbeats 64000000
set_option maxRecDepth 100000
section
def Fx(s:List UInt8)(j:Nat):Prop:=(97≤(s.getD j 0).toNat∧(s.getD j 0).toNat≤122)∨j≠0∧((48≤(s.getD j 0).toNat∧(s.getD j 0).toNat≤57)∨(s.getD j 0).toNat=45)
def Hu(s:List UInt8):Prop:=s≠[]∧s.length≤12∧∀ j,j<s.length→Fx s j
open Classical in
noncomputable def Gm (s:List UInt8):Bool:=decide (Hu s)
theorem a5u{s:List UInt8}(h:Hu s):Gm s=true:=by simp[Gm,h]
theorem PD{s:List UInt8}(h:¬ Hu s):Gm s=false:=by simp[Gm,h]
theorem Yv{s:List UInt8}:Gm s=true↔Hu s:=by simp[Gm]
theorem Yw{s:List UInt8}{k:Nat}(hk:k<s.length)(h:¬ Fx s k):false=Gm s:=(PD fun g=>h (g.2.2 k hk)).symm
theorem a5v{s:List UInt8}{k:Nat}(hk:s.length≤k)(h:∀ j,j<k→Fx s j):Hu s↔s≠[]∧s.length≤12:=⟨fun g=>⟨g.1,g.2.1⟩,fun g=>⟨g.1,g.2,fun j hj=>h j (by omega)⟩⟩
theorem Yx{s:List UInt8}{k:Nat}(hk:s.length≤k)(h:∀ j,j<k→Fx s j):Gm s=decide (s.length≠0∧s.length≤12):=by
 unfold Gm
 rw[decide_eq_decide,a5v hk h,ne_eq, ← K4]
noncomputable def Ba (p:List UInt8) (c:Int):Bool:=Gm p&&decide (0≤c)&&decide (c≤999)
theorem Yy{s:List UInt8}{k:Nat}(h:∀ j,j<k→Fx s j)(g:Fx s k):∀ j,j<k+1→Fx s j:=fun j hj=>by
 by_cases e:j=k
 ·subst e;exact g
 ·exact h j (by omega)
end
section
open Go.RowKit
structure PktC where
 s:List UInt8
 sc:Int
 d:List UInt8
 dc:Int
 q:Int
 x:List UInt8
 th:Int
 ta:Int
 deriving DecidableEq,Inhabited
abbrev PktC.cs(p:PktC):List AV:=[.str p.s,.int .i64 p.sc,.str p.d,.int .i64 p.dc,.int .i64 p.q,.str p.x,.int .i64 p.th,.int .i64 p.ta]
structure EvC where
 k:Int
 p:PktC
 a:List UInt8
 e:List UInt8
 ec:Int
 h:Int
 deriving DecidableEq,Inhabited
abbrev EvC.cs(e:EvC):List AV:=[.int .i64 e.k,.str e.p.s,.int .i64 e.p.sc,.str e.p.d,.int .i64 e.p.dc,.int .i64 e.p.q,.str e.p.x,.int .i64 e.p.th,.int .i64 e.p.ta,.str e.a,.str e.e,.int .i64 e.ec,.int .i64 e.h]
structure EntC where
 p:PktC
 a:List UInt8
 s:Bool
 r:Bool
 w:Bool
 c:Bool
 t:Bool
 deriving DecidableEq,Inhabited
abbrev EntC.cs(e:EntC):List AV:=[.str e.p.s,.int .i64 e.p.sc,.str e.p.d,.int .i64 e.p.dc,.int .i64 e.p.q,.str e.p.x,.int .i64 e.p.th,.int .i64 e.p.ta,.str e.a,.bool e.s,.bool e.r,.bool e.w,.bool e.c,.bool e.t]
structure KeyC where
 e:List UInt8
 ec:Int
 o:Bool
 q:Int
 deriving DecidableEq,Inhabited
abbrev KeyC.cs(k:KeyC):List AV:=[.str k.e,.int .i64 k.ec,.bool k.o,.int .i64 k.q]
theorem b0m(a b:PktC):(decide (a.s=b.s)&&(decide (a.sc=b.sc)&&(decide (a.d=b.d)&&(decide (a.dc=b.dc)&&(decide (a.q=b.q)&&(decide (a.x=b.x)&&(decide (a.th=b.th)&&decide (a.ta=b.ta))))))))=decide (a=b):=by
 obtain ⟨a1,a2,a3,a4,a5,a6,a7,a8⟩:=a;obtain ⟨b1,b2,b3,b4,b5,b6,b7,b8⟩:=b
 simp[FE]
theorem a3w(a b:EvC):(decide (a.k=b.k)&&(decide (a.p.s=b.p.s)&&(decide (a.p.sc=b.p.sc)&&(decide (a.p.d=b.p.d)&&(decide (a.p.dc=b.p.dc)&&(decide (a.p.q=b.p.q)&&(decide (a.p.x=b.p.x)&&(decide (a.p.th=b.p.th)&&(decide (a.p.ta=b.p.ta)&&(decide (a.a=b.a)&&(decide (a.e=b.e)&&(decide (a.ec=b.ec)&&decide (a.h=b.h)))))))))))))=decide (a=b):=by
 obtain ⟨a0,⟨a1,a2,a3,a4,a5,a6,a7,a8⟩,a9,a10,a11,a12⟩:=a;obtain ⟨b0,⟨b1,b2,b3,b4,b5,b6,b7,b8⟩,b9,b10,b11,b12⟩:=b
 simp[FE,and_assoc]
noncomputable def BO (p:PktC):Bool:=Ba p.s p.sc&&Ba p.d p.dc&&decide (0≤p.th∧p.th≤1099511627776)&&decide (0≤p.ta∧p.ta≤1099511627776)&&decide (1≤p.q∧p.q≤1099511627776)&&decide (p.x.length≤200)
end
section
open Go
abbrev FF:=List UInt8 × Int
structure STO {α:Type} (lt:α→α→Bool):Prop where
 irr:∀ a,lt a a=false
 tr:∀ a b c,lt a b=true→lt b c=true→lt a c=true
 tot:∀ a b,lt a b=false→lt b a=false→a=b
theorem STO.asym{α:Type}{lt:α→α→Bool}(h:STO lt){a b:α}(g:lt a b=true):lt b a=false:=by
 cases hb:lt b a with
 | false=>rfl
 | true=>have:=h.tr _ _ _ g hb;rw[h.irr]at this;cases this
theorem a5a(a:List UInt8):¬ a<a:=List.lt_irrefl a
theorem a5b{a b:List UInt8}(h1:¬ a<b)(h2:¬ b<a):a=b:=List.le_antisymm (List.not_lt.1 h2) (List.not_lt.1 h1)
def KeyC.en(k:KeyC):FF:=(k.e,k.ec)
end
section
open Go
def BX(a b:List UInt8):Bool:=Op.bytesLess a b
theorem Ym(a b:List UInt8):BX a b=true↔a<b:=by simp[BX,bytesLess_eq]
theorem SC(a b:List UInt8):BX a b=false↔¬ a<b:=by rw[← Ym];simp
theorem strSTO:STO BX where
 irr a:=(SC a a).2 (a5a a)
 tr a b c h1 h2:=by rw[Ym]at *;exact List.lt_trans h1 h2
 tot a b h1 h2:=a5b ((SC _ _).1 h1) ((SC _ _).1 h2)
def AE(L:List PrP)(k:List UInt8):Nat:=(L.takeWhile fun p=>BX p.1 k).length
def A9(L:List PrP)(k:List UInt8):Bool:=decide (AE L k<L.length)&&decide ((L.getD (AE L k) default).1=k)
def C2(L:List PrP)(k:List UInt8):List UInt8:=if A9 L k=true then (L.getD (AE L k) default).2 else []
def A7(L:List PrP)(k v:List UInt8):List PrP:=L.take (AE L k)++[(k,v)]++L.drop (if A9 L k=true then AE L k+1 else AE L k)
def DT(L:List PrP):Prop:=L.Pairwise fun p q=>BX p.1 q.1=true
theorem IV(L:List PrP)(k:List UInt8):AE L k≤L.length:=(List.takeWhile_sublist _).length_le
theorem PZ(k:List UInt8):∀ (L:List PrP) (i:Nat),i<AE L k→BX (L.getD i default).1 k=true
 | [],i,h=>by simp[AE]at h
 | y::r,i,h=>by
  unfold AE at h
  rw[List.takeWhile_cons]at h
  split at h
  ·rename_i hy
   cases i with
   | zero=>exact hy
   | succ i=>exact PZ k r i (by simpa[AE]using h)
  ·simp at h
theorem PY(k:List UInt8):∀ (L:List PrP),AE L k<L.length→BX (L.getD (AE L k) default).1 k=false
 | [],h=>by simp at h
 | y::r,h=>by
  by_cases hy:BX y.1 k=true
  ·have e:AE (y::r) k=AE r k+1:=by unfold AE;rw[List.takeWhile_cons,Af hy];simp
   rw[e]at h ⊢
   exact PY k r (by simpa using h)
  ·have e:AE (y::r) k=0:=by unfold AE;rw[List.takeWhile_cons,Ad hy];rfl
   rw[e];simpa using hy
theorem KM{L:List PrP}(h:DT L){i j:Nat}(hij:i<j)(hj:j<L.length):BX (L.getD i default).1 (L.getD j default).1=true:=by
 have:=J6.1 h i j (by omega) hj hij
 simpa[List.getD,hj,show i<L.length by omega]using this
theorem ZL{L:List PrP}(h:DT L)(k:List UInt8)(i:Nat)(h1:AE L k≤i)(h2:i<L.length):BX (L.getD i default).1 k=false:=by
 have h3:=PY k L (by omega)
 by_cases e:i=AE L k
 ·rw[e];exact h3
 ·cases hq:BX (L.getD i default).1 k with
  | false=>rfl
  | true=>rw[strSTO.tr _ _ _ (KM h (by omega) h2) hq]at h3;cases h3
theorem ZN{L:List PrP}(h:DT L)(k:List UInt8)(n:Nat)(hn:n≤L.length)(h1:∀ i,i<n→BX (L.getD i default).1 k=true)(h2:∀ i,n≤i→i<L.length→BX (L.getD i default).1 k=false):AE L k=n:=by
 have hp:=IV L k
 rcases Nat.lt_trichotomy (AE L k) n with g|g|g
 ·have a:=h1 _ g
  rw[ZL h k _ (A8 _) (by omega)]at a;cases a
 ·exact g
 ·have a:=PZ k L n g
  rw[h2 n (A8 _) (by omega)]at a;cases a
theorem Qc{L:List PrP}(h:DT L)(k v:List UInt8):DT (A7 L k v):=by
 have hp:=IV L k
 have ht:∀ x∈L.take (AE L k),BX x.1 k=true:=fun x hx=>by
  obtain ⟨i,hi,rfl⟩:=Do hx
  have hi':i<AE L k∧i<L.length:=by simp at hi;omega
  have:=PZ k L i hi'.1
  simpa[List.getD,hi'.2]using this
 have hd:∀ x∈L.drop (if A9 L k=true then AE L k+1 else AE L k),BX k x.1=true:=fun x hx=>by
  by_cases hh:A9 L k=true
  ·rw[Af hh]at hx
   simp only[A9,AP,Bs]at hh
   obtain ⟨i,hi,rfl⟩:=Do hx
   rw[Cc]at hi
   have:=KM h (i:=AE L k) (j:=AE L k+1+i) (by omega) (by omega)
   rw[hh.2]at this
   rw[List.getElem_drop]
   have e:L.getD (AE L k+1+i) default=L[AE L k+1+i]:=by simp[List.getD,show AE L k+1+i<L.length by omega]
   rwa [e]at this
  ·rw[Ad hh]at hx
   obtain ⟨i,hi,rfl⟩:=Do hx
   rw[Cc]at hi
   have h1:=ZL h k (AE L k+i) (by omega) (by omega)
   have h2:(L.getD (AE L k+i) default).1≠k:=fun e=>by
    by_cases h0:i=0
    ·subst h0
     refine hh ?_
     simp only[A9,AP,Bs]
     exact ⟨by omega,e⟩
    ·have a:=KM h (i:=AE L k) (j:=AE L k+i) (by omega) (by omega)
     have b:=PY k L (by omega)
     rw[e]at a;rw[a]at b;cases b
   have h3:BX k (L.getD (AE L k+i) default).1=true:=by
    cases hq:BX k (L.getD (AE L k+i) default).1 with
    | true=>rfl
    | false=>exact absurd (strSTO.tot _ _ h1 hq) h2
   rw[List.getElem_drop]
   have e:L.getD (AE L k+i) default=L[AE L k+i]:=by simp[List.getD,show AE L k+i<L.length by omega]
   rwa [e]at h3
 unfold A7 DT
 rw[DC]
 refine List.pairwise_append.2 ⟨List.Pairwise.sublist (List.take_sublist _ _) h,List.pairwise_cons.2 ⟨hd,List.Pairwise.sublist (List.drop_sublist _ _) h⟩,fun a ha b hb=>?_⟩
 rcases AZ.1 hb with rfl|hb
 ·exact ht a ha
 ·exact strSTO.tr _ _ _ (ht a ha) (hd b hb)
end
section
open Go.RowKit
theorem wZ{A:Prop}(h:A:=by first|exact True.intro|exact wK|exact wD|(simp only[Ac,G3,Bool.not_eq_false',Bs,Hf]at *;exact wD)|(show (_:Nat)≤_;omega)|(show (_:Int)≤_;omega)|fail):A:=h
theorem tt{A:Prop}(e:A=True:=by with_reducible rfl):A:=of_eq_true e
/-- `B` gives `A`: the walk's short ways. -/
def Im(B A:Prop):Prop:=B→A
theorem iA{A B:Prop}(l:OM A):Im B (A∧B):=fun h=>⟨l,h⟩
theorem iB{P:Program}{want:Bool}{d:Option Nat}{k:AK}{s:St}{K:St→Prop}{B:Prop}{b:Bool}(h:Im B (Sp b (fun b=>gW P want d k s K (.bool b)))):Im B (gW P want d k s K (.bool b)):=h
theorem iC{P:Program}{t e:ACode}{Q:AExit→St→Prop}{s:St}{B:Prop}{b:Bool}(h:Im B (Sp b (fun b=>He P t e Q s (.bool b)))):Im B (He P t e Q s (.bool b)):=h
theorem iD{c:Bool}{a b:AV}{K:AV→Prop}{B:Prop}(h:Im B (Sp c (fun c=>Hx (.bool c) a b K))):Im B (Hx (.bool c) a b K):=h
theorem iN{b:Bool}{K:Bool→Prop}{B:Prop}(h:Im B (Sp b (fun b=>K (!b)))):Im B (Sp (!b) K):=h
theorem iT{b:Bool}{K:Bool→Prop}(f:Ac (b=true)):Im (K true) (Sp b K):=fun h=>Uu f h
theorem iF{b:Bool}{K:Bool→Prop}(f:Ac (b=false)):Im (K false) (Sp b K):=fun h=>Ut f h
theorem iR{P:Program}{Q:AExit→St→Prop}{s:St}{t:OT}(hd:IC t=true):Im (GN P t s (nQ Q)) (MZ P t Q s):=a1W hd
theorem iS{P:Program}{Q:AExit→St→Prop}{s:St}{t:OT}:Im (D1 P t s (N8 Q)) (MZ P t Q s):=a1V
theorem iU{Q:AExit→St→Prop}{s:St}:Im (nQ Q s) (N8 Q s):=b3C
theorem iX{A B:Prop}(e:Im B A:=by first|exact iT (by assumption)|exact iF (by assumption)|((with_reducible apply iN);(first|exact iT (by assumption)|exact iF (by assumption)))|fail):Im B A:=e
theorem iq{A B:Prop}(h:B)(e:Im B A:=by first|(with_reducible refine iA ?_;focus exact a1U)|((first|(with_reducible apply iB)|(with_reducible apply iC)|(with_reducible apply iD));exact iX)|(with_reducible exact iR (by with_unfolding_all rfl))|(with_reducible exact iS)|(with_reducible exact iU)|fail):A:=e h
def I3(B C A:Prop):Prop:=B→C→A
theorem kB{P:Program}{want:Bool}{d:Option Nat}{k:AK}{s:St}{K:St→Prop}{B C:Prop}{b:Bool}(h:I3 B C (Sp b (fun b=>gW P want d k s K (.bool b)))):I3 B C (gW P want d k s K (.bool b)):=h
theorem kC{P:Program}{t e:ACode}{Q:AExit→St→Prop}{s:St}{B C:Prop}{b:Bool}(h:I3 B C (Sp b (fun b=>He P t e Q s (.bool b)))):I3 B C (He P t e Q s (.bool b)):=h
theorem kD{c:Bool}{a b:AV}{K:AV→Prop}{B C:Prop}(h:I3 B C (Sp c (fun c=>Hx (.bool c) a b K))):I3 B C (Hx (.bool c) a b K):=h
theorem kN{b:Bool}{K:Bool→Prop}{B C:Prop}(h:I3 B C (Sp b (fun b=>K (!b)))):I3 B C (Sp (!b) K):=h
theorem kL{x y:Int}{K:Bool→Prop}:I3 (∀ (_:x<y) (_:Ac (decide (x<y)=true)),K true) (∀ (_:y≤x) (_:Ac (decide (x<y)=false)),K false) (Sp (decide (x<y)) K):=wL
theorem kE{x y:Int}{K:Bool→Prop}:I3 (∀ (_:x≤y) (_:Ac (decide (x≤y)=true)),K true) (∀ (_:y<x) (_:Ac (decide (x≤y)=false)),K false) (Sp (decide (x≤y)) K):=wE
theorem kS{b:Bool}{K:Bool→Prop}:I3 (∀ (_:Ac (b=true)) (_:True),K true) (∀ (_:Ac (b=false)) (_:True),K false) (Sp b K):=fun h1 h2=>QS (fun h=>h1 h trivial) (fun h=>h2 h trivial)
theorem kP{A B C:Prop}(h:I3 B C A)(d:B):I3 (∀ (_ _:True),True) C A:=fun _ h2=>h d h2
theorem kQ{A B C:Prop}(h:I3 B C A)(d:C):I3 B (∀ (_ _:True),True) A:=fun h1 _=>h h1 d
theorem kY{A B C:Prop}(e:I3 B C A:=by first|((with_reducible apply kP kL);(intro _ _;exfalso;omega))|((with_reducible apply kP kE);(intro _ _;exfalso;omega))|((with_reducible apply kQ kL);(intro _ _;exfalso;omega))|((with_reducible apply kQ kE);(intro _ _;exfalso;omega))|(with_reducible exact kL)|(with_reducible exact kE)|(with_reducible exact kS)|fail):I3 B C A:=e
theorem kX{A B C:Prop}(e:I3 B C A:=by first|((with_reducible apply kN);exact kY)|exact kY|fail):I3 B C A:=e
theorem jq{A B C:Prop}(h1:B)(h2:C)(e:I3 B C A:=by first|((first|(with_reducible apply kB)|(with_reducible apply kC)|(with_reducible apply kD));exact kX)|fail):A:=e h1 h2
theorem na{K:Nat→Prop}(h:∀ b,K b):EG (lk []) K:=fun b _=>h b
theorem nb{o:Nat→Option (List AV)}{K B:Nat→Prop}(h:∀ b,B b→K b)(e:∀ b,(o b=none)=B b:=by intro b;first|(simp only[Bt,Bu,Bc];first|done|rfl|fail)|rfl|fail):EG o K:=fun b hb=>h b (e b▸hb)
theorem Hn:(∀ b:Bool,((!b)=true)=(b=false))∧(∀ b:Bool,((!b)=false)=(b=true))∧(∀ (p:Prop) [Decidable p],(decide p=true)=p)∧(∀ (p:Prop) [Decidable p],(decide p=false)↔¬ p):=⟨fun b=>by cases b<;>simp,fun b=>by cases b<;>simp,fun p _=>by simp,fun p _=>by simp⟩
theorem fo{A:Prop}(h:A:=by simp only[Ac,Hn];omega):A:=h
theorem qa{A:Prop}(h:A:=by simp[Am,lk,r_two,rl_cons,rl_nil,Br,al_agg,al_int,AV.alias,view,l_all,A5, *]):A:=h
theorem qb{A:Prop}(h:A:=by first|(simp[Br,lk,r_two,rl_cons,rl_nil,al_agg,al_bool,AV.alias,view,l_all,A5, *];done)|fail):A:=h
theorem qc{A:Prop}(h:A:=by first|(simp[lk, *];done)|fail):A:=h
theorem qd{A:Prop}(h:A:=by first|(simp[Am,lk, *];done)|fail):A:=h
theorem ZU{A:Prop}(h:A:=by first|(simp[Am,lk,r_two,rl_cons,rl_nil,Br,al_agg,al_bool,AV.alias,view,l_all, *];done)|fail):A:=h
theorem P0{A:Prop}(h:A:=by first|(simp[Am,lk,r_two,rl_cons,rl_nil,Br,al_int,al_bool];done)|fail):A:=h
theorem KI{A:Prop}(h:A:=by first|(simp[Am,lk,BR,Br, *];done)|fail):A:=h
theorem Mc{A:Prop}(h:A:=by first|(simp[Am,lk,BR,Br];done)|fail):A:=h
theorem BA{A:Prop}(h:A:=by first|(simp[Am,lk];done)|fail):A:=h
theorem ZV{A:Prop}(h:A:=by first|(simp[Br,lk,r_two,rl_cons,rl_nil,al_agg,al_bool,AV.alias,view,l_all, *];done)|fail):A:=h
theorem NR{A:Prop}(h:A:=by first|(simp[BR,Br,lk,view,l_all,A5,AV.alias, *];done)|fail):A:=h
theorem JG{A:Prop}(h:A:=by first|(simp[BR,Br,lk];done)|fail):A:=h
theorem Ic{A:Prop}(h:A:=by first|(simp[BR,Br,lk];done)|fail):A:=h
end
end Go.Proofs.YtfgihnhoocnmdaaGreatDoor
