import Derived.Test.YthdcogkdacnheaaGreatDoorK12
import Derived.Test.YthdcogkdacnheaaGreatDoorK11
namespace Go.Proofs.YthdcogkdacnheaaGreatDoor
set_option linter.all false
set_option maxHeartbeats 9000000
section
open Go
def ltS(a b:List UInt8):Bool:=Op.bytesLess a b
theorem a5R(a b:List UInt8):ltS a b=true↔a<b:=by simp[ltS,bytesLess_eq]
theorem b2V(a b:List UInt8):ltS a b=false↔¬ a<b:=by rw[← a5R];simp
theorem strSTO:STO ltS where
 irr a:=(b2V a a).2 (b0A a)
 tr a b c h1 h2:=by rw[a5R]at *;exact List.lt_trans h1 h2
 tot a b h1 h2:=lst_tot ((b2V _ _).1 h1) ((b2V _ _).1 h2)
def a0z(L:List PrP)(k:List UInt8):Nat:=(L.takeWhile fun p=>ltS p.1 k).length
def a1I(L:List PrP)(k:List UInt8):Bool:=decide (a0z L k<L.length)&&decide ((L.getD (a0z L k) default).1=k)
def a4g(L:List PrP)(k:List UInt8):List UInt8:=if a1I L k=true then (L.getD (a0z L k) default).2 else []
def a3o(L:List PrP)(k v:List UInt8):List PrP:=L.take (a0z L k)++[(k,v)]++L.drop (if a1I L k=true then a0z L k+1 else a0z L k)
def a2a(L:List PrP):Prop:=L.Pairwise fun p q=>ltS p.1 q.1=true
theorem a4B(L:List PrP)(k:List UInt8):a0z L k≤L.length:=(List.takeWhile_sublist _).length_le
theorem a3s(k:List UInt8):∀ (L:List PrP) (i:Nat),i<a0z L k→ltS (L.getD i default).1 k=true
 | [],i,h=>by simp[a0z]at h
 | y::r,i,h=>by
  unfold a0z at h
  rw[List.takeWhile_cons]at h
  split at h
  ·rename_i hy
   cases i with
   | zero=>exact hy
   | succ i=>exact a3s k r i (by simpa[a0z]using h)
  ·simp at h
theorem a9C(k:List UInt8):∀ (L:List PrP),a0z L k<L.length→ltS (L.getD (a0z L k) default).1 k=false
 | [],h=>by simp at h
 | y::r,h=>by
  by_cases hy:ltS y.1 k=true
  ·have e:a0z (y::r) k=a0z r k+1:=by unfold a0z;rw[List.takeWhile_cons,if_pos hy];simp
   rw[e]at h ⊢
   exact a9C k r (by simpa using h)
  ·have e:a0z (y::r) k=0:=by unfold a0z;rw[List.takeWhile_cons,if_neg hy];rfl
   rw[e];simpa using hy
theorem riseS_get{L:List PrP}(h:a2a L){i j:Nat}(hij:i<j)(hj:j<L.length):ltS (L.getD i default).1 (L.getD j default).1=true:=by
 have:=List.pairwise_iff_getElem.1 h i j (by omega) hj hij
 simpa[List.getD,hj,show i<L.length by omega]using this
theorem pos_behind{L:List PrP}(h:a2a L)(k:List UInt8)(i:Nat)(h1:a0z L k≤i)(h2:i<L.length):ltS (L.getD i default).1 k=false:=by
 have h3:=a9C k L (by omega)
 by_cases e:i=a0z L k
 ·rw[e];exact h3
 ·cases hq:ltS (L.getD i default).1 k with
  | false=>rfl
  | true=>rw[strSTO.tr _ _ _ (riseS_get h (by omega) h2) hq]at h3;cases h3
theorem pos_unique{L:List PrP}(h:a2a L)(k:List UInt8)(n:Nat)(hn:n≤L.length)(h1:∀ i,i<n→ltS (L.getD i default).1 k=true)(h2:∀ i,n≤i→i<L.length→ltS (L.getD i default).1 k=false):a0z L k=n:=by
 have hp:=a4B L k
 rcases Nat.lt_trichotomy (a0z L k) n with g|g|g
 ·have a:=h1 _ g
  rw[pos_behind h k _ (Nat.le_refl _) (by omega)]at a;cases a
 ·exact g
 ·have a:=a3s k L n g
  rw[h2 n (Nat.le_refl _) (by omega)]at a;cases a
theorem setS_rise{L:List PrP}(h:a2a L)(k v:List UInt8):a2a (a3o L k v):=by
 have hp:=a4B L k
 have ht:∀ x∈L.take (a0z L k),ltS x.1 k=true:=fun x hx=>by
  obtain ⟨i,hi,rfl⟩:=List.getElem_of_mem hx
  have hi':i<a0z L k∧i<L.length:=by simp at hi;omega
  have:=a3s k L i hi'.1
  simpa[List.getD,hi'.2]using this
 have hd:∀ x∈L.drop (if a1I L k=true then a0z L k+1 else a0z L k),ltS k x.1=true:=fun x hx=>by
  by_cases hh:a1I L k=true
  ·rw[if_pos hh]at hx
   simp only[a1I,Bool.and_eq_true,decide_eq_true_eq]at hh
   obtain ⟨i,hi,rfl⟩:=List.getElem_of_mem hx
   rw[List.length_drop]at hi
   have:=riseS_get h (i:=a0z L k) (j:=a0z L k+1+i) (by omega) (by omega)
   rw[hh.2]at this
   rw[List.getElem_drop]
   have e:L.getD (a0z L k+1+i) default=L[a0z L k+1+i]:=by simp[List.getD,show a0z L k+1+i<L.length by omega]
   rwa [e]at this
  ·rw[if_neg hh]at hx
   obtain ⟨i,hi,rfl⟩:=List.getElem_of_mem hx
   rw[List.length_drop]at hi
   have h1:=pos_behind h k (a0z L k+i) (by omega) (by omega)
   have h2:(L.getD (a0z L k+i) default).1≠k:=fun e=>by
    by_cases h0:i=0
    ·subst h0
     refine hh ?_
     simp only[a1I,Bool.and_eq_true,decide_eq_true_eq]
     exact ⟨by omega,e⟩
    ·have a:=riseS_get h (i:=a0z L k) (j:=a0z L k+i) (by omega) (by omega)
     have b:=a9C k L (by omega)
     rw[e]at a;rw[a]at b;cases b
   have h3:ltS k (L.getD (a0z L k+i) default).1=true:=by
    cases hq:ltS k (L.getD (a0z L k+i) default).1 with
    | true=>rfl
    | false=>exact absurd (strSTO.tot _ _ h1 hq) h2
   rw[List.getElem_drop]
   have e:L.getD (a0z L k+i) default=L[a0z L k+i]:=by simp[List.getD,show a0z L k+i<L.length by omega]
   rwa [e]at h3
 unfold a3o a2a
 rw[List.append_assoc]
 refine List.pairwise_append.2 ⟨List.Pairwise.sublist (List.take_sublist _ _) h,List.pairwise_cons.2 ⟨hd,List.Pairwise.sublist (List.drop_sublist _ _) h⟩,fun a ha b hb=>?_⟩
 rcases List.mem_cons.1 hb with rfl|hb
 ·exact ht a ha
 ·exact strSTO.tr _ _ _ (ht a ha) (hd b hb)
end
section
open Go.RowKit
theorem wZ{A:Prop}(h:A:=by first|exact True.intro|exact wK|exact wD|(simp only[a0f,Bool.not_eq_true',Bool.not_eq_false',decide_eq_true_eq,decide_eq_false_iff_not]at *;exact wD)|(show (_:Nat)≤_;omega)|(show (_:Int)≤_;omega)|fail):A:=h
theorem tt{A:Prop}(e:A=True:=by with_reducible rfl):A:=of_eq_true e
/-- `B` gives `A`: the walk's short ways. -/
def Im(B A:Prop):Prop:=B→A
theorem iA{A B:Prop}(l:OM A):Im B (A∧B):=fun h=>⟨l,h⟩
theorem iB{P:Program}{want:Bool}{d:Option Nat}{k:AK}{s:St}{K:St→Prop}{B:Prop}{b:Bool}(h:Im B (Sp b (fun b=>gW P want d k s K (.bool b)))):Im B (gW P want d k s K (.bool b)):=h
theorem iC{P:Program}{t e:ACode}{Q:AExit→St→Prop}{s:St}{B:Prop}{b:Bool}(h:Im B (Sp b (fun b=>a5G P t e Q s (.bool b)))):Im B (a5G P t e Q s (.bool b)):=h
theorem iD{c:Bool}{a b:AV}{K:AV→Prop}{B:Prop}(h:Im B (Sp c (fun c=>a6f (.bool c) a b K))):Im B (a6f (.bool c) a b K):=h
theorem iN{b:Bool}{K:Bool→Prop}{B:Prop}(h:Im B (Sp b (fun b=>K (!b)))):Im B (Sp (!b) K):=h
theorem iT{b:Bool}{K:Bool→Prop}(f:a0f (b=true)):Im (K true) (Sp b K):=fun h=>Sp_t f h
theorem iF{b:Bool}{K:Bool→Prop}(f:a0f (b=false)):Im (K false) (Sp b K):=fun h=>Sp_f f h
theorem iR{P:Program}{Q:AExit→St→Prop}{s:St}{t:OT}(hd:b1o t=true):Im (otF P t s (nQ Q)) (b0f P t Q s):=TreeW_intro hd
theorem iS{P:Program}{Q:AExit→St→Prop}{s:St}{t:OT}:Im (otW P t s (upQ Q)) (b0f P t Q s):=TreeW_all
theorem iU{Q:AExit→St→Prop}{s:St}:Im (nQ Q s) (upQ Q s):=a0a
theorem iX{A B:Prop}(e:Im B A:=by first|exact iT (by assumption)|exact iF (by assumption)|((with_reducible apply iN);(first|exact iT (by assumption)|exact iF (by assumption)))|fail):Im B A:=e
theorem iq{A B:Prop}(h:B)(e:Im B A:=by first|(with_reducible refine iA ?_;focus exact OM_a)|((first|(with_reducible apply iB)|(with_reducible apply iC)|(with_reducible apply iD));exact iX)|(with_reducible exact iR (by with_unfolding_all rfl))|(with_reducible exact iS)|(with_reducible exact iU)|fail):A:=e h
def I3(B C A:Prop):Prop:=B→C→A
theorem kB{P:Program}{want:Bool}{d:Option Nat}{k:AK}{s:St}{K:St→Prop}{B C:Prop}{b:Bool}(h:I3 B C (Sp b (fun b=>gW P want d k s K (.bool b)))):I3 B C (gW P want d k s K (.bool b)):=h
theorem kC{P:Program}{t e:ACode}{Q:AExit→St→Prop}{s:St}{B C:Prop}{b:Bool}(h:I3 B C (Sp b (fun b=>a5G P t e Q s (.bool b)))):I3 B C (a5G P t e Q s (.bool b)):=h
theorem kD{c:Bool}{a b:AV}{K:AV→Prop}{B C:Prop}(h:I3 B C (Sp c (fun c=>a6f (.bool c) a b K))):I3 B C (a6f (.bool c) a b K):=h
theorem kN{b:Bool}{K:Bool→Prop}{B C:Prop}(h:I3 B C (Sp b (fun b=>K (!b)))):I3 B C (Sp (!b) K):=h
theorem kL{x y:Int}{K:Bool→Prop}:I3 (∀ (_:x<y) (_:a0f (decide (x<y)=true)),K true) (∀ (_:y≤x) (_:a0f (decide (x<y)=false)),K false) (Sp (decide (x<y)) K):=wL
theorem kE{x y:Int}{K:Bool→Prop}:I3 (∀ (_:x≤y) (_:a0f (decide (x≤y)=true)),K true) (∀ (_:y<x) (_:a0f (decide (x≤y)=false)),K false) (Sp (decide (x≤y)) K):=wE
theorem kS{b:Bool}{K:Bool→Prop}:I3 (∀ (_:a0f (b=true)) (_:True),K true) (∀ (_:a0f (b=false)) (_:True),K false) (Sp b K):=fun h1 h2=>Sp_split (fun h=>h1 h trivial) (fun h=>h2 h trivial)
theorem kP{A B C:Prop}(h:I3 B C A)(d:B):I3 (∀ (_ _:True),True) C A:=fun _ h2=>h d h2
theorem kQ{A B C:Prop}(h:I3 B C A)(d:C):I3 B (∀ (_ _:True),True) A:=fun h1 _=>h h1 d
theorem kY{A B C:Prop}(e:I3 B C A:=by first|((with_reducible apply kP kL);(intro _ _;exfalso;omega))|((with_reducible apply kP kE);(intro _ _;exfalso;omega))|((with_reducible apply kQ kL);(intro _ _;exfalso;omega))|((with_reducible apply kQ kE);(intro _ _;exfalso;omega))|(with_reducible exact kL)|(with_reducible exact kE)|(with_reducible exact kS)|fail):I3 B C A:=e
theorem kX{A B C:Prop}(e:I3 B C A:=by first|((with_reducible apply kN);exact kY)|exact kY|fail):I3 B C A:=e
theorem jq{A B C:Prop}(h1:B)(h2:C)(e:I3 B C A:=by first|((first|(with_reducible apply kB)|(with_reducible apply kC)|(with_reducible apply kD));exact kX)|fail):A:=e h1 h2
theorem na{K:Nat→Prop}(h:∀ b,K b):a8D (lk []) K:=fun b _=>h b
theorem nb{o:Nat→Option (List AV)}{K B:Nat→Prop}(h:∀ b,B b→K b)(e:∀ b,(o b=none)=B b:=by intro b;first|(simp only[ln_cons2,ln_nil,and_true];first|done|rfl|fail)|rfl|fail):a8D o K:=fun b hb=>h b (e b▸hb)
theorem Hn:(∀ b:Bool,((!b)=true)=(b=false))∧(∀ b:Bool,((!b)=false)=(b=true))∧(∀ (p:Prop) [Decidable p],(decide p=true)=p)∧(∀ (p:Prop) [Decidable p],(decide p=false)↔¬ p):=⟨fun b=>by cases b<;>simp,fun b=>by cases b<;>simp,fun p _=>by simp,fun p _=>by simp⟩
theorem fo{A:Prop}(h:A:=by simp only[a0f,Hn];omega):A:=h
end
end Go.Proofs.YthdcogkdacnheaaGreatDoor
