import Derived.Test.YtfgihnhoocnmdaaGreatDoorK18
import Derived.Test.YtfgihnhoocnmdaaGreatDoorK11
import Derived.Test.YtfgihnhoocnmdaaGreatDoorK17
import Derived.Test.YtfgihnhoocnmdaaGreatDoorK12
import Derived.Test.YtfgihnhoocnmdaaGreatDoorK16
import Derived.Test.YtfgihnhoocnmdaaGreatDoorK14
import Derived.Test.YtfgihnhoocnmdaaGreatDoorK15
import Derived.Lib.Join
import Derived.Shelf.Strings.Repeat
import Derived.Shelf.Strings.OnBuilder
namespace Go.Proofs.YtfgihnhoocnmdaaGreatDoor
set_option linter.all false
set_option maxHeartbeats 9000000
section
open Go.RowKit Go.Lib
set_option maxRecDepth 100000
theorem b0q:a2Q []:=List.Pairwise.nil
structure StN (L:List PrP) (i:Nat):Prop where
 rise:a2Q L
 may:∀ q∈L,a0Z q.1 q.2=true
 len:L.length≤i
theorem StN.I{L:List PrP}{i:Nat}(h:StN L i)(hi:i≤1000):StI L:=⟨h.rise,h.may,by have:=h.len;omega⟩
theorem StN.nil:StN [] 0:=⟨b0q,(fun q h=>by cases h),Nat.le_refl _⟩
theorem StN.mono{L:List PrP}{i:Nat}(h:StN L i):StN L (i+1):=⟨h.rise,h.may,by have:=h.len;omega⟩
theorem setS_mem{L:List PrP}{k v:List UInt8}{q:PrP}(h:q∈a2f L k v):q=(k,v)∨q∈L:=by
 unfold a2f at h
 rcases List.mem_append.1 h with h|h
 ·rcases List.mem_append.1 h with h|h
  ·exact .inr (List.mem_of_mem_take h)
  ·exact .inl (by simpa using h)
 ·exact .inr (List.mem_of_mem_drop h)
theorem a3m(L:List PrP)(k v:List UInt8):(a2f L k v).length≤L.length+1:=by
 have hp:=a5y L k
 unfold a2f
 split<;>simp<;>omega
theorem StN.set{L:List PrP}{i:Nat}(h:StN L i){k v:List UInt8}(hm:a0Z k v=true):StN (a2f L k v) (i+1):=
 ⟨setS_rise h.rise k v,(fun q hq=>by
  rcases setS_mem hq with rfl|hq
  ·exact hm
  ·exact h.may q hq),by have:=h.len;have:=a3m L k v;omega⟩
theorem StN.put{L:List PrP}{i:Nat}(h:StN L i)(k v:List UInt8):StN (a7f L k v) (i+1):=by
 unfold a7f
 split
 ·rename_i hm;exact h.set hm
 ·exact h.mono
theorem ofP_none{k:Int}{p:List UInt8}{c q:Int}(h:a1S p c=false):ofP k p c q=[]:=by
 unfold ofP;rw[if_pos (.inr (by simp[h]))]
theorem ofP_some{k:Int}{p:List UInt8}{c:Int}(hk:4≤k∧k≤7)(h:a1S p c=true):ofP k p c 0≠[]:=by
 unfold ofP
 rw[if_neg (by rintro (h1|h1);exact wordP_in (by omega) h1;exact h1 h),if_neg (by omega),if_pos rfl]
 simp[a7C]
theorem mayPr_of{k:Int}{p:List UInt8}{c:Int}{v:List UInt8}(hk:4≤k∧k≤7)(hv:1≤v.length∧v.length≤64):a0Z (ofP k p c 0) v=a1S p c:=by
 have hl:=a7P k p c 0
 cases h:a1S p c with
 | false=>rw[ofP_none h];simp[a0Z]
 | true=>
  have:=List.length_pos_iff.2 (ofP_some hk h)
  unfold a0Z
  rw[decide_eq_true (by omega)]
theorem b3p(v:Int)(h:0≤v∧v≤72057594037927935):1≤(pn v).length:=by
 rcases Nat.eq_zero_or_pos (pn v).length with h0|h0
 ·have e:=List.eq_nil_of_length_eq_zero h0
  have:=b3d [] [] v h
  rw[e]at this
  have h2:nx [] 0=(v,0,0):=by simpa using this
  have:=b9k
  rw[h2]at this
  exact absurd rfl this
 ·exact h0
theorem enc_pos{e:Es}(h:e.may=true):1≤e.enc.length:=by
 have h1:=b3p (a3w e.cl) (by unfold a3w;split<;>omega)
 simp only[Es.enc,List.length_append];omega
theorem put_law{L:List PrP}{p:List UInt8}{c:Int}{e:Es}:(c1R p c e=0↔(a1S p c&&e.may)=true)∧c1s L p c e=if (a1S p c&&e.may)=true then a2f L (ofP 7 p c 0) (a4H e).1 else L:=by
 unfold c1R c1s
 cases hm:e.may with
 | false=>
  have he:a4H e=([],1):=by simp only[a4H,hm,Bool.false_eq_true,if_false]
  rw[he];simp
 | true=>
  have he:a4H e=(e.enc,0):=by simp only[a4H,hm,if_true]
  rw[he]
  have hk:=mayPr_of (k:=7) (p:=p) (c:=c) (v:=e.enc) (by omega) ⟨enc_pos hm,enc_len hm⟩
  simp only[if_true,b3Y,a7f,hk,Bool.and_true]
  cases a1S p c<;>simp
theorem setN_law{L:List PrP}{k:Int}{p:List UInt8}{c n:Int}:(b3Z k p c n=0↔(a1S p c&&okN k n)=true)∧c1g L k p c n=if (a1S p c&&okN k n)=true then a2f L (ofP k p c 0) (pn n) else L:=by
 unfold b3Z c1g
 cases ho:okN k n with
 | false=>simp
 | true=>
  have h1:4≤k∧k≤6∧1≤n∧n≤1099511627777:=by
   simp only[okN,okK,Bool.and_eq_true,decide_eq_true_eq]at ho;omega
  have hk:=mayPr_of (k:=k) (p:=p) (c:=c) (v:=pn n) (by omega) ⟨b3p n (by omega),by have:=a0I n;omega⟩
  simp only[if_true,b3Y,a7f,hk,Bool.and_true]
  cases a1S p c<;>simp
end
section
open Go.RowKit Go.Sort Go.Shelf
set_option maxRecDepth 100000
theorem b5w(y:PrP)(r:List PrP)(k:List UInt8):a0v (y::r) k=if ltS y.1 k=true then a0v r k+1 else 0:=by
 unfold a0v
 rw[List.takeWhile_cons]
 split<;>simp
end
section
set_option maxRecDepth 100000
theorem mem_found{L:List PrP}(h:a2Q L){k v:List UInt8}(hm:(k,v)∈L):a1G L k=true∧a4E L k=v:=by
 obtain ⟨i,hi,he⟩:=List.getElem_of_mem hm
 have hg:L.getD i default=(k,v):=by simp[List.getD,hi,he]
 have hp:a0v L k=i:=pos_unique h k i (by omega) (fun j hj=>by
  have:=riseS_get h hj hi
  rwa [hg]at this) (fun j h1 h2=>by
  by_cases e:j=i
  ·subst e;rw[hg];exact strSTO.irr k
  ·have h3:=riseS_get h (i:=i) (j:=j) (by omega) h2
   rw[hg]at h3
   cases hq:ltS (L.getD j default).1 k with
   | false=>rfl
   | true=>have:=strSTO.tr _ _ _ h3 hq;rw[strSTO.irr]at this;cases this)
 have hh:a1G L k=true:=by simp only[a1G,hp,hg,hi,decide_true,Bool.and_self]
 exact ⟨hh,by rw[getS_t hh,hp,hg]⟩
theorem found_mem{L:List PrP}{k:List UInt8}(hh:a1G L k=true):(k,a4E L k)∈L:=by
 have hl:=has_lt hh
 have hk:(L.getD (a0v L k) default).1=k:=by
  simp only[a1G,Bool.and_eq_true,decide_eq_true_eq]at hh;exact hh.2
 have:(k,a4E L k)=L.getD (a0v L k) default:=by
  rw[getS_t hh];exact Prod.ext hk.symm rfl
 rw[this,List.getD,List.getElem?_eq_getElem hl,Option.getD_some]
 exact List.getElem_mem hl
theorem b2L(L:List PrP)(k v:List UInt8):(k,v)∈a2f L k v:=by simp[a2f]
theorem set_mem_old{L:List PrP}{k v k' v':List UInt8}(hm:(k',v')∈L)(hk:k'≠k):(k',v')∈a2f L k v:=by
 have hp:=a5y L k
 cases hh:a1G L k with
 | false=>rw[setS_f hh];unfold a7Q;rw[← List.take_append_drop (a0v L k) L]at hm;rcases List.mem_append.1 hm with h|h<;>simp[h]
 | true=>
  have hl:=has_lt hh
  have hkk:(L.getD (a0v L k) default).1=k:=by
   simp only[a1G,Bool.and_eq_true,decide_eq_true_eq]at hh;exact hh.2
  rw[a2f,if_pos hh]
  rw[← List.take_append_drop (a0v L k) L,List.drop_eq_getElem_cons hl]at hm
  rcases List.mem_append.1 hm with h|h
  ·simp[h]
  ·rcases List.mem_cons.1 h with h|h
   ·have e:L[a0v L k]=L.getD (a0v L k) default:=by simp[List.getD,hl]
    rw[e]at h
    rw[← h]at hkk
    exact absurd hkk hk
   ·simp[h]
theorem get_set_old{L:List PrP}(h:a2Q L){k v k':List UInt8}(hk:k'≠k):a1G (a2f L k v) k'=a1G L k'∧a4E (a2f L k v) k'=a4E L k':=by
 cases hh:a1G L k' with
 | true=>exact mem_found (setS_rise h k v) (set_mem_old (found_mem hh) hk)
 | false=>
  have h2:a1G (a2f L k v) k'=false:=by
   cases h3:a1G (a2f L k v) k' with
   | false=>rfl
   | true=>
    rcases setS_mem (found_mem h3) with e|e
    ·exact absurd (congrArg Prod.fst e) hk
    ·rw[(mem_found h e).1]at hh;cases hh
  exact ⟨h2,by rw[getS_f h2,getS_f hh]⟩
end
section
open Go.RowKit
theorem findK_map{α:Type}[DecidableEq α](ks:List Kd)(ag:Bool)(κ:α→AV)(h:∀ a b,a4x ks ag (κ a) (κ b)=some (decide (a=b)))(a:α)(l:List α):∀ i,a8D ks ag (κ a) (l.map κ) i=some ((l.idxOf? a).map (· + i)):=by
 induction l with
 | nil=>intro i;rfl
 | cons x r ih=>
  intro i
  simp only[List.map_cons,a8D,h,List.idxOf?_cons]
  by_cases hx:a=x
  ·subst hx;simp
  ·have hx2:(x==a)=false:=by simp[Ne.symm hx]
   simp only[hx,decide_false,ih,hx2]
   cases r.idxOf? a<;>simp<;>omega
theorem findM_map{α:Type}[DecidableEq α](ks:List Kd)(ag:Bool)(κ:α→AV)(h:∀ a b,a4x ks ag (κ a) (κ b)=some (decide (a=b)))(a:α)(l:List α):a0S ks ag (κ a) (l.map κ)=some (l.idxOf? a):=by
 simp only[a0S,h,Option.bind_some,findK_map ks ag κ h]
 cases l.idxOf? a<;>simp
theorem findM_no{α:Type}[DecidableEq α](ks:List Kd)(ag:Bool)(κ:α→AV)(h:∀ a b,a4x ks ag (κ a) (κ b)=some (decide (a=b)))(a:α)(l:List α)(hn:a ∉ l):a0S ks ag (κ a) (l.map κ)=some none:=by
 rw[findM_map ks ag κ h,List.idxOf?_eq_none_iff.2 hn]
theorem findM_snoc{α:Type}[DecidableEq α](ks:List Kd)(ag:Bool)(κ:α→AV)(h:∀ a b,a4x ks ag (κ a) (κ b)=some (decide (a=b)))(a:α)(l:List α)(hn:a ∉ l):a0S ks ag (κ a) (l.map κ++[κ a])=some (some l.length):=by
 have:=findM_map ks ag κ h a (l++[a])
 rw[List.map_append,List.map_singleton]at this
 rw[this]
 congr 1
 induction l with
 | nil=>simp[List.idxOf?_cons]
 | cons x r ih=>
  simp only[List.mem_cons,not_or]at hn
  have hx:(x==a)=false:=by simp[Ne.symm hn.1]
  have ih':=ih hn.2 (by rw[findM_map ks ag κ h a (r++[a]) |>.symm];simp)
  simp only[List.cons_append,List.idxOf?_cons,hx,ih',List.length_cons]
  simp
theorem snoc_set{α:Type}(l:List α)(z v:α)(k:Nat)(h:l.length=k):(l++[z]).set k v=l++[v]:=by
 rw[List.set_append_right _ _ (by omega)];simp[h]
theorem snoc_get{α:Type}(l:List α)(z d:α)(k:Nat)(h:l.length=k):(l++[z]).getD k d=z:=by
 simp[List.getD, ← h]
theorem b4A(bs:List Nat)(n:Nat)(hn:n ∉ bs):∀ i,a5C (n:Int) (bs++[n]) i=some (bs.length+i):=by
 induction bs with
 | nil=>intro i;simp[a5C]
 | cons b r ih=>
  intro i
  simp only[List.mem_cons,not_or]at hn
  have hb:¬ (b:Int)=n:=by omega
  simp only[List.cons_append,a5C,hb,if_false,ih hn.2,List.length_cons]
  congr 1;omega
theorem a4K(k i:Nat):a5C (k:Int) (List.range k++[k]) i=some (k+i):=by
 have:=b4A (List.range k) k (by simp) i
 simpa using this
def b2Q(e:List UInt8 × Int):AV:=.agg [.str e.1,.int .i64 e.2]
theorem b1W(a b:List UInt8 × Int):a4x [.s,.i] true (b2Q a) (b2Q b)=some (decide (a=b)):=by
 obtain ⟨x,y⟩:=a;obtain ⟨z,w⟩:=b
 simp[b2Q,a4x,eqC,eq1,Prod.ext_iff]
end
section
open Go.RowKit
set_option maxRecDepth 100000
structure HdC where
 h:Int
 t:Int
 r:List Int
 n:r.length=32
 deriving DecidableEq
instance:Inhabited HdC:=⟨⟨0,0,List.replicate 32 0,by simp⟩⟩
theorem HdC.ext3{a b:HdC}(h1:a.h=b.h)(h2:a.t=b.t)(h3:a.r=b.r):a=b:=by
 obtain ⟨a1,a2,a3,a4⟩:=a;obtain ⟨b1,b2,b3,b4⟩:=b
 simp only at h1 h2 h3
 subst h1;subst h2;subst h3;rfl
def HdC.rt(x:HdC):List AV:=x.r.map (.int .u8 ·)
abbrev HdC.cs(x:HdC):List AV:=.int .i64 x.h :: .int .i64 x.t::x.rt
theorem a0M(x:HdC):x.rt.length=32:=by simp[HdC.rt,x.n]
theorem a0J(x:HdC):x.rt.take 32=x.rt:=by rw[List.take_of_length_le];rw[a0M];omega
theorem a3O(x:HdC):x.rt.map AV.store=x.rt:=by simp[HdC.rt,AV.store,AV.alias]
theorem a9O:∀ (l m:List AV),l.length=m.length→splice l 0 m=m
 | [],[],_=>rfl
 | c::l,d::m,h=>by rw[sp_0,a9O l m (by simpa using h)]
theorem c2v(l:List AV)(x:HdC)(h:l.length=32):splice l 0 x.rt=x.rt:=a9O l _ (by rw[h,a0M])
theorem c1f:(default:HdC).rt=List.replicate 32 (.int .u8 0):=by simp[HdC.rt,default,instInhabitedHdC]
theorem a5q:(default:HdC).h=0:=rfl
theorem a5t:(default:HdC).t=0:=rfl
theorem a0E:[AV.int .u8 0,.int .u8 0,.int .u8 0,.int .u8 0,.int .u8 0,.int .u8 0,.int .u8 0,.int .u8 0,.int .u8 0,.int .u8 0,.int .u8 0,.int .u8 0,.int .u8 0,.int .u8 0,.int .u8 0,.int .u8 0,.int .u8 0,.int .u8 0,.int .u8 0,.int .u8 0,.int .u8 0,.int .u8 0,.int .u8 0,.int .u8 0,.int .u8 0,.int .u8 0,.int .u8 0,.int .u8 0,.int .u8 0,.int .u8 0,.int .u8 0,.int .u8 0]=(default:HdC).rt:=by rw[c1f];rfl
theorem b3D:∀ (a b:List Int),a.length=b.length→eqC (List.replicate a.length .i) (a.map (AV.int .u8 ·)) (b.map (AV.int .u8 ·))=some (decide (a=b))
 | [],[],_=>rfl
 | x::a,y::b,h=>by
  rw[List.length_cons,List.replicate_succ,List.map_cons,List.map_cons,eqC_i,b3D a b (by simpa using h),oand_some]
  simp
theorem a5n(x y:HdC):eqC [.i,.i,.i,.i,.i,.i,.i,.i,.i,.i,.i,.i,.i,.i,.i,.i,.i,.i,.i,.i,.i,.i,.i,.i,.i,.i,.i,.i,.i,.i,.i,.i] x.rt y.rt=some (decide (x.r=y.r)):=by
 have:=b3D x.r y.r (by rw[x.n,y.n])
 rw[x.n]at this
 exact this
theorem a5u(a b:HdC):(decide (a.h=b.h)&&(decide (a.t=b.t)&&decide (a.r=b.r)))=decide (a=b):=by
 rw[Bool.eq_iff_iff]
 simp only[Bool.and_eq_true,decide_eq_true_eq]
 exact ⟨fun ⟨h1,h2,h3⟩=>HdC.ext3 h1 h2 h3,fun h=>by subst h;exact ⟨rfl,rfl,rfl⟩⟩
def hds(l:List HdC):List (List AV):=l.map HdC.cs
theorem gdH(l:List HdC)(i:Nat)(h:i<l.length):(hds l).getD i []=(l.getD i default).cs:=by
 simp[hds,List.getD,h]
theorem a0F(l:List HdC):(hds l).length=l.length:=by simp[hds]
def hdK(x:HdC):AV:=.agg x.cs
theorem b1s(a b:HdC):a4x [.i,.i,.i,.i,.i,.i,.i,.i,.i,.i,.i,.i,.i,.i,.i,.i,.i,.i,.i,.i,.i,.i,.i,.i,.i,.i,.i,.i,.i,.i,.i,.i,.i,.i] true (hdK a) (hdK b)=some (decide (a=b)):=by
 simp only[hdK,a4x,eqC_i,a5n,oand_some,a5u]
def a6X(a:Int):AV:=.agg [.int .i64 a]
theorem a9Y(a b:Int):a4x [.i] true (a6X a) (a6X b)=some (decide (a=b)):=by
 simp only[a6X,a4x,eqC_i,eqC_nil,oand_some,Bool.and_true]
theorem a1Q(x y:HdC):splice x.rt 0 y.rt=y.rt:=c2v _ y (a0M x)
abbrev K34:List Kd:=[.i,.i,.i,.i,.i,.i,.i,.i,.i,.i,.i,.i,.i,.i,.i,.i,.i,.i,.i,.i,.i,.i,.i,.i,.i,.i,.i,.i,.i,.i,.i,.i,.i,.i]
theorem idx_get{α:Type}[DecidableEq α]:∀ {l:List α} {a:α} {i:Nat},l.idxOf? a=some i→l[i]?=some a
 | [],_,_,h=>by simp at h
 | x::l,a,i,h=>by
  rw[List.idxOf?_cons]at h
  by_cases hx:x=a
  ·subst hx;simp at h;subst h;rfl
  ·have hx2:(x==a)=false:=by simp[hx]
   rw[hx2]at h
   simp only[Bool.false_eq_true,if_false,Option.map_eq_some_iff]at h
   obtain ⟨j,hj,rfl⟩:=h
   simpa using idx_get hj
theorem idx_ex{α:Type}[DecidableEq α]{l:List α}{a:α}(h:a∈l):∃ i,l.idxOf? a=some i∧i<l.length:=by
 cases hi:l.idxOf? a with
 | none=>exact absurd h (List.idxOf?_eq_none_iff.1 hi)
 | some i=>exact ⟨i,rfl,(List.getElem?_eq_some_iff.1 (idx_get hi)).1⟩
theorem b3X(n i:Nat)(h:i<n):(List.range n).getD i 0=i:=by simp[List.getD,h]
theorem b2R:∀ (n s i j:Nat),i<n→a5C ((s+i:Nat):Int) (List.range' s n) j=some (i+j)
 | 0,s,i,j,h=>by omega
 | n+1,s,i,j,h=>by
  rw[List.range'_succ,a5C]
  by_cases hi:i=0
  ·subst hi;simp
  ·rw[if_neg (by omega)]
   have:=b2R n (s+1) (i - 1) (j+1) (by omega)
   rw[show s+1+(i - 1)=s+i by omega]at this
   rw[this];congr 1;omega
theorem b6l(n i:Nat)(h:i<n):a5C (i:Int) (List.range n) 0=some i:=by
 have:=b2R n 0 i 0 h
 rw[List.range_eq_range']
 simpa using this
theorem b2X(l:List Int)(i:Nat)(h:i<l.length):(l.map (AV.int .i64 ·)).getD i .undef=.int .i64 (l.getD i 0):=by simp[List.getD,h]
theorem ints_set(l:List Int)(i:Nat)(v:Int):(l.map (AV.int .i64 ·)).set i (.int .i64 v)=(l.set i v).map (AV.int .i64 ·):=by simp[List.map_set]
end
section
def stH(l:List HdC)(a:Int):Option HdC:=l.find? (fun x=>decide (x.h=a))
def b1Y(h:HdC):List HdC→List HdC
 | []=>[h]
 | x::r=>if x.h<h.h then x::b1Y h r else h::x::r
def Asc(l:List HdC):Prop:=l.Pairwise fun x y=>x.h<y.h
theorem stH_some{l:List HdC}{a:Int}{x:HdC}(h:stH l a=some x):x∈l∧x.h=a:=by
 unfold stH at h
 exact ⟨List.mem_of_find?_eq_some h,by simpa using List.find?_some h⟩
theorem stH_none{l:List HdC}{a:Int}(h:stH l a=none):∀ x∈l,x.h≠a:=by
 unfold stH at h
 intro x hx e
 have:=List.find?_eq_none.1 h x hx
 simp[e]at this
def Apart(l:List HdC):Prop:=l.Pairwise fun x y=>x.h≠y.h
theorem Apart.one{l:List HdC}(h:Apart l){x y:HdC}(hx:x∈l)(hy:y∈l)(e:x.h=y.h):x=y:=by
 induction l with
 | nil=>cases hx
 | cons z r ih=>
  obtain ⟨h1,h2⟩:=List.pairwise_cons.1 h
  rcases List.mem_cons.1 hx with hx'|hx'<;>rcases List.mem_cons.1 hy with hy'|hy'
  ·rw[hx',hy']
  ·subst hx';exact absurd e (h1 _ hy')
  ·subst hy';exact absurd e.symm (h1 _ hx')
  ·exact ih h2 hx' hy'
theorem Asc.apart{l:List HdC}(h:Asc l):Apart l:=List.Pairwise.imp (fun h=>by omega) h
theorem a3G(h:HdC):∀ l:List HdC,(b1Y h l).Perm (h::l)
 | []=>.refl _
 | x::r=>by
  unfold b1Y
  split
  ·exact ((a3G h r).cons x).trans (.swap h x r)
  ·exact .refl _
theorem insH_asc{h:HdC}:∀ {l:List HdC},Asc l→(∀ x∈l,x.h≠h.h)→Asc (b1Y h l)
 | [],_,_=>by simp[b1Y,Asc]
 | x::r,ha,hn=>by
  obtain ⟨h1,h2⟩:=List.pairwise_cons.1 ha
  unfold b1Y
  split
  ·rename_i hlt
   refine List.pairwise_cons.2 ⟨fun y hy=>?_,insH_asc h2 fun y hy=>hn y (by simp[hy])⟩
   rcases List.mem_cons.1 ((a3G h r).mem_iff.1 hy) with rfl|hy
   ·exact hlt
   ·exact h1 _ hy
  ·have hx:=hn x (by simp)
   refine List.pairwise_cons.2 ⟨fun y hy=>?_,ha⟩
   rcases List.mem_cons.1 hy with rfl|hy
   ·omega
   ·have:=h1 _ hy;omega
theorem a5Q:∀ {l m:List HdC},Asc l→Asc m→l.Perm m→l=m
 | [],m,_,_,hp=>(List.nil_perm.1 hp).symm
 | x::l,[],_,_,hp=>by simpa using hp.length_eq
 | x::l,y::m,h1,h2,hp=>by
  obtain ⟨a1,a2⟩:=List.pairwise_cons.1 h1
  obtain ⟨b1,b2⟩:=List.pairwise_cons.1 h2
  have e:x=y:=by
   rcases List.mem_cons.1 (hp.mem_iff.1 (List.mem_cons_self ..)) with e|hx
   ·exact e
   ·rcases List.mem_cons.1 (hp.mem_iff.2 (List.mem_cons_self ..)) with e|hy
    ·exact e.symm
    ·have:=a1 _ hy;have:=b1 _ hx;omega
  subst e
  rw[a5Q a2 b2 (List.Perm.cons_inv hp)]
def srt(l:List HdC):List HdC:=l.foldr b1Y []
theorem a7r:∀ l:List HdC,(srt l).Perm l
 | []=>.refl _
 | x::r=>(a3G x _).trans ((a7r r).cons x)
theorem b2O:∀ {l:List HdC},Apart l→Asc (srt l)
 | [],_=>List.Pairwise.nil
 | x::r,h=>by
  obtain ⟨h1,h2⟩:=List.pairwise_cons.1 h
  exact insH_asc (b2O h2) fun y hy=>(h1 y ((a7r r).mem_iff.1 hy)).symm
end
section
open Go.RowKit Go.Lib
set_option maxRecDepth 100000
def c0F(p:PktC)(ht tm:Int):Bool:=(decide (0<p.th)&&decide (p.th≤ht))||(decide (0<p.ta)&&decide (p.ta≤tm))
def a1E(p:PktC):List UInt8:=a4h (eight p.th.toNat++(eight p.ta.toNat++a4h p.x))
theorem a2H(p:PktC):(a1E p).length=32:=a0U _
def ofK(k:Int)(p:PktC):EvC:=⟨k,p,[],[],0,0⟩
def b1j(L:List PrP)(k:List UInt8):List PrP:=if a1G L k=true then L.take (a0v L k)++L.drop (a0v L k+1) else L
theorem a5P(L:List PrP)(k:List UInt8):(b1j L k).Sublist L:=by
 unfold b1j
 split
 ·have:=List.Sublist.append (List.Sublist.refl (L.take (a0v L k))) (List.drop_sublist_drop_left L (Nat.le_succ (a0v L k)))
  rwa [List.take_append_drop]at this
 ·exact List.Sublist.refl _
theorem drop_rise{L:List PrP}(h:a2Q L)(k:List UInt8):a2Q (b1j L k):=List.Pairwise.sublist (a5P L k) h
theorem drop_I{L:List PrP}(h:StI L)(k:List UInt8):StI (b1j L k):=
 ⟨drop_rise h.rise k,fun q hq=>h.may q ((a5P L k).subset hq),Nat.le_trans (a5P L k).length_le h.len⟩
theorem set_I{L:List PrP}(h:StI L){k v:List UInt8}(hm:a0Z k v=true)(hl:L.length≤999):StI (a2f L k v):=by
 have:=StN.set (i:=999) ⟨h.rise,h.may,hl⟩ hm
 exact ⟨this.rise,this.may,this.len⟩
open Classical in
noncomputable def a1u (L:List PrP) (p:List UInt8) (c:Int) (d:List UInt8) (th ta:Int):PktC:=⟨p,c,(a3k L p c).1.p,(a3k L p c).1.c,a5w L 4 p c,d,th,ta⟩
noncomputable def a4l (L:List PrP) (p:List UInt8) (c:Int) (d:List UInt8) (th ta:Int):Int:=
 if (a3k L p c).2=false then 11 else if (a3k L p c).1.cl=true then 12 else if 1099511627776<a5w L 4 p c then 19 else if a6h (a1u L p c d th ta)=false then 1 else 0
noncomputable def a5M (L:List PrP) (q:PktC):List PrP:=a2f (a2f L (ofP 4 q.s q.sc 0) (pn (q.q+1))) (ofP 1 q.s q.sc q.q) (a1E q)
end
section
open Go.RowKit Go.Shelf
set_option maxRecDepth 100000
theorem CP_clnH{P:Program}{ρ:Ren}(L:SlLaysE0.n41 P ρ)(e sz:Nat):CP P (ρ.f 41) [.hnil e sz] (.hnil e sz):=by
 intro W U vs hG hlen hv
 obtain ⟨v,rfl⟩:∃ v,vs=[v]:=by
  match vs,hlen with
  | [v],_=>exact ⟨v,rfl⟩
 have h:=hv 0 v _ rfl rfl
 cases h
 refine (AnyE.slices_Clone_nil L 0 0 W).mono ?_
 rintro e' W' ⟨rfl,rfl⟩
 exact ⟨_,U,rfl,.hnil e sz,trivial,Ext.refl _ U⟩
theorem c0O:CP Tryz.prog 199 [.hnil 145 4] (.hnil 145 4):=CP_clnH Tryz.cln199 _ _
theorem sxFia{A B:Prop}(h:B)(e:A=B:=by (simp (disch:=omega) only[*, ↓Ed,Eu, ↓reduceIte,reduceCtorEq,Nat.reduceAdd,Nat.reduceEqDiff,Nat.reduceLT,Nat.reduceLeDiff,Int.reduceToNat,Int.reduceEq,Int.reduceLT,Int.reduceLE,w64,List.length_append,List.length_map,List.length_cons,List.length_nil,Int.reduceAdd,Nat.zero_add,Nat.mul_one,hal,decide_true,Bool.true_and,eqC_i,eqC_s,eqC_nil,oand_some];first|done|rfl)):A:=e▸h
theorem b4S(c:Int):CP Tryz.prog 158 [.agg [.int .i64 c,.nils 145 4]] (.agg [.int .i64 c,.hnil 145 4]):=by
 refine b0i _ _ (by simp) ?_
 simp only[a6F];refine sxFia ?_
 repeat' ((first|exact tt|refine CallO_pure (c0O) ?_|refine na fun b=>?_|refine nb fun b hb=>?_|refine iq ?_|(refine jq ?_ ?_<;>intro h h')|refine Two_intro ?_ ?_|exact wZ|fail)<;>try refine sxFia ?_)
 rename_i b1
 obtain ⟨e1,e2⟩:=hb
 refine wpx_loop (fun _:Nat=>⟨lk [(1,.ptr b1 0),(2,.ptr b 0),(10,.int .i64 0),(11,.int .i64 0)],lk [(b1,[.int .i64 c,.hnil 145 4]),(b,[.int .i64 0,.sl (some 145) 4 []])]⟩) (fun _=>True) (fun _=>0) 0 trivial (Le_lit (by simp[LeL,lk, *])) ?_
 intro i hi
 refine sxFia ?_
 repeat' ((first|exact tt|refine na fun b=>?_|refine nb fun b hb=>?_|refine iq ?_|(refine jq ?_ ?_<;>intro h h')|refine Two_intro ?_ ?_|exact wZ|fail)<;>try refine sxFia ?_)
theorem b4Z(k:Int):CP Tryz.prog 91 [.int .i64 k] (.bool (decide (1≤k∧k≤5))):=by
 have h:=a6B k 1 5
 refine b2m _ _ (by simp) ?_
 simp only[a9u];refine sxFia ?_
 repeat' ((first|exact tt|refine CallO_pure (h) ?_|refine na fun b=>?_|refine nb fun b hb=>?_|refine iq ?_|(refine jq ?_ ?_<;>intro h h')|refine Two_intro ?_ ?_|exact wZ|fail)<;>try refine sxFia ?_)
abbrev m0A:AV:=.agg [.int .i64 2,.int .i64 0,.int .i64 0,.int .u8 0,.int .u8 0,.int .u8 0,.int .u8 0,.int .u8 0,.int .u8 0,.int .u8 0,.int .u8 0,.int .u8 0,.int .u8 0,.int .u8 0,.int .u8 0,.int .u8 0,.int .u8 0,.int .u8 0,.int .u8 0,.int .u8 0,.int .u8 0,.int .u8 0,.int .u8 0,.int .u8 0,.int .u8 0,.int .u8 0,.int .u8 0,.int .u8 0,.int .u8 0,.int .u8 0,.int .u8 0,.int .u8 0,.int .u8 0,.int .u8 0,.int .u8 0,.str [113],.int .i64 1,.str [112],.int .i64 0,.int .i64 1,.str [],.int .i64 1,.int .i64 0,.str [],.int .i64 0,.int .i64 1,.int .i64 0,.nils 145 4,.int .i64 0,.nils 145 4]
abbrev m0P:AV:=.agg [.int .i64 2,.int .i64 0,.int .i64 0,.int .u8 0,.int .u8 0,.int .u8 0,.int .u8 0,.int .u8 0,.int .u8 0,.int .u8 0,.int .u8 0,.int .u8 0,.int .u8 0,.int .u8 0,.int .u8 0,.int .u8 0,.int .u8 0,.int .u8 0,.int .u8 0,.int .u8 0,.int .u8 0,.int .u8 0,.int .u8 0,.int .u8 0,.int .u8 0,.int .u8 0,.int .u8 0,.int .u8 0,.int .u8 0,.int .u8 0,.int .u8 0,.int .u8 0,.int .u8 0,.int .u8 0,.int .u8 0,.str [113],.int .i64 1,.str [112],.int .i64 0,.int .i64 1,.str [],.int .i64 1,.int .i64 0,.str [],.int .i64 0,.int .i64 1,.int .i64 0,.hnil 145 4,.int .i64 0,.nils 145 4]
set_option maxHeartbeats 4000000 in
theorem b1I:CP Tryz.prog 93 [m0A] m0P:=by
 have hK:=b4Z 2
 rw[decide_eq_true (by omega)]at hK
 have hN:CP Tryz.prog 159 [.int .i64 2] (.bool false):=by
  refine b2n _ _ (by simp) ?_
  have f1:a0d (decide ((2:Int)=4)=false):=rfl
  have f2:a0d (decide ((2:Int)=5)=false):=rfl
  simp only[a9v];refine sxFia ?_
  repeat' ((first|exact tt|refine na fun b=>?_|refine nb fun b hb=>?_|refine iq ?_|(refine jq ?_ ?_<;>intro h h')|refine Two_intro ?_ ?_|exact wZ|fail)<;>try refine sxFia ?_)
 have f1:a0d (decide ((2:Int)=1)=false):=rfl
 have f3:a0d (decide ((2:Int)=3)=false):=rfl
 have f5:a0d (decide ((2:Int)=5)=false):=rfl
 have hC:=b4S 0
 refine b1A _ _ (by simp) ?_
 simp only[a7x];refine sxFia ?_
 repeat' ((first|exact tt|refine CallO_pure (hK) ?_|refine CallW_intro (hK) ?_|refine CallO_pure (hN) ?_|refine CallO_pure (hC) ?_|refine CallW_intro (hC) ?_|refine na fun b=>?_|refine nb fun b hb=>?_|refine iq ?_|(refine jq ?_ ?_<;>intro h h')|refine Two_intro ?_ ?_|exact wZ|fail)<;>try refine sxFia ?_)
abbrev p0:PktC:=⟨[113],1,[112],0,1,[],1,0⟩
theorem nm1{c:UInt8}(h:97≤c.toNat∧c.toNat≤122):a6T [c]=true:=by
 refine nameP_t ⟨by simp,by simp,fun k hk=>?_⟩
 obtain rfl:k=0:=by simpa using hk
 exact .inl (by simpa using h)
theorem mp0:a1S [112] 0=true:=by simp[a1S,nm1]
theorem mp1:a1S [113] 1=true:=by simp[a1S,nm1]
theorem c0C:a6h p0=true:=by simp[a6h,mp0,mp1]
theorem b7t:CP Tryz.prog 156 [.agg [.str [113],.int .i64 1,.str [112],.int .i64 0,.int .i64 1,.str [],.int .i64 1,.int .i64 0],.agg [.str [113],.int .i64 1,.str [112],.int .i64 0,.int .i64 1,.str [],.int .i64 1,.int .i64 0]] (.bool true):=by
 refine a8W _ _ (by simp) ?_
 simp only[a5e];refine sxFia ?_
 repeat' ((first|exact tt|refine na fun b=>?_|refine nb fun b hb=>?_|refine iq ?_|(refine jq ?_ ?_<;>intro h h')|refine Two_intro ?_ ?_|exact wZ|fail)<;>try refine sxFia ?_)
theorem b4U:CP Tryz.prog 197 [.hnil 145 4,.hnil 145 4,.fn 198] (.bool true):=by
 have f1:a0d (decide (((0:Nat):Int)=((0:Nat):Int))=true):=rfl
 refine a0r _ _ (by simp) ?_
 simp only[a0k];refine sxFia ?_
 repeat' ((first|exact tt|refine na fun b=>?_|refine nb fun b hb=>?_|refine iq ?_|(refine jq ?_ ?_<;>intro h h')|refine Two_intro ?_ ?_|exact wZ|fail)<;>try refine sxFia ?_)
 refine wpx_loop (fun _:Nat=>⟨lk [(15,.hnil 145 4),(16,.int .i64 0),(17,.int .i64 0)],lk []⟩) (fun _=>True) (fun _=>0) 0 trivial (Le_lit (by simp[LeL,lk, *])) ?_
 intro i hi
 refine sxFia ?_
 repeat' ((first|exact tt|refine na fun b=>?_|refine nb fun b hb=>?_|refine iq ?_|(refine jq ?_ ?_<;>intro h h')|refine Two_intro ?_ ?_|exact wZ|fail)<;>try refine sxFia ?_)
theorem b4V:CP Tryz.prog 157 [.agg [.int .i64 0,.nils 145 4],.agg [.int .i64 0,.nils 145 4]] (.bool true):=by
 refine a5I _ _ (by simp) ?_
 simp only[a3E];refine sxFia ?_
 repeat' ((first|exact tt|refine CallO_pure (b4U) ?_|refine na fun b=>?_|refine nb fun b hb=>?_|refine iq ?_|(refine jq ?_ ?_<;>intro h h')|refine Two_intro ?_ ?_|exact wZ|fail)<;>try refine sxFia ?_)
theorem b4W:CP Tryz.prog 157 [.agg [.int .i64 0,.nils 145 4],.agg [.int .i64 0,.hnil 145 4]] (.bool true):=by
 refine a5I _ _ (by simp) ?_
 simp only[a3E];refine sxFia ?_
 repeat' ((first|exact tt|refine CallO_pure (b4U) ?_|refine na fun b=>?_|refine nb fun b hb=>?_|refine iq ?_|(refine jq ?_ ?_<;>intro h h')|refine Two_intro ?_ ?_|exact wZ|fail)<;>try refine sxFia ?_)
set_option maxHeartbeats 4000000 in
theorem b3m:CP Tryz.prog 92 [m0A,m0P] (.bool true):=by
 refine b2j _ _ (by simp) ?_
 simp only[a9t];refine sxFia ?_
 repeat' ((first|exact tt|refine CallO_pure (b7t) ?_|refine CallO_pure (b4W) ?_|refine CallO_pure (b4V) ?_|refine na fun b=>?_|refine nb fun b hb=>?_|refine iq ?_|(refine jq ?_ ?_<;>intro h h')|refine Two_intro ?_ ?_|exact wZ|fail)<;>try refine sxFia ?_)
theorem c0Q:CP Tryz.prog 95 [.agg [.int .i64 0,.nils 145 4]] (.bool true):=by
 refine a0W _ _ (by simp) ?_
 simp only[a0u];refine sxFia ?_
 repeat' ((first|exact tt|refine na fun b=>?_|refine nb fun b hb=>?_|refine iq ?_|(refine jq ?_ ?_<;>intro h h')|refine Two_intro ?_ ?_|exact wZ|fail)<;>try refine sxFia ?_)
 refine wpx_loop (fun _:Nat=>⟨lk [(20,.hnil 145 4),(21,.int .i64 0),(22,.int .i64 0)],lk []⟩) (fun _=>True) (fun _=>0) 0 trivial (Le_lit (by simp[LeL,lk, *])) ?_
 intro i hi
 refine sxFia ?_
 repeat' ((first|exact tt|refine na fun b=>?_|refine nb fun b hb=>?_|refine iq ?_|(refine jq ?_ ?_<;>intro h h')|refine Two_intro ?_ ?_|exact wZ|fail)<;>try refine sxFia ?_)
set_option maxHeartbeats 4000000 in
theorem c0V:CP Tryz.prog 42 [m0A] (.bool true):=by
 have hK:=b4Z 2
 rw[decide_eq_true (by omega)]at hK
 have h1:=a6B 0 0 1099511627777
 have h2:=a6B 1 1 1099511627776
 rw[decide_eq_true (by omega)]at h1 h2
 have h3:=b3l p0 (by simp) (by simp) (by simp)
 rw[show a6h p0=true from c0C]at h3
 refine b3P _ _ (by simp) ?_
 simp only[b1g];refine sxFia ?_
 repeat' ((first|exact tt|refine CallO_pure (hK) ?_|refine CallW_intro (hK) ?_|refine CallO_pure (b1I) ?_|refine CallW_intro (b1I) ?_|refine CallO_pure (b3m) ?_|refine CallW_intro (b3m) ?_|refine CallO_pure (h1) ?_|refine CallO_pure (h2) ?_|refine CallO_pure (h3) ?_|refine CallO_pure (c0Q) ?_|refine na fun b=>?_|refine nb fun b hb=>?_|refine iq ?_|(refine jq ?_ ?_<;>intro h h')|refine Two_intro ?_ ?_|exact wZ|fail)<;>try refine sxFia ?_)
end
section
open Go.RowKit
set_option maxRecDepth 100000
theorem b4K(own:Option Nat)(z:List UInt8)(l:List (List UInt8))(hn:l.length≤140737488355328)(hl:(Lib.join l z).length≤140737488355328):CP Tryz.prog 204 [.sl own 1 (l.map fun p=>[AV.str p]),.str z] (.str (Lib.join l z)):=by
 intro W U us hG hlen hu
 match us,hlen with
 | [v,w],_=>
  have hw:=(hu 1 w _ rfl rfl).str_inv
  subst hw
  have hv:=hu 0 v _ rfl rfl
  generalize hels:(l.map fun p=>[AV.str p])=els at hv
  cases hv with
  | sl A cap _ _ b o _ f hcap hmax hA hs hc hvv=>
   by_cases h0:l=[]
   ·subst h0
    simp at hels
    subst hels
    refine (Tryz.strings_Join_none A cap ⟨z.toArray⟩ W).mono ?_
    rintro e W' ⟨rfl,rfl⟩
    exact ⟨_,U,rfl,.str [],trivial,Ext.refl _ _⟩
   ·have hll:els.length=l.length:=by simp[← hels]
    have hlt:0<els.length:=by rw[hll];exact List.length_pos_iff.2 h0
    obtain rfl:=hA hlt
    have hx:els.length=(l.map fun p=>(⟨p.toArray⟩:ByteArray)).length:=by simp[hll]
    have hj:((l.map fun p=>(⟨p.toArray⟩:ByteArray)).map (·.data.toList))=l:=by simp[List.map_map,Function.comp_def]
    have hbk:b<W.heap.size:=World.block_lt_of_cell? W ⟨b,o+0 * 1+0,none⟩ (hc 0 0 hlt (by omega)).1
    have:=Tryz.strings_Join b o cap (l.map fun p=>(⟨p.toArray⟩:ByteArray)) ⟨z.toArray⟩ W (fun j x hx=>by
     simp only[List.getElem?_map,Option.map_eq_some_iff]at hx
     obtain ⟨p,hp,rfl⟩:=hx
     have hjl:j<els.length:=by rw[hll];exact (List.getElem?_eq_some_iff.1 hp).1
     have h1:=(hc j 0 hjl (by omega)).1
     have h2:=hvv j [AV.str p] 0 (.str p) (by rw[← hels];simp[hp]) rfl
     rw[show o+j * 1+0=o+j by omega]at h1
     rw[h1]
     generalize f j 0=y at h2
     cases h2
     rfl) hbk (by rw[← hx,hll];exact hn) (by rw[← hx];exact hcap) (by rw[hj];exact hl)
    rw[hj, ← hx]at this
    refine this.mono ?_
    rintro e W' ⟨rfl,hB⟩
    exact ⟨_,U,rfl,.str _,trivial,⟨hB,fun _ _ _=>Iff.rfl⟩⟩
theorem a4w:∀ l:List (List UInt8),Lib.join l []=l.flatten
 | []=>rfl
 | [x]=>by simp[Lib.join,List.intercalate]
 | x::y::l=>by
  have:=a4w (y::l)
  simp only[Lib.join,List.intercalate]at this ⊢
  simp[List.intersperse,this]
theorem b0p:∀ n,Lib.repeatL [0] n=List.replicate n 0
 | 0=>rfl
 | n+1=>by rw[Lib.repeatL,b0p n,List.replicate_succ];rfl
theorem b6m(n:Nat)(hn:n≤1000000):CP Tryz.prog 205 [.str [0],.int .i64 (n:Int)] (.str (List.replicate n 0)):=
 CP_lib (vs:=[.string ⟨#[0]⟩,.int .i64 (n:Int)]) (v:=.string ⟨(List.replicate n (0:UInt8)).toArray⟩) rfl (by simp) rfl fun W=>
  (Tryz.strings_Repeat ⟨#[0]⟩ n W (by omega) (by have:(⟨#[0]⟩:ByteArray).size=1:=rfl;rw[this];omega)).mono fun e w' ⟨h1,h2⟩=>⟨by rw[h1, ← b0p],h2⟩
theorem b6w:∀ a:Fin 32,1≤a.val→IntKind.wrap .u64 ((BitVec.ofInt 64 (IntKind.wrap .u64 (0 - (a.val:Int))) &&& BitVec.ofInt 64 31).toNat:Int)=((32 - a.val:Nat):Int):=by decide
theorem rl1(a:Nat)(h:1≤a∧a≤31):IntKind.wrap .u64 ((BitVec.ofInt (IntKind.bits .u64) (IntKind.wrap .u64 (0 - (a:Int))) &&& BitVec.ofInt (IntKind.bits .u64) 31).toNat:Int)=((32 - a:Nat):Int):=b6w ⟨a,by omega⟩ h.1
theorem rl2(a:Nat)(h:1≤a∧a≤31):IntKind.wrap .u64 (32 - ((32 - a:Nat):Int))=(a:Int):=by
 show (32 - ((32 - a:Nat):Int)) % 18446744073709551616=a
 omega
theorem nn(n:Nat):(0≤(n:Int))=True:=by simp
theorem b3U(x:Wd)(a:Nat):(x <<< (32 - a)) ||| (x >>> a)=rot x a:=rfl
theorem sxShj{A B:Prop}(h:B)(e:A=B:=by (simp (disch:=omega) only[*, ↓Ed,Eu, ↓reduceIte,reduceCtorEq,Nat.reduceAdd,Nat.reduceEqDiff,Nat.reduceLT,Nat.reduceLeDiff,Int.reduceToNat,Int.reduceEq,Int.reduceLT,Int.reduceLE,w64,List.length_append,List.length_map,b4b,a9c,a5O,Int.toNat_natCast,nn,b3U];first|done|rfl)):A:=e▸h
theorem a8R(x:Wd)(a:Nat)(h:1≤a∧a≤31):CP Tryz.prog 250 [aW x,.int .i64 (0 - (a:Int))] (aW (rot x a)):=by
 refine a3r _ _ (by simp) ?_
 simp only[a1L,rl1 a h,rl2 a h,b4b,a9c,a5O,Int.toNat_natCast,nn, ↓Ed,Eu, ↓reduceIte,reduceCtorEq,Nat.reduceAdd,Nat.reduceEqDiff,Nat.reduceLT,Nat.reduceLeDiff,Int.reduceToNat,Int.reduceEq,Int.reduceLT,Int.reduceLE,w64,List.length_append,List.length_map,b4b,a9c,a5O,Int.toNat_natCast,nn,b3U]
 repeat' ((first|exact tt|refine na fun b=>?_|refine nb fun b hb=>?_|refine iq ?_|(refine jq ?_ ?_<;>intro h h')|refine Two_intro ?_ ?_|exact wZ|fail)<;>try refine sxShj ?_)
end
section
open Go.RowKit
set_option maxRecDepth 100000
abbrev z64:List AV:=[.int .u32 0,.int .u32 0,.int .u32 0,.int .u32 0,.int .u32 0,.int .u32 0,.int .u32 0,.int .u32 0,.int .u32 0,.int .u32 0,.int .u32 0,.int .u32 0,.int .u32 0,.int .u32 0,.int .u32 0,.int .u32 0,.int .u32 0,.int .u32 0,.int .u32 0,.int .u32 0,.int .u32 0,.int .u32 0,.int .u32 0,.int .u32 0,.int .u32 0,.int .u32 0,.int .u32 0,.int .u32 0,.int .u32 0,.int .u32 0,.int .u32 0,.int .u32 0,.int .u32 0,.int .u32 0,.int .u32 0,.int .u32 0,.int .u32 0,.int .u32 0,.int .u32 0,.int .u32 0,.int .u32 0,.int .u32 0,.int .u32 0,.int .u32 0,.int .u32 0,.int .u32 0,.int .u32 0,.int .u32 0,.int .u32 0,.int .u32 0,.int .u32 0,.int .u32 0,.int .u32 0,.int .u32 0,.int .u32 0,.int .u32 0,.int .u32 0,.int .u32 0,.int .u32 0,.int .u32 0,.int .u32 0,.int .u32 0,.int .u32 0,.int .u32 0]
theorem b4c(s:List UInt8):(a5T s 0).map aW=z64:=rfl
theorem b0u:([.int .u32 1116352408,.int .u32 1899447441,.int .u32 3049323471,.int .u32 3921009573,.int .u32 961987163,.int .u32 1508970993,.int .u32 2453635748,.int .u32 2870763221,.int .u32 3624381080,.int .u32 310598401,.int .u32 607225278,.int .u32 1426881987,.int .u32 1925078388,.int .u32 2162078206,.int .u32 2614888103,.int .u32 3248222580,.int .u32 3835390401,.int .u32 4022224774,.int .u32 264347078,.int .u32 604807628,.int .u32 770255983,.int .u32 1249150122,.int .u32 1555081692,.int .u32 1996064986,.int .u32 2554220882,.int .u32 2821834349,.int .u32 2952996808,.int .u32 3210313671,.int .u32 3336571891,.int .u32 3584528711,.int .u32 113926993,.int .u32 338241895,.int .u32 666307205,.int .u32 773529912,.int .u32 1294757372,.int .u32 1396182291,.int .u32 1695183700,.int .u32 1986661051,.int .u32 2177026350,.int .u32 2456956037,.int .u32 2730485921,.int .u32 2820302411,.int .u32 3259730800,.int .u32 3345764771,.int .u32 3516065817,.int .u32 3600352804,.int .u32 4094571909,.int .u32 275423344,.int .u32 430227734,.int .u32 506948616,.int .u32 659060556,.int .u32 883997877,.int .u32 958139571,.int .u32 1322822218,.int .u32 1537002063,.int .u32 1747873779,.int .u32 1955562222,.int .u32 2024104815,.int .u32 2227730452,.int .u32 2361852424,.int .u32 2428436474,.int .u32 2756734187,.int .u32 3204031479,.int .u32 3329325298]:List AV)=shaK.map aW:=rfl
end
section
open Go.RowKit
set_option maxRecDepth 100000
theorem b9N(i:Nat):(4 * (i:Int)).toNat=4 * i:=by omega
theorem b6Y(i:Nat):(4 * (i:Int)+1).toNat=4 * i+1:=by omega
theorem b6Z(i:Nat):(4 * (i:Int)+2).toNat=4 * i+2:=by omega
theorem b7a(i:Nat):(4 * (i:Int)+3).toNat=4 * i+3:=by omega
theorem b7U(i k:Nat):((i:Int) - (k:Int)).toNat=i - k:=by omega
theorem b5Z(i:Nat):((i:Int) - 16).toNat=i - 16:=by omega
theorem b6a(i:Nat):((i:Int) - 15).toNat=i - 15:=by omega
theorem b6b(i:Nat):((i:Int) - 7).toNat=i - 7:=by omega
theorem b9K(i:Nat):((i:Int) - 2).toNat=i - 2:=by omega
theorem a8s(l:List Wd)(i:Nat)(hi:i<l.length)(K:AV→Prop):RK (ldR none ((l.map aW).drop i)) K=K (aW (l.getD i 0)):=by
 rw[List.drop_eq_getElem_cons (by simpa using hi)]
 apply propext
 simp[RK,ldR,AV.alias,List.getD,hi]
theorem a7A(l:List Wd)(i:Nat)(x:Wd)(hi:i<l.length):splice (l.map aW) i [aW x]=(l.set i x).map aW:=by
 induction l generalizing i with
 | nil=>simp at hi
 | cons y l ih=>cases i with
  | zero=>simp[splice]
  | succ i=>simp only[List.map_cons,splice,List.set_cons_succ];rw[ih i (by simpa using hi)]
theorem b3W(s:List UInt8)(i n:Nat)(h:n<i∧i≤64)(K:AV→Prop):RK (ldR none (((a5T s i).map aW).drop n)) K=K (aW ((a0x s i).getD n 0)):=by
 rw[a8s _ _ (by rw[a5U s i h.2];omega),b3i s i n h.1]
theorem a2r(s:List UInt8)(i:Nat)(h:i≤64):((a5T s i).map aW).length=64:=by rw[List.length_map,a5U s i h]
theorem a1e:∀ (z X:List AV),z.length=X.length→splice z 0 X=X
 | [],[],_=>rfl
 | [],_::_,h=>by simp at h
 | _::_,[],h=>by simp at h
 | _::z,x::X,h=>by
  show x::splice z 0 X=x::X
  rw[a1e z X (by simpa using h)]
theorem a5i(l:List Wd):(l.map aW).map AV.store=l.map aW:=by
 rw[List.map_map];rfl
theorem sxSha{A B:Prop}(h:B)(e:A=B:=by (simp (disch:=omega) only[*, ↓Ed,Eu, ↓reduceIte,reduceCtorEq,Nat.reduceAdd,Nat.reduceEqDiff,Nat.reduceLT,Nat.reduceLeDiff,Int.reduceToNat,Int.reduceEq,Int.reduceLT,Int.reduceLE,w64,List.length_append,List.length_map,b4b,b2f,b2h,b2e,b2g,a9c,a5O,b7f,Int.toNat_natCast,nn,b7U,b5Z,b6a,b6b,b9K,b9N,b6Y,b6Z,b7a,Nat.mul_one,Nat.zero_add,Int.reduceAdd,b3W,a2r];first|done|rfl)):A:=e▸h
theorem b3S(w:Wd)(a b c:Nat)(ha:1≤a∧a≤31)(hb:1≤b∧b≤31)(hc:1≤c∧c≤31):CP Tryz.prog 228 [aW w,.int .i64 (a:Int),.int .i64 (b:Int),.int .i64 (c:Int)] (aW ((rot w a ^^^ rot w b) ^^^ rot w c)):=by
 refine a9x _ _ (by simp) ?_
 simp only[a7m];refine sxSha ?_
 repeat' ((first|exact tt|refine CallO_pure (a8R w a ha) ?_|refine CallO_pure (a8R w b hb) ?_|refine CallO_pure (a8R w c hc) ?_|refine na fun b=>?_|refine nb fun b hb=>?_|refine iq ?_|(refine jq ?_ ?_<;>intro h h')|refine Two_intro ?_ ?_|exact wZ|fail)<;>try refine sxSha ?_)
theorem b1O(w:Wd)(a b c:Nat)(ha:1≤a∧a≤31)(hb:1≤b∧b≤31):CP Tryz.prog 249 [aW w,.int .i64 (a:Int),.int .i64 (b:Int),.int .i64 (c:Int)] (aW ((rot w a ^^^ rot w b) ^^^ w >>> c)):=by
 refine a8N _ _ (by simp) ?_
 simp only[a6g];refine sxSha ?_
 repeat' ((first|exact tt|refine CallW_intro (a8R w a ha) ?_|refine CallW_intro (a8R w b hb) ?_|refine na fun b=>?_|refine nb fun b hb=>?_|refine iq ?_|(refine jq ?_ ?_<;>intro h h')|refine Two_intro ?_ ?_|exact wZ|fail)<;>try refine sxSha ?_)
theorem b2Y(w:Wd):CP Tryz.prog 249 [aW w,.int .i64 7,.int .i64 18,.int .i64 3] (aW ((rot w 7 ^^^ rot w 18) ^^^ w >>> 3)):=b1O w 7 18 3 (by omega) (by omega)
theorem b2Z(w:Wd):CP Tryz.prog 249 [aW w,.int .i64 17,.int .i64 19,.int .i64 10] (aW ((rot w 17 ^^^ rot w 19) ^^^ w >>> 10)):=b1O w 17 19 10 (by omega) (by omega)
theorem b3a(s:List UInt8)(hs:s.length=64):CP Tryz.prog 227 [.str s] (.agg ((a0x s 64).map aW)):=by
 refine a7T _ _ (by simp) ?_
 simp only[a5s];refine sxSha ?_
 repeat' ((first|exact tt|refine na fun b=>?_|refine nb fun b hb=>?_|refine iq ?_|(refine jq ?_ ?_<;>intro h h')|refine Two_intro ?_ ?_|exact wZ|fail)<;>try refine sxSha ?_)
 rename_i r
 obtain ⟨z,hz,hzl⟩:∃ z:List AV,z64=z∧z.length=64:=⟨_,rfl,rfl⟩
 refine wpx_loop (fun i:Nat=>⟨lk [(0,.str s),(2,.ptr r 0),(3,.ptr b 0),(5,.int .i64 (i:Int))],lk [(r,z),(b,(a5T s i).map aW)]⟩) (fun i=>i≤64) (fun i=>64 - i) 0 (by omega) (Le_lit (by rw[← hz,b4c s];simp[LeL,lk,hb])) ?_
 clear hz
 intro i hi
 by_cases hlt:i<64
 ·have f1:a0d (decide ((i:Int)<64)=true):=fo
  have l64:(a5T s i).length=64:=a5U s i hi
  by_cases h16:i<16
  ·have f2:a0d (decide ((i:Int)<16)=true):=fo
   have hS:=a7A (a5T s i) i (b3x s i) (by omega)
   rw[a5V s i hlt (b3x s i) (by rw[if_pos h16])]at hS
   have hX:=a2r s i hi
   generalize (a5T s i).map aW=X at *
   clear l64
   simp only[b3x,b0B]at hS
   refine sxSha ?_
   repeat' ((first|exact tt|refine na fun b=>?_|refine nb fun b hb=>?_|refine iq ?_|(refine jq ?_ ?_<;>intro h h')|refine Two_intro ?_ ?_|exact wZ|fail)<;>try refine sxSha ?_)
   all_goals exact Round_lit (i+1) ⟨Le_lit (by simp[LeL,lk,hb]),by omega,by omega⟩
  ·have f2:a0d (decide ((i:Int)<16)=false):=fo
   have hS:=a7A (a5T s i) i (nxW (a0x s i) i) (by omega)
   rw[a5V s i hlt (nxW (a0x s i) i) (by rw[if_neg h16])]at hS
   have hX:=a2r s i hi
   clear l64
   simp only[nxW]at hS
   refine sxSha ?_
   repeat' ((first|exact tt|refine CallW_intro (b2Y _) ?_|refine CallW_intro (b2Z _) ?_|refine na fun b=>?_|refine nb fun b hb=>?_|refine iq ?_|(refine jq ?_ ?_<;>intro h h')|refine Two_intro ?_ ?_|exact wZ|fail)<;>try refine sxSha ?_)
   all_goals exact Round_lit (i+1) ⟨Le_lit (by simp[LeL,lk,hb]),by omega,by omega⟩
 ·have f1:a0d (decide ((i:Int)<64)=false):=fo
  obtain rfl:i=64:=by omega
  have hX:(a5T s 64)=a0x s 64:=by simp[a5T]
  have hL:((a0x s 64).map aW).length=64:=by rw[List.length_map,a0K]
  rw[hX]
  have hT:List.take 64 ((a0x s 64).map aW)=(a0x s 64).map aW:=List.take_of_length_le (by omega)
  have hP:=a1e z ((a0x s 64).map aW) (by omega)
  have hS:=a5i (a0x s 64)
  clear hX
  generalize (a0x s 64).map aW=X at *
  refine sxSha ?_
  repeat' ((first|exact tt|refine na fun b=>?_|refine nb fun b hb=>?_|refine iq ?_|(refine jq ?_ ?_<;>intro h h')|refine Two_intro ?_ ?_|exact wZ|fail)<;>try refine sxSha ?_)
end
section
open Go.RowKit
set_option maxRecDepth 100000
theorem b3h(s:List UInt8)(n:Nat)(h:n<64)(K:AV→Prop):RK (ldR none (((a0x s 64).map aW).drop n)) K=K (aW ((a0x s 64).getD n 0)):=a8s _ _ (by rw[a0K];exact h) K
theorem b7r(n:Nat)(h:n<64)(K:AV→Prop):RK (ldR none ((shaK.map aW).drop n)) K=K (aW (shaK.getD n 0)):=a8s _ _ h K
theorem b5b(w:Wd):CP Tryz.prog 228 [aW w,.int .i64 6,.int .i64 11,.int .i64 25] (aW ((rot w 6 ^^^ rot w 11) ^^^ rot w 25)):=b3S w 6 11 25 (by omega) (by omega) (by omega)
theorem b5c(w:Wd):CP Tryz.prog 228 [aW w,.int .i64 2,.int .i64 13,.int .i64 22] (aW ((rot w 2 ^^^ rot w 13) ^^^ rot w 22)):=b3S w 2 13 22 (by omega) (by omega) (by omega)
def a5k(h s:S8)(i:Nat):List AV:=[aW (if 0<i then h.a+s.a else h.a),aW (if 1<i then h.b+s.b else h.b),aW (if 2<i then h.c+s.c else h.c),aW (if 3<i then h.d+s.d else h.d),
 aW (if 4<i then h.e+s.e else h.e),aW (if 5<i then h.f+s.f else h.f),aW (if 6<i then h.g+s.g else h.g),aW (if 7<i then h.h+s.h else h.h)]
abbrev z8:List AV:=[.int .u32 0,.int .u32 0,.int .u32 0,.int .u32 0,.int .u32 0,.int .u32 0,.int .u32 0,.int .u32 0]
theorem sxShb{A B:Prop}(h:B)(e:A=B:=by (simp (disch:=omega) only[*, ↓Ed,Eu, ↓reduceIte,reduceCtorEq,Nat.reduceAdd,Nat.reduceEqDiff,Nat.reduceLT,Nat.reduceLeDiff,Int.reduceToNat,Int.reduceEq,Int.reduceLT,Int.reduceLE,w64,List.length_append,List.length_map,b4b,b2f,b2h,b2e,b2g,a9c,a5O,b7f,Int.toNat_natCast,nn,Nat.mul_one,Nat.zero_add,Int.reduceAdd,b3h,b7r,a0K,S8.c8,a5k];first|done|rfl)):A:=e▸h
set_option maxHeartbeats 2000000 in
theorem b8q(h:S8)(c:List UInt8)(hc:c.length=64):CP Tryz.prog 208 [.agg h.c8,.str c] (.agg (b4G h c).c8):=by
 refine b0K _ _ (by simp) ?_
 have hS:=b3a c hc
 simp (disch:=omega) only[a8w,b0u, ↓Ed,Eu, ↓reduceIte,reduceCtorEq,Nat.reduceAdd,Nat.reduceEqDiff,Nat.reduceLT,Nat.reduceLeDiff,Int.reduceToNat,Int.reduceEq,Int.reduceLT,Int.reduceLE,w64,List.length_append,List.length_map,b4b,b2f,b2h,b2e,b2g,a9c,a5O,b7f,Int.toNat_natCast,nn,Nat.mul_one,Nat.zero_add,Int.reduceAdd,b3h,b7r,a0K,S8.c8,a5k]
 repeat' ((first|exact tt|refine CallO_pure (hS) ?_|refine na fun b=>?_|refine nb fun b hb=>?_|refine iq ?_|(refine jq ?_ ?_<;>intro h h')|refine Two_intro ?_ ?_|exact wZ|fail)<;>try refine sxShb ?_)
 rename_i bh br hbr
 clear hS
 have hL:((a0x c 64).map aW).length=64:=by rw[List.length_map,a0K]
 refine wpx_loop (fun i:Nat=>⟨lk [(2,.ptr bh 0),(4,.ptr br 0),(5,.ptr b 0),(13,.agg ((a0x c 64).map aW)),(14,.int .i64 (i:Int))],lk [(bh,h.c8),(br,z8),(b,(a9g h (a0x c 64) i).c8)]⟩) (fun i=>i≤64) (fun i=>64 - i) 0 (by omega) (Le_lit (by simp[LeL,lk,hb,hbr,a9g])) ?_
 intro i hi
 by_cases hlt:i<64
 ·have f1:a0d (decide ((i:Int)<64)=true):=fo
  have hR:a9g h (a0x c 64) (i+1)=b1X (a9g h (a0x c 64) i) (shaK.getD i 0) ((a0x c 64).getD i 0):=rfl
  generalize a9g h (a0x c 64) i=S at *
  simp (disch:=omega) only[hb,hbr,hL,b0u, ↓Ed,Eu, ↓reduceIte,reduceCtorEq,Nat.reduceAdd,Nat.reduceEqDiff,Nat.reduceLT,Nat.reduceLeDiff,Int.reduceToNat,Int.reduceEq,Int.reduceLT,Int.reduceLE,w64,List.length_append,List.length_map,b4b,b2f,b2h,b2e,b2g,a9c,a5O,b7f,Int.toNat_natCast,nn,Nat.mul_one,Nat.zero_add,Int.reduceAdd,b3h,b7r,a0K,S8.c8,a5k]
  repeat' ((first|exact tt|refine CallW_intro (b5b _) ?_|refine CallW_intro (b5c _) ?_|refine na fun b=>?_|refine nb fun b hb=>?_|refine iq ?_|(refine jq ?_ ?_<;>intro h h')|refine Two_intro ?_ ?_|exact wZ|fail)<;>try refine sxShb ?_)
  all_goals exact Round_lit (i+1) ⟨Le_lit (by simp[-List.getD_eq_getElem?_getD,LeL,lk,hb,hbr,hR,b1X,stepT,b5l]),by omega,by omega⟩
 have f1:a0d (decide ((i:Int)<64)=false):=fo
 obtain rfl:i=64:=by omega
 have hM:b4G h c=b4e h (a9g h (a0x c 64) 64):=rfl
 rw[hM]
 generalize a9g h (a0x c 64) 64=S at *
 clear hL hM hlt hi
 refine sxShb ?_
 repeat' ((first|exact tt|refine na fun b=>?_|refine nb fun b hb=>?_|refine iq ?_|(refine jq ?_ ?_<;>intro h h')|refine Two_intro ?_ ?_|exact wZ|fail)<;>try refine sxShb ?_)
 clear f1
 refine wpx_loop (fun i:Nat=>⟨lk [(2,.ptr bh 0),(4,.ptr br 0),(5,.ptr b 0),(85,.int .i64 (i:Int))],lk [(bh,a5k h S i),(br,z8),(b,S.c8)]⟩) (fun i=>i≤8) (fun i=>8 - i) 0 (by omega) (Le_lit (by simp[LeL,lk,hb,hbr,a5k])) ?_
 intro i hi
 by_cases hlt:i<8
 ·have hc8:i=0∨i=1∨i=2∨i=3∨i=4∨i=5∨i=6∨i=7:=by omega
  rcases hc8 with rfl|rfl|rfl|rfl|rfl|rfl|rfl|rfl
  all_goals (refine sxShb ?_;try exact tt)
  all_goals repeat' ((first|exact tt|refine na fun b=>?_|refine nb fun b hb=>?_|refine iq ?_|(refine jq ?_ ?_<;>intro h h')|refine Two_intro ?_ ?_|exact wZ|fail)<;>try refine sxShb ?_)
  all_goals first|exact Round_lit 1 ⟨Le_lit (by simp[LeL,lk,hb,hbr,a5k]),by omega,by omega⟩|exact Round_lit 2 ⟨Le_lit (by simp[LeL,lk,hb,hbr,a5k]),by omega,by omega⟩|exact Round_lit 3 ⟨Le_lit (by simp[LeL,lk,hb,hbr,a5k]),by omega,by omega⟩|exact Round_lit 4 ⟨Le_lit (by simp[LeL,lk,hb,hbr,a5k]),by omega,by omega⟩|exact Round_lit 5 ⟨Le_lit (by simp[LeL,lk,hb,hbr,a5k]),by omega,by omega⟩|exact Round_lit 6 ⟨Le_lit (by simp[LeL,lk,hb,hbr,a5k]),by omega,by omega⟩|exact Round_lit 7 ⟨Le_lit (by simp[LeL,lk,hb,hbr,a5k]),by omega,by omega⟩|exact Round_lit 8 ⟨Le_lit (by simp[LeL,lk,hb,hbr,a5k]),by omega,by omega⟩
 have f1:a0d (decide ((i:Int)<8)=false):=fo
 obtain rfl:i=8:=by omega
 have hA:a5k h S 8=(b4e h S).c8:=rfl
 rw[hA]
 generalize b4e h S=R
 clear hA hlt hi
 refine sxShb ?_
 repeat' ((first|exact tt|refine na fun b=>?_|refine nb fun b hb=>?_|refine iq ?_|(refine jq ?_ ?_<;>intro h h')|refine Two_intro ?_ ?_|exact wZ|fail)<;>try refine sxShb ?_)
end
section
open Go.RowKit
set_option maxRecDepth 100000
theorem k0:((0:Nat):Int)=0:=rfl
theorem k1:((1:Nat):Int)=1:=rfl
theorem k2:((2:Nat):Int)=2:=rfl
theorem k3:((3:Nat):Int)=3:=rfl
theorem k4:((4:Nat):Int)=4:=rfl
theorem k5n:((5:Nat):Int)=5:=rfl
theorem k6:((6:Nat):Int)=6:=rfl
theorem k7:((7:Nat):Int)=7:=rfl
def byL(n k:Nat):UInt8:=UInt8.ofNat (n * 8 / 2 ^ (8 * k))
def b1t(n i:Nat):List AV:=[byC (if 7<i then byL n 7 else 0),byC (if 6<i then byL n 6 else 0),byC (if 5<i then byL n 5 else 0),byC (if 4<i then byL n 4 else 0),byC (if 3<i then byL n 3 else 0),byC (if 2<i then byL n 2 else 0),byC (if 1<i then byL n 1 else 0),byC (if 0<i then byL n 0 else 0)]
theorem b9X(n:Nat)(h:n≤281474976710656):IntKind.wrap .u64 (IntKind.wrap .u64 (n:Int) * 2 ^ (min 3 (IntKind.bits .u64)))=((n * 8:Nat):Int):=by
 show ((n:Int) % 18446744073709551616 * 8) % 18446744073709551616=_
 omega
theorem b7s(m k:Nat):IntKind.wrap .u8 (((m:Nat):Int).fdiv (2 ^ k))=((UInt8.ofNat (m / 2 ^ k)).toNat:Int):=by
 show ((m:Int).fdiv (2 ^ k)) % 256=_
 rw[a8g,Int.fdiv_eq_ediv_of_nonneg _ (Int.natCast_nonneg _),UInt8.toNat_ofNat']
 rfl
theorem sxShc{A B:Prop}(h:B)(e:A=B:=by (simp (disch:=omega) only[*, ↓Ed,Eu, ↓reduceIte,reduceCtorEq,Nat.reduceAdd,Nat.reduceEqDiff,Nat.reduceLT,Nat.reduceLeDiff,Int.reduceToNat,Int.reduceEq,Int.reduceLT,Int.reduceLE,w64,List.length_append,List.length_map,Int.toNat_natCast,nn,Nat.mul_one,Nat.zero_add,Int.reduceAdd,b1t,Int.reduceSub,Int.reduceMul,b7s,b9X,k0,k1,k2,k3,k4,k5n,k6,k7];first|done|rfl)):A:=e▸h
theorem b6p(n:Nat)(h:n≤281474976710656):CP Tryz.prog 206 [.int .i64 (n:Int)] (.str (len8 n)):=by
 refine a7S _ _ (by simp) ?_
 simp only[a5r];refine sxShc ?_
 repeat' ((first|exact tt|refine na fun b=>?_|refine nb fun b hb=>?_|refine iq ?_|(refine jq ?_ ?_<;>intro h h')|refine Two_intro ?_ ?_|exact wZ|fail)<;>try refine sxShc ?_)
 refine wpx_loop (fun i:Nat=>⟨lk [(0,.int .i64 (n:Int)),(3,.ptr b 0),(5,.int .i64 (i:Int))],lk [(b,b1t n i)]⟩) (fun i=>i≤8) (fun i=>8 - i) 0 (by omega) (Le_lit (by simp[LeL,lk,b1t,byC])) ?_
 intro i hi
 by_cases hlt:i<8
 ·have f1:a0d (decide ((i:Int)<8)=true):=fo
  have hc8:i=0∨i=1∨i=2∨i=3∨i=4∨i=5∨i=6∨i=7:=by omega
  rcases hc8 with rfl|rfl|rfl|rfl|rfl|rfl|rfl|rfl
  all_goals (refine sxShc ?_;try exact tt)
  all_goals repeat' ((first|exact tt|refine na fun b=>?_|refine nb fun b hb=>?_|refine iq ?_|(refine jq ?_ ?_<;>intro h h')|refine Two_intro ?_ ?_|exact wZ|fail)<;>try refine sxShc ?_)
  all_goals first|exact Round_lit 1 ⟨Le_lit (by simp[LeL,lk,b1t,byC,byL,IntKind.bits]),by omega,by omega⟩|exact Round_lit 2 ⟨Le_lit (by simp[LeL,lk,b1t,byC,byL,IntKind.bits]),by omega,by omega⟩|exact Round_lit 3 ⟨Le_lit (by simp[LeL,lk,b1t,byC,byL,IntKind.bits]),by omega,by omega⟩|exact Round_lit 4 ⟨Le_lit (by simp[LeL,lk,b1t,byC,byL,IntKind.bits]),by omega,by omega⟩|exact Round_lit 5 ⟨Le_lit (by simp[LeL,lk,b1t,byC,byL,IntKind.bits]),by omega,by omega⟩|exact Round_lit 6 ⟨Le_lit (by simp[LeL,lk,b1t,byC,byL,IntKind.bits]),by omega,by omega⟩|exact Round_lit 7 ⟨Le_lit (by simp[LeL,lk,b1t,byC,byL,IntKind.bits]),by omega,by omega⟩|exact Round_lit 8 ⟨Le_lit (by simp[LeL,lk,b1t,byC,byL,IntKind.bits]),by omega,by omega⟩
 have f1:a0d (decide ((i:Int)<8)=false):=fo
 obtain rfl:i=8:=by omega
 refine sxShc ?_
 repeat' ((first|exact tt|refine BytesO_intro (len8 n) rfl rfl ?_|refine na fun b=>?_|refine nb fun b hb=>?_|refine iq ?_|(refine jq ?_ ?_<;>intro h h')|refine Two_intro ?_ ?_|exact wZ|fail)<;>try refine sxShc ?_)
abbrev hcs(l:List UInt8):List AV:=l.map byC
theorem b1N(l:List UInt8)(hl:l.length=32):CP Tryz.prog 123 [.agg (hcs l)] (.str l):=by
 refine a9w _ _ (by simp) ?_
 have hs:(hcs l).map AV.store=hcs l:=by rw[List.map_map];rfl
 have ht:List.take 32 (hcs l)=hcs l:=List.take_of_length_le (by simp[hl])
 have h0:0<(hcs l).length:=by simp[hl]
 simp only[a7l];refine sxShc ?_
 repeat' ((first|exact tt|refine BytesO_intro l rfl hl ?_|refine na fun b=>?_|refine nb fun b hb=>?_|refine iq ?_|(refine jq ?_ ?_<;>intro h h')|refine Two_intro ?_ ?_|exact wZ|fail)<;>try refine sxShc ?_)
end
section
open Go.RowKit
set_option maxRecDepth 100000
theorem a4y(n:Nat):(len8 n).length=8:=by simp[len8]
theorem tm1(n:Nat):(n:Int).tmod 64=((n % 64:Nat):Int):=rfl
theorem tm2(n:Nat):(119 - ((n % 64:Nat):Int)).tmod 64=(((119 - n % 64) % 64:Nat):Int):=by
 rw[show (119 - ((n % 64:Nat):Int))=((119 - n % 64:Nat):Int) by omega];rfl
theorem tq4(i:Nat):(i:Int).tdiv 4=((i / 4:Nat):Int):=rfl
theorem tm4(i:Nat):(i:Int).tmod 4=((i % 4:Nat):Int):=rfl
theorem sh4(i:Nat):(24 - ((i % 4:Nat):Int) * 8).toNat=24 - 8 * (i % 4):=by omega
theorem a7B(l:List UInt8)(i:Nat)(x:UInt8)(hi:i<l.length):splice (l.map byC) i [byC x]=(l.set i x).map byC:=by
 induction l generalizing i with
 | nil=>simp at hi
 | cons y l ih=>cases i with
  | zero=>simp[splice]
  | succ i=>simp only[List.map_cons,splice,List.set_cons_succ];rw[ih i (by simpa using hi)]
abbrev z32:List AV:=[.int .u8 0,.int .u8 0,.int .u8 0,.int .u8 0,.int .u8 0,.int .u8 0,.int .u8 0,.int .u8 0,.int .u8 0,.int .u8 0,.int .u8 0,.int .u8 0,.int .u8 0,.int .u8 0,.int .u8 0,.int .u8 0,.int .u8 0,.int .u8 0,.int .u8 0,.int .u8 0,.int .u8 0,.int .u8 0,.int .u8 0,.int .u8 0,.int .u8 0,.int .u8 0,.int .u8 0,.int .u8 0,.int .u8 0,.int .u8 0,.int .u8 0,.int .u8 0]
theorem sxShd{A B:Prop}(h:B)(e:A=B:=by (simp (disch:=omega) only[*, ↓Ed,Eu, ↓reduceIte,reduceCtorEq,Nat.reduceAdd,Nat.reduceEqDiff,Nat.reduceLT,Nat.reduceLeDiff,Int.reduceToNat,Int.reduceEq,Int.reduceLT,Int.reduceLE,w64,List.length_append,List.length_map,List.length_replicate,List.length_cons,List.length_nil,List.length_drop,List.length_take,a4y,Int.toNat_natCast,nn,Nat.mul_one,Nat.zero_add,Int.reduceAdd,a4w,tm1,tm2,tq4,tm4,sh4,a5O,b3s];first|done|rfl)):A:=e▸h
theorem b4P:CP Tryz.prog 207 [] (.agg sha0.c8):=by
 refine a8M _ _ (by simp) ?_
 simp only[a6f];refine sxShd ?_
 repeat' ((first|exact tt|refine na fun b=>?_|refine nb fun b hb=>?_|refine iq ?_|(refine jq ?_ ?_<;>intro h h')|refine Two_intro ?_ ?_|exact wZ|fail)<;>try refine sxShd ?_)
 all_goals rfl
set_option maxHeartbeats 2000000 in
theorem b3R(g:AV)(l:List (List UInt8))(hg:g.alias=.sl none 1 (l.map fun p=>[.str p]))(hn:l.length≤1000000)(hl:l.flatten.length≤140737488355328):CP Tryz.prog 163 [g] (.agg (hcs (a4h l.flatten))):=by
 have hJ:=b4K none [] l (by omega) (by rw[a4w];exact hl)
 rw[a4w]at hJ
 generalize l.flatten=s at *
 have hR:=b6m ((119 - s.length % 64) % 64) (by omega)
 have hL:=b6p s.length (by omega)
 refine b0J _ _ (by simp) ?_
 simp only[a8v];refine sxShd ?_
 repeat' ((first|exact tt|refine CallO_pure (hJ) ?_|refine CallO_pure (hR) ?_|refine CallO_pure (hL) ?_|refine CallO_pure (b4P) ?_|refine na fun b=>?_|refine nb fun b hb=>?_|refine iq ?_|(refine jq ?_ ?_<;>intro h h')|refine Two_intro ?_ ?_|exact wZ|fail)<;>try refine sxShd ?_)
 rename_i br
 clear hJ hR hL
 obtain ⟨N,hN,hN1⟩:∃ N,(a2u s).length=64 * N∧(a2u s).length / 64=N:=⟨_,(b0k s).1,rfl⟩
 have hSh:a4h s=a4Q (a7w (a2u s) N):=by rw[← hN1];rfl
 have hPd:a2u s=s++([128]++List.replicate ((119 - s.length % 64) % 64) 0++len8 s.length):=by simp[a2u]
 obtain ⟨z,hz,hzl⟩:∃ z:List AV,z32=z∧z.length=32:=⟨_,rfl,rfl⟩
 have hPl:(a2u s).length≤140737488355328+200:=by rw[hPd];simp[len8];omega
 refine wpx_loop (fun k:Nat=>⟨lk [(2,.ptr br 0),(3,.str ((a2u s).drop (64 * k))),(5,.ptr b 0)],lk [(br,z),(b,(a7w (a2u s) k).c8)]⟩) (fun k=>k≤N) (fun k=>N - k) 0 (by omega) (Le_lit (by rw[← hz,hPd];simp[LeL,lk,hb,a7w])) ?_
 clear hz hPd hN1
 rw[hSh]
 clear hSh
 intro k hk
 by_cases hlt:k<N
 ·have hne:(a2u s).drop (64 * k)≠[]:=fun e=>by
   have:=congrArg List.length e
   rw[List.length_drop]at this
   simp at this;omega
  have f1:a0d (decide ((a2u s).drop (64 * k)=[])=false):=by simp only[a0d,Hn];exact hne
  have hR:a7w (a2u s) (k+1)=b4G (a7w (a2u s) k) (((a2u s).drop (64 * k)).take 64):=rfl
  have hM:=b8q (a7w (a2u s) k) (((a2u s).drop (64 * k)).take 64) (by rw[List.length_take,List.length_drop];omega)
  have hdl:((a2u s).drop (64 * k)).length=64 * N - 64 * k:=by rw[List.length_drop,hN]
  have hdd:((a2u s).drop (64 * k)).drop 64=(a2u s).drop (64 * (k+1)):=by rw[List.drop_drop];congr 1
  rw[← hR]at hM
  have hdt:((a2u s).drop (64 * k)).take (64 * N - 64 * k)=(a2u s).drop (64 * k):=List.take_of_length_le (by omega)
  generalize hS':a7w (a2u s) (k+1)=S' at *
  generalize a7w (a2u s) k=S at *
  generalize (a2u s).drop (64 * k)=q at *
  clear hne hR
  refine sxShd ?_
  repeat' ((first|exact tt|refine CallW_intro (hM) ?_|refine na fun b=>?_|refine nb fun b hb=>?_|refine iq ?_|(refine jq ?_ ?_<;>intro h h')|refine Two_intro ?_ ?_|exact wZ|fail)<;>try refine sxShd ?_)
  all_goals exact Round_lit (k+1) ⟨Le_lit (by simp[LeL,lk,hb, *]),by omega,by omega⟩
 obtain rfl:k=N:=by omega
 have hne:(a2u s).drop (64 * k)=[]:=List.drop_eq_nil_of_le (by omega)
 have f1:a0d (decide ((a2u s).drop (64 * k)=[])=true):=by simp only[a0d,Hn];exact hne
 generalize a7w (a2u s) k=S at *
 rw[hne]at f1 ⊢
 clear hne hN hlt hk hPl
 refine sxShd ?_
 repeat' ((first|exact tt|refine na fun b=>?_|refine nb fun b hb=>?_|refine iq ?_|(refine jq ?_ ?_<;>intro h h')|refine Two_intro ?_ ?_|exact wZ|fail)<;>try refine sxShd ?_)
 rename_i bs hbs
 clear f1
 have hO:(a7X S 0).map byC=z32:=rfl
 have h8:S.c8=S.l.map aW:=rfl
 refine wpx_loop (fun i:Nat=>⟨lk [(2,.ptr br 0),(5,.ptr bs 0),(6,.ptr b 0),(32,.int .i64 (i:Int))],lk [(br,z),(bs,S.l.map aW),(b,(a7X S i).map byC)]⟩) (fun i=>i≤32) (fun i=>32 - i) 0 (by omega) (Le_lit (by rw[hO];simp[LeL,lk,hb,hbs])) ?_
 clear hO h8
 intro i hi
 by_cases hlt:i<32
 ·have f1:a0d (decide ((i:Int)<32)=true):=fo
  have h4:i / 4<8:=by omega
  have hld:=a8s S.l (i / 4) h4
  have hst:=a7B (a7X S i) i (b3L S i) (by rw[a5S S i hi];exact hlt)
  rw[b0g S i hlt _ rfl]at hst
  have hlen:((a7X S i).map byC).length=32:=by rw[List.length_map,a5S S i hi]
  have hlen8:(S.l.map aW).length=8:=rfl
  have hB:b3L S i=wB ((S.l.getD (i / 4) 0) >>> (24 - 8 * (i % 4))):=rfl
  rw[hB]at hst
  simp only[byC]at hst
  generalize S.l=sl at *
  generalize (a7X S i).map byC=X at *
  clear hB
  refine sxShd ?_
  repeat' ((first|exact tt|refine na fun b=>?_|refine nb fun b hb=>?_|refine iq ?_|(refine jq ?_ ?_<;>intro h h')|refine Two_intro ?_ ?_|exact wZ|fail)<;>try refine sxShd ?_)
  all_goals exact Round_lit (i+1) ⟨Le_lit (by simp[LeL,lk,hb,hbs]),by omega,by omega⟩
 have f1:a0d (decide ((i:Int)<32)=false):=fo
 obtain rfl:i=32:=by omega
 have hT:List.take 32 (hcs (a4Q S))=hcs (a4Q S):=List.take_of_length_le (by simp[a4Q])
 have hst:(hcs (a4Q S)).map AV.store=hcs (a4Q S):=by rw[List.map_map];rfl
 have hP:=a1e z (hcs (a4Q S)) (by rw[hzl];simp[a4Q])
 have hL:(hcs (a4Q S)).length=32:=by simp[a4Q]
 rw[show (a7X S 32).map byC=hcs (a4Q S) by rw[b0f]]
 generalize hcs (a4Q S)=X at *
 generalize S.l.map aW=Y at *
 refine sxShd ?_
 repeat' ((first|exact tt|refine na fun b=>?_|refine nb fun b hb=>?_|refine iq ?_|(refine jq ?_ ?_<;>intro h h')|refine Two_intro ?_ ?_|exact wZ|fail)<;>try refine sxShd ?_)
end
end Go.Proofs.YtfgihnhoocnmdaaGreatDoor
