import Derived.Test.YtgdhinnepnlihaaGreatDoorK19
import Derived.Test.YtgdhinnepnlihaaGreatDoorK10
import Derived.Test.YtgdhinnepnlihaaGreatDoorK18
import Derived.Test.YtgdhinnepnlihaaGreatDoorK12
import Derived.Shelf.RegionOpenPlain
import Derived.WalkKit
import Derived.Deep.LoopGhost
import Derived.Lib.Walk
import Derived.Lib.SliceRun
import Derived.Test.YtgdhinnepnlihaaGreatDoorK17
import Derived.Test.YtgdhinnepnlihaaGreatDoorK11
import Derived.Test.YtgdhinnepnlihaaGreatDoorK15
import Derived.Test.YtgdhinnepnlihaaGreatDoorK16
namespace Go.Proofs.YtgdhinnepnlihaaGreatDoor
set_option linter.all false
set_option maxHeartbeats 9000000
section
open Go.RowKit
structure Dt where
 K:List KeyC
 E:List EntC
 C:List a1D
def a0i(t:Tb):List KeyC:=srtL a0t (t.K.map (·.1))
def a5L(t:Tb):List a1D:=srtL a0E t.C
def a9c(t:Tb)(k:KeyC):EntC:=(a0O t.K k).getD default
def dOf(t:Tb):Dt:=⟨a0i t,(a0i t).map (a9c t),a5L t⟩
theorem mem_keysS{t:Tb}{k:KeyC}:k∈a0i t↔(a0O t.K k).isSome=true:=by
 rw[a0i,(srtL_perm _ _).mem_iff]
 constructor
 ·intro h
  cases hf:a0O t.K k with
  | some x=>rfl
  | none=>
   obtain ⟨y,hy,e⟩:=List.mem_map.1 h
   exact absurd e (findE_none hf y hy)
 ·intro h
  obtain ⟨x,hx⟩:=Option.isSome_iff_exists.1 h
  obtain ⟨i,_,_,_,hi⟩:=lookK_some hx
  exact List.mem_map.2 ⟨_,List.mem_of_getElem? hi,rfl⟩
theorem pl_le{α:Type}(lt:α→α→Bool)(x:α)(l:List α):plL lt x l≤l.length:=by
 unfold plL;exact (List.takeWhile_sublist _).length_le
theorem pl_before{α:Type}(lt:α→α→Bool)(x:α):∀ (l:List α) (i:Nat) (d:α),i<plL lt x l→lt (l.getD i d) x=true
 | [],i,d,h=>by simp[plL]at h
 | y::r,i,d,h=>by
  unfold plL at h
  rw[List.takeWhile_cons]at h
  split at h
  ·rename_i hy
   cases i with
   | zero=>exact hy
   | succ i=>exact pl_before lt x r i d (by simpa[plL]using h)
  ·simp at h
theorem pl_at{α:Type}(lt:α→α→Bool)(x:α):∀ (l:List α) (d:α),plL lt x l<l.length→lt (l.getD (plL lt x l) d) x=false
 | [],d,h=>by simp at h
 | y::r,d,h=>by
  by_cases hy:lt y x=true
  ·have e:plL lt x (y::r)=plL lt x r+1:=by unfold plL;rw[List.takeWhile_cons,if_pos hy];simp
   rw[e]at h ⊢
   exact pl_at lt x r d (by simpa using h)
  ·have e:plL lt x (y::r)=0:=by unfold plL;rw[List.takeWhile_cons,if_neg hy];rfl
   rw[e];simpa using hy
theorem pl_mem{α:Type}{lt:α→α→Bool}(S:STO lt){x:α}{l:List α}(hr:Rise lt l)(d:α):x∈l↔plL lt x l<l.length∧l.getD (plL lt x l) d=x:=by
 constructor
 ·intro h
  obtain ⟨i,hi,rfl⟩:=List.getElem_of_mem h
  have hle:plL lt l[i] l=i:=by
   have h1:¬ i<plL lt l[i] l:=fun hlt=>by
    have:=pl_before lt l[i] l i d hlt
    simp only[List.getD,List.getElem?_eq_getElem hi,Option.getD_some]at this
    rw[S.irr]at this;cases this
   have h2:¬ plL lt l[i] l<i:=fun hlt=>by
    have:=pl_at lt l[i] l d (by omega)
    have hj:plL lt l[i] l<l.length:=by omega
    simp only[List.getD,List.getElem?_eq_getElem hj,Option.getD_some]at this
    rw[(List.pairwise_iff_getElem.1 hr) _ _ hj hi hlt]at this
    cases this
   omega
  rw[hle]
  exact ⟨hi,by simp[List.getD,hi]⟩
 ·rintro ⟨h1,h2⟩
  rw[← h2]
  simp only[List.getD,List.getElem?_eq_getElem h1,Option.getD_some]
  exact List.getElem_mem h1
theorem keys_new{t:Tb}(hN:(t.K.map (·.1)).Nodup){k:KeyC}{x:EntC}(hf:a0O t.K k=none):a0i ⟨t.K++[(k,x)],t.C⟩=(a0i t).take (plL a0t k (a0i t))++[k]++(a0i t).drop (plL a0t k (a0i t)):=by
 unfold a0i
 simp only[List.map_append,List.map_cons,List.map_nil]
 rw[srtL_snoc keySTO hN (fun h=>by
  obtain ⟨y,hy,e⟩:=List.mem_map.1 h
  exact findE_none hf y hy e),insL_at]
theorem ent_new{t:Tb}{k k':KeyC}{x:EntC}(hf:a0O t.K k=none):a9c ⟨t.K++[(k,x)],t.C⟩ k'=if k'=k then x else a9c t k':=by
 unfold a9c
 by_cases h:k'=k
 ·subst h
  rw[if_pos rfl,find_app (fun y hy e=>findE_none hf y hy e)]
  simp[a0O]
 ·rw[if_neg h]
  congr 1
  unfold a0O
  rw[List.find?_append]
  cases hq:t.K.find? fun y=>decide (y.1=k') with
  | some y=>rfl
  | none=>
   have:(([(k,x)]:List (KeyC × EntC)).find? fun y=>decide (y.1=k'))=none:=by simp[Ne.symm h]
   rw[this];rfl
theorem dOf_new{t:Tb}(hN:(t.K.map (·.1)).Nodup){k:KeyC}{x:EntC}(hf:a0O t.K k=none):
  dOf ⟨t.K++[(k,x)],t.C⟩=⟨(a0i t).take (plL a0t k (a0i t))++[k]++(a0i t).drop (plL a0t k (a0i t)),((dOf t).E.take (plL a0t k (a0i t))++[x])++(dOf t).E.drop (plL a0t k (a0i t)),a5L t⟩:=by
 have hk:k ∉ a0i t:=fun h=>by rw[mem_keysS,hf]at h;cases h
 have hmap:∀ l:List KeyC,(∀ y∈l,y∈a0i t)→l.map (a9c ⟨t.K++[(k,x)],t.C⟩)=l.map (a9c t):=fun l hl=>List.map_congr_left fun y hy=>by
  rw[ent_new hf,if_neg (fun e:y=k=>hk (by rw[← e];exact hl y hy))]
 unfold dOf
 rw[keys_new hN hf]
 simp only[Dt.mk.injEq,true_and]
 refine ⟨?_,rfl⟩
 simp only[List.map_append,List.map_cons,List.map_nil]
 rw[hmap _ (fun y hy=>List.mem_of_mem_take hy),hmap _ (fun y hy=>List.mem_of_mem_drop hy),ent_new hf,if_pos rfl,List.map_take,List.map_drop]
theorem dOf_set{t:Tb}(hN:(t.K.map (·.1)).Nodup){k:KeyC}{x y:EntC}(hf:a0O t.K k=some x):dOf ⟨a7e t.K k y,t.C⟩=⟨a0i t,(dOf t).E.set (plL a0t k (a0i t)) y,a5L t⟩:=by
 have hks:a0i ⟨a7e t.K k y,t.C⟩=a0i t:=by unfold a0i;simp only[a8x]
 have hr:Rise a0t (a0i t):=srtL_rise keySTO hN
 obtain ⟨p1,p2⟩:=(pl_mem keySTO hr default).1 (mem_keysS.2 (by rw[hf];rfl))
 have hm:(k,x)∈t.K:=(find_mem hN).1 hf
 have hN2:((a7e t.K k y).map (·.1)).Nodup:=by rw[a8x];exact hN
 have hen:∀ k',a9c ⟨a7e t.K k y,t.C⟩ k'=if k'=k then y else a9c t k':=fun k'=>by
  unfold a9c
  simp only
  by_cases h:k'=k
  ·subst h
   rw[if_pos rfl]
   have:a0O (a7e t.K k' y) k'=some y:=(find_mem hN2).2 (by
    simp only[a7e,List.mem_map]
    exact ⟨_,hm,by simp⟩)
   rw[this];rfl
  ·rw[if_neg h]
   congr 1
   cases hq:a0O t.K k' with
   | some z=>
    refine (find_mem hN2).2 ?_
    simp only[a7e,List.mem_map]
    exact ⟨_,(find_mem hN).1 hq,by simp[h]⟩
   | none=>
    cases hq2:a0O (a7e t.K k y) k' with
    | none=>rfl
    | some z=>
     have:=(find_mem hN2).1 hq2
     simp only[a7e,List.mem_map]at this
     obtain ⟨w,hw,e⟩:=this
     split at e
     ·cases e;exact absurd rfl h
     ·rename_i hwk
      subst e
      exact absurd rfl (findE_none hq _ hw)
 unfold dOf
 rw[hks]
 simp only[Dt.mk.injEq,true_and]
 refine ⟨?_,rfl⟩
 apply List.ext_getElem?
 intro i
 rw[List.getElem?_map,List.getElem?_set,List.length_map]
 by_cases hi:i<(a0i t).length
 ·rw[List.getElem?_eq_getElem hi,Option.map_some,hen]
  have hd:(a0i t).getD i default=(a0i t)[i]:=by simp[List.getD,hi]
  by_cases h:(a0i t)[i]=k
  ·have:plL a0t k (a0i t)=i:=by
    have h3:(a0i t)[plL a0t k (a0i t)]=(a0i t)[i]:=by
     rw[h];simpa[List.getD,p1]using p2
    exact (List.getElem_inj (hr.imp (fun {a b} hab e=>by subst e;rw[keySTO.irr]at hab;cases hab))).1 h3
   rw[if_pos h,this,if_pos rfl,if_pos hi]
  ·rw[if_neg h,if_neg (fun e=>h (by subst e;simpa[List.getD,p1]using p2)),List.getElem?_map,List.getElem?_eq_getElem hi];rfl
 ·have hnn:(a0i t)[i]?=none:=List.getElem?_eq_none (by omega)
  have:¬ plL a0t k (a0i t)=i:=fun e=>by omega
  rw[if_neg this,List.getElem?_map,hnn];rfl
theorem clos_new{t:Tb}(hC:t.C.Nodup){c:a1D}(hc:c ∉ t.C):a5L ⟨t.K,t.C++[c]⟩=(a5L t).take (plL a0E c (a5L t))++[c]++(a5L t).drop (plL a0E c (a5L t)):=by
 unfold a5L
 simp only
 rw[srtL_snoc endSTO hC hc,insL_at]
theorem mem_closS{t:Tb}{c:a1D}:c∈a5L t↔c∈t.C:=(srtL_perm _ _).mem_iff
end
section
open Go.RowKit
end
section
open Go.RowKit
abbrev RgP:=Int × Int
abbrev rgC(r:RgP):List AV:=[.int .i64 r.1,.int .i64 r.2]
def rgs(l:List RgP):List (List AV):=l.map rgC
theorem a0q(l:List RgP):(rgs l).length=l.length:=by simp[rgs]
theorem a0p(l:List RgP)(i:Nat)(h:i<l.length):(rgs l).getD i []=rgC (l.getD i default):=by simp[rgs,h]
def mxN:Int:=72057594037927935
structure GoodR (l:List RgP):Prop where
 bd:∀ i,i<l.length→0≤(l.getD i default).1∧(l.getD i default).1≤(l.getD i default).2∧(l.getD i default).2≤mxN
 gap:∀ i,i+1<l.length→(l.getD i default).2+2≤(l.getD (i+1) default).1
def a5E(l:List RgP)(n:Int):List RgP:=
 if l.length=0 then [(n,n)] else if n - (l.getD (l.length - 1) default).2<2 then l.set (l.length - 1) ((l.getD (l.length - 1) default).1,n) else l++[(n,n)]
def ofN(l:List Int):List RgP:=l.foldl a5E []
theorem b4X(l:List Int)(n:Int):ofN (l++[n])=a5E (ofN l) n:=by simp[ofN]
def RiseN(l:List Int):Prop:=(∀ i,i<l.length→0≤l.getD i 0∧l.getD i 0≤mxN)∧∀ i,i+1<l.length→l.getD i 0<l.getD (i+1) 0
theorem RiseN.take{l:List Int}(h:RiseN l)(k:Nat):RiseN (l.take k):=by
 refine ⟨fun i hi=>?_,fun i hi=>?_⟩
 ·have h1:i<l.length∧i<k:=by simp at hi;omega
  have:=h.1 i h1.1
  simpa[List.getD,List.getElem?_take,h1.2]using this
 ·have h1:i+1<l.length∧i+1<k:=by simp at hi;omega
  have:=h.2 i h1.1
  simpa[List.getD,List.getElem?_take,h1.2,show i<k by omega]using this
theorem snoc_last{l:List RgP}{n:Int}:(a5E l n).length≠0∧((a5E l n).getD ((a5E l n).length - 1) default).2=n∧(a5E l n).length≤l.length+1:=by
 unfold a5E
 split
 ·simp
 ·split
  ·rename_i h1 h2
   refine ⟨by simpa using h1, ?_,by simp⟩
   simp only[List.length_set,List.getD]
   rw[List.getElem?_set_self (by omega)];rfl
  ·simp
theorem good_snoc{l:List RgP}{n:Int}(h:GoodR l)(hn:0≤n∧n≤mxN)(hl:l.length≠0→(l.getD (l.length - 1) default).2<n):GoodR (a5E l n):=by
 unfold a5E
 split
 ·refine ⟨fun i hi=>?_,fun i hi=>?_⟩
  ·have:i=0:=by simpa using hi
   subst this;simp;omega
  ·simp at hi
 ·rename_i h0
  have h1:=hl h0
  have h2:=h.bd (l.length - 1) (by omega)
  split
  ·rename_i h3
   refine ⟨fun i hi=>?_,fun i hi=>?_⟩
   ·rw[List.length_set]at hi
    by_cases hi2:i=l.length - 1
    ·subst hi2
     simp only[List.getD]at h1 h2 ⊢
     rw[List.getElem?_set_self (by omega)]
     simp only[Option.getD_some];omega
    ·have:=h.bd i hi
     simp only[List.getD]at this ⊢
     rw[List.getElem?_set_ne (by omega)];exact this
   ·rw[List.length_set]at hi
    have:=h.gap i hi
    simp only[List.getD]at this ⊢
    rw[List.getElem?_set_ne (by omega)]
    by_cases hi2:i+1=l.length - 1
    ·rw[hi2]at this ⊢
     rw[List.getElem?_set_self (by omega)];exact this
    ·rw[List.getElem?_set_ne (by omega)];exact this
  ·rename_i h3
   refine ⟨fun i hi=>?_,fun i hi=>?_⟩
   ·by_cases hi2:i<l.length
    ·have:=h.bd i hi2
     simp only[List.getD]at this ⊢
     rw[List.getElem?_append_left hi2];exact this
    ·have:i=l.length:=by simp at hi;omega
     subst this
     simp only[List.getD]
     rw[List.getElem?_append_right (Nat.le_refl _)];simp;omega
   ·by_cases hi2:i+1<l.length
    ·have:=h.gap i hi2
     simp only[List.getD]at this ⊢
     rw[List.getElem?_append_left hi2,List.getElem?_append_left (by omega)];exact this
    ·have:i=l.length - 1:=by simp at hi;omega
     subst this
     have e:l.length - 1+1=l.length:=by omega
     rw[e]
     simp only[List.getD]at h3 ⊢
     rw[List.getElem?_append_right (Nat.le_refl _),List.getElem?_append_left (by omega)]
     simp
     omega
theorem take_snocI{l:List Int}{k:Nat}(h:k<l.length):l.take (k+1)=l.take k++[l.getD k 0]:=by
 rw[List.take_succ,List.getElem?_eq_getElem h];simp[List.getD,h]
theorem ofN_take{l:List Int}{k:Nat}(h:k<l.length):ofN (l.take (k+1))=a5E (ofN (l.take k)) (l.getD k 0):=by rw[take_snocI h,b4X]
theorem ofN_good{l:List Int}(h:RiseN l):∀ k,k≤l.length→GoodR (ofN (l.take k))∧(ofN (l.take k)).length≤k∧((ofN (l.take k)).length=0↔k=0)∧∀ j,j+1=k→((ofN (l.take k)).getD ((ofN (l.take k)).length - 1) default).2=l.getD j 0
 | 0,_=>⟨⟨fun i hi=>by simp[ofN]at hi,fun i hi=>by simp[ofN]at hi⟩,by simp[ofN],by simp[ofN],fun j hj=>by omega⟩
 | k+1,hk=>by
  obtain ⟨h1,h2,h3,h4⟩:=ofN_good h k (by omega)
  rw[ofN_take (by omega)]
  obtain ⟨s1,s2,s3⟩:=snoc_last (l:=ofN (l.take k)) (n:=l.getD k 0)
  refine ⟨good_snoc h1 (h.1 k (by omega)) fun h0=>?_,by omega,⟨fun h=>absurd h s1,fun h=>by omega⟩,fun j hj=>?_⟩
  ·have hk0:k≠0:=fun e=>h0 (h3.2 e)
   rw[h4 (k - 1) (by omega)]
   have:=h.2 (k - 1) (by omega)
   rwa [show k - 1+1=k by omega]at this
  ·have:j=k:=by omega
   subst this;exact s2
def a1P:List RgP→Int→Int→List RgP
 | [],f,t=>if f≤t then [(f,t)] else []
 | r::l,f,t=>(if f<r.1∧f≤t then [(f,min (r.1 - 1) t)] else [])++a1P l (max f (r.2+1)) t
theorem b0A:∀ (l:List RgP) (f t:Int),t<f→a1P l f t=[]
 | [],f,t,h=>by rw[a1P,if_neg (by omega)]
 | r::l,f,t,h=>by rw[a1P,if_neg (by omega),b0A l _ t (by omega)];rfl
theorem a9F:∀ (l:List RgP) (f t:Int),(a1P l f t).length≤l.length+1
 | [],f,t=>by rw[a1P];split<;>simp
 | r::l,f,t=>by
  have:=a9F l (max f (r.2+1)) t
  rw[a1P];split<;>simp<;>omega
end
section
open Go.RowKit
def ltI(x y:Int):Bool:=decide (x<y)
theorem a6w:STO ltI where
 irr a:=by simp[ltI]
 tr a b c h1 h2:=by simp only[ltI,decide_eq_true_eq]at *;omega
 tot a b h1 h2:=by simp only[ltI,decide_eq_false_iff_not]at *;omega
def a1r(L:List BlkC)(h:Int):Option BlkC:=L.find? fun b=>decide (b.h=h)
def hgs(L:List BlkC):List Int:=L.map (·.h)
def hsI(L:List BlkC):List Int:=srtL ltI (hgs L)
def b2E(L:List BlkC)(h:Int):BlkC:=(a1r L h).getD default
def dI(L:List BlkC):List BlkC:=(hsI L).map (b2E L)
theorem findH_none{L:List BlkC}{h:Int}(hf:a1r L h=none):∀ b∈L,b.h≠h:=by
 intro b hb e
 simp only[a1r,List.find?_eq_none]at hf
 exact absurd e (by simpa using hf b hb)
theorem findH_no{L:List BlkC}{h:Int}(hf:a1r L h=none):h ∉ hgs L:=fun hm=>by
 obtain ⟨b,hb,e⟩:=List.mem_map.1 hm
 exact findH_none hf b hb e
theorem findH_some{L:List BlkC}{h:Int}{b:BlkC}(hf:a1r L h=some b):b∈L∧b.h=h:=by
 unfold a1r at hf
 exact ⟨List.mem_of_find?_eq_some hf,by simpa using List.find?_some hf⟩
theorem findH_mem{L:List BlkC}(hN:(hgs L).Nodup){b:BlkC}(hb:b∈L):a1r L b.h=some b:=by
 induction L with
 | nil=>simp at hb
 | cons x L ih=>
  unfold a1r
  rw[List.find?_cons]
  simp only[hgs,List.map_cons,List.nodup_cons]at hN
  by_cases hx:x.h=b.h
  ·simp only[hx,decide_true]
   rcases List.mem_cons.1 hb with rfl|hb
   ·rfl
   ·exact absurd (List.mem_map.2 ⟨b,hb,rfl⟩) (hx▸hN.1)
  ·simp only[hx,decide_false]
   rcases List.mem_cons.1 hb with rfl|hb
   ·exact absurd rfl hx
   ·exact ih hN.2 hb
theorem mem_hgs{L:List BlkC}{h:Int}:h∈hgs L↔(a1r L h).isSome=true:=by
 constructor
 ·intro hm
  cases hf:a1r L h with
  | some x=>rfl
  | none=>exact absurd hm (findH_no hf)
 ·intro hs
  obtain ⟨b,hb⟩:=Option.isSome_iff_exists.1 hs
  obtain ⟨h1,h2⟩:=findH_some hb
  exact List.mem_map.2 ⟨b,h1,h2⟩
theorem mem_hsI{L:List BlkC}{h:Int}:h∈hsI L↔(a1r L h).isSome=true:=by rw[hsI,(srtL_perm _ _).mem_iff,mem_hgs]
theorem a9b(L:List BlkC):(dI L).length=L.length:=by simp[dI,hsI,hgs,(srtL_perm _ _).length_eq]
theorem a3l(L:List BlkC):(hsI L).length=L.length:=by simp[hsI,hgs,(srtL_perm _ _).length_eq]
theorem b3n(L:List BlkC)(i:Nat)(hi:i<L.length):((dI L).getD i default).h=(hsI L).getD i 0∧a1r L ((hsI L).getD i 0)=some ((dI L).getD i default):=by
 have hi':i<(hsI L).length:=by rw[a3l];exact hi
 have hm:(hsI L).getD i 0∈hsI L:=by rw[List.getD,List.getElem?_eq_getElem hi',Option.getD_some];exact List.getElem_mem hi'
 obtain ⟨b,hb⟩:=Option.isSome_iff_exists.1 (mem_hsI.1 hm)
 have e:(dI L).getD i default=b:=by
  have hg:(hsI L).getD i 0=(hsI L)[i]:=by simp[List.getD,hi']
  have:(dI L).getD i default=b2E L (hsI L)[i]:=by simp[dI,List.getD,hi']
  rw[this, ← hg,b2E,hb];rfl
 rw[e]
 exact ⟨(findH_some hb).2,hb⟩
theorem dI_mem{L:List BlkC}(hN:(hgs L).Nodup){b:BlkC}:b∈dI L↔b∈L:=by
 constructor
 ·intro h
  obtain ⟨i,hi,rfl⟩:=List.getElem_of_mem h
  have hi':i<L.length:=by rw[← a9b L];exact hi
  have:=(findH_some (b3n L i hi').2).1
  simpa[List.getD,hi]using this
 ·intro h
  have hf:=findH_mem hN h
  have hm:b.h∈hsI L:=mem_hsI.2 (by rw[hf];rfl)
  exact List.mem_map.2 ⟨b.h,hm,by rw[b2E,hf];rfl⟩
theorem hs_new{L:List BlkC}(hN:(hgs L).Nodup){b:BlkC}(hf:a1r L b.h=none):hsI (L++[b])=(hsI L).take (plL ltI b.h (hsI L))++[b.h]++(hsI L).drop (plL ltI b.h (hsI L)):=by
 unfold hsI
 have e:hgs (L++[b])=hgs L++[b.h]:=by simp[hgs]
 rw[e,srtL_snoc a6w hN (findH_no hf),insL_at]
theorem blk_new{L:List BlkC}{b:BlkC}(hf:a1r L b.h=none)(h:Int):b2E (L++[b]) h=if h=b.h then b else b2E L h:=by
 unfold b2E a1r
 rw[List.find?_append]
 by_cases e:h=b.h
 ·subst e
  rw[if_pos rfl]
  have:L.find? (fun x=>decide (x.h=b.h))=none:=hf
  rw[this];simp
 ·rw[if_neg e]
  cases hq:L.find? fun x=>decide (x.h=h) with
  | some y=>rfl
  | none=>simp[Ne.symm e]
def plI(h:Int)(L:List BlkC):Nat:=plL ltI h (hsI L)
theorem b6g(h:Int)(L:List BlkC):plI h L≤L.length:=by
 have:=pl_le ltI h (hsI L)
 rw[a3l]at this
 exact this
theorem dI_new{L:List BlkC}(hN:(hgs L).Nodup){b:BlkC}(hf:a1r L b.h=none):dI (L++[b])=(dI L).take (plI b.h L)++[b]++(dI L).drop (plI b.h L):=by
 have hmap:∀ l:List Int,(∀ y∈l,y∈hsI L)→l.map (b2E (L++[b]))=l.map (b2E L):=fun l hl=>List.map_congr_left fun y hy=>by
  rw[blk_new hf,if_neg (fun e:y=b.h=>findH_no hf (by have:=hl y hy;rwa [hsI,(srtL_perm _ _).mem_iff,e]at this))]
 unfold dI plI
 rw[hs_new hN hf]
 simp only[List.map_append,List.map_cons,List.map_nil]
 rw[hmap _ (fun y hy=>List.mem_of_mem_take hy),hmap _ (fun y hy=>List.mem_of_mem_drop hy),blk_new hf,if_pos rfl,List.map_take,List.map_drop]
theorem c2n(h:Int)(L:List BlkC)(i:Nat)(hi:i<plI h L):((dI L).getD i default).h<h:=by
 have:=pl_before ltI h (hsI L) i 0 hi
 rw[(b3n L i (by have:=b6g h L;omega)).1]
 simpa[ltI]using this
theorem c2o(h:Int)(L:List BlkC)(hi:plI h L<L.length):h≤((dI L).getD (plI h L) default).h:=by
 have:=pl_at ltI h (hsI L) 0 (by rw[a3l];exact hi)
 rw[(b3n L _ hi).1]
 simpa[ltI,plI]using this
theorem pl_K{L:List BlkC}(hN:(hgs L).Nodup)(h:Int):(a1r L h).isSome=true↔plI h L<L.length∧((dI L).getD (plI h L) default).h=h:=by
 have hr:Rise ltI (hsI L):=srtL_rise a6w hN
 rw[← mem_hsI,pl_mem a6w hr 0,a3l]
 constructor
 ·rintro ⟨h1,h2⟩;exact ⟨h1,by show ((dI L).getD (plL ltI h (hsI L)) default).h=h;rw[(b3n L _ h1).1];exact h2⟩
 ·rintro ⟨h1,h2⟩;exact ⟨h1,by rw[(b3n L _ h1).1]at h2;exact h2⟩
theorem pl_V{L:List BlkC}(hN:(hgs L).Nodup){h:Int}{b:BlkC}(hf:a1r L h=some b):plI h L<L.length∧(dI L).getD (plI h L) default=b:=by
 obtain ⟨h1,h2⟩:=(pl_K hN h).1 (by rw[hf];rfl)
 refine ⟨h1, ?_⟩
 obtain ⟨e1,e2⟩:=b3n L _ h1
 rw[← e1,h2,hf]at e2
 exact (Option.some.inj e2).symm
noncomputable def a5F (c:List UInt8) (top:Int) (L:List BlkC) (s:List UInt8):List BlkC × Int:=
 if (a0F s).2≠0 then (L,(a0F s).2) else if (a3z (a0F s).1).2≠0 then (L,(a3z (a0F s).1).2)
 else if (a3z (a0F s).1).1.c≠c then (L,6) else if top<(a3z (a0F s).1).1.h then (L,1)
 else match a1r L (a3z (a0F s).1).1.h with
  | none=>(L++[(a3z (a0F s).1).1],0)
  | some b=>if b=(a3z (a0F s).1).1 then (L,0) else (L,8)
theorem a6q(c:List UInt8)(top:Int)(L:List BlkC)(s:List UInt8):
  ((a0F s).2≠0∧a5F c top L s=(L,(a0F s).2))∨((a0F s).2=0∧((a3z (a0F s).1).2≠0∧a5F c top L s=(L,(a3z (a0F s).1).2)∨((a3z (a0F s).1).2=0∧
   ∃ b,(a3z (a0F s).1).1=b∧((b.c≠c∧a5F c top L s=(L,6))∨(b.c=c∧((top<b.h∧a5F c top L s=(L,1))∨(b.h≤top∧
    ((a1r L b.h=none∧a5F c top L s=(L++[b],0))∨(a1r L b.h=some b∧a5F c top L s=(L,0))∨∃ b',a1r L b.h=some b'∧b'≠b∧a5F c top L s=(L,8))))))))):=by
 unfold a5F
 by_cases h1:(a0F s).2=0
 rotate_left
 ·exact .inl ⟨h1,by rw[if_pos h1]⟩
 refine .inr ⟨h1, ?_⟩
 rw[if_neg (by simpa using h1)]
 by_cases h2:(a3z (a0F s).1).2=0
 rotate_left
 ·exact .inl ⟨h2,by rw[if_pos h2]⟩
 refine .inr ⟨h2,_,rfl, ?_⟩
 rw[if_neg (by simpa using h2)]
 by_cases h3:(a3z (a0F s).1).1.c=c
 rotate_left
 ·exact .inl ⟨h3,by rw[if_pos h3]⟩
 refine .inr ⟨h3, ?_⟩
 rw[if_neg (by simpa using h3)]
 by_cases h4:top<(a3z (a0F s).1).1.h
 ·exact .inl ⟨h4,by rw[if_pos h4]⟩
 refine .inr ⟨by omega, ?_⟩
 rw[if_neg h4]
 cases h5:a1r L (a3z (a0F s).1).1.h with
 | none=>exact .inl ⟨rfl,rfl⟩
 | some b'=>
  by_cases h6:b'=(a3z (a0F s).1).1
  ·exact .inr (.inl ⟨by rw[h6],by simp[h6]⟩)
  ·exact .inr (.inr ⟨b',rfl,h6,by simp[h6]⟩)
theorem b4M:∀ (f:Nat) (r:List UInt8) (b:Bool),(a2E f r b).2.2=0→1≤(a2E f r b).2.1
 | 0,_,_,h=>by simp[a2E]at h
 | f+1,[],_,h=>by simp[a2E]at h
 | f+1,c::r,b,h=>by
  rw[a2E]at h ⊢
  split
  ·split
   ·rename_i h1 h2;rw[if_pos h1,if_pos h2]at h;simp at h
   ·simp
  ·rename_i h1
   rw[if_neg h1]at h
   rcases hg:a2E f r false with ⟨v,n,e⟩
   rw[hg]at h
   simp only at h ⊢
   split
   ·simp
   ·rename_i he;rw[if_neg he]at h;exact absurd h he
theorem nx_adv{s:List UInt8}{n:Int}(h:(nx s n).2.2=0):n+1≤(nx s n).2.1:=by
 unfold nx at h ⊢
 split
 ·rename_i h1
  rw[if_pos h1]at h
  rcases hg:a2E 8 (s.drop n.toNat) true with ⟨v,k,e⟩
  rw[hg]at h
  simp only at h ⊢
  by_cases he:e=0
  ·rw[if_pos he]
   have:=b4M 8 (s.drop n.toNat) true (by rw[hg];exact he)
   rw[hg]at this
   simp only at this ⊢
   omega
  ·rw[if_neg he]at h;exact absurd h he
 ·rename_i h1;rw[if_neg h1]at h;simp at h
theorem rtext_adv{s:List UInt8}{m:Int}{x:Int × Int}(h:(a0w s m x).2.2=0):x.1+1≤(a0w s m x).2.1:=by
 unfold a0w at h ⊢
 split
 ·rename_i h1;rw[if_pos h1]at h;exact absurd h h1
 ·rename_i h1
  rw[if_neg h1]at h
  split
  ·rename_i h2;rw[if_pos h2]at h;exact absurd h h2
  ·rename_i h2
   rw[if_neg h2]at h
   have h3:=nx_adv (s:=s) (n:=x.1) (by simpa using h2)
   have h4:=(a7b s x.1).1
   split
   ·rename_i h5;rw[if_pos h5]at h;simp at h
   ·split
    ·rename_i h5 h6;rw[if_neg h5,if_pos h6]at h;simp at h
    ·simp only;omega
theorem rdEvs_len{s:List UInt8}:∀ (n:Nat) (x:Int × Int) (L:List EvC),inT s x→((a3n s n x L).1.length:Int)≤L.length+(s.length - x.1)
 | 0,x,L,hx=>by simp only[a3n];have:=hx.2;omega
 | n+1,x,L,hx=>by
  have h2:=a1g s 1000 x hx
  rw[a3n]
  split
  ·simp only;have:=hx.2;omega
  ·rename_i h1
   have h3:=rtext_adv (s:=s) (m:=1000) (x:=x) (by simpa using h1)
   split
   ·simp only;have:=hx.2;omega
   ·have:=rdEvs_len n (a0w s 1000 x).2 (L++[(a6W (a0w s 1000 x).1).1]) h2
    simp only[List.length_append,List.length_cons,List.length_nil]at this
    omega
theorem rdEvs_sm{s:List UInt8}(hs:s.length≤1000000):∀ (n:Nat) (x:Int × Int) (L:List EvC),inT s x→a8F L→(L.length:Int)≤x.1→a8F (a3n s n x L).1
 | 0,x,L,_,hL,_=>by simpa only[a3n]using hL
 | n+1,x,L,hx,hL,hl=>by
  have h2:=a1g s 1000 x hx
  rw[a3n]
  split
  ·exact hL
  ·rename_i h1
   have h3:=rtext_adv (s:=s) (m:=1000) (x:=x) (by simpa using h1)
   split
   ·exact hL
   ·refine rdEvs_sm hs n _ _ h2 (evsS_snoc hs hL (by have:=hx.2;omega) x) ?_
    simp only[List.length_append,List.length_cons,List.length_nil]
    omega
theorem a4E:a8F []:=⟨by simp,fun i hi=>by simp at hi⟩
theorem decB_sm{s:List UInt8}(hs:s.length≤1000000):a8F (a3z s).1.e:=by
 have h0:inT s (0,0):=⟨by simp,by simp⟩
 have h1:=a1g s 12 _ h0
 have h2:=a0Z s 1 mxH _ h1
 have h3:=a0Z s 0 mxH _ h2
 have h4:=a6k s 1073741824 _ h3
 have h5:=rdEvs_sm hs (a1j s 1073741824 (a1F s 0 mxH (a1F s 1 mxH (a0w s 12 (0,0)).2).2).2).1.toNat _ [] h4 a4E (by simpa using h4.1)
 simp only[a3z,b2U,b2J]
 split
 ·exact a4E
 ·split
  ·exact a4E
  ·split
   ·exact a4E
   ·exact h5
theorem b6z(s:List UInt8):(a3z s).1.e.length≤s.length:=by
 have h0:inT s (0,0):=⟨by simp,by simp⟩
 have h1:=a1g s 12 _ h0
 have h2:=a0Z s 1 mxH _ h1
 have h3:=a0Z s 0 mxH _ h2
 have h4:=a6k s 1073741824 _ h3
 have h5:=rdEvs_len (s:=s) (a1j s 1073741824 (a1F s 0 mxH (a1F s 1 mxH (a0w s 12 (0,0)).2).2).2).1.toNat _ [] h4
 have h6:=h4.1
 simp only[a3z,b2U,b2J]
 split
 ·simp[bkz]
 ·split
  ·simp[bkz]
  ·split
   ·simp[bkz]
   ·simp only[List.length_nil]at h5 ⊢
    omega
theorem decB_may{s:List UInt8}(h:(a3z s).2=0):a3J (a3z s).1=true:=by
 simp only[a3z,b2U,b2J]at h ⊢
 split
 ·rename_i h1;rw[if_pos h1]at h;exact absurd h h1
 ·rename_i h1
  rw[if_neg h1]at h
  split
  ·rename_i h2;rw[if_pos h2]at h;exact absurd h h2
  ·rename_i h2
   rw[if_neg h2]at h
   split
   ·rename_i h3;rw[if_pos h3]at h;simp at h
   ·rename_i h3;simpa using h3
theorem a8q(s:List UInt8):(a0F s).1.length≤s.length:=by
 have hn:(a4d s).1.length≤s.length:=by
  unfold a4d
  repeat' split
  all_goals first|(simp;done)|(simp;omega)
 unfold a0F
 repeat' split
 all_goals first|(simp;done)|exact hn|omega
structure IxG (c:List UInt8) (top:Int) (n:Nat) (L:List BlkC):Prop where
 nd:(hgs L).Nodup
 ok:∀ b∈L,a3J b=true∧b.c=c∧b.h≤top
 ev:((dI L).map (·.e.length)).sum≤n
 sm:∀ b∈L,a8F b.e
 ln:L.length≤n
theorem c2i(c:List UInt8)(top:Int):IxG c top 0 []:=⟨by simp[hgs],fun b hb=>by simp at hb,by simp[dI,hsI,hgs,srtL],fun b hb=>by simp at hb,by simp⟩
theorem IxG.mono{c:List UInt8}{top:Int}{n m:Nat}{L:List BlkC}(h:IxG c top n L)(hm:n≤m):IxG c top m L:=⟨h.nd,h.ok,Nat.le_trans h.ev hm,h.sm,Nat.le_trans h.ln hm⟩
def evI(L:List BlkC):List EvC:=(dI L).flatMap (·.e)
theorem a6t(L:List BlkC):(evI L).length=((dI L).map (·.e.length)).sum:=by unfold evI;rw[List.length_flatMap]
theorem b7B(l:List BlkC)(b:BlkC)(i:Nat):((l.take i++[b]++l.drop i).map (·.e.length)).sum=(l.map (·.e.length)).sum+b.e.length:=by
 have:(l.map (·.e.length)).sum=((l.take i).map (·.e.length)).sum+((l.drop i).map (·.e.length)).sum:=by
  rw[← List.sum_append, ← List.map_append,List.take_append_drop]
 simp only[List.map_append,List.sum_append,List.map_cons,List.map_nil,List.sum_cons,List.sum_nil]
 omega
theorem addI_good{c:List UInt8}{top:Int}{n:Nat}{L:List BlkC}(h:IxG c top n L)(s:List UInt8)(hs:s.length≤1000000):IxG c top (n+s.length+1) (a5F c top L s).1:=by
 have h':=h.mono (show n≤n+s.length+1 by omega)
 rcases a6q c top L s with ⟨_,g⟩ | ⟨_,⟨_,g⟩ | ⟨hd,b,hb,⟨_,g⟩ | ⟨hc,⟨_,g⟩ | ⟨ht,⟨hf,g⟩ | ⟨_,g⟩ | ⟨_,_,_,g⟩⟩⟩⟩⟩<;>rw[g]
 all_goals try exact h'
 have hl:=a8q s
 refine ⟨?_,fun x hx=>?_, ?_,fun x hx=>?_, ?_⟩
 ·have e:hgs (L++[b])=hgs L++[b.h]:=by simp[hgs]
  rw[e];exact nodup_snoc h.nd (findH_no hf)
 ·rcases List.mem_append.1 hx with hx|hx
  ·exact h.ok x hx
  ·obtain rfl:x=b:=by simpa using hx
   exact ⟨by rw[← hb];exact decB_may hd,hc,ht⟩
 ·show ((dI (L++[b])).map _).sum≤_
  rw[dI_new h.nd hf,b7B]
  have:=b6z (a0F s).1
  rw[hb]at this
  have:=h.ev
  omega
 ·rcases List.mem_append.1 hx with hx|hx
  ·exact h.sm x hx
  ·obtain rfl:x=b:=by simpa using hx
   have h1:=decB_sm (s:=(a0F s).1) (by omega)
   rw[hb]at h1;exact h1
 ·simp only[List.length_append,List.length_cons,List.length_nil]
  have:=h.ln;omega
noncomputable def a1y (c:List UInt8) (top:Int) (l:List (List UInt8)):List BlkC × List Int:=l.foldl (fun x s=>((a5F c top x.1 s).1,x.2++[(a5F c top x.1 s).2])) ([],[])
theorem a7U(c:List UInt8)(top:Int):a1y c top []=([],[]):=rfl
theorem b2I(c:List UInt8)(top:Int)(l:List (List UInt8))(s:List UInt8):a1y c top (l++[s])=((a5F c top (a1y c top l).1 s).1,(a1y c top l).2++[(a5F c top (a1y c top l).1 s).2]):=by simp[a1y]
theorem a7T(c:List UInt8)(top:Int)(l:List (List UInt8)):(a1y c top l).2.length=l.length:=by
 have key:∀ (l:List (List UInt8)) (x:List BlkC × List Int),(l.foldl (fun x s=>((a5F c top x.1 s).1,x.2++[(a5F c top x.1 s).2])) x).2.length=x.2.length+l.length:=by
  intro l
  induction l with
  | nil=>intro x;rfl
  | cons s l ih=>intro x;rw[List.foldl_cons,ih];simp;omega
 have:=key l ([],[])
 simpa[a1y]using this
theorem a9d(c:List UInt8)(top:Int):∀ (l:List (List UInt8)) (n:Nat),(∀ s∈l,s.length≤1000000)→(l.map (·.length)).sum≤n→IxG c top (n+l.length) (a1y c top l).1:=by
 have key:∀ (l:List (List UInt8)) (x:List BlkC × List Int) (n:Nat),(∀ s∈l,s.length≤1000000)→IxG c top n x.1→IxG c top (n+((l.map (·.length)).sum+l.length)) (l.foldl (fun x s=>((a5F c top x.1 s).1,x.2++[(a5F c top x.1 s).2])) x).1:=by
  intro l
  induction l with
  | nil=>intro x n _ h;simpa using h
  | cons s l ih=>
   intro x n hs h
   have:=ih ((a5F c top x.1 s).1,x.2++[(a5F c top x.1 s).2]) _ (fun t ht=>hs t (List.mem_cons_of_mem _ ht)) (addI_good h s (hs s (List.mem_cons_self ..)))
   rw[List.foldl_cons]
   refine this.mono ?_
   simp only[List.map_cons,List.sum_cons,List.length_cons];omega
 intro l n hs hn
 exact (key l ([],[]) 0 hs (c2i c top)).mono (by omega)
end
section
open Go.RowKit Go.ChangeMaps Go.Sort Go.Shelf Go.Maps
set_option maxRecDepth 100000
theorem ins_perm{H:Type}(x:Lit × DataW H):∀ l:List (Lit × DataW H),(DataW.insert x l).Perm (x::l)
 | []=>.refl _
 | y::r=>by
  rw[DataW.insert]
  split
  ·exact .refl _
  ·exact ((ins_perm x r).cons y).trans (.swap x y r)
theorem insAll_perm{H:Type}:∀ l:List (Lit × DataW H),(l.foldr DataW.insert []).Perm l
 | []=>.refl _
 | x::r=>(ins_perm x _).trans ((insAll_perm r).cons x)
def b5L(v:Value):Option (DataW Unit × List MemPlace):=some (.nil,[])
theorem wf_num{x:Int}(h:0≤x∧x≤mxN):(Lit.int .i64 x).wf=true:=by
 have e:mxN=72057594037927935:=rfl
 have e1:IntKind.min .i64 = -9223372036854775808:=by decide
 have e2:IntKind.max .i64=9223372036854775807:=by decide
 simp only[Lit.wf,e1,e2,decide_eq_true_eq,Bool.and_eq_true]
 omega
theorem ikt_srt{ss l:List Int}(hp:ss.Perm l)(ha:l.Nodup):ss.mergeSort (fun x y=>decide (x≤y))=srtL ltI l:=by
 have tr:∀ a b c:Int,leI a b=true→leI b c=true→leI a c=true:=fun a b c h1 h2=>by simp only[leI,decide_eq_true_eq]at *;exact Int.le_trans h1 h2
 have tot:∀ a b:Int,(leI a b||leI b a)=true:=fun a b=>by simp only[leI,Bool.or_eq_true,decide_eq_true_eq];exact Int.le_total a b
 have hq:(ss.mergeSort leI).Perm l:=(List.mergeSort_perm ss leI).trans hp
 have hN:(ss.mergeSort leI).Nodup:=hq.nodup_iff.2 ha
 have hS:=List.pairwise_mergeSort tr tot ss
 refine rise_unique a6w ?_ (srtL_rise a6w ha) (hq.trans (srtL_perm ltI l).symm)
 refine (hS.and hN).imp fun {a b} h=>?_
 have h1:=h.1
 have h2:=h.2
 simp only[leI,ltI,decide_eq_true_eq]at *
 omega
set_option maxHeartbeats 4000000 in
theorem b2M(bx m:Nat)(h1:¬ bx=m)(l:List Int)(vals:List AV)(ha:l.Nodup)(hl:l.length≤100000)(hb:∀ x∈l,0≤x∧x≤mxN):
  CT Tryz.prog 64 [.clo 131 [.ptr bx 0]] (lk [(bx,[.mapv m]),(m,[.mp (l.map (AV.int .i64 ·)) vals (List.range l.length) l.length])])
   (fun r o=>r=.sl (some 3) 1 ((srtL ltI l).map fun x=>[.int .i64 x])∧o=lk [(bx,[.mapv m]),(m,[.mp (l.map (AV.int .i64 ·)) vals (List.range l.length) l.length])]):=by
 refine CT_reads fun W U vs hG hlen hv ho=>?_
 obtain rfl:vs=[.func (.func 131) #[] #[.pointer (some ⟨bx,0,none⟩)]]:=by
  match vs,hlen with
  | [v],_=>rw[(hv 0 v _ rfl rfl).clo1_inv]
 obtain ⟨us,ty,q1,q2,q3⟩:ObC W U bx [.mapv m]:=ho bx _ (lk_hd _ _ _)
 obtain ⟨es,g1,g2,g3,g4,g5,g6,g7⟩:ObR W U m [.mp (l.map (AV.int .i64 ·)) vals (List.range l.length) l.length]:=ho m _ (lk_tl (fun e=>h1 e.symm) (lk_hd _ _ _))
 have hus:us = #[.map (some m)]:=by
  have h0:=(q3 0 _ rfl).1.map_inv
  match us,q2 with
  | ⟨[a]⟩,_=>simp at h0;subst h0;rfl
 subst hus
 have hsz:es.size=l.length:=by rw[g2];simp
 have hborn:∀ (i:Nat) (e:MapEntry),es[i]?=some e→e.born=i:=by
  intro i e he
  have hi:i<es.size:=(Array.getElem?_eq_some_iff.1 he).1
  exact (g7 i e he).2.2 i (by rw[List.getElem?_range (by omega)])
 have hval:es.toList.map (·.key)=l.map encZ:=by
  apply List.ext_getElem?
  intro i
  by_cases hi:i<es.size
  ·have hil:i<l.length:=by omega
   have he:es[i]?=some es[i]:=Array.getElem?_eq_getElem hi
   have hx:=(g7 i _ he).1 (.int .i64 l[i]) (by simp[List.getElem?_eq_getElem hil])
   simp only[List.getElem?_map,Array.getElem?_toList,he,Option.map_some,List.getElem?_eq_getElem hil]
   have hxi:∀ {v:Value} {n:Int},VR W U v (.int .i64 n)→v=encZ n:=fun h=>by cases h;rfl
   exact congrArg some (hxi hx)
  ·rw[List.getElem?_eq_none (by simp;omega),List.getElem?_eq_none (by simp;omega)]
 have hb1:∀ x∈es.toList,x.born<l.length:=by
  intro x hx
  obtain ⟨i,hi,rfl⟩:=List.getElem_of_mem hx
  simp at hi
  have:=hborn i es[i] (Array.getElem?_eq_getElem hi)
  simp[this];omega
 have hnd:(es.toList.map (·.born)).Nodup:=by
  have:es.toList.map (·.born)=List.range es.size:=by
   apply List.ext_getElem
   ·simp
   ·intro i h2 h3
    simp at h2
    simp[hborn i es[i] (Array.getElem?_eq_getElem h2)]
  rw[this];exact List.nodup_range
 have hkn:(es.toList.map (·.key)).Nodup:=by
  rw[hval]
  exact List.pairwise_map.2 (ha.imp fun {a b} hab e=>hab (encZ_inj e))
 have hrd:∀ x∈es.toList, ∃ z:Int,z∈l∧x.key=encZ z∧WideElems.rd Tryz.prog 3 b5L x=some (.int .i64 z,.nil):=by
  intro x hx
  have hk:x.key∈es.toList.map (·.key):=List.mem_map.2 ⟨x,hx,rfl⟩
  rw[hval]at hk
  obtain ⟨z,hz,e⟩:=List.mem_map.1 hk
  have hw:=wf_num (hb z hz)
  have hkey:keyOf Tryz.prog 3 x.key=some (.int .i64 z):=by
   rw[← e];simp[keyOf,Tryz.underlying3,mapKey,encZ,hw]
  exact ⟨z,hz,e.symm,by simp[WideElems.rd,hkey,b5L]⟩
 have hmx:(100000:Nat)≤maxLen:=by unfold maxLen;decide
 have hF:WideElems.Fit Tryz.prog 3 b5L es l.length:=⟨by omega,⟨hb1,hnd,hkn⟩,fun x hx=>by obtain ⟨z,_,_,h⟩:=hrd x hx;exact ⟨_,h⟩⟩
 have hown:=World.ownsMap_of_fit (R:=b5L) g1 hF fun _ _ _ h=>h
 generalize hD:(DataW.map ((es.toList.map (WideElems.rg Tryz.prog 3 b5L)).foldr DataW.insert []):DataW Unit)=D0 at hown
 have hperm:(intKeys D0).Perm l:=by
  rw[← hD]
  show (((es.toList.map (WideElems.rg Tryz.prog 3 b5L)).foldr DataW.insert []).map fun p=>Go.intOf p.1).Perm l
  refine ((insAll_perm _).map _).trans ?_
  rw[List.map_map]
  have:es.toList.map ((fun p:Lit × DataW Unit=>Go.intOf p.1) ∘ WideElems.rg Tryz.prog 3 b5L)=l:=by
   have h2:es.toList.map ((fun p:Lit × DataW Unit=>Go.intOf p.1) ∘ WideElems.rg Tryz.prog 3 b5L)=(es.toList.map (·.key)).map fun v=>match v with | .int _ a=>a|_=>0:=by
    rw[List.map_map]
    refine List.map_congr_left fun x hx=>?_
    obtain ⟨z,_,e,h⟩:=hrd x hx
    simp only[Function.comp,WideElems.rg_of h,e,encZ,Go.intOf]
   rw[h2,hval,List.map_map]
   have:(fun v:Value=>match v with | .int _ a=>a|_=>0) ∘ encZ=id:=by funext a;rfl
   rw[this,List.map_id]
  rw[this]
 have hsize:Maps.size D0=l.length:=by
  have:=hperm.length_eq
  rw[← hD]at this ⊢
  simpa[intKeys,Maps.size]using this
 have hc1:W.cell? ⟨bx,0,none⟩=some (.map (some m)):=by simp[World.cell?,q1]
 have hbxl:bx<W.heap.size:=(Array.getElem?_eq_some_iff.1 q1).1
 have hseq:SeqGives Fence.wide 3 Tryz.prog 131 #[.pointer (some ⟨bx,0,none⟩)] encZ (fun ss=>ss.Perm (intKeys D0)) (Maps.size D0) W:=
  AnyZI.keys_gives (ρ:=Tryz.keys65_ren) { Tryz.keys65 with } Fence.wide _ trivial rfl (by omega) bx m es.size D0 W hbxl hc1 hown
 have hs:AnyZI.SortsIn Tryz.prog Tryz.sorted64_ren Fence.wide 5:=
  ⟨fun blk off cap ss W hH hblk hsz=>callsIn_wide.2 (AnyM.slices_Sort_int Tryz.isort128 blk off cap ss W hH hblk hsz),fun p cap W=>callsIn_wide.2 (AnyM.slices_Sort_int_none Tryz.isort128 p cap W)⟩
 have cS:=AnyZI.sorted_in Tryz.sorted64 Fence.wide 6 trivial trivial trivial trivial rfl (by omega) hs (enters_of Tryz.func128 (by kernel_rfl) rfl) 131 #[.pointer (some ⟨bx,0,none⟩)] trivial (enters_of Tryz.func131 (by kernel_rfl) rfl) _ _ (by rw[hsize];omega) (by rw[hsize];omega) W hseq
 change CallsIn _ _ Tryz.prog 64 _ _ _ at cS
 refine (callsIn_wide.1 cS).mono ?_
 rintro e W' ⟨v,ss,rfl,hS,hrow,hnil,hbl⟩
 have hsl:ss.Perm l:=hS.trans hperm
 rw[ikt_srt hsl ha]at hrow
 have hlen2:(srtL ltI l).length=ss.length:=((srtL_perm ltI l).trans hsl.symm).length_eq
 obtain ⟨U',r1,r2,r3⟩:=row_VR (U:=U) (e:=3) (k:=1) (els:=(srtL ltI l).map fun x=>[AV.int .i64 x]) (by omega) hbl hrow (by simp[hlen2]) (fun l hl=>by
   simp only[List.mem_map]at hl
   obtain ⟨a,_,rfl⟩:=hl
   rfl) (fun u hu=>by
   obtain ⟨x,_,rfl⟩:=List.mem_map.1 hu
   rfl) (fun i j l' c u hl' hc hu W2 U2=>by
   simp only[List.getElem?_map,Option.map_eq_some_iff]at hl'
   obtain ⟨x,hx,rfl⟩:=hl'
   have hj:j<1:=(List.getElem?_eq_some_iff.1 hc).1
   obtain rfl:j=0:=by omega
   simp only[Nat.mul_one,Nat.add_zero,List.getElem?_map,hx,Option.map_some,Option.some.injEq]at hu
   simp only[List.getElem?_cons_zero,Option.some.injEq]at hc
   subst hu;subst hc
   exact .int _ _)
 exact ⟨v,U',rfl,r1,fun e sz els he=>by cases he;exact r2,r3⟩
theorem b4N(m:Nat):CT Tryz.prog 65 [.mapv m] (lk []) (fun r o=>∃ b,r=.clo 131 [.ptr b 0]∧o=lk [(b,[.mapv m])]):=by
 refine CT_lays (R:=fun b=>.clo _ [.ptr b 0]) fun W U vs hl hv=>?_
 obtain rfl:vs=[.map (some m)]:=by
  match vs,hl with
  | [v],_=>rw[(hv 0 v _ rfl rfl).map_inv]
 go_enter Tryz.func65,Tryz.ntmps65
 go_wp2
 go_ret
 refine ⟨_,_,_,rfl,rfl,rfl,fun u hu=>(by cases hu),fun j u hj=>?_,fun W2 U2 hc=>?_,by simp⟩
 ·match j with
  | 0=>
   simp at hj;subst hj
   exact ⟨rfl,fun x hx=>by simp at hx;subst hx;exact ⟨.mapv m,by simp⟩⟩
  | j+1=>simp at hj
 ·refine .clo _ [_] [_] rfl fun i v c h1 h2=>?_
  match i with
  | 0=>simp at h1 h2;subst h1;subst h2;exact .ptr _ _ hc
  | i+1=>simp at h1
end
section
open Go.RowKit Go.Shelf Go.Sort Go.Lib
set_option maxRecDepth 100000
theorem flatM_len{k:Nat}:∀ els:List (List AV),(∀ e∈els,e.length=k)→(els.flatMap a1i).length=els.length * k
 | [],_=>by simp
 | e::r,h=>by
  rw[List.flatMap_cons,List.length_append,a1q,h e (by simp),flatM_len r fun x hx=>h x (by simp[hx]),List.length_cons,Nat.add_mul];omega
theorem flatM_get{k:Nat}:∀ (els:List (List AV)) (i j:Nat),(∀ e∈els,e.length=k)→i<els.length→j<k→(els.flatMap a1i)[i * k+j]?=(a1i (els.getD i []))[j]?
 | [],i,j,_,h,_=>by simp at h
 | e::r,0,j,h,_,hj=>by
  rw[List.flatMap_cons,List.getElem?_append_left (by rw[a1q,h e (by simp)];omega)];simp
 | e::r,i+1,j,h,hi,hj=>by
  have he:=h e (by simp)
  rw[List.flatMap_cons,List.getElem?_append_right (by rw[a1q,he,Nat.add_mul];omega),a1q,he]
  have:(i+1) * k+j - k=i * k+j:=by rw[Nat.add_mul];omega
  rw[this,flatM_get r i j (fun x hx=>h x (by simp[hx])) (by simpa using hi) hj];simp
section
variable {P:Program} {ρ:Ren}
set_option maxHeartbeats 2000000 in
theorem b4z(L:SlLaysE0.n41 P ρ)(i0:TypeInfo)(z:Value)(size bytes:Nat)(hi:P.info? (ρ.t 23)=some i0)(hz0:i0.zero=some z)(hz1:i0.size=size)(hz2:i0.bytes=bytes)(hzs:z.cells.size=size)(hsz:0<size)
  (z23:∀ w,(Go.sizeOf (ρ.t 23)).run P w=.ok size w) (a:Addr) (c:Nat) (w:World):
  Calls P (ρ.f 41) #[.slice (some a) 0 c] w fun e w'=>∃ v',e=.returned v'∧w'.ownsRow w.heap.size (ρ.t 23) size v' 0 []∧RowKit.Below w.heap.size w w':=by
 have mixed:=L.mixed;have t4:=L.t4;have a4:=L.a4;have z4:=L.z4;have v4:=L.v4;have t22:=L.t22;have a22:=L.a22;have z22:=L.z22;have v22:=L.v22
 have q22:∀ (w:World) (a:Option Addr) (n c n' c':Nat),(binOp .eql (ρ.t 22) (.slice a n c) (.slice none n' c')).run P w=.ok (.bool a.isNone) w:=fun w a n c n' c'=>Lib.run_eql_slice_nil w _ _ a n c n' c' L.t22
 have u22:∀ w,Sem.run P (underlying (ρ.t 22)) w=.ok (TypeDesc.slice (ρ.t 23)) w:=run_underlying t22
 obtain ⟨_,_,FG⟩:=L.f41
 go_enter FG,SlBodyN.n41_ntmps ρ
 go_wp2_with (at_builtin;refine wpList_append_own _ rfl _ _ (ρ.t 22) rfl w.heap.size (ρ.t 23) i0 z size bytes t22 hi hz0 hz1 hz2 hzs hsz _ _ _ rfl (World.ownsRow_made w #[] 0 (Nat.le_refl _) (Nat.zero_le _) (by simp)) a 0 c [] rfl (by simp) (by intro j u hj;simp at hj) (by intro u hu;cases hu) (by unfold maxLen;omega) (by omega) (by simp) ?_)
 intro v' w1 hown hgrow hnil
 go_wp2
 go_ret
 exact ⟨v',rfl,by simpa using hown,((RowKit.Below.refl _ w).alloc (Nat.le_refl _) _).grown hgrow (by simp) (by intro k hk;simp[Value.ownBlock]at hk;omega)⟩
theorem b1F(L:SlLaysE0.n41 P ρ)(i0:TypeInfo)(z:Value)(size bytes:Nat)(hi:P.info? (ρ.t 23)=some i0)(hz0:i0.zero=some z)(hz1:i0.size=size)(hz2:i0.bytes=bytes)(hzs:z.cells.size=size)(hsz:0<size)
  (z23:∀ w,(Go.sizeOf (ρ.t 23)).run P w=.ok size w) (els:List (List AV)) (hb:els.length * bytes≤140737488355328) (hl:els.length≤maxLen) (hs:∀ e∈els,e.length=size) (hf:∀ e∈els,a6u e=true):
  CP P (ρ.f 41) [.sl none size els] (.sl (some (ρ.t 23)) size els):=by
 intro W U vs hG hlen hv
 obtain ⟨v,rfl⟩:∃ v,vs=[v]:=by
  match vs,hlen with
  | [v],_=>exact ⟨v,rfl⟩
 have h:=hv 0 v _ rfl rfl
 have hget:∀ (i j:Nat) (l:List AV) (c:AV) (u:Value),els[i]?=some l→l[j]?=some c→(els.flatMap a1i)[i * size+j]?=some u→∀ W U,VR W U u c:=by
  intro i j l c u hl' hc hu W2 U2
  have hi':i<els.length:=(List.getElem?_eq_some_iff.1 hl').1
  have hm:l∈els:=List.mem_of_getElem? hl'
  have hj:j<size:=by rw[← hs l hm];exact (List.getElem?_eq_some_iff.1 hc).1
  rw[flatM_get els i j hs hi' hj]at hu
  have e:els.getD i []=l:=by simp[List.getD,hl']
  rw[e]at hu
  exact (a2c l (hf l hm) j c u hc hu).1 W2 U2
 have hone:∀ u∈els.flatMap a1i,u.oneCell'=true:=by
  intro u hu
  obtain ⟨e,he,h2⟩:=List.mem_flatMap.1 hu
  exact plainV_one (hf e he) u h2
 have fin:∀ (W':World) (v':Value),RowKit.Below W.heap.size W W'→W'.ownsRow W.heap.size (ρ.t 23) size v' els.length (els.flatMap a1i)→
   ∃ v U',Ending.returned v'=.returned v∧VR W' U' v (.sl (some (ρ.t 23)) size els)∧Own1 W' U' (W.heap.size ≤ ·) v (.sl (some (ρ.t 23)) size els)∧Ext W U W' U':=by
  intro W' v' hbl hrow
  obtain ⟨U',r1,r2,r3⟩:=row_VR (U:=U) (e:=ρ.t 23) (k:=size) (els:=els) hsz hbl hrow rfl hs hone hget
  exact ⟨v',U',rfl,r1,r2,r3⟩
 cases h with
 | sl A cap own _ b o _ f hcap hmax hA _ hc hvv=>
  rcases Nat.eq_zero_or_pos els.length with h0|h0
  ·obtain rfl:els=[]:=List.eq_nil_of_length_eq_zero h0
   cases A with
   | none=>
    refine (AnyE.slices_Clone_nil L 0 cap W).mono ?_
    rintro e W' ⟨rfl,rfl⟩
    exact fin _ _ (RowKit.Below.refl _ _) ⟨by simp,.inl ⟨rfl,rfl⟩⟩
   | some a=>
    refine (b4z L i0 z size bytes hi hz0 hz1 hz2 hzs hsz z23 a cap W).mono ?_
    rintro e W' ⟨v',rfl,hrow,hbl⟩
    exact fin W' v' hbl (by simpa using hrow)
  ·obtain rfl:=hA h0
   refine (AnyE.slices_Clone L i0 z size bytes hi hz0 hz1 hz2 hzs hsz z23 b o els.length cap (els.flatMap a1i) W (flatM_len els hs) hl hb (fun t u hu=>?_) hone).mono ?_
   ·have ht:t<els.length * size:=by rw[← flatM_len els hs];exact (List.getElem?_eq_some_iff.1 hu).1
    have hi':t / size<els.length:=(Nat.div_lt_iff_lt_mul hsz).2 ht
    have hj:t % size<size:=Nat.mod_lt _ hsz
    have e:t / size * size+t % size=t:=by rw[Nat.mul_comm];exact Nat.div_add_mod t size
    obtain ⟨c1,_,_⟩:=hc (t / size) (t % size) hi' hj
    have hm:els.getD (t / size) []∈els:=by rw[List.getD,List.getElem?_eq_getElem hi',Option.getD_some];exact List.getElem_mem hi'
    have hle:=hs _ hm
    have hc2:=List.getElem?_eq_getElem (l:=els.getD (t / size) []) (i:=t % size) (by rw[hle];exact hj)
    have hvr:=hvv (t / size) _ (t % size) _ (by rw[List.getD,List.getElem?_eq_getElem hi',Option.getD_some]) hc2
    have hu2:=flatM_get els (t / size) (t % size) hs hi' hj
    rw[e,hu]at hu2
    have:=(a2c _ (hf _ hm) (t % size) _ u hc2 hu2.symm).2.1 W U _ hvr
    rw[show o+t=o+t / size * size+t % size by omega,c1,this]
   ·rintro e W' ⟨v',rfl,hrow,_,hbl⟩
    exact fin W' v' hbl hrow
end
end
section
open Go.RowKit
set_option maxRecDepth 100000
def ixs(l:List Int):List (List AV):=l.map fun x=>[.int .i64 x]
theorem a0e(l:List Int):(ixs l).length=l.length:=by simp[ixs]
theorem a0d(l:List Int)(i:Nat)(h:i<l.length):(ixs l).getD i []=[.int .i64 (l.getD i 0)]:=by simp[ixs,h]
theorem c1y(n:Nat):Int.tdiv (n:Int) 4=((n / 4:Nat):Int):=rfl
def Asc(l:List Int):Prop:=∀ i j,i≤j→j<l.length→l.getD i 0≤l.getD j 0
theorem sxSrt{A B:Prop}(h:B)(e:A=B:=by (simp (disch:=omega) only[*, ↓Ed,Eu, ↓reduceIte,reduceCtorEq,Nat.reduceAdd,Nat.reduceEqDiff,Nat.reduceLT,Nat.reduceLeDiff,Int.reduceToNat,Int.reduceEq,Int.reduceLT,Int.reduceLE,w64,List.length_append,List.length_map,Int.reduceAdd,a0e,a0d,c1y,Int.mul_one,Int.zero_add,Int.sub_zero];first|done|rfl)):A:=e▸h
theorem b3W(x:Int):CP Tryz.prog 283 [.int .i64 x] (.bool false):=by
 refine a7n _ _ (by simp) ?_
 simp only[a4n];refine sxSrt ?_
 repeat' ((first|exact tt|refine na fun b=>?_|refine nb fun b hb=>?_|refine iq ?_|(refine jq ?_ ?_<;>intro h h')|refine Two_intro ?_ ?_|exact wZ|fail)<;>try refine sxSrt ?_)
theorem b7b(x y:Int):CP Tryz.prog 237 [.int .i64 x,.int .i64 y] (.bool (decide (x<y))):=by
 have h1:=b3W x
 have h2:=b3W y
 refine a8g _ _ (by simp) ?_
 simp only[a5c];refine sxSrt ?_
 repeat' ((first|exact tt|refine CallO_pure (h1) ?_|refine CallO_pure (h2) ?_|refine na fun b=>?_|refine nb fun b hb=>?_|refine iq ?_|(refine jq ?_ ?_<;>intro h h')|refine Two_intro ?_ ?_|exact wZ|fail)<;>try refine sxSrt ?_)
theorem h_asc{l:List Int}(ha:Asc l){x y:Int}(h0:0≤x)(hxy:x≤y)(hy:y<l.length):CP Tryz.prog 237 [.int .i64 (l.getD y.toNat 0),.int .i64 (l.getD x.toNat 0)] (.bool false):=by
 have:=b7b (l.getD y.toNat 0) (l.getD x.toNat 0)
 rwa [decide_eq_false (by have:=ha x.toNat y.toNat (by omega) (by omega);omega)]at this
theorem b2y(b:Nat)(l:List Int)(x y:Int)(h0:0≤x)(hxy:x≤y)(hy:y<l.length)(ha:Asc l):
  CT Tryz.prog 307 [.sl none 1 (ixs l),.int .i64 x,.int .i64 y,.ptr b 0] (lk [(b,[.int .i64 0])]) (fun r o=>r=.tup [.int .i64 x,.int .i64 y]∧o=lk [(b,[.int .i64 0])]):=by
 have hL:=h_asc ha h0 hxy hy
 have e1:x.toNat<l.length:=by omega
 have e2:y.toNat<l.length:=by omega
 refine a2H _ _ _ (by simp) ?_
 simp only[a1I];refine sxSrt ?_
 repeat' ((first|exact tt|refine CallW_intro (hL) ?_|refine na fun b=>?_|refine nb fun b hb=>?_|refine iq ?_|(refine jq ?_ ?_<;>intro h h')|refine Two_intro ?_ ?_|exact wZ|fail)<;>try refine sxSrt ?_)
 all_goals exact ro_mk (by simp[LeL,lk,r_two,rl_cons,rl_nil,arR,al_int]) (fun _ cs h=>⟨cs,h⟩)
theorem b2x(b:Nat)(l:List Int)(x y z:Int)(h0:0≤x)(hxy:x≤y)(hyz:y≤z)(hz:z<l.length)(ha:Asc l):
  CT Tryz.prog 282 [.sl none 1 (ixs l),.int .i64 x,.int .i64 y,.int .i64 z,.ptr b 0] (lk [(b,[.int .i64 0])]) (fun r o=>r=.int .i64 y∧o=lk [(b,[.int .i64 0])]):=by
 have h1:=b2y b l x y h0 hxy (by omega) ha
 have h2:=b2y b l y z (by omega) hyz hz ha
 refine a2G _ _ _ (by simp) ?_
 simp only[a1H];refine sxSrt ?_
 repeat' ((first|exact tt|refine c1 (h1) ?_|refine c1 (h2) ?_|refine na fun b=>?_|refine nb fun b hb=>?_|refine iq ?_|(refine jq ?_ ?_<;>intro h h')|refine Two_intro ?_ ?_|exact wZ|fail)<;>try refine sxSrt ?_)
 all_goals exact ro_mk (by simp[LeL,lk,a0z,arR]) (fun _ cs h=>⟨cs,h⟩)
theorem b0b(b:Nat)(l:List Int)(y:Int)(h0:1≤y)(hz:y+1<l.length)(hb:y≤1000000)(ha:Asc l):
  CT Tryz.prog 281 [.sl none 1 (ixs l),.int .i64 y,.ptr b 0] (lk [(b,[.int .i64 0])]) (fun r o=>r=.int .i64 y∧o=lk [(b,[.int .i64 0])]):=by
 have h1:=b2x b l (y - 1) y (y+1) (by omega) (by omega) (by omega) hz ha
 refine a1Q _ _ _ (by simp) ?_
 simp only[a0V];refine sxSrt ?_
 repeat' ((first|exact tt|refine c1 (h1) ?_|refine na fun b=>?_|refine nb fun b hb=>?_|refine iq ?_|(refine jq ?_ ?_<;>intro h h')|refine Two_intro ?_ ?_|exact wZ|fail)<;>try refine sxSrt ?_)
 all_goals exact ro_mk (by simp[LeL,lk,a0z,arR]) (fun _ cs h=>⟨cs,h⟩)
theorem b5f(l:List Int)(h13:12<l.length)(hb:l.length≤1000000)(ha:Asc l):
  CP Tryz.prog 234 [.sl none 1 (ixs l),.int .i64 0,.int .i64 (l.length:Int)] (.tup [.int .i64 (((l.length / 4:Nat):Int) * 2),.int .i64 1]):=by
 have m1:=fun b=>b0b b l ((l.length / 4:Nat):Int) (by omega) (by omega) (by omega) ha
 have m2:=fun b=>b0b b l (((l.length / 4:Nat):Int) * 2) (by omega) (by omega) (by omega) ha
 have m3:=fun b=>b0b b l (((l.length / 4:Nat):Int) * 3) (by omega) (by omega) (by omega) ha
 have m4:=fun b=>b2x b l ((l.length / 4:Nat):Int) (((l.length / 4:Nat):Int) * 2) (((l.length / 4:Nat):Int) * 3) (by omega) (by omega) (by omega) (by omega) ha
 have f1:a0a (decide ((8:Int)≤l.length)=true):=fo
 refine a2h _ _ (by simp) ?_
 by_cases h5:50≤l.length
 ·have f2:a0a (decide ((50:Int)≤l.length)=true):=fo
  simp only[a0N];refine sxSrt ?_
  repeat' ((first|exact tt|refine c1 ((m1 _)) ?_|refine c1 ((m2 _)) ?_|refine c1 ((m3 _)) ?_|refine c1 ((m4 _)) ?_|refine na fun b=>?_|refine nb fun b hb=>?_|refine iq ?_|(refine jq ?_ ?_<;>intro h h')|refine Two_intro ?_ ?_|exact wZ|fail)<;>try refine sxSrt ?_)
 ·have f2:a0a (decide ((50:Int)≤l.length)=false):=fo
  simp only[a0N];refine sxSrt ?_
  repeat' ((first|exact tt|refine c1 ((m4 _)) ?_|refine na fun b=>?_|refine nb fun b hb=>?_|refine iq ?_|(refine jq ?_ ?_<;>intro h h')|refine Two_intro ?_ ?_|exact wZ|fail)<;>try refine sxSrt ?_)
theorem b3Z(l:List Int)(h13:12<l.length)(hb:l.length≤1000000)(ha:Asc l):
  CP Tryz.prog 236 [.sl none 1 (ixs l),.int .i64 0,.int .i64 (l.length:Int)] (.bool true):=by
 refine a1s _ _ (by simp) ?_
 simp only[a0P];refine sxSrt ?_
 repeat' ((first|exact tt|refine na fun b=>?_|refine nb fun b hb=>?_|refine iq ?_|(refine jq ?_ ?_<;>intro h h')|refine Two_intro ?_ ?_|exact wZ|fail)<;>try refine sxSrt ?_)
 refine wpx_loop (fun _:Unit=>⟨lk [(0,.sl none 1 (ixs l)),(1,.int .i64 0),(2,.int .i64 (l.length:Int)),(7,.int .i64 1),(8,.int .i64 0)],lk []⟩) (fun _=>True) (fun _=>0) () trivial (Le_lit (by simp[LeL,lk])) ?_
 rintro ⟨⟩ -
 refine sxSrt ?_
 repeat' ((first|exact tt|refine na fun b=>?_|refine nb fun b hb=>?_|refine iq ?_|(refine jq ?_ ?_<;>intro h h')|refine Two_intro ?_ ?_|exact wZ|fail)<;>try refine sxSrt ?_)
 refine wpx_loop (fun k:Nat=>⟨lk [(0,.sl none 1 (ixs l)),(1,.int .i64 0),(2,.int .i64 (l.length:Int)),(7,.int .i64 (k:Int)),(8,.int .i64 0)],lk []⟩) (fun k=>1≤k∧k≤l.length) (fun k=>l.length - k) 1 (by omega) (Le_lit (by simp[LeL,lk])) ?_
 rintro k ⟨k1,k2⟩
 by_cases hk:k<l.length
 ·have f1:a0a (decide ((k:Int)<l.length)=true):=fo
  have hL:=h_asc ha (x:=(k:Int) - 1) (y:=(k:Int)) (by omega) (by omega) (by omega)
  have e1:((k:Int) - 1).toNat<l.length:=by omega
  refine sxSrt ?_
  repeat' ((first|exact tt|refine CallW_intro (hL) ?_|refine na fun b=>?_|refine nb fun b hb=>?_|refine iq ?_|(refine jq ?_ ?_<;>intro h h')|refine Two_intro ?_ ?_|exact wZ|fail)<;>try refine sxSrt ?_)
  all_goals exact Round_lit (k+1) ⟨Le_lit (by simp[LeL,lk]),by omega,by omega⟩
 ·obtain rfl:k=l.length:=by omega
  have f1:a0a (decide ((l.length:Int)<l.length)=false):=fo
  refine sxSrt ?_
  repeat' ((first|exact tt|refine na fun b=>?_|refine nb fun b hb=>?_|refine iq ?_|(refine jq ?_ ?_<;>intro h h')|refine Two_intro ?_ ?_|exact wZ|fail)<;>try refine sxSrt ?_)
theorem b5h(l:List Int)(h12:l.length≤12)(ha:Asc l):
  CP Tryz.prog 231 [.sl none 1 (ixs l),.int .i64 0,.int .i64 (l.length:Int)] (.tup []):=by
 refine a2d _ _ (by simp) ?_
 simp only[a0X];refine sxSrt ?_
 repeat' ((first|exact tt|refine na fun b=>?_|refine nb fun b hb=>?_|refine iq ?_|(refine jq ?_ ?_<;>intro h h')|refine Two_intro ?_ ?_|exact wZ|fail)<;>try refine sxSrt ?_)
 refine wpx_loop (fun k:Nat=>⟨lk [(0,.sl none 1 (ixs l)),(1,.int .i64 0),(2,.int .i64 (l.length:Int)),(6,.int .i64 (k:Int))],lk []⟩) (fun k=>1≤k∧k≤l.length+1) (fun k=>l.length+1 - k) 1 (by omega) (Le_lit (by simp[LeL,lk])) ?_
 rintro k ⟨k1,k2⟩
 by_cases hk:k<l.length
 ·have f1:a0a (decide ((k:Int)<l.length)=true):=fo
  have f2:a0a (decide ((0:Int)<k)=true):=fo
  have hL:=h_asc ha (x:=(k:Int) - 1) (y:=(k:Int)) (by omega) (by omega) (by omega)
  have e1:((k:Int) - 1).toNat<l.length:=by omega
  refine sxSrt ?_
  repeat' ((first|exact tt|refine na fun b=>?_|refine nb fun b hb=>?_|refine iq ?_|(refine jq ?_ ?_<;>intro h h')|refine Two_intro ?_ ?_|exact wZ|fail)<;>try refine sxSrt ?_)
  refine wpx_loop (fun _:Unit=>⟨lk [(0,.sl none 1 (ixs l)),(1,.int .i64 0),(2,.int .i64 (l.length:Int)),(6,.int .i64 (k:Int)),(7,.int .i64 (k:Int))],lk []⟩) (fun _=>True) (fun _=>0) () trivial (Le_lit (by simp[LeL,lk])) ?_
  rintro ⟨⟩ -
  refine sxSrt ?_
  repeat' ((first|exact tt|refine CallW_intro (hL) ?_|refine na fun b=>?_|refine nb fun b hb=>?_|refine iq ?_|(refine jq ?_ ?_<;>intro h h')|refine Two_intro ?_ ?_|exact wZ|fail)<;>try refine sxSrt ?_)
  all_goals exact Round_lit (k+1) ⟨Le_lit (by simp[LeL,lk]),by omega,by omega⟩
 ·have f1:a0a (decide ((k:Int)<l.length)=false):=fo
  refine sxSrt ?_
  repeat' ((first|exact tt|refine na fun b=>?_|refine nb fun b hb=>?_|refine iq ?_|(refine jq ?_ ?_<;>intro h h')|refine Two_intro ?_ ?_|exact wZ|fail)<;>try refine sxSrt ?_)
theorem c0N(l:List Int)(hb:l.length≤1000000)(ha:Asc l)(lim:Int)(h0:12<l.length→0<lim):
  CP Tryz.prog 187 [.sl none 1 (ixs l),.int .i64 0,.int .i64 (l.length:Int),.int .i64 lim] (.tup []):=by
 refine a2F _ _ (by simp) ?_
 simp only[a1A];refine sxSrt ?_
 repeat' ((first|exact tt|refine na fun b=>?_|refine nb fun b hb=>?_|refine iq ?_|(refine jq ?_ ?_<;>intro h h')|refine Two_intro ?_ ?_|exact wZ|fail)<;>try refine sxSrt ?_)
 refine wpx_loop (fun _:Unit=>⟨lk [(0,.sl none 1 (ixs l)),(1,.int .i64 0),(2,.int .i64 (l.length:Int)),(3,.int .i64 lim),(8,.bool true),(9,.bool true)],lk []⟩) (fun _=>True) (fun _=>0) () trivial (Le_lit (by simp[LeL,lk])) ?_
 rintro ⟨⟩ -
 by_cases h12:l.length≤12
 ·have hI:=b5h l h12 ha
  have f1:a0a (decide ((l.length:Int)≤12)=true):=fo
  clear h0
  refine sxSrt ?_
  repeat' ((first|exact tt|refine CallO_pure (hI) ?_|refine na fun b=>?_|refine nb fun b hb=>?_|refine iq ?_|(refine jq ?_ ?_<;>intro h h')|refine Two_intro ?_ ?_|exact wZ|fail)<;>try refine sxSrt ?_)
 ·have hC:=b5f l (by omega) hb ha
  have hP:=b3Z l (by omega) hb ha
  have f1:a0a (decide ((l.length:Int)≤12)=false):=fo
  have f2:a0a (decide (lim=0)=false):=by simp only[a0a,Hn];have:=h0 (by omega);omega
  clear h0
  refine sxSrt ?_
  repeat' ((first|exact tt|refine CallO_pure (hC) ?_|refine CallO_pure (hP) ?_|refine na fun b=>?_|refine nb fun b hb=>?_|refine iq ?_|(refine jq ?_ ?_<;>intro h h')|refine Two_intro ?_ ?_|exact wZ|fail)<;>try refine sxSrt ?_)
theorem b5e(n:Nat)(h:n≤1000000):CP Tryz.prog 176 [.int .u64 (n:Int)] (.int .i64 (Lib.bitLen n:Nat)):=
 CP_lib (vs:=[.int .u64 (n:Int)]) (v:=.int .i64 (Lib.bitLen n:Nat)) rfl (by simp) rfl fun W=>by
  have:=Tryz.bits_Len (n:Int) W (by omega) (by omega)
  refine this.mono ?_
  rintro e w' ⟨rfl,rfl⟩
  exact ⟨by simp,RowKit.Below.refl _ _⟩
theorem b7h(l:List Int)(hb:l.length≤1000000)(ha:Asc l):CP Tryz.prog 128 [.sl none 1 (ixs l)] (.tup []):=by
 have hL:=b5e l.length hb
 have hP:=c0N l hb ha (Lib.bitLen l.length:Nat) (fun h=>by
  have h2:=Lib.bitLen_half l.length (by omega) (by omega)
  omega)
 have hw:IntKind.wrap .u64 (l.length:Int)=l.length:=by show (l.length:Int) % 18446744073709551616=_;omega
 refine a4j _ _ (by simp) ?_
 simp only[a2v];refine sxSrt ?_
 repeat' ((first|exact tt|refine CallO_pure (hL) ?_|refine CallO_pure (hP) ?_|refine na fun b=>?_|refine nb fun b hb=>?_|refine iq ?_|(refine jq ?_ ?_<;>intro h h')|refine Two_intro ?_ ?_|exact wZ|fail)<;>try refine sxSrt ?_)
end
section
open Go.RowKit
set_option maxRecDepth 100000
structure GenC where
 ap:List UInt8
 ac:Int
 bp:List UInt8
 bc:Int
 o:Bool
 n:Int
 deriving DecidableEq,Inhabited
abbrev GenC.cs(g:GenC):List AV:=[.str g.ap,.int .i64 g.ac,.str g.bp,.int .i64 g.bc,.bool g.o,.int .i64 g.n]
theorem b4Z(k:Nat):(List.replicate k (AV.int .i64 1)++[AV.int .i64 0]).set k (.int .i64 1)=List.replicate (k+1) (.int .i64 1):=by
 rw[snoc_set _ _ _ _ (by simp),List.replicate_succ']
theorem b4Y(k:Nat):(List.replicate k (AV.int .i64 1)++[AV.int .i64 0]).getD k .undef=AV.int .i64 0:=snoc_get _ _ _ _ (by simp)
theorem b4e(k:Nat):List.range k++[k]=List.range (k+1):=List.range_succ.symm
end
end Go.Proofs.YtgdhinnepnlihaaGreatDoor
