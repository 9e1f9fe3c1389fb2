import Derived.Test.YthdcogkdacnheaaGreatDoorK22
import Derived.Test.YthdcogkdacnheaaGreatDoorK23
import Derived.Test.YthdcogkdacnheaaGreatDoorK24
import Derived.Test.YthdcogkdacnheaaGreatDoorK21
import Derived.Test.YthdcogkdacnheaaGreatDoorK11
namespace Go.Proofs.YthdcogkdacnheaaGreatDoor
set_option linter.all false
set_option maxHeartbeats 9000000
section
open Go.RowKit Go.Lib
set_option maxRecDepth 100000
theorem sxLex{A B:Prop}(h:B)(e:A=B:=by (simp (disch:=omega) only[*, ↓Ed,Eu, ↓reduceIte,reduceCtorEq,Nat.reduceAdd,Nat.reduceEqDiff,Nat.reduceLT,Nat.reduceLeDiff,Int.reduceToNat,Int.reduceEq,Int.reduceLT,Int.reduceLE,w64,a0p,a0o,ActC.cs];first|done|rfl)):A:=e▸h
set_option maxHeartbeats 40000000 in
theorem a8Y(l:List ActC)(p:List UInt8)(c which:Int)(h40:l.length≤40)(hp:p.length≤60):CP Tryz.prog 3 [.sl none 11 (acs l),.agg [.str p,.int .i64 c],.int .i64 which] (.bool true):=by
 have hF:=a3n
 refine a1A _ _ (by simp) ?_
 simp (disch:=omega) only[a0E, ↓Ed,Eu, ↓reduceIte,reduceCtorEq,Nat.reduceAdd,Nat.reduceEqDiff,Nat.reduceLT,Nat.reduceLeDiff,Int.reduceToNat,Int.reduceEq,Int.reduceLT,Int.reduceLE,w64,a0p,a0o,ActC.cs]
 repeat' ((first|refine CallO_pure (hF) ?_|refine CallO_new (b0Z) ?_|refine NewB_intro0 (fun b=>?_)|(refine NewB_intro (fun b hb=>?_);simp only[ln_cons2,ln_nil,and_true]at hb)|(with_reducible apply wA;focus exact OM_a)|((first|refine gW_sp ?_|refine condW_sp ?_|refine pickW_sp ?_);(try refine Sp_n ?_);(first|refine wT ?_|refine wF ?_|refine wL (fun h h'=>?_) (fun h h'=>?_)|refine wE (fun h h'=>?_) (fun h h'=>?_)|refine Sp_split (fun h=>?_) (fun h=>?_))<;>(try (exfalso;omega)))|refine TreeW_intro (by rfl) ?_|refine TreeW_all ?_|refine a0a ?_|refine Two_intro ?_ ?_|exact wZ|fail)<;>(try refine sxLex ?_)<;>(try exact True.intro))
 rename_i b4 _ _
 clear h h'
 rename Nat=>s
 refine wpx_loop (fun z:Nat × List PrP × StS=>⟨lk [(0,.sl none 11 (acs l)),(2,.int .i64 which),(4,.ptr b4 0),(7,.ptr s 0),(8,.sl (some 88) 2 (prR z.2.1)),(9,.int .i64 (z.1:Int))],lk ((b4,[.str p,.int .i64 c])::stO s z.2.1 z.2.2)⟩) (fun z=>z.1≤l.length∧StN z.2.1 z.1∧stOk s z.2.1 z.2.2∧stB b4 z.2.2) (fun z=>l.length - z.1) (0,[],none) ⟨by simp,StN.nil,rfl,trivial⟩ (Le_lit (by simp[LeL,lk,a0d,prR,hb])) ?_
 rintro ⟨k,L,x⟩ ⟨i1,hN,hx,hgb⟩
 simp only at i1 hN hx hgb
 have hlL:=hN.len
 by_cases hkl:k<l.length
 ·have f1:a0f (decide ((k:Int)<l.length)=true):=by simp only[a0f,Bool.not_eq_true',Bool.not_eq_false',decide_eq_true_eq,decide_eq_false_iff_not];omega
  obtain ⟨⟨ak,ap,ac,ae,aw,an,av⟩,hgd⟩:∃ a,l.getD k default=a:=⟨_,rfl⟩
  by_cases hla:ap.length≤60∧ae.p.length≤60∧av.length≤200
  ·have hbs:¬ s=b4∧¬ b4=s:=hb
   by_cases k0:ak=0
   ·exact ep_k0 l p c which h40 hp b4 s hbs.2 hbs.1 k L x hN hx hgb hkl ak ap ac ae aw an av hgd hla.1 hla.2.1 hla.2.2 k0
   by_cases k1:ak=1
   ·exact ep_k1 l p c which h40 hp b4 s hbs.2 hbs.1 k L x hN hx hgb hkl ak ap ac ae aw an av hgd hla.1 hla.2.1 hla.2.2 k1
   by_cases k2:ak=2
   ·exact ep_k2 l p c which h40 hp b4 s hbs.2 hbs.1 k L x hN hx hgb hkl ak ap ac ae aw an av hgd hla.1 hla.2.1 hla.2.2 k2
   by_cases k3:ak=3
   ·exact ep_k3 l p c which h40 hp b4 s hbs.2 hbs.1 k L x hN hx hgb hkl ak ap ac ae aw an av hgd hla.1 hla.2.1 hla.2.2 k3
   ·exact ep_k4 l p c which h40 hp b4 s hbs.2 hbs.1 k L x hN hx hgb hkl ak ap ac ae aw an av hgd hla.1 hla.2.1 hla.2.2 k0 k1 k2 k3
  ·obtain ⟨sp,sc,so,scl,sst⟩:=ae
   clear hN
   simp only at hla
   rcases x with _ | ⟨g,cap⟩
   ·simp (disch:=omega) only[hgd,a0d, ↓Ed,Eu, ↓reduceIte,reduceCtorEq,Nat.reduceAdd,Nat.reduceEqDiff,Nat.reduceLT,Nat.reduceLeDiff,Int.reduceToNat,Int.reduceEq,Int.reduceLT,Int.reduceLE,w64,a0p,a0o,ActC.cs]
    repeat' ((first|refine CallO_pure (hF) ?_|refine NewB_intro0 (fun b=>?_)|(refine NewB_intro (fun b hb=>?_);simp only[ln_cons2,ln_nil,and_true]at hb)|(with_reducible apply wA;focus exact OM_a)|((first|refine gW_sp ?_|refine condW_sp ?_|refine pickW_sp ?_);(try refine Sp_n ?_);(first|refine wT ?_|refine wF ?_|refine wL (fun h h'=>?_) (fun h h'=>?_)|refine wE (fun h h'=>?_) (fun h h'=>?_)|refine Sp_split (fun h=>?_) (fun h=>?_))<;>(try (exfalso;omega)))|refine TreeW_intro (by rfl) ?_|refine TreeW_all ?_|refine a0a ?_|refine Two_intro ?_ ?_|exact wZ|fail)<;>(try refine sxLex ?_)<;>(try exact True.intro))
   ·have hgs:=hx.1
    simp only[a0m]at hgb
    simp (disch:=omega) only[hgd,a0b, ↓Ed,Eu, ↓reduceIte,reduceCtorEq,Nat.reduceAdd,Nat.reduceEqDiff,Nat.reduceLT,Nat.reduceLeDiff,Int.reduceToNat,Int.reduceEq,Int.reduceLT,Int.reduceLE,w64,a0p,a0o,ActC.cs]
    repeat' ((first|refine CallO_pure (hF) ?_|refine NewB_intro0 (fun b=>?_)|(refine NewB_intro (fun b hb=>?_);simp only[ln_cons2,ln_nil,and_true]at hb)|(with_reducible apply wA;focus exact OM_a)|((first|refine gW_sp ?_|refine condW_sp ?_|refine pickW_sp ?_);(try refine Sp_n ?_);(first|refine wT ?_|refine wF ?_|refine wL (fun h h'=>?_) (fun h h'=>?_)|refine wE (fun h h'=>?_) (fun h h'=>?_)|refine Sp_split (fun h=>?_) (fun h=>?_))<;>(try (exfalso;omega)))|refine TreeW_intro (by rfl) ?_|refine TreeW_all ?_|refine a0a ?_|refine Two_intro ?_ ?_|exact wZ|fail)<;>(try refine sxLex ?_)<;>(try exact True.intro))
 ·obtain rfl:k=l.length:=by omega
  have f1:a0f (decide ((l.length:Int)<l.length)=false):=by simp only[a0f,Bool.not_eq_true',Bool.not_eq_false',decide_eq_true_eq,decide_eq_false_iff_not];omega
  have hI:=hN.I (by omega)
  have hNx:=a7K s L hI which p c (by omega) x hx
  have hLN:=b3j L hI which p c (by omega)
  have hPr:=a7L s L (by omega) x hx
  have hKP:=a9z L (by omega) none
  have hAl:=b0X s L hI x hx
  rw[all_eq hI.rise]at hAl
  have hel:=a7Z L L
  have hsl:=a1Y (a2b L L)
  have hSm:=b4E L hI (a0N (a2b L L)) (by omega) (fun q hq ho=>(a4R _).mem_iff.2 (List.mem_map.2 ⟨q,List.mem_filter.2 ⟨hq,ho⟩,rfl⟩)) hsl.symm (fun i hi=>by
   have h1:=List.pairwise_iff_getElem.1 (sort_rise (ends_nodup (L:=L) hI.rise)) i (i+1) (by omega) hi (by omega)
   simpa[List.getD,hi,show i<(a0N (a2b L L)).length by omega]using h1)
  clear hI hN hsl hel
  generalize a0N (a2b L L)=al at *
  generalize a6w L which p c=nn at *
  rcases x with _ | ⟨g,cap⟩
  ·simp only[a0d]at hNx hPr hAl ⊢
   simp (disch:=omega) only[a0d, ↓Ed,Eu, ↓reduceIte,reduceCtorEq,Nat.reduceAdd,Nat.reduceEqDiff,Nat.reduceLT,Nat.reduceLeDiff,Int.reduceToNat,Int.reduceEq,Int.reduceLT,Int.reduceLE,w64,a0p,a0o,ActC.cs]
   repeat' ((first|(refine r1 hNx ?_)|(refine r1 hPr ?_)|(refine r1 hAl ?_)|refine CallW_intro (hLN) ?_|refine CallO_pure (hLN) ?_|refine CallW_intro (hSm) ?_|refine CallO_pure (hSm) ?_|(refine Cro_pure hKP ?_)|(refine Cro_pure hSm ?_)|refine NewB_intro0 (fun b=>?_)|(refine NewB_intro (fun b hb=>?_);simp only[ln_cons2,ln_nil,and_true]at hb)|(with_reducible apply wA;focus exact OM_a)|((first|refine gW_sp ?_|refine condW_sp ?_|refine pickW_sp ?_);(try refine Sp_n ?_);(first|refine wT ?_|refine wF ?_|refine wL (fun h h'=>?_) (fun h h'=>?_)|refine wE (fun h h'=>?_) (fun h h'=>?_)|refine Sp_split (fun h=>?_) (fun h=>?_))<;>(try (exfalso;omega)))|refine TreeW_intro (by rfl) ?_|refine TreeW_all ?_|refine a0a ?_|refine Two_intro ?_ ?_|exact wZ|fail)<;>(try refine sxLex ?_)<;>(try exact True.intro))
  ·have hgs:=hx.1
   simp only[a0m]at hgb
   simp only[a0b]at hNx hPr hAl ⊢
   simp (disch:=omega) only[a0b, ↓Ed,Eu, ↓reduceIte,reduceCtorEq,Nat.reduceAdd,Nat.reduceEqDiff,Nat.reduceLT,Nat.reduceLeDiff,Int.reduceToNat,Int.reduceEq,Int.reduceLT,Int.reduceLE,w64,a0p,a0o,ActC.cs]
   repeat' ((first|refine r2 (hNx) ?_|refine r2 (hPr) ?_|refine r2 (hAl) ?_|refine CallW_intro (hLN) ?_|refine CallO_pure (hLN) ?_|refine CallW_intro (hSm) ?_|refine CallO_pure (hSm) ?_|(refine Cro_pure hKP ?_)|(refine Cro_pure hSm ?_)|refine NewB_intro0 (fun b=>?_)|(refine NewB_intro (fun b hb=>?_);simp only[ln_cons2,ln_nil,and_true]at hb)|(with_reducible apply wA;focus exact OM_a)|((first|refine gW_sp ?_|refine condW_sp ?_|refine pickW_sp ?_);(try refine Sp_n ?_);(first|refine wT ?_|refine wF ?_|refine wL (fun h h'=>?_) (fun h h'=>?_)|refine wE (fun h h'=>?_) (fun h h'=>?_)|refine Sp_split (fun h=>?_) (fun h=>?_))<;>(try (exfalso;omega)))|refine TreeW_intro (by rfl) ?_|refine TreeW_all ?_|refine a0a ?_|refine Two_intro ?_ ?_|exact wZ|fail)<;>(try refine sxLex ?_)<;>(try exact True.intro))
structure EndQ where
 p:List UInt8
 c:Int
 deriving Inhabited
abbrev EndQ.cs(e:EndQ):List AV:=[.str e.p,.int .i64 e.c]
theorem a8s(l:List ActC)(e:EndQ)(which:Int):CP Tryz.prog 3 [.sl none 11 (acs l),.agg e.cs,.int .i64 which] (.bool true):=by
 by_cases h:l.length≤40∧e.p.length≤60
 ·exact a8Y l e.p e.c which h.1 h.2
 ·have hF:=a3n
  refine a1A _ _ (by simp) ?_
  simp (disch:=omega) only[a0E,EndQ.cs, ↓Ed,Eu, ↓reduceIte,reduceCtorEq,Nat.reduceAdd,Nat.reduceEqDiff,Nat.reduceLT,Nat.reduceLeDiff,Int.reduceToNat,Int.reduceEq,Int.reduceLT,Int.reduceLE,w64,a0p,a0o,ActC.cs]
  repeat' ((first|refine CallO_pure (hF) ?_|refine NewB_intro0 (fun b=>?_)|(refine NewB_intro (fun b hb=>?_);simp only[ln_cons2,ln_nil,and_true]at hb)|(with_reducible apply wA;focus exact OM_a)|((first|refine gW_sp ?_|refine condW_sp ?_|refine pickW_sp ?_);(try refine Sp_n ?_);(first|refine wT ?_|refine wF ?_|refine wL (fun h h'=>?_) (fun h h'=>?_)|refine wE (fun h h'=>?_) (fun h h'=>?_)|refine Sp_split (fun h=>?_) (fun h=>?_))<;>(try (exfalso;omega)))|refine TreeW_intro (by rfl) ?_|refine TreeW_all ?_|refine a0a ?_|refine Two_intro ?_ ?_|exact wZ|fail)<;>(try refine sxLex ?_)<;>(try exact True.intro))
end
section
set_option maxRecDepth 100000
theorem mem_found{L:List PrP}(h:a2a L){k v:List UInt8}(hm:(k,v)∈L):a1I L k=true∧a4g L k=v:=by
 obtain ⟨i,hi,he⟩:=List.getElem_of_mem hm
 have hg:L.getD i default=(k,v):=by simp[List.getD,hi,he]
 have hp:a0z L k=i:=pos_unique h k i (by omega) (fun j hj=>by
  have:=riseS_get h hj hi
  rwa [hg]at this) (fun j h1 h2=>by
  by_cases e:j=i
  ·subst e;rw[hg];exact strSTO.irr k
  ·have h3:=riseS_get h (i:=i) (j:=j) (by omega) h2
   rw[hg]at h3
   cases hq:ltS (L.getD j default).1 k with
   | false=>rfl
   | true=>have:=strSTO.tr _ _ _ h3 hq;rw[strSTO.irr]at this;cases this)
 have hh:a1I L k=true:=by simp only[a1I,hp,hg,hi,decide_true,Bool.and_self]
 exact ⟨hh,by rw[getS_t hh,hp,hg]⟩
theorem found_mem{L:List PrP}{k:List UInt8}(hh:a1I L k=true):(k,a4g L k)∈L:=by
 have hl:=has_lt hh
 have hk:(L.getD (a0z L k) default).1=k:=by
  simp only[a1I,Bool.and_eq_true,decide_eq_true_eq]at hh;exact hh.2
 have:(k,a4g L k)=L.getD (a0z L k) default:=by
  rw[getS_t hh];exact Prod.ext hk.symm rfl
 rw[this,List.getD,List.getElem?_eq_getElem hl,Option.getD_some]
 exact List.getElem_mem hl
theorem a9b(L:List PrP)(k v:List UInt8):(k,v)∈a3o L k v:=by simp[a3o]
end
section
open Go.RowKit
theorem findK_map{α:Type}[DecidableEq α](ks:List Kd)(ag:Bool)(κ:α→AV)(h:∀ a b,a5f ks ag (κ a) (κ b)=some (decide (a=b)))(a:α)(l:List α):∀ i,a8e ks ag (κ a) (l.map κ) i=some ((l.idxOf? a).map (· + i)):=by
 induction l with
 | nil=>intro i;rfl
 | cons x r ih=>
  intro i
  simp only[List.map_cons,a8e,h,List.idxOf?_cons]
  by_cases hx:a=x
  ·subst hx;simp
  ·have hx2:(x==a)=false:=by simp[Ne.symm hx]
   simp only[hx,decide_false,ih,hx2]
   cases r.idxOf? a<;>simp<;>omega
theorem findM_map{α:Type}[DecidableEq α](ks:List Kd)(ag:Bool)(κ:α→AV)(h:∀ a b,a5f ks ag (κ a) (κ b)=some (decide (a=b)))(a:α)(l:List α):a2Q ks ag (κ a) (l.map κ)=some (l.idxOf? a):=by
 simp only[a2Q,h,Option.bind_some,findK_map ks ag κ h]
 cases l.idxOf? a<;>simp
theorem findM_no{α:Type}[DecidableEq α](ks:List Kd)(ag:Bool)(κ:α→AV)(h:∀ a b,a5f ks ag (κ a) (κ b)=some (decide (a=b)))(a:α)(l:List α)(hn:a ∉ l):a2Q ks ag (κ a) (l.map κ)=some none:=by
 rw[findM_map ks ag κ h,List.idxOf?_eq_none_iff.2 hn]
theorem findM_snoc{α:Type}[DecidableEq α](ks:List Kd)(ag:Bool)(κ:α→AV)(h:∀ a b,a5f ks ag (κ a) (κ b)=some (decide (a=b)))(a:α)(l:List α)(hn:a ∉ l):a2Q ks ag (κ a) (l.map κ++[κ a])=some (some l.length):=by
 have:=findM_map ks ag κ h a (l++[a])
 rw[List.map_append,List.map_singleton]at this
 rw[this]
 congr 1
 induction l with
 | nil=>simp[List.idxOf?_cons]
 | cons x r ih=>
  simp only[List.mem_cons,not_or]at hn
  have hx:(x==a)=false:=by simp[Ne.symm hn.1]
  have ih':=ih hn.2 (by rw[findM_map ks ag κ h a (r++[a]) |>.symm];simp)
  simp only[List.cons_append,List.idxOf?_cons,hx,ih',List.length_cons]
  simp
theorem snoc_set{α:Type}(l:List α)(z v:α)(k:Nat)(h:l.length=k):(l++[z]).set k v=l++[v]:=by
 rw[List.set_append_right _ _ (by omega)];simp[h]
theorem snoc_get{α:Type}(l:List α)(z d:α)(k:Nat)(h:l.length=k):(l++[z]).getD k d=z:=by
 simp[List.getD, ← h]
theorem b0t(bs:List Nat)(n:Nat)(hn:n ∉ bs):∀ i,a7k (n:Int) (bs++[n]) i=some (bs.length+i):=by
 induction bs with
 | nil=>intro i;simp[a7k]
 | cons b r ih=>
  intro i
  simp only[List.mem_cons,not_or]at hn
  have hb:¬ (b:Int)=n:=by omega
  simp only[List.cons_append,a7k,hb,if_false,ih hn.2,List.length_cons]
  congr 1;omega
theorem a0K(k i:Nat):a7k (k:Int) (List.range k++[k]) i=some (k+i):=by
 have:=b0t (List.range k) k (by simp) i
 simpa using this
def a9k(e:List UInt8 × Int):AV:=.agg [.str e.1,.int .i64 e.2]
theorem a8I(a b:List UInt8 × Int):a5f [.s,.i] true (a9k a) (a9k b)=some (decide (a=b)):=by
 obtain ⟨x,y⟩:=a;obtain ⟨z,w⟩:=b
 simp[a9k,a5f,eqC,eq1,Prod.ext_iff]
end
section
open Go.RowKit Go.Lib
set_option maxRecDepth 100000
structure GnC where
 p:List UInt8
 c:Int
 q:List UInt8
 d:Int
 o:Bool
 n:Int
 deriving Inhabited
abbrev GnC.cs(x:GnC):List AV:=[.str x.p,.int .i64 x.c,.str x.q,.int .i64 x.d,.bool x.o,.int .i64 x.n]
def gns(l:List GnC):List (List AV):=l.map GnC.cs
theorem a0l(l:List GnC):(gns l).length=l.length:=by simp[gns]
theorem a0k(l:List GnC)(i:Nat)(h:i<l.length):(gns l).getD i []=(l.getD i default).cs:=by simp[gns,h]
noncomputable def okG (x:GnC):Bool:=a1E x.p x.c&&a1E x.q x.d&&(decide (1≤x.n)&&decide (x.n≤1099511627777))
def a2B(x:GnC):a1C:=(x.p,x.c)
noncomputable def a6m:List a1C→List GnC→Int
 | _,[]=>0
 | s,x::r=>if okG x=false then 1 else if s.any (a7n (a2B x))=true then 8 else a6m (s++[a2B x]) r
noncomputable def a9g (l:List GnC):Int:=if 6<l.length then 22 else a6m [] l
theorem chk_step{l:List GnC}{i:Nat}(h:i<l.length):a6m ((l.take i).map a2B) (l.drop i)=if okG (l.getD i default)=false then 1 else if ((l.take i).map a2B).any (a7n (a2B (l.getD i default)))=true then 8 else a6m ((l.take (i+1)).map a2B) (l.drop (i+1)):=by
 rw[List.drop_eq_getElem_cons h,a6m]
 have e:l[i]=l.getD i default:=by simp[List.getD,h]
 rw[e,take_snocA h,List.map_append];rfl
def a6P(l:List GnC):Prop:=∀ i,i<l.length→(l.getD i default).p.length≤1000∧(l.getD i default).q.length≤1000
theorem any_t{l:List GnC}{i k:Nat}{e:a1C}(hk:k<i)(hi:i≤l.length)(h:a7n e (a2B (l.getD k default))=true):((l.take i).map a2B).any (a7n e)=true:=by
 rw[List.any_eq_true]
 have h1:k<(l.take i).length:=by rw[List.length_take];omega
 refine ⟨a2B (l.getD k default),List.mem_map.2 ⟨l.getD k default, ?_,rfl⟩,h⟩
 have e1:l.getD k default=(l.take i)[k]:=by simp[List.getD,show k<l.length by omega]
 rw[e1];exact List.getElem_mem h1
theorem any_f{l:List GnC}{i:Nat}{e:a1C}(hi:i≤l.length)(h:∀ j,j<i→a7n e (a2B (l.getD j default))=false):((l.take i).map a2B).any (a7n e)=false:=by
 rw[List.any_eq_false]
 intro x hx
 obtain ⟨y,hy,rfl⟩:=List.mem_map.1 hx
 obtain ⟨j,hj,rfl⟩:=List.getElem_of_mem hy
 have hj':j<i∧j<l.length:=by rw[List.length_take]at hj;omega
 have:=h j hj'.1
 simp only[List.getD,List.getElem?_eq_getElem hj'.2,Option.getD_some]at this
 rw[List.getElem_take,this];simp
theorem sxChg{A B:Prop}(h:B)(e:A=B:=by (simp (disch:=omega) only[*, ↓Ed,Eu, ↓reduceIte,reduceCtorEq,Nat.reduceAdd,Nat.reduceEqDiff,Nat.reduceLT,Nat.reduceLeDiff,Int.reduceToNat,Int.reduceEq,Int.reduceLT,Int.reduceLE,w64,a0l,a0k,GnC.cs];first|done|rfl)):A:=e▸h
set_option maxHeartbeats 8000000 in
theorem a8W(l:List GnC)(hl:a6P l)(hb:l.length≤1000):CP Tryz.prog 27 [.sl none 6 (gns l)] (.int .i64 (a9g l)):=by
 refine a3i _ _ (by simp) ?_
 by_cases h6:6<l.length
 ·have f0:a0f (decide ((6:Int)<l.length)=true):=by simp only[a0f,Bool.not_eq_true',Bool.not_eq_false',decide_eq_true_eq,decide_eq_false_iff_not];omega
  unfold a9g
  rw[if_pos h6]
  simp (disch:=omega) only[a0Y, ↓Ed,Eu, ↓reduceIte,reduceCtorEq,Nat.reduceAdd,Nat.reduceEqDiff,Nat.reduceLT,Nat.reduceLeDiff,Int.reduceToNat,Int.reduceEq,Int.reduceLT,Int.reduceLE,w64,a0l,a0k,GnC.cs]
  repeat' ((first|refine NewB_intro0 (fun b=>?_)|(refine NewB_intro (fun b hb=>?_);simp only[ln_cons2,ln_nil,and_true]at hb)|(with_reducible apply wA;focus exact OM_a)|((first|refine gW_sp ?_|refine condW_sp ?_|refine pickW_sp ?_);(try refine Sp_n ?_);(first|refine wT ?_|refine wF ?_|refine wL (fun h h'=>?_) (fun h h'=>?_)|refine wE (fun h h'=>?_) (fun h h'=>?_)|refine Sp_split (fun h=>?_) (fun h=>?_))<;>(try (exfalso;omega)))|refine TreeW_intro (by rfl) ?_|refine TreeW_all ?_|refine a0a ?_|refine Two_intro ?_ ?_|exact wZ|fail)<;>(try refine sxChg ?_)<;>(try exact True.intro))
 have f0:a0f (decide ((6:Int)<l.length)=false):=by simp only[a0f,Bool.not_eq_true',Bool.not_eq_false',decide_eq_true_eq,decide_eq_false_iff_not];omega
 unfold a9g
 rw[if_neg h6]
 simp (disch:=omega) only[a0Y, ↓Ed,Eu, ↓reduceIte,reduceCtorEq,Nat.reduceAdd,Nat.reduceEqDiff,Nat.reduceLT,Nat.reduceLeDiff,Int.reduceToNat,Int.reduceEq,Int.reduceLT,Int.reduceLE,w64,a0l,a0k,GnC.cs]
 repeat' ((first|refine NewB_intro0 (fun b=>?_)|(refine NewB_intro (fun b hb=>?_);simp only[ln_cons2,ln_nil,and_true]at hb)|(with_reducible apply wA;focus exact OM_a)|((first|refine gW_sp ?_|refine condW_sp ?_|refine pickW_sp ?_);(try refine Sp_n ?_);(first|refine wT ?_|refine wF ?_|refine wL (fun h h'=>?_) (fun h h'=>?_)|refine wE (fun h h'=>?_) (fun h h'=>?_)|refine Sp_split (fun h=>?_) (fun h=>?_))<;>(try (exfalso;omega)))|refine TreeW_intro (by rfl) ?_|refine TreeW_all ?_|refine a0a ?_|refine Two_intro ?_ ?_|exact wZ|fail)<;>(try refine sxChg ?_)<;>(try exact True.intro))
 refine wpx_loop (fun i:Nat=>⟨lk [(0,.sl none 6 (gns l)),(3,.int .i64 (i:Int))],lk []⟩) (fun i=>i≤l.length∧a0f (a6m [] l=a6m ((l.take i).map a2B) (l.drop i))) (fun i=>l.length - i) 0 ⟨by omega,rfl⟩ (Le_lit (by simp[LeL,lk])) ?_
 intro i ⟨i1,i2⟩
 have i2:a6m [] l=a6m ((l.take i).map a2B) (l.drop i):=i2
 rw[i2]
 by_cases hil:i<l.length
 ·have f1:a0f (decide ((i:Int)<l.length)=true):=by simp only[a0f,Bool.not_eq_true',Bool.not_eq_false',decide_eq_true_eq,decide_eq_false_iff_not];omega
  have hst:=chk_step hil
  have hli:=hl i hil
  obtain ⟨⟨p,c,q,d,o,n⟩,hgd⟩:∃ a,l.getD i default=a:=⟨_,rfl⟩
  rw[hgd]at hst hli
  have hM1:=a1u p c (by have:=hli.1;simp only at this;omega)
  have hM2:=a1u q d (by have:=hli.2;simp only at this;omega)
  clear hli hl
  by_cases hn:1≤n∧n≤1099511627777
  ·have hok:okG ⟨p,c,q,d,o,n⟩=(a1E p c&&a1E q d):=by
    unfold okG
    simp only[decide_eq_true hn.1,decide_eq_true hn.2,Bool.and_true]
   rw[hok]at hst
   clear hok
   cases ha:a1E p c with
   | false=>
    rw[ha,Bool.false_and,if_pos rfl]at hst
    rw[ha]at hM1
    rw[hst]
    clear hst i2
    simp (disch:=omega) only[hgd, ↓Ed,Eu, ↓reduceIte,reduceCtorEq,Nat.reduceAdd,Nat.reduceEqDiff,Nat.reduceLT,Nat.reduceLeDiff,Int.reduceToNat,Int.reduceEq,Int.reduceLT,Int.reduceLE,w64,a0l,a0k,GnC.cs]
    repeat' ((first|refine CallO_pure (hM1) ?_|refine NewB_intro0 (fun b=>?_)|(refine NewB_intro (fun b hb=>?_);simp only[ln_cons2,ln_nil,and_true]at hb)|(with_reducible apply wA;focus exact OM_a)|((first|refine gW_sp ?_|refine condW_sp ?_|refine pickW_sp ?_);(try refine Sp_n ?_);(first|refine wT ?_|refine wF ?_|refine wL (fun h h'=>?_) (fun h h'=>?_)|refine wE (fun h h'=>?_) (fun h h'=>?_)|refine Sp_split (fun h=>?_) (fun h=>?_))<;>(try (exfalso;omega)))|refine TreeW_intro (by rfl) ?_|refine TreeW_all ?_|refine a0a ?_|refine Two_intro ?_ ?_|exact wZ|fail)<;>(try refine sxChg ?_)<;>(try exact True.intro))
   | true=>
    rw[ha]at hM1
    cases hb':a1E q d with
    | false=>
     rw[ha,hb',Bool.true_and,if_pos rfl]at hst
     rw[hb']at hM2
     rw[hst]
     clear hst i2
     simp (disch:=omega) only[hgd, ↓Ed,Eu, ↓reduceIte,reduceCtorEq,Nat.reduceAdd,Nat.reduceEqDiff,Nat.reduceLT,Nat.reduceLeDiff,Int.reduceToNat,Int.reduceEq,Int.reduceLT,Int.reduceLE,w64,a0l,a0k,GnC.cs]
     repeat' ((first|refine CallO_pure (hM1) ?_|refine CallO_pure (hM2) ?_|refine NewB_intro0 (fun b=>?_)|(refine NewB_intro (fun b hb=>?_);simp only[ln_cons2,ln_nil,and_true]at hb)|(with_reducible apply wA;focus exact OM_a)|((first|refine gW_sp ?_|refine condW_sp ?_|refine pickW_sp ?_);(try refine Sp_n ?_);(first|refine wT ?_|refine wF ?_|refine wL (fun h h'=>?_) (fun h h'=>?_)|refine wE (fun h h'=>?_) (fun h h'=>?_)|refine Sp_split (fun h=>?_) (fun h=>?_))<;>(try (exfalso;omega)))|refine TreeW_intro (by rfl) ?_|refine TreeW_all ?_|refine a0a ?_|refine Two_intro ?_ ?_|exact wZ|fail)<;>(try refine sxChg ?_)<;>(try exact True.intro))
    | true=>
     rw[ha,hb',Bool.true_and,if_neg (by simp)]at hst
     rw[hb']at hM2
     have hi0:=i2
     rw[hst]at i2 ⊢
     clear ha hb'
     have hgo:a2B ⟨p,c,q,d,o,n⟩=(p,c):=rfl
     rw[hgo]at hst i2 ⊢
     simp (disch:=omega) only[hgd, ↓Ed,Eu, ↓reduceIte,reduceCtorEq,Nat.reduceAdd,Nat.reduceEqDiff,Nat.reduceLT,Nat.reduceLeDiff,Int.reduceToNat,Int.reduceEq,Int.reduceLT,Int.reduceLE,w64,a0l,a0k,GnC.cs]
     repeat' ((first|refine CallO_pure (hM1) ?_|refine CallO_pure (hM2) ?_|refine NewB_intro0 (fun b=>?_)|(refine NewB_intro (fun b hb=>?_);simp only[ln_cons2,ln_nil,and_true]at hb)|(with_reducible apply wA;focus exact OM_a)|((first|refine gW_sp ?_|refine condW_sp ?_|refine pickW_sp ?_);(try refine Sp_n ?_);(first|refine wT ?_|refine wF ?_|refine wL (fun h h'=>?_) (fun h h'=>?_)|refine wE (fun h h'=>?_) (fun h h'=>?_)|refine Sp_split (fun h=>?_) (fun h=>?_))<;>(try (exfalso;omega)))|refine TreeW_intro (by rfl) ?_|refine TreeW_all ?_|refine a0a ?_|refine Two_intro ?_ ?_|exact wZ|fail)<;>(try refine sxChg ?_)<;>(try exact True.intro))
     refine wpx_loop (fun k:Nat=>⟨lk [(0,.sl none 6 (gns l)),(3,.int .i64 (i:Int)),(4,.int .i64 (k:Int))],lk []⟩) (fun k=>k≤i∧a0f (∀ j,j<k→a7n (p,c) (a2B (l.getD j default))=false)) (fun k=>i - k) 0 ⟨by omega,fun j hj=>by omega⟩ (Le_lit (by simp[LeL,lk])) ?_
     intro k ⟨k1,k2⟩
     have k2:∀ j,j<k→a7n (p,c) (a2B (l.getD j default))=false:=k2
     by_cases hki:k<i
     ·have f3:a0f (decide ((k:Int)<i)=true):=by simp only[a0f,Bool.not_eq_true',Bool.not_eq_false',decide_eq_true_eq,decide_eq_false_iff_not];omega
      obtain ⟨⟨p',c',q',d',o',n'⟩,hgk⟩:∃ a,l.getD k default=a:=⟨_,rfl⟩
      cases hq:a7n (p,c) (p',c') with
      | true=>
       have hA:=any_t (l:=l) (e:=(p,c)) hki (by omega) (by rw[hgk];exact hq)
       rw[if_pos hA]
       clear hst i2 hi0 hA k2
       unfold a7n at hq
       simp (disch:=omega) only[hgd,hgk, ↓Ed,Eu, ↓reduceIte,reduceCtorEq,Nat.reduceAdd,Nat.reduceEqDiff,Nat.reduceLT,Nat.reduceLeDiff,Int.reduceToNat,Int.reduceEq,Int.reduceLT,Int.reduceLE,w64,a0l,a0k,GnC.cs]
       repeat' ((first|refine NewB_intro0 (fun b=>?_)|(refine NewB_intro (fun b hb=>?_);simp only[ln_cons2,ln_nil,and_true]at hb)|(with_reducible apply wA;focus exact OM_a)|((first|refine gW_sp ?_|refine condW_sp ?_|refine pickW_sp ?_);(try refine Sp_n ?_);(first|refine wT ?_|refine wF ?_|refine wL (fun h h'=>?_) (fun h h'=>?_)|refine wE (fun h h'=>?_) (fun h h'=>?_)|refine Sp_split (fun h=>?_) (fun h=>?_))<;>(try (exfalso;omega)))|refine TreeW_intro (by rfl) ?_|refine TreeW_all ?_|refine a0a ?_|refine Two_intro ?_ ?_|exact wZ|fail)<;>(try refine sxChg ?_)<;>(try exact True.intro))
      | false=>
       have hk':∀ j,j<k+1→a7n (p,c) (a2B (l.getD j default))=false:=fun j hj=>by
        by_cases e:j<k
        ·exact k2 j e
        ·obtain rfl:j=k:=by omega
         rw[hgk];exact hq
       clear hst i2 hi0 k2
       unfold a7n at hq
       simp only at hq
       generalize (if ((l.take i).map a2B).any (a7n (p,c))=true then (8:Int) else a6m ((l.take (i+1)).map a2B) (l.drop (i+1)))=res at *
       simp (disch:=omega) only[hgd,hgk, ↓Ed,Eu, ↓reduceIte,reduceCtorEq,Nat.reduceAdd,Nat.reduceEqDiff,Nat.reduceLT,Nat.reduceLeDiff,Int.reduceToNat,Int.reduceEq,Int.reduceLT,Int.reduceLE,w64,a0l,a0k,GnC.cs]
       repeat' ((first|refine NewB_intro0 (fun b=>?_)|(refine NewB_intro (fun b hb=>?_);simp only[ln_cons2,ln_nil,and_true]at hb)|(with_reducible apply wA;focus exact OM_a)|((first|refine gW_sp ?_|refine condW_sp ?_|refine pickW_sp ?_);(try refine Sp_n ?_);(first|refine wT ?_|refine wF ?_|refine wL (fun h h'=>?_) (fun h h'=>?_)|refine wE (fun h h'=>?_) (fun h h'=>?_)|refine Sp_split (fun h=>?_) (fun h=>?_))<;>(try (exfalso;omega)))|refine TreeW_intro (by rfl) ?_|refine TreeW_all ?_|refine a0a ?_|refine Two_intro ?_ ?_|exact wZ|fail)<;>(try refine sxChg ?_)<;>(try exact True.intro))
       all_goals exact Round_lit (k+1) ⟨Le_lit (by simp[LeL,lk]),⟨hki,hk'⟩,by omega⟩
     ·obtain rfl:k=i:=by omega
      have f3:a0f (decide ((k:Int)<k)=false):=by simp only[a0f,Bool.not_eq_true',Bool.not_eq_false',decide_eq_true_eq,decide_eq_false_iff_not];omega
      have hA:=any_f (l:=l) (e:=(p,c)) i1 k2
      rw[if_neg (by rw[hA];simp)]at i2 ⊢
      rw[← i2]
      clear hst hi0 k2 hA
      have i3:a0f (a6m [] l=a6m ((l.take (k+1)).map a2B) (l.drop (k+1))):=i2
      clear i2
      simp (disch:=omega) only[↓Ed,Eu, ↓reduceIte,reduceCtorEq,Nat.reduceAdd,Nat.reduceEqDiff,Nat.reduceLT,Nat.reduceLeDiff,Int.reduceToNat,Int.reduceEq,Int.reduceLT,Int.reduceLE,w64,a0l,a0k,GnC.cs]
      repeat' ((first|refine NewB_intro0 (fun b=>?_)|(refine NewB_intro (fun b hb=>?_);simp only[ln_cons2,ln_nil,and_true]at hb)|(with_reducible apply wA;focus exact OM_a)|((first|refine gW_sp ?_|refine condW_sp ?_|refine pickW_sp ?_);(try refine Sp_n ?_);(first|refine wT ?_|refine wF ?_|refine wL (fun h h'=>?_) (fun h h'=>?_)|refine wE (fun h h'=>?_) (fun h h'=>?_)|refine Sp_split (fun h=>?_) (fun h=>?_))<;>(try (exfalso;omega)))|refine TreeW_intro (by rfl) ?_|refine TreeW_all ?_|refine a0a ?_|refine Two_intro ?_ ?_|exact wZ|fail)<;>(try refine sxChg ?_)<;>(try exact True.intro))
      all_goals exact Round_lit (k+1) ⟨Le_lit (by simp[LeL,lk]),⟨hil,i3⟩,by omega⟩
  ·have hok:okG ⟨p,c,q,d,o,n⟩=false:=by
    unfold okG
    cases a1E p c<;>cases a1E q d<;>simp<;>omega
   rw[hok,if_pos rfl]at hst
   rw[hst]
   clear hst hok i2
   generalize a1E p c=a1 at *
   generalize a1E q d=a2 at *
   cases a1<;>cases a2
   all_goals
    simp (disch:=omega) only[hgd, ↓Ed,Eu, ↓reduceIte,reduceCtorEq,Nat.reduceAdd,Nat.reduceEqDiff,Nat.reduceLT,Nat.reduceLeDiff,Int.reduceToNat,Int.reduceEq,Int.reduceLT,Int.reduceLE,w64,a0l,a0k,GnC.cs]
    repeat' ((first|refine CallO_pure (hM1) ?_|refine CallO_pure (hM2) ?_|refine NewB_intro0 (fun b=>?_)|(refine NewB_intro (fun b hb=>?_);simp only[ln_cons2,ln_nil,and_true]at hb)|(with_reducible apply wA;focus exact OM_a)|((first|refine gW_sp ?_|refine condW_sp ?_|refine pickW_sp ?_);(try refine Sp_n ?_);(first|refine wT ?_|refine wF ?_|refine wL (fun h h'=>?_) (fun h h'=>?_)|refine wE (fun h h'=>?_) (fun h h'=>?_)|refine Sp_split (fun h=>?_) (fun h=>?_))<;>(try (exfalso;omega)))|refine TreeW_intro (by rfl) ?_|refine TreeW_all ?_|refine a0a ?_|refine Two_intro ?_ ?_|exact wZ|fail)<;>(try refine sxChg ?_)<;>(try exact True.intro))
   all_goals first|skip;done|(exfalso;omega)
 ·obtain rfl:i=l.length:=by omega
  have f1:a0f (decide ((l.length:Int)<l.length)=false):=by simp only[a0f,Bool.not_eq_true',Bool.not_eq_false',decide_eq_true_eq,decide_eq_false_iff_not];omega
  rw[List.drop_length,a6m]
  clear i2
  simp (disch:=omega) only[↓Ed,Eu, ↓reduceIte,reduceCtorEq,Nat.reduceAdd,Nat.reduceEqDiff,Nat.reduceLT,Nat.reduceLeDiff,Int.reduceToNat,Int.reduceEq,Int.reduceLT,Int.reduceLE,w64,a0l,a0k,GnC.cs]
  repeat' ((first|refine NewB_intro0 (fun b=>?_)|(refine NewB_intro (fun b hb=>?_);simp only[ln_cons2,ln_nil,and_true]at hb)|(with_reducible apply wA;focus exact OM_a)|((first|refine gW_sp ?_|refine condW_sp ?_|refine pickW_sp ?_);(try refine Sp_n ?_);(first|refine wT ?_|refine wF ?_|refine wL (fun h h'=>?_) (fun h h'=>?_)|refine wE (fun h h'=>?_) (fun h h'=>?_)|refine Sp_split (fun h=>?_) (fun h=>?_))<;>(try (exfalso;omega)))|refine TreeW_intro (by rfl) ?_|refine TreeW_all ?_|refine a0a ?_|refine Two_intro ?_ ?_|exact wZ|fail)<;>(try refine sxChg ?_)<;>(try exact True.intro))
end
section
open Go.RowKit Go.Lib
set_option maxRecDepth 100000
theorem a7v(k:Nat):(List.replicate k (AV.int .i64 1)++[AV.int .i64 0]).set k (.int .i64 1)=List.replicate (k+1) (.int .i64 1):=by
 rw[snoc_set _ _ _ _ (by simp),List.replicate_succ']
theorem a7u(k:Nat):(List.replicate k (AV.int .i64 1)++[AV.int .i64 0]).getD k .undef=AV.int .i64 0:=snoc_get _ _ _ _ (by simp)
theorem b0g(e:a1C)(l:List a1C):l.any (a7n e)=decide (e∈l):=by
 rw[Bool.eq_iff_iff,List.any_eq_true,decide_eq_true_eq]
 constructor
 ·rintro ⟨x,hx,h⟩
  rw[a8O]at h
  rw[← h];exact hx
 ·intro h
  exact ⟨e,h,(a8O e e).2 rfl⟩
theorem idx_some{α:Type}[DecidableEq α]{a:α}{l:List α}(h:a∈l):∃ j,l.idxOf? a=some j∧j<l.length:=by
 cases hj:l.idxOf? a with
 | none=>rw[List.idxOf?_eq_none_iff]at hj;exact absurd h hj
 | some j=>
  obtain ⟨h1,_⟩:=List.idxOf?_eq_some_iff.1 hj
  exact ⟨j,rfl,h1⟩
theorem takeG{l:List GnC}{k:Nat}(hk:k<l.length):((l.take (k+1)).map a2B).map a9k=((l.take k).map a2B).map a9k++[a9k (a2B (l.getD k default))]:=by
 rw[take_snocA hk];simp
theorem sxChh{A B:Prop}(h:B)(e:A=B:=by (simp (disch:=omega) only[*, ↓Ed,Eu, ↓reduceIte,reduceCtorEq,Nat.reduceAdd,Nat.reduceEqDiff,Nat.reduceLT,Nat.reduceLeDiff,Int.reduceToNat,Int.reduceEq,Int.reduceLT,Int.reduceLE,w64,a0l,a0k,GnC.cs,List.length_append,List.length_map,Nat.mul_one,beq_self_eq_true,a0K,a7v,a7u,Int.reduceAdd];first|done|rfl)):A:=e▸h
set_option maxHeartbeats 8000000 in
theorem a7F(l:List GnC)(hl:a6P l)(hb:l.length≤1000):CP Tryz.prog 28 [.sl none 6 (gns l)] (.int .i64 (a9g l)):=by
 refine a7q _ _ (by simp) ?_
 by_cases h6:6<l.length
 ·have f0:a0f (decide ((6:Int)<l.length)=true):=by simp only[a0f,Bool.not_eq_true',Bool.not_eq_false',decide_eq_true_eq,decide_eq_false_iff_not];omega
  unfold a9g
  rw[if_pos h6]
  simp (disch:=omega) only[a2V, ↓Ed,Eu, ↓reduceIte,reduceCtorEq,Nat.reduceAdd,Nat.reduceEqDiff,Nat.reduceLT,Nat.reduceLeDiff,Int.reduceToNat,Int.reduceEq,Int.reduceLT,Int.reduceLE,w64,a0l,a0k,GnC.cs,List.length_append,List.length_map,Nat.mul_one,beq_self_eq_true,a0K,a7v,a7u,Int.reduceAdd]
  repeat' ((first|refine NewB_intro0 (fun b=>?_)|(refine NewB_intro (fun b hb=>?_);simp only[ln_cons2,ln_nil,and_true]at hb)|(with_reducible apply wA;focus exact OM_a)|((first|refine gW_sp ?_|refine condW_sp ?_|refine pickW_sp ?_);(try refine Sp_n ?_);(first|refine wT ?_|refine wF ?_|refine wL (fun h h'=>?_) (fun h h'=>?_)|refine wE (fun h h'=>?_) (fun h h'=>?_)|refine Sp_split (fun h=>?_) (fun h=>?_))<;>(try (exfalso;omega)))|refine TreeW_intro (by rfl) ?_|refine TreeW_all ?_|refine a0a ?_|refine Two_intro ?_ ?_|exact wZ|fail)<;>(try refine sxChh ?_)<;>(try exact True.intro))
 have f0:a0f (decide ((6:Int)<l.length)=false):=by simp only[a0f,Bool.not_eq_true',Bool.not_eq_false',decide_eq_true_eq,decide_eq_false_iff_not];omega
 unfold a9g
 rw[if_neg h6]
 simp (disch:=omega) only[a2V, ↓Ed,Eu, ↓reduceIte,reduceCtorEq,Nat.reduceAdd,Nat.reduceEqDiff,Nat.reduceLT,Nat.reduceLeDiff,Int.reduceToNat,Int.reduceEq,Int.reduceLT,Int.reduceLE,w64,a0l,a0k,GnC.cs,List.length_append,List.length_map,Nat.mul_one,beq_self_eq_true,a0K,a7v,a7u,Int.reduceAdd]
 repeat' ((first|refine NewB_intro0 (fun b=>?_)|(refine NewB_intro (fun b hb=>?_);simp only[ln_cons2,ln_nil,and_true]at hb)|(with_reducible apply wA;focus exact OM_a)|((first|refine gW_sp ?_|refine condW_sp ?_|refine pickW_sp ?_);(try refine Sp_n ?_);(first|refine wT ?_|refine wF ?_|refine wL (fun h h'=>?_) (fun h h'=>?_)|refine wE (fun h h'=>?_) (fun h h'=>?_)|refine Sp_split (fun h=>?_) (fun h=>?_))<;>(try (exfalso;omega)))|refine TreeW_intro (by rfl) ?_|refine TreeW_all ?_|refine a0a ?_|refine Two_intro ?_ ?_|exact wZ|fail)<;>(try refine sxChh ?_)<;>(try exact True.intro))
 refine wpx_loop (fun k:Nat=>⟨lk [(3,.mapv b),(10,.sl none 6 (gns l)),(11,.int .i64 l.length),(12,.int .i64 (k:Int))],lk [(b,[.mp (((l.take k).map a2B).map a9k) (List.replicate k (.int .i64 1)) (List.range k) k])]⟩) (fun k=>k≤l.length∧a0f (a6m [] l=a6m ((l.take k).map a2B) (l.drop k))) (fun k=>l.length - k) 0 ⟨by omega,rfl⟩ (Le_lit (by simp[LeL,lk])) ?_
 intro k ⟨i1,i2⟩
 have i2:a6m [] l=a6m ((l.take k).map a2B) (l.drop k):=i2
 rw[i2]
 by_cases hk:k<l.length
 ·have f5:a0f (decide ((k:Int)<l.length)=true):=by simp only[a0f,Bool.not_eq_true',Bool.not_eq_false',decide_eq_true_eq,decide_eq_false_iff_not];omega
  have hst:=chk_step hk
  have hli:=hl k hk
  have htk:=takeG hk
  have hlk:((l.take k).map a2B).length=k:=by simp;omega
  obtain ⟨⟨p,c,q,d,o,n⟩,hgd⟩:∃ a,l.getD k default=a:=⟨_,rfl⟩
  rw[hgd]at hst hli htk
  have hA:=a6e p c (by have:=hli.1;simp only at this;omega)
  have hB:=a6e q d (by have:=hli.2;simp only at this;omega)
  have hC:=a6c n
  rw[b0g]at hst
  clear hli hl
  have hok:okG ⟨p,c,q,d,o,n⟩=(a1E p c&&a1E q d&&(decide (1≤n)&&decide (n≤1099511627777))):=rfl
  rw[hok]at hst
  clear hok
  generalize a1E p c=a1 at *
  generalize a1E q d=a2 at *
  generalize (decide (1≤n)&&decide (n≤1099511627777))=a3 at *
  have hgo:a2B ⟨p,c,q,d,o,n⟩=(p,c):=rfl
  rw[hgo]at hst htk
  cases a1 with
  | false=>
   rw[Bool.false_and,Bool.false_and,if_pos rfl]at hst
   rw[hst]
   clear hst i2 htk
   simp (disch:=omega) only[hgd, ↓Ed,Eu, ↓reduceIte,reduceCtorEq,Nat.reduceAdd,Nat.reduceEqDiff,Nat.reduceLT,Nat.reduceLeDiff,Int.reduceToNat,Int.reduceEq,Int.reduceLT,Int.reduceLE,w64,a0l,a0k,GnC.cs,List.length_append,List.length_map,Nat.mul_one,beq_self_eq_true,a0K,a7v,a7u,Int.reduceAdd]
   repeat' ((first|refine CallO_pure (hA) ?_|refine CallO_pure (hB) ?_|refine CallO_pure (hC) ?_|refine NewB_intro0 (fun b=>?_)|(refine NewB_intro (fun b hb=>?_);simp only[ln_cons2,ln_nil,and_true]at hb)|(with_reducible apply wA;focus exact OM_a)|((first|refine gW_sp ?_|refine condW_sp ?_|refine pickW_sp ?_);(try refine Sp_n ?_);(first|refine wT ?_|refine wF ?_|refine wL (fun h h'=>?_) (fun h h'=>?_)|refine wE (fun h h'=>?_) (fun h h'=>?_)|refine Sp_split (fun h=>?_) (fun h=>?_))<;>(try (exfalso;omega)))|refine TreeW_intro (by rfl) ?_|refine TreeW_all ?_|refine a0a ?_|refine Two_intro ?_ ?_|exact wZ|fail)<;>(try refine sxChh ?_)<;>(try exact True.intro))
  | true=>
   cases a2 with
   | false=>
    rw[Bool.true_and,Bool.false_and,if_pos rfl]at hst
    rw[hst]
    clear hst i2 htk
    simp (disch:=omega) only[hgd, ↓Ed,Eu, ↓reduceIte,reduceCtorEq,Nat.reduceAdd,Nat.reduceEqDiff,Nat.reduceLT,Nat.reduceLeDiff,Int.reduceToNat,Int.reduceEq,Int.reduceLT,Int.reduceLE,w64,a0l,a0k,GnC.cs,List.length_append,List.length_map,Nat.mul_one,beq_self_eq_true,a0K,a7v,a7u,Int.reduceAdd]
    repeat' ((first|refine CallO_pure (hA) ?_|refine CallO_pure (hB) ?_|refine CallO_pure (hC) ?_|refine NewB_intro0 (fun b=>?_)|(refine NewB_intro (fun b hb=>?_);simp only[ln_cons2,ln_nil,and_true]at hb)|(with_reducible apply wA;focus exact OM_a)|((first|refine gW_sp ?_|refine condW_sp ?_|refine pickW_sp ?_);(try refine Sp_n ?_);(first|refine wT ?_|refine wF ?_|refine wL (fun h h'=>?_) (fun h h'=>?_)|refine wE (fun h h'=>?_) (fun h h'=>?_)|refine Sp_split (fun h=>?_) (fun h=>?_))<;>(try (exfalso;omega)))|refine TreeW_intro (by rfl) ?_|refine TreeW_all ?_|refine a0a ?_|refine Two_intro ?_ ?_|exact wZ|fail)<;>(try refine sxChh ?_)<;>(try exact True.intro))
   | true=>
    cases a3 with
    | false=>
     rw[Bool.and_false,if_pos rfl]at hst
     rw[hst]
     clear hst i2 htk
     simp (disch:=omega) only[hgd, ↓Ed,Eu, ↓reduceIte,reduceCtorEq,Nat.reduceAdd,Nat.reduceEqDiff,Nat.reduceLT,Nat.reduceLeDiff,Int.reduceToNat,Int.reduceEq,Int.reduceLT,Int.reduceLE,w64,a0l,a0k,GnC.cs,List.length_append,List.length_map,Nat.mul_one,beq_self_eq_true,a0K,a7v,a7u,Int.reduceAdd]
     repeat' ((first|refine CallO_pure (hA) ?_|refine CallO_pure (hB) ?_|refine CallO_pure (hC) ?_|refine NewB_intro0 (fun b=>?_)|(refine NewB_intro (fun b hb=>?_);simp only[ln_cons2,ln_nil,and_true]at hb)|(with_reducible apply wA;focus exact OM_a)|((first|refine gW_sp ?_|refine condW_sp ?_|refine pickW_sp ?_);(try refine Sp_n ?_);(first|refine wT ?_|refine wF ?_|refine wL (fun h h'=>?_) (fun h h'=>?_)|refine wE (fun h h'=>?_) (fun h h'=>?_)|refine Sp_split (fun h=>?_) (fun h=>?_))<;>(try (exfalso;omega)))|refine TreeW_intro (by rfl) ?_|refine TreeW_all ?_|refine a0a ?_|refine Two_intro ?_ ?_|exact wZ|fail)<;>(try refine sxChh ?_)<;>(try exact True.intro))
    | true=>
     rw[Bool.and_self,Bool.and_self,if_neg (by simp)]at hst
     by_cases hm:(p,c)∈(l.take k).map a2B
     ·rw[if_pos (decide_eq_true hm)]at hst
      rw[hst]
      have hf:=findM_map [.s,.i] true a9k a8I (p,c) ((l.take k).map a2B)
      obtain ⟨j,hj,hjl⟩:=idx_some hm
      rw[hj]at hf
      have hjk:j<k:=by rw[hlk]at hjl;exact hjl
      have hv:(List.replicate k (AV.int .i64 1)).getD j .undef=.int .i64 1:=by simp[List.getD,hjk]
      have hf':a2Q [.s,.i] true (.agg [.str p,.int .i64 c]) (((l.take k).map a2B).map a9k)=some (some j):=hf
      clear hst i2 htk hf hj hjl hlk
      simp (disch:=omega) only[hgd,hf',hv, ↓Ed,Eu, ↓reduceIte,reduceCtorEq,Nat.reduceAdd,Nat.reduceEqDiff,Nat.reduceLT,Nat.reduceLeDiff,Int.reduceToNat,Int.reduceEq,Int.reduceLT,Int.reduceLE,w64,a0l,a0k,GnC.cs,List.length_append,List.length_map,Nat.mul_one,beq_self_eq_true,a0K,a7v,a7u,Int.reduceAdd]
      repeat' ((first|refine CallO_pure (hA) ?_|refine CallO_pure (hB) ?_|refine CallO_pure (hC) ?_|refine NewB_intro0 (fun b=>?_)|(refine NewB_intro (fun b hb=>?_);simp only[ln_cons2,ln_nil,and_true]at hb)|(with_reducible apply wA;focus exact OM_a)|((first|refine gW_sp ?_|refine condW_sp ?_|refine pickW_sp ?_);(try refine Sp_n ?_);(first|refine wT ?_|refine wF ?_|refine wL (fun h h'=>?_) (fun h h'=>?_)|refine wE (fun h h'=>?_) (fun h h'=>?_)|refine Sp_split (fun h=>?_) (fun h=>?_))<;>(try (exfalso;omega)))|refine TreeW_intro (by rfl) ?_|refine TreeW_all ?_|refine a0a ?_|refine Two_intro ?_ ?_|exact wZ|fail)<;>(try refine sxChh ?_)<;>(try exact True.intro))
     ·rw[if_neg (by rw[decide_eq_false hm];simp)]at hst
      rw[hst]at i2 ⊢
      rw[← i2]
      have i3:a0f (a6m [] l=a6m ((l.take (k+1)).map a2B) (l.drop (k+1))):=i2
      have hf:a2Q [.s,.i] true (.agg [.str p,.int .i64 c]) (((l.take k).map a2B).map a9k)=some none:=findM_no _ _ a9k a8I _ _ hm
      have hf2:a2Q [.s,.i] true (.agg [.str p,.int .i64 c]) (((l.take k).map a2B).map a9k++[.agg [.str p,.int .i64 c]])=some (some k):=by
       have:=findM_snoc [.s,.i] true a9k a8I _ _ hm
       rwa [hlk]at this
      clear hst i2 hlk
      simp (disch:=omega) only[hgd,hf, ↓Ed,Eu, ↓reduceIte,reduceCtorEq,Nat.reduceAdd,Nat.reduceEqDiff,Nat.reduceLT,Nat.reduceLeDiff,Int.reduceToNat,Int.reduceEq,Int.reduceLT,Int.reduceLE,w64,a0l,a0k,GnC.cs,List.length_append,List.length_map,Nat.mul_one,beq_self_eq_true,a0K,a7v,a7u,Int.reduceAdd]
      repeat' ((first|refine CallO_pure (hA) ?_|refine CallO_pure (hB) ?_|refine CallO_pure (hC) ?_|refine NewB_intro0 (fun b=>?_)|(refine NewB_intro (fun b hb=>?_);simp only[ln_cons2,ln_nil,and_true]at hb)|(with_reducible apply wA;focus exact OM_a)|((first|refine gW_sp ?_|refine condW_sp ?_|refine pickW_sp ?_);(try refine Sp_n ?_);(first|refine wT ?_|refine wF ?_|refine wL (fun h h'=>?_) (fun h h'=>?_)|refine wE (fun h h'=>?_) (fun h h'=>?_)|refine Sp_split (fun h=>?_) (fun h=>?_))<;>(try (exfalso;omega)))|refine TreeW_intro (by rfl) ?_|refine TreeW_all ?_|refine a0a ?_|refine Two_intro ?_ ?_|exact wZ|fail)<;>(try refine sxChh ?_)<;>(try exact True.intro))
      all_goals exact Round_lit (k+1) ⟨Le_lit (by simp[-List.map_take, -List.map_map,LeL,lk,htk,a9k,List.range_succ]),⟨hk,i3⟩,by omega⟩
 ·obtain rfl:k=l.length:=by omega
  have f5:a0f (decide ((l.length:Int)<l.length)=false):=by simp only[a0f,Bool.not_eq_true',Bool.not_eq_false',decide_eq_true_eq,decide_eq_false_iff_not];omega
  rw[List.drop_length,a6m]
  clear i2
  simp (disch:=omega) only[↓Ed,Eu, ↓reduceIte,reduceCtorEq,Nat.reduceAdd,Nat.reduceEqDiff,Nat.reduceLT,Nat.reduceLeDiff,Int.reduceToNat,Int.reduceEq,Int.reduceLT,Int.reduceLE,w64,a0l,a0k,GnC.cs,List.length_append,List.length_map,Nat.mul_one,beq_self_eq_true,a0K,a7v,a7u,Int.reduceAdd]
  repeat' ((first|refine NewB_intro0 (fun b=>?_)|(refine NewB_intro (fun b hb=>?_);simp only[ln_cons2,ln_nil,and_true]at hb)|(with_reducible apply wA;focus exact OM_a)|((first|refine gW_sp ?_|refine condW_sp ?_|refine pickW_sp ?_);(try refine Sp_n ?_);(first|refine wT ?_|refine wF ?_|refine wL (fun h h'=>?_) (fun h h'=>?_)|refine wE (fun h h'=>?_) (fun h h'=>?_)|refine Sp_split (fun h=>?_) (fun h=>?_))<;>(try (exfalso;omega)))|refine TreeW_intro (by rfl) ?_|refine TreeW_all ?_|refine a0a ?_|refine Two_intro ?_ ?_|exact wZ|fail)<;>(try refine sxChh ?_)<;>(try exact True.intro))
end
section
open Go.RowKit Go.Lib
set_option maxRecDepth 100000
def a9t(l:List GnC):Prop:=l.length≤10∧∀ i,i<l.length→(l.getD i default).p.length≤60∧(l.getD i default).q.length≤60
theorem sxInl{A B:Prop}(h:B)(e:A=B:=by (simp (disch:=omega) only[*, ↓Ed,Eu, ↓reduceIte,reduceCtorEq,Nat.reduceAdd,Nat.reduceEqDiff,Nat.reduceLT,Nat.reduceLeDiff,Int.reduceToNat,Int.reduceEq,Int.reduceLT,Int.reduceLE,w64,a0l,a0k,GnC.cs];first|done|rfl)):A:=e▸h
open Classical in
theorem a8t(l:List GnC):CP Tryz.prog 26 [.agg [.str [],.int .i64 0,.int .i64 0,.int .i64 0,.sl none 6 (gns l)]] (.bool (decide (a9t l))):=by
 refine a3h _ _ (by simp) ?_
 by_cases h10:l.length≤10
 ·simp (disch:=omega) only[a0X, ↓Ed,Eu, ↓reduceIte,reduceCtorEq,Nat.reduceAdd,Nat.reduceEqDiff,Nat.reduceLT,Nat.reduceLeDiff,Int.reduceToNat,Int.reduceEq,Int.reduceLT,Int.reduceLE,w64,a0l,a0k,GnC.cs]
  repeat' ((first|refine NewB_intro0 (fun b=>?_)|(refine NewB_intro (fun b hb=>?_);simp only[ln_cons2,ln_nil,and_true]at hb)|(with_reducible apply wA;focus exact OM_a)|((first|refine gW_sp ?_|refine condW_sp ?_|refine pickW_sp ?_);(try refine Sp_n ?_);(first|refine wT ?_|refine wF ?_|refine wL (fun h h'=>?_) (fun h h'=>?_)|refine wE (fun h h'=>?_) (fun h h'=>?_)|refine Sp_split (fun h=>?_) (fun h=>?_))<;>(try (exfalso;omega)))|refine TreeW_intro (by rfl) ?_|refine TreeW_all ?_|refine a0a ?_|refine Two_intro ?_ ?_|exact wZ|fail)<;>(try refine sxInl ?_)<;>(try exact True.intro))
  refine wpx_loop (fun i:Nat=>⟨lk [(1,.ptr b 0),(3,.int .i64 (i:Int))],lk [(b,[.str [],.int .i64 0,.int .i64 0,.int .i64 0,.sl none 6 (gns l)])]⟩) (fun i=>i≤l.length∧a0f (∀ j,j<i→(l.getD j default).p.length≤60∧(l.getD j default).q.length≤60)) (fun i=>l.length - i) 0 ⟨by omega,fun j hj=>by omega⟩ (Le_lit (by simp[LeL,lk])) ?_
  intro i ⟨i1,i2⟩
  by_cases hil:i<l.length
  ·have f1:a0f (decide ((i:Int)<l.length)=true):=by simp only[a0f,Bool.not_eq_true',Bool.not_eq_false',decide_eq_true_eq,decide_eq_false_iff_not];omega
   by_cases hq:(l.getD i default).p.length≤60∧(l.getD i default).q.length≤60
   ·have i3:a0f (∀ j,j<i+1→(l.getD j default).p.length≤60∧(l.getD j default).q.length≤60):=fun j hj=>by
     by_cases e:j<i
     ·exact i2 j e
     ·obtain rfl:j=i:=by omega
      exact hq
    obtain ⟨⟨p,c,q,d,o,n⟩,hgd⟩:∃ a,l.getD i default=a:=⟨_,rfl⟩
    rw[hgd]at hq
    obtain ⟨q1,q2⟩:=hq
    simp only at q1 q2
    clear i2
    generalize decide (a9t l)=res at *
    simp (disch:=omega) only[hgd, ↓Ed,Eu, ↓reduceIte,reduceCtorEq,Nat.reduceAdd,Nat.reduceEqDiff,Nat.reduceLT,Nat.reduceLeDiff,Int.reduceToNat,Int.reduceEq,Int.reduceLT,Int.reduceLE,w64,a0l,a0k,GnC.cs]
    repeat' ((first|refine NewB_intro0 (fun b=>?_)|(refine NewB_intro (fun b hb=>?_);simp only[ln_cons2,ln_nil,and_true]at hb)|(with_reducible apply wA;focus exact OM_a)|((first|refine gW_sp ?_|refine condW_sp ?_|refine pickW_sp ?_);(try refine Sp_n ?_);(first|refine wT ?_|refine wF ?_|refine wL (fun h h'=>?_) (fun h h'=>?_)|refine wE (fun h h'=>?_) (fun h h'=>?_)|refine Sp_split (fun h=>?_) (fun h=>?_))<;>(try (exfalso;omega)))|refine TreeW_intro (by rfl) ?_|refine TreeW_all ?_|refine a0a ?_|refine Two_intro ?_ ?_|exact wZ|fail)<;>(try refine sxInl ?_)<;>(try exact True.intro))
    all_goals exact Round_lit (i+1) ⟨Le_lit (by simp[LeL,lk]),⟨hil,i3⟩,by omega⟩
   ·rw[decide_eq_false (fun h=>hq (h.2 i hil))]
    obtain ⟨⟨p,c,q,d,o,n⟩,hgd⟩:∃ a,l.getD i default=a:=⟨_,rfl⟩
    rw[hgd]at hq
    simp only at hq
    clear i2
    simp (disch:=omega) only[hgd, ↓Ed,Eu, ↓reduceIte,reduceCtorEq,Nat.reduceAdd,Nat.reduceEqDiff,Nat.reduceLT,Nat.reduceLeDiff,Int.reduceToNat,Int.reduceEq,Int.reduceLT,Int.reduceLE,w64,a0l,a0k,GnC.cs]
    repeat' ((first|refine NewB_intro0 (fun b=>?_)|(refine NewB_intro (fun b hb=>?_);simp only[ln_cons2,ln_nil,and_true]at hb)|(with_reducible apply wA;focus exact OM_a)|((first|refine gW_sp ?_|refine condW_sp ?_|refine pickW_sp ?_);(try refine Sp_n ?_);(first|refine wT ?_|refine wF ?_|refine wL (fun h h'=>?_) (fun h h'=>?_)|refine wE (fun h h'=>?_) (fun h h'=>?_)|refine Sp_split (fun h=>?_) (fun h=>?_))<;>(try (exfalso;omega)))|refine TreeW_intro (by rfl) ?_|refine TreeW_all ?_|refine a0a ?_|refine Two_intro ?_ ?_|exact wZ|fail)<;>(try refine sxInl ?_)<;>(try exact True.intro))
  ·obtain rfl:i=l.length:=by omega
   have f1:a0f (decide ((l.length:Int)<l.length)=false):=by simp only[a0f,Bool.not_eq_true',Bool.not_eq_false',decide_eq_true_eq,decide_eq_false_iff_not];omega
   have hls:a9t l:=⟨h10,i2⟩
   rw[decide_eq_true hls]
   clear hls
   clear i2
   simp (disch:=omega) only[↓Ed,Eu, ↓reduceIte,reduceCtorEq,Nat.reduceAdd,Nat.reduceEqDiff,Nat.reduceLT,Nat.reduceLeDiff,Int.reduceToNat,Int.reduceEq,Int.reduceLT,Int.reduceLE,w64,a0l,a0k,GnC.cs]
   repeat' ((first|refine NewB_intro0 (fun b=>?_)|(refine NewB_intro (fun b hb=>?_);simp only[ln_cons2,ln_nil,and_true]at hb)|(with_reducible apply wA;focus exact OM_a)|((first|refine gW_sp ?_|refine condW_sp ?_|refine pickW_sp ?_);(try refine Sp_n ?_);(first|refine wT ?_|refine wF ?_|refine wL (fun h h'=>?_) (fun h h'=>?_)|refine wE (fun h h'=>?_) (fun h h'=>?_)|refine Sp_split (fun h=>?_) (fun h=>?_))<;>(try (exfalso;omega)))|refine TreeW_intro (by rfl) ?_|refine TreeW_all ?_|refine a0a ?_|refine Two_intro ?_ ?_|exact wZ|fail)<;>(try refine sxInl ?_)<;>(try exact True.intro))
 ·rw[decide_eq_false (fun h=>h10 h.1)]
  simp (disch:=omega) only[a0X, ↓Ed,Eu, ↓reduceIte,reduceCtorEq,Nat.reduceAdd,Nat.reduceEqDiff,Nat.reduceLT,Nat.reduceLeDiff,Int.reduceToNat,Int.reduceEq,Int.reduceLT,Int.reduceLE,w64,a0l,a0k,GnC.cs]
  repeat' ((first|refine NewB_intro0 (fun b=>?_)|(refine NewB_intro (fun b hb=>?_);simp only[ln_cons2,ln_nil,and_true]at hb)|(with_reducible apply wA;focus exact OM_a)|((first|refine gW_sp ?_|refine condW_sp ?_|refine pickW_sp ?_);(try refine Sp_n ?_);(first|refine wT ?_|refine wF ?_|refine wL (fun h h'=>?_) (fun h h'=>?_)|refine wE (fun h h'=>?_) (fun h h'=>?_)|refine Sp_split (fun h=>?_) (fun h=>?_))<;>(try (exfalso;omega)))|refine TreeW_intro (by rfl) ?_|refine TreeW_all ?_|refine a0a ?_|refine Two_intro ?_ ?_|exact wZ|fail)<;>(try refine sxInl ?_)<;>(try exact True.intro))
end
section
open Go.RowKit Go.Lib
set_option maxRecDepth 100000
def a8r(x:GnC):Es:=⟨x.q,x.d,x.o,false,0⟩
noncomputable def a8E (L:List PrP) (x:GnC):List PrP:=a3o L (ofP 7 x.p x.c 0) (a3d (a8r x)).1
noncomputable def a2T (L:List PrP) (x:GnC):Nat→List PrP
 | 0=>L
 | m+1=>a3o (a2T L x m) (ofP ((4+m:Nat):Int) x.p x.c 0) (pn x.n)
noncomputable def b5r (L:List PrP) (x:GnC):List PrP:=a2T (a8E L x) x 3
noncomputable def a1Z (l:List GnC):Nat→List PrP
 | 0=>[]
 | i+1=>b5r (a1Z l i) (l.getD i default)
theorem a7o(L:List PrP)(x:GnC):∀ m,(a2T L x m).length≤L.length+m
 | 0=>Nat.le_refl _
 | m+1=>by
  have:=a7o L x m
  have:=a5u (a2T L x m) (ofP ((4+m:Nat):Int) x.p x.c 0) (pn x.n)
  simp only[a2T];omega
theorem a9s(l:List GnC):∀ i,(a1Z l i).length≤4 * i
 | 0=>Nat.le_refl _
 | i+1=>by
  have h1:=a9s l i
  have h2:=a5u (a1Z l i) (ofP 7 (l.getD i default).p (l.getD i default).c 0) (a3d (a8r (l.getD i default))).1
  have h3:=a7o (a8E (a1Z l i) (l.getD i default)) (l.getD i default) 3
  simp only[a1Z,b5r]
  simp only[a8E]at h3 ⊢
  omega
def b2S(i:Nat):Option Nat:=if i=0 then none else some 88
theorem sxInm{A B:Prop}(h:B)(e:A=B:=by (simp (disch:=omega) only[*, ↓Ed,Eu, ↓reduceIte,reduceCtorEq,Nat.reduceAdd,Nat.reduceEqDiff,Nat.reduceLT,Nat.reduceLeDiff,Int.reduceToNat,Int.reduceEq,Int.reduceLT,Int.reduceLE,w64,a0l,a0k,GnC.cs];first|done|rfl)):A:=e▸h
set_option maxHeartbeats 8000000 in
theorem b3i(l:List GnC)(hl:a6P l)(hb:l.length≤20):CP Tryz.prog 31 [.sl none 2 [],.sl none 6 (gns l)] (.sl (b2S l.length) 2 (prR (a1Z l l.length))):=by
 have hln:=a9s l
 refine a5j _ _ (by simp) ?_
 simp (disch:=omega) only[a2Z, ↓Ed,Eu, ↓reduceIte,reduceCtorEq,Nat.reduceAdd,Nat.reduceEqDiff,Nat.reduceLT,Nat.reduceLeDiff,Int.reduceToNat,Int.reduceEq,Int.reduceLT,Int.reduceLE,w64,a0l,a0k,GnC.cs]
 repeat' ((first|refine NewB_intro0 (fun b=>?_)|(refine NewB_intro (fun b hb=>?_);simp only[ln_cons2,ln_nil,and_true]at hb)|(with_reducible apply wA;focus exact OM_a)|((first|refine gW_sp ?_|refine condW_sp ?_|refine pickW_sp ?_);(try refine Sp_n ?_);(first|refine wT ?_|refine wF ?_|refine wL (fun h h'=>?_) (fun h h'=>?_)|refine wE (fun h h'=>?_) (fun h h'=>?_)|refine Sp_split (fun h=>?_) (fun h=>?_))<;>(try (exfalso;omega)))|refine TreeW_intro (by rfl) ?_|refine TreeW_all ?_|refine a0a ?_|refine Two_intro ?_ ?_|exact wZ|fail)<;>(try refine sxInm ?_)<;>(try exact True.intro))
 refine wpx_loop (fun i:Nat=>⟨lk [(0,.sl (b2S i) 2 (prR (a1Z l i))),(1,.sl none 6 (gns l)),(5,.int .i64 (i:Int))],lk []⟩) (fun i=>i≤l.length) (fun i=>l.length - i) 0 (by omega) (Le_lit (by simp[LeL,lk,b2S,a1Z,prR])) ?_
 intro i i1
 have hll:=hln i
 by_cases hil:i<l.length
 ·have f1:a0f (decide ((i:Int)<l.length)=true):=by simp only[a0f,Bool.not_eq_true',Bool.not_eq_false',decide_eq_true_eq,decide_eq_false_iff_not];omega
  have hli:=hl i hil
  have hs1:a1Z l (i+1)=b5r (a1Z l i) (l.getD i default):=rfl
  have ho:b2S (i+1)=some 88:=rfl
  clear hln hl
  obtain ⟨⟨p,c,q,d,o,n⟩,hgd⟩:∃ a,l.getD i default=a:=⟨_,rfl⟩
  rw[hgd]at hli hs1
  obtain ⟨l1,l2⟩:=hli
  simp only at l1 l2
  have hP:=a6d (a1Z l i) (by omega) p c (by omega) ⟨q,d,o,false,0⟩ (by simp only;omega)
  have hA:a8E (a1Z l i) ⟨p,c,q,d,o,n⟩=a3o (a1Z l i) (ofP 7 p c 0) (a3d ⟨q,d,o,false,0⟩).1:=rfl
  rw[← hA]at hP
  unfold b5r at hs1
  have hal:=a5u (a1Z l i) (ofP 7 p c 0) (a3d ⟨q,d,o,false,0⟩).1
  rw[← hA]at hal
  clear hA
  generalize hL3:a1Z l (i+1)=L3 at *
  generalize b2S i=ow at *
  generalize a1Z l i=L0 at *
  generalize a8E L0 ⟨p,c,q,d,o,n⟩=L1 at *
  simp (disch:=omega) only[hgd, ↓Ed,Eu, ↓reduceIte,reduceCtorEq,Nat.reduceAdd,Nat.reduceEqDiff,Nat.reduceLT,Nat.reduceLeDiff,Int.reduceToNat,Int.reduceEq,Int.reduceLT,Int.reduceLE,w64,a0l,a0k,GnC.cs]
  repeat' ((first|refine CallW_intro (hP) ?_|refine CallO_pure (hP) ?_|refine NewB_intro0 (fun b=>?_)|(refine NewB_intro (fun b hb=>?_);simp only[ln_cons2,ln_nil,and_true]at hb)|(with_reducible apply wA;focus exact OM_a)|((first|refine gW_sp ?_|refine condW_sp ?_|refine pickW_sp ?_);(try refine Sp_n ?_);(first|refine wT ?_|refine wF ?_|refine wL (fun h h'=>?_) (fun h h'=>?_)|refine wE (fun h h'=>?_) (fun h h'=>?_)|refine Sp_split (fun h=>?_) (fun h=>?_))<;>(try (exfalso;omega)))|refine TreeW_intro (by rfl) ?_|refine TreeW_all ?_|refine a0a ?_|refine Two_intro ?_ ?_|exact wZ|fail)<;>(try refine sxInm ?_)<;>(try exact True.intro))
  clear hP
  obtain ⟨x,hx⟩:∃ x:GnC,x=⟨p,c,q,d,o,n⟩:=⟨_,rfl⟩
  rw[← hx]at hs1
  have hxp:x.p=p∧x.c=c∧x.n=n:=by rw[hx];exact ⟨rfl,rfl,rfl⟩
  clear hx
  refine wpx_loop (fun m:Nat=>⟨lk [(0,.sl (some 88) 2 (prR (a2T L1 x m))),(1,.sl none 6 (gns l)),(5,.int .i64 (i:Int)),(6,.int .i64 ((4+m:Nat):Int))],lk []⟩) (fun m=>m≤3) (fun m=>3 - m) 0 (by omega) (Le_lit (by simp[LeL,lk,a2T])) ?_
  intro m hm
  by_cases hm3:m<3
  ·have f2:a0f (decide (((4+m:Nat):Int)≤6)=true):=by simp only[a0f,Bool.not_eq_true',Bool.not_eq_false',decide_eq_true_eq,decide_eq_false_iff_not];omega
   have hB:=a7o L1 x m
   have hS:a2T L1 x (m+1)=a3o (a2T L1 x m) (ofP ((4+m:Nat):Int) x.p x.c 0) (pn x.n):=rfl
   have hN:=a6R (a2T L1 x m) (by omega) ((4+m:Nat):Int) p c (by omega) n
   rw[hxp.1,hxp.2.1,hxp.2.2]at hS
   rw[← hS]at hN
   clear hS hxp hs1
   generalize hL4:a2T L1 x (m+1)=L4 at *
   generalize a2T L1 x m=L5 at *
   generalize hk:4+m=kk at *
   simp (disch:=omega) only[hgd, ↓Ed,Eu, ↓reduceIte,reduceCtorEq,Nat.reduceAdd,Nat.reduceEqDiff,Nat.reduceLT,Nat.reduceLeDiff,Int.reduceToNat,Int.reduceEq,Int.reduceLT,Int.reduceLE,w64,a0l,a0k,GnC.cs]
   repeat' ((first|refine CallW_intro (hN) ?_|refine CallO_pure (hN) ?_|refine NewB_intro0 (fun b=>?_)|(refine NewB_intro (fun b hb=>?_);simp only[ln_cons2,ln_nil,and_true]at hb)|(with_reducible apply wA;focus exact OM_a)|((first|refine gW_sp ?_|refine condW_sp ?_|refine pickW_sp ?_);(try refine Sp_n ?_);(first|refine wT ?_|refine wF ?_|refine wL (fun h h'=>?_) (fun h h'=>?_)|refine wE (fun h h'=>?_) (fun h h'=>?_)|refine Sp_split (fun h=>?_) (fun h=>?_))<;>(try (exfalso;omega)))|refine TreeW_intro (by rfl) ?_|refine TreeW_all ?_|refine a0a ?_|refine Two_intro ?_ ?_|exact wZ|fail)<;>(try refine sxInm ?_)<;>(try exact True.intro))
   all_goals exact Round_lit (m+1) ⟨Le_lit (by simp[LeL,lk,hL4, ← Nat.add_assoc,hk]),hm3,by omega⟩
  ·obtain rfl:m=3:=by omega
   have f2:a0f (decide (((4+3:Nat):Int)≤6)=false):=by simp only[a0f,Bool.not_eq_true',Bool.not_eq_false',decide_eq_true_eq,decide_eq_false_iff_not];omega
   rw[← hs1]
   clear hs1 hxp
   simp (disch:=omega) only[↓Ed,Eu, ↓reduceIte,reduceCtorEq,Nat.reduceAdd,Nat.reduceEqDiff,Nat.reduceLT,Nat.reduceLeDiff,Int.reduceToNat,Int.reduceEq,Int.reduceLT,Int.reduceLE,w64,a0l,a0k,GnC.cs]
   repeat' ((first|refine NewB_intro0 (fun b=>?_)|(refine NewB_intro (fun b hb=>?_);simp only[ln_cons2,ln_nil,and_true]at hb)|(with_reducible apply wA;focus exact OM_a)|((first|refine gW_sp ?_|refine condW_sp ?_|refine pickW_sp ?_);(try refine Sp_n ?_);(first|refine wT ?_|refine wF ?_|refine wL (fun h h'=>?_) (fun h h'=>?_)|refine wE (fun h h'=>?_) (fun h h'=>?_)|refine Sp_split (fun h=>?_) (fun h=>?_))<;>(try (exfalso;omega)))|refine TreeW_intro (by rfl) ?_|refine TreeW_all ?_|refine a0a ?_|refine Two_intro ?_ ?_|exact wZ|fail)<;>(try refine sxInm ?_)<;>(try exact True.intro))
   all_goals exact Round_lit (i+1) ⟨Le_lit (by simp[LeL,lk,ho,hL3]),hil,by omega⟩
 ·obtain rfl:i=l.length:=by omega
  have f1:a0f (decide ((l.length:Int)<l.length)=false):=by simp only[a0f,Bool.not_eq_true',Bool.not_eq_false',decide_eq_true_eq,decide_eq_false_iff_not];omega
  clear hln
  generalize a1Z l l.length=L at *
  unfold b2S
  split
  all_goals
   simp (disch:=omega) only[↓Ed,Eu, ↓reduceIte,reduceCtorEq,Nat.reduceAdd,Nat.reduceEqDiff,Nat.reduceLT,Nat.reduceLeDiff,Int.reduceToNat,Int.reduceEq,Int.reduceLT,Int.reduceLE,w64,a0l,a0k,GnC.cs]
   repeat' ((first|refine NewB_intro0 (fun b=>?_)|(refine NewB_intro (fun b hb=>?_);simp only[ln_cons2,ln_nil,and_true]at hb)|(with_reducible apply wA;focus exact OM_a)|((first|refine gW_sp ?_|refine condW_sp ?_|refine pickW_sp ?_);(try refine Sp_n ?_);(first|refine wT ?_|refine wF ?_|refine wL (fun h h'=>?_) (fun h h'=>?_)|refine wE (fun h h'=>?_) (fun h h'=>?_)|refine Sp_split (fun h=>?_) (fun h=>?_))<;>(try (exfalso;omega)))|refine TreeW_intro (by rfl) ?_|refine TreeW_all ?_|refine a0a ?_|refine Two_intro ?_ ?_|exact wZ|fail)<;>(try refine sxInm ?_)<;>(try exact True.intro))
end
end Go.Proofs.YthdcogkdacnheaaGreatDoor
