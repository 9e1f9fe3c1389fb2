import Derived.Test.YtfgihnhoocnmdaaGreatDoorK16
import Derived.Deep.LoopGhost
import Derived.Lib.Walk
import Derived.Shelf.Strings.SlTrimAscii
import Derived.WalkSmall
import Derived.Lib.IndexMore
import Derived.Lib.Strings
import Derived.Lib.SplitLaws
import Derived.Laws.BitsAllLaws
namespace Go.Proofs.YtfgihnhoocnmdaaGreatDoor
set_option linter.all false
set_option maxHeartbeats 64000000
set_option maxRecDepth 100000
section
open Go.RowKit Go.Shelf Go.Sort Go.Lib
theorem Nn{k:Nat}:∀ els:List (List AV),(∀ e∈els,e.length=k)→(els.flatMap Dk).length=els.length * k
 | [],_=>by simp
 | e::r,h=>by
  rw[Je,Ao,KG,h e (by simp),Nn r fun x hx=>h x (by simp[hx]),AJ,Bp];omega
theorem Nm{k:Nat}:∀ (els:List (List AV)) (i j:Nat),(∀ e∈els,e.length=k)→i<els.length→j<k→(els.flatMap Dk)[i * k+j]?=(Dk (els.getD i []))[j]?
 | [],i,j,_,h,_=>by simp at h
 | e::r,0,j,h,_,hj=>by
  rw[Je,CB (by rw[KG,h e (by simp)];omega)];simp
 | e::r,i+1,j,h,hi,hj=>by
  have he:=h e (by simp)
  rw[Je,Cj (by rw[KG,he,Bp];omega),KG,he]
  have:(i+1) * k+j - k=i * k+j:=by rw[Bp];omega
  rw[this,Nm r i j (fun x hx=>h x (by simp[hx])) (by simpa using hi) hj];simp
section
variable {P:Program} {ρ:Ren}
theorem WI(L:SlLaysE0.n41 P ρ)(i0:TypeInfo)(z:Value)(size bytes:Nat)(hi:P.info? (ρ.t 23)=some i0)(hz0:i0.zero=some z)(hz1:i0.size=size)(hz2:i0.bytes=bytes)(hzs:z.cells.size=size)(hsz:0<size)
  (z23:∀ w,(Go.sizeOf (ρ.t 23)).run P w=.ok size w) (a:Addr) (c:Nat) (w:World):
  Calls P (ρ.f 41) #[.slice (some a) 0 c] w fun e w'=>∃ v',e=.returned v'∧w'.ownsRow w.heap.size (ρ.t 23) size v' 0 []∧RowKit.Below w.heap.size w w':=by
 have mixed:=L.mixed;have t4:=L.t4;have a4:=L.a4;have z4:=L.z4;have v4:=L.v4;have t22:=L.t22;have a22:=L.a22;have z22:=L.z22;have v22:=L.v22
 have q22:∀ (w:World) (a:Option Addr) (n c n' c':Nat),(binOp .eql (ρ.t 22) (.slice a n c) (.slice none n' c')).run P w=.ok (.bool a.isNone) w:=fun w a n c n' c'=>Lib.run_eql_slice_nil w _ _ a n c n' c' L.t22
 have u22:∀ w,Sem.run P (underlying (ρ.t 22)) w=.ok (TypeDesc.slice (ρ.t 23)) w:=run_underlying t22
 obtain ⟨_,_,FG⟩:=L.f41
 go_enter FG,SlBodyN.n41_ntmps ρ
 go_wp2_with (at_builtin;refine wpList_append_own _ rfl _ _ (ρ.t 22) rfl w.heap.size (ρ.t 23) i0 z size bytes t22 hi hz0 hz1 hz2 hzs hsz _ _ _ rfl (World.ownsRow_made w #[] 0 (A8 _) (Nat.zero_le _) (by simp)) a 0 c [] rfl (by simp) (by intro j u hj;simp at hj) (by intro u hu;cases hu) (by unfold maxLen;omega) (by omega) (by simp) ?_)
 intro v' w1 hown hgrow hnil
 go_wp2
 go_ret
 exact ⟨v',rfl,by simpa using hown,((RowKit.Below.refl _ w).alloc (A8 _) _).grown hgrow (by simp) (by intro k hk;simp[Value.ownBlock]at hk;omega)⟩
theorem Ud(L:SlLaysE0.n41 P ρ)(i0:TypeInfo)(z:Value)(size bytes:Nat)(hi:P.info? (ρ.t 23)=some i0)(hz0:i0.zero=some z)(hz1:i0.size=size)(hz2:i0.bytes=bytes)(hzs:z.cells.size=size)(hsz:0<size)
  (z23:∀ w,(Go.sizeOf (ρ.t 23)).run P w=.ok size w) (els:List (List AV)) (hb:els.length * bytes≤140737488355328) (hl:els.length≤maxLen) (hs:∀ e∈els,e.length=size) (hf:∀ e∈els,GC e=true):
  CP P (ρ.f 41) [.sl none size els] (.sl (some (ρ.t 23)) size els):=by
 intro W U vs hG hlen hv
 obtain ⟨v,rfl⟩:∃ v,vs=[v]:=by
  match vs,hlen with
  | [v],_=>exact ⟨v,rfl⟩
 have h:=hv 0 v _ rfl rfl
 have hget:∀ (i j:Nat) (l:List AV) (c:AV) (u:Value),els[i]?=some l→l[j]?=some c→(els.flatMap Dk)[i * size+j]?=some u→∀ W U,VR W U u c:=by
  intro i j l c u hl' hc hu W2 U2
  have hi':i<els.length:=(AM.1 hl').1
  have hm:l∈els:=Dd hl'
  have hj:j<size:=by rw[← hs l hm];exact (AM.1 hc).1
  rw[Nm els i j hs hi' hj]at hu
  have e:els.getD i []=l:=by simp[List.getD,hl']
  rw[e]at hu
  exact (Ma l (hf l hm) j c u hc hu).1 W2 U2
 have hone:∀ u∈els.flatMap Dk,u.oneCell'=true:=by
  intro u hu
  obtain ⟨e,he,h2⟩:=List.mem_flatMap.1 hu
  exact ZK (hf e he) u h2
 have fin:∀ (W':World) (v':Value),RowKit.Below W.heap.size W W'→W'.ownsRow W.heap.size (ρ.t 23) size v' els.length (els.flatMap Dk)→
   ∃ v U',Ending.returned v'=.returned v∧VR W' U' v (.sl (some (ρ.t 23)) size els)∧Own1 W' U' (W.heap.size ≤ ·) v (.sl (some (ρ.t 23)) size els)∧Ext W U W' U':=by
  intro W' v' hbl hrow
  obtain ⟨U',r1,r2,r3⟩:=TE (U:=U) (e:=ρ.t 23) (k:=size) (els:=els) hsz hbl hrow rfl hs hone hget
  exact ⟨v',U',rfl,r1,r2,r3⟩
 cases h with
 | sl A cap own _ b o _ f hcap hmax hA _ hc hvv=>
  rcases Gv els.length with h0|h0
  ·obtain rfl:els=[]:=Dn h0
   cases A with
   | none=>
    refine (AnyE.slices_Clone_nil L 0 cap W).mono ?_
    rintro e W' ⟨rfl,rfl⟩
    exact fin _ _ (RowKit.Below.refl _ _) ⟨by simp,.inl ⟨rfl,rfl⟩⟩
   | some a=>
    refine (WI L i0 z size bytes hi hz0 hz1 hz2 hzs hsz z23 a cap W).mono ?_
    rintro e W' ⟨v',rfl,hrow,hbl⟩
    exact fin W' v' hbl (by simpa using hrow)
  ·obtain rfl:=hA h0
   refine (AnyE.slices_Clone L i0 z size bytes hi hz0 hz1 hz2 hzs hsz z23 b o els.length cap (els.flatMap Dk) W (Nn els hs) hl hb (fun t u hu=>?_) hone).mono ?_
   ·have ht:t<els.length * size:=by rw[← Nn els hs];exact (AM.1 hu).1
    have hi':t / size<els.length:=(G7 hsz).2 ht
    have hj:t % size<size:=EE _ hsz
    have e:t / size * size+t % size=t:=by rw[EF];exact F6 t size
    obtain ⟨c1,_,_⟩:=hc (t / size) (t % size) hi' hj
    have hm:els.getD (t / size) []∈els:=by rw[List.getD,Aw hi',Cp];exact Di hi'
    have hle:=hs _ hm
    have hc2:=Aw (l:=els.getD (t / size) []) (i:=t % size) (by rw[hle];exact hj)
    have hvr:=hvv (t / size) _ (t % size) _ (by rw[List.getD,Aw hi',Cp]) hc2
    have hu2:=Nm els (t / size) (t % size) hs hi' hj
    rw[e,hu]at hu2
    have:=(Ma _ (hf _ hm) (t % size) _ u hc2 hu2.symm).2.1 W U _ hvr
    rw[show o+t=o+t / size * size+t % size by omega,c1,this]
   ·rintro e W' ⟨v',rfl,hrow,_,hbl⟩
    exact fin W' v' hbl hrow
end
end
section
open Go.RowKit Go.Shelf Go.Sort Go.Lib
section
variable {P:Program} {ρ:Ren}
theorem a2P(L:SlLaysE0.n41 P ρ)(i0:TypeInfo)(z:Value)(size bytes:Nat)(hi:P.info? (ρ.t 23)=some i0)(hz0:i0.zero=some z)(hz1:i0.size=size)(hz2:i0.bytes=bytes)(hzs:z.cells.size=size)(hsz:0<size)
  (z23:∀ w,(Go.sizeOf (ρ.t 23)).run P w=.ok size w) (els:List (List AV)) (hb:els.length * bytes≤140737488355328) (hl:els.length≤maxLen) (hs:∀ e∈els,e.length=size) (hf:∀ e∈els,GC e=true)
  {W:World} {U:Nat→Nat→Prop} {o:Nat→Option (List AV)} (hI:Inv 0 W U (CO W o) { tmps := #[],defers:=[] } W U ⟨fun _=>none,o⟩) {g a:Nat} {cs:List AV} (A:Option Addr) (cap:Nat)
  (hA:0<els.length→A=some ⟨g,a * size,none⟩∧o g=some cs∧DR W g) (hr:∀ i l j x,els[i]?=some l→l[j]?=some x→cs[a * size+i * size+j]?=some x):
  Calls P (ρ.f 41) #[.slice A els.length cap] W fun e W'=>∃ v U' r o',e=.returned v∧(r=.sl (some (ρ.t 23)) size els∧o'=o)∧(∀ b cs,o b=some cs→∃ cs',o' b=some cs')∧
   Inv 1 W U (CO W o) { tmps := #[v],defers:=[] } W' U' ⟨upd (fun _=>none) 0 (some r),o'⟩:=by
 have hget:∀ (i j:Nat) (l:List AV) (c:AV) (u:Value),els[i]?=some l→l[j]?=some c→(els.flatMap Dk)[i * size+j]?=some u→∀ W U,VR W U u c:=by
  intro i j l c u hl' hc hu W2 U2
  have hi':i<els.length:=(AM.1 hl').1
  have hm:l∈els:=Dd hl'
  have hj:j<size:=by rw[← hs l hm];exact (AM.1 hc).1
  rw[Nm els i j hs hi' hj]at hu
  have e:els.getD i []=l:=by simp[List.getD,hl']
  rw[e]at hu
  exact (Ma l (hf l hm) j c u hc hu).1 W2 U2
 have hone:∀ u∈els.flatMap Dk,u.oneCell'=true:=by
  intro u hu
  obtain ⟨e,he,h2⟩:=List.mem_flatMap.1 hu
  exact ZK (hf e he) u h2
 have fin:∀ (W':World) (v':Value),RowKit.Below W.heap.size W W'→W'.ownsRow W.heap.size (ρ.t 23) size v' els.length (els.flatMap Dk)→
   ∃ v U' r o',Ending.returned v'=.returned v∧(r=.sl (some (ρ.t 23)) size els∧o'=o)∧(∀ b cs,o b=some cs→∃ cs',o' b=some cs')∧Inv 1 W U (CO W o) { tmps := #[v],defers:=[] } W' U' ⟨upd (fun _=>none) 0 (some r),o'⟩:=by
  intro W' v' hbl hrow
  obtain ⟨U',r1,r2,r3⟩:=TE (U:=U) (e:=ρ.t 23) (k:=size) (els:=els) hsz hbl hrow rfl hs hone hget
  exact ⟨v',U',_,o,rfl,⟨rfl,rfl⟩,fun b cs h=>⟨cs,h⟩,hI.res2 r3 r1 fun e sz els hr=>by cases hr;exact r2⟩
 rcases Gv els.length with h0|h0
 ·obtain rfl:els=[]:=Dn h0
  cases A with
  | none=>
   refine (AnyE.slices_Clone_nil L 0 cap W).mono ?_
   rintro e W' ⟨rfl,rfl⟩
   exact fin _ _ (RowKit.Below.refl _ _) ⟨by simp,.inl ⟨rfl,rfl⟩⟩
  | some a=>
   refine (WI L i0 z size bytes hi hz0 hz1 hz2 hzs hsz z23 a cap W).mono ?_
   rintro e W' ⟨v',rfl,hrow,hbl⟩
   exact fin W' v' hbl (by simpa using hrow)
 ·obtain ⟨rfl,hg,hm⟩:=hA h0
  obtain ⟨cur,ty,g1,g2,g3,g4,g5⟩:=hI.obc (b:=g) (cs:=cs) hg hm
  refine (AnyE.slices_Clone L i0 z size bytes hi hz0 hz1 hz2 hzs hsz z23 g (a * size) els.length cap (els.flatMap Dk) W (Nn els hs) hl hb (fun t u hu=>?_) hone).mono ?_
  ·have ht:t<els.length * size:=by rw[← Nn els hs];exact (AM.1 hu).1
   have hi':t / size<els.length:=(G7 hsz).2 ht
   have hj:t % size<size:=EE _ hsz
   have e:t / size * size+t % size=t:=by rw[EF];exact F6 t size
   have hm:els.getD (t / size) []∈els:=by rw[List.getD,Aw hi',Cp];exact Di hi'
   have hle:=hs _ hm
   have hc2:=Aw (l:=els.getD (t / size) []) (i:=t % size) (by rw[hle];exact hj)
   have Ae:=hr (t / size) _ (t % size) _ (by rw[List.getD,Aw hi',Cp]) hc2
   have hvr:=(g3 _ _ Ae).1
   have hlt:=(AM.1 Ae).1
   have hu2:=Nm els (t / size) (t % size) hs hi' hj
   rw[e,hu]at hu2
   have:=(Ma _ (hf _ hm) (t % size) _ u hc2 hu2.symm).2.1 W U _ hvr
   rw[show a * size+t=a * size+t / size * size+t % size by omega,cell_of_row W g _ cur _ (0,0) g1,Dz (by omega), ← this,Cu,Dz (by omega)]
   rfl
  ·rintro e W' ⟨v',rfl,hrow,_,hbl⟩
   exact fin W' v' hbl hrow
end
def AX(L:List PrP):List (List AV):=L.map D9
theorem Df(L:List PrP):(AX L).length=L.length:=by simp[AX]
theorem Dw(L:List PrP)(i:Nat)(h:i<L.length):(AX L).getD i []=D9 (L.getD i default):=by simp[AX,h]
theorem a4p(cap:Nat)(L:List PrP)(a m:Nat)(h:a+m≤L.length):∀ i l j x,(AX ((L.drop a).take m))[i]?=some l→l[j]?=some x→(Aq cap L)[a * 2+i * 2+j]?=some x:=by
 intro i l j x h1 h2
 have hi:i<m:=by have:=(AM.1 h1).1;simp[AX]at this;omega
 have h3:(L.map D9)[a+i]?=some l:=by
  rw[AX,B7,CW hi,CC]at h1
  rw[B7];exact h1
 have hj:j<2:=by
  have:=prRow.all L l (Dd h3)
  have:=(AM.1 h2).1
  omega
 rw[← Bp,Aq,Ge (prRow.all L) h3 hj]
 exact h2
theorem a0X{W:World}{U:Nat→Nat→Prop}{o:Nat→Option (List AV)}(hI:Inv 0 W U (CO W o) { tmps := #[],defers:=[] } W U ⟨fun _=>none,o⟩){g a:Nat}{cs:List AV}(M:List PrP)(hM:M.length≤1000000)(A:Option Addr)(cap:Nat)
  (hA:0<M.length→A=some ⟨g,a * 2,none⟩∧o g=some cs∧DR W g) (hr:∀ i l j x,(AX M)[i]?=some l→l[j]?=some x→cs[a * 2+i * 2+j]?=some x):
  Calls Tryz.prog 129 #[.slice A M.length cap] W fun e W'=>∃ v U' r o',e=.returned v∧(r=.sl (some 115) 2 (AX M)∧o'=o)∧(∀ b cs,o b=some cs→∃ cs',o' b=some cs')∧
   Inv 1 W U (CO W o) { tmps := #[v],defers:=[] } W' U' ⟨upd (fun _=>none) 0 (some r),o'⟩:=by
 obtain ⟨i0,hi,hz0,hz1,hz2⟩:=info_parts (P:=Tryz.prog) (e:=115) (z:=zPr) (size:=2) (bytes:=32) (by kernel_rfl)
 have:=a2P Tryz.cln129 i0 _ 2 32 hi hz0 hz1 hz2 rfl (by omega) Tryz.sizeOf115 (AX M) (by rw[Df];omega) (by rw[Df];unfold maxLen;omega) (fun e he=>by obtain ⟨x,_,rfl⟩:=Dp.1 he;rfl) (fun e he=>by obtain ⟨x,_,rfl⟩:=Dp.1 he;rfl) hI (g:=g) (a:=a) (cs:=cs) A cap (by rw[Df];exact hA) hr
 rwa [Df]at this
theorem b2O(g cap:Nat)(L:List PrP)(hb:L.length≤1000000):CT Tryz.prog 129 [.hsl g 115 2 L.length cap] (lk [(g,Aq cap L)]) (fun r o=>r=.sl (some 115) 2 (AX L)∧o=lk [(g,Aq cap L)]):=by
 intro W U vs hlen hv hI
 obtain ⟨v,rfl⟩:∃ v,vs=[v]:=by
  match vs,hlen with
  | [v],_=>exact ⟨v,rfl⟩
 have h:=hv 0 v _ rfl rfl
 cases h with
 | hsl _ _ _ _ _ n1 n2 hm=>
 obtain ⟨c1,c2,c3⟩:=hm
 exact a0X hI (g:=g) (a:=0) (cs:=Aq cap L) L hb _ cap (fun _=>⟨by simp,by simp[lk],⟨_,_,_,c3⟩⟩) (by have:=a4p cap L 0 L.length (by omega);simpa using this)
theorem b2Q:CT Tryz.prog 129 [.hnil 115 2] (lk []) (fun r o=>r=.sl (some 115) 2 (AX [])∧o=lk []):=by
 intro W U vs hlen hv hI
 obtain ⟨v,rfl⟩:∃ v,vs=[v]:=by
  match vs,hlen with
  | [v],_=>exact ⟨v,rfl⟩
 have h:=hv 0 v _ rfl rfl
 cases h
 exact a0X hI (g:=0) (a:=0) (cs:=[]) [] (by simp) none 0 (fun h=>by simp at h) (fun i l j x h=>by simp[AX]at h)
theorem a0O{A B:Prop}(h:B)(e:A=B:=by (simp (disch:=omega) only[*, ↓Ed,Eu, ↓reduceIte,reduceCtorEq,Nat.reduceAdd,Nat.reduceEqDiff,Nat.reduceLT,Nat.reduceLeDiff,Int.reduceToNat,Int.reduceEq,Int.reduceLT,Int.reduceLE,Ap, ↓Eb, ↓Ec, ↓Ee];first|done|rfl)):A:=e▸h
theorem b3j(s:Nat)(L:List PrP)(hb:L.length≤1000000)(x:Bl)(hx:stOk s L x):
  CT Tryz.prog 63 [.ptr s 0] (lk (AF s L x)) (fun r o=>r=.sl (some 115) 2 (AX L)∧o=lk (AF s L x)):=by
 refine a8e _ _ _ (by simp) ?_
 rcases x with _ | ⟨g,cap⟩
 ·obtain rfl:L=[]:=hx
  have hC:=b2Q
  simp (disch:=omega) only[Rz,A3, ↓Ed,Eu, ↓reduceIte,reduceCtorEq,Nat.reduceAdd,Nat.reduceEqDiff,Nat.reduceLT,Nat.reduceLeDiff,Int.reduceToNat,Int.reduceEq,Int.reduceLT,Int.reduceLE,Ap, ↓Eb, ↓Ec, ↓Ee]
  repeat' ((first|exact tt|(refine c0 hC ?_)|refine na fun b=>?_|refine nb fun b hb=>?_|refine iq ?_|(refine jq ?_ ?_<;>intro h h')|exact wZ|refine Aa ?_ ?_)<;>try refine a0O ?_)
  all_goals exact AG KI (A6 _)
 ·have hgs:=hx.1
  clear hx
  have hC:=b2O g cap L hb
  simp (disch:=omega) only[Rz,AA,hgs, ↓Ed,Eu, ↓reduceIte,reduceCtorEq,Nat.reduceAdd,Nat.reduceEqDiff,Nat.reduceLT,Nat.reduceLeDiff,Int.reduceToNat,Int.reduceEq,Int.reduceLT,Int.reduceLE,Ap, ↓Eb, ↓Ec, ↓Ee]
  repeat' ((first|exact tt|refine c1 hC ?_|refine na fun b=>?_|refine nb fun b hb=>?_|refine iq ?_|(refine jq ?_ ?_<;>intro h h')|exact wZ|refine Aa ?_ ?_)<;>try refine a0O ?_)
  all_goals exact AG (by simp[Am,lk,hgs,BR,Br]) (A6 _)
theorem a8I(s p:List UInt8):CP Tryz.prog 162 [.str s,.str p] (.bool (Lib.hasPrefix s p)):=
 MQ (vs:=[.string ⟨s.toArray⟩,.string ⟨p.toArray⟩]) (v:=.bool (Lib.hasPrefix s p)) rfl (by simp) rfl fun W=>
  (Tryz.strings_HasPrefix ⟨s.toArray⟩ ⟨p.toArray⟩ W).mono fun e w' ⟨h1,h2⟩=>⟨h1,h2▸Below.refl _ _⟩
end
section
open Go.RowKit
theorem below_grow{W:World}{n:Nat}{os:Array Obj}:Below W.heap.size W (Sort.grow (W.drewN n) os):=
 ⟨rfl,rfl,rfl,by simp[Sort.grow,World.drewN],fun k hk=>by simp[Sort.grow,World.drewN,Array.getElem?_append,hk]⟩
theorem b0r{W:World}{U:Nat→Nat→Prop}(h:Glob W U):Lib.TabIs Tryz.prog W "internal/strconv.uint64pow10" .u64 Lib.pow10Tab:=by
 obtain ⟨⟨cs,ty,fr,e,rfl⟩,_⟩:=h (2,fun cs=>cs=(Lib.pow10Tab.map fun z=>Value.int .u64 z).toArray) (by simp[Kn])
 have hg:Tryz.prog.globalNamed "internal/strconv.uint64pow10" = some 2:=by kernel_rfl
 simp only[Lib.TabIs,World.var?,hg,CY,e]
theorem Zf(n:Int)(h : -9223372036854775808≤n∧n≤9223372036854775807):CP Tryz.prog 112 [.int .i64 n] (.str (Lib.itoa n)):=
 Ue (vs:=[.int .i64 n]) (v:=.string ⟨(Lib.itoa n).toArray⟩) rfl (by simp) rfl fun W U hG=>
  (Tryz.strconv_Itoa n h.1 h.2 W (b0r hG)).mono fun e w' ⟨h1,k,os,h2⟩=>⟨h1,h2▸below_grow⟩
end
section
theorem JO(s:List UInt8):(s=([]:List UInt8))=(s.length=0):=by simp[K4]
theorem GW{A B:Prop}(h:B)(e:A=B:=by (simp (disch:=omega) only[*, ↓Ed,Eu, ↓reduceIte,reduceCtorEq,Nat.reduceAdd,Nat.reduceEqDiff,Nat.reduceLT,Nat.reduceLeDiff,Int.reduceToNat,Int.reduceEq,Int.reduceLT,Int.reduceLE,Ap,JO];first|done|rfl)):A:=e▸h
theorem a8R(s:List UInt8)(hs:s.length≤4611686018427387904):CP Tryz.prog 168 [.str s] (.bool (Gm s)):=by
 refine a7g _ _ (by simp) ?_
 simp only[VY];refine GW ?_
 repeat' ((first|exact tt|refine na fun b=>?_|refine nb fun b hb=>?_|refine iq ?_|(refine jq ?_ ?_<;>intro h h')|exact wZ|refine Aa ?_ ?_)<;>try refine GW ?_)
 refine A2 (fun k:Nat=>⟨lk [(0,.str s),(7,.int .i64 s.length),(8,.int .i64 k)],lk []⟩) (fun k=>k≤s.length∧Ac (∀ j,j<k→Fx s j)) (fun k=>s.length - k) 0 ⟨by omega,fun j h=>by omega⟩ (An Mc) ?_
 intro k ⟨h1,h2⟩
 refine GW ?_
 repeat' ((first|exact tt|refine na fun b=>?_|refine nb fun b hb=>?_|refine iq ?_|(refine jq ?_ ?_<;>intro h h')|exact wZ|refine Aa ?_ ?_)<;>try refine GW ?_)
 all_goals simp only[Ac,Hn,JO]at *
 all_goals first
  | (refine AC (k+1) ⟨An Mc,⟨by omega,Yy h2 (by unfold Fx;omega)⟩,by omega⟩;done)
  | (refine Yw (k:=k) (by omega) (by unfold Fx;omega);done)
  | (exact (PD fun g=>g.1 (Dn (by omega))).symm)
  | (rw[Yx (by omega) h2,decide_eq_decide];omega)
  | skip
theorem KD(p:List UInt8)(c:Int)(hs:p.length≤4611686018427387904):CP Tryz.prog 111 [.agg [.str p,.int .i64 c]] (.bool (Ba p c)):=by
 refine a7f _ _ (by simp) ?_
 simp only[VX];refine GW ?_
 repeat' ((first|exact tt|refine Ab (a8R p hs) ?_|refine na fun b=>?_|refine nb fun b hb=>?_|refine iq ?_|(refine jq ?_ ?_<;>intro h h')|exact wZ|refine Aa ?_ ?_)<;>try refine GW ?_)
 all_goals (try simp only[Ac,Hn]at *)
 all_goals simp[Ba, *]
theorem a9W(s:List UInt8)(hs:s.length≤4611686018427387904):CP Tryz.prog 109 [.str s] (.bool (Gm s)):=by
 refine a6I _ _ (by simp) ?_
 simp only[VC];refine GW ?_
 repeat' ((first|exact tt|refine na fun b=>?_|refine nb fun b hb=>?_|refine iq ?_|(refine jq ?_ ?_<;>intro h h')|exact wZ|refine Aa ?_ ?_)<;>try refine GW ?_)
 case' refine_2.refine_2.refine_2.refine_2=>
  refine A2 (fun k:Nat=>⟨lk [(0,.str s),(3,.int .i64 k)],lk []⟩) (fun k=>k≤s.length∧Ac (∀ j,j<k→Fx s j)) (fun k=>s.length - k) 0 ⟨by omega,fun j h=>by omega⟩ (An Mc) ?_
  intro k ⟨h1,h2⟩
  have h97:k=0→97≤(s.getD k 0).toNat∧(s.getD k 0).toNat≤122:=fun e=>by subst e;simp only[Ac,Hn]at *;exact ⟨by omega,by omega⟩
  refine GW ?_
  repeat' ((first|exact tt|refine na fun b=>?_|refine nb fun b hb=>?_|refine iq ?_|(refine jq ?_ ?_<;>intro h h')|exact wZ|refine Aa ?_ ?_)<;>try refine GW ?_)
 all_goals simp only[Ac,Hn]at *
 all_goals first
  | (refine AC (k+1) ⟨An Mc,⟨by omega,Yy h2 (by unfold Fx;omega)⟩,by omega⟩;done)
  | (refine Yw (k:=k) (by omega) (by unfold Fx;omega);done)
  | (rw[Yx (k:=k) (by omega) h2];exact (AO ⟨by omega,by omega⟩).symm)
  | (exact (PD fun g=>by have:=g.2.1;have:=g.2.2 0 (by omega);unfold Fx at this;omega).symm)
  | (refine (PD fun g=>?_).symm;have h0:=List.length_pos_iff.2 g.1;omega)
  | skip
theorem KC(p:List UInt8)(c:Int)(hs:p.length≤4611686018427387904):CP Tryz.prog 50 [.agg [.str p,.int .i64 c]] (.bool (Ba p c)):=by
 refine a6F _ _ (by simp) ?_
 simp only[VB];refine GW ?_
 repeat' ((first|exact tt|refine Ab (a9W p hs) ?_|refine na fun b=>?_|refine nb fun b hb=>?_|refine iq ?_|(refine jq ?_ ?_<;>intro h h')|exact wZ|refine Aa ?_ ?_)<;>try refine GW ?_)
 all_goals (try simp only[Ac,Hn]at *)
 all_goals simp[Ba, *]
end
section
open Go
def Kq(c:UInt8):Prop:=48≤c.toNat∧c.toNat≤57
instance (c:UInt8):Decidable (Kq c):=by unfold Kq;exact inferInstance
def Oa(s:List UInt8):Nat:=s.foldl (fun v c=>10 * v+(c.toNat - 48)) 0
def YB(s:List UInt8):Prop:=(∀ c∈s,Kq c)∧¬ (1<s.length∧s.getD 0 0=48)
instance (s:List UInt8):Decidable (YB s):=by unfold YB;exact inferInstance
abbrev EI(n:Nat):List UInt8:=Lib.decDigits n
theorem dig_lo{n:Nat}(h:n<10):EI n=[UInt8.ofNat (48+n)]:=by rw[EI,Lib.decDigits,dif_pos h]
theorem dig_hi{n:Nat}(h:¬ n<10):EI n=EI (n / 10)++[UInt8.ofNat (48+n % 10)]:=by rw[EI,Lib.decDigits,dif_neg h]
theorem N7{n:Nat}(h:n<256):(UInt8.ofNat n).toNat=n:=by rw[UInt8.toNat_ofNat'];omega
theorem a3c:∀ (n:Nat), ∀ c∈EI n,Kq c:=by
 intro n
 induction n using Nat.strongRecOn with
 | _ n ih=>
  intro c hc
  by_cases h:n<10
  ·rw[dig_lo h]at hc
   simp only[G6]at hc
   subst hc
   unfold Kq
   rw[N7 (by omega)];omega
  ·rw[dig_hi h]at hc
   rcases Bv.1 hc with hc|hc
   ·exact ih (n / 10) (by omega) c hc
   ·simp only[G6]at hc
    subst hc
    unfold Kq
    rw[N7 (by omega)];omega
theorem b3M(s:List UInt8)(c:UInt8):Oa (s++[c])=10 * Oa s+(c.toNat - 48):=by simp[Oa,List.foldl_append]
theorem WV(n:Nat):Oa (EI n)=n:=by
 induction n using Nat.strongRecOn with
 | _ n ih=>
  by_cases h:n<10
  ·rw[dig_lo h]
   simp only[Oa,List.foldl_cons,List.foldl_nil]
   rw[N7 (by omega)];omega
  ·rw[dig_hi h,b3M,ih (n / 10) (by omega),N7 (by omega)];omega
theorem a3e(n:Nat):EI n≠[]:=by
 by_cases h:n<10
 ·rw[dig_lo h];simp
 ·rw[dig_hi h];simp
theorem OU:∀ (k n:Nat),n<10 ^ (k+1)→(EI n).length≤k+1
 | 0,n,h=>by rw[dig_lo (by omega)];simp
 | k+1,n,h=>by
  by_cases hn:n<10
  ·rw[dig_lo hn];simp
  ·rw[dig_hi hn]
   have:=OU k (n / 10) (by rw[F8]at h;omega)
   simp only[Ao,AJ,AY];omega
theorem a3d{a b:Nat}(h:EI a=EI b):a=b:=by rw[← WV a, ← WV b,h]
end
section
open Go.RowKit
theorem Pu:1000000≤maxLen:=by unfold maxLen;decide
abbrev Q3(l:List UInt8):List (List AV):=l.map Bh
theorem a0U{A B:Prop}(h:B)(e:A=B:=by (simp (disch:=omega) only[*, ↓Ed,Eu, ↓reduceIte,reduceCtorEq,Nat.reduceAdd,Nat.reduceEqDiff,Nat.reduceLT,Nat.reduceLeDiff,Int.reduceToNat,Int.reduceEq,Int.reduceLT,Int.reduceLE,Ap,JO,Ao,Nat.reduceMul];first|done|rfl)):A:=e▸h
theorem a9m(n:Int):CP Tryz.prog 113 [.int .i64 n] (.bool (decide (1≤n)&&decide (n≤3))):=by
 refine a7h _ _ (by simp) ?_
 simp only[VZ];refine a0U ?_
 repeat' ((first|exact tt|refine na fun b=>?_|refine nb fun b hb=>?_|refine iq ?_|(refine jq ?_ ?_<;>intro h h')|exact wZ|refine Aa ?_ ?_)<;>try refine a0U ?_)
 all_goals (try simp only[Ac,Hn]at *)
 all_goals simp_all
 all_goals omega
end
section
open Go
abbrev HR:List UInt8:=[99,104,97,110,110,101,108,45]
abbrev HA:List UInt8:=[112,111,114,116,115]
abbrev Hd:List UInt8:=[99,104,97,110,110,101,108,115]
abbrev Mm:List UInt8:=[115,101,113,117,101,110,99,101,115]
def Da(k:Int):List UInt8:=
 if k=1 then [99,111,109,109,105,116,109,101,110,116,115] else if k=2 then [114,101,99,101,105,112,116,115] else if k=3 then [97,99,107,115] else if k=4 then [110,101,120,116,83,101,113,117,101,110,99,101,83,101,110,100] else if k=5 then [110,101,120,116,83,101,113,117,101,110,99,101,82,101,99,118] else if k=6 then [110,101,120,116,83,101,113,117,101,110,99,101,65,99,107] else if k=7 then [99,104,97,110,110,101,108,69,110,100,115] else []
theorem Ua{k:Int}(h:k<1∨7<k):Da k=[]:=by
 unfold Da
 repeat rw[Ad (by omega)]
theorem a1D{k:Int}(h:1≤k∧k≤7):Da k≠[]:=by
 obtain rfl|rfl|rfl|rfl|rfl|rfl|rfl:k=1∨k=2∨k=3∨k=4∨k=5∨k=6∨k=7:=by omega
 all_goals simp[Da]
theorem b3U{k j:Int}(h:1≤k∧k≤7)(g:1≤j∧j≤7)(e:Da k=Da j):k=j:=by
 obtain rfl|rfl|rfl|rfl|rfl|rfl|rfl:k=1∨k=2∨k=3∨k=4∨k=5∨k=6∨k=7:=by omega
 all_goals
  obtain rfl|rfl|rfl|rfl|rfl|rfl|rfl:j=1∨j=2∨j=3∨j=4∨j=5∨j=6∨j=7:=by omega
  all_goals first|rfl|(simp[Da]at e)
theorem T9(k:Int):(Da k).length≤16:=by
 unfold Da
 repeat' split
 all_goals decide
theorem QE(k:Int):47 ∉ Da k:=by
 unfold Da
 repeat' split
 all_goals decide
theorem LK{n:Int}(h:0≤n):Lib.itoa n=EI n.toNat:=by unfold Lib.itoa;rw[Ad (by omega)]
def Iu(k:Int)(p:List UInt8)(c:Int):List UInt8:=Da k++[47]++HA++[47]++p++[47]++Hd++[47]++HR++Lib.itoa c
noncomputable def Ah (k:Int) (p:List UInt8) (c q:Int):List UInt8:=
 if Da k=[]∨¬ Ba p c=true then [] else if 1≤k∧k≤3 then if 1≤q∧q≤1099511627776 then Iu k p c++[47]++Mm++[47]++Lib.itoa q else [] else if q=0 then Iu k p c else []
theorem Px{p:List UInt8}{c:Int}(h:Ba p c=true):p.length≤12∧0≤c∧c≤999∧Hu p:=by
 simp only[Ba,AP,Bs,Yv]at h
 exact ⟨h.1.1.2.1,h.1.2,h.2,h.1.1⟩
theorem OW{c:Int}(h:0≤c∧c≤999):(Lib.itoa c).length≤3:=by rw[LK h.1];exact OU 2 _ (by omega)
theorem RN{c:Int}(h:0≤c∧c≤1099511627776):(Lib.itoa c).length≤13:=by rw[LK h.1];exact OU 12 _ (by omega)
end
section
open Go.RowKit
theorem Il{A B:Prop}(h:B)(e:A=B:=by (simp (disch:=omega) only[*, ↓Ed,Eu, ↓reduceIte,reduceCtorEq,Nat.reduceAdd,Nat.reduceEqDiff,Nat.reduceLT,Nat.reduceLeDiff,Int.reduceToNat,Int.reduceEq,Int.reduceLT,Int.reduceLE,Ap,JO,Ao,Nat.reduceMul];first|done|rfl)):A:=e▸h
theorem PW(k:Int):CP Tryz.prog 110 [.int .i64 k] (.str (Da k)):=by
 by_cases h:0≤k∧k≤7
 ·obtain rfl|rfl|rfl|rfl|rfl|rfl|rfl|rfl:k=0∨k=1∨k=2∨k=3∨k=4∨k=5∨k=6∨k=7:=by omega
  all_goals
   refine YR _ _ (by simp) ?_
   simp only[Ru];refine Il ?_
   repeat' ((first|exact tt|refine na fun b=>?_|refine nb fun b hb=>?_|refine iq ?_|(refine jq ?_ ?_<;>intro h h')|exact wZ|refine Aa ?_ ?_)<;>try refine Il ?_)
  all_goals first|rfl|(simp[Da];done)|skip
 ·refine YR _ _ (by simp) ?_
  simp only[Ru];refine Il ?_
  repeat' ((first|exact tt|refine na fun b=>?_|refine nb fun b hb=>?_|refine iq ?_|(refine jq ?_ ?_<;>intro h h')|exact wZ|refine Aa ?_ ?_)<;>try refine Il ?_)
  all_goals first|(simp[Ua (show k<1∨7<k by omega)];done)|(exfalso;simp only[Ac,Hn]at *;omega)
theorem PV(k:Int):CP Tryz.prog 49 [.int .i64 k] (.str (Da k)):=by
 refine a6X _ _ (by simp) ?_
 simp only[VP];refine Il ?_
 repeat' ((first|exact tt|refine na fun b=>?_|refine nb fun b hb=>?_|refine iq ?_|(refine jq ?_ ?_<;>intro h h')|exact wZ|refine Aa ?_ ?_)<;>try refine Il ?_)
 all_goals (try simp only[Ac,Hn]at *)
 all_goals (try subst_vars)
 all_goals first|rfl|(simp[Da, *];done)|skip
theorem D8(k:Int)(p:List UInt8)(c q:Int)(hp:p.length≤1000000):CP Tryz.prog 52 [.int .i64 k,.agg [.str p,.int .i64 c],.int .i64 q] (.str (Ah k p c q)):=by
 have hm:=Pu
 have hw:=T9 k
 have ht13:_→(Lib.itoa q).length≤13:=RN
 cases hM:Ba p c with
 | false=>
  refine YQ _ _ (by simp) ?_
  simp only[Rt];refine Il ?_
  repeat' ((first|exact tt|refine Ab (PW k) ?_|refine Ag (PW k) ?_|refine Ab (KD p c (by omega)) ?_|refine na fun b=>?_|refine nb fun b hb=>?_|refine iq ?_|(refine jq ?_ ?_<;>intro h h')|exact wZ|refine Aa ?_ ?_)<;>try refine Il ?_)
  all_goals simp[Ah,hM]
 | true=>
  obtain ⟨hp2,hc1,hc2,_⟩:=Px hM
  have h3:=OW ⟨hc1,hc2⟩
  refine YQ _ _ (by simp) ?_
  simp only[Rt];refine Il ?_
  repeat' ((first|exact tt|refine Ab (PW k) ?_|refine Ag (PW k) ?_|refine Ab (KD p c (by omega)) ?_|refine Ab (a9m k) ?_|refine Ag (Zf c (by omega)) ?_|refine Ab (Zf q (by simp only[Ac,Hn]at *;omega)) ?_|refine na fun b=>?_|refine nb fun b hb=>?_|refine iq ?_|(refine jq ?_ ?_<;>intro h h')|exact wZ|refine Aa ?_ ?_)<;>try refine Il ?_)
  all_goals (try simp only[Ac,Hn]at *)
  all_goals simp_all [Ah,Iu,HA,Hd,HR,Mm]
  all_goals omega
end
section
open Go.RowKit
theorem a1j(u:Nat):(u:Int).tmod 10=((u % 10:Nat):Int):=rfl
theorem a1i(u:Nat):(u:Int).tdiv 10=((u / 10:Nat):Int):=rfl
theorem T3(c:UInt8):IntKind.i64.wrap (c.toNat:Int)=c.toNat:=Ap (by have:=c.toNat_lt;omega)
theorem WZ(n:Nat):[[AV.int .u8 (IntKind.u8.wrap (48+((n % 10:Nat):Int)))]]=Q3 [UInt8.ofNat (48+n % 10)]:=by
 simp only[Q3,CX,List.map_nil,Bh,List.cons.injEq,AV.int.injEq,Bc,true_and]
 rw[N7 (by omega),IntKind.wrap_u8];omega
def Kk(u:Nat)(out:List UInt8):List UInt8:=if u=0 then out else EI u++out
theorem WU{u:Nat}(out:List UInt8)(h:0<u):Kk (u / 10) (UInt8.ofNat (48+u % 10)::out)=Kk u out:=by
 unfold Kk
 rw[Ad (show ¬ u=0 by omega)]
 by_cases hu:u<10
 ·rw[Af (by omega),dig_lo hu,show u % 10=u by omega];rfl
 ·rw[Ad (by omega),dig_hi hu];simp
theorem a3b(n:Nat):Kk (n / 10) [UInt8.ofNat (48+n % 10)]=EI n:=by
 by_cases h:n=0
 ·subst h;rw[dig_lo (by omega)];rfl
 ·rw[WU [] (by omega)];unfold Kk;rw[Ad h,Jb]
theorem Qp{A B:Prop}(h:B)(e:A=B:=by (simp (disch:=omega) only[*, ↓Ed,Eu, ↓reduceIte,reduceCtorEq,Nat.reduceAdd,Nat.reduceEqDiff,Nat.reduceLT,Nat.reduceLeDiff,Int.reduceToNat,Int.reduceEq,Int.reduceLT,Int.reduceLE,Ap,JO,Ao,Nat.reduceMul,a1j,a1i,Ax,T3];first|done|rfl)):A:=e▸h
theorem a8C(n:Nat)(hn:n≤72057594037927935):CP Tryz.prog 51 [.int .i64 n] (.str (EI n)):=by
 have hm:=Pu
 have hl:=OU 16 n (by omega)
 refine a6A _ _ (by simp) ?_
 simp only[Vw];refine Qp ?_
 repeat' ((first|exact tt|refine na fun b=>?_|refine nb fun b hb=>?_|refine iq ?_|(refine jq ?_ ?_<;>intro h h')|exact wZ|refine Aa ?_ ?_)<;>try refine Qp ?_)
 simp (disch:=omega) only[WZ, ↓Ed,Eu, ↓reduceIte,reduceCtorEq,Nat.reduceAdd,Nat.reduceEqDiff,Nat.reduceLT,Nat.reduceLeDiff,Int.reduceToNat,Int.reduceEq,Int.reduceLT,Int.reduceLE,Ap,JO,Ao,Nat.reduceMul,a1j,a1i,Ax,T3]
 refine A2 (fun x:List UInt8 × Nat=>⟨lk [(0,.int .i64 (x.2:Int)),(3,.sl (some 5) 1 (Q3 x.1))],lk []⟩) (fun x=>Ac (Kk x.2 x.1=EI n)∧x.1.length≤17∧x.2≤72057594037927935) (fun x=>x.2) ([UInt8.ofNat (48+n % 10)],n / 10) ⟨a3b n,by simp,by simp only;omega⟩ (An Mc) ?_
 rintro ⟨out,u⟩ ⟨h1,h2,h3⟩
 simp only at h1 h2 h3
 refine Qp ?_
 repeat' ((first|exact tt|refine na fun b=>?_|refine nb fun b hb=>?_|refine iq ?_|(refine jq ?_ ?_<;>intro h h')|exact wZ|refine Aa ?_ ?_)<;>try refine Qp ?_)
 all_goals (try simp only[Ac,Hn]at *)
 ·have hl2:out.length+1≤17:=by
   rw[← h1]at hl
   unfold Kk at hl
   rw[Ad (by omega)]at hl
   have:=List.length_pos_iff.2 (a3e u)
   simp only[Ao]at hl;omega
  rw[WZ, ← FI]
  refine AC (UInt8.ofNat (48+u % 10)::out,u / 10) ⟨An Mc,⟨(WU out (by omega)).trans h1,by simp only[AJ];omega,by simp only;omega⟩,by simp only;omega⟩
 ·obtain rfl:u=0:=by omega
  exact h1
end
section
open Go.RowKit
theorem CS(c:UInt8):((c.toNat:Int)=47)=(c=47):=propext ⟨fun h=>UInt8.toNat_inj.1 (by have:(47:UInt8).toNat=47:=rfl;omega),fun h=>by rw[h];rfl⟩
theorem Ze(c:Int)(h:0≤c∧c≤72057594037927935):CP Tryz.prog 51 [.int .i64 c] (.str (Lib.itoa c)):=by
 rw[LK h.1]
 have e:c=(c.toNat:Int):=by omega
 have:=a8C c.toNat (by omega)
 rwa [← e]at this
theorem Qq{A B:Prop}(h:B)(e:A=B:=by (simp (disch:=omega) only[*, ↓Ed,Eu, ↓reduceIte,reduceCtorEq,Nat.reduceAdd,Nat.reduceEqDiff,Nat.reduceLT,Nat.reduceLeDiff,Int.reduceToNat,Int.reduceEq,Int.reduceLT,Int.reduceLE,Ap,JO,Ao,Nat.reduceMul,Ax,T3,CS];first|done|rfl)):A:=e▸h
theorem JD(k:Int)(p:List UInt8)(c q:Int)(hp:p.length≤1000000):CP Tryz.prog 16 [.int .i64 k,.agg [.str p,.int .i64 c],.int .i64 q] (.str (Ah k p c q)):=by
 have hm:=Pu
 have hw:=T9 k
 have ht13:_→(Lib.itoa q).length≤13:=RN
 cases hM:Ba p c with
 | false=>
  refine YL _ _ (by simp) ?_
  simp only[Ro];refine Qq ?_
  repeat' ((first|exact tt|refine Ab (PV k) ?_|refine Ag (PV k) ?_|refine Ab (KC p c (by omega)) ?_|refine na fun b=>?_|refine nb fun b hb=>?_|refine iq ?_|(refine jq ?_ ?_<;>intro h h')|exact wZ|refine Aa ?_ ?_)<;>try refine Qq ?_)
  all_goals simp[Ah,hM]
 | true=>
  obtain ⟨hp2,hc1,hc2,_⟩:=Px hM
  have h3:=OW ⟨hc1,hc2⟩
  have hk:Da k≠[]→1≤k:=fun h=>by by_cases g:1≤k;exact g;exact absurd (Ua (by omega)) h
  refine YL _ _ (by simp) ?_
  simp only[Ro];refine Qq ?_
  repeat' ((first|exact tt|refine Ab (PV k) ?_|refine Ag (PV k) ?_|refine Ab (KC p c (by omega)) ?_|refine Ag (Ze c (by omega)) ?_|refine Ab (Ze q (by simp only[Ac,Hn]at *;omega)) ?_|refine na fun b=>?_|refine nb fun b hb=>?_|refine iq ?_|(refine jq ?_ ?_<;>intro h h')|exact wZ|refine Aa ?_ ?_)<;>try refine Qq ?_)
  all_goals (try simp only[Ac,Hn]at *)
  all_goals simp_all [Ah,Iu,HA,Hd,HR,Mm]
  all_goals omega
end
section
open Go.RowKit
set_option maxRecDepth 100000
end
section
open Go
theorem Kj:∀ {a b x y:List UInt8},47 ∉ a→47 ∉ b→a++47::x=b++47::y→a=b∧x=y
 | [],[],_,_,_,_,h=>⟨rfl,by simpa using h⟩
 | [],d::b,_,_,_,hb,h=>by simp at h;exact absurd h.1 (fun e=>hb (by simp[e]))
 | c::a,[],_,_,ha,_,h=>by simp at h;exact absurd h.1 (fun e=>ha (by simp[e]))
 | c::a,d::b,x,y,ha,hb,h=>by
  simp only[Bi,List.cons.injEq]at h
  obtain ⟨rfl,h⟩:=h
  obtain ⟨e1,e2⟩:=Kj (fun g=>ha (by simp[g])) (fun g=>hb (by simp[g])) h
  exact ⟨by rw[e1],e2⟩
theorem PE{p:List UInt8}(h:Hu p):47 ∉ p:=by
 intro hm
 obtain ⟨i,hi,e⟩:=Do hm
 have:=h.2.2 i hi
 unfold Fx at this
 have e2:p.getD i 0=47:=by rw[List.getD,Aw hi];exact e
 rw[e2]at this
 have h47:(47:UInt8).toNat=47:=rfl
 omega
theorem a3f(n:Nat):47 ∉ EI n:=fun h=>by
 have:=a3c n 47 h
 unfold Kq at this
 have h47:(47:UInt8).toNat=47:=rfl
 omega
theorem XZ{n:Int}(h:0≤n):47 ∉ Lib.itoa n:=by rw[LK h];exact a3f _
theorem Sl{n m:Int}(h:0≤n)(g:0≤m)(e:Lib.itoa n=Lib.itoa m):n=m:=by
 rw[LK h,LK g]at e
 have:=a3d e
 omega
theorem OP{n:Int}(h:0≤n):47 ∉ HR++Lib.itoa n:=by
 intro hm
 rcases Bv.1 hm with hm|hm
 ·revert hm;decide
 ·exact XZ h hm
inductive OfQ:List UInt8→Int→List UInt8→Int→Int→Prop
 | num {k p c q} (hk:1≤k∧k≤3) (hp:Hu p) (hc:0≤c∧c≤999) (hq:1≤q∧q≤1099511627776):
   OfQ (Da k++47::(HA++47::(p++47::(Hd++47::((HR++Lib.itoa c)++47::(Mm++47::Lib.itoa q)))))) k p c q
 | base {k p c} (hk:4≤k∧k≤7) (hp:Hu p) (hc:0≤c∧c≤999):OfQ (Da k++47::(HA++47::(p++47::(Hd++47::(HR++Lib.itoa c))))) k p c 0
theorem ofP_q{k:Int}{p:List UInt8}{c q:Int}:Ah k p c q=[]∨OfQ (Ah k p c q) k p c q:=by
 unfold Ah
 split
 ·exact .inl rfl
 rename_i h
 simp only[not_or,Decidable.not_not]at h
 obtain ⟨hw,hm⟩:=h
 have hm:=Px hm
 have hk:1≤k∧k≤7:=by
  by_cases g:1≤k∧k≤7
  ·exact g
  ·exact absurd (Ua (by omega)) hw
 split
 ·split
  ·right
   have:=OfQ.num (k:=k) (p:=p) (c:=c) (q:=q) (by omega) hm.2.2.2 ⟨hm.2.1,hm.2.2.1⟩ (by assumption)
   simpa[Iu]using this
  ·exact .inl rfl
 ·split
  ·subst_vars
   right
   have:=OfQ.base (k:=k) (p:=p) (c:=c) (by omega) hm.2.2.2 ⟨hm.2.1,hm.2.2.1⟩
   simpa[Iu]using this
  ·exact .inl rfl
theorem OfQ.ne{s k p c q}(h:OfQ s k p c q):s≠[]:=by cases h<;>simp
theorem OfQ.inj{s k p c q k' p' c' q'}(h:OfQ s k p c q)(g:OfQ s k' p' c' q'):k=k'∧p=p'∧c=c'∧q=q':=by
 have main:∀ {x y:List UInt8} {k k':Int} {p p':List UInt8},(1≤k∧k≤7)→(1≤k'∧k'≤7)→Hu p→Hu p'→
   Da k++47::(HA++47::(p++47::(Hd++47::x)))=Da k'++47::(HA++47::(p'++47::(Hd++47::y)))→k=k'∧p=p'∧x=y:=by
  intro x y k k' p p' h1 h2 h3 h4 e
  obtain ⟨e1,e⟩:=Kj (QE k) (QE k') e
  obtain ⟨_,e⟩:=Kj (by decide) (by decide) e
  obtain ⟨e2,e⟩:=Kj (PE h3) (PE h4) e
  obtain ⟨_,e⟩:=Kj (by decide) (by decide) e
  exact ⟨b3U h1 h2 e1,e2,e⟩
 generalize hs:s=t at h g
 cases h with
 | num hk hp hc hq=>
  generalize hs:Da k++47::(HA++47::(p++47::(Hd++47::((HR++Lib.itoa c)++47::(Mm++47::Lib.itoa q)))))=t at g
  cases g with
  | num hk' hp' hc' hq'=>
   obtain ⟨e1,e2,e⟩:=main (by omega) (by omega) hp hp' hs
   obtain ⟨e3,e⟩:=Kj (OP hc.1) (OP hc'.1) e
   obtain ⟨_,e⟩:=Kj (by decide) (by decide) e
   exact ⟨e1,e2,Sl hc.1 hc'.1 (List.append_cancel_left e3),Sl (by omega) (by omega) e⟩
  | base hk' hp' hc'=>
   obtain ⟨e1,e2,e⟩:=main (by omega) (by omega) hp hp' hs
   omega
 | base hk hp hc=>
  generalize hs:Da k++47::(HA++47::(p++47::(Hd++47::(HR++Lib.itoa c))))=t at g
  cases g with
  | num hk' hp' hc' hq'=>
   obtain ⟨e1,e2,e⟩:=main (by omega) (by omega) hp hp' hs
   omega
  | base hk' hp' hc'=>
   obtain ⟨e1,e2,e⟩:=main (by omega) (by omega) hp hp' hs
   exact ⟨e1,e2,Sl hc.1 hc'.1 (List.append_cancel_left e),rfl⟩
def sp:List UInt8→List (List UInt8)
 | []=>[[]]
 | c::t=>if c=47 then []::sp t else match sp t with | []=>[[c]]|x::xs=>(c::x)::xs
theorem TM:∀ {a:List UInt8},47 ∉ a→sp a=[a]
 | [],_=>rfl
 | c::t,h=>by
  simp only[AZ,not_or]at h
  rw[sp,Ad (fun e=>h.1 e.symm),TM h.2]
theorem HF:∀ {a x:List UInt8},47 ∉ a→sp (a++47::x)=a::sp x
 | [],x,_=>by simp[sp]
 | c::t,x,h=>by
  simp only[AZ,not_or]at h
  rw[Bi,sp,Ad (fun e=>h.1 e.symm),HF h.2]
theorem OfQ.sp{s k p c q}(h:OfQ s k p c q):sp s=if k≤3 then [Da k,HA,p,Hd,HR++Lib.itoa c,Mm,Lib.itoa q] else [Da k,HA,p,Hd,HR++Lib.itoa c]:=by
 cases h with
 | num hk hp hc hq=>
  rw[Af hk.2,HF (QE k),HF (by decide),HF (PE hp),HF (by decide),HF (OP hc.1),HF (by decide),TM (XZ (by omega))]
 | base hk hp hc=>
  rw[Ad (by omega),HF (QE k),HF (by decide),HF (PE hp),HF (by decide),TM (OP hc.1)]
end
section
open Go.RowKit
set_option maxRecDepth 100000
end
section
open Go
set_option maxRecDepth 100000
end
section
open Go.RowKit
theorem gd{l:List (List UInt8)}{i:Nat}(h:(i:Int)<l.length):(l.map fun p=>[AV.str p]).getD i []=[AV.str (l.getD i [])]:=by
 have h':i<l.length:=by omega
 simp[List.getD,Aw h']
end
section
open Go.RowKit
set_option maxRecDepth 100000
end
section
open Go.RowKit
theorem q_len{s k p c q}(h:OfQ s k p c q):s.length≤160:=by
 have hw:=T9 k
 cases h with
 | num hk hp hc hq=>
  have h3:=OW hc
  have h13:=RN (c:=q) (by omega)
  have:=hp.2.1
  simp only[Ao,AJ,AY];omega
 | base hk hp hc=>
  have h3:=OW hc
  have:=hp.2.1
  simp only[Ao,AJ,AY];omega
end
section
def Ea(n:Nat):List UInt8:=if n<128 then [UInt8.ofNat n] else UInt8.ofNat (n % 128+128)::Ea (n / 128)
termination_by n
decreasing_by omega
def pn(v:Int):List UInt8:=if 0≤v∧v≤72057594037927935 then Ea v.toNat else []
theorem Mb{n:Nat}(h:n<128):Ea n=[UInt8.ofNat n]:=by rw[Ea,Af h]
theorem NP{n:Nat}(h:128≤n):Ea n=UInt8.ofNat (n % 128+128)::Ea (n / 128):=by rw[Ea,Ad (by omega)]
theorem ZP:∀ (k n:Nat),n<128 ^ (k+1)→(Ea n).length≤k+1
 | 0,n,h=>by rw[Mb (by omega)];simp
 | k+1,n,h=>by
  by_cases hn:n<128
  ·rw[Mb hn];simp
  ·rw[NP (by omega)]
   have:=ZP k (n / 128) (by rw[F8]at h;omega)
   simp only[AJ];omega
theorem C5(v:Int):(pn v).length≤8:=by
 unfold pn
 split
 ·exact ZP 7 _ (by simp;omega)
 ·simp
theorem b0w(n:Nat):Ea n≠[]:=by
 by_cases hn:n<128
 ·rw[Mb hn];simp
 ·rw[NP (by omega)];simp
theorem Tw(v:Int):pn v=[]↔¬ (0≤v∧v≤72057594037927935):=by
 unfold pn
 split
 ·simp[b0w, *]
 ·simp[*]
def BS:Nat→List UInt8→Bool→Int × Nat × Int
 | 0,_,_=>(0,0,4)
 | _+1,[],_=>(0,0,2)
 | f+1,c::r,fst=>
  if c.toNat<128 then (if c.toNat=0∧fst=false then (0,0,3) else ((c.toNat:Int),1,0))
  else match BS f r false with
   | (v,n,e)=>if e=0 then (((c.toNat % 128:Nat):Int)+128 * v,n+1,0) else (0,0,e)
def nx(s:List UInt8)(at':Int):Int × Int × Int:=
 if 0≤at'∧at'≤s.length then
  match BS 8 (s.drop at'.toNat) true with
  | (v,n,e)=>if e=0 then (v,at'+n,0) else (0,0,e)
 else (0,0,1)
def Gz(u k:Nat):Int × Nat × Int→Int × Nat × Int
 | (v,n,e)=>if e=0 then ((u:Int)+128 ^ k * v,n+k,0) else (0,0,e)
theorem a2Q(u k f:Nat)(c:UInt8)(r:List UInt8)(b:Bool)(h:128≤c.toNat):
  Gz u k (BS (f+1) (c::r) b)=Gz (u+c.toNat % 128 * 128 ^ k) (k+1) (BS f r false):=by
 rw[BS,Ad (by omega)]
 obtain ⟨v,n,e⟩:=BS f r false
 by_cases he:e=0
 ·simp only[Gz,he,Bo,G9,Bc]
  refine ⟨?_,by omega⟩
  rw[Int.mul_add,Int.pow_succ,Int.mul_assoc, ← Int.add_assoc,Int.natCast_add,Int.natCast_mul,Int.natCast_pow,Int.mul_comm (128 ^ k:Int)]
  rfl
 ·simp[Gz,he]
theorem XC:∀ (f:Nat) (r:List UInt8) (b:Bool),0≤(BS f r b).1∧(BS f r b).1<128 ^ f∧(BS f r b).2.1≤r.length
 | 0,_,_=>by simp[BS]
 | f+1,[],_=>by simp[BS];exact Int.pow_pos (by omega)
 | f+1,c::r,b=>by
  have hp:(0:Int)<128 ^ f:=Int.pow_pos (by omega)
  have hp':(128:Int) ^ (f+1)=128 ^ f * 128:=Int.pow_succ _ _
  rw[BS]
  split
  ·split
   ·refine ⟨by simp,by simp;omega,by simp⟩
   ·refine ⟨by simp, ?_,by simp⟩
    simp only
    omega
  ·have ih:=XC f r false
   generalize BS f r false=g at ih ⊢
   obtain ⟨v,n,e⟩:=g
   simp only at ih ⊢
   split
   ·refine ⟨by omega,by omega,by simp;omega⟩
   ·refine ⟨by simp,by simp;omega,by simp⟩
theorem a3P:∀ (f:Nat) (r:List UInt8) (b:Bool),(BS f r b).2.2≠0→(BS f r b).1=0∧(BS f r b).2.1=0
 | 0,_,_,_=>by simp[BS]
 | f+1,[],_,_=>by simp[BS]
 | f+1,c::r,b,h=>by
  rw[BS]at h ⊢
  split at h
  ·rename_i hc
   rw[Af hc]
   split at h
   ·rename_i hd;rw[Af hd];simp
   ·simp at h
  ·rename_i hc
   rw[Ad hc]
   generalize BS f r false=g at h ⊢
   obtain ⟨v,n,e⟩:=g
   simp only at h ⊢
   split at h
   ·simp at h
   ·rename_i he;rw[Ad he];simp
theorem a2R(g:Int × Nat × Int)(h:g.2.2≠0→g.1=0∧g.2.1=0):Gz 0 0 g=g:=by
 obtain ⟨v,n,e⟩:=g
 by_cases he:e=0
 ·simp[Gz,he]
 ·have:=h he
  simp only at this
  simp[Gz,he,this]
def LC(i:Nat):Int × Nat × Int→Int × Int × Int
 | (v,n,e)=>if e=0 then (v,(i:Int)+n,0) else (0,0,e)
theorem YD{s:List UInt8}{i:Nat}(h:i≤s.length):nx s i=LC i (BS 8 (s.drop i) true):=by
 simp only[nx,Af (show (0≤(i:Int)∧(i:Int)≤s.length) by omega),Dh]
 rfl
theorem YF{s:List UInt8}{i:Int}(h:¬ (0≤i∧i≤s.length)):nx s i=(0,0,1):=by simp only[nx,Ad h]
theorem N6(i k:Nat):((i:Int)+(k:Int)).toNat=i+k:=by omega
theorem RY{s:List UInt8}{i:Nat}(h:i<s.length):s.drop i=s.getD i 0::s.drop (i+1):=by
 rw[Jc h];simp[h]
theorem Pg{s:List UInt8}{i k u:Nat}(h1:k<8)(h2:BS 8 (s.drop i) true=Gz u k (BS (8 - k) (s.drop (i+k)) (decide (k=0)))):
  (s.length≤i+k→BS 8 (s.drop i) true=(0,0,2))∧
  (i+k<s.length→128≤(s.getD (i+k) 0).toNat→BS 8 (s.drop i) true=Gz (u+(s.getD (i+k) 0).toNat % 128 * 128 ^ k) (k+1) (BS (8 - (k+1)) (s.drop (i+(k+1))) (decide (k+1=0))))∧
  (i+k<s.length→(s.getD (i+k) 0).toNat=0→0<k→BS 8 (s.drop i) true=(0,0,3))∧
  (i+k<s.length→(s.getD (i+k) 0).toNat<128→¬ ((s.getD (i+k) 0).toNat=0∧0<k)→BS 8 (s.drop i) true=(((u+(s.getD (i+k) 0).toNat % 128 * 128 ^ k:Nat):Int),k+1,0)):=by
 have e:8 - k=(8 - (k+1))+1:=by omega
 rw[h2]
 refine ⟨fun h=>?_,fun h g=>?_,fun h g g'=>?_,fun h g g'=>?_⟩
 ·rw[Jd h,e,BS];rfl
 ·rw[e,RY h,a2Q _ _ _ _ _ _ g]
  rfl
 ·rw[e,RY h,BS,Af (by omega),Af ⟨g,by simp;omega⟩];rfl
 ·rw[e,RY h,BS,Af (by omega),Ad (by rintro ⟨a,b⟩;simp at b;exact g' ⟨a,by omega⟩)]
  simp only[Gz,Bo]
  rw[Nat.mod_eq_of_lt g,Int.natCast_add,Int.natCast_mul,Int.natCast_pow,Int.mul_comm,Nat.add_comm 1 k]
  rfl
theorem a8u(n:Nat):IntKind.u8.wrap ((BitVec.ofInt IntKind.u8.bits (IntKind.u8.wrap (n:Int)) ||| BitVec.ofInt IntKind.u8.bits 128).toNat:Int)=((n % 128+128:Nat):Int):=by
 have h:∀ x:BitVec 8,(x ||| 128#8).toNat=x.toNat % 128+128:=by decide
 have e:(BitVec.ofInt 8 ((n:Int) % 256)).toNat=n % 256:=by
  rw[BitVec.toNat_ofInt];omega
 have:=h (BitVec.ofInt 8 ((n:Int) % 256))
 rw[IntKind.wrap_u8,IntKind.wrap_u8]
 show ((BitVec.ofInt 8 ((n:Int) % 256) ||| 128#8).toNat:Int) % 256=_
 rw[this,e]
 omega
theorem a2b(c:UInt8):IntKind.u8.wrap ((BitVec.ofInt IntKind.u8.bits (c.toNat:Int) &&& ~~~BitVec.ofInt IntKind.u8.bits 128).toNat:Int)=((c.toNat % 128:Nat):Int):=by
 have h:∀ x:BitVec 8,(x &&& ~~~128#8).toNat=x.toNat % 128:=by decide
 have hc:c.toNat<256:=c.toNat_lt
 have e:(BitVec.ofInt 8 (c.toNat:Int)).toNat=c.toNat:=by
  rw[BitVec.toNat_ofInt];omega
 have:=h (BitVec.ofInt 8 (c.toNat:Int))
 rw[IntKind.wrap_u8]
 show ((BitVec.ofInt 8 (c.toNat:Int) &&& ~~~128#8).toNat:Int) % 256=_
 rw[this,e]
 omega
theorem b2h(n:Nat):(n:Int).fdiv (2 ^ (min 7 IntKind.u64.bits))=((n / 128:Nat):Int):=by
 have:(2:Int) ^ (min 7 IntKind.u64.bits)=128:=by decide
 rw[this,Int.fdiv_eq_ediv_of_nonneg _ (by omega)]
 omega
theorem a8v(u c m:Nat)(hu:u<2 ^ m)(hs:u+c * 2 ^ m<2 ^ 64):IntKind.u64.wrap ((BitVec.ofInt IntKind.u64.bits (u:Int) ||| BitVec.ofInt IntKind.u64.bits ((c * 2 ^ m:Nat):Int)).toNat:Int)=((u+c * 2 ^ m:Nat):Int):=by
 have h1:(BitVec.ofInt 64 (u:Int)).toNat=u:=by rw[BitVec.toNat_ofInt];omega
 have h2:(BitVec.ofInt 64 ((c * 2 ^ m:Nat):Int)).toNat=c * 2 ^ m:=by rw[BitVec.toNat_ofInt];omega
 rw[IntKind.wrap_u64]
 show ((BitVec.ofInt 64 (u:Int) ||| BitVec.ofInt 64 ((c * 2 ^ m:Nat):Int)).toNat:Int) % 18446744073709551616=_
 rw[BitVec.toNat_or,h1,h2]
 have:u ||| c * 2 ^ m=u+c * 2 ^ m:=by
  have:=Nat.shiftLeft_add_eq_or_of_lt hu c
  rw[Nat.shiftLeft_eq]at this
  rw[Nat.or_comm, ← this,Nat.add_comm]
 rw[this]
 omega
theorem Tx(k:Nat):2 ^ (7 * k)=128 ^ k:=by rw[Nat.pow_mul]
theorem a0q(u k:Nat)(c:UInt8)(hu:u<128 ^ k)(hk:k≤7):
  IntKind.u64.wrap ((BitVec.ofInt IntKind.u64.bits (u:Int) ||| BitVec.ofInt IntKind.u64.bits (IntKind.u64.wrap (IntKind.u64.wrap (IntKind.u8.wrap ((BitVec.ofInt IntKind.u8.bits (c.toNat:Int) &&& ~~~BitVec.ofInt IntKind.u8.bits 128).toNat:Int)) * 2 ^ min (7 * (k:Int)).toNat IntKind.u64.bits))).toNat:Int)=((u+c.toNat % 128 * 128 ^ k:Nat):Int):=by
 rw[a2b]
 have hd:c.toNat % 128<128:=by omega
 generalize c.toNat % 128=d at hd
 have e:min (7 * (k:Int)).toNat IntKind.u64.bits=7 * k:=by
  have:IntKind.u64.bits=64:=rfl
  omega
 have h2:u+d * 2 ^ (7 * k)<2 ^ 64:=by
  have h3:2 ^ (7 * k)≤2 ^ 49:=Nat.pow_le_pow_right (by omega) (by omega)
  have:=Nat.mul_le_mul (show d≤127 by omega) h3
  rw[← Tx]at hu
  omega
 have h3:((d:Int) * 2 ^ (7 * k))=((d * 2 ^ (7 * k):Nat):Int):=by rw[Int.natCast_mul,Int.natCast_pow];rfl
 have h4:IntKind.u64.wrap (d:Int)=d:=by rw[IntKind.wrap_u64];omega
 have h5:IntKind.u64.wrap ((d * 2 ^ (7 * k):Nat):Int)=((d * 2 ^ (7 * k):Nat):Int):=by rw[IntKind.wrap_u64];omega
 rw[e,h4,h3,h5, ← Tx]
 exact a8v u d (7 * k) (by rw[Tx];exact hu) h2
end
section
theorem Pv:1000000≤maxLen:=by unfold maxLen;decide
abbrev Jj(l:List UInt8):List (List AV):=l.map Bh
theorem HG{A B:Prop}(h:B)(e:A=B:=by (simp (disch:=omega) only[*, ↓Ed,Eu, ↓reduceIte,reduceCtorEq,Nat.reduceAdd,Nat.reduceEqDiff,Nat.reduceLT,Nat.reduceLeDiff,Int.reduceToNat,Int.reduceEq,Int.reduceLT,Int.reduceLE,Ap,a8u,b2h,Ax,Ao];first|done|rfl)):A:=e▸h
theorem Zz(v:Int):CP Tryz.prog 173 [.int .i64 v] (.bool (decide (0≤v∧v≤72057594037927935))):=by
 refine a5Y _ _ (by simp) ?_
 simp only[Vf];refine HG ?_
 repeat' ((first|exact tt|refine na fun b=>?_|refine nb fun b hb=>?_|refine iq ?_|(refine jq ?_ ?_<;>intro h h')|exact wZ|refine Aa ?_ ?_)<;>try refine HG ?_)
 all_goals (try simp only[Ac,Hn]at *)
 all_goals simp[*]
 all_goals omega
theorem W5(u:Nat):[[AV.int .u8 ((u % 128+128:Nat):Int)]]=Jj [UInt8.ofNat (u % 128+128)]:=by
 have:(UInt8.ofNat (u % 128+128)).toNat=u % 128+128:=by rw[UInt8.toNat_ofNat'];omega
 show [[AV.int .u8 _]]=[[AV.int .u8 (((UInt8.ofNat (u % 128+128)).toNat:Nat):Int)]]
 rw[this]
theorem W6(u:Nat)(h:u<128):[[AV.int .u8 (IntKind.u8.wrap (u:Int))]]=Jj [UInt8.ofNat u]:=by
 have:(UInt8.ofNat u).toNat=u:=by rw[UInt8.toNat_ofNat'];omega
 simp only[CX,List.map_nil,Bh,this,IntKind.wrap_u8,List.cons.injEq,AV.int.injEq,Bc,true_and]
 omega
theorem ND(v:Int):CP Tryz.prog 122 [.int .i64 v] (.str (pn v)):=by
 have hm:=Pv
 refine a5X _ _ (by simp) ?_
 simp only[Ve];refine HG ?_
 repeat' ((first|exact tt|refine Ab (Zz _) ?_|refine na fun b=>?_|refine nb fun b hb=>?_|refine iq ?_|(refine jq ?_ ?_<;>intro h h')|exact wZ|refine Aa ?_ ?_)<;>try refine HG ?_)
 ·have hv:=of_decide_eq_true h
  have hp:pn v=Ea v.toNat:=by simp only[pn,Af hv]
  have h8:=C5 v
  rw[hp]at h8 ⊢
  refine A2 (fun x:List UInt8 × Nat=>⟨lk [(3,.sl (some 5) 1 (Jj x.1)),(4,.int .u64 (x.2:Int))],lk []⟩) (fun x=>x.1++Ea x.2=Ea v.toNat∧x.1.length≤8) (fun x=>x.2) ([],v.toNat) (by simp) (An (by simp[Am,lk,IntKind.wrap_u64];omega)) ?_
  rintro ⟨out,u⟩ ⟨h1,h2⟩
  simp only at h1 h2
  refine HG ?_
  repeat' ((first|exact tt|refine na fun b=>?_|refine nb fun b hb=>?_|refine iq ?_|(refine jq ?_ ?_<;>intro h h')|exact wZ|refine Aa ?_ ?_)<;>try refine HG ?_)
  ·rw[W5, ← FI]
   rw[NP (by omega),List.append_cons]at h1
   refine AC (out++[UInt8.ofNat (u % 128+128)],u / 128) ⟨An Mc,⟨h1, ?_⟩,by simp only;omega⟩
   rw[← h1]at h8
   simp only[Ao]at h8 ⊢
   omega
  ·rw[Mb (by omega)]at h1
   rw[W6 u (by omega), ← FI,h1,BytesW_map]
   refine HG ?_;try exact tt
 ·have hv:=of_decide_eq_false h
  simp only[pn,Ad hv]
theorem Zl(s:List UInt8)(at':Int)(hs:s.length≤4611686018427387904):
  CP Tryz.prog 119 [.str s,.int .i64 at'] (.tup [.int .i64 (nx s at').1,.int .i64 (nx s at').2.1,.int .i64 (nx s at').2.2]):=by
 refine a5W _ _ (by simp) ?_
 simp only[Vd];refine HG ?_
 repeat' ((first|exact tt|refine na fun b=>?_|refine nb fun b hb=>?_|refine iq ?_|(refine jq ?_ ?_<;>intro h h')|exact wZ|refine Aa ?_ ?_)<;>try refine HG ?_)
 ·simp[YF (show ¬ (0≤at'∧at'≤s.length) by omega)]
 ·simp[YF (show ¬ (0≤at'∧at'≤s.length) by omega)]
 obtain ⟨i,rfl⟩:∃ i:Nat,at'=i:=⟨at'.toNat,by omega⟩
 have hi:i≤s.length:=by omega
 rw[YD hi]
 refine A2 (fun x:Nat × Nat=>⟨lk [(0,.str s),(1,.int .i64 i),(7,.int .u64 (x.1:Int)),(18,.int .i64 x.2)],lk []⟩)
  (fun x=>x.2≤8∧x.1<128 ^ x.2∧Ac (BS 8 (s.drop i) true=Gz x.1 x.2 (BS (8 - x.2) (s.drop (i+x.2)) (decide (x.2=0))))) (fun x=>8 - x.2) (0,0)
  ⟨by omega,by simp,(a2R _ (a3P _ _ _)).symm⟩ (An (by simp[Am,lk,IntKind.wrap_u64])) ?_
 rintro ⟨u,k⟩ ⟨h1,h2,h3⟩
 simp only at h1 h2 h3
 refine HG ?_
 repeat' ((first|exact tt|refine na fun b=>?_|refine nb fun b hb=>?_|refine iq ?_|(refine jq ?_ ?_<;>intro h h')|exact wZ|refine Aa ?_ ?_)<;>try refine HG ?_)
 ·rw[(Pg (by omega) h3).1 (by omega)];simp[LC]
 ·(try rw[N6]at h);rw[N6]at h'
  have hc:=(s.getD (i+k) 0).toNat_lt
  refine AC (u+(s.getD (i+k) 0).toNat % 128 * 128 ^ k,k+1) ⟨An ?_,⟨by simp only;omega, ?_,(Pg (by omega) h3).2.1 (by omega) (by omega)⟩,by simp only;omega⟩
  ·simp only[Am,lk_cons,N6,a0q u k _ h2 (by omega)]
   simp
  ·simp only[F8]
   have:(s.getD (i+k) 0).toNat % 128 * 128 ^ k≤127 * 128 ^ k:=Dq _ (by omega)
   omega
 ·simp only[Ac,Hn,N6]at *
  rw[(Pg (by omega) h3).2.2.1 (by omega) (by omega) (by omega)];simp[LC]
 case' refine_2.refine_2.refine_2=>
  rw[h3,show 8 - k=0 by omega];simp[Gz,BS,LC]
 all_goals
  rw[a0q u k _ h2 (by omega)]
  simp only[Ac,Hn,N6]at *
  rw[(Pg (by omega) h3).2.2.2 (by omega) (by omega) (by omega)]
  have hp:128 ^ k≤128 ^ 7:=Nat.pow_le_pow_right (by omega) (by omega)
  have hq:(s.getD (i+k) 0).toNat % 128 * 128 ^ k≤127 * 128 ^ k:=Dq _ (by omega)
  generalize (s.getD (i+k) 0).toNat % 128 * 128 ^ k=z at *
  rw[Ap (by omega)]
  simp[LC]
  try omega
end
section
theorem b3N(c:UInt8):IntKind.i64.wrap (c.toNat:Int)=c.toNat:=Ap (by have:=c.toNat_lt;omega)
theorem b3t(u:Nat):(u:Int).tmod 128=((u % 128:Nat):Int):=rfl
theorem b3r(u:Nat):(u:Int).tdiv 128=((u / 128:Nat):Int):=rfl
theorem a3p(u:Nat):[[AV.int .u8 (IntKind.u8.wrap (((u % 128:Nat):Int)+128))]]=Jj [UInt8.ofNat (u % 128+128)]:=by
 rw[← W5,IntKind.wrap_u8]
 simp only[List.cons.injEq,AV.int.injEq,Bc,true_and]
 omega
theorem N2{A B:Prop}(h:B)(e:A=B:=by (simp (disch:=omega) only[*, ↓Ed,Eu, ↓reduceIte,reduceCtorEq,Nat.reduceAdd,Nat.reduceEqDiff,Nat.reduceLT,Nat.reduceLeDiff,Int.reduceToNat,Int.reduceEq,Int.reduceLT,Int.reduceLE,Ap,b3t,b3r,b3N,Ax,Ao];first|done|rfl)):A:=e▸h
theorem Tf(v:Int):CP Tryz.prog 128 [.int .i64 v] (.str (pn v)):=by
 have hm:=Pv
 refine a6K _ _ (by simp) ?_
 simp only[VE];refine N2 ?_
 repeat' ((first|exact tt|refine na fun b=>?_|refine nb fun b hb=>?_|refine iq ?_|(refine jq ?_ ?_<;>intro h h')|exact wZ|refine Aa ?_ ?_)<;>try refine N2 ?_)
 ·simp[pn];omega
 ·simp[pn];omega
 obtain ⟨n,rfl⟩:∃ n:Nat,v=n:=⟨v.toNat,by omega⟩
 have hp:pn n=Ea n:=by simp only[pn,Af (show (0≤(n:Int)∧(n:Int)≤72057594037927935) by omega),Dh]
 have h8:=C5 n
 rw[hp]at h8 ⊢
 refine A2 (fun x:List UInt8 × Nat=>⟨lk [(0,.int .i64 (x.2:Int)),(3,.sl (some 5) 1 (Jj x.1))],lk []⟩) (fun x=>Ac (x.1++Ea x.2=Ea n)∧x.1.length≤8∧x.2≤72057594037927935) (fun x=>x.2) ([],n) (by simp[Ac];omega) (An Mc) ?_
 rintro ⟨out,u⟩ ⟨h1,h2,h3⟩
 simp only at h1 h2 h3
 refine N2 ?_
 repeat' ((first|exact tt|refine na fun b=>?_|refine nb fun b hb=>?_|refine iq ?_|(refine jq ?_ ?_<;>intro h h')|exact wZ|refine Aa ?_ ?_)<;>try refine N2 ?_)
 ·rw[a3p, ← FI]
  rw[NP (by omega),List.append_cons]at h1
  refine AC (out++[UInt8.ofNat (u % 128+128)],u / 128) ⟨An Mc,⟨h1, ?_,by simp only;omega⟩,by simp only;omega⟩
  rw[← show _=Ea n from h1]at h8
  simp only[Ao]at h8 ⊢
  omega
 ·rw[Mb (by omega)]at h1
  rw[W6 u (by omega), ← FI,show _=Ea n from h1,BytesW_map]
  refine N2 ?_;try exact tt
end
section
def EQ(s:List UInt8)(least most:Int)(x:Int × Int):Int × Int × Int:=
 if x.2≠0 then (0,x.1,x.2) else if (nx s x.1).2.2≠0 then (0,x.1,(nx s x.1).2.2)
 else if (nx s x.1).1<least∨most<(nx s x.1).1 then (0,x.1,1) else ((nx s x.1).1,(nx s x.1).2.1,0)
def GP(s:List UInt8)(most:Int)(x:Int × Int):List UInt8 × Int × Int:=
 if x.2≠0 then ([],x.1,x.2) else if (nx s x.1).2.2≠0 then ([],x.1,(nx s x.1).2.2)
 else if most<(nx s x.1).1 then ([],x.1,4) else if (s.length:Int) - (nx s x.1).2.1<(nx s x.1).1 then ([],x.1,2)
 else ((s.take ((nx s x.1).2.1+(nx s x.1).1).toNat).drop (nx s x.1).2.1.toNat,(nx s x.1).2.1+(nx s x.1).1,0)
def rend(s:List UInt8)(x:Int × Int):Int:=if x.2=0∧x.1<s.length then 3 else x.2
theorem YE(s:List UInt8)(n:Int):0≤(nx s n).1∧(nx s n).1<72057594037927936∧0≤(nx s n).2.1∧(nx s n).2.1≤s.length:=by
 unfold nx
 split
 ·have hb:=XC 8 (s.drop n.toNat) true
  generalize BS 8 (s.drop n.toNat) true=g at hb
  obtain ⟨v,k,e⟩:=g
  simp only[Cc]at hb ⊢
  split
  ·simp only;omega
  ·simp only;omega
 ·simp only;omega
theorem YC(s:List UInt8)(n:Int)(h:(nx s n).2.2≠0):(nx s n).1=0∧(nx s n).2.1=0:=by
 unfold nx at h ⊢
 split
 ·rename_i hn
  rw[Af hn]at h
  generalize BS 8 (s.drop n.toNat) true=g at h ⊢
  obtain ⟨v,k,e⟩:=g
  simp only at h ⊢
  split
  ·rename_i he;rw[Af he]at h;simp at h
  ·simp
 ·simp
theorem Z5(s:List UInt8)(least most:Int)(x:Int × Int)(h:0≤x.1∧x.1≤s.length):0≤(EQ s least most x).2.1∧(EQ s least most x).2.1≤s.length:=by
 have:=YE s x.1
 unfold EQ
 split
 ·exact h
 split
 ·exact h
 split
 ·exact h
 ·simp only;omega
end
end Go.Proofs.YtfgihnhoocnmdaaGreatDoor
