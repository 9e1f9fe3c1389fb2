import Derived.RunT
import Derived.Calls
import Derived.Test.YtfgihnhoocnmdaaGreatDoorK11
import Derived.Sort.Grow
import Derived.Deep.Draws
import Derived.Sort.Walk0
import Derived.Shelf.SlGeneric
import Derived.Shelf.SlicesE.Clone
import Derived.Ground.SlgnProg
import Derived.Test.YtfgihnhoocnmdaaGreatDoorProg
import Derived.Shelf.RegionOpenPlain
import Derived.WalkKit
import Derived.Deep.LoopGhost
import Derived.Lib.Walk
import Derived.Lib.SliceRun
import Derived.Shelf.Spec.SlicesInsertGrow
import Derived.Deep.AppendSrc
import Derived.Test.YtfgihnhoocnmdaaGreatDoorK6
namespace Go.Proofs.YtfgihnhoocnmdaaGreatDoor
set_option linter.all false
set_option maxHeartbeats 9000000
section
open Go

def RD{α:Type}(d:Nat):Result α→Prop
 | .ok _ w=>d≤w.drawn
 | .halt _ w=>d≤w.drawn
theorem RD.le{α:Type}{d e:Nat}(h:e≤d){r:Result α}(hr:RD d r):RD e r:=by cases r<;>exact Nat.le_trans h hr
def GD(d:Nat):GStep→Prop
 | .go _ w _=>d≤w.drawn
 | .comm _ _ _ _ w _=>d≤w.drawn
 | .spawn _ _ w _=>d≤w.drawn
 | .count _ w _=>d≤w.drawn
 | .timer _ _ w _=>d≤w.drawn
 | .alone _ _ w _=>d≤w.drawn
 | .newcoro _ _ _ w _=>d≤w.drawn
 | .coroswitch _ _ _ w _=>d≤w.drawn
 | .collect _ w _=>d≤w.drawn
 | .watch _ w _=>d≤w.drawn
 | .ended _ _ _=>True
theorem GD.le{d e:Nat}(h:e≤d){g:GStep}(hg:GD d g):GD e g:=by cases g<;>first|trivial|exact Nat.le_trans h hg
theorem GD.after{d:Nat}{es:Array Event}{g:GStep}(h:GD d g):GD d (g.after es):=by cases g<;>exact h
def SD(d:Nat):Stepped→Prop
 | .next m=>d≤m.world.drawn
 | .ended _ _=>True
theorem SD.le{d e:Nat}(h:e≤d){g:Stepped}(hg:SD d g):SD e g:=by cases g<;>first|trivial|exact Nat.le_trans h hg
def MD(d:Nat):Move→Prop
 | .goroutine m _=>d≤m.world.drawn
 | .machine s _=>SD d s
theorem MD.le{d e:Nat}(h:e≤d){g:Move}(hg:MD d g):MD e g:=by
 cases g
 ·exact Nat.le_trans h hg
 ·exact SD.le h hg
end
section
open Go.RowKit
end
section
open Go.RowKit
section
variable {P:Program} {d:Option Nat} {s:St} {K:St→Prop}
end
end
section
def a9s(s:List UInt8)(j:Nat):Prop:=(97≤(s.getD j 0).toNat∧(s.getD j 0).toNat≤122)∨j≠0∧((48≤(s.getD j 0).toNat∧(s.getD j 0).toNat≤57)∨(s.getD j 0).toNat=45)
def a6U(s:List UInt8):Prop:=s≠[]∧s.length≤12∧∀ j,j<s.length→a9s s j
open Classical in
noncomputable def a6T (s:List UInt8):Bool:=decide (a6U s)
theorem nameP_t{s:List UInt8}(h:a6U s):a6T s=true:=by simp[a6T,h]
theorem nameP_f{s:List UInt8}(h:¬ a6U s):a6T s=false:=by simp[a6T,h]
theorem nameP_iff{s:List UInt8}:a6T s=true↔a6U s:=by simp[a6T]
theorem name_bad{s:List UInt8}{k:Nat}(hk:k<s.length)(h:¬ a9s s k):false=a6T s:=(nameP_f fun g=>h (g.2.2 k hk)).symm
theorem name_end{s:List UInt8}{k:Nat}(hk:s.length≤k)(h:∀ j,j<k→a9s s j):a6U s↔s≠[]∧s.length≤12:=⟨fun g=>⟨g.1,g.2.1⟩,fun g=>⟨g.1,g.2,fun j hj=>h j (by omega)⟩⟩
theorem name_dec{s:List UInt8}{k:Nat}(hk:s.length≤k)(h:∀ j,j<k→a9s s j):a6T s=decide (s.length≠0∧s.length≤12):=by
 unfold a6T
 rw[decide_eq_decide,name_end hk h,ne_eq, ← List.length_eq_zero_iff]
noncomputable def a1S (p:List UInt8) (c:Int):Bool:=a6T p&&decide (0≤c)&&decide (c≤999)
theorem name_step{s:List UInt8}{k:Nat}(h:∀ j,j<k→a9s s j)(g:a9s s k):∀ j,j<k+1→a9s s j:=fun j hj=>by
 by_cases e:j=k
 ·subst e;exact g
 ·exact h j (by omega)
end
section
open Go.RowKit
structure PktC where
 s:List UInt8
 sc:Int
 d:List UInt8
 dc:Int
 q:Int
 x:List UInt8
 th:Int
 ta:Int
 deriving DecidableEq,Inhabited
abbrev PktC.cs(p:PktC):List AV:=[.str p.s,.int .i64 p.sc,.str p.d,.int .i64 p.dc,.int .i64 p.q,.str p.x,.int .i64 p.th,.int .i64 p.ta]
structure EvC where
 k:Int
 p:PktC
 a:List UInt8
 e:List UInt8
 ec:Int
 h:Int
 deriving DecidableEq,Inhabited
abbrev EvC.cs(e:EvC):List AV:=[.int .i64 e.k,.str e.p.s,.int .i64 e.p.sc,.str e.p.d,.int .i64 e.p.dc,.int .i64 e.p.q,.str e.p.x,.int .i64 e.p.th,.int .i64 e.p.ta,.str e.a,.str e.e,.int .i64 e.ec,.int .i64 e.h]
structure EntC where
 p:PktC
 a:List UInt8
 s:Bool
 r:Bool
 w:Bool
 c:Bool
 t:Bool
 deriving DecidableEq,Inhabited
abbrev EntC.cs(e:EntC):List AV:=[.str e.p.s,.int .i64 e.p.sc,.str e.p.d,.int .i64 e.p.dc,.int .i64 e.p.q,.str e.p.x,.int .i64 e.p.th,.int .i64 e.p.ta,.str e.a,.bool e.s,.bool e.r,.bool e.w,.bool e.c,.bool e.t]
structure KeyC where
 e:List UInt8
 ec:Int
 o:Bool
 q:Int
 deriving DecidableEq,Inhabited
abbrev KeyC.cs(k:KeyC):List AV:=[.str k.e,.int .i64 k.ec,.bool k.o,.int .i64 k.q]
theorem c1c(a b:PktC):(decide (a.s=b.s)&&(decide (a.sc=b.sc)&&(decide (a.d=b.d)&&(decide (a.dc=b.dc)&&(decide (a.q=b.q)&&(decide (a.x=b.x)&&(decide (a.th=b.th)&&decide (a.ta=b.ta))))))))=decide (a=b):=by
 obtain ⟨a1,a2,a3,a4,a5,a6,a7,a8⟩:=a;obtain ⟨b1,b2,b3,b4,b5,b6,b7,b8⟩:=b
 simp[Bool.eq_iff_iff]
theorem c1D(a b:EvC):(decide (a.k=b.k)&&(decide (a.p.s=b.p.s)&&(decide (a.p.sc=b.p.sc)&&(decide (a.p.d=b.p.d)&&(decide (a.p.dc=b.p.dc)&&(decide (a.p.q=b.p.q)&&(decide (a.p.x=b.p.x)&&(decide (a.p.th=b.p.th)&&(decide (a.p.ta=b.p.ta)&&(decide (a.a=b.a)&&(decide (a.e=b.e)&&(decide (a.ec=b.ec)&&decide (a.h=b.h)))))))))))))=decide (a=b):=by
 obtain ⟨a0,⟨a1,a2,a3,a4,a5,a6,a7,a8⟩,a9,a10,a11,a12⟩:=a;obtain ⟨b0,⟨b1,b2,b3,b4,b5,b6,b7,b8⟩,b9,b10,b11,b12⟩:=b
 simp[Bool.eq_iff_iff,and_assoc]
noncomputable def a6h (p:PktC):Bool:=a1S p.s p.sc&&a1S p.d p.dc&&decide (0≤p.th∧p.th≤1099511627776)&&decide (0≤p.ta∧p.ta≤1099511627776)&&decide (1≤p.q∧p.q≤1099511627776)&&decide (p.x.length≤200)
end
section
open Go
abbrev a9L:=List UInt8 × Int
structure STO {α:Type} (lt:α→α→Bool):Prop where
 irr:∀ a,lt a a=false
 tr:∀ a b c,lt a b=true→lt b c=true→lt a c=true
 tot:∀ a b,lt a b=false→lt b a=false→a=b
theorem b4E(a:List UInt8):¬ a<a:=List.lt_irrefl a
theorem lst_tot{a b:List UInt8}(h1:¬ a<b)(h2:¬ b<a):a=b:=List.le_antisymm (List.not_lt.1 h2) (List.not_lt.1 h1)
def KeyC.en(k:KeyC):a9L:=(k.e,k.ec)
end
section
open Go.RowKit Go.Sort
theorem VR.map_inv{W:World}{U:Nat→Nat→Prop}{v:Value}{b:Nat}(h:VR W U v (.mapv b)):v=.map (some b):=by cases h;rfl
theorem VR.ptr_inv{W:World}{U:Nat→Nat→Prop}{v:Value}{b o:Nat}(h:VR W U v (.ptr b o)):v=.pointer (some ⟨b,o,none⟩):=by cases h;rfl
theorem VR.fn_inv{W:World}{U:Nat→Nat→Prop}{v:Value}{f:Nat}(h:VR W U v (.fn f)):v=.func (.func f) #[] #[]:=by cases h;rfl
theorem VR.clo1_inv{W:World}{U:Nat→Nat→Prop}{v:Value}{f b:Nat}(h:VR W U v (.clo f [.ptr b 0])):v=.func (.func f) #[] #[.pointer (some ⟨b,0,none⟩)]:=by
 cases h with
 | clo f vs cs hl h=>
  match vs,hl with
  | [x],_=>rw[(h 0 x _ rfl rfl).ptr_inv]
theorem perm_of{α:Type}[Inhabited α]{d d':Array α}(h:PermIn 0 d.size d d'):d'.toList.Perm d.toList:=by
 obtain ⟨h1,_,h3⟩:=h
 have e1:d'.extract 0 d.size=d':=by rw[← h1];exact Array.extract_size
 have e2:d.extract 0 d.size=d:=Array.extract_size
 rwa [e1,e2]at h3
def a9U:List AV→Bool
 | []=>true
 | .int _ _::r=>a9U r
 | .bool _::r=>a9U r
 | .str _::r=>a9U r
 | _=>false
def a1m:List AV→List Value
 | []=>[]
 | .int k n::r=>.int k n::a1m r
 | .bool b::r=>.bool b::a1m r
 | .str l::r=>.string ⟨l.toArray⟩::a1m r
 | _::r=>undef::a1m r
theorem a1M:∀ cs:List AV,(a1m cs).length=cs.length
 | []=>rfl
 | a::r=>by cases a<;>simp[a1m,a1M r]
theorem a3U:∀ (cs:List AV),a9U cs=true→∀ (i:Nat) (c:AV) (u:Value),cs[i]?=some c→(a1m cs)[i]?=some u→(∀ W U,VR W U u c)∧(∀ W U v,VR W U v c→v=u)∧u.oneCell'=true
 | [],_,i,c,u,h,_=>by simp at h
 | a::r,hf,0,c,u,h,g=>by
  simp only[List.getElem?_cons_zero,Option.some.injEq]at h
  subst h
  cases a<;>simp[a9U]at hf<;>simp only[a1m,List.getElem?_cons_zero,Option.some.injEq]at g<;>subst g
  ·exact ⟨fun _ _=>.int _ _,fun _ _ _ h=>by cases h;rfl,rfl⟩
  ·exact ⟨fun _ _=>.bool _,fun _ _ _ h=>by cases h;rfl,rfl⟩
  ·exact ⟨fun _ _=>.str _,fun _ _ _ h=>by cases h;rfl,rfl⟩
 | a::r,hf,i+1,c,u,h,g=>by
  have hr:a9U r=true:=by cases a<;>simp[a9U]at hf<;>exact hf
  have e:a1m (a::r)=(a1m [a]++a1m r):=by cases a<;>rfl
  have e1:(a1m [a]).length=1:=a1M [a]
  rw[e,List.getElem?_append_right (by omega),e1]at g
  exact a3U r hr i c u (by simpa using h) (by simpa using g)
theorem plainV_one{cs:List AV}(hf:a9U cs=true):∀ u∈a1m cs,u.oneCell'=true:=by
 intro u hu
 obtain ⟨i,hi,rfl⟩:=List.getElem_of_mem hu
 have hi':i<cs.length:=by rw[← a1M];exact hi
 exact (a3U cs hf i cs[i] _ (List.getElem?_eq_getElem hi') (List.getElem?_eq_getElem hi)).2.2
end
end Go.Proofs.YtfgihnhoocnmdaaGreatDoor
namespace Go.Proofs
open Go.Shelf
def Tryz.cln129_ren:Go.Shelf.Ren:=⟨fun|41=>129|n=>n,fun|22=>116|23=>115|4=>4|n=>n,fun|n=>n⟩
theorem Tryz.cln129:Go.Proofs.SlLaysE0.n41 Tryz.prog Tryz.cln129_ren:={
 mixed:=by kernel_rfl
 f41:=⟨Tryz.f129.name,by decide,Tryz.func129.trans (congrArg some (by kernel_rfl))⟩
 t4:=Tryz.underlying4
 a4:=Tryz.isAgg4
 z4:=Tryz.sizeOf4
 v4:=Tryz.zeroValue4
 t22:=Tryz.underlying116
 a22:=Tryz.isAgg116
 z22:=Tryz.sizeOf116
 v22:=Tryz.zeroValue116 }
def Tryz.cln199_ren:Go.Shelf.Ren:=⟨fun|41=>199|n=>n,fun|22=>36|23=>145|4=>4|n=>n,fun|n=>n⟩
theorem Tryz.cln199:Go.Proofs.SlLaysE0.n41 Tryz.prog Tryz.cln199_ren:={
 mixed:=by kernel_rfl
 f41:=⟨Tryz.f199.name,by decide,Tryz.func199.trans (congrArg some (by kernel_rfl))⟩
 t4:=Tryz.underlying4
 a4:=Tryz.isAgg4
 z4:=Tryz.sizeOf4
 v4:=Tryz.zeroValue4
 t22:=Tryz.underlying36
 a22:=Tryz.isAgg36
 z22:=Tryz.sizeOf36
 v22:=Tryz.zeroValue36 }
end Go.Proofs
namespace Go.Proofs.YtfgihnhoocnmdaaGreatDoor
set_option linter.all false
set_option maxHeartbeats 9000000
section
open Go.RowKit Go.Shelf Go.Sort Go.Lib
set_option maxRecDepth 100000
theorem flatM_len{k:Nat}:∀ els:List (List AV),(∀ e∈els,e.length=k)→(els.flatMap a1m).length=els.length * k
 | [],_=>by simp
 | e::r,h=>by
  rw[List.flatMap_cons,List.length_append,a1M,h e (by simp),flatM_len r fun x hx=>h x (by simp[hx]),List.length_cons,Nat.add_mul];omega
theorem flatM_get{k:Nat}:∀ (els:List (List AV)) (i j:Nat),(∀ e∈els,e.length=k)→i<els.length→j<k→(els.flatMap a1m)[i * k+j]?=(a1m (els.getD i []))[j]?
 | [],i,j,_,h,_=>by simp at h
 | e::r,0,j,h,_,hj=>by
  rw[List.flatMap_cons,List.getElem?_append_left (by rw[a1M,h e (by simp)];omega)];simp
 | e::r,i+1,j,h,hi,hj=>by
  have he:=h e (by simp)
  rw[List.flatMap_cons,List.getElem?_append_right (by rw[a1M,he,Nat.add_mul];omega),a1M,he]
  have:(i+1) * k+j - k=i * k+j:=by rw[Nat.add_mul];omega
  rw[this,flatM_get r i j (fun x hx=>h x (by simp[hx])) (by simpa using hi) hj];simp
section
variable {P:Program} {ρ:Ren}
set_option maxHeartbeats 2000000 in
theorem b6e(L:SlLaysE0.n41 P ρ)(i0:TypeInfo)(z:Value)(size bytes:Nat)(hi:P.info? (ρ.t 23)=some i0)(hz0:i0.zero=some z)(hz1:i0.size=size)(hz2:i0.bytes=bytes)(hzs:z.cells.size=size)(hsz:0<size)
  (z23:∀ w,(Go.sizeOf (ρ.t 23)).run P w=.ok size w) (a:Addr) (c:Nat) (w:World):
  Calls P (ρ.f 41) #[.slice (some a) 0 c] w fun e w'=>∃ v',e=.returned v'∧w'.ownsRow w.heap.size (ρ.t 23) size v' 0 []∧RowKit.Below w.heap.size w w':=by
 have mixed:=L.mixed;have t4:=L.t4;have a4:=L.a4;have z4:=L.z4;have v4:=L.v4;have t22:=L.t22;have a22:=L.a22;have z22:=L.z22;have v22:=L.v22
 have q22:∀ (w:World) (a:Option Addr) (n c n' c':Nat),(binOp .eql (ρ.t 22) (.slice a n c) (.slice none n' c')).run P w=.ok (.bool a.isNone) w:=fun w a n c n' c'=>Lib.run_eql_slice_nil w _ _ a n c n' c' L.t22
 have u22:∀ w,Sem.run P (underlying (ρ.t 22)) w=.ok (TypeDesc.slice (ρ.t 23)) w:=run_underlying t22
 obtain ⟨_,_,FG⟩:=L.f41
 go_enter FG,SlBodyN.n41_ntmps ρ
 go_wp2_with (at_builtin;refine wpList_append_own _ rfl _ _ (ρ.t 22) rfl w.heap.size (ρ.t 23) i0 z size bytes t22 hi hz0 hz1 hz2 hzs hsz _ _ _ rfl (World.ownsRow_made w #[] 0 (Nat.le_refl _) (Nat.zero_le _) (by simp)) a 0 c [] rfl (by simp) (by intro j u hj;simp at hj) (by intro u hu;cases hu) (by unfold maxLen;omega) (by omega) (by simp) ?_)
 intro v' w1 hown hgrow hnil
 go_wp2
 go_ret
 exact ⟨v',rfl,by simpa using hown,((RowKit.Below.refl _ w).alloc (Nat.le_refl _) _).grown hgrow (by simp) (by intro k hk;simp[Value.ownBlock]at hk;omega)⟩
end
end
section
open Go.Shelf Go.RowKit Go.Lib
set_option maxRecDepth 100000
abbrev zPr:Value:=.agg #[.string ⟨#[]⟩,.string ⟨#[]⟩]
theorem run_copy_k{P:Program}(w:World)(dT sT ty elem:TypeId)(k b o dLen dCap:Nat)(a:Addr)(sLen sCap:Nat)(cs:List Value)
  (hu:P.underlying dT=some (.slice elem)) (hs:(P.info? elem).map (·.size)=some k) (hn:cs.length=Nat.min sLen dLen * k)
  (hsrc:∀ j v,cs[j]?=some v→w.cell? (a.add j)=some v) (hc:∀ j,j<cs.length→(w.cell? ⟨b,o+j,none⟩).isSome=true) (hf:∀ j,j<cs.length→w.frozen? ⟨b,o+j,none⟩=false) (h1:∀ v∈cs,v.oneCell'=true):
  (Builtin.copy_ #[dT,sT] ty #[.slice (some ⟨b,o,none⟩) dLen dCap,.slice (some a) sLen sCap]).run P w=.ok (goInt (Nat.min sLen dLen)) (w.setCells b o cs):=by
 have hl:=run_loadCells_list (P:=P) w a cs hsrc
 have hst:=run_storeCells_cells (P:=P) b o cs 0 w (by simpa using hc) (by simpa using hf) h1
 cases hq:P.info? elem with
 | none=>simp[hq]at hs
 | some i=>
  have hi:i.size=k:=by simpa[hq]using hs
  simp only[Nat.add_zero]at hst
  simp[Builtin.copy_,run_underlying hu,Builtin.lenOf,Builtin.firstCells,sizeOf,typeInfo,hq,hi, ← hn,hl,hst]
theorem c0j:(Tryz.prog.info? 115).map (·.size)=some 2:=by
 obtain ⟨i0,hi,_,h1,_⟩:=info_parts (P:=Tryz.prog) (e:=115) (z:=zPr) (size:=2) (bytes:=32) (by kernel_rfl)
 rw[hi];simp[h1]
set_option maxHeartbeats 4000000 in
theorem b1v(b n c vb vc:Nat)(vs:List Value)(w:World)(hroom:n+1≤c)(hvl:vs.length=2)
  (hsp:∀ j,j<2→(w.cell? ⟨b,n * 2+j,none⟩).isSome=true) (hfz:∀ j,j<2→w.frozen? ⟨b,n * 2+j,none⟩=false)
  (hvs:∀ j v,vs[j]?=some v→w.cell? ⟨vb,j,none⟩=some v) (h1v:∀ v∈vs,v.oneCell'=true):
  Calls Tryz.prog 80 #[.slice (some ⟨b,0,none⟩) n c,.int .i64 n,.slice (some ⟨vb,0,none⟩) 1 vc] w fun e w'=>
   e=.returned (.slice (some ⟨b,0,none⟩) (n+1) c)∧w'=w.setCells b (n * 2) vs:=by
 obtain ⟨i0,hi0,hz0,hzs,hzb⟩:=info_parts (P:=Tryz.prog) (e:=115) (z:=zPr) (size:=2) (bytes:=32) (by kernel_rfl)
 have u:=Tryz.underlying116
 have hsrc:Src Tryz.prog i0.size 116 (.slice (some ⟨vb,0,none⟩) 1 vc) 1 vs w:=by
  rw[hzs]
  exact Src.ofSlice w u ⟨vb,0,none⟩ 1 vc vs (by omega) (fun j q hj=>by rw[Addr.add_lit,Nat.zero_add];exact hvs j q hj) h1v
 go_enter Tryz.func80,Tryz.ntmps80
 go_wp2_with (at_builtin;refine wpList_append_room_src _ rfl _ _ 116 116 rfl 115 i0 u hi0 b 0 n c rfl _ rfl 1 vs hsrc hroom (by rw[hzs,hvl,Nat.zero_add];exact hsp) (by rw[hzs,hvl,Nat.zero_add];exact hfz) ?_)
 go_ret
 exact ⟨rfl,rfl⟩
set_option maxHeartbeats 4000000 in
theorem a6J(base:Option Addr)(n c vb vc:Nat)(cs vs:List Value)(w:World)(hnc:n≤c)(hroom:c<n+1)(hbig:(n+1) * 32≤140737488355328)
  (hcl:cs.length=n * 2) (hvl:vs.length=2) (hnil:base=none→n=0)
  (hcs:∀ a,base=some a→∀ j v,cs[j]?=some v→w.cell? (a.add j)=some v)
  (hvs:∀ j v,vs[j]?=some v→w.cell? ⟨vb,j,none⟩=some v) (h1v:∀ v∈vs,v.oneCell'=true):
  Calls Tryz.prog 80 #[.slice base n c,.int .i64 n,.slice (some ⟨vb,0,none⟩) 1 vc] w fun e w'=>
   e=.returned (.slice (some ⟨w.heap.size,0,none⟩) (n+1) (grownCap w (n+1) c 115))∧
   w'=w.drew.alloc (.cells ((cs++vs).toArray++Builtin.zeroCells zPr.cells (grownCap w (n+1) c 115 - (n+1))) 115):=by
 obtain ⟨i0,hi0,hz0,hzs,hzb⟩:=info_parts (P:=Tryz.prog) (e:=115) (z:=zPr) (size:=2) (bytes:=32) (by kernel_rfl)
 have u:=Tryz.underlying116
 have hsrc:Src Tryz.prog i0.size 116 (.slice (some ⟨vb,0,none⟩) 1 vc) 1 vs w:=by
  rw[hzs]
  exact Src.ofSlice w u ⟨vb,0,none⟩ 1 vc vs (by omega) (fun j q hj=>by rw[Addr.add_lit,Nat.zero_add];exact hvs j q hj) h1v
 have hold:(Builtin.firstCells i0.size n (.slice base n c)).run Tryz.prog w.drew=.ok cs.toArray w.drew:=by
  rw[hzs]
  cases base with
  | none=>
   have h0:=hnil rfl
   subst h0
   rw[List.length_eq_zero_iff.1 (by omega:cs.length=0)]
   exact run_firstCells_none w.drew 2 0 0 c
  | some a=>exact run_firstCells_some w.drew 2 n a n c cs (by omega) (fun j v hj=>hcs a rfl j v hj)
 have hrun:∀ ty,(Builtin.append_ #[116,116] ty #[.slice base n c,.slice (some ⟨vb,0,none⟩) 1 vc]).run Tryz.prog w=_:=fun ty=>
  run_append_grow_src w 116 116 ty 115 i0 _ u hi0 hz0 base n c cs hold _ 1 vs hsrc hroom (by omega) (by rw[hzb];exact growslice_fits hroom hbig)
 go_enter Tryz.func80,Tryz.ntmps80
 cases base with
 | none=>
  have h0:=hnil rfl
  subst h0
  go_wp2_with (at_builtin;refine Lib.wpList_append_run _ rfl _ _ _ _ rfl _ _ rfl rfl _ _ (hrun _) ?_)
  go_ret
  exact ⟨rfl,rfl⟩
 | some a=>
  obtain ⟨ab,ao,asp⟩:=a
  go_wp2_with (at_builtin;refine Lib.wpList_append_run _ rfl _ _ _ _ rfl _ _ rfl rfl _ _ (hrun _) ?_)
  all_goals (go_ret;exact ⟨rfl,rfl⟩)
set_option maxHeartbeats 8000000 in
theorem b4D(b n c i vb vc:Nat)(cs vs:List Value)(w:World)(hi:i<n)(hroom:n+1≤c)(hc63:c≤9223372036854775807)(hvb:vb≠b)
  (hcl:cs.length=n * 2) (hvl:vs.length=2)
  (hcs:∀ j v,cs[j]?=some v→w.cell? ⟨b,j,none⟩=some v) (hsp:∀ j,j<(n+1) * 2→(w.cell? ⟨b,j,none⟩).isSome=true) (hfz:∀ j,j<(n+1) * 2→w.frozen? ⟨b,j,none⟩=false)
  (hvs:∀ j v,vs[j]?=some v→w.cell? ⟨vb,j,none⟩=some v) (h1c:∀ v∈cs,v.oneCell'=true) (h1v:∀ v∈vs,v.oneCell'=true)
  (tA tB:TypeId) (kA kB:Nat) (hsa:w.shape? vb=some (tA,kA)) (hsb:w.shape? b=some (tB,kB)) (hkB:kB≠0) (hfa:w.frozen? ⟨vb,0,none⟩=false) (hfe:w.frozen? ⟨vb,kA,none⟩=false):
  Calls Tryz.prog 80 #[.slice (some ⟨b,0,none⟩) n c,.int .i64 i,.slice (some ⟨vb,0,none⟩) 1 vc] w fun e w'=>
   e=.returned (.slice (some ⟨b,0,none⟩) (n+1) c)∧w'=(w.drew.setCells b ((i+1) * 2) (cs.drop (i * 2))).setCells b (i * 2) vs:=by
 have u:=Tryz.underlying116
 have hz2:¬ ((i:Int)=(n:Int)):=by omega
 have hsz:=c0j
 have hov:∀ lb cb,(callFunc 148 #[.slice (some ⟨vb,0,none⟩) 1 vc,.slice (some ⟨b,(i+1) * 2,none⟩) lb cb]).run Tryz.prog w=.ok (.value (.bool false)) w:=fun lb cb=>by
  rw[run_callFunc_extern Tryz.func148 (by kernel_rfl) (by kernel_rfl) (by kernel_rfl) (e:=Extern.SlicesOverlaps.overlaps #[116,116] #[4]) (by kernel_rfl),
   Lib.run_overlaps_apart w 116 4 115 u 2 (fun w=>by simp) ⟨vb,0,none⟩ ⟨b,(i+1) * 2,none⟩ 1 vc lb cb hvb tA tB kA kB hsa hsb hkB hfa hfe]
  rfl
 have hdl:(cs.drop (i * 2)).length=(n - i) * 2:=by rw[List.length_drop,hcl,Nat.sub_mul]
 have hw1:IntKind.i64.wrap ((i:Int)+1)=(i:Int)+1:=by rw[IntKind.wrap_i64];omega
 have hb1:(0:Int)≤(i:Int)+1:=by omega
 have hin:i≤n:=by omega
 have htn:((i:Int)+1).toNat=i+1:=by omega
 have hb2:¬ (c=i+1):=by omega
 have hb3:(i:Int)≤(n:Int)+1:=by omega
 have hb4:¬ (c=i):=by omega
 have mixed:Tryz.prog.follows Departure.mixedOrders=true:=by kernel_rfl
 have hcp1:∀ ty dc sc,(Builtin.copy_ #[116,116] ty #[.slice (some ⟨b,(i+1) * 2,none⟩) (n - i) dc,.slice (some ⟨b,i * 2,none⟩) (n+1 - i) sc]).run Tryz.prog w.drew=.ok (goInt (Nat.min (n+1 - i) (n - i))) (w.drew.setCells b ((i+1) * 2) (cs.drop (i * 2))):=fun ty dc sc=>
  run_copy_k w.drew _ _ ty 115 2 b ((i+1) * 2) (n - i) dc ⟨b,i * 2,none⟩ (n+1 - i) sc (cs.drop (i * 2)) u hsz (by rw[hdl];simp only[Nat.min_def];split<;>omega)
   (fun j v hj=>by rw[Addr.add_lit];exact hcs (i * 2+j) v (by rwa [List.getElem?_drop]at hj))
   (fun j hj=>hsp _ (by omega)) (fun j hj=>hfz _ (by omega)) (fun v hv=>h1c v (List.mem_of_mem_drop hv))
 obtain ⟨W1,hW1⟩:∃ W1,W1=w.drew.setCells b ((i+1) * 2) (cs.drop (i * 2)):=⟨_,rfl⟩
 have hsp1:∀ k,k<(n+1) * 2→(W1.cell? ⟨b,k,none⟩).isSome=true:=fun k hk=>by
  rw[hW1]
  exact isSome_setCells b (cs.drop (i * 2)) ((i+1) * 2) w.drew (fun j hj=>hsp _ (by omega)) k (hsp k hk)
 have hcp2:∀ (W:World),(∀ x,W.cell? x=W1.cell? x)→(∀ x,W.frozen? x=W1.frozen? x)→∀ ty dc,(Builtin.copy_ #[116,116] ty #[.slice (some ⟨b,i * 2,none⟩) (n+1 - i) dc,.slice (some ⟨vb,0,none⟩) 1 vc]).run Tryz.prog W=.ok (goInt (Nat.min 1 (n+1 - i))) (W.setCells b (i * 2) vs):=fun W hWc hWf ty dc=>
  run_copy_k W _ _ ty 115 2 b (i * 2) (n+1 - i) dc ⟨vb,0,none⟩ 1 vc vs u hsz (by rw[hvl];simp only[Nat.min_def];split<;>omega)
   (fun j v hj=>by
    rw[Addr.add_lit,Nat.zero_add,hWc,hW1,World.cell?_setCells_out b _ _ _ _ (fun h _=>absurd h hvb)]
    exact hvs j v hj)
   (fun j hj=>by rw[hWc];exact hsp1 _ (by omega)) (fun j hj=>by rw[hWf,hW1,World.frozen?_setCells];exact hfz _ (by omega)) h1v
 rw[← hW1]at hcp1
 go_enter Tryz.func80,Tryz.ntmps80
 go_wp2_with (simp only[hov])
 go_region_law_o (refine step_copy_runI rfl _ _ 116 116 rfl _ _ (by simp[Act.eval,Act.put]) (by simp[Act.eval,Act.put]) (hcp1 _ _ _) ?_)
 go_wp2_with (at_builtin;refine wpList_copy_runI _ rfl _ _ 116 116 rfl _ _ rfl rfl (hcp2 _ (fun _=>rfl) (fun _=>rfl) _ _) ?_)
 go_ret
 first|exact ⟨rfl,rfl⟩|exact ⟨rfl,by rw[hW1]⟩
set_option maxHeartbeats 8000000 in
theorem b6r(b n c i vb vc:Nat)(cs vs:List Value)(w:World)(hi:i<n)(hnc:n≤c)(hroom:c<n+1)(hbig:(n+1) * 32≤140737488355328)
  (hcl:cs.length=n * 2) (hvl:vs.length=2)
  (hcs:∀ j v,cs[j]?=some v→w.cell? ⟨b,j,none⟩=some v)
  (hvs:∀ j v,vs[j]?=some v→w.cell? ⟨vb,j,none⟩=some v) (h1c:∀ v∈cs,v.oneCell'=true) (h1v:∀ v∈vs,v.oneCell'=true):
  Calls Tryz.prog 80 #[.slice (some ⟨b,0,none⟩) n c,.int .i64 i,.slice (some ⟨vb,0,none⟩) 1 vc] w fun e w'=>
   e=.returned (.slice (some ⟨w.heap.size,0,none⟩) (n+1) (grownCap w (n+1) c 115))∧
   w'=(((w.alloc (.cells ((cs.take (i * 2)).toArray++Builtin.zeroCells zPr.cells (n+1 - i)++Builtin.zeroCells zPr.cells (grownCap w (n+1) c 115 - (n+1))) 115)).drew.setCells w.heap.size (i * 2) vs).drew).setCells w.heap.size ((i+1) * 2) (cs.drop (i * 2)):=by
 obtain ⟨i0,hi0,hz0,hzs,hzb⟩:=info_parts (P:=Tryz.prog) (e:=115) (z:=zPr) (size:=2) (bytes:=32) (by kernel_rfl)
 have u:=Tryz.underlying116
 have mixed:Tryz.prog.follows Departure.mixedOrders=true:=by kernel_rfl
 have hz2:¬ ((i:Int)=(n:Int)):=by omega
 have hz3:(c:Int)<(n:Int)+1:=by omega
 have hsz:=c0j
 have hbw:b<w.heap.size:=block_lt_of_cell (hcs 0 _ (List.getElem?_eq_getElem (by omega)))
 have hvw:vb<w.heap.size:=block_lt_of_cell (hvs 0 _ (List.getElem?_eq_getElem (by omega)))
 have hkk:(n:Int)+1 - (i:Int)=((n+1 - i:Nat):Int):=by omega
 have hik:i+(n+1 - i)=n+1:=by omega
 have hold:(Builtin.firstCells i0.size i (.slice (some ⟨b,0,none⟩) i c)).run Tryz.prog w.drew=.ok (cs.take (i * 2)).toArray w.drew:=by
  rw[hzs]
  exact run_firstCells_some w.drew 2 i ⟨b,0,none⟩ i c (cs.take (i * 2)) (by rw[List.length_take];omega) (fun j v hj=>by
   rw[Addr.add_lit,Nat.zero_add]
   rw[List.getElem?_take]at hj
   split at hj
   ·exact hcs j v hj
   ·cases hj)
 have hrz:∀ ty,(Builtin.append_ #[116,3] ty #[.slice (some ⟨b,0,none⟩) i c,.int .i64 ((n:Int)+1 - (i:Int))]).run Tryz.prog w=
   .ok (.slice (some ⟨w.heap.size,0,none⟩) (n+1) (grownCap w (n+1) c 115)) (w.drew.alloc (.cells ((cs.take (i * 2)).toArray++Builtin.zeroCells zPr.cells (n+1 - i)++Builtin.zeroCells zPr.cells (grownCap w (n+1) c 115 - (n+1))) 115)):=fun ty=>by
  have h:=Lib.run_append_grow_zeros w 116 3 ty 115 i0 _ .i64 .i64 u Tryz.underlying3 hi0 hz0 (some ⟨b,0,none⟩) i c (cs.take (i * 2)) hold (n+1 - i) (by omega) (by omega) (by omega) (by omega) (by rw[hzb];omega) (by rw[hzb,hik];exact growslice_fits hroom hbig)
  rw[hik]at h
  rw[hkk]
  exact h
 obtain ⟨G,hG⟩:∃ G,G=grownCap w (n+1) c 115:=⟨_,rfl⟩
 obtain ⟨ROW,hROW⟩:∃ ROW:Array Value,ROW=(cs.take (i * 2)).toArray++Builtin.zeroCells zPr.cells (n+1 - i)++Builtin.zeroCells zPr.cells (G - (n+1)):=⟨_,rfl⟩
 rw[← hG]at hrz ⊢
 rw[← hROW]at hrz ⊢
 have hRl:(n+1) * 2≤ROW.size:=by
  rw[hROW]
  simp[Builtin.zeroCells,Value.cells]
  omega
 obtain ⟨W1,hW1⟩:∃ W1,W1=w.drew.alloc (.cells ROW 115):=⟨_,rfl⟩
 rw[← hW1]at hrz
 have hN:∀ j,j<(n+1) * 2→(W1.cell? ⟨w.heap.size,j,none⟩).isSome=true:=fun j hj=>by
  rw[hW1,World.cell?_alloc_at (w:=w.drew) ROW _ w.heap.size j rfl,Array.getElem?_eq_getElem (by omega)];rfl
 have hNf:∀ j,W1.frozen? ⟨w.heap.size,j,none⟩=false:=fun j=>by rw[hW1];exact World.frozen?_alloc_at (w:=w.drew) ROW _ w.heap.size j rfl
 have hOb:∀ j v,w.cell? ⟨b,j,none⟩=some v→W1.cell? ⟨b,j,none⟩=some v:=fun j v h=>by rw[hW1,World.cell?_alloc_past (w:=w.drew) _ b j hbw];exact h
 have hOv:∀ j v,w.cell? ⟨vb,j,none⟩=some v→W1.cell? ⟨vb,j,none⟩=some v:=fun j v h=>by rw[hW1,World.cell?_alloc_past (w:=w.drew) _ vb j hvw];exact h
 have hcpA:∀ (W:World),(∀ x,W.cell? x=W1.cell? x)→(∀ x,W.frozen? x=W1.frozen? x)→∀ ty dc,(Builtin.copy_ #[116,116] ty #[.slice (some ⟨w.heap.size,i * 2,none⟩) (n+1 - i) dc,.slice (some ⟨vb,0,none⟩) 1 vc]).run Tryz.prog W=.ok (goInt (Nat.min 1 (n+1 - i))) (W.setCells w.heap.size (i * 2) vs):=fun W hWc hWf ty dc=>
  run_copy_k W _ _ ty 115 2 w.heap.size (i * 2) (n+1 - i) dc ⟨vb,0,none⟩ 1 vc vs u hsz (by rw[hvl];simp only[Nat.min_def];split<;>omega)
   (fun j v hj=>by rw[Addr.add_lit,Nat.zero_add,hWc];exact hOv _ v (hvs j v hj))
   (fun j hj=>by rw[hWc];exact hN _ (by omega)) (fun j hj=>by rw[hWf];exact hNf _) h1v
 have hGn:n+1≤G:=by rw[hG];exact grownCap_ge w _ _ _
 have hG63:G≤9223372036854775807:=by
  have:=grownCap_le_maxLen w (n+1) c 115 (by unfold maxLen;omega)
  rw[← hG]at this
  unfold maxLen at this
  omega
 have hGi:¬ (G=i):=by omega
 have hGim:¬ (G=i+1):=by omega
 have hci:¬ (c=i):=by omega
 have hbN:b≠w.heap.size:=by omega
 have hdl:(cs.drop (i * 2)).length=(n - i) * 2:=by rw[List.length_drop,hcl,Nat.sub_mul]
 have hcpB:∀ (W:World),(∀ x,W.cell? x=(W1.setCells w.heap.size (i * 2) vs).cell? x)→(∀ x,W.frozen? x=(W1.setCells w.heap.size (i * 2) vs).frozen? x)→∀ ty dc sc,(Builtin.copy_ #[116,116] ty #[.slice (some ⟨w.heap.size,(i+1) * 2,none⟩) (n - i) dc,.slice (some ⟨b,i * 2,none⟩) (n - i) sc]).run Tryz.prog W=.ok (goInt (Nat.min (n - i) (n - i))) (W.setCells w.heap.size ((i+1) * 2) (cs.drop (i * 2))):=fun W hWc hWf ty dc sc=>
  run_copy_k W _ _ ty 115 2 w.heap.size ((i+1) * 2) (n - i) dc ⟨b,i * 2,none⟩ (n - i) sc (cs.drop (i * 2)) u hsz (by rw[hdl];simp only[Nat.min_def];split<;>omega)
   (fun j v hj=>by
    rw[Addr.add_lit,hWc,World.cell?_setCells_out _ _ _ _ _ (fun h _=>absurd h hbN)]
    exact hOb _ v (hcs (i * 2+j) v (by rwa [List.getElem?_drop]at hj)))
   (fun j hj=>by rw[hWc];exact isSome_setCells w.heap.size vs (i * 2) W1 (fun t ht=>hN _ (by omega)) _ (hN _ (by omega)))
   (fun j hj=>by rw[hWf,World.frozen?_setCells];exact hNf _) (fun v hv=>h1c v (List.mem_of_mem_drop hv))
 subst hW1
 have hE1:∀ x,((w.alloc (.cells ROW 115)).drew).cell? x=(w.drew.alloc (.cells ROW 115)).cell? x:=fun x=>rfl
 have hE2:∀ x,((w.alloc (.cells ROW 115)).drew).frozen? x=(w.drew.alloc (.cells ROW 115)).frozen? x:=fun x=>rfl
 have hF1:∀ x,(((w.alloc (.cells ROW 115)).drew.setCells w.heap.size (i * 2) vs).drew).cell? x=((w.drew.alloc (.cells ROW 115)).setCells w.heap.size (i * 2) vs).cell? x:=fun x=>rfl
 have hF2:∀ x,(((w.alloc (.cells ROW 115)).drew.setCells w.heap.size (i * 2) vs).drew).frozen? x=((w.drew.alloc (.cells ROW 115)).setCells w.heap.size (i * 2) vs).frozen? x:=fun x=>rfl
 have hw1:IntKind.i64.wrap ((i:Int)+1)=(i:Int)+1:=by rw[IntKind.wrap_i64];omega
 have hb1:(0:Int)≤(i:Int)+1:=by omega
 have hin:i≤n:=by omega
 have htn:((i:Int)+1).toNat=i+1:=by omega
 have hb3:(i:Int)≤(n:Int):=by omega
 clear hkk hik hold hROW hG hRl
 go_enter Tryz.func80,Tryz.ntmps80
 go_wp2_with (first
  | (at_builtin;refine Lib.wpList_append_run _ rfl _ _ _ _ rfl _ _ rfl rfl _ _ (hrz _) ?_)
  | (at_builtin;refine wpList_copy_runI _ rfl _ _ 116 116 rfl _ _ rfl rfl (hcpA _ hE1 hE2 _ _) ?_)
  | (at_builtin;refine wpList_copy_runI _ rfl _ _ 116 116 rfl _ _ rfl rfl (hcpB _ (fun _=>rfl) (fun _=>rfl) _ _ _) ?_))
 go_region_law_o (refine step_copy_runI rfl _ _ 116 116 rfl (.slice (some ⟨w.heap.size,(i+1) * 2,none⟩) (n - i) (G - (i+1))) (.slice (some ⟨b,i * 2,none⟩) (n - i) (c - i)) (by simp[Act.eval,Act.put]) (by simp[Act.eval,Act.put]) (hcpB _ hF1 hF2 3 (G - (i+1)) (c - i)) ?_)
 go_wp2
 go_ret
 exact ⟨rfl,rfl⟩
end
section
open Go.RowKit
structure RowT {α:Type} (f:α→List AV) (sz:Nat):Prop where
 len:∀ x,(f x).length=sz
 no:∀ x, ∀ c∈f x,(∀ t k l,c ≠ .sl (some t) k l)∧∀ t,c ≠ .nilT t
section
variable {α:Type} {f:α→List AV} {sz:Nat} (R:RowT f sz)
include R
theorem RowT.all(l:List α):∀ e∈l.map f,e.length=sz:=fun e he=>by
 obtain ⟨x,_,rfl⟩:=List.mem_map.1 he;exact R.len x
theorem RowT.noOwn(l:List α):noOwn (l.map f):=fun e he=>by
 obtain ⟨x,_,rfl⟩:=List.mem_map.1 he;exact R.no x
theorem RowT.len_hc(cap:Nat)(l:List α):(hc sz cap (l.map f)).length=(max cap l.length) * sz:=by rw[hc_len (R.all l),List.length_map]
theorem RowT.drop_take(cap:Nat)(l:List α)(i:Nat)(d:α)(hi:i<l.length):((hc sz cap (l.map f)).drop (i * sz)).take sz=f (l.getD i d):=by
 apply List.ext_getElem?
 intro j
 have he:(l.map f)[i]?=some (f (l.getD i d)):=by simp[List.getD,hi]
 by_cases hj:j<sz
 ·rw[List.getElem?_take_of_lt hj,List.getElem?_drop,hc_get (R.all l) he hj]
 ·rw[List.getElem?_take_eq_none (by omega),List.getElem?_eq_none (by rw[R.len];omega)]
theorem RowT.ld(cap:Nat)(l:List α)(i:Nat)(d:α)(hi:i<l.length)(K:AV→Prop):RK (ldR (some sz) ((hc sz cap (l.map f)).drop (i * sz))) K=K (.agg (f (l.getD i d))):=by
 have hb:sz≤((hc sz cap (l.map f)).drop (i * sz)).length:=by
  rw[List.length_drop,R.len_hc]
  have:=Nat.mul_le_mul_right sz (show i+1≤max cap l.length by omega)
  rw[Nat.add_mul,Nat.one_mul]at this;omega
 have e:ldR (some sz) ((hc sz cap (l.map f)).drop (i * sz))=fun r=>sz≤((hc sz cap (l.map f)).drop (i * sz)).length∧r=.agg (((hc sz cap (l.map f)).drop (i * sz)).take sz):=by
  funext r;generalize (hc sz cap (l.map f)).drop (i * sz)=X;cases X<;>rfl
 rw[e,RK_and,R.drop_take cap l i d hi]
 exact propext ⟨fun h=>h.2,fun h=>⟨hb,h⟩⟩
theorem RowT.sto(cap:Nat)(l:List α)(i:Nat)(y:α)(hi:i<l.length):splice (hc sz cap (l.map f)) (i * sz) (f y)=hc sz cap ((l.set i y).map f):=by
 have hb:i * sz+(f y).length≤(hc sz cap (l.map f)).length:=by
  rw[R.len_hc,R.len]
  have:=Nat.mul_le_mul_right sz (show i+1≤max cap l.length by omega)
  rw[Nat.add_mul,Nat.one_mul]at this;omega
 apply List.ext_getElem?
 intro p
 rw[a0l _ _ _ hb]
 rcases Nat.eq_zero_or_pos sz with h0|hsz
 ·have hfy:(f y).length=0:=by rw[R.len];exact h0
  rw[if_neg (by omega)]
  have h1:(hc sz cap (l.map f))=[]:=List.eq_nil_of_length_eq_zero (by rw[R.len_hc];subst h0;simp)
  have h2:(hc sz cap ((l.set i y).map f))=[]:=List.eq_nil_of_length_eq_zero (by rw[R.len_hc];subst h0;simp)
  rw[h1,h2]
 have hdm:p / sz * sz+p % sz=p:=by rw[Nat.mul_comm];exact Nat.div_add_mod p sz
 have hml:=Nat.mod_lt p hsz
 by_cases hpl:p / sz<l.length
 ·have hpl':p / sz<(l.set i y).length:=by simpa using hpl
  have he:((l.set i y).map f)[p / sz]?=some (f ((l.set i y).getD (p / sz) y)):=by rw[List.getElem?_map,List.getElem?_eq_getElem hpl',List.getD,List.getElem?_eq_getElem hpl'];rfl
  have he2:(l.map f)[p / sz]?=some (f (l.getD (p / sz) y)):=by simp[List.getD,hpl]
  have r1:=hc_get (cap:=cap) (R.all (l.set i y)) he hml
  have r2:=hc_get (cap:=cap) (R.all l) he2 hml
  rw[hdm]at r1 r2
  rw[r1,r2]
  by_cases hpi:p / sz=i
  ·rw[if_pos (by rw[R.len, ← hpi];omega)]
   have:p - i * sz=p % sz:=by rw[← hpi];omega
   rw[this,hpi]
   simp[List.getD,hi]
  ·rw[if_neg]
   ·have:(l.set i y).getD (p / sz) y=l.getD (p / sz) y:=by simp[List.getD,List.getElem?_set,Ne.symm hpi]
    rw[this]
   ·rw[R.len]
    rintro ⟨a1,a2⟩
    apply hpi
    have b1:i≤p / sz:=(Nat.le_div_iff_mul_le hsz).2 a1
    have b2:p / sz<i+1:=(Nat.div_lt_iff_lt_mul hsz).2 (by rw[Nat.add_mul,Nat.one_mul];exact a2)
    omega
 ·have hge:l.length * sz≤p:=(Nat.le_div_iff_mul_le hsz).1 (Nat.not_lt.1 hpl)
  rw[if_neg]
  ·unfold hc
   have l1:(l.map f).flatten.length=l.length * sz:=by rw[flatten_len (R.all l),List.length_map]
   have l2:((l.set i y).map f).flatten.length=l.length * sz:=by rw[flatten_len (R.all _),List.length_map,List.length_set]
   rw[List.getElem?_append_right (by omega),List.getElem?_append_right (by omega),l1,l2]
   simp
  ·rw[R.len]
   have:=Nat.mul_le_mul_right sz (show i+1≤l.length from hi)
   rw[Nat.add_mul,Nat.one_mul]at this
   omega
variable {P:Program} {d:Option Nat} {s:St} {K:St→Prop} {e bytes:Nat} {q:AV}
end
end
section
open Go.RowKit Go.Lib
set_option maxRecDepth 100000
abbrev PrP:=List UInt8 × List UInt8
abbrev prC(p:PrP):List AV:=[.str p.1,.str p.2]
theorem prRow:RowT prC 2 where
 len:=fun _=>rfl
 no:=fun x c h=>by
  simp only[List.mem_cons,List.not_mem_nil,or_false]at h
  rcases h with rfl|rfl<;>exact ⟨fun _ _ _ e=>(by cases e),fun _ e=>(by cases e)⟩
def hcP(cap:Nat)(L:List PrP):List AV:=hc 2 cap (L.map prC)
def a7Q(L:List PrP)(i:Nat)(x:PrP):List PrP:=L.take i++[x]++L.drop i
theorem a7j(L:List PrP)(i:Nat)(x:PrP)(h:i≤L.length):(a7Q L i x).length=L.length+1:=by simp[a7Q];omega
def splL{α:Type}(C:List α)(o:Nat)(v:List α):List α:=C.take o++v++C.drop (o+v.length)
theorem spl_A{α:Type}{C v D:List α}{a:Nat}(hv:v.length=2)(hl:a+2+D.length≤C.length):splL (splL C (a+2) D) a v=C.take a++v++D++C.drop (a+2+D.length):=by
 have h1:(C.take (a+2)).length=a+2:=by rw[List.length_take];omega
 unfold splL
 rw[List.append_assoc (C.take (a+2)),List.take_append_of_le_length (by omega),List.take_take,show min a (a+2)=a by omega,hv,List.drop_append_of_le_length (by omega),List.drop_of_length_le (by omega:(C.take (a+2)).length≤a+2)]
 simp
theorem spl_B{α:Type}{C v D:List α}{a:Nat}(hv:v.length=2)(hl:a+2+D.length≤C.length):splL (splL C a v) (a+2) D=C.take a++v++D++C.drop (a+2+D.length):=by
 have h1:(C.take a++v).length=a+2:=by rw[List.length_append,List.length_take];omega
 unfold splL
 rw[hv,List.take_append_of_le_length (by omega),List.take_of_length_le (by omega),List.drop_append,List.drop_of_length_le (by omega:(C.take a++v).length≤a+2+D.length),h1,List.drop_drop,List.nil_append,show a+2+(a+2+D.length - (a+2))=a+2+D.length by omega]
theorem a4X(w:World)(a b:Array Value)(t:TypeId):(w.alloc (.cells a t)).setRow w.heap.size b=w.alloc (.cells b t):=by
 unfold World.setRow World.alloc
 congr 1
 apply Array.ext_getElem?
 intro i
 rw[Array.getElem?_modify,Array.getElem?_push,Array.getElem?_push]
 split
 ·rename_i e;subst e;simp
 ·rename_i e;rw[if_neg (fun h=>e h.symm),if_neg (fun h=>e h.symm)]
theorem lk_upd{α:Type}(l:List (Nat × α))(k:Nat)(a:α):upd (lk l) k (some a)=lk ((k,a)::l):=by
 funext j;simp[upd,lk]
theorem ins_get{cs vs:List Value}{L:List PrP}{x:PrP}{i:Nat}{R:Value→AV→Prop}(hi:i≤L.length)(hcl:cs.length=L.length * 2)(hvl:vs.length=2)
  (hc:∀ k j c,k<L.length→(prC (L.getD k default))[j]?=some c→R (cs.getD (k * 2+j) undef) c) (hv:∀ j c,(prC x)[j]?=some c→R (vs.getD j undef) c):
  ∀ (k:Nat) (e:List AV) (j:Nat) (c:AV),((a7Q L i x).map prC)[k]?=some e→e[j]?=some c→R ((cs.take (i * 2)++vs++cs.drop (i * 2)).getD (k * 2+j) undef) c:=by
 intro k e j c he hc'
 have hk:k<L.length+1:=by
  have:=(List.getElem?_eq_some_iff.1 he).1
  rwa [List.length_map,a7j L i x hi]at this
 obtain ⟨y,hy,rfl⟩:∃ y,(a7Q L i x)[k]?=some y∧prC y=e:=by rw[List.getElem?_map]at he;exact Option.map_eq_some_iff.1 he
 have hj:j<2:=(List.getElem?_eq_some_iff.1 hc').1
 have htl:(cs.take (i * 2)).length=i * 2:=by rw[List.length_take];omega
 unfold a7Q at hy
 have htL:(L.take i).length=i:=by rw[List.length_take];omega
 rcases Nat.lt_trichotomy k i with h|h|h
 ·rw[List.append_assoc,List.getElem?_append_left (by omega),List.getElem?_take_of_lt h]at hy
  have hkL:k<L.length:=by omega
  have e1:L.getD k default=y:=by simp[List.getD,hy]
  have:=hc k j c hkL (by rw[e1];exact hc')
  rw[List.append_assoc,List.getD,List.getElem?_append_left (by omega),List.getElem?_take_of_lt (by omega)]
  exact this
 ·subst h
  rw[List.append_assoc,List.getElem?_append_right (by omega),htL,Nat.sub_self]at hy
  obtain rfl:x=y:=by simpa using hy
  have:=hv j c hc'
  rw[List.append_assoc,List.getD,List.getElem?_append_right (by omega),List.getElem?_append_left (by omega),htl,show k * 2+j - k * 2=j by omega]
  exact this
 ·rw[List.append_assoc,List.getElem?_append_right (by omega),htL,List.getElem?_append_right (by simp;omega),List.length_singleton,List.getElem?_drop,show i+(k - i - 1)=k - 1 by omega]at hy
  have e1:L.getD (k - 1) default=y:=by simp[List.getD,hy]
  have:=hc (k - 1) j c (by omega) (by rw[e1];exact hc')
  rw[List.append_assoc,List.getD,List.getElem?_append_right (by omega),List.getElem?_append_right (by omega),htl,hvl,List.getElem?_drop,show i * 2+(k * 2+j - i * 2 - 2)=(k - 1) * 2+j by omega]
  exact this
abbrev c1r(g gv cap capv i:Nat)(L:List PrP)(x:PrP):Option Nat × Nat→List (Nat × List AV)
 | (none,c)=>[(g,hcP c (a7Q L i x)),(gv,hcP capv [x])]
 | (some b,c)=>[(b,hcP c (a7Q L i x)),(g,hcP cap L),(gv,hcP capv [x])]
def c2d(g gv n:Nat)(y:Option Nat × Nat):Prop:=n+1≤y.2∧∀ b,y.1=some b→(¬ b=g∧¬ g=b)∧¬ b=gv∧¬ gv=b
set_option maxHeartbeats 8000000 in
theorem c1U(g gv cap capv i:Nat)(L:List PrP)(x:PrP)(hgv:¬ gv=g∧¬ g=gv)(hi:i≤L.length)(hb:L.length≤1000000):
  CT Tryz.prog 80 [.hsl g 115 2 L.length cap,.int .i64 (i:Int),.hsl gv 115 2 1 capv] (lk [(g,hcP cap L),(gv,hcP capv [x])])
   (fun r o=>∃ y,c2d g gv L.length y∧r=.hsl (y.1.getD g) 115 2 (L.length+1) y.2∧o=lk (c1r g gv cap capv i L x y)):=by
 intro W U vs hlen hv hI
 obtain ⟨v0,v1,v2,rfl⟩:∃ v0 v1 v2,vs=[v0,v1,v2]:=by
  match vs,hlen with
  | [v0,v1,v2],_=>exact ⟨v0,v1,v2,rfl⟩
 have h0:=hv 0 v0 _ rfl rfl
 have h1:=hv 1 v1 _ rfl rfl
 have h2:=hv 2 v2 _ rfl rfl
 cases h0 with
 | hsl _ _ _ _ _ n1 n2 hm=>
 cases h2 with
 | hsl _ _ _ _ _ m1 m2 hm2=>
 cases h1
 obtain ⟨_,_,c3⟩:=hm
 obtain ⟨_,_,d3⟩:=hm2
 obtain ⟨cur,ty,g1,g2,g3,g4,g5⟩:=hI.obc (b:=g) (cs:=hcP cap L) (by simp[lk]) ⟨_,_,_,c3⟩
 obtain ⟨cuv,tv,e1,e2,e3,e4,e5⟩:=hI.obc (b:=gv) (cs:=hcP capv [x]) (by simp[lk,hgv]) ⟨_,_,_,d3⟩
 have hty:ty.1=115:=by
  have h:=c3.symm.trans g1
  simp only[Option.some.injEq,Obj.cells.injEq]at h
  exact h.2.1.symm
 have htv:tv.1=115:=by
  have h:=d3.symm.trans e1
  simp only[Option.some.injEq,Obj.cells.injEq]at h
  exact h.2.1.symm
 rw[hty]at g1
 rw[htv]at e1
 have s1:cur.size=cap * 2:=by rw[g2,hcP,prRow.len_hc];congr 1;omega
 have s2:cuv.size=capv * 2:=by rw[e2,hcP,prRow.len_hc];congr 1;simp;omega
 obtain ⟨cs,hcs⟩:∃ cs:List Value,cs=cur.toList.take (L.length * 2):=⟨_,rfl⟩
 obtain ⟨ws,hws⟩:∃ ws:List Value,ws=cuv.toList.take 2:=⟨_,rfl⟩
 have hlc:cur.toList.length=cur.size:=Array.length_toList
 have hlw:cuv.toList.length=cuv.size:=Array.length_toList
 have hcl:cs.length=L.length * 2:=by rw[hcs,List.length_take];omega
 have hwl:ws.length=2:=by rw[hws,List.length_take];omega
 have hce:∀ j v,cs[j]?=some v→cur[j]?=some v∧j<L.length * 2:=fun j v h=>by
  have hj:=(List.getElem?_eq_some_iff.1 h).1
  rw[hcs,List.getElem?_take_of_lt (by omega)]at h
  exact ⟨by simpa using h,by omega⟩
 have hwe:∀ j v,ws[j]?=some v→cuv[j]?=some v∧j<2:=fun j v h=>by
  have hj:=(List.getElem?_eq_some_iff.1 h).1
  rw[hws,List.getElem?_take_of_lt (by omega)]at h
  exact ⟨by simpa using h,by omega⟩
 have hcell:∀ j v,cs[j]?=some v→W.cell? ⟨g,j,none⟩=some v:=fun j v h=>by rw[cell_of_row W g j cur _ (0,0) g1];exact (hce j v h).1
 have hwell:∀ j v,ws[j]?=some v→W.cell? ⟨gv,j,none⟩=some v:=fun j v h=>by rw[cell_of_row W gv j cuv _ (0,0) e1];exact (hwe j v h).1
 have one:∀ (j:Nat) (v:Value),cur[j]?=some v→v.oneCell'=true:=fun j v h=>by
  have hj:=(Array.getElem?_eq_some_iff.1 h).1
  have:=(g3 j _ (List.getElem?_eq_getElem (l:=hcP cap L) (by omega))).2
  rwa [Array.getD_eq_getD_getElem?,h,Option.getD_some]at this
 have h1c:∀ v∈cs,v.oneCell'=true:=fun v h=>by
  obtain ⟨j,hj,rfl⟩:=List.getElem_of_mem h
  exact one j _ (hce j _ (List.getElem?_eq_getElem hj)).1
 have h1w:∀ v∈ws,v.oneCell'=true:=fun v h=>by
  obtain ⟨j,hj,rfl⟩:=List.getElem_of_mem h
  have h5:=(hwe j _ (List.getElem?_eq_getElem hj))
  have:=(e3 j _ (List.getElem?_eq_getElem (l:=hcP capv [x]) (by omega))).2
  rwa [Array.getD_eq_getD_getElem?,h5.1,Option.getD_some]at this
 -- what the cells behind the insertion read as
 have hget:=ins_get (R:=VR W U) (cs:=cs) (vs:=ws) (L:=L) (x:=x) (i:=i) hi hcl hwl
  (fun k j c hk hc=>by
   have hj:j<2:=(List.getElem?_eq_some_iff.1 hc).1
   have h5:=hc_get (sz:=2) (cap:=cap) (prRow.all L) (i:=k) (j:=j) (e:=prC (L.getD k default)) (by simp[List.getD,hk]) hj
   have h6:=(g3 (k * 2+j) c (by rw[hcP,h5];exact hc)).1
   have e:cs.getD (k * 2+j) undef=cur.getD (k * 2+j) undef:=by
    rw[hcs,List.getD,List.getElem?_take_of_lt (by omega),Array.getD_eq_getD_getElem?];simp
   rw[e];exact h6)
  (fun j c hc=>by
   have hj:j<2:=(List.getElem?_eq_some_iff.1 hc).1
   have h5:=hc_get (sz:=2) (cap:=capv) (prRow.all [x]) (i:=0) (j:=j) (e:=prC x) (by simp) hj
   have h6:=(e3 (0 * 2+j) c (by rw[hcP,h5];exact hc)).1
   rw[Nat.zero_mul,Nat.zero_add]at h6
   have e:ws.getD j undef=cuv.getD j undef:=by
    rw[hws,List.getD,List.getElem?_take_of_lt hj,Array.getD_eq_getD_getElem?];simp
   rw[e];exact h6)
 obtain ⟨NW,hNW⟩:∃ NW,NW=cs.take (i * 2)++ws++cs.drop (i * 2):=⟨_,rfl⟩
 rw[← hNW]at hget
 have hNl:NW.length=(L.length+1) * 2:=by rw[hNW];simp only[List.length_append,List.length_take,List.length_drop,hcl,hwl];omega
 have hN1:∀ v∈NW,v.oneCell'=true:=fun v h=>by
  rw[hNW]at h
  rcases List.mem_append.1 h with h|h
  ·rcases List.mem_append.1 h with h|h
   ·exact h1c v (List.mem_of_mem_take h)
   ·exact h1w v h
  ·exact h1c v (List.mem_of_mem_drop h)
 have hil:=a7j L i x hi
 have hread:∀ (A:Array Value) (c':Nat),(∀ j,j<(L.length+1) * 2→A[j]?=NW[j]?)→∀ j c,(hcP c' (a7Q L i x))[j]?=some c→VR W U (A.getD j undef) c:=fun A c' hA j c hc=>by
  rcases hc_cases (sz:=2) (by omega) (prRow.all (a7Q L i x)) hc with ⟨e,q1,q2⟩ | ⟨rfl,_⟩
  ·have hk:j / 2<L.length+1:=by
    have:=(List.getElem?_eq_some_iff.1 q1).1
    rwa [List.length_map,hil]at this
   have h5:=hget _ _ _ _ q1 q2
   rw[show j / 2 * 2+j % 2=j by omega]at h5
   rw[Array.getD_eq_getD_getElem?,hA j (by omega)]
   exact h5
  ·exact .any _
 have dom:∀ y, ∀ b cs',lk [(g,hcP cap L),(gv,hcP capv [x])] b=some cs'→∃ cs'',lk (c1r g gv cap capv i L x y) b=some cs'':=fun y b cs' h=>by
  obtain ⟨y1,y2⟩:=y
  cases y1 with
  | none=>
   simp only[lk_cons]at h ⊢
   by_cases q1:b=g
   ·rw[if_pos q1];exact ⟨_,rfl⟩
   ·rw[if_neg q1]at h ⊢;exact ⟨_,h⟩
  | some b'=>
   simp only[lk_cons]at h ⊢
   by_cases q1:b=b'
   ·rw[if_pos q1];exact ⟨_,rfl⟩
   ·rw[if_neg q1];exact ⟨_,h⟩
 have hno:∀ (c' j t k:Nat) (l:List (List AV)),(hcP c' (a7Q L i x))[j]?≠some (.sl (some t) k l):=fun c' j t k l h=>(noOwn_cell (by omega) (prRow.all _) (prRow.noOwn _) h).1 t k l rfl
 have hhd:∀ (c' u:Nat),a1p (hcP c' (a7Q L i x))≠some u:=fun c' u=>headT_no (fun c hc=>(noOwn_cell (by omega) (prRow.all _) (prRow.noOwn _) hc).2) u
 -- in place
 have inpl:∀ (Wd:World) (A:Array Value),Ext W U Wd U→Wd.heap=W.heap→L.length+1≤cap→A.size=cur.size→(∀ j,j<(L.length+1) * 2→A[j]?=NW[j]?)→(∀ j,(L.length+1) * 2≤j→A[j]?=cur[j]?)→
   ∃ v U' r o',Ending.returned (.slice (some ⟨g,0,none⟩) (L.length+1) cap)=.returned v∧(∃ y,c2d g gv L.length y∧r=.hsl (y.1.getD g) 115 2 (L.length+1) y.2∧o'=lk (c1r g gv cap capv i L x y))∧
    (∀ b cs,lk [(g,hcP cap L),(gv,hcP capv [x])] b=some cs→∃ cs',o' b=some cs')∧Inv 1 W U (a0q W (lk [(g,hcP cap L),(gv,hcP capv [x])])) { tmps := #[v],defers:=[] } (Wd.setRow g A) U' ⟨upd (fun _=>none) 0 (some r),o'⟩:=fun Wd A hE hh hroom hAs hA hA2=>by
  have hg1:Wd.heap[g]?=some (.cells cur 115 (0,0)):=by rw[hh];exact g1
  have hone:∀ j,j<A.size→(A.getD j undef).oneCell'=true:=fun j hj=>by
   rw[Array.getD_eq_getD_getElem?]
   by_cases q:j<(L.length+1) * 2
   ·rw[hA j q,List.getElem?_eq_getElem (by omega)];exact hN1 _ (List.getElem_mem _)
   ·rw[hA2 j (by omega),Array.getElem?_eq_getElem (by omega)];exact one j _ (Array.getElem?_eq_getElem (by omega))
  have hlc':(hcP cap (a7Q L i x)).length=cap * 2:=by rw[hcP,prRow.len_hc,hil];congr 1;omega
  have h6:=(hI.ext hE).seto (b:=g) (cs:=hcP cap L) (cs':=hcP cap (a7Q L i x)) (vs':=A) (by simp[lk]) hg1 (by rw[hlc', ← s1,g2]) hAs
   (fun j c hc=>⟨(hread A cap hA j c hc).keep hE.keeps,hone j (by have:=(List.getElem?_eq_some_iff.1 hc).1;omega)⟩) (fun u hu=>absurd hu (hhd cap u)) (fun j t k l hj=>absurd hj (hno cap j t k l))
  have ho:upd (lk [(g,hcP cap L),(gv,hcP capv [x])]) g (some (hcP cap (a7Q L i x)))=lk (c1r g gv cap capv i L x (none,cap)):=by
   funext b;simp only[upd,lk];split<;>rfl
  simp only[ho]at h6
  refine ⟨_,U,_,_,rfl,⟨(none,cap),⟨hroom,fun b hb=>by cases hb⟩,rfl,rfl⟩,dom (none,cap),h6.res1 (.hsl _ _ _ _ _ hroom n2 ⟨_,_,setRow_heap Wd g cur A _ (0,0) hg1⟩) (Sole.plain fun _ _ _ e=>by cases e)⟩
 -- a new row
 have fresh:∀ (Wd:World) (A:Array Value) (c':Nat),Ext W U Wd U→Wd.heap.size=W.heap.size→L.length+1≤c'→c'≤maxLen→A.size=c' * 2→(∀ j,j<(L.length+1) * 2→A[j]?=NW[j]?)→(∀ v∈A,v.oneCell'=true)→
   ∃ v U' r o',Ending.returned (.slice (some ⟨W.heap.size,0,none⟩) (L.length+1) c')=.returned v∧(∃ y,c2d g gv L.length y∧r=.hsl (y.1.getD g) 115 2 (L.length+1) y.2∧o'=lk (c1r g gv cap capv i L x y))∧
    (∀ b cs,lk [(g,hcP cap L),(gv,hcP capv [x])] b=some cs→∃ cs',o' b=some cs')∧Inv 1 W U (a0q W (lk [(g,hcP cap L),(gv,hcP capv [x])])) { tmps := #[v],defers:=[] } (Wd.alloc (.cells A 115)) U' ⟨upd (fun _=>none) 0 (some r),o'⟩:=fun Wd A c' hE hh hroom hmx hAs hA h1A=>by
  have hlc':(hcP c' (a7Q L i x)).length=c' * 2:=by rw[hcP,prRow.len_hc,hil];congr 1;omega
  have h6:=(hI.ext hE).newo (vs:=A) (cs:=hcP c' (a7Q L i x)) (ty:=115) (by rw[hlc',hAs]) (fun u hu=>absurd hu (hhd c' u)) (fun j u hu=>⟨h1A u (Array.mem_of_getElem? hu),fun z hz=>⟨by
   have:=(hread A c' hA j z hz).keep hE.keeps
   rwa [Array.getD_eq_getD_getElem?,hu,Option.getD_some]at this,fun e k l hz'=>absurd (hz'▸hz) (hno c' j e k l)⟩⟩)
  rw[hh,lk_upd]at h6
  have hlg:g<W.heap.size:=(Array.getElem?_eq_some_iff.1 g1).1
  have hlgv:gv<W.heap.size:=(Array.getElem?_eq_some_iff.1 e1).1
  refine ⟨_,_,_,_,rfl,⟨(some W.heap.size,c'),⟨hroom,fun b hb=>by cases hb;exact ⟨⟨by omega,by omega⟩,by omega,by omega⟩⟩,rfl,rfl⟩,dom (some W.heap.size,c'),h6.res1 (.hsl _ _ _ _ _ hroom hmx ⟨_,_,by have:=heap_alloc_new Wd (.cells A 115);rwa [hh]at this⟩) (Sole.plain fun _ _ _ e=>by cases e)⟩
 -- the row of cells
 have hrest:∀ (C:List Value) (c':Nat),(∀ j,j<(L.length+1) * 2→(NW++C).toArray[j]?=NW[j]?):=fun C c' j hj=>by rw[List.getElem?_toArray,List.getElem?_append_left (by omega)]
 by_cases hin:i=L.length
 ·have hNWe:NW=cs++ws:=by
   rw[hNW,hin,List.take_of_length_le (by omega),List.drop_of_length_le (by omega),List.append_nil]
  have e0:(Value.int .i64 (i:Int))=.int .i64 (L.length:Int):=by rw[hin]
  rw[e0]
  by_cases hroom:L.length+1≤cap
  ·refine (b1v g L.length cap gv capv ws W hroom hwl (fun j hj=>?_) (fun j hj=>by simp[World.frozen?,g1]) hwell h1w).mono ?_
   ·rw[cell_of_row W g _ cur _ (0,0) g1,Array.getElem?_eq_getElem (by omega)];rfl
   ·rintro e W' ⟨rfl,rfl⟩
    rw[a0C g 115 (0,0) ws (L.length * 2) cur W g1 (by omega),hwl]
    have hA:(cur.toList.take (L.length * 2)++ws++cur.toList.drop (L.length * 2+2)).toArray=(NW++cur.toList.drop (L.length * 2+2)).toArray:=by rw[hNWe,hcs]
    rw[hA]
    refine inpl W _ (Ext.refl W U) rfl hroom ?_ (hrest _ cap) (fun j hj=>?_)
    ·rw[List.size_toArray,List.length_append,List.length_drop];omega
    ·rw[List.getElem?_toArray,List.getElem?_append_right (by omega),List.getElem?_drop,hNl,show L.length * 2+2+(j - (L.length+1) * 2)=j by omega];simp
  ·refine (a6J (some ⟨g,0,none⟩) L.length cap gv capv cs ws W n1 (by omega) (by omega) hcl hwl (fun h=>by cases h) (fun a ha j v hj=>by cases ha;rw[Addr.add_lit,Nat.zero_add];exact hcell j v hj) hwell h1w).mono ?_
   rintro e W' ⟨rfl,rfl⟩
   have hge:=grownCap_ge W (L.length+1) cap 115
   have hcm:=grownCap_le_maxLen W (L.length+1) cap 115 (by unfold maxLen;omega)
   refine fresh W.drew _ _ (Ext.refl W U).drew rfl hge hcm ?_ (fun j hj=>?_) (fun v hv'=>?_)
   ·rw[Array.size_append,size_zeroCells,List.size_toArray,List.length_append,hcl,hwl]
    show L.length * 2+2+(_ - _) * 2=_;omega
   ·rw[Array.getElem?_append_left (by rw[List.size_toArray, ← hNWe];omega),List.getElem?_toArray,hNWe]
   ·rcases Array.mem_append.1 hv' with h|h
    ·exact hN1 v (by rw[hNWe];simpa using h)
    ·have:=mem_zeroCells h
     have h9:v=.string ⟨#[]⟩:=by simpa[zPr,Value.cells]using this
     rw[h9];rfl
 have hil':i<L.length:=by omega
 have hdl:(cs.drop (i * 2)).length=(L.length - i) * 2:=by rw[List.length_drop,hcl];omega
 have htk:cur.toList.take (i * 2)=cs.take (i * 2):=by rw[hcs,List.take_take];congr 1;omega
 have hd1:∀ v∈cs.drop (i * 2),v.oneCell'=true:=fun v h=>h1c v (List.mem_of_mem_drop h)
 by_cases hroom:L.length+1≤cap
 ·refine (b4D g L.length cap i gv capv cs ws W hil' hroom (by unfold maxLen at n2;omega) (fun e=>hgv.1 e) hcl hwl hcell (fun j hj=>?_) (fun j hj=>by simp[World.frozen?,g1]) hwell h1c h1w _ _ cuv.size cur.size (by simp only[World.shape?,e1];rfl) (by simp only[World.shape?,g1];rfl) (by omega) (by simp[World.frozen?,e1]) (by simp[World.frozen?,e1])).mono ?_
  ·rw[cell_of_row W g _ cur _ (0,0) g1,Array.getElem?_eq_getElem (by omega)];rfl
  ·rintro e W' ⟨rfl,rfl⟩
   have hg1:W.drew.heap[g]?=some (.cells cur 115 (0,0)):=g1
   rw[a0C g 115 (0,0) _ _ cur W.drew hg1 (by omega)]
   rw[a0C g 115 (0,0) ws _ _ _ (setRow_heap W.drew g cur _ _ (0,0) hg1) (by rw[List.size_toArray];simp only[List.length_append,List.length_take,List.length_drop];omega),setRow_setRow]
   have hA:=spl_A (C:=cur.toList) (v:=ws) (D:=cs.drop (i * 2)) (a:=i * 2) hwl (by omega)
   unfold splL at hA
   rw[htk, ← hNW]at hA
   rw[show (i+1) * 2=i * 2+2 by omega,hA]
   refine inpl W.drew _ (Ext.refl W U).drew rfl hroom ?_ (hrest _ cap) (fun j hj=>?_)
   ·rw[List.size_toArray,List.length_append,List.length_drop];omega
   ·rw[List.getElem?_toArray,List.getElem?_append_right (by omega),List.getElem?_drop,hNl,show i * 2+2+(cs.drop (i * 2)).length+(j - (L.length+1) * 2)=j by omega];simp
 ·refine (b6r g L.length cap i gv capv cs ws W hil' n1 (by omega) (by omega) hcl hwl hcell hwell h1c h1w).mono ?_
  rintro e W' ⟨rfl,rfl⟩
  have hge:=grownCap_ge W (L.length+1) cap 115
  have hcm:=grownCap_le_maxLen W (L.length+1) cap 115 (by unfold maxLen;omega)
  generalize grownCap W (L.length+1) cap 115=G at *
  obtain ⟨R,hR⟩:∃ R:Array Value,R=(cs.take (i * 2)).toArray++Builtin.zeroCells zPr.cells (L.length+1 - i)++Builtin.zeroCells zPr.cells (G - (L.length+1)):=⟨_,rfl⟩
  rw[← hR]
  have hRs:R.size=G * 2:=by
   rw[hR,Array.size_append,Array.size_append,size_zeroCells,size_zeroCells,List.size_toArray,List.length_take,hcl]
   show min (i * 2) (L.length * 2)+(_ - _) * 2+(_ - _) * 2=_;omega
  have hRl:R.toList.length=R.size:=Array.length_toList
  have hRt:R.toList.take (i * 2)=cs.take (i * 2):=by
   rw[hR,Array.toList_append,Array.toList_append,List.append_assoc,List.take_append_of_le_length (by simp;omega),List.take_of_length_le (by simp;omega)]
  have hR1:∀ v∈R.toList,v.oneCell'=true:=fun v h=>by
   rw[hR,Array.toList_append,Array.toList_append]at h
   have hz:∀ n,v∈(Builtin.zeroCells zPr.cells n).toList→v.oneCell'=true:=fun n h=>by
    have:=mem_zeroCells (Array.mem_toList_iff.1 h)
    have h9:v=.string ⟨#[]⟩:=by simpa[zPr,Value.cells]using this
    rw[h9];rfl
   rcases List.mem_append.1 h with h|h
   ·rcases List.mem_append.1 h with h|h
    ·exact h1c v (List.mem_of_mem_take h)
    ·exact hz _ h
   ·exact hz _ h
  have hx1:((W.alloc (.cells R 115)).drew).heap[W.heap.size]?=some (.cells R 115 (0,0)):=heap_alloc_new W _
  rw[a0C W.heap.size 115 (0,0) ws (i * 2) R _ hx1 (by omega)]
  have hx2:=setRow_heap _ W.heap.size R (R.toList.take (i * 2)++ws++R.toList.drop (i * 2+ws.length)).toArray _ (0,0) hx1
  rw[a0C W.heap.size 115 (0,0) (cs.drop (i * 2)) ((i+1) * 2) _ ((W.alloc (.cells R 115)).drew.setRow W.heap.size (R.toList.take (i * 2)++ws++R.toList.drop (i * 2+ws.length)).toArray).drew hx2 (by rw[List.size_toArray];simp only[List.length_append,List.length_take,List.length_drop];omega)]
  have hB:=spl_B (C:=R.toList) (v:=ws) (D:=cs.drop (i * 2)) (a:=i * 2) hwl (by omega)
  unfold splL at hB
  rw[hRt, ← hNW]at hB
  rw[show (i+1) * 2=i * 2+2 by omega,hRt,hB]
  have hw:∀ (A B:Array Value),(((W.alloc (.cells R 115)).drew.setRow W.heap.size A).drew).setRow W.heap.size B=W.drew.drew.alloc (.cells B 115):=fun A B=>by
   have q1:(W.alloc (.cells R 115)).drew.setRow W.heap.size A=W.drew.alloc (.cells A 115):=a4X W.drew R A _
   rw[q1]
   exact a4X W.drew.drew A B _
  rw[hw]
  refine fresh W.drew.drew _ _ (Ext.refl W U).drew.drew rfl hge hcm ?_ (hrest _ cap) (fun v hv'=>?_)
  ·rw[List.size_toArray,List.length_append,List.length_drop];omega
  ·rcases List.mem_append.1 (by simpa using hv') with h|h
   ·exact hN1 v h
   ·exact hR1 v (List.mem_of_mem_drop h)
end
section
open Go
def ltS(a b:List UInt8):Bool:=Op.bytesLess a b
theorem b1w(a b:List UInt8):ltS a b=true↔a<b:=by simp[ltS,bytesLess_eq]
theorem b4F(a b:List UInt8):ltS a b=false↔¬ a<b:=by rw[← b1w];simp
theorem strSTO:STO ltS where
 irr a:=(b4F a a).2 (b4E a)
 tr a b c h1 h2:=by rw[b1w]at *;exact List.lt_trans h1 h2
 tot a b h1 h2:=lst_tot ((b4F _ _).1 h1) ((b4F _ _).1 h2)
def a0v(L:List PrP)(k:List UInt8):Nat:=(L.takeWhile fun p=>ltS p.1 k).length
def a1G(L:List PrP)(k:List UInt8):Bool:=decide (a0v L k<L.length)&&decide ((L.getD (a0v L k) default).1=k)
def a4E(L:List PrP)(k:List UInt8):List UInt8:=if a1G L k=true then (L.getD (a0v L k) default).2 else []
def a2f(L:List PrP)(k v:List UInt8):List PrP:=L.take (a0v L k)++[(k,v)]++L.drop (if a1G L k=true then a0v L k+1 else a0v L k)
def a2Q(L:List PrP):Prop:=L.Pairwise fun p q=>ltS p.1 q.1=true
theorem a5y(L:List PrP)(k:List UInt8):a0v L k≤L.length:=(List.takeWhile_sublist _).length_le
theorem a3l(k:List UInt8):∀ (L:List PrP) (i:Nat),i<a0v L k→ltS (L.getD i default).1 k=true
 | [],i,h=>by simp[a0v]at h
 | y::r,i,h=>by
  unfold a0v at h
  rw[List.takeWhile_cons]at h
  split at h
  ·rename_i hy
   cases i with
   | zero=>exact hy
   | succ i=>exact a3l k r i (by simpa[a0v]using h)
  ·simp at h
theorem b0m(k:List UInt8):∀ (L:List PrP),a0v L k<L.length→ltS (L.getD (a0v L k) default).1 k=false
 | [],h=>by simp at h
 | y::r,h=>by
  by_cases hy:ltS y.1 k=true
  ·have e:a0v (y::r) k=a0v r k+1:=by unfold a0v;rw[List.takeWhile_cons,if_pos hy];simp
   rw[e]at h ⊢
   exact b0m k r (by simpa using h)
  ·have e:a0v (y::r) k=0:=by unfold a0v;rw[List.takeWhile_cons,if_neg hy];rfl
   rw[e];simpa using hy
theorem riseS_get{L:List PrP}(h:a2Q L){i j:Nat}(hij:i<j)(hj:j<L.length):ltS (L.getD i default).1 (L.getD j default).1=true:=by
 have:=List.pairwise_iff_getElem.1 h i j (by omega) hj hij
 simpa[List.getD,hj,show i<L.length by omega]using this
theorem pos_behind{L:List PrP}(h:a2Q L)(k:List UInt8)(i:Nat)(h1:a0v L k≤i)(h2:i<L.length):ltS (L.getD i default).1 k=false:=by
 have h3:=b0m k L (by omega)
 by_cases e:i=a0v L k
 ·rw[e];exact h3
 ·cases hq:ltS (L.getD i default).1 k with
  | false=>rfl
  | true=>rw[strSTO.tr _ _ _ (riseS_get h (by omega) h2) hq]at h3;cases h3
theorem pos_unique{L:List PrP}(h:a2Q L)(k:List UInt8)(n:Nat)(hn:n≤L.length)(h1:∀ i,i<n→ltS (L.getD i default).1 k=true)(h2:∀ i,n≤i→i<L.length→ltS (L.getD i default).1 k=false):a0v L k=n:=by
 have hp:=a5y L k
 rcases Nat.lt_trichotomy (a0v L k) n with g|g|g
 ·have a:=h1 _ g
  rw[pos_behind h k _ (Nat.le_refl _) (by omega)]at a;cases a
 ·exact g
 ·have a:=a3l k L n g
  rw[h2 n (Nat.le_refl _) (by omega)]at a;cases a
theorem setS_rise{L:List PrP}(h:a2Q L)(k v:List UInt8):a2Q (a2f L k v):=by
 have hp:=a5y L k
 have ht:∀ x∈L.take (a0v L k),ltS x.1 k=true:=fun x hx=>by
  obtain ⟨i,hi,rfl⟩:=List.getElem_of_mem hx
  have hi':i<a0v L k∧i<L.length:=by simp at hi;omega
  have:=a3l k L i hi'.1
  simpa[List.getD,hi'.2]using this
 have hd:∀ x∈L.drop (if a1G L k=true then a0v L k+1 else a0v L k),ltS k x.1=true:=fun x hx=>by
  by_cases hh:a1G L k=true
  ·rw[if_pos hh]at hx
   simp only[a1G,Bool.and_eq_true,decide_eq_true_eq]at hh
   obtain ⟨i,hi,rfl⟩:=List.getElem_of_mem hx
   rw[List.length_drop]at hi
   have:=riseS_get h (i:=a0v L k) (j:=a0v L k+1+i) (by omega) (by omega)
   rw[hh.2]at this
   rw[List.getElem_drop]
   have e:L.getD (a0v L k+1+i) default=L[a0v L k+1+i]:=by simp[List.getD,show a0v L k+1+i<L.length by omega]
   rwa [e]at this
  ·rw[if_neg hh]at hx
   obtain ⟨i,hi,rfl⟩:=List.getElem_of_mem hx
   rw[List.length_drop]at hi
   have h1:=pos_behind h k (a0v L k+i) (by omega) (by omega)
   have h2:(L.getD (a0v L k+i) default).1≠k:=fun e=>by
    by_cases h0:i=0
    ·subst h0
     refine hh ?_
     simp only[a1G,Bool.and_eq_true,decide_eq_true_eq]
     exact ⟨by omega,e⟩
    ·have a:=riseS_get h (i:=a0v L k) (j:=a0v L k+i) (by omega) (by omega)
     have b:=b0m k L (by omega)
     rw[e]at a;rw[a]at b;cases b
   have h3:ltS k (L.getD (a0v L k+i) default).1=true:=by
    cases hq:ltS k (L.getD (a0v L k+i) default).1 with
    | true=>rfl
    | false=>exact absurd (strSTO.tot _ _ h1 hq) h2
   rw[List.getElem_drop]
   have e:L.getD (a0v L k+i) default=L[a0v L k+i]:=by simp[List.getD,show a0v L k+i<L.length by omega]
   rwa [e]at h3
 unfold a2f a2Q
 rw[List.append_assoc]
 refine List.pairwise_append.2 ⟨List.Pairwise.sublist (List.take_sublist _ _) h,List.pairwise_cons.2 ⟨hd,List.Pairwise.sublist (List.drop_sublist _ _) h⟩,fun a ha b hb=>?_⟩
 rcases List.mem_cons.1 hb with rfl|hb
 ·exact ht a ha
 ·exact strSTO.tr _ _ _ (ht a ha) (hd b hb)
end
end Go.Proofs.YtfgihnhoocnmdaaGreatDoor
