import Derived.Test.YtfgihnhoocnmdaaGreatDoorK4
import Derived.Maps.RangeRun
import Derived.Test.YtfgihnhoocnmdaaGreatDoorK2
import Derived.Deep.AppendSrc
namespace Go.Proofs.YtfgihnhoocnmdaaGreatDoor
set_option linter.all false
set_option maxHeartbeats 9000000
section
open Go.RowKit

section
variable {P:Program} {N:Nat} {W0:World} {U0:Nat→Nat→Prop} {M:Nat→Prop} {a:Act} {W W':World} {U:Nat→Nat→Prop} {s:St} {o:Oper} {r:AV}
theorem muS_some{q:Nat}{z:AV}{ks:List Kd}{ag:Bool}{m k v:Opd}{b:Nat}{cs:List AV}(h:muS s q z ks ag m k v=some (b,r,cs)):
  ∃ kv vv kl vl bs clk,m.ev s=some (.mapv b)∧k.ev s=some kv∧v.ev s=some vv∧s.o b=some [.mp kl vl bs clk]∧muF q z ks ag kv vv [.mp kl vl bs clk]=some (r,cs):=by
 unfold muS at h
 split at h
 ·rename_i b' kv vv h1 h2 h3
  simp only[Option.bind_eq_some_iff,Option.map_eq_some_iff,Prod.mk.injEq]at h
  obtain ⟨cs0,h4,x,h5,rfl,rfl,rfl⟩:=h
  have:∃ kl vl bs clk,cs0=[.mp kl vl bs clk]:=by
   unfold muF at h5
   split at h5
   ·exact ⟨_,_,_,_,rfl⟩
   ·cases h5
  obtain ⟨kl,vl,bs,clk,rfl⟩:=this
  exact ⟨kv,vv,kl,vl,bs,clk,h1,h2,h3,h4,h5⟩
 ·cases h
structure MpR (W:World) (U:Nat→Nat→Prop) (es:Array MapEntry) (kl vl:List AV) (bs:List Nat) (clk:Nat):Prop where
 g2:es.size=kl.length
 g3:vl.length=kl.length
 g4:bs.length=kl.length
 g5:bs.Pairwise (· < ·)
 g6:∀ x∈bs,x<clk
 g7:∀ (i:Nat) (e:MapEntry),es[i]?=some e→(∀ k,kl[i]?=some k→VR W U e.key k)∧(∀ v,vl[i]?=some v→VR W U e.val v)∧∀ n,bs[i]?=some n→e.born=n
theorem MpR.ob{es:Array MapEntry}{kl vl:List AV}{bs:List Nat}{clk b:Nat}(h:MpR W U es kl vl bs clk)(hk:Keeps W U W' U)(hb:W'.heap[b]?=some (.map es clk)):ObR W' U b [.mp kl vl bs clk]:=
 ⟨es,hb,h.g2,h.g3,h.g4,h.g5,h.g6,fun i e hi=>let ⟨a,b,c⟩:=h.g7 i e hi; ⟨fun k hx=>(a k hx).keep hk,fun v hx=>(b v hx).keep hk,c⟩⟩
theorem MpR.push{es:Array MapEntry}{kl vl:List AV}{bs:List Nat}{clk:Nat}(h:MpR W U es kl vl bs clk){x v:Value}{kv vv:AV}(hx:VR W U x kv)(hv:VR W U v vv):
  MpR W U (es.push ⟨x,v,clk⟩) (kl++[kv]) (vl++[vv]) (bs++[clk]) (clk+1) where
 g2:=by simp[h.g2]
 g3:=by simp[h.g3]
 g4:=by simp[h.g4]
 g5:=by
  rw[List.pairwise_append]
  exact ⟨h.g5,by simp,fun a ha b hb=>by simp at hb;subst hb;exact h.g6 a ha⟩
 g6:=fun x hx=>by
  rw[List.mem_append]at hx
  rcases hx with hx|hx
  ·have:=h.g6 x hx;omega
  ·simp at hx;omega
 g7:=fun i e hi=>by
  rw[Array.getElem?_push]at hi
  have e2:=h.g2
  have e3:=h.g3
  have e4:=h.g4
  split at hi
  ·rename_i hi'
   cases hi
   refine ⟨fun k hk=>?_,fun w hw=>?_,fun n hn=>?_⟩
   ·rw[hi',e2,List.getElem?_append_right (Nat.le_refl _)]at hk
    simp at hk;subst hk;exact hx
   ·rw[hi',e2, ← e3,List.getElem?_append_right (Nat.le_refl _)]at hw
    simp at hw;subst hw;exact hv
   ·rw[hi',e2, ← e4,List.getElem?_append_right (Nat.le_refl _)]at hn
    simp at hn;exact hn
  ·have hlt:i<es.size:=(Array.getElem?_eq_some_iff.1 hi).1
   obtain ⟨a1,a2,a3⟩:=h.g7 i e hi
   refine ⟨fun k hk=>a1 k ?_,fun w hw=>a2 w ?_,fun n hn=>a3 n ?_⟩
   ·rwa [List.getElem?_append_left (by omega)]at hk
   ·rwa [List.getElem?_append_left (by omega)]at hw
   ·rwa [List.getElem?_append_left (by omega)]at hn
theorem MpR.set{es es':Array MapEntry}{kl vl:List AV}{bs:List Nat}{clk:Nat}(h:MpR W U es kl vl bs clk){j:Nat}{v:Value}{vv:AV}(hv:VR W U v vv)(hsz:es'.size=es.size)
  (he:∀ (i:Nat) (e':MapEntry),es'[i]?=some e'→∃ e,es[i]?=some e∧e'.key=e.key∧e'.born=e.born∧e'.val=if i=j then v else e.val):MpR W U es' kl (vl.set j vv) bs clk where
 g2:=hsz.trans h.g2
 g3:=by simp[h.g3]
 g4:=h.g4
 g5:=h.g5
 g6:=h.g6
 g7:=fun i e' hi=>by
  obtain ⟨e,h1,h2,h3,h4⟩:=he i e' hi
  obtain ⟨a1,a2,a3⟩:=h.g7 i e h1
  refine ⟨fun k hk=>h2▸a1 k hk,fun w hw=>?_,fun n hn=>h3.trans (a3 n hn)⟩
  rw[List.getElem?_set]at hw
  by_cases hij:j=i
  ·rw[if_pos hij]at hw
   split at hw
   ·cases hw
    rw[h4,if_pos hij.symm];exact hv
   ·cases hw
  ·rw[if_neg hij]at hw
   rw[h4,if_neg (Ne.symm hij)];exact a2 w hw
theorem MpR.erase{es:Array MapEntry}{kl vl:List AV}{bs:List Nat}{clk:Nat}(h:MpR W U es kl vl bs clk){j:Nat}(hj:j<es.size):MpR W U (es.eraseIdxIfInBounds j) (kl.eraseIdx j) (vl.eraseIdx j) (bs.eraseIdx j) clk where
 g2:=by
  have:=h.g2
  rw[Array.eraseIdxIfInBounds,dif_pos hj,Array.size_eraseIdx,List.length_eraseIdx,if_pos (by omega),this]
 g3:=by
  have:=h.g2;have:=h.g3
  rw[List.length_eraseIdx,if_pos (by omega),List.length_eraseIdx,if_pos (by omega)];omega
 g4:=by
  have:=h.g2;have:=h.g4
  rw[List.length_eraseIdx,if_pos (by omega),List.length_eraseIdx,if_pos (by omega)];omega
 g5:=h.g5.sublist (List.eraseIdx_sublist _ _)
 g6:=fun x hx=>h.g6 x (List.mem_of_mem_eraseIdx hx)
 g7:=fun i e hi=>by
  have hi':(es.toList.eraseIdx j)[i]?=some e:=by
   have:(es.eraseIdxIfInBounds j).toList=es.toList.eraseIdx j:=by
    rw[Array.eraseIdxIfInBounds,dif_pos hj];simp
   rw[← this,Array.getElem?_toList];exact hi
  rw[List.getElem?_eraseIdx]at hi'
  simp only[List.getElem?_eraseIdx]
  split at hi'
  ·rename_i hlt
   simp only[hlt,if_true]
   exact h.g7 i e (by rw[← Array.getElem?_toList];exact hi')
  ·rename_i hlt
   simp only[hlt,if_false]
   exact h.g7 (i+1) e (by rw[← Array.getElem?_toList];exact hi')
theorem Inv.mpR(h:Inv N W0 U0 M a W U s){b:Nat}{kl vl:List AV}{bs:List Nat}{clk:Nat}(hb:s.o b=some [.mp kl vl bs clk]):(∃ es:Array MapEntry,W.heap[b]?=some (.map es clk)∧MpR W U es kl vl bs clk)∧¬ a0D W b:=by
 obtain ⟨⟨es,g1,g2,g3,g4,g5,g6,g7⟩,hn⟩:=h.mapR hb
 exact ⟨⟨es,g1,g2,g3,g4,g5,g6,g7⟩,hn⟩
theorem no_own{x:AV}(hx:∀ e sz els,x ≠ .sl (some e) sz els):∀ (j e sz:Nat) (els:List (List AV)),[x][j]?≠some (.sl (some e) sz els):=by
 intro j e sz els hj
 cases j with
 | zero=>simp at hj;exact hx _ _ _ hj
 | succ j=>simp at hj
theorem b8N(h:Inv N W0 U0 M a W U s){t k e:TypeId}{m x v:Operand}{ag:Bool}{ks:List Kd}{z:AV}{X Y V:Opd}(ho:o.op=.mapUpdate t m x v)(hod:o.dst=none)(ht:P.underlying t=some (.map k e))(hm:a0j m=some X)(hx:a0j x=some Y)(hv:a0j v=some V)
  (hk:a9p P k=some (ks,ag)) {b:Nat} {cs:List AV} (hr:muS s 0 z ks ag X Y V=some (b,r,cs)) {next:Act→World→Prop} {Q:Exit→Act→World→Prop}
  (hn:∀ a' W' U',Inv N W0 U0 M a' W' U' { s with o:=upd s.o b (some cs) }→next a' W'):o.wp P a W next Q:=by
 obtain ⟨kv,vv,kl,vl,bs,clk,e1,e2,e3,e4,e5⟩:=muS_some hr
 obtain ⟨⟨es,g1,G⟩,hnc⟩:=h.mpR e4
 have hkx:=a0a h hx e2
 have hvv:=a0a h hv e3
 have hmv:=h.mapv hm e1
 have hkey:∀ (j:Nat) (en:MapEntry) (c:AV),es.toList[j]?=some en→kl[j]?=some c→VR W U en.key c:=fun j en c h1 h2=>(G.g7 j en (by rw[← Array.getElem?_toList];exact h1)).1 c h2
 simp only[muF,Option.map_eq_some_iff]at e5
 obtain ⟨f,hf,e6⟩:=e5
 obtain ⟨hchk,r1,r2⟩:=findM_sound hk hkx (es:=es.toList) (by simpa using G.g2) hkey hf
 have hlt:b<W.heap.size:=(Array.getElem?_eq_some_iff.1 g1).1
 cases f with
 | none=>
  simp only[Prod.mk.injEq]at e6
  obtain ⟨rfl,rfl⟩:=e6
  have hrun:(execOp a.eval o).run P W=.ok .skip (a5z W b (.map (es.push ⟨a.eval x,a.eval v,clk⟩) (clk+1))):=by
   simp only[execOp,ho,hmv]
   simp[Instr.mapUpdate,run_underlying ht,MapKept.run_getObj_map g1,hchk,r1,MapKept.run_setObj_map _ g1,Result.andThen,a5z]
  unfold Oper.wp
  rw[hrun,Oper.upon_skip,hod]
  exact hn _ _ U (h.setm e4 hnc ((G.push hkx.alias hvv.alias).ob (setB_keeps _ hnc ((h.ob _ _ e4).2.1 0)) (setB_same _ hlt)) (no_own (by simp)))
 | some j=>
  simp only[Prod.mk.injEq]at e6
  obtain ⟨rfl,rfl⟩:=e6
  obtain ⟨q1,q2,q3⟩:=r2 j rfl
  have hj:j<es.size:=by simpa using q1
  have hej:=arr_getD hj
  have hrun:(execOp a.eval o).run P W=.ok .skip (a5z W b (.map (es.modify j fun e=>{ e with key:=a.eval x,val:=a.eval v }) clk)):=by
   simp only[execOp,ho,hmv]
   simp[-List.getD_eq_getElem?_getD,Instr.mapUpdate,run_underlying ht,MapKept.run_getObj_map g1,hchk,r1,hej,q3,MapKept.run_setObj_map _ g1,Result.andThen,a5z]
  unfold Oper.wp
  rw[hrun,Oper.upon_skip,hod]
  refine hn _ _ U (h.setm e4 hnc ((G.set (j:=j) hvv.alias (by simp) (fun i e' hi=>?_)).ob (setB_keeps _ hnc ((h.ob _ _ e4).2.1 0)) (setB_same _ hlt)) (no_own (by simp)))
  rw[Array.getElem?_modify]at hi
  split at hi
  ·rename_i hij
   subst hij
   rw[hej]at hi
   cases hi
   exact ⟨_,hej,q2.symm,rfl,by simp⟩
  ·rename_i hij
   exact ⟨e',hi,rfl,rfl,by rw[if_neg (fun e=>hij e.symm)]⟩
theorem b8O(h:Inv N W0 U0 M a W U s){t k e:TypeId}{m x:Operand}{ag:Bool}{ks:List Kd}{z:AV}{X Y V:Opd}{d:Option Nat}(ho:o.op=.mapEntry t m x)(hod:o.dst=d)(hd:∀ j,d=some j→j<N)(ht:P.underlying t=some (.map k e))(hm:a0j m=some X)(hx:a0j x=some Y)
  (hk:a9p P k=some (ks,ag)) (hz:a7z P e=some z) {b:Nat} {cs:List AV} (hr:muS s 1 z ks ag X Y V=some (b,r,cs)) {next:Act→World→Prop} {Q:Exit→Act→World→Prop}
  (hn:∀ a' W' U',Inv N W0 U0 M a' W' U' (St.put { s with o:=upd s.o b (some cs) } d r)→next a' W'):o.wp P a W next Q:=by
 obtain ⟨kv,vv,kl,vl,bs,clk,e1,e2,e3,e4,e5⟩:=muS_some hr
 obtain ⟨⟨es,g1,G⟩,hnc⟩:=h.mpR e4
 have hkx:=a0a h hx e2
 have hmv:=h.mapv hm e1
 have hkey:∀ (j:Nat) (en:MapEntry) (c:AV),es.toList[j]?=some en→kl[j]?=some c→VR W U en.key c:=fun j en c h1 h2=>(G.g7 j en (by rw[← Array.getElem?_toList];exact h1)).1 c h2
 simp only[muF,Option.map_eq_some_iff]at e5
 obtain ⟨f,hf,e6⟩:=e5
 obtain ⟨hchk,r1,r2⟩:=findM_sound hk hkx (es:=es.toList) (by simpa using G.g2) hkey hf
 obtain ⟨zv,z1,z2,z3⟩:=zeroAV_sound (W:=W) (U:=U) hz
 have hlt:b<W.heap.size:=(Array.getElem?_eq_some_iff.1 g1).1
 cases f with
 | none=>
  simp only[Prod.mk.injEq]at e6
  obtain ⟨rfl,rfl⟩:=e6
  have hrun:(execOp a.eval o).run P W=.ok (.value (.tuple #[zv,.int .i64 (clk:Nat)])) (a5z W b (.map (es.push ⟨a.eval x,zv,clk⟩) (clk+1))):=by
   simp only[execOp,ho,hmv]
   simp[Instr.mapEntry,run_underlying ht,MapKept.run_getObj_map g1,hchk,r1,z1,MapKept.run_setObj_map _ g1,Result.andThen,a5z,goInt]
  unfold Oper.wp
  rw[hrun,Oper.upon_value,hod]
  have hK:=setB_keeps (U:=U) (.map (es.push ⟨a.eval x,zv,clk⟩) (clk+1)) hnc ((h.ob _ _ e4).2.1 0)
  exact hn _ _ U ((h.setm e4 hnc ((G.push hkx.alias z2).ob hK (setB_same _ hlt)) (no_own (by simp))).putO hd ((z2.keep hK).tup2 (.int _ _)) fun j _=>Sole.plain (by simp))
 | some j=>
  simp only[Prod.mk.injEq]at e6
  obtain ⟨rfl,rfl⟩:=e6
  obtain ⟨q1,q2,q3⟩:=r2 j rfl
  have hj:j<es.size:=by simpa using q1
  have hej:=arr_getD hj
  have hjv:j<vl.length:=by have:=G.g2;have:=G.g3;omega
  have hjb:j<bs.length:=by have:=G.g2;have:=G.g4;omega
  obtain ⟨_,a2,a3⟩:=G.g7 j _ hej
  have hval:=a2 _ (getD_get (d:=.undef) hjv)
  have hborn:=a3 _ (getD_get (d:=0) hjb)
  have hrun:(execOp a.eval o).run P W=.ok (.value (.tuple #[(es.toList.getD j default).val,.int .i64 (bs.getD j 0:Nat)])) (a5z W b (.map (es.modify j fun e=>{ e with key:=a.eval x }) clk)):=by
   simp only[execOp,ho,hmv]
   simp[-List.getD_eq_getElem?_getD,Instr.mapEntry,run_underlying ht,MapKept.run_getObj_map g1,hchk,r1,hej,q3,MapKept.run_setObj_map _ g1,Result.andThen,a5z,goInt,hborn]
  unfold Oper.wp
  rw[hrun,Oper.upon_value,hod]
  have hK:=setB_keeps (U:=U) (.map (es.modify j fun e=>{ e with key:=a.eval x }) clk) hnc ((h.ob _ _ e4).2.1 0)
  have G':MpR W U (es.modify j fun e=>{ e with key:=a.eval x }) kl vl bs clk:=by
   have:=G.set (es':=es.modify j fun e=>{ e with key:=a.eval x }) (j:=j) (v:=(es.toList.getD j default).val) (vv:=vl.getD j .undef) hval (by simp) (fun i e' hi=>?_)
   ·rwa [show vl.set j (vl.getD j .undef)=vl from by rw[List.getD,List.getElem?_eq_getElem hjv];simp]at this
   ·rw[Array.getElem?_modify]at hi
    split at hi
    ·rename_i hij
     subst hij
     rw[hej]at hi
     cases hi
     exact ⟨_,hej,q2.symm,rfl,by simp⟩
    ·rename_i hij
     exact ⟨e',hi,rfl,rfl,by rw[if_neg (fun e=>hij e.symm)]⟩
  exact hn _ _ U ((h.setm e4 hnc (G'.ob hK (setB_same _ hlt)) (no_own (by simp))).putO hd ((hval.keep hK).tup2 (.int _ _)) fun j _=>Sole.plain (by simp))
theorem findB_spec{n:Int}:∀ {bs:List Nat} {i j:Nat},a5C n bs i=some j→i≤j∧j - i<bs.length∧bs[j - i]?=some n.toNat∧(n.toNat:Int)=n
 | b::r,i,j,h=>by
  simp only[a5C]at h
  split at h
  ·rename_i e
   cases h
   subst e
   exact ⟨Nat.le_refl _,by simp,by simp,by simp⟩
  ·obtain ⟨h1,h2,h3,h4⟩:=findB_spec h
   have e1:j - i=(j - (i+1))+1:=by omega
   exact ⟨by omega,by simp;omega,by rw[e1];simpa using h3,h4⟩
theorem b8P(h:Inv N W0 U0 M a W U s){t:TypeId}{m x v:Operand}{X Y V:Opd}(ho:o.op=.entryStore t m x v)(hod:o.dst=none)(hm:a0j m=some X)(hx:a0j x=some Y)(hv:a0j v=some V){z:AV}{ks:List Kd}{ag:Bool}
  {b:Nat} {cs:List AV} (hr:muS s 2 z ks ag X Y V=some (b,r,cs)) {next:Act→World→Prop} {Q:Exit→Act→World→Prop}
  (hn:∀ a' W' U',Inv N W0 U0 M a' W' U' { s with o:=upd s.o b (some cs) }→next a' W'):o.wp P a W next Q:=by
 obtain ⟨kv,vv,kl,vl,bs,clk,e1,e2,e3,e4,e5⟩:=muS_some hr
 obtain ⟨⟨es,g1,G⟩,hnc⟩:=h.mpR e4
 have hkx:=a0a h hx e2
 have hvv:=a0a h hv e3
 have hmv:=h.mapv hm e1
 simp only[muF]at e5
 split at e5
 ·rename_i n
  simp only[Option.map_eq_some_iff,Prod.mk.injEq]at e5
  obtain ⟨j,hf,rfl,rfl⟩:=e5
  obtain ⟨_,q1,q2,q3⟩:=findB_spec hf
  simp only[Nat.sub_zero]at q1 q2
  have hj:j<es.size:=by have:=G.g2;have:=G.g4;omega
  have hej:=arr_getD hj
  have hlt:b<W.heap.size:=(Array.getElem?_eq_some_iff.1 g1).1
  have hbj:=(G.g7 j _ hej).2.2 _ q2
  have hidx:es.findIdx? (fun e=>(e.born:Int)==n)=some j:=by
   rw[Array.findIdx?_eq_some_iff_getElem]
   refine ⟨hj, ?_,fun i hi=>?_⟩
   ·have:es[j]=es.toList.getD j default:=by
     have:=hej;rw[Array.getElem?_eq_getElem hj]at this;exact Option.some.inj this
    rw[this,hbj,q3];simp
   ·have hie:es[i]?=some es[i]:=Array.getElem?_eq_getElem (by omega)
    have hib:i<bs.length:=by have:=G.g2;have:=G.g4;omega
    have:=(G.g7 i _ hie).2.2 _ (List.getElem?_eq_getElem hib)
    rw[this]
    have hlt2:bs[i]<bs[j]:=List.pairwise_iff_getElem.1 G.g5 i j hib q1 hi
    have:bs[j]=n.toNat:=by rw[List.getElem?_eq_getElem q1]at q2;exact Option.some.inj q2
    simp;omega
  have hsx:a.eval x=.int .i64 n:=hkx.int_inv
  have hrun:(execOp a.eval o).run P W=.ok .skip (a5z W b (.map (es.modify j fun e=>{ e with val:=a.eval v }) clk)):=by
   simp only[execOp,ho,hmv,hsx]
   simp[Instr.entryStore,asInt,asIntOf,MapKept.run_getObj_map g1,hidx,MapKept.run_setObj_map _ g1,Result.andThen,a5z]
  unfold Oper.wp
  rw[hrun,Oper.upon_skip,hod]
  refine hn _ _ U (h.setm e4 hnc ((G.set (j:=j) hvv.alias (by simp) (fun i e' hi=>?_)).ob (setB_keeps _ hnc ((h.ob _ _ e4).2.1 0)) (setB_same _ hlt)) (no_own (by simp)))
  rw[Array.getElem?_modify]at hi
  split at hi
  ·rename_i hij
   subst hij
   rw[hej]at hi
   cases hi
   exact ⟨_,hej,rfl,rfl,by simp⟩
  ·rename_i hij
   exact ⟨e',hi,rfl,rfl,by rw[if_neg (fun e=>hij e.symm)]⟩
 ·cases e5
theorem b8Q(h:Inv N W0 U0 M a W U s){t k e k':TypeId}{m x:Operand}{ag:Bool}{ks:List Kd}{z:AV}{X Y V:Opd}(ho:o.op=.call { callee:=.builtin .delete,args:=⟨[m,x]⟩,argTypes:=⟨[t,k']⟩ })(hod:o.dst=none)(ht:P.underlying t=some (.map k e))(hm:a0j m=some X)(hx:a0j x=some Y)
  (hk:a9p P k=some (ks,ag)) {b:Nat} {cs:List AV} (hr:muS s 3 z ks ag X Y V=some (b,r,cs)) {next:Act→World→Prop} {Q:Exit→Act→World→Prop}
  (hn:∀ a' W' U',Inv N W0 U0 M a' W' U' { s with o:=upd s.o b (some cs) }→next a' W'):o.wp P a W next Q:=by
 obtain ⟨kv,vv,kl,vl,bs,clk,e1,e2,e3,e4,e5⟩:=muS_some hr
 obtain ⟨⟨es,g1,G⟩,hnc⟩:=h.mpR e4
 have hkx:=a0a h hx e2
 have hmv:=h.mapv hm e1
 have hkey:∀ (j:Nat) (en:MapEntry) (c:AV),es.toList[j]?=some en→kl[j]?=some c→VR W U en.key c:=fun j en c h1 h2=>(G.g7 j en (by rw[← Array.getElem?_toList];exact h1)).1 c h2
 simp only[muF,Option.map_eq_some_iff]at e5
 obtain ⟨f,hf,e6⟩:=e5
 obtain ⟨hchk,r1,r2⟩:=findM_sound hk hkx (es:=es.toList) (by simpa using G.g2) hkey hf
 have hlt:b<W.heap.size:=(Array.getElem?_eq_some_iff.1 g1).1
 cases f with
 | none=>
  simp only[Prod.mk.injEq]at e6
  obtain ⟨rfl,rfl⟩:=e6
  have hrun:(execOp a.eval o).run P W=.ok (.value (.tuple #[])) (a5z W b (.map es clk)):=by
   simp[execOp,ho,hmv,resolve,invoke,builtin,Builtin.delete_,run_underlying ht,MapKept.run_getObj_map g1,hchk,r1,MapKept.run_setObj_map _ g1,Result.andThen,a5z]
  unfold Oper.wp
  rw[hrun,Oper.upon_value,hod]
  exact hn _ _ U (h.setm e4 hnc (G.ob (setB_keeps _ hnc ((h.ob _ _ e4).2.1 0)) (setB_same _ hlt)) (no_own (by simp)))
 | some j=>
  simp only[Prod.mk.injEq]at e6
  obtain ⟨rfl,rfl⟩:=e6
  obtain ⟨q1,q2,q3⟩:=r2 j rfl
  have hj:j<es.size:=by simpa using q1
  have hrun:(execOp a.eval o).run P W=.ok (.value (.tuple #[])) (a5z W b (.map (es.eraseIdxIfInBounds j) clk)):=by
   simp[execOp,ho,hmv,resolve,invoke,builtin,Builtin.delete_,run_underlying ht,MapKept.run_getObj_map g1,hchk,r1,MapKept.run_setObj_map _ g1,Result.andThen,a5z]
  unfold Oper.wp
  rw[hrun,Oper.upon_value,hod]
  exact hn _ _ U (h.setm e4 hnc ((G.erase hj).ob (setB_keeps _ hnc ((h.ob _ _ e4).2.1 0)) (setB_same _ hlt)) (no_own (by simp)))
end
end
section
open Go.RowKit

section
variable {P:Program} {N:Nat} {W0:World} {U0:Nat→Nat→Prop} {M:Nat→Prop} {a:Act} {W W':World} {U:Nat→Nat→Prop} {s:St} {o:Oper} {r:AV}
theorem c0e(h:Inv N W0 U0 M a W U s){x y:Operand}{X Y:Opd}{ts:Array TypeId}(ho:o.op=.call { callee:=.builtin .max,args:=⟨[x,y]⟩,argTypes:=ts })(hx:a0j x=some X)(hy:a0j y=some Y)(hr:opR P s (.mx X Y) r):VOK P a o W U r:=by
 obtain ⟨p,c,hp,hn,hb⟩:=hr
 cases p<;>try exact hb.elim
 all_goals cases c<;>try exact hb.elim
 rename_i k1 m k2 n
 have h1:=(a0a h hx hp).int_inv
 have h2:=(a0a h hy hn).int_inv
 obtain rfl:=(hb:r=.int k1 (if m<n then n else m))
 refine VOK.same (v:=.int k1 (if m<n then n else m)) ?_ (.int _ _) (by simp)
 simp[execOp,ho,h1,h2,resolve,invoke,builtin,Builtin.max_,Builtin.max2]
theorem run_newObj(x:Obj):(newObj x).run P W=.ok W.heap.size (W.alloc x):=rfl
theorem b6y(h:Inv N W0 U0 M a W U s){t e sz:Nat}{inf:TypeInfo}{x:Operand}{X:Opd}(ho:o.op=.call { callee:=.builtin .append,args:=⟨[.const (.slice none 0 0),x]⟩,argTypes:=⟨[t,t]⟩ })
  (ht:P.underlying t=some (.slice e)) (hi:P.info? e=some inf) (hisz:inf.size=sz) (hsz:0<sz) (hz:a0y P e=some sz) (hx:a0j x=some X) (hr:opR P s (.app0 e sz inf.bytes X) r):VOK P a o W U r:=by
 obtain ⟨own,news,hxv,hb,hmx,rfl⟩:=hr
 have hw:=a0a h hx hxv
 obtain ⟨z,hz1,hz2⟩:∃ z,inf.zero=some z∧z.cells.size=sz:=by
  simp only[a0y,hi,Option.bind_some,Option.map_eq_some_iff]at hz
  exact hz
 have key:∀ v' W' U',(Builtin.append_ #[t,t] o.type #[.slice none 0 0,a.eval x]).run P W=.ok v' W'→VR W' U' v' (.sl (some e) sz news)→Own1 W' U' (W.heap.size ≤ ·) v' (.sl (some e) sz news)→Ext W U W' U'→VOK P a o W U (.sl (some e) sz news):=by
  intro v' W' U' hrun hvr hso hE
  refine ⟨v',W',U', ?_,hE,hvr,hso⟩
  unfold execOp
  simp only[ho,resolve,invoke,builtin,Sem.run_bind,Sem.run_pure,Result.andThen_ok,List.map_toArray,List.map_cons,List.map_nil]
  rw[show (#[Value.slice none 0 0,a.eval x]:Array Value)=⟨[a.eval (.const (.slice none 0 0)),a.eval x]⟩ from rfl]at hrun
  rw[show (#[t,t]:Array Nat)=⟨[t,t]⟩ from rfl]at hrun
  rw[hrun]
  rfl
 generalize hxval:a.eval x=xval at *
 cases hw with
 | sl A cap _ _ b2 o2 _ f2 hcap2 hmax2 hA2 hs2 hc2 hv2=>
  by_cases hm:news.length=0
  ·have hn1:news=[]:=List.eq_nil_of_length_eq_zero hm
   subst hn1
   refine key (.slice none 0 0) W U ?_ (zVR_sound (v:=.slice none 0 0) (c:=.sl (some e) sz []) rfl W U).1 (.inl ⟨rfl,rfl⟩) (Ext.refl _ _)
   cases A<;>simp[Builtin.append_,run_underlying ht,sizeOf,typeInfo,hi,Builtin.lenOf,Builtin.firstCells,loadCells,loadCellsFrom,storeCells]
  ·obtain rfl:=hA2 (by omega)
   have hnews':∀ p v,(a0e f2 news.length sz)[p]?=some v→W.cell? ((⟨b2,o2,none⟩:Addr).add p)=some v:=by
    intro p v hp
    obtain ⟨q1,q2,rfl,q4⟩:=flatV_some hp
    rw[a0B,q4, ← Nat.add_assoc]
    have e1:(p / sz * sz+p % sz) / sz=p / sz:=by rw[← q4]
    have e2:(p / sz * sz+p % sz) % sz=p % sz:=by rw[← q4]
    rw[e1,e2]
    exact (hc2 _ _ q1 q2).1
   have h1new:∀ u∈a0e f2 news.length sz,u.oneCell'=true:=flat_mem fun i j hi hj=>(hc2 i j hi hj).2.1
   have hrun:=run_append_nil (P:=P) W t o.type e inf z ht hi hz1 ⟨b2,o2,none⟩ news.length cap (a0e f2 news.length sz) (by rw[a0c,hisz]) hnews' (by omega) (by simp only[maxLen]at hmx;omega) (by omega)
   have hE:Ext W U (W.drew.alloc (.cells ((a0e f2 news.length sz).toArray++Builtin.zeroCells z.cells (grownCap W news.length 0 e - news.length)) e)) (fun k i=>if k=W.heap.size then news.length * sz≤i else U k i):=by
    have:=Ext.alloc W.drew U (.cells ((a0e f2 news.length sz).toArray++Builtin.zeroCells z.cells (grownCap W news.length 0 e - news.length)) e) (fun i=>news.length * sz≤i)
    exact ⟨(Below.refl _ _).drew.alloc (Nat.le_refl _) _,this.u⟩
   have hge:=grownCap_ge W news.length 0 e
   have hcm:=grownCap_le_maxLen W news.length 0 e hmx
   have hnew:=heap_alloc_new W.drew (.cells ((a0e f2 news.length sz).toArray++Builtin.zeroCells z.cells (grownCap W news.length 0 e - news.length)) e)
   have hcsz:((a0e f2 news.length sz).toArray++Builtin.zeroCells z.cells (grownCap W news.length 0 e - news.length)).size=grownCap W news.length 0 e * sz:=by
    simp only[Array.size_append,List.size_toArray,size_zeroCells,hz2,a0c, ← Nat.add_mul]
    congr 1
    omega
   refine key _ _ _ hrun ?_ ?_ hE
   ·refine VR_row (f:=f2) hnew hge hcm hs2 (fun i j hi hj=>?_) (fun o ho hu=>?_) (fun i e' j c he hc=>(hv2 i e' j c he hc).keep hE.keeps)
    ·refine ⟨?_,(hc2 i j hi hj).2.1⟩
     have:=flatV_get (f:=f2) hi hj
     rw[Array.getElem?_append_left (by rw[List.size_toArray];exact (List.getElem?_eq_some_iff.1 this).1)]
     simpa using this
    ·have hu':news.length * sz≤o:=by simpa using hu
     omega
   ·refine .inr ⟨W.heap.size,_,_,rfl,Nat.le_refl _,.of hnew,hge,hcm,hcsz,fun o ho hu=>?_,fun o ho=>?_⟩
    ·have hu':news.length * sz≤o:=by simpa using hu
     omega
    ·simpa using ho
theorem b0c(h:Inv N W0 U0 M a W U s):s.o W.heap.size=none:=by
 cases hs:s.o W.heap.size with
 | none=>rfl
 | some c=>have:=h.ob_lt _ _ hs;omega
theorem b8M(h:Inv N W0 U0 M a W U s){d:Option Nat}{t:TypeId}(ho:o.op=.makeMap t none)(hd:∀ j,d=some j→j<N)(hod:o.dst=d){K:St→Prop}(hK:b9v s d K){next:Act→World→Prop}{Q:Exit→Act→World→Prop}
  (hn:∀ a' W' U' s',Inv N W0 U0 M a' W' U' s'→K s'→next a' W'):o.wp P a W next Q:=by
 have hrun:(execOp a.eval o).run P W=.ok (.value (.map (some W.heap.size))) (W.alloc (.map #[] 0)):=by
  simp[execOp,ho,Instr.makeMap,run_newObj]
 unfold Oper.wp
 rw[hrun,Oper.upon_value,hod]
 refine hn _ _ _ _ ((h.newm ?_ (no_own (by simp))).putO hd (.mapv _) fun j _=>Sole.plain (by simp)) (hK _ (b0c h))
 exact ⟨#[],heap_alloc_new W _,rfl,rfl,rfl,by simp,by simp,fun i e hi=>by simp at hi⟩
theorem b8T(h:Inv N W0 U0 M a W U s){d:Option Nat}{t k e:TypeId}{x:Operand}{X:Opd}(ho:o.op=.range t x)(ht:P.underlying t=some (.map k e))(hd:∀ j,d=some j→j<N)(hod:o.dst=d)(hx:a0j x=some X){K:St→Prop}{p:AV}(hp:X.ev s=some p)(hK:b9D s d p K)
  {next:Act→World→Prop} {Q:Exit→Act→World→Prop} (hn:∀ a' W' U' s',Inv N W0 U0 M a' W' U' s'→K s'→next a' W'):o.wp P a W next Q:=by
 cases p<;>try exact hK.elim
 rename_i m
 obtain ⟨kl,vl,bs,clk,hb,hK⟩:=hK
 obtain ⟨⟨es,g1,G⟩,hnc⟩:=h.mpR hb
 have hmv:=h.mapv hx hp
 have hrun:(execOp a.eval o).run P W=.ok (.value (.pointer (some ⟨W.heap.size,0,none⟩))) (W.alloc (.mapIter (some m) clk #[] clk)):=by
  simp[execOp,ho,hmv,Instr.range,run_underlying ht,MapKept.run_getObj_map g1,run_newObj,Result.andThen]
 unfold Oper.wp
 rw[hrun,Oper.upon_value,hod]
 exact hn _ _ _ _ ((h.newm (cs:=[.mit m clk [] clk]) (heap_alloc_new W _) (no_own (by simp))).putO hd (.itp _) fun j _=>Sole.plain (by simp)) (hK _ (b0c h))
theorem Inv.itp(h:Inv N W0 U0 M a W U s){x:Operand}{X:Opd}{b:Nat}(hm:a0j x=some X)(hx:X.ev s=some (.itp b)):a.eval x=.pointer (some ⟨b,0,none⟩):=by
 have:=a0a h hm hx
 generalize a.eval x=v at this
 cases this;rfl
theorem b8R(h:Inv N W0 U0 M a W U s){d:Option Nat}{x:Operand}{X:Opd}(ho:o.op=.next x false)(hd:∀ j,d=some j→j<N)(hod:o.dst=d)(hx:a0j x=some X){K:St→Prop}{p:AV}(hp:X.ev s=some p)(hK:b9y s d p K)
  {next:Act→World→Prop} {Q:Exit→Act→World→Prop} (hn:∀ a' W' U' s',Inv N W0 U0 M a' W' U' s'→K s'→next a' W'):o.wp P a W next Q:=by
 cases p<;>try exact hK.elim
 rename_i b
 obtain ⟨m,since,seen,last,kl,vl,bs,clk,hb,hm,⟨hc1,hc2⟩,hK1,hK2⟩:=hK
 subst hc1
 obtain rfl:clk=last:=hc2.symm
 obtain ⟨⟨es,g1,G⟩,hnc⟩:=h.mpR hm
 have hit:=h.itp hx hp
 have hbr:W.heap[b]?=some (.mapIter (some m) clk seen.toArray clk):=(h.ob b _ hb).1
 have hncb:¬ a0D W b:=by
  rintro ⟨c1,c2,c3,c4⟩
  rw[hbr]at c4;cases c4
 have hlt:b<W.heap.size:=(Array.getElem?_eq_some_iff.1 hbr).1
 have born:∀ (i:Nat) (e:MapEntry),es[i]?=some e→bs[i]?=some e.born∧i<kl.length:=fun i e hi=>by
  have hl:i<es.size:=(Array.getElem?_eq_some_iff.1 hi).1
  have:=G.g2;have:=G.g4
  have hb':bs[i]?=some (bs[i]'(by omega)):=List.getElem?_eq_getElem (by omega)
  exact ⟨by rw[hb',(G.g7 i e hi).2.2 _ hb'],by omega⟩
 have hold:∀ e∈es.toList,e.born<clk:=fun e he=>by
  obtain ⟨i,hi⟩:=List.mem_iff_getElem?.1 he
  exact G.g6 _ (List.mem_of_getElem? (born i e (by rw[← Array.getElem?_toList];exact hi)).1)
 have hrunx:(execOp a.eval o).run P W=((Instr.next (.pointer (some ⟨b,0,none⟩)) false o.type).run P W).andThen fun v w=>.ok (.value v) w:=by
  simp only[execOp,ho,hit]
  simp
 unfold Oper.wp
 rw[hrunx]
 rcases run_next_at (P:=P) W o.type b m clk clk seen.toArray es clk hbr g1 hold (Nat.le_refl _) with ⟨h0,hrun⟩ | ⟨e,he,w1,hw1,hrun⟩
 ·rw[hrun]
  simp only[Result.andThen]
  rw[Oper.upon_value,hod]
  refine hn _ _ _ _ (h.putO hd (v:=.tuple #[.bool false]) (r:=.tup [.bool false]) ?_ fun j _=>Sole.plain (by simp)) (hK2 fun n hnb=>?_)
  ·have:(Value.tuple #[.bool false])=.tuple [Value.bool false].toArray:=rfl
   rw[this]
   refine .tup _ _ rfl fun i x y hx hy=>?_
   match i with
   | 0=>simp at hx hy;subst hx hy;exact .bool _
   | i+1=>simp at hx
  ·obtain ⟨i,hi⟩:=List.mem_iff_getElem?.1 hnb
   have hl:i<es.size:=by have:=(List.getElem?_eq_some_iff.1 hi).1;have:=G.g2;have:=G.g4;omega
   have hei:=Array.getElem?_eq_getElem hl
   have hbn:=(born i _ hei).1
   rw[hi]at hbn
   have hnn:n=es[i].born:=Option.some.inj hbn
   have hempty:leftOf es seen.toArray = #[]:=Array.eq_empty_of_size_eq_zero h0
   unfold leftOf at hempty
   rw[Array.filter_eq_empty_iff]at hempty
   have:=hempty es[i] (Array.getElem_mem hl)
   simp at this
   rw[hnn];exact this
 ·rw[hrun]
  simp only[Result.andThen]
  rw[Oper.upon_value,hod]
  unfold leftOf at he
  simp only[Array.toList_filter,List.mem_filter]at he
  obtain ⟨he1,he2⟩:=he
  obtain ⟨i,hi⟩:=List.mem_iff_getElem?.1 he1
  have hei:es[i]?=some e:=by rw[← Array.getElem?_toList];exact hi
  obtain ⟨hbi,hik⟩:=born i e hei
  have hns:e.born ∉ seen:=by simpa using he2
  have hwU:∃ W1:World,W1=w1∧Inv N W0 U0 M a W1 U s:=by
   rcases hw1 with rfl|rfl
   ·exact ⟨_,rfl,h⟩
   ·exact ⟨_,rfl,h.ext (Ext.refl W U).drew⟩
  obtain ⟨W1,rfl,h1⟩:=hwU
  have hbr1:W1.heap[b]?=some (.mapIter (some m) clk seen.toArray clk):=(h1.ob b _ hb).1
  have hncb1:¬ a0D W1 b:=by
   rintro ⟨c1,c2,c3,c4⟩
   rw[hbr1]at c4;cases c4
  have hlt1:b<W1.heap.size:=(Array.getElem?_eq_some_iff.1 hbr1).1
  obtain ⟨⟨es1,g1',G1⟩,_⟩:=h1.mpR hm
  have hes:es1=es:=by
   have:W1.heap=W.heap:=by rcases hw1 with rfl|rfl<;>rfl
   rw[this,g1]at g1'
   cases g1';rfl
  subst hes
  have hkl:=G1.g3
  have hK':=setB_keeps (U:=U) (.mapIter (some m) clk (seen.toArray.push e.born) clk) hncb1 ((h1.ob _ _ hb).2.1 0)
  obtain ⟨a1,a2,_⟩:=G1.g7 i e hei
  have hkv:=a1 _ (getD_get (d:=.undef) hik)
  have hvv:=a2 _ (getD_get (d:=.undef) (by omega:i<vl.length))
  have hset:ChangeMaps.setBlock W1 b (.mapIter (some m) clk (seen.toArray.push e.born) clk)=a5z W1 b (.mapIter (some m) clk (seen.toArray.push e.born) clk):=rfl
  rw[hset]
  refine hn _ _ _ _ ((h1.setm hb hncb1 (cs':=[.mit m clk (seen++[e.born]) clk]) ?_ (no_own (by simp))).putO hd (v:=.tuple #[.bool true,e.key,e.val]) (r:=.tup [.bool true,kl.getD i .undef,vl.getD i .undef]) ?_ fun j _=>Sole.plain (by simp)) (hK1 i e.born hbi hns)
  ·show (a5z W1 b _).heap[b]?=_
   rw[setB_same _ hlt1];simp
  ·have:(Value.tuple #[.bool true,e.key,e.val])=.tuple [Value.bool true,e.key,e.val].toArray:=rfl
   rw[this]
   refine .tup _ _ rfl fun i' x y hx hy=>?_
   match i' with
   | 0=>simp at hx hy;subst hx hy;exact .bool _
   | 1=>simp[-List.getD_eq_getElem?_getD]at hx hy;subst hx hy;exact hkv.keep hK'
   | 2=>simp[-List.getD_eq_getElem?_getD]at hx hy;subst hx hy;exact hvv.keep hK'
   | i'+3=>simp at hx
theorem b8F(h:Inv N W0 U0 M a W U s){x:Operand}{X:Opd}(ho:o.op=.entry x)(hx:a0j x=some X)(hr:opR P s (.ent X) r):VOK P a o W U r:=by
 obtain ⟨p,hp,hr⟩:=hr
 cases p<;>try exact hr.elim
 rename_i b
 obtain ⟨m,since,seen,last,kl,vl,bs,clk,i,n,hb,hm,rfl,hs,hbi,rfl⟩:=hr
 obtain ⟨⟨es,g1,G⟩,hnc⟩:=h.mpR hm
 have hit:=h.itp hx hp
 have hbr:W.heap[b]?=some (.mapIter (some m) since seen.toArray clk):=(h.ob b _ hb).1
 have hil:i<es.size:=by have:=(List.getElem?_eq_some_iff.1 hbi).1;have:=G.g2;have:=G.g4;omega
 have hei:=Array.getElem?_eq_getElem hil
 obtain ⟨a1,a2,a3⟩:=G.g7 i _ hei
 have hbn:=a3 n hbi
 have hne:seen≠[]:=by rintro rfl;cases hs
 have hsp:seen.toArray=(seen.dropLast.toArray).push es[i].born:=by
  have:seen=seen.dropLast++[n]:=by
   have h2:=List.dropLast_concat_getLast hne
   rw[List.getLast?_eq_some_getLast hne]at hs
   rw[Option.some.inj hs]at h2
   exact h2.symm
  rw[hbn]
  conv=>lhs;rw[this]
  simp
 rw[hsp]at hbr
 have hnd:(es.toList.map (·.born)).Nodup:=by
  have e1:es.toList.map (·.born)=bs:=by
   apply List.ext_getElem?
   intro j
   rw[List.getElem?_map]
   cases hj:es.toList[j]? with
   | none=>
    have:es.size≤j:=by simpa using hj
    have:=G.g2;have:=G.g4
    rw[List.getElem?_eq_none (by omega)];rfl
   | some e=>
    have hej:es[j]?=some e:=by rw[← Array.getElem?_toList];exact hj
    have hl:j<bs.length:=by have:=(Array.getElem?_eq_some_iff.1 hej).1;have:=G.g2;have:=G.g4;omega
    have:=(G.g7 j e hej).2.2 _ (List.getElem?_eq_getElem hl)
    rw[List.getElem?_eq_getElem hl,Option.map_some,this]
  rw[e1]
  exact G.g5.imp fun h=>Nat.ne_of_lt h
 have hrun:=run_entry_at (P:=P) W b m since seen.dropLast.toArray es clk es[i] hbr g1 (by simp) hnd
 have hik:i<kl.length:=by have:=G.g2;omega
 have hiv:i<vl.length:=by have:=G.g2;have:=G.g3;omega
 refine VOK.same (v:=.tuple #[es[i].key,es[i].val]) ?_ ((a1 _ (getD_get (d:=.undef) hik)).tup2 (a2 _ (getD_get (d:=.undef) hiv))) (by simp)
 simp only[execOp,ho,hit]
 simp[hrun]
end
end
section
open Go.RowKit

section
variable {P:Program} {N:Nat} {W0:World} {U0:Nat→Nat→Prop} {M:Nat→Prop} {a:Act} {W:World} {U:Nat→Nat→Prop} {s:St} {o:Oper} {r:AV}
theorem b6z(h:Inv N W0 U0 M a W U s){t tx e i:Nat}{inf:TypeInfo}{x:Operand}{X:Opd}{d:Option Nat}(ho:o.op=.call { callee:=.builtin .append,args:=⟨[.tmp i,x]⟩,argTypes:=⟨[t,tx]⟩ })(hod:o.dst=d)(hd:∀ j,d=some j→j<N)
  (ht:P.underlying t=some (.slice e)) (hi:P.info? e=some inf) (htx:P.underlying tx=some .string) (hisz:inf.size=1) (hz:a0y P e=some 1) (hx:a0j x=some X) (hr:opR P s (.apps e inf.bytes i X) r) {next:Act→World→Prop} {Q:Exit→Act→World→Prop}
  (hn:∀ a' W' U',Inv N W0 U0 M a' W' U' (eff d (.apps e inf.bytes i X) r s)→next a' W'):o.wp P a W next Q:=by
 obtain ⟨els,l,hs0,hxv,hb0,hmx0,rfl⟩:=hr
 obtain ⟨sz,hsz1⟩:∃ sz,sz=1:=⟨_,rfl⟩
 have hsz:0<sz:=by omega
 rw[← hsz1]at hz hisz hs0
 obtain ⟨news,hnews0⟩:∃ news,news=l.map a0h:=⟨_,rfl⟩
 have hnl:news.length=l.length:=by rw[hnews0];simp
 rw[← hsz1, ← hnews0]at hn
 have hb:(els.length+news.length) * inf.bytes≤140737488355328:=by rw[hnl];exact hb0
 have hmx:els.length+news.length≤maxLen:=by rw[hnl];exact hmx0
 have hv:=h.tv i _ hs0
 have hw:=a0a h hx hxv
 have hown:=h.ow (.t i) _ hs0
 simp only[Own1,cat]at hown
 obtain ⟨z,hz1,hz2⟩:∃ z,inf.zero=some z∧z.cells.size=sz:=by
  simp only[a0y,hi,Option.bind_some,Option.map_eq_some_iff]at hz
  exact hz
 -- it is enough to know what the append gives
 have key:∀ v' W' U',(Builtin.append_ #[t,tx] o.type #[a.eval (.tmp i),a.eval x]).run P W=.ok v' W'→Inv N W0 U0 M a W' U' { s with t:=upd s.t i none }→VR W' U' v' (.sl (some e) sz (els++news))→
   (∀ j,d=some j→Sole W0 M a W' U' { s with t:=upd s.t i none } j v' (.sl (some e) sz (els++news)))→o.wp P a W next Q:=by
  intro v' W' U' hrun hinv hvr hso
  unfold Oper.wp execOp
  simp only[ho,resolve,invoke,builtin,Sem.run_bind,Sem.run_pure,Result.andThen_ok,List.map_toArray,List.map_cons,List.map_nil]
  rw[show (#[a.eval (.tmp i),a.eval x]:Array Value)=⟨[a.eval (.tmp i),a.eval x]⟩ from rfl]at hrun
  rw[show (#[t,tx]:Array Nat)=⟨[t,tx]⟩ from rfl]at hrun
  rw[hrun]
  simp only[Result.andThen_ok,Oper.upon,hod]
  exact hn _ _ _ (hinv.putO hd hvr hso)
 have hle:Le { s with t:=upd s.t i none } s:=⟨fun j v hj=>by
  by_cases hji:j=i
  ·subst hji;simp[upd]at hj
  ·simpa[upd,hji]using hj,fun _ _ hj=>hj⟩
 have h':=h.le hle
 have hother:∀ ℓ e' sz' els',St.at { s with t:=upd s.t i none } ℓ=some (.sl (some e') sz' els')→ℓ ≠ .t i∧s.at ℓ=some (.sl (some e') sz' els'):=by
  intro ℓ e' sz' els' hl
  refine ⟨fun he=>?_,hle.at_ hl⟩
  subst he
  simp[St.at,upd]at hl
 generalize hval:a.eval (.tmp i)=val at *
 have hval':a.tmps.getD i undef=val:=hval
 rw[hval']at hv hown
 have hxs:a.eval x=.string ⟨l.toArray⟩:=hw.str_inv
 rw[hxs]at key
 obtain ⟨f2,hf2⟩:∃ f2:Nat→Nat→Value,f2=fun i _=>.int .u8 ((l.getD i 0).toNat:Int):=⟨_,rfl⟩
 have hs2:∀ e∈news,e.length=sz:=by
  intro e' he'
  rw[hnews0]at he'
  obtain ⟨b,_,rfl⟩:=List.mem_map.1 he'
  simp[a0h,hsz1]
 have hc2:∀ i j,i<news.length→j<sz→True∧(f2 i j).oneCell'=true∧True:=fun i j _ _=>by subst hf2;exact ⟨trivial,rfl,trivial⟩
 have hv2:∀ (i:Nat) (e:List AV) (j:Nat) (c:AV),news[i]?=some e→e[j]?=some c→VR W U (f2 i j) c:=by
  intro i e' j c he hc
  rw[hnews0,List.getElem?_map,Option.map_eq_some_iff]at he
  obtain ⟨b,hb',rfl⟩:=he
  cases j with
  | succ j=>simp[a0h]at hc
  | zero=>
   simp[a0h]at hc
   subst hc
   rw[hf2]
   have:l.getD i 0=b:=by simp[List.getD,hb']
   simp only[this]
   exact .int _ _
 have hflat:a0e f2 news.length sz=byteCells ⟨l.toArray⟩:=by
  rw[hf2,hsz1,hnl]
  apply List.ext_getElem?
  intro p
  simp only[a0e,byteCells,Nat.mul_one,Nat.div_one,List.getElem?_map]
  by_cases hp:p<l.length
  ·simp[hp,List.getD]
  ·simp[hp]
 have hsrc:Src P inf.size tx (.string ⟨l.toArray⟩) news.length (a0e f2 news.length sz) W:=by
  rw[hflat,hisz,hsz1]
  have:=Src.ofString (P:=P) W htx ⟨l.toArray⟩
  rwa [a3n, ← hnl]at this
 have h1new:∀ u∈a0e f2 news.length sz,u.oneCell'=true:=hsrc.one
 cases hv with
 | sl A1 cap1 _ _ b1 o1 _ f1 hcap1 hmax1 hA1 hs1 hc1 hv1=>
   have hsall:∀ e∈els++news,e.length=sz:=by
    intro e' he'
    rcases List.mem_append.1 he' with he'|he'
    ·exact hs1 e' he'
    ·exact hs2 e' he'
   have hlen:(els++news).length=els.length+news.length:=List.length_append
   ·
    rcases hown with ⟨hnil,hn0⟩ | ⟨g,capg,cur,hsl,hB,⟨fz,hgh,hfz⟩,hgc,hgm,hgs,hgU1,hgU2⟩
    ·-- the row is nil
     have he0:els=[]:=List.eq_nil_of_length_eq_zero hn0
     subst he0
     simp only[List.nil_append,List.length_nil,Nat.zero_add]at key hn hmx hb hlen hnil ⊢
     injection hnil with q1 q2 q3
     subst q1 q3
     by_cases hm:news.length=0
     ·have hn1:news=[]:=List.eq_nil_of_length_eq_zero hm
      subst hn1
      refine key (.slice none 0 0) W U ?_ h' (zVR_sound (v:=.slice none 0 0) (c:=.sl (some e) sz []) rfl W U).1 (fun j hj e' sz' els' he'=>?_)
      ·have hl0:l=[]:=List.eq_nil_of_length_eq_zero (by rw[← hnl];rfl)
       subst hl0
       simp[Builtin.append_,run_underlying ht,run_underlying htx,sizeOf,typeInfo,hi,Builtin.lenOf,Builtin.firstCells,ByteArray.size]
      ·cases he'
       exact ⟨.inl ⟨rfl,rfl⟩,fun g hg=>by simp[Value.ownBlock]at hg⟩
     ·have hrun:(Builtin.append_ #[t,tx] o.type #[.slice none 0 0,.string ⟨l.toArray⟩]).run P W=.ok (.slice (some ⟨W.heap.size,0,none⟩) news.length (grownCap W news.length 0 e)) (W.drew.alloc (.cells ((a0e f2 news.length sz).toArray++Builtin.zeroCells z.cells (grownCap W news.length 0 e - news.length)) e)):=by
       have:=run_append_grow_src (P:=P) W t tx o.type e inf z ht hi hz1 none 0 0 [] (by simp[Builtin.firstCells]) _ news.length (a0e f2 news.length sz) hsrc (by omega) (by simp only[maxLen]at hmx;omega) (growslice_fits (by omega) (by simpa using hb))
       simpa using this
      have hE:Ext W U (W.drew.alloc (.cells ((a0e f2 news.length sz).toArray++Builtin.zeroCells z.cells (grownCap W news.length 0 e - news.length)) e)) (fun k i=>if k=W.heap.size then news.length * sz≤i else U k i):=by
       have:=Ext.alloc W.drew U (.cells ((a0e f2 news.length sz).toArray++Builtin.zeroCells z.cells (grownCap W news.length 0 e - news.length)) e) (fun i=>news.length * sz≤i)
       exact ⟨(Below.refl _ _).drew.alloc (Nat.le_refl _) _,this.u⟩
      have hge:=grownCap_ge W news.length 0 e
      have hcm:=grownCap_le_maxLen W news.length 0 e hmx
      have hnew:=heap_alloc_new W.drew (.cells ((a0e f2 news.length sz).toArray++Builtin.zeroCells z.cells (grownCap W news.length 0 e - news.length)) e)
      have hcsz:((a0e f2 news.length sz).toArray++Builtin.zeroCells z.cells (grownCap W news.length 0 e - news.length)).size=grownCap W news.length 0 e * sz:=by
       simp only[Array.size_append,List.size_toArray,size_zeroCells,hz2,a0c, ← Nat.add_mul]
       congr 1
       omega
      refine key _ _ _ hrun (h'.ext hE) ?_ (fun j hj=>Sole.fresh h' hE ?_)
      ·refine VR_row (f:=f2) hnew hge hcm hs2 (fun i j hi hj=>?_) (fun o ho hu=>?_) (fun i e' j c he hc=>(hv2 i e' j c he hc).keep hE.keeps)
       ·refine ⟨?_,(hc2 i j hi hj).2.1⟩
        have:=flatV_get (f:=f2) hi hj
        rw[Array.getElem?_append_left (by rw[List.size_toArray];exact (List.getElem?_eq_some_iff.1 this).1)]
        simpa using this
       ·have hu':news.length * sz≤o:=by simpa using hu
        omega
      ·refine .inr ⟨W.heap.size,_,_,rfl,Nat.le_refl _,.of hnew,hge,hcm,hcsz,fun o ho hu=>?_,fun o ho=>?_⟩
       ·have hu':news.length * sz≤o:=by simpa using hu
        omega
       ·simpa using ho
    ·-- a row of its own
     have hb1:0<els.length→b1=g∧o1=0:=fun hp=>by
      have:=hA1 hp
      rw[this]at hsl
      injection hsl with h1 h2 h3
      injection h1 with h1
      injection h1 with h1 h2
      exact ⟨h1,h2⟩
     have hcur:∀ i j,i<els.length→j<sz→cur[i * sz+j]?=some (f1 i j):=by
      intro i j hi hj
      obtain ⟨rfl,rfl⟩:=hb1 (by omega)
      have:=(hc1 i j hi hj).1
      rw[Nat.zero_add]at this
      rw[← this,cell_of_row W b1 _ cur e fz hgh]
     have hold:∀ p v,(a0e f1 els.length sz)[p]?=some v→W.cell? ((⟨g,0,none⟩:Addr).add p)=some v:=by
      intro p v hp
      obtain ⟨q1,q2,rfl,q4⟩:=flatV_some hp
      rw[a0B,Nat.zero_add,cell_of_row W g p cur e fz hgh]
      have:=hcur _ _ q1 q2
      rw[← q4]at this
      exact this
     injection hsl with hA1' hlen1 hcap1'
     subst hA1' hcap1'
     have hnog:s.o g=none:=h.no (.t i) _ _ _ hs0 g (by simp only[cat,hval'];rfl)
     have hapg:∀ ℓ e' sz' els',St.at { s with t:=upd s.t i none } ℓ=some (.sl (some e') sz' els')→(cat a W ℓ).ownBlock≠some g:=fun ℓ e' sz' els' hl=>by
      obtain ⟨hne,hl'⟩:=hother ℓ _ _ _ hl
      exact h.ap (.t i) ℓ _ _ _ _ _ _ (Ne.symm hne) hs0 hl' g (by simp only[cat,hval'];rfl)
     by_cases hroom:els.length+news.length≤cap1
     ·-- in place
      have hfit:els.length * inf.size+(a0e f2 news.length sz).length≤cur.size:=by
       rw[a0c,hgs,hisz, ← Nat.add_mul]
       exact Nat.mul_le_mul_right _ hroom
      have hrun:(Builtin.append_ #[t,tx] o.type #[.slice (some ⟨g,0,none⟩) els.length cap1,.string ⟨l.toArray⟩]).run P W=.ok (.slice (some ⟨g,0,none⟩) (els.length+news.length) cap1) (W.setRow g (cur.toList.take (els.length * inf.size)++a0e f2 news.length sz++cur.toList.drop (els.length * inf.size+(a0e f2 news.length sz).length)).toArray):=by
       have hst:=run_storeCells_M (P:=P) W g (els.length * inf.size) e cur hgh hfz (a0e f2 news.length sz) hfit h1new
       have hadd:(⟨g,0,none⟩:Addr).add (els.length * inf.size)=⟨g,els.length * inf.size,none⟩:=by rw[a0B,Nat.zero_add]
       have hlen':=hsrc.len
       have hcel':=hsrc.cells
       simp only[Builtin.append_,List.getElem?_toArray,List.getElem?_cons_zero,List.getElem?_cons_succ,Sem.run_bind,run_underlying ht,run_underlying htx,sizeOf,typeInfo,hi,hlen',hcel',Result.andThen_ok]
       simp[hroom,hlen',hcel',hadd,hst,hi]
      rw[hisz]at hrun hfit
      have hnew:=setRow_heap W g cur (cur.toList.take (els.length * sz)++a0e f2 news.length sz++cur.toList.drop (els.length * sz+(a0e f2 news.length sz).length)).toArray e fz hgh
      have htk:(cur.toList.take (els.length * sz))=a0e f1 els.length sz:=by
       apply List.ext_getElem?
       intro p
       rcases Nat.lt_or_ge p (els.length * sz) with hp|hp
       ·have hp':p / sz<els.length:=(Nat.div_lt_iff_lt_mul hsz).2 hp
        have e4:p=p / sz * sz+p % sz:=by have:=Nat.div_add_mod p sz;rw[Nat.mul_comm]at this;omega
        rw[List.getElem?_take,if_pos hp,e4,flatV_get hp' (Nat.mod_lt _ hsz)]
        simpa using hcur _ _ hp' (Nat.mod_lt _ hsz)
       ·rw[List.getElem?_eq_none (by simp;omega),List.getElem?_eq_none (by rw[a0c];exact hp)]
      rw[htk]at hrun hnew
      have hcell:∀ i j,i<els.length+news.length→j<sz→(a0e f1 els.length sz++a0e f2 news.length sz++cur.toList.drop (els.length * sz+(a0e f2 news.length sz).length)).toArray[i * sz+j]?=some (a3q els.length f1 f2 i j):=by
       intro i j hi hj
       have:=join_get (f:=f1) (g:=f2) hi hj
       rw[List.getElem?_toArray,List.getElem?_append_left (List.getElem?_eq_some_iff.1 this).1]
       exact this
      have hK:Keeps W U (W.setRow g (a0e f1 els.length sz++a0e f2 news.length sz++cur.toList.drop (els.length * sz+(a0e f2 news.length sz).length)).toArray) (fun k i=>if k=g then (els.length+news.length) * sz≤i else U k i):=by
       refine ⟨fun b' o' v hc hu=>?_,fun b' ty ⟨c1,c3,c4⟩=>?_,fun b' es' clk' e' hu=>by
        have hne:b'≠g:=by rintro rfl;rw[hgh]at e';cases e'
        exact ⟨(setRow_other W g b' _ hne).trans e',by simp only[if_neg hne];exact hu⟩⟩
       rotate_left
       ·by_cases hne:b'=g
        ·subst hne;have e4:=hgh.symm.trans c4;cases e4;exact ⟨_,_,hnew⟩
        ·exact ⟨c1,c3,(setRow_other W g b' _ hne).trans c4⟩
       by_cases hbg:b'=g
       ·subst hbg
        have hlt:o'<els.length * sz:=by
         rcases Nat.lt_or_ge o' (els.length * sz) with hl|hl
         ·exact hl
         ·exact absurd (hgU2 o' hl) hu
        have e4:o'=o' / sz * sz+o' % sz:=by have:=Nat.div_add_mod o' sz;rw[Nat.mul_comm]at this;omega
        have hp':o' / sz<els.length:=(Nat.div_lt_iff_lt_mul hsz).2 hlt
        refine ⟨?_, ?_⟩
        ·rw[cell_of_row _ b' o' _ e fz hnew]
         rw[cell_of_row W b' o' cur e fz hgh]at hc
         have h5:=hcell (o' / sz) (o' % sz) (by omega) (Nat.mod_lt _ hsz)
         have h6:=hcur _ _ hp' (Nat.mod_lt o' hsz)
         rw[← e4]at h5 h6
         rw[h5, ← hc,h6]
         simp[a3q,hp']
        ·simp only[if_true]
         rw[Nat.add_mul]
         omega
       ·refine ⟨?_,by simpa[hbg]using hu⟩
        rw[World.cell?_of_block (w:=W) (a:=⟨b',o',none⟩) (setRow_other W g b' _ hbg)]
        exact hc
      refine key _ _ (fun k i=>if k=g then (els.length+news.length) * sz≤i else U k i) hrun
       (h'.turn hB hnog hapg hK rfl rfl rfl (by simp) (fun k _ hk=>setRow_other W g k _ hk) (fun k _ hk o=>by simp[hk])) ?_ (fun j hj e' sz' els' he'=>?_)
      ·refine VR_row' (f:=a3q els.length f1 f2) hlen hnew hroom hgm hsall (fun i j hi hj=>⟨hcell i j hi hj, ?_⟩) (fun o ho hu=>?_) (join_VR (fun i e' j c he hc=>(hv1 i e' j c he hc).keep hK) (fun i e' j c he hc=>(hv2 i e' j c he hc).keep hK))
       ·unfold a3q
        by_cases hil:i<els.length
        ·rw[if_pos hil];exact (hc1 i j hil hj).2.1
        ·rw[if_neg hil];exact (hc2 (i - els.length) j (by omega) hj).2.1
       ·simp only[if_true]at hu
        omega
      ·cases he'
       refine ⟨.inr ⟨g,cap1,_,by rw[hlen],hB,⟨fz,hnew,hfz.imp id fun q=>by simp only[List.size_toArray,List.length_append,List.length_drop,Array.length_toList,a0c]at hfit ⊢;omega⟩,by omega,hgm, ?_,fun o ho hu=>?_,fun o ho=>?_⟩,fun g' hg'=>?_⟩
       ·simp only[List.size_toArray,List.length_append,List.length_drop,Array.length_toList,a0c]at hfit ⊢
        omega
       ·simp only[if_true]at hu
        rw[hlen]at ho
        omega
       ·simp only[if_true]
        rw[hlen]at ho
        exact ho
       ·obtain rfl:g=g':=by simpa[Value.ownBlock]using hg'
        refine ⟨hnog,fun ℓ _ ⟨e2,sz2,els2,hl⟩=>?_⟩
        have hcat:cat a (W.setRow g (a0e f1 els.length sz++a0e f2 news.length sz++cur.toList.drop (els.length * sz+(a0e f2 news.length sz).length)).toArray) ℓ=cat a W ℓ:=by
         cases ℓ with
         | t i=>rfl
         | o b j=>
          have hl2:=hl
          simp only[St.at,Option.bind_eq_some_iff]at hl2
          obtain ⟨cs,e1,_⟩:=hl2
          have hne:b≠g:=by rintro rfl;rw[hnog]at e1;cases e1
          simp only[cat,setRow_other W g b _ hne]
        rw[hcat]
        exact hapg ℓ _ _ _ hl
     ·-- a new row
      have hrun:(Builtin.append_ #[t,tx] o.type #[.slice (some ⟨g,0,none⟩) els.length cap1,.string ⟨l.toArray⟩]).run P W=.ok (.slice (some ⟨W.heap.size,0,none⟩) (els.length+news.length) (grownCap W (els.length+news.length) cap1 e)) (W.drew.alloc (.cells ((a0e f1 els.length sz).toArray++(a0e f2 news.length sz).toArray++Builtin.zeroCells z.cells (grownCap W (els.length+news.length) cap1 e - (els.length+news.length))) e)):=by
       have:=run_append_grow_src (P:=P) W t tx o.type e inf z ht hi hz1 (some ⟨g,0,none⟩) els.length cap1 (a0e f1 els.length sz) (run_firstCells_some W.drew inf.size els.length ⟨g,0,none⟩ els.length cap1 _ (by rw[a0c,hisz]) (by simpa using hold)) _ news.length (a0e f2 news.length sz) hsrc (by omega) (by simp only[maxLen]at hmx;omega) (growslice_fits (by omega) hb)
       simpa using this
      have hge:=grownCap_ge W (els.length+news.length) cap1 e
      have hcm:=grownCap_le_maxLen W (els.length+news.length) cap1 e hmx
      have hnew:=heap_alloc_new W.drew (.cells ((a0e f1 els.length sz).toArray++(a0e f2 news.length sz).toArray++Builtin.zeroCells z.cells (grownCap W (els.length+news.length) cap1 e - (els.length+news.length))) e)
      have hE:Ext W U (W.drew.alloc (.cells ((a0e f1 els.length sz).toArray++(a0e f2 news.length sz).toArray++Builtin.zeroCells z.cells (grownCap W (els.length+news.length) cap1 e - (els.length+news.length))) e)) (fun k i=>if k=W.heap.size then (els.length+news.length) * sz≤i else U k i):=by
       have:=Ext.alloc W.drew U (.cells ((a0e f1 els.length sz).toArray++(a0e f2 news.length sz).toArray++Builtin.zeroCells z.cells (grownCap W (els.length+news.length) cap1 e - (els.length+news.length))) e) (fun i=>(els.length+news.length) * sz≤i)
       exact ⟨(Below.refl _ _).drew.alloc (Nat.le_refl _) _,this.u⟩
      refine key _ _ _ hrun (h'.ext hE) ?_ (fun j hj=>Sole.fresh h' hE ?_)
      ·refine VR_row' (f:=a3q els.length f1 f2) hlen hnew hge hcm hsall (fun i j hi hj=>⟨?_, ?_⟩) (fun o ho hu=>?_) (join_VR (fun i e' j c he hc=>(hv1 i e' j c he hc).keep hE.keeps) (fun i e' j c he hc=>(hv2 i e' j c he hc).keep hE.keeps))
       ·have:=join_get (f:=f1) (g:=f2) (by omega:i<els.length+news.length) hj
        rw[Array.getElem?_append_left (by have h9:=(List.getElem?_eq_some_iff.1 this).1;simpa using h9)]
        simpa using this
       ·unfold a3q
        by_cases hil:i<els.length
        ·rw[if_pos hil];exact (hc1 i j hil hj).2.1
        ·rw[if_neg hil];exact (hc2 (i - els.length) j (by omega) hj).2.1
       ·have hu':(els.length+news.length) * sz≤o:=by simpa using hu
        omega
      ·refine .inr ⟨W.heap.size,_,_,by rw[hlen],Nat.le_refl _,.of hnew,by omega,hcm, ?_,fun o ho hu=>?_,fun o ho=>?_⟩
       ·simp only[Array.size_append,List.size_toArray,size_zeroCells,hz2,a0c, ← Nat.add_mul]
        congr 1
        omega
       ·have hu':(els.length+news.length) * sz≤o:=by simpa using hu
        rw[hlen]at ho
        omega
       ·rw[hlen]at ho
        simpa using ho
end
end
end Go.Proofs.YtfgihnhoocnmdaaGreatDoor
