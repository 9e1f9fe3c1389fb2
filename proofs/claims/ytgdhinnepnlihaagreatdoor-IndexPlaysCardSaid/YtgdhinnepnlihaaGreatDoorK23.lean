import Derived.Test.YtgdhinnepnlihaaGreatDoorK11
import Derived.Test.YtgdhinnepnlihaaGreatDoorK22
import Derived.Test.YtgdhinnepnlihaaGreatDoorK12
import Derived.Test.YtgdhinnepnlihaaGreatDoorK13
import Derived.Test.YtgdhinnepnlihaaGreatDoorK19
import Derived.Test.YtgdhinnepnlihaaGreatDoorK21
import Derived.Test.YtgdhinnepnlihaaGreatDoorK20
namespace Go.Proofs.YtgdhinnepnlihaaGreatDoor
set_option linter.all false
set_option maxHeartbeats 9000000
section
open Go.RowKit Go.ChangeMaps Go.Sort Go.Shelf
set_option maxRecDepth 100000 in
set_option maxHeartbeats 4000000 in
theorem kva_iter{α:Type}[Inhabited α](cl:α→List Value)(hcl:∀ x,(cl x).length=4)(h1:∀ x, ∀ u∈cl x,u.oneCell'=true)(F:Fence)(n:Nat)(hf:F.fn 140)(hro:F.round=none)(hn:1≤n)
  (bx b:Nat) (es:Array MapEntry) (clk:Nat) (l:List α) (w:World) (tb:TypeId) (hbx:w.heap[bx]?=some (.cells #[.map (some b)] tb (0,0))) (hb:w.heap[b]?=some (.map es clk))
  (hval:es.toList.map (·.key)=l.map fun x=>.agg (cl x).toArray) (hborn:∀ x∈es.toList,x.born<clk) (hnd:(es.toList.map (·.born)).Nodup):
  SeqStops F n Tryz.prog 140 #[.pointer (some ⟨bx,0,none⟩)] (fun x=>.agg (cl x).toArray) (fun xs=>xs.Perm l) (fun _=>True) l.length w:=by
 intro lp J Jx W hW hJ hJx hY h0
 have hbxl:bx<w.heap.size:=(Array.getElem?_eq_some_iff.1 hbx).1
 have hbl:b<w.heap.size:=(Array.getElem?_eq_some_iff.1 hb).1
 have hbx1:W.heap[bx]?=some (.cells #[.map (some b)] tb (0,0)):=(hW.block bx hbxl).trans hbx
 have hb1:W.heap[b]?=some (.map es clk):=(hW.block b hbl).trans hb
 have hc1:W.cell? ⟨bx,0,none⟩=some (.map (some b)):=by simp[World.cell?,hbx1]
 have hsz:=hW.size
 refine callsIn_of_wp Tryz.func140 rfl hf ?_ hro
 simp only[Tryz.ntmps140,List.size_toArray,List.length_cons,List.length_nil,Nat.reduceAdd,Nat.reduceSub,Array.replicate_succ,Array.replicate_zero,List.push_toArray,List.append_toArray,List.nil_append,List.cons_append]
 gi_wp2_with (first
  | (gi_at_range;refine a9p _ rfl _ _ rfl _ _ Tryz.underlying147 b es clk rfl hb1 ?_)
  | gi_in)
 gi_loopw [3] (fun _ wr=>∃ (seen:Array Nat) (is:List Nat),wr.heap[W.heap.size]?=some (.mapIter (some b) clk seen clk)∧wr.heap[b]?=some (.map es clk)∧W.heap.size≤wr.heap.size∧Came es seen is∧J (is.map fun i=>l.getD i default) wr)
  (fun _ wr=>es.size - a8Q wr W.heap.size)
 case atStart=>
  refine ⟨#[],[],World.alloc_heap_new W _,(Below.heap_alloc _ _ b (by omega)).trans hb1,by simp,Came.nil es, ?_⟩
  exact hJ [] W _ none h0 (World.grownBy_alloc W _ none) (fun r e=>by cases e)
 case round=>
  obtain ⟨seen,is,hr1,hr2,hr3,hC,hJs⟩:=hrel
  gi_wp2_with (first
   | (gi_at_next;refine b1c _ rfl _ rfl W.heap.size b clk es seen rfl hr1 hr2 hborn ?_ ?_)
   | gi_in)
  ·intro hl0
   gi_wp2
   go_end0
   refine ⟨⟨_,rfl⟩,.inl ⟨_, ?_,hJs⟩⟩
   have hp:=hC.all hnd hl0
   have hlen:es.size=l.length:=by have:=congrArg List.length hval;simpa using this
   rw[hlen]at hp
   have:=hp.map fun i=>l.getD i default
   rwa [range_getD_map]at this
  ·intro e w2 he hst
   obtain ⟨i,hi,hC2⟩:=hC.step hnd he
   have hil:i<es.size:=(Array.getElem?_eq_some_iff.1 hi).1
   have hlen:es.size=l.length:=by have:=congrArg List.length hval;simpa using this
   have hv:e.key=.agg (cl (l.getD i default)).toArray:=by
    have:=congrArg (fun q=>q[i]?) hval
    simp only[List.getElem?_map,Array.getElem?_toList,hi,Option.map_some]at this
    rw[List.getElem?_eq_getElem (by omega)]at this
    simpa[List.getD,show i<l.length by omega]using this
   have hmem:e∈es.toList:=by
    rw[List.mem_iff_getElem?]
    exact ⟨i,by rw[Array.getElem?_toList];exact hi⟩
   have hne:b≠W.heap.size:=by omega
   have hb2:w2.heap[b]?=some (.map es clk):=(hst.grown.block b (by omega) (by simpa using hne)).trans hr2
   have hJ2:=hJ _ _ w2 _ hJs hst.grown (fun r e=>by cases e;exact ⟨Nat.le_refl _,_,hr1,rfl⟩)
   have hs2:=hst.size
   have hWr:W.heap.size<wr.heap.size:=(Array.getElem?_eq_some_iff.1 hr1).1
   have hr2':=hst.at_
   obtain ⟨x,hx⟩:∃ x,l.getD i default=x:=⟨_,rfl⟩
   rw[hx]at hv
   have hJ3:J (is.map fun i=>l.getD i default) (w2.alloc (.cells (cl x).toArray 64)):=hJ _ _ _ none hJ2 (World.grownBy_alloc w2 _ none) (fun r e=>by cases e)
   have hlt:(is.map fun i=>l.getD i default).length<l.length:=by
    have:=a5W _ _ hC2.nd hC2.lt
    simp at this ⊢;omega
   obtain ⟨fn,tmps,assign,body,hy,hR⟩:=hY _ x _ hJ3 hlt
   have hcs:(cl x).toArray.size=4:=by simp[hcl]
   have hone:∀ u∈(cl x).toArray.toList,u.oneCell'=true:=by simpa using h1 x
   have hso:∀ w,(Go.sizeOf 64).run Tryz.prog w=.ok (cl x).toArray.size w:=fun w=>by rw[hcs];exact Tryz.sizeOf64 w
   generalize (cl x).toArray=c at hv hy hR hcs hone hso
   clear hJ3 hJ2 hJs h1 hcl
   gi_wp2_with (first
    | (refine a9o _ rfl _ rfl W.heap.size b clk es seen e rfl hr2' hb2 hmem hnd ?_)
    | (refine a4K _ rfl rfl _ _ 64 rfl 4 (by kernel_rfl) wr.heap.size _ c 64 rfl (alloc_at hs2 _) rfl rfl hcs hone ?_;rw[alloc_setRow2 hs2])
    | (refine a6o _ rfl _ 64 rfl wr.heap.size c 64 Tryz.isAgg64 hso rfl (alloc_at hs2 _) ?_)
    | gi_in)
   refine hR.mono ?_
   rintro e2 W3 (⟨rfl,hJ4,hk3⟩ | ⟨rfl,hJx4⟩)
   ·gi_wp2
    have ha:(w2.alloc (.cells c 64)).heap[W.heap.size]?=some (.mapIter (some b) clk (seen.push e.born) clk):=(Below.heap_alloc _ _ _ (by omega)).trans hr2'
    have hb3:(w2.alloc (.cells c 64)).heap[b]?=some (.map es clk):=(Below.heap_alloc _ _ _ (by omega)).trans hb2
    have ha3:=hk3.same _ _ ha rfl
    go_roundw
    case rel=>
     refine ⟨_,is++[i],ha3,hk3.same _ _ hb3 rfl, ?_,hC2, ?_⟩
     ·have:=hk3.size;simp at this;omega
     ·rw[List.map_append,List.map_singleton,hx];exact hJ4
    case measure=>
     have q1:a8Q W3 W.heap.size=seen.size+1:=by simp[a8Q,ha3]
     have q2:a8Q wr W.heap.size=seen.size:=by simp[a8Q,hr1]
     have q3:=hC2.size
     have q4:=a5W _ _ hC2.nd hC2.lt
     simp only[Array.size_push,List.length_append,List.length_singleton]at q3 q4
     rw[q1,q2];omega
   ·gi_wp2
    (try simp only[Exit.inBlock,Exit.then]);refine bodyPost_ret (results_none rfl _ _ _) rfl ?_
    exact ⟨⟨_,rfl⟩,.inr ⟨_,trivial,hJx4⟩⟩

structure kApI {α:Type} (cl:α→List Value) (w:World) (xs:List α) (W:World):Prop where
 box:∃ v,W.heap[w.heap.size]?=some (.cells #[v] 53 (0,0))∧W.ownsRow w.heap.size 64 4 v xs.length (xs.flatMap cl)
 below:Below w.heap.size w W
theorem kApI.own{α:Type}(cl:α→List Value)(w:World)(B:Nat)(hB:w.heap.size≤B):OwnFrom B (kApI cl w):=by
 intro xs W W' row h hg hr
 obtain ⟨v,hv,hrow⟩:=h.box
 refine ⟨⟨v,(grownBy_keeps_cells hg (fun r e=>(hr r e).2) hv rfl).trans hv,row_own hrow hg fun r e=>(hr r e).2⟩,h.below.grown hg h.below.size fun k e=>Nat.le_trans hB (hr k e).1⟩
set_option maxRecDepth 100000 in
set_option maxHeartbeats 4000000 in
theorem kva_app{α:Type}[Inhabited α](cl:α→List Value)(hcl:∀ x,(cl x).length=4)(h1:∀ x, ∀ u∈cl x,u.oneCell'=true)(F:Fence)(n:Nat)(hf:F.fn 140)
    (hf2:F.fn 193) (hro:F.round=none) (hn:3≤n)
    (bx b:Nat) (es:Array MapEntry) (clk:Nat) (l:List α) (w:World) (tb:TypeId) (hbx:w.heap[bx]?=some (.cells #[.map (some b)] tb (0,0))) (hb:w.heap[b]?=some (.map es clk))
    (hval:es.toList.map (·.key)=l.map fun x=>.agg (cl x).toArray) (hborn:∀ x∈es.toList,x.born<clk) (hnd:(es.toList.map (·.born)).Nodup) (hl:l.length≤1000000):
    CallsIn F n Tryz.prog 193 #[.slice none 0 0,.func (.func 140) #[] #[.pointer (some ⟨bx,0,none⟩)]] w fun e W'=>
      ∃ (v:Value) (xs:List α),e=.returned v∧xs.Perm l∧W'.ownsRow w.heap.size 64 4 v xs.length (xs.flatMap cl)∧Below w.heap.size w W':=by
  have hbxl:bx<w.heap.size:=(Array.getElem?_eq_some_iff.1 hbx).1
  have hbl:b<w.heap.size:=(Array.getElem?_eq_some_iff.1 hb).1
  have hmx:maxLen=9223372036854775807:=rfl
  refine callsIn_of_wp_marks Tryz.func193 rfl hf2 ?_ hro
  simp only[Tryz.ntmps193,List.size_toArray,List.length_cons,List.length_nil,Nat.reduceAdd,Nat.reduceSub,Array.replicate_succ,Array.replicate_zero,List.push_toArray,List.append_toArray,List.nil_append,List.cons_append]
  gi_wp2
  obtain ⟨W0,hW0⟩:∃ W0,w.alloc (.cells #[.slice none 0 0] 53)=W0:=⟨_,rfl⟩
  rw[hW0]
  have hs0:W0.heap.size=w.heap.size+1:=by rw[← hW0];simp
  have hv0:W0.heap[w.heap.size]?=some (.cells #[.slice none 0 0] 53 (0,0)):=by rw[← hW0];exact World.alloc_heap_new w _
  have hB0:Below w.heap.size w W0:=by rw[← hW0];exact (Below.refl _ w).alloc (Nat.le_refl _) _
  have hbx0:W0.heap[bx]?=some (.cells #[.map (some b)] tb (0,0)):=(hB0.block bx hbxl).trans hbx
  have hb0:W0.heap[b]?=some (.map es clk):=(hB0.block b hbl).trans hb
  obtain ⟨i0,hi,hz0,hz1,hz2⟩:=info_parts (P:=Tryz.prog) (e:=64) (z:=.agg #[.string ⟨#[]⟩,.int .i64 0,.bool false,.int .i64 0]) (size:=4) (bytes:=40) (by kernel_rfl)
  refine walk_seq (pt:=7) hro (by omega) (gf:=140) (lb := #[.pointer (some ⟨bx,0,none⟩)]) rfl hf (enters_of Tryz.func140 (by kernel_rfl) rfl)
    (kva_iter cl hcl h1 F (n - 1) hf hro (by omega) bx b es clk l W0 tb hbx0 hb0 hval hborn hnd) (kApI cl w) (kApI.own cl w _ (by omega)) ⟨⟨_,hv0,⟨rfl,.inl ⟨rfl,rfl⟩⟩⟩,hB0⟩
    (fun x=>.cells (cl x).toArray 64 (0,0)) (fun _=>rfl)
    (fun x p=>{ tmps := #[.slice none 0 0,.func (.func 140) #[] #[.pointer (some ⟨bx,0,none⟩)],.pointer (some ⟨w.heap.size,0,none⟩),undef,.slice none 0 0,.pointer (some ⟨p,0,none⟩),.func (.func 140) #[] #[.pointer (some ⟨bx,0,none⟩)],.agg (cl x).toArray,undef,undef,undef,undef,undef],defers:=[] }) ?_ ?_ ?_
  · intro lp x W K hK
    have hcs:(cl x).toArray.size=4:=by simp[hcl]
    have hone:∀ u∈(cl x).toArray.toList,u.oneCell'=true:=by simpa using h1 x
    generalize (cl x).toArray=c at hK hcs hone
    gi_wp2_with (first
      | (refine a4K _ rfl rfl _ _ 64 rfl 4 (by kernel_rfl) W.heap.size _ c 64 rfl (alloc_at rfl _) rfl rfl hcs hone ?_;rw[alloc_setRow2 rfl])
      | (rw[Oper.semAt_eq _ _ _ (fun c h=>by cases h)];go_simp;try go_bits))
    exact hK
  · intro lp pre x W p hI hlen hp hwp
    obtain ⟨⟨v,hv,hrow⟩,hbel⟩:=hI
    have hcv:W.cell? ⟨w.heap.size,0,none⟩=some v:=by simp[World.cell?,hv]
    have hfv:W.frozen? ⟨w.heap.size,0,none⟩=false:=by simp[World.frozen?,hv]
    have hBlt:w.heap.size<W.heap.size:=(Array.getElem?_eq_some_iff.1 hv).1
    have hcs:(cl x).toArray.size=4:=by simp[hcl]
    have hso:∀ w,(Go.sizeOf 64).run Tryz.prog w=.ok (cl x).toArray.size w:=fun w=>by rw[hcs];exact Tryz.sizeOf64 w
    have hcell:∀ j u,(cl x)[j]?=some u→(W.alloc (.cells (cl x).toArray 64)).cell? ((⟨W.heap.size,0,none⟩:Addr).add j)=some u:=by
      intro j u hj
      rw[a1c,cell_of_row _ _ _ _ _ _ (World.alloc_heap_new W _)]
      simpa using hj
    have hlcl:=hcl x
    have hfm:(pre++[x]).flatMap cl=pre.flatMap cl++cl x:=by simp
    have hone:=h1 x
    have hne:some w.heap.size≠v.ownBlock:=by
      rcases hrow.2 with ⟨rfl,_⟩ | ⟨g,cap,cur,rfl,_,hgb,_⟩
      · simp[Value.ownBlock]
      · intro e
        have e':w.heap.size=g:=by simpa[Value.ownBlock]using e
        subst e'
        rw[hv]at hgb
        cases hgb
    gi_wp2_with (first
      | (refine a6o _ rfl _ 64 rfl p (cl x).toArray 64 Tryz.isAgg64 hso rfl hp ?_)
      | (refine b2A _ rfl _ 53 64 rfl i0 Tryz.underlying53 hi _ hz0 4 hz1 rfl (by omega) (by omega) (cl x).toArray rfl hcs ?_)
      | (gi_at_builtin;refine wpListIn_append_own _ rfl _ _ 53 rfl w.heap.size 64 i0 _ 4 40 Tryz.underlying53 hi hz0 hz1 hz2 rfl (by decide) _ _ _ rfl (hrow.alloc _) ⟨W.heap.size,0,none⟩ 1 1 (cl x) rfl (by rw[hlcl]) hcell hone (by omega) (by omega) (by simp;omega) ?_;intro v' w3 hown' hg3 hnil3
         have hv3:w3.heap[w.heap.size]?=some (.cells #[v] 53 (0,0)):=(hg3.block w.heap.size (by simp;omega) hne).trans ((Below.heap_alloc _ _ _ hBlt).trans hv)
         have hcv3:w3.cell? ⟨w.heap.size,0,none⟩=some v:=by simp[World.cell?,hv3]
         have hfv3:w3.frozen? ⟨w.heap.size,0,none⟩=false:=by simp[World.frozen?,hv3]
         obtain ⟨g',cap',cur',rfl,hg'⟩:∃ g' cap' cur',v'=.slice (some ⟨g',0,none⟩) (pre.length+1) cap'∧w3.heap[g']?=some (.cells cur' 64 (0,0)):=by
           rcases hown'.2 with ⟨_,h0⟩ | ⟨g',cap',cur',e,_,q,_⟩
           · exact absurd h0 (by omega)
           · exact ⟨g',cap',cur',e,q⟩)
      | (rw[Oper.semAt_eq _ _ _ (fun c h=>by cases h)];go_simp;try go_bits))
    have hgs:=a5R w3 w.heap.size (.slice (some ⟨g',0,none⟩) (pre.length+1) cap')
    have hne2:(Value.slice (some ⟨g',0,none⟩) (pre.length+1) cap').ownBlock≠some w.heap.size:=by
      intro e
      have e':g'=w.heap.size:=by simpa[Value.ownBlock]using e
      subst e'
      rw[hv3]at hg'
      cases hg'
    have hrc:∀ (j:Nat) (o:Obj),v.ownBlock=some j→(W.alloc (.cells (cl x).toArray 64)).heap[j]?=some o→o.isCells=true:=by
      intro j o hj ho
      rcases (hrow.alloc (.cells (cl x).toArray 64)).2 with ⟨rfl,_⟩ | ⟨g,cap,cur,rfl,_,hgb,_⟩
      · simp[Value.ownBlock]at hj
      · have:g=j:=by simpa[Value.ownBlock]using hj
        subst this;rw[hgb]at ho;cases ho;rfl
    have hb3:Below w.heap.size w w3:=(hbel.alloc hbel.size _).grown hg3 (by have:=hbel.size;simp;omega) (fun k e=>(hrow.lt k e).1)
    refine ⟨((KeepsOthers.alloc W _).trans (KeepsOthers.of_grownBy hg3 hrc)).trans (KeepsOthers.setCell _ _ _),⟨⟨_,heap_setCell_one _ hv3, ?_⟩,hb3.grown hgs hb3.size (fun k e=>by cases e;exact Nat.le_refl _)⟩⟩
    rw[hfm,List.length_append,List.length_singleton]
    exact hown'.kept hgs (.inr hne2)
  · intro D xs W hD hS hI hK
    obtain ⟨⟨v,hv,hrow⟩,hbel⟩:=hI
    have hcv:W.cell? ⟨w.heap.size,0,none⟩=some v:=by simp[World.cell?,hv]
    gi_wp2
    refine ⟨by simp,.inl ⟨_,_,rfl,run_takeDeferred hK, ?_⟩⟩
    have hgp:=grownBy_putObj' W D (.deferred none)
    exact ⟨_,results_tmp rfl _ _ _,v,xs,rfl,hS,row_own hrow hgp (fun r e=>by cases e;exact ⟨_,hK,rfl⟩),hbel.grown hgp hbel.size (fun k e=>by cases e;omega)⟩
end
section
open Go.RowKit
set_option maxRecDepth 100000
theorem sxLfd{A B:Prop}(h:B)(e:A=B:=by (simp (disch:=omega) only[*, ↓Ed,Eu, ↓reduceIte,reduceCtorEq,Nat.reduceAdd,Nat.reduceEqDiff,Nat.reduceLT,Nat.reduceLeDiff,Int.reduceToNat,Int.reduceEq,Int.reduceLT,Int.reduceLE,w64,List.length_append,List.length_map,Nat.mul_one,beq_self_eq_true,KeyC.cs,Int.reduceAdd];first|done|rfl)):A:=e▸h
theorem b3Q(a b:a1D):CP Tryz.prog 109 [.agg [.str a.1,.int .i64 a.2],.agg [.str b.1,.int .i64 b.2]] (.bool (a0E a b)):=by
 refine b0G _ _ (by simp) ?_
 unfold a0E
 cases h1:Op.bytesLess a.1 b.1<;>cases h2:decide (a.1=b.1)<;>cases h3:decide (a.2<b.2)
 all_goals (simp only[a7H];refine sxLfd ?_;try exact tt)
 all_goals repeat' ((first|exact tt|refine na fun b=>?_|refine nb fun b hb=>?_|refine iq ?_|(refine jq ?_ ?_<;>intro h h')|refine Two_intro ?_ ?_|exact wZ|fail)<;>try refine sxLfd ?_)
 all_goals rfl
def b5c(x y:Bool):Int:=if x=true then -1 else if y=true then 1 else 0
theorem b1w(x y:Bool):CP Tryz.prog 142 [.bool x,.bool y] (.int .i64 (b5c x y)):=by
 refine a9P _ _ (by simp) ?_
 cases x<;>cases y
 all_goals (simp only[a6P];refine sxLfd ?_;try exact tt)
 all_goals repeat' ((first|exact tt|refine na fun b=>?_|refine nb fun b hb=>?_|refine iq ?_|(refine jq ?_ ?_<;>intro h h')|refine Two_intro ?_ ?_|exact wZ|fail)<;>try refine sxLfd ?_)
 all_goals rfl
theorem b3U(a b:a1D):CP Tryz.prog 141 [.agg [.str a.1,.int .i64 a.2],.agg [.str b.1,.int .i64 b.2]] (.int .i64 (cmpL a0E a b)):=by
 have h1:=b3Q a b
 have h2:=b3Q b a
 have h3:=b1w (a0E a b) (a0E b a)
 rw[show b5c (a0E a b) (a0E b a)=cmpL a0E a b from rfl]at h3
 refine a9N _ _ (by simp) ?_
 generalize cmpL a0E a b=n at *
 simp only[a6O];refine sxLfd ?_
 repeat' ((first|exact tt|refine CallO_pure (h1) ?_|refine CallO_pure (h2) ?_|refine CallO_pure (h3) ?_|refine CallW_intro (h1) ?_|refine CallW_intro (h2) ?_|refine CallW_intro (h3) ?_|refine na fun b=>?_|refine nb fun b hb=>?_|refine iq ?_|(refine jq ?_ ?_<;>intro h h')|refine Two_intro ?_ ?_|exact wZ|fail)<;>try refine sxLfd ?_)
theorem b7a(a b:KeyC):CP Tryz.prog 72 [.agg a.cs,.agg b.cs] (.int .i64 (cmpL a0t a b)):=by
 have h1:=b3U a.en b.en
 have h2:=b1w (!a.o&&b.o) (a.o && !b.o)
 have h3:=b1w (decide (a.q<b.q)) (decide (b.q<a.q))
 simp only[KeyC.en]at h1
 refine a9O _ _ (by simp) ?_
 have key:(cmpL a0E (a.e,a.ec) (b.e,b.ec)≠0∧cmpL a0t a b=cmpL a0E (a.e,a.ec) (b.e,b.ec))∨(cmpL a0E (a.e,a.ec) (b.e,b.ec)=0∧((b5c (!a.o&&b.o) (a.o && !b.o)≠0∧cmpL a0t a b=b5c (!a.o&&b.o) (a.o && !b.o))∨(b5c (!a.o&&b.o) (a.o && !b.o)=0∧cmpL a0t a b=b5c (decide (a.q<b.q)) (decide (b.q<a.q))))):=by
  by_cases he:a.en=b.en
  ·right
   have e1:a0E (a.e,a.ec) (b.e,b.ec)=false:=by rw[show ((a.e,a.ec):a1D)=(b.e,b.ec) from he];exact endSTO.irr _
   have e2:a0E (b.e,b.ec) (a.e,a.ec)=false:=by rw[show ((a.e,a.ec):a1D)=(b.e,b.ec) from he];exact endSTO.irr _
   refine ⟨by simp[cmpL,e1,e2], ?_⟩
   have hk:∀ x y:KeyC,x.en=y.en→a0t x y=((!x.o&&y.o)||(decide (x.o=y.o)&&decide (x.q<y.q))):=fun x y h=>by
    unfold a0t;rw[h,endSTO.irr];simp
   unfold cmpL
   rw[hk a b he,hk b a he.symm]
   cases ha:a.o<;>cases hb:b.o<;>simp[b5c]
  ·left
   have hk:∀ x y:KeyC,x.en≠y.en→a0t x y=a0E x.en y.en:=fun x y h=>by
    unfold a0t;rw[decide_eq_false h];simp
   refine ⟨fun h=>he ?_,by unfold cmpL;rw[hk a b he,hk b a (fun h=>he h.symm)];rfl⟩
   unfold cmpL at h
   refine endSTO.tot _ _ ?_ ?_
   ·cases g:a0E a.en b.en with
    | false=>rfl
    | true=>rw[show a0E (a.e,a.ec) (b.e,b.ec)=true from g]at h;simp at h
   ·cases g:a0E b.en a.en with
    | false=>rfl
    | true=>
     rw[show a0E (b.e,b.ec) (a.e,a.ec)=true from g]at h
     split at h<;>simp at h
 obtain ⟨ae,aec,ao,aq⟩:=a;obtain ⟨be,bec,bo,bq⟩:=b
 simp only at *
 generalize cmpL a0E (ae,aec) (be,bec)=n1 at *
 generalize cmpL a0t _ _=m at *
 generalize b5c (decide (aq<bq)) (decide (bq<aq))=n3 at *
 generalize hn2:b5c (!ao&&bo) (ao && !bo)=n2 at *
 rcases key with ⟨k1,hm⟩ | ⟨k1,⟨k2,hm⟩ | ⟨k2,hm⟩⟩<;>rw[hm]<;>clear hm
 ·have f1:a0a (decide (n1=0)=false):=decide_eq_false k1
  clear k1
  cases ao<;>cases bo<;>simp only[Bool.not_true,Bool.not_false,Bool.and_true,Bool.and_false,Bool.true_and,Bool.false_and]at h2
  all_goals (simp only[a3e];refine sxLfd ?_;try exact tt)
  all_goals repeat' ((first|exact tt|refine CallO_pure (h1) ?_|refine CallO_pure (h2) ?_|refine CallO_pure (h3) ?_|refine CallW_intro (h1) ?_|refine CallW_intro (h2) ?_|refine CallW_intro (h3) ?_|refine na fun b=>?_|refine nb fun b hb=>?_|refine iq ?_|(refine jq ?_ ?_<;>intro h h')|refine Two_intro ?_ ?_|exact wZ|fail)<;>try refine sxLfd ?_)
 ·subst k1
  have f2:a0a (decide (n2=0)=false):=decide_eq_false k2
  clear k2 hn2
  cases ao<;>cases bo<;>simp only[Bool.not_true,Bool.not_false,Bool.and_true,Bool.and_false,Bool.true_and,Bool.false_and]at h2
  all_goals (simp only[a3e];refine sxLfd ?_;try exact tt)
  all_goals repeat' ((first|exact tt|refine CallO_pure (h1) ?_|refine CallO_pure (h2) ?_|refine CallO_pure (h3) ?_|refine CallW_intro (h1) ?_|refine CallW_intro (h2) ?_|refine CallW_intro (h3) ?_|refine na fun b=>?_|refine nb fun b hb=>?_|refine iq ?_|(refine jq ?_ ?_<;>intro h h')|refine Two_intro ?_ ?_|exact wZ|fail)<;>try refine sxLfd ?_)
 ·subst k1
  rw[k2]at h2
  clear hn2 k2
  cases ao<;>cases bo<;>simp only[Bool.not_true,Bool.not_false,Bool.and_true,Bool.and_false,Bool.true_and,Bool.false_and]at h2
  all_goals (simp only[a3e];refine sxLfd ?_;try exact tt)
  all_goals repeat' ((first|exact tt|refine CallO_pure (h1) ?_|refine CallO_pure (h2) ?_|refine CallO_pure (h3) ?_|refine CallW_intro (h1) ?_|refine CallW_intro (h2) ?_|refine CallW_intro (h3) ?_|refine na fun b=>?_|refine nb fun b hb=>?_|refine iq ?_|(refine jq ?_ ?_<;>intro h h')|refine Two_intro ?_ ?_|exact wZ|fail)<;>try refine sxLfd ?_)
end
section
open Go.RowKit Go.ChangeMaps Go.Sort Go.Shelf
set_option maxRecDepth 100000
abbrev b5X(x:KeyC):List AV:=[.str x.e,.int .i64 x.ec,.bool x.o,.int .i64 x.q]
theorem a8e(x:KeyC):a6u (b5X x)=true:=rfl
abbrev b3D(x:KeyC):List Value:=a1i (b5X x)
theorem a5U(x:KeyC):(b3D x).length=4:=rfl
theorem c0z(x y:KeyC)(W:World)(hG:Glob W fun _ _=>False):Calls Tryz.prog 72 #[.agg (b3D x).toArray,.agg (b3D y).toArray] W fun e w'=>e=.returned (.int .i64 (cmpL a0t x y))∧∃ q os',w'=grow (W.drewN q) os':=by
 refine CP_grow (b7a x y) hG (vs:=[_,_]) rfl (fun i u c hu hc=>?_) (fun W' U' u h=>by cases h;rfl)
 match i with
 | 0=>simp at hu hc;subst hu;subst hc;exact flat_VR (a8e x) _ _
 | 1=>simp at hu hc;subst hu;subst hc;exact flat_VR (a8e y) _ _
 | i+2=>simp at hu
theorem b3E(blk off size:Nat)(w:World){U:Nat→Nat→Prop}(hG:Glob w U)(hb:∀ x∈a2e,x.1≠blk):CmpLays Tryz.prog 72 #[] b3D 4 (cmpL a0t) blk off size w:=fun _ _ _ _ x y=>c0z x y _ (glob_sort hG hb)
set_option maxHeartbeats 4000000 in
theorem b4Q(bx b:Nat)(es:Array MapEntry)(clk:Nat)(l:List KeyC)(w:World){U:Nat→Nat→Prop}(hG:Glob w U)(tb:TypeId)(hbx:w.heap[bx]?=some (.cells #[.map (some b)] tb (0,0)))(hb:w.heap[b]?=some (.map es clk))
  (hval:es.toList.map (·.key)=l.map fun x=>.agg (b3D x).toArray) (hborn:∀ x∈es.toList,x.born<clk) (hnd:(es.toList.map (·.born)).Nodup) (hl:l.length≤1000000):
  Calls Tryz.prog 70 #[.func (.func 140) #[] #[.pointer (some ⟨bx,0,none⟩)],.func (.func 72) #[] #[]] w fun e W'=>
   ∃ (v:Value) (ds:List KeyC),e=.returned v∧ds.Perm l∧(∀ i j,i<j→j<ds.length→a0t (ds.getD j default) (ds.getD i default)=false)∧W'.ownsRow w.heap.size 64 4 v ds.length (ds.flatMap b3D)∧Below w.heap.size w W':=by
 have hcol:Calls Tryz.prog 138 #[.func (.func 140) #[] #[.pointer (some ⟨bx,0,none⟩)]] w fun e W'=>
   ∃ (v:Value) (xs:List KeyC),e=.returned v∧xs.Perm l∧W'.ownsRow w.heap.size 64 4 v xs.length (xs.flatMap b3D)∧Below w.heap.size w W':=by
  have ha:=callsIn_wide.1 (kva_app b3D a5U (fun x=>plainV_one (a8e x)) Fence.wide 10 trivial trivial rfl (by omega) bx b es clk l w tb hbx hb hval hborn hnd hl)
  go_enter Tryz.func138,Tryz.ntmps138
  go_wp2_with (go_at_call 193;refine ha.mono ?_;rintro e W' ⟨v,xs,rfl,hp,hrow,hbl⟩)
  go_ret
  exact ⟨v,xs,rfl,hp,hrow,hbl⟩
 go_enter Tryz.func70,Tryz.ntmps70
 go_wp2_with (go_at_call 138;refine hcol.mono ?_;rintro e W' ⟨v,xs,rfl,hp,hrow,hbl⟩)
 rcases hrow.2 with ⟨rfl,hz⟩ | ⟨g,cap,cur,rfl,hbase,hgb,r1,r2,r3,r4⟩
 ·have hss:xs=[]:=List.eq_nil_of_length_eq_zero hz
  subst hss
  refine (AnyF.slices_SortFunc_none Tryz.sort139 none 0 _ W').mono ?_
  rintro e W2 ⟨rfl,rfl⟩
  go_wp2
  go_ret
  exact ⟨.slice none 0 0,[],rfl,hp,by simp,by simpa using hrow,hbl⟩
 ·have hH:=holdsK_of_block a5U (by omega) hgb r4
  have hgl:g<W'.heap.size:=(Array.getElem?_eq_some_iff.1 hgb).1
  have hsz:xs.toArray.size<4611686018427387904:=by
   have:=hp.length_eq
   simp;omega
  have hG':=glob_below hG hbl
  have hnt:∀ x∈a2e,x.1≠g:=fun x hx e=>by have:=hG.lt hx;omega
  have cS:=AnyQ.slices_SortFunc Tryz.sort139 4 Tryz.isAgg64 Tryz.sizeOf64 b3D a5U (fun x=>plainV_one (a8e x)) (cmpL a0t) keySTO.swo 72 #[] g 0 cap xs.toArray W' (enters_of Tryz.func72 (by kernel_rfl) rfl) (b3E _ _ _ _ hG' hnt) hH hgl hsz
  refine (show Calls Tryz.prog 139 #[.slice (some ⟨g,0,none⟩) xs.length cap,_] W' _ from cS).mono ?_
  rintro e W2 ⟨rfl,d',nn,os,hperm,hsorted,rfl⟩
  have hpd:d'.toList.Perm xs:=perm_of hperm
  have hown:=ownsRow_sortK (n:=nn) (os:=os) a5U (by omega) (hpd.length_eq) hbase hgb r1 r2 r3
  have hgr:=grown_sortK (cl:=b3D) (k:=4) (w:=W') (g:=g) (n:=nn) (os:=os) d'
  simp only[Array.toArray_toList]at hown
  go_wp2
  go_ret
  refine ⟨_,d'.toList,rfl,hpd.trans hp,fun i j hij hj=>?_, ?_,hbl.grown hgr hbl.size (fun k e=>by cases e;exact hbase)⟩
  ·have hj':j<xs.toArray.size:=by rw[List.size_toArray, ← hpd.length_eq];exact hj
   have h5:=hsorted i j (Nat.zero_le _) hij hj'
   rw[lt_cmpL]at h5
   have hds:d'.size=d'.toList.length:=by simp
   have e1:d'[i]! = d'.toList.getD i default:=by simp[List.getD,getElem!_pos,show i<d'.size by omega]
   have e2:d'[j]! = d'.toList.getD j default:=by simp[List.getD,getElem!_pos,show j<d'.size by omega]
   rw[← e1, ← e2];exact h5
  ·rw[hpd.length_eq];exact hown
theorem b4R(m:Nat):CT Tryz.prog 71 [.mapv m] (lk []) (fun r o=>∃ b,r=.clo 140 [.ptr b 0]∧o=lk [(b,[.mapv m])]):=by
 refine CT_lays (R:=fun b=>.clo _ [.ptr b 0]) fun W U vs hl hv=>?_
 obtain rfl:vs=[.map (some m)]:=by
  match vs,hl with
  | [v],_=>rw[(hv 0 v _ rfl rfl).map_inv]
 go_enter Tryz.func71,Tryz.ntmps71
 go_wp2
 go_ret
 refine ⟨_,_,_,rfl,rfl,rfl,fun u hu=>(by cases hu),fun j u hj=>?_,fun W2 U2 hc=>?_,by simp⟩
 ·match j with
  | 0=>
   simp at hj;subst hj
   exact ⟨rfl,fun x hx=>by simp at hx;subst hx;exact ⟨.mapv m,by simp⟩⟩
  | j+1=>simp at hj
 ·refine .clo _ [_] [_] rfl fun i v c h1 h2=>?_
  match i with
  | 0=>simp at h1 h2;subst h1;subst h2;exact .ptr _ _ hc
  | i+1=>simp at h1
theorem b2O(bx m:Nat)(h1:¬ bx=m)(l:List KeyC)(vals:List AV)(ha:l.Nodup)(hl:l.length≤100000):
  CT Tryz.prog 70 [.clo 140 [.ptr bx 0],.fn 72] (lk [(bx,[.mapv m]),(m,[.mp (l.map fun x=>.agg (b5X x)) vals (List.range l.length) l.length])])
   (fun r o=>r=.sl (some 64) 4 ((srtL a0t l).map b5X)∧o=lk [(bx,[.mapv m]),(m,[.mp (l.map fun x=>.agg (b5X x)) vals (List.range l.length) l.length])]):=by
 refine CT_reads fun W U vs hG hlen hv ho=>?_
 obtain rfl:vs=[.func (.func 140) #[] #[.pointer (some ⟨bx,0,none⟩)],.func (.func 72) #[] #[]]:=by
  match vs,hlen with
  | [v,u],_=>rw[(hv 0 v _ rfl rfl).clo1_inv,(hv 1 u _ rfl rfl).fn_inv]
 obtain ⟨us,ty,q1,q2,q3⟩:ObC W U bx [.mapv m]:=ho bx _ (lk_hd _ _ _)
 obtain ⟨es,g1,g2,g3,g4,g5,g6,g7⟩:ObR W U m [.mp (l.map fun x=>.agg (b5X x)) vals (List.range l.length) l.length]:=ho m _ (lk_tl (fun e=>h1 e.symm) (lk_hd _ _ _))
 have hus:us = #[.map (some m)]:=by
  have h0:=(q3 0 _ rfl).1.map_inv
  match us,q2 with
  | ⟨[a]⟩,_=>simp at h0;subst h0;rfl
 subst hus
 have hsz:es.size=l.length:=by rw[g2];simp
 have hborn:∀ (i:Nat) (e:MapEntry),es[i]?=some e→e.born=i:=by
  intro i e he
  have hi:i<es.size:=(Array.getElem?_eq_some_iff.1 he).1
  exact (g7 i e he).2.2 i (by rw[List.getElem?_range (by omega)])
 have hval:es.toList.map (·.key)=l.map fun x=>.agg (b3D x).toArray:=by
  apply List.ext_getElem?
  intro i
  by_cases hi:i<es.size
  ·have hil:i<l.length:=by omega
   have he:es[i]?=some es[i]:=Array.getElem?_eq_getElem hi
   have hx:=(g7 i _ he).1 (.agg (b5X l[i])) (by simp[List.getElem?_eq_getElem hil])
   simp only[List.getElem?_map,Array.getElem?_toList,he,Option.map_some,List.getElem?_eq_getElem hil]
   rw[flat_inv (a8e _) hx]
  ·rw[List.getElem?_eq_none (by simp;omega),List.getElem?_eq_none (by simp;omega)]
 have hb1:∀ x∈es.toList,x.born<l.length:=by
  intro x hx
  obtain ⟨i,hi,rfl⟩:=List.getElem_of_mem hx
  simp at hi
  have:=hborn i es[i] (Array.getElem?_eq_getElem hi)
  simp[this];omega
 have hnd:(es.toList.map (·.born)).Nodup:=by
  have:es.toList.map (·.born)=List.range es.size:=by
   apply List.ext_getElem
   ·simp
   ·intro i h2 h3
    simp at h2
    simp[hborn i es[i] (Array.getElem?_eq_getElem h2)]
  rw[this];exact List.nodup_range
 refine (b4Q bx m es _ l W hG _ q1 g1 hval hb1 hnd (by omega)).mono ?_
 rintro e W' ⟨v,ds,rfl,hp,hs,hrow,hbl⟩
 have hDS:srtL a0t l=ds:=rise_unique keySTO (srtL_rise keySTO ha) (rise_of keySTO hs (hp.nodup_iff.2 ha)) ((srtL_perm _ _).trans hp.symm)
 rw[hDS]
 obtain ⟨U',r1,r2,r3⟩:=row_VR (U:=U) (e:=64) (k:=4) (els:=ds.map b5X) (by omega) hbl hrow (by simp) (fun l hl=>by
   simp only[List.mem_map]at hl
   obtain ⟨a,_,rfl⟩:=hl
   rfl) (fun u hu=>by
   obtain ⟨x,_,hx⟩:=List.mem_flatMap.1 hu
   exact plainV_one (a8e x) u hx) (fun i j l' c u hl' hc hu W2 U2=>by
   simp only[List.getElem?_map,Option.map_eq_some_iff]at hl'
   obtain ⟨x,hx,rfl⟩:=hl'
   have hj:j<4:=(List.getElem?_eq_some_iff.1 hc).1
   have hi:i<ds.length:=(List.getElem?_eq_some_iff.1 hx).1
   rw[a5P a5U ds i j hi hj,hx]at hu
   exact (a2c _ (a8e x) j c u hc hu).1 W2 U2)
 exact ⟨v,U',rfl,r1,fun e sz els he=>by cases he;exact r2,r3⟩
end
section
open Go.RowKit Go.ChangeMaps Go.Sort Go.Shelf
set_option maxRecDepth 100000 in
set_option maxHeartbeats 4000000 in
theorem eva_iter{α:Type}[Inhabited α](cl:α→List Value)(hcl:∀ x,(cl x).length=2)(h1:∀ x, ∀ u∈cl x,u.oneCell'=true)(F:Fence)(n:Nat)(hf:F.fn 252)(hro:F.round=none)(hn:1≤n)
  (bx b:Nat) (es:Array MapEntry) (clk:Nat) (l:List α) (w:World) (tb:TypeId) (hbx:w.heap[bx]?=some (.cells #[.map (some b)] tb (0,0))) (hb:w.heap[b]?=some (.map es clk))
  (hval:es.toList.map (·.key)=l.map fun x=>.agg (cl x).toArray) (hborn:∀ x∈es.toList,x.born<clk) (hnd:(es.toList.map (·.born)).Nodup):
  SeqStops F n Tryz.prog 252 #[.pointer (some ⟨bx,0,none⟩)] (fun x=>.agg (cl x).toArray) (fun xs=>xs.Perm l) (fun _=>True) l.length w:=by
 intro lp J Jx W hW hJ hJx hY h0
 have hbxl:bx<w.heap.size:=(Array.getElem?_eq_some_iff.1 hbx).1
 have hbl:b<w.heap.size:=(Array.getElem?_eq_some_iff.1 hb).1
 have hbx1:W.heap[bx]?=some (.cells #[.map (some b)] tb (0,0)):=(hW.block bx hbxl).trans hbx
 have hb1:W.heap[b]?=some (.map es clk):=(hW.block b hbl).trans hb
 have hc1:W.cell? ⟨bx,0,none⟩=some (.map (some b)):=by simp[World.cell?,hbx1]
 have hsz:=hW.size
 refine callsIn_of_wp Tryz.func252 rfl hf ?_ hro
 simp only[Tryz.ntmps252,List.size_toArray,List.length_cons,List.length_nil,Nat.reduceAdd,Nat.reduceSub,Array.replicate_succ,Array.replicate_zero,List.push_toArray,List.append_toArray,List.nil_append,List.cons_append]
 gi_wp2_with (first
  | (gi_at_range;refine a9p _ rfl _ _ rfl _ _ Tryz.underlying148 b es clk rfl hb1 ?_)
  | gi_in)
 gi_loopw [3] (fun _ wr=>∃ (seen:Array Nat) (is:List Nat),wr.heap[W.heap.size]?=some (.mapIter (some b) clk seen clk)∧wr.heap[b]?=some (.map es clk)∧W.heap.size≤wr.heap.size∧Came es seen is∧J (is.map fun i=>l.getD i default) wr)
  (fun _ wr=>es.size - a8Q wr W.heap.size)
 case atStart=>
  refine ⟨#[],[],World.alloc_heap_new W _,(Below.heap_alloc _ _ b (by omega)).trans hb1,by simp,Came.nil es, ?_⟩
  exact hJ [] W _ none h0 (World.grownBy_alloc W _ none) (fun r e=>by cases e)
 case round=>
  obtain ⟨seen,is,hr1,hr2,hr3,hC,hJs⟩:=hrel
  gi_wp2_with (first
   | (gi_at_next;refine b1c _ rfl _ rfl W.heap.size b clk es seen rfl hr1 hr2 hborn ?_ ?_)
   | gi_in)
  ·intro hl0
   gi_wp2
   go_end0
   refine ⟨⟨_,rfl⟩,.inl ⟨_, ?_,hJs⟩⟩
   have hp:=hC.all hnd hl0
   have hlen:es.size=l.length:=by have:=congrArg List.length hval;simpa using this
   rw[hlen]at hp
   have:=hp.map fun i=>l.getD i default
   rwa [range_getD_map]at this
  ·intro e w2 he hst
   obtain ⟨i,hi,hC2⟩:=hC.step hnd he
   have hil:i<es.size:=(Array.getElem?_eq_some_iff.1 hi).1
   have hlen:es.size=l.length:=by have:=congrArg List.length hval;simpa using this
   have hv:e.key=.agg (cl (l.getD i default)).toArray:=by
    have:=congrArg (fun q=>q[i]?) hval
    simp only[List.getElem?_map,Array.getElem?_toList,hi,Option.map_some]at this
    rw[List.getElem?_eq_getElem (by omega)]at this
    simpa[List.getD,show i<l.length by omega]using this
   have hmem:e∈es.toList:=by
    rw[List.mem_iff_getElem?]
    exact ⟨i,by rw[Array.getElem?_toList];exact hi⟩
   have hne:b≠W.heap.size:=by omega
   have hb2:w2.heap[b]?=some (.map es clk):=(hst.grown.block b (by omega) (by simpa using hne)).trans hr2
   have hJ2:=hJ _ _ w2 _ hJs hst.grown (fun r e=>by cases e;exact ⟨Nat.le_refl _,_,hr1,rfl⟩)
   have hs2:=hst.size
   have hWr:W.heap.size<wr.heap.size:=(Array.getElem?_eq_some_iff.1 hr1).1
   have hr2':=hst.at_
   obtain ⟨x,hx⟩:∃ x,l.getD i default=x:=⟨_,rfl⟩
   rw[hx]at hv
   have hJ3:J (is.map fun i=>l.getD i default) (w2.alloc (.cells (cl x).toArray 56)):=hJ _ _ _ none hJ2 (World.grownBy_alloc w2 _ none) (fun r e=>by cases e)
   have hlt:(is.map fun i=>l.getD i default).length<l.length:=by
    have:=a5W _ _ hC2.nd hC2.lt
    simp at this ⊢;omega
   obtain ⟨fn,tmps,assign,body,hy,hR⟩:=hY _ x _ hJ3 hlt
   have hcs:(cl x).toArray.size=2:=by simp[hcl]
   have hone:∀ u∈(cl x).toArray.toList,u.oneCell'=true:=by simpa using h1 x
   have hso:∀ w,(Go.sizeOf 56).run Tryz.prog w=.ok (cl x).toArray.size w:=fun w=>by rw[hcs];exact Tryz.sizeOf56 w
   generalize (cl x).toArray=c at hv hy hR hcs hone hso
   clear hJ3 hJ2 hJs h1 hcl
   gi_wp2_with (first
    | (refine a9o _ rfl _ rfl W.heap.size b clk es seen e rfl hr2' hb2 hmem hnd ?_)
    | (refine a4K _ rfl rfl _ _ 56 rfl 2 (by kernel_rfl) wr.heap.size _ c 56 rfl (alloc_at hs2 _) rfl rfl hcs hone ?_;rw[alloc_setRow2 hs2])
    | (refine a6o _ rfl _ 56 rfl wr.heap.size c 56 Tryz.isAgg56 hso rfl (alloc_at hs2 _) ?_)
    | gi_in)
   refine hR.mono ?_
   rintro e2 W3 (⟨rfl,hJ4,hk3⟩ | ⟨rfl,hJx4⟩)
   ·gi_wp2
    have ha:(w2.alloc (.cells c 56)).heap[W.heap.size]?=some (.mapIter (some b) clk (seen.push e.born) clk):=(Below.heap_alloc _ _ _ (by omega)).trans hr2'
    have hb3:(w2.alloc (.cells c 56)).heap[b]?=some (.map es clk):=(Below.heap_alloc _ _ _ (by omega)).trans hb2
    have ha3:=hk3.same _ _ ha rfl
    go_roundw
    case rel=>
     refine ⟨_,is++[i],ha3,hk3.same _ _ hb3 rfl, ?_,hC2, ?_⟩
     ·have:=hk3.size;simp at this;omega
     ·rw[List.map_append,List.map_singleton,hx];exact hJ4
    case measure=>
     have q1:a8Q W3 W.heap.size=seen.size+1:=by simp[a8Q,ha3]
     have q2:a8Q wr W.heap.size=seen.size:=by simp[a8Q,hr1]
     have q3:=hC2.size
     have q4:=a5W _ _ hC2.nd hC2.lt
     simp only[Array.size_push,List.length_append,List.length_singleton]at q3 q4
     rw[q1,q2];omega
   ·gi_wp2
    (try simp only[Exit.inBlock,Exit.then]);refine bodyPost_ret (results_none rfl _ _ _) rfl ?_
    exact ⟨⟨_,rfl⟩,.inr ⟨_,trivial,hJx4⟩⟩

structure eApI {α:Type} (cl:α→List Value) (w:World) (xs:List α) (W:World):Prop where
 box:∃ v,W.heap[w.heap.size]?=some (.cells #[v] 106 (0,0))∧W.ownsRow w.heap.size 56 2 v xs.length (xs.flatMap cl)
 below:Below w.heap.size w W
theorem eApI.own{α:Type}(cl:α→List Value)(w:World)(B:Nat)(hB:w.heap.size≤B):OwnFrom B (eApI cl w):=by
 intro xs W W' row h hg hr
 obtain ⟨v,hv,hrow⟩:=h.box
 refine ⟨⟨v,(grownBy_keeps_cells hg (fun r e=>(hr r e).2) hv rfl).trans hv,row_own hrow hg fun r e=>(hr r e).2⟩,h.below.grown hg h.below.size fun k e=>Nat.le_trans hB (hr k e).1⟩
set_option maxRecDepth 100000 in
set_option maxHeartbeats 4000000 in
theorem eva_app{α:Type}[Inhabited α](cl:α→List Value)(hcl:∀ x,(cl x).length=2)(h1:∀ x, ∀ u∈cl x,u.oneCell'=true)(F:Fence)(n:Nat)(hf:F.fn 252)
    (hf2:F.fn 287) (hro:F.round=none) (hn:3≤n)
    (bx b:Nat) (es:Array MapEntry) (clk:Nat) (l:List α) (w:World) (tb:TypeId) (hbx:w.heap[bx]?=some (.cells #[.map (some b)] tb (0,0))) (hb:w.heap[b]?=some (.map es clk))
    (hval:es.toList.map (·.key)=l.map fun x=>.agg (cl x).toArray) (hborn:∀ x∈es.toList,x.born<clk) (hnd:(es.toList.map (·.born)).Nodup) (hl:l.length≤1000000):
    CallsIn F n Tryz.prog 287 #[.slice none 0 0,.func (.func 252) #[] #[.pointer (some ⟨bx,0,none⟩)]] w fun e W'=>
      ∃ (v:Value) (xs:List α),e=.returned v∧xs.Perm l∧W'.ownsRow w.heap.size 56 2 v xs.length (xs.flatMap cl)∧Below w.heap.size w W':=by
  have hbxl:bx<w.heap.size:=(Array.getElem?_eq_some_iff.1 hbx).1
  have hbl:b<w.heap.size:=(Array.getElem?_eq_some_iff.1 hb).1
  have hmx:maxLen=9223372036854775807:=rfl
  refine callsIn_of_wp_marks Tryz.func287 rfl hf2 ?_ hro
  simp only[Tryz.ntmps287,List.size_toArray,List.length_cons,List.length_nil,Nat.reduceAdd,Nat.reduceSub,Array.replicate_succ,Array.replicate_zero,List.push_toArray,List.append_toArray,List.nil_append,List.cons_append]
  gi_wp2
  obtain ⟨W0,hW0⟩:∃ W0,w.alloc (.cells #[.slice none 0 0] 106)=W0:=⟨_,rfl⟩
  rw[hW0]
  have hs0:W0.heap.size=w.heap.size+1:=by rw[← hW0];simp
  have hv0:W0.heap[w.heap.size]?=some (.cells #[.slice none 0 0] 106 (0,0)):=by rw[← hW0];exact World.alloc_heap_new w _
  have hB0:Below w.heap.size w W0:=by rw[← hW0];exact (Below.refl _ w).alloc (Nat.le_refl _) _
  have hbx0:W0.heap[bx]?=some (.cells #[.map (some b)] tb (0,0)):=(hB0.block bx hbxl).trans hbx
  have hb0:W0.heap[b]?=some (.map es clk):=(hB0.block b hbl).trans hb
  obtain ⟨i0,hi,hz0,hz1,hz2⟩:=info_parts (P:=Tryz.prog) (e:=56) (z:=.agg #[.string ⟨#[]⟩,.int .i64 0]) (size:=2) (bytes:=24) (by kernel_rfl)
  refine walk_seq (pt:=7) hro (by omega) (gf:=252) (lb := #[.pointer (some ⟨bx,0,none⟩)]) rfl hf (enters_of Tryz.func252 (by kernel_rfl) rfl)
    (eva_iter cl hcl h1 F (n - 1) hf hro (by omega) bx b es clk l W0 tb hbx0 hb0 hval hborn hnd) (eApI cl w) (eApI.own cl w _ (by omega)) ⟨⟨_,hv0,⟨rfl,.inl ⟨rfl,rfl⟩⟩⟩,hB0⟩
    (fun x=>.cells (cl x).toArray 56 (0,0)) (fun _=>rfl)
    (fun x p=>{ tmps := #[.slice none 0 0,.func (.func 252) #[] #[.pointer (some ⟨bx,0,none⟩)],.pointer (some ⟨w.heap.size,0,none⟩),undef,.slice none 0 0,.pointer (some ⟨p,0,none⟩),.func (.func 252) #[] #[.pointer (some ⟨bx,0,none⟩)],.agg (cl x).toArray,undef,undef,undef,undef,undef],defers:=[] }) ?_ ?_ ?_
  · intro lp x W K hK
    have hcs:(cl x).toArray.size=2:=by simp[hcl]
    have hone:∀ u∈(cl x).toArray.toList,u.oneCell'=true:=by simpa using h1 x
    generalize (cl x).toArray=c at hK hcs hone
    gi_wp2_with (first
      | (refine a4K _ rfl rfl _ _ 56 rfl 2 (by kernel_rfl) W.heap.size _ c 56 rfl (alloc_at rfl _) rfl rfl hcs hone ?_;rw[alloc_setRow2 rfl])
      | (rw[Oper.semAt_eq _ _ _ (fun c h=>by cases h)];go_simp;try go_bits))
    exact hK
  · intro lp pre x W p hI hlen hp hwp
    obtain ⟨⟨v,hv,hrow⟩,hbel⟩:=hI
    have hcv:W.cell? ⟨w.heap.size,0,none⟩=some v:=by simp[World.cell?,hv]
    have hfv:W.frozen? ⟨w.heap.size,0,none⟩=false:=by simp[World.frozen?,hv]
    have hBlt:w.heap.size<W.heap.size:=(Array.getElem?_eq_some_iff.1 hv).1
    have hcs:(cl x).toArray.size=2:=by simp[hcl]
    have hso:∀ w,(Go.sizeOf 56).run Tryz.prog w=.ok (cl x).toArray.size w:=fun w=>by rw[hcs];exact Tryz.sizeOf56 w
    have hcell:∀ j u,(cl x)[j]?=some u→(W.alloc (.cells (cl x).toArray 56)).cell? ((⟨W.heap.size,0,none⟩:Addr).add j)=some u:=by
      intro j u hj
      rw[a1c,cell_of_row _ _ _ _ _ _ (World.alloc_heap_new W _)]
      simpa using hj
    have hlcl:=hcl x
    have hfm:(pre++[x]).flatMap cl=pre.flatMap cl++cl x:=by simp
    have hone:=h1 x
    have hne:some w.heap.size≠v.ownBlock:=by
      rcases hrow.2 with ⟨rfl,_⟩ | ⟨g,cap,cur,rfl,_,hgb,_⟩
      · simp[Value.ownBlock]
      · intro e
        have e':w.heap.size=g:=by simpa[Value.ownBlock]using e
        subst e'
        rw[hv]at hgb
        cases hgb
    gi_wp2_with (first
      | (refine a6o _ rfl _ 56 rfl p (cl x).toArray 56 Tryz.isAgg56 hso rfl hp ?_)
      | (refine b2A _ rfl _ 106 56 rfl i0 Tryz.underlying106 hi _ hz0 2 hz1 rfl (by omega) (by omega) (cl x).toArray rfl hcs ?_)
      | (gi_at_builtin;refine wpListIn_append_own _ rfl _ _ 106 rfl w.heap.size 56 i0 _ 2 24 Tryz.underlying106 hi hz0 hz1 hz2 rfl (by decide) _ _ _ rfl (hrow.alloc _) ⟨W.heap.size,0,none⟩ 1 1 (cl x) rfl (by rw[hlcl]) hcell hone (by omega) (by omega) (by simp;omega) ?_;intro v' w3 hown' hg3 hnil3
         have hv3:w3.heap[w.heap.size]?=some (.cells #[v] 106 (0,0)):=(hg3.block w.heap.size (by simp;omega) hne).trans ((Below.heap_alloc _ _ _ hBlt).trans hv)
         have hcv3:w3.cell? ⟨w.heap.size,0,none⟩=some v:=by simp[World.cell?,hv3]
         have hfv3:w3.frozen? ⟨w.heap.size,0,none⟩=false:=by simp[World.frozen?,hv3]
         obtain ⟨g',cap',cur',rfl,hg'⟩:∃ g' cap' cur',v'=.slice (some ⟨g',0,none⟩) (pre.length+1) cap'∧w3.heap[g']?=some (.cells cur' 56 (0,0)):=by
           rcases hown'.2 with ⟨_,h0⟩ | ⟨g',cap',cur',e,_,q,_⟩
           · exact absurd h0 (by omega)
           · exact ⟨g',cap',cur',e,q⟩)
      | (rw[Oper.semAt_eq _ _ _ (fun c h=>by cases h)];go_simp;try go_bits))
    have hgs:=a5R w3 w.heap.size (.slice (some ⟨g',0,none⟩) (pre.length+1) cap')
    have hne2:(Value.slice (some ⟨g',0,none⟩) (pre.length+1) cap').ownBlock≠some w.heap.size:=by
      intro e
      have e':g'=w.heap.size:=by simpa[Value.ownBlock]using e
      subst e'
      rw[hv3]at hg'
      cases hg'
    have hrc:∀ (j:Nat) (o:Obj),v.ownBlock=some j→(W.alloc (.cells (cl x).toArray 56)).heap[j]?=some o→o.isCells=true:=by
      intro j o hj ho
      rcases (hrow.alloc (.cells (cl x).toArray 56)).2 with ⟨rfl,_⟩ | ⟨g,cap,cur,rfl,_,hgb,_⟩
      · simp[Value.ownBlock]at hj
      · have:g=j:=by simpa[Value.ownBlock]using hj
        subst this;rw[hgb]at ho;cases ho;rfl
    have hb3:Below w.heap.size w w3:=(hbel.alloc hbel.size _).grown hg3 (by have:=hbel.size;simp;omega) (fun k e=>(hrow.lt k e).1)
    refine ⟨((KeepsOthers.alloc W _).trans (KeepsOthers.of_grownBy hg3 hrc)).trans (KeepsOthers.setCell _ _ _),⟨⟨_,heap_setCell_one _ hv3, ?_⟩,hb3.grown hgs hb3.size (fun k e=>by cases e;exact Nat.le_refl _)⟩⟩
    rw[hfm,List.length_append,List.length_singleton]
    exact hown'.kept hgs (.inr hne2)
  · intro D xs W hD hS hI hK
    obtain ⟨⟨v,hv,hrow⟩,hbel⟩:=hI
    have hcv:W.cell? ⟨w.heap.size,0,none⟩=some v:=by simp[World.cell?,hv]
    gi_wp2
    refine ⟨by simp,.inl ⟨_,_,rfl,run_takeDeferred hK, ?_⟩⟩
    have hgp:=grownBy_putObj' W D (.deferred none)
    exact ⟨_,results_tmp rfl _ _ _,v,xs,rfl,hS,row_own hrow hgp (fun r e=>by cases e;exact ⟨_,hK,rfl⟩),hbel.grown hgp hbel.size (fun k e=>by cases e;omega)⟩
end
section
open Go.RowKit Go.ChangeMaps Go.Sort Go.Shelf
set_option maxRecDepth 100000
abbrev encs(x:a1D):List AV:=[.str x.1,.int .i64 x.2]
theorem a7Q(x:a1D):a6u (encs x)=true:=rfl
abbrev b3p(x:a1D):List Value:=a1i (encs x)
theorem a5M(x:a1D):(b3p x).length=2:=rfl
theorem c0t(x y:a1D)(W:World)(hG:Glob W fun _ _=>False):Calls Tryz.prog 141 #[.agg (b3p x).toArray,.agg (b3p y).toArray] W fun e w'=>e=.returned (.int .i64 (cmpL a0E x y))∧∃ q os',w'=grow (W.drewN q) os':=by
 refine CP_grow (b3U x y) hG (vs:=[_,_]) rfl (fun i u c hu hc=>?_) (fun W' U' u h=>by cases h;rfl)
 match i with
 | 0=>simp at hu hc;subst hu;subst hc;exact flat_VR (a7Q x) _ _
 | 1=>simp at hu hc;subst hu;subst hc;exact flat_VR (a7Q y) _ _
 | i+2=>simp at hu
theorem b3q(blk off size:Nat)(w:World){U:Nat→Nat→Prop}(hG:Glob w U)(hb:∀ x∈a2e,x.1≠blk):CmpLays Tryz.prog 141 #[] b3p 2 (cmpL a0E) blk off size w:=fun _ _ _ _ x y=>c0t x y _ (glob_sort hG hb)
set_option maxHeartbeats 4000000 in
theorem b4G(bx b:Nat)(es:Array MapEntry)(clk:Nat)(l:List a1D)(w:World){U:Nat→Nat→Prop}(hG:Glob w U)(tb:TypeId)(hbx:w.heap[bx]?=some (.cells #[.map (some b)] tb (0,0)))(hb:w.heap[b]?=some (.map es clk))
  (hval:es.toList.map (·.key)=l.map fun x=>.agg (b3p x).toArray) (hborn:∀ x∈es.toList,x.born<clk) (hnd:(es.toList.map (·.born)).Nodup) (hl:l.length≤1000000):
  Calls Tryz.prog 203 #[.func (.func 252) #[] #[.pointer (some ⟨bx,0,none⟩)],.func (.func 141) #[] #[]] w fun e W'=>
   ∃ (v:Value) (ds:List a1D),e=.returned v∧ds.Perm l∧(∀ i j,i<j→j<ds.length→a0E (ds.getD j default) (ds.getD i default)=false)∧W'.ownsRow w.heap.size 56 2 v ds.length (ds.flatMap b3p)∧Below w.heap.size w W':=by
 have hcol:Calls Tryz.prog 251 #[.func (.func 252) #[] #[.pointer (some ⟨bx,0,none⟩)]] w fun e W'=>
   ∃ (v:Value) (xs:List a1D),e=.returned v∧xs.Perm l∧W'.ownsRow w.heap.size 56 2 v xs.length (xs.flatMap b3p)∧Below w.heap.size w W':=by
  have ha:=callsIn_wide.1 (eva_app b3p a5M (fun x=>plainV_one (a7Q x)) Fence.wide 10 trivial trivial rfl (by omega) bx b es clk l w tb hbx hb hval hborn hnd hl)
  go_enter Tryz.func251,Tryz.ntmps251
  go_wp2_with (go_at_call 287;refine ha.mono ?_;rintro e W' ⟨v,xs,rfl,hp,hrow,hbl⟩)
  go_ret
  exact ⟨v,xs,rfl,hp,hrow,hbl⟩
 go_enter Tryz.func203,Tryz.ntmps203
 go_wp2_with (go_at_call 251;refine hcol.mono ?_;rintro e W' ⟨v,xs,rfl,hp,hrow,hbl⟩)
 rcases hrow.2 with ⟨rfl,hz⟩ | ⟨g,cap,cur,rfl,hbase,hgb,r1,r2,r3,r4⟩
 ·have hss:xs=[]:=List.eq_nil_of_length_eq_zero hz
  subst hss
  refine (AnyF.slices_SortFunc_none Tryz.sort106 none 0 _ W').mono ?_
  rintro e W2 ⟨rfl,rfl⟩
  go_wp2
  go_ret
  exact ⟨.slice none 0 0,[],rfl,hp,by simp,by simpa using hrow,hbl⟩
 ·have hH:=holdsK_of_block a5M (by omega) hgb r4
  have hgl:g<W'.heap.size:=(Array.getElem?_eq_some_iff.1 hgb).1
  have hsz:xs.toArray.size<4611686018427387904:=by
   have:=hp.length_eq
   simp;omega
  have hG':=glob_below hG hbl
  have hnt:∀ x∈a2e,x.1≠g:=fun x hx e=>by have:=hG.lt hx;omega
  have cS:=AnyQ.slices_SortFunc Tryz.sort106 2 Tryz.isAgg56 Tryz.sizeOf56 b3p a5M (fun x=>plainV_one (a7Q x)) (cmpL a0E) endSTO.swo 141 #[] g 0 cap xs.toArray W' (enters_of Tryz.func141 (by kernel_rfl) rfl) (b3q _ _ _ _ hG' hnt) hH hgl hsz
  refine (show Calls Tryz.prog 106 #[.slice (some ⟨g,0,none⟩) xs.length cap,_] W' _ from cS).mono ?_
  rintro e W2 ⟨rfl,d',nn,os,hperm,hsorted,rfl⟩
  have hpd:d'.toList.Perm xs:=perm_of hperm
  have hown:=ownsRow_sortK (n:=nn) (os:=os) a5M (by omega) (hpd.length_eq) hbase hgb r1 r2 r3
  have hgr:=grown_sortK (cl:=b3p) (k:=2) (w:=W') (g:=g) (n:=nn) (os:=os) d'
  simp only[Array.toArray_toList]at hown
  go_wp2
  go_ret
  refine ⟨_,d'.toList,rfl,hpd.trans hp,fun i j hij hj=>?_, ?_,hbl.grown hgr hbl.size (fun k e=>by cases e;exact hbase)⟩
  ·have hj':j<xs.toArray.size:=by rw[List.size_toArray, ← hpd.length_eq];exact hj
   have h5:=hsorted i j (Nat.zero_le _) hij hj'
   rw[lt_cmpL]at h5
   have hds:d'.size=d'.toList.length:=by simp
   have e1:d'[i]! = d'.toList.getD i default:=by simp[List.getD,getElem!_pos,show i<d'.size by omega]
   have e2:d'[j]! = d'.toList.getD j default:=by simp[List.getD,getElem!_pos,show j<d'.size by omega]
   rw[← e1, ← e2];exact h5
  ·rw[hpd.length_eq];exact hown
theorem b4H(m:Nat):CT Tryz.prog 204 [.mapv m] (lk []) (fun r o=>∃ b,r=.clo 252 [.ptr b 0]∧o=lk [(b,[.mapv m])]):=by
 refine CT_lays (R:=fun b=>.clo _ [.ptr b 0]) fun W U vs hl hv=>?_
 obtain rfl:vs=[.map (some m)]:=by
  match vs,hl with
  | [v],_=>rw[(hv 0 v _ rfl rfl).map_inv]
 go_enter Tryz.func204,Tryz.ntmps204
 go_wp2
 go_ret
 refine ⟨_,_,_,rfl,rfl,rfl,fun u hu=>(by cases hu),fun j u hj=>?_,fun W2 U2 hc=>?_,by simp⟩
 ·match j with
  | 0=>
   simp at hj;subst hj
   exact ⟨rfl,fun x hx=>by simp at hx;subst hx;exact ⟨.mapv m,by simp⟩⟩
  | j+1=>simp at hj
 ·refine .clo _ [_] [_] rfl fun i v c h1 h2=>?_
  match i with
  | 0=>simp at h1 h2;subst h1;subst h2;exact .ptr _ _ hc
  | i+1=>simp at h1
theorem b2H(bx m:Nat)(h1:¬ bx=m)(l:List a1D)(vals:List AV)(ha:l.Nodup)(hl:l.length≤100000):
  CT Tryz.prog 203 [.clo 252 [.ptr bx 0],.fn 141] (lk [(bx,[.mapv m]),(m,[.mp (l.map fun x=>.agg (encs x)) vals (List.range l.length) l.length])])
   (fun r o=>r=.sl (some 56) 2 ((srtL a0E l).map encs)∧o=lk [(bx,[.mapv m]),(m,[.mp (l.map fun x=>.agg (encs x)) vals (List.range l.length) l.length])]):=by
 refine CT_reads fun W U vs hG hlen hv ho=>?_
 obtain rfl:vs=[.func (.func 252) #[] #[.pointer (some ⟨bx,0,none⟩)],.func (.func 141) #[] #[]]:=by
  match vs,hlen with
  | [v,u],_=>rw[(hv 0 v _ rfl rfl).clo1_inv,(hv 1 u _ rfl rfl).fn_inv]
 obtain ⟨us,ty,q1,q2,q3⟩:ObC W U bx [.mapv m]:=ho bx _ (lk_hd _ _ _)
 obtain ⟨es,g1,g2,g3,g4,g5,g6,g7⟩:ObR W U m [.mp (l.map fun x=>.agg (encs x)) vals (List.range l.length) l.length]:=ho m _ (lk_tl (fun e=>h1 e.symm) (lk_hd _ _ _))
 have hus:us = #[.map (some m)]:=by
  have h0:=(q3 0 _ rfl).1.map_inv
  match us,q2 with
  | ⟨[a]⟩,_=>simp at h0;subst h0;rfl
 subst hus
 have hsz:es.size=l.length:=by rw[g2];simp
 have hborn:∀ (i:Nat) (e:MapEntry),es[i]?=some e→e.born=i:=by
  intro i e he
  have hi:i<es.size:=(Array.getElem?_eq_some_iff.1 he).1
  exact (g7 i e he).2.2 i (by rw[List.getElem?_range (by omega)])
 have hval:es.toList.map (·.key)=l.map fun x=>.agg (b3p x).toArray:=by
  apply List.ext_getElem?
  intro i
  by_cases hi:i<es.size
  ·have hil:i<l.length:=by omega
   have he:es[i]?=some es[i]:=Array.getElem?_eq_getElem hi
   have hx:=(g7 i _ he).1 (.agg (encs l[i])) (by simp[List.getElem?_eq_getElem hil])
   simp only[List.getElem?_map,Array.getElem?_toList,he,Option.map_some,List.getElem?_eq_getElem hil]
   rw[flat_inv (a7Q _) hx]
  ·rw[List.getElem?_eq_none (by simp;omega),List.getElem?_eq_none (by simp;omega)]
 have hb1:∀ x∈es.toList,x.born<l.length:=by
  intro x hx
  obtain ⟨i,hi,rfl⟩:=List.getElem_of_mem hx
  simp at hi
  have:=hborn i es[i] (Array.getElem?_eq_getElem hi)
  simp[this];omega
 have hnd:(es.toList.map (·.born)).Nodup:=by
  have:es.toList.map (·.born)=List.range es.size:=by
   apply List.ext_getElem
   ·simp
   ·intro i h2 h3
    simp at h2
    simp[hborn i es[i] (Array.getElem?_eq_getElem h2)]
  rw[this];exact List.nodup_range
 refine (b4G bx m es _ l W hG _ q1 g1 hval hb1 hnd (by omega)).mono ?_
 rintro e W' ⟨v,ds,rfl,hp,hs,hrow,hbl⟩
 have hDS:srtL a0E l=ds:=rise_unique endSTO (srtL_rise endSTO ha) (rise_of endSTO hs (hp.nodup_iff.2 ha)) ((srtL_perm _ _).trans hp.symm)
 rw[hDS]
 obtain ⟨U',r1,r2,r3⟩:=row_VR (U:=U) (e:=56) (k:=2) (els:=ds.map encs) (by omega) hbl hrow (by simp) (fun l hl=>by
   simp only[List.mem_map]at hl
   obtain ⟨a,_,rfl⟩:=hl
   rfl) (fun u hu=>by
   obtain ⟨x,_,hx⟩:=List.mem_flatMap.1 hu
   exact plainV_one (a7Q x) u hx) (fun i j l' c u hl' hc hu W2 U2=>by
   simp only[List.getElem?_map,Option.map_eq_some_iff]at hl'
   obtain ⟨x,hx,rfl⟩:=hl'
   have hj:j<2:=(List.getElem?_eq_some_iff.1 hc).1
   have hi:i<ds.length:=(List.getElem?_eq_some_iff.1 hx).1
   rw[a5P a5M ds i j hi hj,hx]at hu
   exact (a2c _ (a7Q x) j c u hc hu).1 W2 U2)
 exact ⟨v,U',rfl,r1,fun e sz els he=>by cases he;exact r2,r3⟩
end
section
open Go.RowKit
set_option maxRecDepth 100000
theorem b8t(bx m:Nat)(h1:¬ bx=m)(t:Tb)(hN:(t.K.map (·.1)).Nodup)(hl:t.K.length≤100000):
  CT Tryz.prog 70 [.clo 140 [.ptr bx 0],.fn 72] (lk [(bx,[.mapv m]),(m,[mpK t.K])])
   (fun r o=>r=.sl (some 64) 4 ((a0i t).map KeyC.cs)∧o=lk [(bx,[.mapv m]),(m,[mpK t.K])]):=by
 have h:=b2O bx m h1 (t.K.map (·.1)) (tv t.K) hN (by simpa using hl)
 rw[List.length_map]at h
 exact h
theorem b8s(bx m:Nat)(h1:¬ bx=m)(t:Tb)(hN:t.C.Nodup)(hl:t.C.length≤100000):
  CT Tryz.prog 203 [.clo 252 [.ptr bx 0],.fn 141] (lk [(bx,[.mapv m]),(m,[mpC t.C])])
   (fun r o=>r=.sl (some 56) 2 ((a5L t).map fun e=>[.str e.1,.int .i64 e.2])∧o=lk [(bx,[.mapv m]),(m,[mpC t.C])]):=
 b2H bx m h1 t.C (List.replicate t.C.length (.int .i64 1)) hN hl
theorem sxLfe{A B:Prop}(h:B)(e:A=B:=by (simp (disch:=omega) only[*, ↓Ed,Eu, ↓reduceIte,reduceCtorEq,Nat.reduceAdd,Nat.reduceEqDiff,Nat.reduceLT,Nat.reduceLeDiff,Int.reduceToNat,Int.reduceEq,Int.reduceLT,Int.reduceLE,w64,List.length_append,List.length_map,Nat.mul_one,beq_self_eq_true,PktC.cs,EvC.cs,EntC.cs,KeyC.cs,a0h,Int.reduceAdd];first|done|rfl)):A:=e▸h
theorem b4i(c m n:Nat)(hh:(¬ c=m∧¬ m=c)∧(¬ c=n∧¬ n=c)∧¬ m=n∧¬ n=m)(t:Tb)(hN:(t.K.map (·.1)).Nodup)(hl:t.K.length≤100000):
  CT Tryz.prog 22 [.ptr c 0] (lk (b0f c m n t)) (fun r o=>r=.sl (some 64) 4 ((a0i t).map KeyC.cs)∧o=lk (b0f c m n t)):=by
 have hS:=fun bx (h:¬ bx=m)=>b8t bx m h t hN hl
 clear hN hl
 refine a5x _ _ _ (by simp) ?_
 simp only[a3p];refine sxLfe ?_
 repeat' ((first|exact tt|refine CallO_newR (R:=fun b=>.clo _ [.ptr b 0]) (b4R m) ?_|refine na fun b=>?_|refine nb fun b hb=>?_|refine iq ?_|(refine jq ?_ ?_<;>intro h h')|refine Two_intro ?_ ?_|exact wZ|fail)<;>try refine sxLfe ?_)
 have hb':(¬b=c∧¬c=b)∧(¬b=m∧¬m=b)∧¬b=n∧¬n=b:=by simpa using hb
 refine CallO_det (hS b hb'.2.1.1) (lk_sub2 (lk_hd _ _ _) (lk_tl hb'.2.1.2 (lk_tl hh.1.2 (lk_hd _ _ _)))) ?_
 refine sxLfe ?_
 repeat' ((first|exact tt|refine na fun b=>?_|refine nb fun b hb=>?_|refine iq ?_|(refine jq ?_ ?_<;>intro h h')|refine Two_intro ?_ ?_|exact wZ|fail)<;>try refine sxLfe ?_)
 exact ro_mk (by simp[LeL,lk,hh,hb',a0z,arR]) dom3
theorem b2t(c m n:Nat)(hh:(¬ c=m∧¬ m=c)∧(¬ c=n∧¬ n=c)∧¬ m=n∧¬ n=m)(t:Tb)(hN:t.C.Nodup)(hl:t.C.length≤100000):
  CT Tryz.prog 146 [.ptr c 0] (lk (b0f c m n t)) (fun r o=>r=.sl (some 56) 2 ((a5L t).map fun e=>[.str e.1,.int .i64 e.2])∧o=lk (b0f c m n t)):=by
 have hS:=fun bx (h:¬ bx=n)=>b8s bx n h t hN hl
 clear hN hl
 refine a4z _ _ _ (by simp) ?_
 simp only[a2N];refine sxLfe ?_
 repeat' ((first|exact tt|refine CallO_newR (R:=fun b=>.clo _ [.ptr b 0]) (b4H n) ?_|refine na fun b=>?_|refine nb fun b hb=>?_|refine iq ?_|(refine jq ?_ ?_<;>intro h h')|refine Two_intro ?_ ?_|exact wZ|fail)<;>try refine sxLfe ?_)
 have hb':(¬b=c∧¬c=b)∧(¬b=m∧¬m=b)∧¬b=n∧¬n=b:=by simpa using hb
 refine CallO_det (hS b hb'.2.2.1) (lk_sub2 (lk_hd _ _ _) (lk_tl hb'.2.2.2 (lk_tl hh.2.1.2 (lk_tl hh.2.2.2 (lk_hd _ _ _))))) ?_
 refine sxLfe ?_
 repeat' ((first|exact tt|refine na fun b=>?_|refine nb fun b hb=>?_|refine iq ?_|(refine jq ?_ ?_<;>intro h h')|refine Two_intro ?_ ?_|exact wZ|fail)<;>try refine sxLfe ?_)
 exact ro_mk (by simp[LeL,lk,hh,hb',a0z,arR]) dom3
end
end Go.Proofs.YtgdhinnepnlihaaGreatDoor
