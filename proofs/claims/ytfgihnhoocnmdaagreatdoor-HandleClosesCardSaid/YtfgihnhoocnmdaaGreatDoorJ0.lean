import Derived.Test.YtfgihnhoocnmdaaGreatDoorProg
import Derived.Shelf.Spec.SlicesInsertGrow
import Derived.Deep.AppendSrc
import Derived.Lib.SliceRun
import Derived.Shelf.RegionOpenPlain
import Derived.Deep.RegionLaw
import GoSem.Claim
import Derived.Lib.LaidTab
import Derived.Lib.ItoaNum
import Derived.WalkKit
import Derived.WalkSpells
import Derived.WalkLawsBesides
import Derived.Still
namespace Go.Proofs.YtfgihnhoocnmdaaGreatDoor
set_option linter.all false
set_option maxHeartbeats 64000000
set_option maxRecDepth 100000
section
theorem Cu:type_of% @Array.getD_eq_getD_getElem?:=@Array.getD_eq_getD_getElem?
theorem HK:type_of% @Array.getElem?_append_left:=@Array.getElem?_append_left
theorem Dz:type_of% @Array.getElem?_eq_getElem:=@Array.getElem?_eq_getElem
theorem BH:type_of% @Array.getElem?_eq_some_iff:=@Array.getElem?_eq_some_iff
theorem Em:type_of% @Array.getElem?_toList:=@Array.getElem?_toList
theorem EU:type_of% @Array.length_toList:=@Array.length_toList
theorem G2:type_of% @Array.size_append:=@Array.size_append
theorem AP:type_of% @Bool.and_eq_true:=@Bool.and_eq_true
theorem FE:type_of% @Bool.eq_iff_iff:=@Bool.eq_iff_iff
theorem D3:type_of% @Bool.false_eq_true:=@Bool.false_eq_true
theorem G3:type_of% @Bool.not_eq_true':=@Bool.not_eq_true'
theorem Gt:type_of% @Bool.true_and:=@Bool.true_and
theorem Dh:type_of% @Int.toNat_natCast:=@Int.toNat_natCast
theorem Ew:type_of% @List.all_eq_true:=@List.all_eq_true
theorem DC:type_of% @List.append_assoc:=@List.append_assoc
theorem Jb:type_of% @List.append_nil:=@List.append_nil
theorem Bi:type_of% @List.cons_append:=@List.cons_append
theorem Jc:type_of% @List.drop_eq_getElem_cons:=@List.drop_eq_getElem_cons
theorem Jd:type_of% @List.drop_eq_nil_of_le:=@List.drop_eq_nil_of_le
theorem Dn:type_of% @List.eq_nil_of_length_eq_zero:=@List.eq_nil_of_length_eq_zero
theorem F5:type_of% @List.ext_getElem?:=@List.ext_getElem?
theorem Jf:type_of% @List.getD_eq_getElem?_getD:=@List.getD_eq_getElem?_getD
theorem CB:type_of% @List.getElem?_append_left:=@List.getElem?_append_left
theorem Cj:type_of% @List.getElem?_append_right:=@List.getElem?_append_right
theorem G5:type_of% @List.getElem?_cons_zero:=@List.getElem?_cons_zero
theorem CC:type_of% @List.getElem?_drop:=@List.getElem?_drop
theorem Aw:type_of% @List.getElem?_eq_getElem:=@List.getElem?_eq_getElem
theorem FH:type_of% @List.getElem?_eq_none:=@List.getElem?_eq_none
theorem AM:type_of% @List.getElem?_eq_some_iff:=@List.getElem?_eq_some_iff
theorem B7:type_of% @List.getElem?_map:=@List.getElem?_map
theorem HM:type_of% @List.getElem?_take:=@List.getElem?_take
theorem CW:type_of% @List.getElem?_take_of_lt:=@List.getElem?_take_of_lt
theorem EW:type_of% @List.getElem?_toArray:=@List.getElem?_toArray
theorem Di:type_of% @List.getElem_mem:=@List.getElem_mem
theorem Do:type_of% @List.getElem_of_mem:=@List.getElem_of_mem
theorem Ao:type_of% @List.length_append:=@List.length_append
theorem AJ:type_of% @List.length_cons:=@List.length_cons
theorem Cc:type_of% @List.length_drop:=@List.length_drop
theorem K4:type_of% @List.length_eq_zero_iff:=@List.length_eq_zero_iff
theorem Ax:type_of% @List.length_map:=@List.length_map
theorem AY:type_of% @List.length_nil:=@List.length_nil
theorem BL:type_of% @List.length_take:=@List.length_take
theorem FI:type_of% @List.map_append:=@List.map_append
theorem CX:type_of% @List.map_cons:=@List.map_cons
theorem EX:type_of% @List.map_map:=@List.map_map
theorem Bv:type_of% @List.mem_append:=@List.mem_append
theorem J4:type_of% @List.mem_append_right:=@List.mem_append_right
theorem AZ:type_of% @List.mem_cons:=@List.mem_cons
theorem Iq:type_of% @List.mem_iff_getElem?:=@List.mem_iff_getElem?
theorem Dp:type_of% @List.mem_map:=@List.mem_map
theorem Dd:type_of% @List.mem_of_getElem?:=@List.mem_of_getElem?
theorem EY:type_of% @List.mem_of_mem_drop:=@List.mem_of_mem_drop
theorem EZ:type_of% @List.mem_of_mem_take:=@List.mem_of_mem_take
theorem G6:type_of% @List.mem_singleton:=@List.mem_singleton
theorem Bj:type_of% @List.nil_append:=@List.nil_append
theorem B8:type_of% @List.not_mem_nil:=@List.not_mem_nil
theorem J6:type_of% @List.pairwise_iff_getElem:=@List.pairwise_iff_getElem
theorem J7:type_of% @List.replicate_succ:=@List.replicate_succ
theorem Ck:type_of% @List.size_toArray:=@List.size_toArray
theorem HN:type_of% @List.take_append_drop:=@List.take_append_drop
theorem B0:type_of% @List.take_of_length_le:=@List.take_of_length_le
theorem Bp:type_of% @Nat.add_mul:=@Nat.add_mul
theorem F6:type_of% @Nat.div_add_mod:=@Nat.div_add_mod
theorem G7:type_of% @Nat.div_lt_iff_lt_mul:=@Nat.div_lt_iff_lt_mul
theorem Gv:type_of% @Nat.eq_zero_or_pos:=@Nat.eq_zero_or_pos
theorem A8:type_of% @Nat.le_refl:=@Nat.le_refl
theorem En:type_of% @Nat.le_trans:=@Nat.le_trans
theorem FJ:type_of% @Nat.lt_or_ge:=@Nat.lt_or_ge
theorem EE:type_of% @Nat.mod_lt:=@Nat.mod_lt
theorem EF:type_of% @Nat.mul_comm:=@Nat.mul_comm
theorem Dq:type_of% @Nat.mul_le_mul_right:=@Nat.mul_le_mul_right
theorem AN:type_of% @Nat.mul_one:=@Nat.mul_one
theorem F7:type_of% @Nat.one_mul:=@Nat.one_mul
theorem F8:type_of% @Nat.pow_succ:=@Nat.pow_succ
theorem AH:type_of% @Nat.zero_add:=@Nat.zero_add
theorem F9:type_of% @Option.bind_eq_some_iff:=@Option.bind_eq_some_iff
theorem CY:type_of% @Option.bind_some:=@Option.bind_some
theorem G8:type_of% @Option.getD_none:=@Option.getD_none
theorem Cp:type_of% @Option.getD_some:=@Option.getD_some
theorem J3:type_of% @Option.isSome_none:=@Option.isSome_none
theorem EH:type_of% @Option.isSome_some:=@Option.isSome_some
theorem BM:type_of% @Option.map_eq_some_iff:=@Option.map_eq_some_iff
theorem BE:type_of% @Option.map_some:=@Option.map_some
theorem Fp:type_of% @Option.some.inj:=@Option.some.inj
theorem Az:type_of% @Option.some.injEq:=@Option.some.injEq
theorem G9:type_of% @Prod.mk.injEq:=@Prod.mk.injEq
theorem Bc:type_of% @and_true:=@and_true
theorem A0:type_of% @decide_eq_false:=@decide_eq_false
theorem Hf:type_of% @decide_eq_false_iff_not:=@decide_eq_false_iff_not
theorem AO:type_of% @decide_eq_true:=@decide_eq_true
theorem Bs:type_of% @decide_eq_true_eq:=@decide_eq_true_eq
theorem Cr:type_of% @forall_eq:=@forall_eq
theorem Cs:type_of% @forall_eq_or_imp:=@forall_eq_or_imp
theorem BV:type_of% @if_false:=@if_false
theorem Ad:type_of% @if_neg:=@if_neg
theorem Af:type_of% @if_pos:=@if_pos
theorem Bo:type_of% @if_true:=@if_true
theorem Ct:type_of% @not_false_eq_true:=@not_false_eq_true
theorem Cb:type_of% @or_false:=@or_false
set_option linter.all false
open Go.Shelf Go.RowKit Go.Lib
abbrev zPr:Value:=.agg #[.string ⟨#[]⟩,.string ⟨#[]⟩]
theorem P7{P:Program}(w:World)(dT sT ty elem:TypeId)(k b o dLen dCap:Nat)(a:Addr)(sLen sCap:Nat)(cs:List Value)
  (hu:P.underlying dT=some (.slice elem)) (hs:(P.info? elem).map (·.size)=some k) (hn:cs.length=Nat.min sLen dLen * k)
  (hsrc:∀ j v,cs[j]?=some v→w.cell? (a.add j)=some v) (hc:∀ j,j<cs.length→(w.cell? ⟨b,o+j,none⟩).isSome=true) (hf:∀ j,j<cs.length→w.frozen? ⟨b,o+j,none⟩=false) (h1:∀ v∈cs,v.oneCell'=true):
  (Builtin.copy_ #[dT,sT] ty #[.slice (some ⟨b,o,none⟩) dLen dCap,.slice (some a) sLen sCap]).run P w=.ok (goInt (Nat.min sLen dLen)) (w.setCells b o cs):=by
 have hl:=run_loadCells_list (P:=P) w a cs hsrc
 have hst:=run_storeCells_cells (P:=P) b o cs 0 w (by simpa using hc) (by simpa using hf) h1
 cases hq:P.info? elem with
 | none=>simp[hq]at hs
 | some i=>
  have hi:i.size=k:=by simpa[hq]using hs
  simp only[Nat.add_zero]at hst
  simp[Builtin.copy_,run_underlying hu,Builtin.lenOf,Builtin.firstCells,sizeOf,typeInfo,hq,hi, ← hn,hl,hst]
theorem ZO:(Tryz.prog.info? 115).map (·.size)=some 2:=by
 obtain ⟨i0,hi,_,h1,_⟩:=info_parts (P:=Tryz.prog) (e:=115) (z:=zPr) (size:=2) (bytes:=32) (by kernel_rfl)
 rw[hi];simp[h1]
theorem a4C(b n c vb vc:Nat)(vs:List Value)(w:World)(hroom:n+1≤c)(hvl:vs.length=2)
  (hsp:∀ j,j<2→(w.cell? ⟨b,n * 2+j,none⟩).isSome=true) (hfz:∀ j,j<2→w.frozen? ⟨b,n * 2+j,none⟩=false)
  (hvs:∀ j v,vs[j]?=some v→w.cell? ⟨vb,j,none⟩=some v) (h1v:∀ v∈vs,v.oneCell'=true):
  Calls Tryz.prog 80 #[.slice (some ⟨b,0,none⟩) n c,.int .i64 n,.slice (some ⟨vb,0,none⟩) 1 vc] w fun e w'=>
   e=.returned (.slice (some ⟨b,0,none⟩) (n+1) c)∧w'=w.setCells b (n * 2) vs:=by
 obtain ⟨i0,hi0,hz0,hzs,hzb⟩:=info_parts (P:=Tryz.prog) (e:=115) (z:=zPr) (size:=2) (bytes:=32) (by kernel_rfl)
 have u:=Tryz.underlying116
 have hsrc:Src Tryz.prog i0.size 116 (.slice (some ⟨vb,0,none⟩) 1 vc) 1 vs w:=by
  rw[hzs]
  exact Src.ofSlice w u ⟨vb,0,none⟩ 1 vc vs (by omega) (fun j q hj=>by rw[Addr.add_lit,AH];exact hvs j q hj) h1v
 go_enter Tryz.func80,Tryz.ntmps80
 go_wp2_with (at_builtin;refine wpList_append_room_src _ rfl _ _ 116 116 rfl 115 i0 u hi0 b 0 n c rfl _ rfl 1 vs hsrc hroom (by rw[hzs,hvl,AH];exact hsp) (by rw[hzs,hvl,AH];exact hfz) ?_)
 go_ret
 exact ⟨rfl,rfl⟩
theorem XV(base:Option Addr)(n c vb vc:Nat)(cs vs:List Value)(w:World)(hnc:n≤c)(hroom:c<n+1)(hbig:(n+1) * 32≤140737488355328)
  (hcl:cs.length=n * 2) (hvl:vs.length=2) (hnil:base=none→n=0)
  (Ae:∀ a,base=some a→∀ j v,cs[j]?=some v→w.cell? (a.add j)=some v)
  (hvs:∀ j v,vs[j]?=some v→w.cell? ⟨vb,j,none⟩=some v) (h1v:∀ v∈vs,v.oneCell'=true):
  Calls Tryz.prog 80 #[.slice base n c,.int .i64 n,.slice (some ⟨vb,0,none⟩) 1 vc] w fun e w'=>
   e=.returned (.slice (some ⟨w.heap.size,0,none⟩) (n+1) (grownCap w (n+1) c 115))∧
   w'=w.drew.alloc (.cells ((cs++vs).toArray++Builtin.zeroCells zPr.cells (grownCap w (n+1) c 115 - (n+1))) 115):=by
 obtain ⟨i0,hi0,hz0,hzs,hzb⟩:=info_parts (P:=Tryz.prog) (e:=115) (z:=zPr) (size:=2) (bytes:=32) (by kernel_rfl)
 have u:=Tryz.underlying116
 have hsrc:Src Tryz.prog i0.size 116 (.slice (some ⟨vb,0,none⟩) 1 vc) 1 vs w:=by
  rw[hzs]
  exact Src.ofSlice w u ⟨vb,0,none⟩ 1 vc vs (by omega) (fun j q hj=>by rw[Addr.add_lit,AH];exact hvs j q hj) h1v
 have hold:(Builtin.firstCells i0.size n (.slice base n c)).run Tryz.prog w.drew=.ok cs.toArray w.drew:=by
  rw[hzs]
  cases base with
  | none=>
   have h0:=hnil rfl
   subst h0
   rw[K4.1 (by omega:cs.length=0)]
   exact run_firstCells_none w.drew 2 0 0 c
  | some a=>exact run_firstCells_some w.drew 2 n a n c cs (by omega) (fun j v hj=>Ae a rfl j v hj)
 have hrun:∀ ty,(Builtin.append_ #[116,116] ty #[.slice base n c,.slice (some ⟨vb,0,none⟩) 1 vc]).run Tryz.prog w=_:=fun ty=>
  run_append_grow_src w 116 116 ty 115 i0 _ u hi0 hz0 base n c cs hold _ 1 vs hsrc hroom (by omega) (by rw[hzb];exact growslice_fits hroom hbig)
 go_enter Tryz.func80,Tryz.ntmps80
 cases base with
 | none=>
  have h0:=hnil rfl
  subst h0
  go_wp2_with (at_builtin;refine Lib.wpList_append_run _ rfl _ _ _ _ rfl _ _ rfl rfl _ _ (hrun _) ?_)
  go_ret
  exact ⟨rfl,rfl⟩
 | some a=>
  obtain ⟨ab,ao,asp⟩:=a
  go_wp2_with (at_builtin;refine Lib.wpList_append_run _ rfl _ _ _ _ rfl _ _ rfl rfl _ _ (hrun _) ?_)
  all_goals (go_ret;exact ⟨rfl,rfl⟩)
theorem a4F(b n c i vb vc:Nat)(cs vs:List Value)(w:World)(hi:i<n)(hroom:n+1≤c)(hc63:c≤9223372036854775807)(hvb:vb≠b)
  (hcl:cs.length=n * 2) (hvl:vs.length=2)
  (Ae:∀ j v,cs[j]?=some v→w.cell? ⟨b,j,none⟩=some v) (hsp:∀ j,j<(n+1) * 2→(w.cell? ⟨b,j,none⟩).isSome=true) (hfz:∀ j,j<(n+1) * 2→w.frozen? ⟨b,j,none⟩=false)
  (hvs:∀ j v,vs[j]?=some v→w.cell? ⟨vb,j,none⟩=some v) (h1c:∀ v∈cs,v.oneCell'=true) (h1v:∀ v∈vs,v.oneCell'=true)
  (tA tB:TypeId) (kA kB:Nat) (hsa:w.shape? vb=some (tA,kA)) (hsb:w.shape? b=some (tB,kB)) (hkB:kB≠0) (hfa:w.frozen? ⟨vb,0,none⟩=false) (hfe:w.frozen? ⟨vb,kA,none⟩=false):
  Calls Tryz.prog 80 #[.slice (some ⟨b,0,none⟩) n c,.int .i64 i,.slice (some ⟨vb,0,none⟩) 1 vc] w fun e w'=>
   e=.returned (.slice (some ⟨b,0,none⟩) (n+1) c)∧w'=(w.drew.setCells b ((i+1) * 2) (cs.drop (i * 2))).setCells b (i * 2) vs:=by
 have u:=Tryz.underlying116
 have hz2:¬ ((i:Int)=(n:Int)):=by omega
 have hsz:=ZO
 have hov:∀ lb cb,(callFunc 148 #[.slice (some ⟨vb,0,none⟩) 1 vc,.slice (some ⟨b,(i+1) * 2,none⟩) lb cb]).run Tryz.prog w=.ok (.value (.bool false)) w:=fun lb cb=>by
  rw[run_callFunc_extern Tryz.func148 (by kernel_rfl) (by kernel_rfl) (by kernel_rfl) (e:=Extern.SlicesOverlaps.overlaps #[116,116] #[4]) (by kernel_rfl),
   Lib.run_overlaps_apart w 116 4 115 u 2 (fun w=>by simp) ⟨vb,0,none⟩ ⟨b,(i+1) * 2,none⟩ 1 vc lb cb hvb tA tB kA kB hsa hsb hkB hfa hfe]
  rfl
 have hdl:(cs.drop (i * 2)).length=(n - i) * 2:=by rw[Cc,hcl,Nat.sub_mul]
 have hw1:IntKind.i64.wrap ((i:Int)+1)=(i:Int)+1:=by rw[IntKind.wrap_i64];omega
 have hb1:(0:Int)≤(i:Int)+1:=by omega
 have hin:i≤n:=by omega
 have htn:((i:Int)+1).toNat=i+1:=by omega
 have hb2:¬ (c=i+1):=by omega
 have hb3:(i:Int)≤(n:Int)+1:=by omega
 have hb4:¬ (c=i):=by omega
 have mixed:Tryz.prog.follows Departure.mixedOrders=true:=by kernel_rfl
 have hcp1:∀ ty dc sc,(Builtin.copy_ #[116,116] ty #[.slice (some ⟨b,(i+1) * 2,none⟩) (n - i) dc,.slice (some ⟨b,i * 2,none⟩) (n+1 - i) sc]).run Tryz.prog w.drew=.ok (goInt (Nat.min (n+1 - i) (n - i))) (w.drew.setCells b ((i+1) * 2) (cs.drop (i * 2))):=fun ty dc sc=>
  P7 w.drew _ _ ty 115 2 b ((i+1) * 2) (n - i) dc ⟨b,i * 2,none⟩ (n+1 - i) sc (cs.drop (i * 2)) u hsz (by rw[hdl];simp only[Nat.min_def];split<;>omega)
   (fun j v hj=>by rw[Addr.add_lit];exact Ae (i * 2+j) v (by rwa [CC]at hj))
   (fun j hj=>hsp _ (by omega)) (fun j hj=>hfz _ (by omega)) (fun v hv=>h1c v (EY hv))
 obtain ⟨W1,hW1⟩:∃ W1,W1=w.drew.setCells b ((i+1) * 2) (cs.drop (i * 2)):=⟨_,rfl⟩
 have hsp1:∀ k,k<(n+1) * 2→(W1.cell? ⟨b,k,none⟩).isSome=true:=fun k hk=>by
  rw[hW1]
  exact isSome_setCells b (cs.drop (i * 2)) ((i+1) * 2) w.drew (fun j hj=>hsp _ (by omega)) k (hsp k hk)
 have hcp2:∀ (W:World),(∀ x,W.cell? x=W1.cell? x)→(∀ x,W.frozen? x=W1.frozen? x)→∀ ty dc,(Builtin.copy_ #[116,116] ty #[.slice (some ⟨b,i * 2,none⟩) (n+1 - i) dc,.slice (some ⟨vb,0,none⟩) 1 vc]).run Tryz.prog W=.ok (goInt (Nat.min 1 (n+1 - i))) (W.setCells b (i * 2) vs):=fun W hWc hWf ty dc=>
  P7 W _ _ ty 115 2 b (i * 2) (n+1 - i) dc ⟨vb,0,none⟩ 1 vc vs u hsz (by rw[hvl];simp only[Nat.min_def];split<;>omega)
   (fun j v hj=>by
    rw[Addr.add_lit,AH,hWc,hW1,World.cell?_setCells_out b _ _ _ _ (fun h _=>absurd h hvb)]
    exact hvs j v hj)
   (fun j hj=>by rw[hWc];exact hsp1 _ (by omega)) (fun j hj=>by rw[hWf,hW1,World.frozen?_setCells];exact hfz _ (by omega)) h1v
 rw[← hW1]at hcp1
 go_enter Tryz.func80,Tryz.ntmps80
 go_wp2_with (simp only[hov])
 go_region_law_o (refine step_copy_runI rfl _ _ 116 116 rfl _ _ (by simp[Act.eval,Act.put]) (by simp[Act.eval,Act.put]) (hcp1 _ _ _) ?_)
 go_wp2_with (at_builtin;refine wpList_copy_runI _ rfl _ _ 116 116 rfl _ _ rfl rfl (hcp2 _ (fun _=>rfl) (fun _=>rfl) _ _) ?_)
 go_ret
 first|exact ⟨rfl,rfl⟩|exact ⟨rfl,by rw[hW1]⟩
theorem a4E(b n c i vb vc:Nat)(cs vs:List Value)(w:World)(hi:i<n)(hnc:n≤c)(hroom:c<n+1)(hbig:(n+1) * 32≤140737488355328)
  (hcl:cs.length=n * 2) (hvl:vs.length=2)
  (Ae:∀ j v,cs[j]?=some v→w.cell? ⟨b,j,none⟩=some v)
  (hvs:∀ j v,vs[j]?=some v→w.cell? ⟨vb,j,none⟩=some v) (h1c:∀ v∈cs,v.oneCell'=true) (h1v:∀ v∈vs,v.oneCell'=true):
  Calls Tryz.prog 80 #[.slice (some ⟨b,0,none⟩) n c,.int .i64 i,.slice (some ⟨vb,0,none⟩) 1 vc] w fun e w'=>
   e=.returned (.slice (some ⟨w.heap.size,0,none⟩) (n+1) (grownCap w (n+1) c 115))∧
   w'=(((w.alloc (.cells ((cs.take (i * 2)).toArray++Builtin.zeroCells zPr.cells (n+1 - i)++Builtin.zeroCells zPr.cells (grownCap w (n+1) c 115 - (n+1))) 115)).drew.setCells w.heap.size (i * 2) vs).drew).setCells w.heap.size ((i+1) * 2) (cs.drop (i * 2)):=by
 obtain ⟨i0,hi0,hz0,hzs,hzb⟩:=info_parts (P:=Tryz.prog) (e:=115) (z:=zPr) (size:=2) (bytes:=32) (by kernel_rfl)
 have u:=Tryz.underlying116
 have mixed:Tryz.prog.follows Departure.mixedOrders=true:=by kernel_rfl
 have hz2:¬ ((i:Int)=(n:Int)):=by omega
 have hz3:(c:Int)<(n:Int)+1:=by omega
 have hsz:=ZO
 have hbw:b<w.heap.size:=block_lt_of_cell (Ae 0 _ (Aw (by omega)))
 have hvw:vb<w.heap.size:=block_lt_of_cell (hvs 0 _ (Aw (by omega)))
 have hkk:(n:Int)+1 - (i:Int)=((n+1 - i:Nat):Int):=by omega
 have hik:i+(n+1 - i)=n+1:=by omega
 have hold:(Builtin.firstCells i0.size i (.slice (some ⟨b,0,none⟩) i c)).run Tryz.prog w.drew=.ok (cs.take (i * 2)).toArray w.drew:=by
  rw[hzs]
  exact run_firstCells_some w.drew 2 i ⟨b,0,none⟩ i c (cs.take (i * 2)) (by rw[BL];omega) (fun j v hj=>by
   rw[Addr.add_lit,AH]
   rw[HM]at hj
   split at hj
   ·exact Ae j v hj
   ·cases hj)
 have hrz:∀ ty,(Builtin.append_ #[116,3] ty #[.slice (some ⟨b,0,none⟩) i c,.int .i64 ((n:Int)+1 - (i:Int))]).run Tryz.prog w=
   .ok (.slice (some ⟨w.heap.size,0,none⟩) (n+1) (grownCap w (n+1) c 115)) (w.drew.alloc (.cells ((cs.take (i * 2)).toArray++Builtin.zeroCells zPr.cells (n+1 - i)++Builtin.zeroCells zPr.cells (grownCap w (n+1) c 115 - (n+1))) 115)):=fun ty=>by
  have h:=Lib.run_append_grow_zeros w 116 3 ty 115 i0 _ .i64 .i64 u Tryz.underlying3 hi0 hz0 (some ⟨b,0,none⟩) i c (cs.take (i * 2)) hold (n+1 - i) (by omega) (by omega) (by omega) (by omega) (by rw[hzb];omega) (by rw[hzb,hik];exact growslice_fits hroom hbig)
  rw[hik]at h
  rw[hkk]
  exact h
 obtain ⟨G,hG⟩:∃ G,G=grownCap w (n+1) c 115:=⟨_,rfl⟩
 obtain ⟨ROW,hROW⟩:∃ ROW:Array Value,ROW=(cs.take (i * 2)).toArray++Builtin.zeroCells zPr.cells (n+1 - i)++Builtin.zeroCells zPr.cells (G - (n+1)):=⟨_,rfl⟩
 rw[← hG]at hrz ⊢
 rw[← hROW]at hrz ⊢
 have hRl:(n+1) * 2≤ROW.size:=by
  rw[hROW]
  simp[Builtin.zeroCells,Value.cells]
  omega
 obtain ⟨W1,hW1⟩:∃ W1,W1=w.drew.alloc (.cells ROW 115):=⟨_,rfl⟩
 rw[← hW1]at hrz
 have hN:∀ j,j<(n+1) * 2→(W1.cell? ⟨w.heap.size,j,none⟩).isSome=true:=fun j hj=>by
  rw[hW1,World.cell?_alloc_at (w:=w.drew) ROW _ w.heap.size j rfl,Dz (by omega)];rfl
 have hNf:∀ j,W1.frozen? ⟨w.heap.size,j,none⟩=false:=fun j=>by rw[hW1];exact World.frozen?_alloc_at (w:=w.drew) ROW _ w.heap.size j rfl
 have hOb:∀ j v,w.cell? ⟨b,j,none⟩=some v→W1.cell? ⟨b,j,none⟩=some v:=fun j v h=>by rw[hW1,World.cell?_alloc_past (w:=w.drew) _ b j hbw];exact h
 have hOv:∀ j v,w.cell? ⟨vb,j,none⟩=some v→W1.cell? ⟨vb,j,none⟩=some v:=fun j v h=>by rw[hW1,World.cell?_alloc_past (w:=w.drew) _ vb j hvw];exact h
 have hcpA:∀ (W:World),(∀ x,W.cell? x=W1.cell? x)→(∀ x,W.frozen? x=W1.frozen? x)→∀ ty dc,(Builtin.copy_ #[116,116] ty #[.slice (some ⟨w.heap.size,i * 2,none⟩) (n+1 - i) dc,.slice (some ⟨vb,0,none⟩) 1 vc]).run Tryz.prog W=.ok (goInt (Nat.min 1 (n+1 - i))) (W.setCells w.heap.size (i * 2) vs):=fun W hWc hWf ty dc=>
  P7 W _ _ ty 115 2 w.heap.size (i * 2) (n+1 - i) dc ⟨vb,0,none⟩ 1 vc vs u hsz (by rw[hvl];simp only[Nat.min_def];split<;>omega)
   (fun j v hj=>by rw[Addr.add_lit,AH,hWc];exact hOv _ v (hvs j v hj))
   (fun j hj=>by rw[hWc];exact hN _ (by omega)) (fun j hj=>by rw[hWf];exact hNf _) h1v
 have hGn:n+1≤G:=by rw[hG];exact grownCap_ge w _ _ _
 have hG63:G≤9223372036854775807:=by
  have:=grownCap_le_maxLen w (n+1) c 115 (by unfold maxLen;omega)
  rw[← hG]at this
  unfold maxLen at this
  omega
 have hGi:¬ (G=i):=by omega
 have hGim:¬ (G=i+1):=by omega
 have hci:¬ (c=i):=by omega
 have hbN:b≠w.heap.size:=by omega
 have hdl:(cs.drop (i * 2)).length=(n - i) * 2:=by rw[Cc,hcl,Nat.sub_mul]
 have hcpB:∀ (W:World),(∀ x,W.cell? x=(W1.setCells w.heap.size (i * 2) vs).cell? x)→(∀ x,W.frozen? x=(W1.setCells w.heap.size (i * 2) vs).frozen? x)→∀ ty dc sc,(Builtin.copy_ #[116,116] ty #[.slice (some ⟨w.heap.size,(i+1) * 2,none⟩) (n - i) dc,.slice (some ⟨b,i * 2,none⟩) (n - i) sc]).run Tryz.prog W=.ok (goInt (Nat.min (n - i) (n - i))) (W.setCells w.heap.size ((i+1) * 2) (cs.drop (i * 2))):=fun W hWc hWf ty dc sc=>
  P7 W _ _ ty 115 2 w.heap.size ((i+1) * 2) (n - i) dc ⟨b,i * 2,none⟩ (n - i) sc (cs.drop (i * 2)) u hsz (by rw[hdl];simp only[Nat.min_def];split<;>omega)
   (fun j v hj=>by
    rw[Addr.add_lit,hWc,World.cell?_setCells_out _ _ _ _ _ (fun h _=>absurd h hbN)]
    exact hOb _ v (Ae (i * 2+j) v (by rwa [CC]at hj)))
   (fun j hj=>by rw[hWc];exact isSome_setCells w.heap.size vs (i * 2) W1 (fun t ht=>hN _ (by omega)) _ (hN _ (by omega)))
   (fun j hj=>by rw[hWf,World.frozen?_setCells];exact hNf _) (fun v hv=>h1c v (EY hv))
 subst hW1
 have hE1:∀ x,((w.alloc (.cells ROW 115)).drew).cell? x=(w.drew.alloc (.cells ROW 115)).cell? x:=fun x=>rfl
 have hE2:∀ x,((w.alloc (.cells ROW 115)).drew).frozen? x=(w.drew.alloc (.cells ROW 115)).frozen? x:=fun x=>rfl
 have hF1:∀ x,(((w.alloc (.cells ROW 115)).drew.setCells w.heap.size (i * 2) vs).drew).cell? x=((w.drew.alloc (.cells ROW 115)).setCells w.heap.size (i * 2) vs).cell? x:=fun x=>rfl
 have hF2:∀ x,(((w.alloc (.cells ROW 115)).drew.setCells w.heap.size (i * 2) vs).drew).frozen? x=((w.drew.alloc (.cells ROW 115)).setCells w.heap.size (i * 2) vs).frozen? x:=fun x=>rfl
 have hw1:IntKind.i64.wrap ((i:Int)+1)=(i:Int)+1:=by rw[IntKind.wrap_i64];omega
 have hb1:(0:Int)≤(i:Int)+1:=by omega
 have hin:i≤n:=by omega
 have htn:((i:Int)+1).toNat=i+1:=by omega
 have hb3:(i:Int)≤(n:Int):=by omega
 clear hkk hik hold hROW hG hRl
 go_enter Tryz.func80,Tryz.ntmps80
 go_wp2_with (first
  | (at_builtin;refine Lib.wpList_append_run _ rfl _ _ _ _ rfl _ _ rfl rfl _ _ (hrz _) ?_)
  | (at_builtin;refine wpList_copy_runI _ rfl _ _ 116 116 rfl _ _ rfl rfl (hcpA _ hE1 hE2 _ _) ?_)
  | (at_builtin;refine wpList_copy_runI _ rfl _ _ 116 116 rfl _ _ rfl rfl (hcpB _ (fun _=>rfl) (fun _=>rfl) _ _ _) ?_))
 go_region_law_o (refine step_copy_runI rfl _ _ 116 116 rfl (.slice (some ⟨w.heap.size,(i+1) * 2,none⟩) (n - i) (G - (i+1))) (.slice (some ⟨b,i * 2,none⟩) (n - i) (c - i)) (by simp[Act.eval,Act.put]) (by simp[Act.eval,Act.put]) (hcpB _ hF1 hF2 3 (G - (i+1)) (c - i)) ?_)
 go_wp2
 go_ret
 exact ⟨rfl,rfl⟩
end
section
open Go.Shelf Go.RowKit Go.Lib
theorem b0R{P:Program}(w:World)(t e ty:TypeId)(z:Value)(ht:P.underlying t=some (.slice e))(hv:∀ w,(zeroValue e).run P w=.ok z w)(h1:∀ v∈z.cells,v.oneCell'=true)(b o c:Nat)
  (hc:∀ j,j<z.cells.size→(w.cell? ⟨b,o+j,none⟩).isSome=true) (hf:∀ j,j<z.cells.size→w.frozen? ⟨b,o+j,none⟩=false):
  (Builtin.clear_ #[t] ty #[.slice (some ⟨b,o,none⟩) 1 c]).run P w=.ok (.tuple #[]) (w.setCells b o z.cells.toList):=by
 have hzc:(Builtin.zeroCells z.cells 1).toList=z.cells.toList:=by
  apply List.ext_getElem
  ·simp[Builtin.zeroCells]
  ·intro i h1 h2
   have hi:i<z.cells.size:=by simpa using h2
   simp[Builtin.zeroCells,Nat.mod_eq_of_lt hi,getElem!_pos z.cells i hi]
 have hst:=run_storeCells_cells (P:=P) b o z.cells.toList 0 w (by simpa using hc) (by simpa using hf) (by intro v hv';exact h1 v (by simpa using hv'))
 simp only[Nat.add_zero]at hst
 simp[Builtin.clear_,run_underlying ht,hv,hzc,hst]
theorem a2Y(b n c i j:Nat)(cs:List Value)(w:World)(hj:j=i+1)(hi:i<n)(hnc:n≤c)(hc63:c≤9223372036854775807)(hcl:cs.length=n * 2)
  (Ae:∀ j v,cs[j]?=some v→w.cell? ⟨b,j,none⟩=some v) (hfz:∀ j,j<n * 2→w.frozen? ⟨b,j,none⟩=false) (h1c:∀ v∈cs,v.oneCell'=true):
  Calls Tryz.prog 209 #[.slice (some ⟨b,0,none⟩) n c,.int .i64 i,.int .i64 j] w fun e w'=>
   e=.returned (.slice (some ⟨b,0,none⟩) (n - 1) c)∧w'=(w.drew.setCells b (i * 2) (cs.drop (j * 2))).setCells b ((n - 1) * 2) zPr.cells.toList:=by
 obtain ⟨i0,hi0,hz0,hzs,hzb⟩:=info_parts (P:=Tryz.prog) (e:=115) (z:=zPr) (size:=2) (bytes:=32) (by kernel_rfl)
 have u:=Tryz.underlying116
 have v0:∀ w,(zeroValue 115).run Tryz.prog w=.ok zPr w:=fun w=>by simp[zeroValue,typeInfo,hi0,hz0]
 have hsz:∀ j,j<n * 2→(w.cell? ⟨b,j,none⟩).isSome=true:=fun j hj=>by rw[Ae j _ (Aw (show j<cs.length by omega))];rfl
 obtain ⟨news,hnews⟩:∃ news,news=cs.drop (j * 2):=⟨_,rfl⟩
 have hlen:news.length=(n - j) * 2:=by rw[hnews,Cc,hcl,Nat.sub_mul]
 obtain ⟨A,hA,hsrc⟩:∃ A:Addr,(if c=j then some (⟨b,0,none⟩:Addr) else some ⟨b,j * 2,none⟩)=some A∧Hid (∀ t u,news[t]?=some u→w.drew.cell? (A.add t)=some u):=by
  by_cases h:c=j
  ·refine ⟨⟨b,0,none⟩,by simp[h],fun t u hu=>?_⟩
   have h0:news.length=0:=by rw[hlen];omega
   rw[K4.1 h0]at hu
   simp at hu
  ·refine ⟨⟨b,j * 2,none⟩,by simp[h],fun t u hu=>?_⟩
   rw[hnews,CC]at hu
   rw[Addr.add_lit]
   exact Ae _ u hu
 have s1:Hid (news.length=(n - j) * 2):=hlen
 have s2:Hid (∀ u∈news,u.oneCell'=true):=fun u hu=>h1c u (EY (hnews▸hu))
 have s3:Hid (∀ t,t<news.length→(w.drew.cell? ⟨b,0+i * 2+t,none⟩).isSome=true∧w.drew.frozen? ⟨b,0+i * 2+t,none⟩=false):=by
  intro t ht
  rw[hlen]at ht
  exact ⟨hsz _ (by omega),hfz _ (by omega)⟩
 obtain ⟨W1,hW1⟩:∃ W1,W1=w.drew.setCells b (i * 2) news:=⟨_,rfl⟩
 have hcl1:∀ j,j<n * 2→(W1.cell? ⟨b,j,none⟩).isSome=true:=fun j hj=>by
  rw[hW1]
  exact isSome_setCells b news (i * 2) w.drew (fun k hk=>hsz _ (by omega)) j (hsz j hj)
 have hfz1:∀ j,j<n * 2→W1.frozen? ⟨b,j,none⟩=false:=fun j hj=>by rw[hW1,World.frozen?_setCells];exact hfz j hj
 have e1:i+(n - j)=n - 1:=by omega
 have e2:n - (i+(n - j))=1:=by omega
 have hclr:∀ ty,(Builtin.clear_ #[116] ty #[.slice (some ⟨b,(i+(n - j)) * 2,none⟩) (n - (i+(n - j))) (c - (i+(n - j)))]).run Tryz.prog W1=.ok (.tuple #[]) (W1.setCells b ((n - 1) * 2) zPr.cells.toList):=fun ty=>by
  rw[e2,e1]
  exact b0R W1 _ _ ty zPr u v0 (by decide) b ((n - 1) * 2) _ (fun j hj=>hcl1 _ (by have:zPr.cells.size=2:=rfl;omega)) (fun j hj=>hfz1 _ (by have:zPr.cells.size=2:=rfl;omega))
 have hW:Hid (W1=w.drew.setCells b (0+i * 2) news):=by rw[AH];exact hW1
 rw[← hnews, ← hW1]
 have hij:i≤j:=by omega
 have heq:¬ i=j:=by omega
 have hjn:j≤n:=by omega
 have hic:i≤c:=by omega
 have hjc:j≤c:=by omega
 have hr:(.slice (some ⟨b,0,none⟩) (n - 1) c:Value)=.slice (some ⟨b,0,none⟩) (i+(n - j)) c:=by rw[e1]
 rw[hr]
 have E1:Hid (j=i+1):=hj
 clear hW1 hnews hlen hcl1 hfz1 hsz Ae hfz e1 e2 hr hj
 have mixed:Tryz.prog.follows Departure.mixedOrders=true:=by kernel_rfl
 go_enter Tryz.func209,Tryz.ntmps209
 go_wp2_with fail
 go_region_law_o (refine step_append_room rfl (.tmp 22) (.tmp 25) 116 rfl 115 i0 2 u hi0 hzs b 0 i c (by simp[Act.eval,Act.put]) A (n - j) (c - j) news (by simp[Act.eval,Act.put]) s1.out hsrc.out s2.out (by have:=E1.out;omega) s3.out ?_;rw[← hW.out])
 go_wp2
 go_ret
 exact ⟨rfl,rfl⟩
end
section
def tabInts:List (Nat × IntKind × List Int):=[
 (1,.u32,[1116352408,1899447441,3049323471,3921009573,961987163,1508970993,2453635748,2870763221,3624381080,310598401,607225278,1426881987,1925078388,2162078206,2614888103,3248222580,3835390401,4022224774,264347078,604807628,770255983,1249150122,1555081692,1996064986,2554220882,2821834349,2952996808,3210313671,3336571891,3584528711,113926993,338241895,666307205,773529912,1294757372,1396182291,1695183700,1986661051,2177026350,2456956037,2730485921,2820302411,3259730800,3345764771,3516065817,3600352804,4094571909,275423344,430227734,506948616,659060556,883997877,958139571,1322822218,1537002063,1747873779,1955562222,2024104815,2227730452,2361852424,2428436474,2756734187,3204031479,3329325298])
 ]
def Kn:List (Nat × (Array Value→Prop)):=(tabInts.map fun x=>(x.1,fun cs=>cs=(x.2.2.map fun z=>Value.int x.2.1 z).toArray))++[
 (2,fun cs=>cs=(Lib.pow10Tab.map fun z=>Value.int .u64 z).toArray)
 , (0,fun cs=>∃ m,cs[0]?=some (.int .i64 m))
 ]
def hotTys:List Nat:=[
 115
 , 145
 ]
def hot2Tys:List Nat:=[
 115
 , 145
 ]
end
section
open Go.RowKit

inductive AV where
 | int (k:IntKind) (n:Int)
 | bool (b:Bool)
 | str (l:List UInt8)
 | agg (cs:List AV)
 | sl (own:Option Nat) (sz:Nat) (els:List (List AV))
 | ro (cs:List AV)
 | ptr (b off:Nat)
 | osl (b off n:Nat)
 | nilp
 | nilT (t:Nat)
 | nili
 | nils (e sz:Nat)
 | mapv (b:Nat)
 | nilm
 | mp (ks vs:List AV) (bs:List Nat) (clk:Nat)
 | itp (b:Nat)
 | mit (m since:Nat) (seen:List Nat) (last:Nat)
 | fn (f:Nat)
 | clo (f:Nat) (cs:List AV)
 | tup (cs:List AV)
 | undef
 | any
 | hsl (g e sz n cap:Nat)
 | hss (g sz a m:Nat)
 | hnil (e sz:Nat)
 | rom (ks vs:List AV)
 deriving Inhabited

def DR(W:World)(b:Nat):Prop:=∃ cs ty fr,W.heap[b]?=some (.cells cs ty fr)
def QU(W:World)(b ty:Nat):Prop:=∃ cs fr,W.heap[b]?=some (.cells cs ty fr)
inductive VR (W:World) (U:Nat→Nat→Prop):Value→AV→Prop where
 | int (k:IntKind) (n:Int):VR W U (.int k n) (.int k n)
 | bool (b:Bool):VR W U (.bool b) (.bool b)
 | str (l:List UInt8):VR W U (.string ⟨l.toArray⟩) (.str l)
 | agg (vs:List Value) (cs:List AV) (hl:vs.length=cs.length) (h:∀ (i:Nat) (v:Value) (c:AV),vs[i]?=some v→cs[i]?=some c→VR W U v c) (h1:∀ v∈vs,v.oneCell'=true):VR W U (.agg vs.toArray) (.agg cs)
 | sl (A:Option Addr) (cap:Nat) (own:Option Nat) (els:List (List AV)) (b o sz:Nat) (f:Nat→Nat→Value)
   (hcap:els.length≤cap) (hmax:cap≤maxLen) (hA:0<els.length→A=some ⟨b,o,none⟩) (hs:∀ e∈els,e.length=sz)
   (hc:∀ i j,i<els.length→j<sz→W.cell? ⟨b,o+i * sz+j,none⟩=some (f i j)∧(f i j).oneCell'=true∧¬ U b (o+i * sz+j))
   (hv:∀ (i:Nat) (e:List AV) (j:Nat) (c:AV),els[i]?=some e→e[j]?=some c→VR W U (f i j) c):VR W U (.slice A els.length cap) (.sl own sz els)
 | ro (b o:Nat) (cs:List AV) (f:Nat→Value) (hc:∀ j,j<cs.length→W.cell? ⟨b,o+j,none⟩=some (f j)∧(f j).oneCell'=true∧¬ U b (o+j))
   (hv:∀ (j:Nat) (c:AV),cs[j]?=some c→VR W U (f j) c):VR W U (.pointer (some ⟨b,o,none⟩)) (.ro cs)
 | ptr (b o:Nat) (hm:DR W b):VR W U (.pointer (some ⟨b,o,none⟩)) (.ptr b o)
 | osl (b o n cap:Nat) (hcap:n≤cap) (hmax:cap≤maxLen) (hm:DR W b):VR W U (.slice (some ⟨b,o,none⟩) n cap) (.osl b o n)
 | nilp:VR W U (.pointer none) .nilp
 | nilT (t:Nat):VR W U (.pointer none) (.nilT t)
 | nili:VR W U .nilIface .nili
 | nils (e sz:Nat):VR W U (.slice none 0 0) (.nils e sz)
 | mapv (b:Nat):VR W U (.map (some b)) (.mapv b)
 | nilm:VR W U (.map none) .nilm
 | itp (b:Nat):VR W U (.pointer (some ⟨b,0,none⟩)) (.itp b)
 | fn (f:Nat):VR W U (.func (.func f) #[] #[]) (.fn f)
 | clo (f:Nat) (vs:List Value) (cs:List AV) (hl:vs.length=cs.length) (h:∀ (i:Nat) (v:Value) (c:AV),vs[i]?=some v→cs[i]?=some c→VR W U v c):VR W U (.func (.func f) #[] vs.toArray) (.clo f cs)
 | tup (vs:List Value) (cs:List AV) (hl:vs.length=cs.length) (h:∀ (i:Nat) (v:Value) (c:AV),vs[i]?=some v→cs[i]?=some c→VR W U v c):VR W U (.tuple vs.toArray) (.tup cs)
 | undef:VR W U Go.undef .undef
 | any (v:Value):VR W U v .any
 | hsl (g e sz n cap:Nat) (h1:n≤cap) (h2:cap≤maxLen) (hm:QU W g e):VR W U (.slice (some ⟨g,0,none⟩) n cap) (.hsl g e sz n cap)
 | hss (A:Option Addr) (g sz a m cap:Nat) (h1:m≤cap) (h2:cap≤maxLen) (hA:0<m→A=some ⟨g,a * sz,none⟩) (hm:DR W g):VR W U (.slice A m cap) (.hss g sz a m)
 | hnil (e sz:Nat):VR W U (.slice none 0 0) (.hnil e sz)
 | rom (b:Nat) (es:Array MapEntry) (clk:Nat) (ks vs:List AV) (hh:W.heap[b]?=some (.map es clk)) (hu:¬ U b 0) (h1:es.size=ks.length) (h2:vs.length=ks.length)
   (hk:∀ (i:Nat) (e:MapEntry) (k:AV),es[i]?=some e→ks[i]?=some k→VR W U e.key k) (hv:∀ (i:Nat) (e:MapEntry) (v:AV),es[i]?=some e→vs[i]?=some v→VR W U e.val v):VR W U (.map (some b)) (.rom ks vs)

structure Keeps (W:World) (U:Nat→Nat→Prop) (W':World) (U':Nat→Nat→Prop):Prop where
 c:∀ b o v,W.cell? ⟨b,o,none⟩=some v→¬ U b o→W'.cell? ⟨b,o,none⟩=some v∧¬ U' b o
 mt:∀ b ty,QU W b ty→QU W' b ty
 mp:∀ b es clk,W.heap[b]?=some (.map es clk)→¬ U b 0→W'.heap[b]?=some (.map es clk)∧¬ U' b 0

theorem Keeps.m{W W':World}{U U':Nat→Nat→Prop}(h:Keeps W U W' U'):∀ b,DR W b→DR W' b:=fun b ⟨cs,ty,fr,e⟩=>
 let ⟨cs',fr',e'⟩:=h.mt b ty ⟨cs,fr,e⟩; ⟨cs',ty,fr',e'⟩
theorem Keeps.refl(W:World)(U:Nat→Nat→Prop):Keeps W U W U:=⟨fun _ _ _ h hu=>⟨h,hu⟩,fun _ _ h=>h,fun _ _ _ h hu=>⟨h,hu⟩⟩
theorem Keeps.trans{W W' W'':World}{U U' U'':Nat→Nat→Prop}(h:Keeps W U W' U')(h':Keeps W' U' W'' U''):Keeps W U W'' U'':=
 ⟨fun b o v hc hu=>let ⟨h1,h2⟩:=h.c b o v hc hu;h'.c b o v h1 h2,fun b ty hb=>h'.mt b ty (h.mt b ty hb),fun b es clk e hu=>let ⟨h1,h2⟩:=h.mp b es clk e hu;h'.mp b es clk h1 h2⟩

theorem VR.keep{W W':World}{U U':Nat→Nat→Prop}(hk:Keeps W U W' U'){v:Value}{a:AV}(h:VR W U v a):VR W' U' v a:=by
 induction h with
 | int k n=>exact .int k n
 | bool b=>exact .bool b
 | str l=>exact .str l
 | agg vs cs hl _ h1 ih=>exact .agg vs cs hl ih h1
 | sl A cap own els b o sz f hcap hmax hA hs hc _ ih=>
  exact .sl A cap own els b o sz f hcap hmax hA hs (fun i j hi hj=>let ⟨h1,h3,h2⟩:=hc i j hi hj;let ⟨g1,g2⟩:=hk.c _ _ _ h1 h2; ⟨g1,h3,g2⟩) ih
 | ro b o cs f hc _ ih=>exact .ro b o cs f (fun j hj=>let ⟨h1,h3,h2⟩:=hc j hj;let ⟨g1,g2⟩:=hk.c _ _ _ h1 h2; ⟨g1,h3,g2⟩) ih
 | ptr b o hm=>exact .ptr b o (hk.m b hm)
 | osl b o n cap h1 h2 hm=>exact .osl b o n cap h1 h2 (hk.m b hm)
 | nilp=>exact .nilp
 | nilT t=>exact .nilT t
 | nili=>exact .nili
 | nils e sz=>exact .nils e sz
 | mapv b=>exact .mapv b
 | nilm=>exact .nilm
 | itp b=>exact .itp b
 | fn f=>exact .fn f
 | clo f vs cs hl _ ih=>exact .clo f vs cs hl ih
 | tup vs cs hl _ ih=>exact .tup vs cs hl ih
 | undef=>exact .undef
 | any v=>exact .any v
 | hsl g e sz n cap h1 h2 hm=>exact .hsl g e sz n cap h1 h2 (hk.mt g e hm)
 | hss A g sz a m cap h1 h2 hA hm=>exact .hss A g sz a m cap h1 h2 hA (hk.m g hm)
 | hnil e sz=>exact .hnil e sz
 | rom b es clk ks vs hh hu h1 h2 _ _ ihk ihv=>let ⟨g1,g2⟩:=hk.mp b es clk hh hu;exact .rom b es clk ks vs g1 g2 h1 h2 ihk ihv

def AV.alias:AV→AV
 | .sl _ sz els=>.sl none sz els
 | .nils _ sz=>.sl none sz []
 | .nilT _=>.nilp
 | a=>a
def AV.store:AV→AV
 | .nils e sz=>.nils e sz
 | a=>a.alias
theorem VR.nil{W:World}{U:Nat→Nat→Prop}(own:Option Nat)(sz:Nat):VR W U (.slice none 0 0) (.sl own sz []):=.sl (els:=[]) none 0 _ 0 0 _ (fun _ _=>Go.undef) (by simp) (by simp) (by simp) (by simp) (by simp) (by simp)
theorem VR.alias{W:World}{U:Nat→Nat→Prop}{v:Value}{a:AV}(h:VR W U v a):VR W U v a.alias:=by
 cases h with
 | sl A cap own els b o sz f hcap hmax hA hs hc hv=>exact .sl A cap none els b o sz f hcap hmax hA hs hc hv
 | int k n=>exact .int k n
 | bool b=>exact .bool b
 | str l=>exact .str l
 | agg vs cs hl h h1=>exact .agg vs cs hl h h1
 | ro b o cs f hc hv=>exact .ro b o cs f hc hv
 | ptr b o hm=>exact .ptr b o hm
 | osl b o n cap h1 h2 hm=>exact .osl b o n cap h1 h2 hm
 | nilp=>exact .nilp
 | nilT t=>exact .nilp
 | nili=>exact .nili
 | nils e sz=>exact VR.nil none sz
 | mapv b=>exact .mapv b
 | nilm=>exact .nilm
 | itp b=>exact .itp b
 | fn f=>exact .fn f
 | clo f vs cs hl h=>exact .clo f vs cs hl h
 | tup vs cs hl h=>exact .tup vs cs hl h
 | undef=>exact .undef
 | any v=>exact .any v
 | hsl g e sz n cap h1 h2 hm=>exact .hsl g e sz n cap h1 h2 hm
 | hss A g sz a m cap h1 h2 hA hm=>exact .hss A g sz a m cap h1 h2 hA hm
 | hnil e sz=>exact .hnil e sz
 | rom b es clk ks vs hh hu h1 h2 hk hv=>exact .rom b es clk ks vs hh hu h1 h2 hk hv
theorem VR.store{W:World}{U:Nat→Nat→Prop}{v:Value}{a:AV}(h:VR W U v a):VR W U v a.store:=by
 by_cases hn:∃ e sz,a=.nils e sz
 ·obtain ⟨e,sz,rfl⟩:=hn
  exact h
 ·have e:a.store=a.alias:=by cases a<;>first|rfl|exact absurd ⟨_,_,rfl⟩ hn
  rw[e];exact h.alias
theorem VR.ptr_at{W:World}{U:Nat→Nat→Prop}{v:Value}{b o:Nat}(h:VR W U v (.ptr b o)):DR W b:=by
 cases h;assumption
theorem VR.reown{W:World}{U:Nat→Nat→Prop}{v:Value}{own own':Option Nat}{sz:Nat}{els:List (List AV)}(h:VR W U v (.sl own sz els)):VR W U v (.sl own' sz els):=by
 cases h with
 | sl A cap own els b o sz f hcap hmax hA hs hc hv=>exact .sl A cap own' els b o sz f hcap hmax hA hs hc hv

def RowIn(W:World)(g:Nat)(cur:Array Value)(e:Nat):Prop:=∃ fz:Nat × Nat,W.heap[g]?=some (.cells cur e fz)∧(fz.2=0∨cur.size≤fz.1)
theorem RowIn.of{W:World}{g:Nat}{cur:Array Value}{e:Nat}(h:W.heap[g]?=some (.cells cur e (0,0))):RowIn W g cur e:=⟨_,h,.inl rfl⟩
theorem RowIn.lt{W:World}{g:Nat}{cur:Array Value}{e:Nat}(h:RowIn W g cur e):g<W.heap.size:=by
 obtain ⟨fz,h,_⟩:=h;exact (BH.1 h).1
theorem RowIn.move{W W':World}{g:Nat}{cur:Array Value}{e:Nat}(h:RowIn W g cur e)(he:W'.heap[g]?=W.heap[g]?):RowIn W' g cur e:=by
 obtain ⟨fz,h,h2⟩:=h;exact ⟨fz,he.trans h,h2⟩
def OwnRow(W:World)(U:Nat→Nat→Prop)(B:Nat→Prop)(v:Value)(e sz n:Nat):Prop:=
 (v=.slice none 0 0∧n=0)∨
 ∃ g cap cur,v=.slice (some ⟨g,0,none⟩) n cap∧B g∧RowIn W g cur e∧n≤cap∧cap≤maxLen∧cur.size=cap * sz∧
  (∀ o,o<n * sz→¬ U g o)∧(∀ o,n * sz≤o→U g o)

def Own1(W:World)(U:Nat→Nat→Prop)(B:Nat→Prop)(v:Value):AV→Prop
 | .sl (some e) sz els=>OwnRow W U B v e sz els.length
 | _=>True

structure Ext (W:World) (U:Nat→Nat→Prop) (W':World) (U':Nat→Nat→Prop):Prop where
 b:Below W.heap.size W W'
 u:∀ k,k<W.heap.size→∀ o,U' k o↔U k o
theorem Ext.refl(W:World)(U:Nat→Nat→Prop):Ext W U W U:=⟨Below.refl _ _,fun _ _ _=>Iff.rfl⟩
theorem Ext.trans{W W' W'':World}{U U' U'':Nat→Nat→Prop}(h:Ext W U W' U')(h':Ext W' U' W'' U''):Ext W U W'' U'':=
 ⟨h.b.trans (h'.b.mono h.b.size),fun k hk o=>(h'.u k (Nat.lt_of_lt_of_le hk h.b.size) o).trans (h.u k hk o)⟩
theorem Ext.keeps{W W':World}{U U':Nat→Nat→Prop}(h:Ext W U W' U'):Keeps W U W' U':=⟨fun b o v hc hu=>by
 have hb:b<W.heap.size:=World.block_lt_of_cell? W ⟨b,o,none⟩ hc
 exact ⟨(h.b.cell (p:=⟨b,o,none⟩) hb).trans hc,fun hu'=>hu ((h.u b hb o).1 hu')⟩,fun b ty ⟨cs,fr,e⟩=>
 ⟨cs,fr,(h.b.block b (BH.1 e).1).trans e⟩,fun b es clk e hu=>by
 have hb:b<W.heap.size:=(BH.1 e).1
 exact ⟨(h.b.block b hb).trans e,fun hu'=>hu ((h.u b hb 0).1 hu')⟩⟩
theorem Ext.drew{W W':World}{U U':Nat→Nat→Prop}(h:Ext W U W' U'):Ext W U W'.drew U':=⟨h.b.drew,h.u⟩
theorem Ext.alloc(W:World)(U:Nat→Nat→Prop)(o:Obj)(N:Nat→Prop):Ext W U (W.alloc o) (fun k i=>if k=W.heap.size then N i else U k i):=
 ⟨(Below.refl _ _).alloc (A8 _) o,fun k hk i=>by rw[Ad (by omega)]⟩

def Glob(W:World)(U:Nat→Nat→Prop):Prop:=∀ x∈Kn,(∃ cs ty fr,W.heap[x.1]?=some (.cells cs ty fr)∧x.2 cs)∧∀ o, ¬ U x.1 o
theorem Glob.lt{W:World}{U:Nat→Nat→Prop}(h:Glob W U){x:Nat × (Array Value→Prop)}(hx:x∈Kn):x.1<W.heap.size:=by
 obtain ⟨⟨cs,ty,fr,e,_⟩,_⟩:=h x hx
 exact (BH.1 e).1
theorem Glob.stay{W W':World}{U U':Nat→Nat→Prop}(h:Glob W U)(hb:∀ x∈Kn,W'.heap[x.1]?=W.heap[x.1]?)(hu:∀ x∈Kn, ∀ o,U' x.1 o↔U x.1 o):Glob W' U':=fun x hx=>
 ⟨by obtain ⟨cs,ty,fr,e,q⟩:=(h x hx).1;exact ⟨cs,ty,fr,(hb x hx).trans e,q⟩,fun o ho=>(h x hx).2 o ((hu x hx o).1 ho)⟩
theorem Glob.ext{W W':World}{U U':Nat→Nat→Prop}(h:Glob W U)(he:Ext W U W' U'):Glob W' U':=h.stay (fun x hx=>he.b.block x.1 (h.lt hx)) (fun x hx=>he.u x.1 (h.lt hx))

def CP(P:Program)(f:Nat)(aS_:List AV)(r:AV):Prop:=
 ∀ (W:World) (U:Nat→Nat→Prop) (vs:List Value),Glob W U→vs.length=aS_.length→(∀ (i:Nat) (v:Value) (c:AV),vs[i]?=some v→aS_[i]?=some c→VR W U v c)→
  Calls P f vs.toArray W fun e W'=>∃ v U',e=.returned v∧VR W' U' v r∧Own1 W' U' (W.heap.size ≤ ·) v r∧Ext W U W' U'

inductive Kd where
 | i|b|s
 deriving Inhabited,DecidableEq
def DV:Kd→AV→AV→Option Bool
 | .i,.int k a,.int k' b=>if k=k' then some (decide (a=b)) else none
 | .b,.bool a,.bool b=>some (decide (a=b))
 | .s,.str a,.str b=>some (decide (a=b))
 | _,_,_=>none
def Bb:List Kd→List AV→List AV→Option Bool
 | [],[],[]=>some true
 | k::ks,c::cs,d::ds=>match DV k c d,Bb ks cs ds with
  | some x,some y=>some (x&&y)
  | _,_=>none
 | _,_,_=>none
end
section
open Go.RowKit

structure St where
 t:Nat→Option AV
 o:Nat→Option (List AV)

def lk{α:Type}:List (Nat × α)→Nat→Option α
 | [],_=>none
 | (k,a)::r,i=>if i=k then some a else lk r i
def pt{α:Type}:List (Nat × α)→Nat→α→List (Nat × α)
 | [],i,a=>[(i,a)]
 | (k,b)::r,i,a=>if i=k then (k,a)::r else (k,b)::pt r i a
def upd{α:Type}(f:Nat→Option α)(i:Nat)(a:Option α):Nat→Option α:=fun j=>if j=i then a else f j
theorem a4X{α:Type}(l:List (Nat × α))(i:Nat)(a:α)(j:Nat):lk (pt l i a) j=if j=i then some a else lk l j:=by
 induction l with
 | nil=>simp[pt,lk]
 | cons x r ih=>
  obtain ⟨k,b⟩:=x
  by_cases h:i=k
  ·subst h
   by_cases hj:j=i<;>simp[pt,lk,hj]
  ·simp only[pt,h,BV,lk,ih]
   by_cases hj:j=k
   ·subst hj
    simp[Ne.symm h]
   ·simp[hj]
theorem upd_lk{α:Type}(l:List (Nat × α))(i:Nat)(a:α):upd (lk l) i (some a)=lk (pt l i a):=by
 funext j
 rw[a4X]
 rfl
def del{α:Type}:List (Nat × α)→Nat→List (Nat × α)
 | [],_=>[]
 | (k,b)::r,i=>if i=k then del r i else (k,b)::del r i
theorem Yg{α:Type}(l:List (Nat × α))(i j:Nat):lk (del l i) j=if j=i then none else lk l j:=by
 induction l with
 | nil=>simp[del,lk]
 | cons x r ih=>
  obtain ⟨k,b⟩:=x
  by_cases h:i=k
  ·subst h
   by_cases hj:j=i
   ·subst hj;simp[del,ih]
   ·simp[del,ih,lk,hj]
  ·simp only[del,h,BV,lk,ih]
   by_cases hj:j=k
   ·subst hj
    simp[Ne.symm h]
   ·simp[hj]
theorem upd_del{α:Type}(l:List (Nat × α))(i:Nat):upd (lk l) i none=lk (del l i):=by
 funext j
 rw[Yg]
 rfl
theorem N9{α:Type}(f:Nat→Option α){i j:Nat}(a b:Option α)(h:i≠j):upd (upd f i a) j b=upd (upd f j b) i a:=by
 funext k
 simp only[upd]
 by_cases h1:k=j<;>by_cases h2:k=i<;>simp_all
theorem upd_ne{α:Type}(f:Nat→Option α){i j:Nat}(a:Option α)(h:j≠i):upd f i a j=f j:=by simp[upd,h]
theorem upd_same{α:Type}(f:Nat→Option α)(i:Nat)(a:Option α):upd f i a i=a:=by simp[upd]

def St.put(s:St)(d:Option Nat)(v:AV):St:=
 match d with
 | some d=>{ s with t:=upd s.t d (some v) }
 | none=>s

inductive Loc where
 | t (i:Nat)
 | o (b j:Nat)
def St.at(s:St):Loc→Option AV
 | .t i=>s.t i
 | .o b j=>(s.o b).bind (·[j]?)
def AQ(a:Act)(W:World):Loc→Value
 | .t i=>a.tmps.getD i undef
 | .o b j=>match W.heap[b]? with
  | some (.cells vs _ _)=>vs.getD j undef
  | _=>undef

structure Fr (W0:World) (U0:Nat→Nat→Prop) (M:Nat→Prop) (W:World) (U:Nat→Nat→Prop):Prop where
 os:W.os=W0.os
 tape:W.tape=W0.tape
 output:W.output=W0.output
 size:W0.heap.size≤W.heap.size
 block:∀ k,k<W0.heap.size→¬ M k→W.heap[k]?=W0.heap[k]?
 u:∀ k,k<W0.heap.size→¬ M k→∀ o,U k o↔U0 k o
 keeps:Keeps W0 U0 W U
 g0:Glob W0 U0
 gm:∀ x∈Kn, ¬ M x.1
theorem Fr.glob{W0:World}{U0:Nat→Nat→Prop}{M:Nat→Prop}{W:World}{U:Nat→Nat→Prop}(h:Fr W0 U0 M W U):Glob W U:=
 h.g0.stay (fun x hx=>h.block x.1 (h.g0.lt hx) (h.gm x hx)) (fun x hx=>h.u x.1 (h.g0.lt hx) (h.gm x hx))

def CG:List AV→Option Nat
 | .nilT t::_=>some t
 | _=>none
abbrev Oo(cs:List AV):={ t:TypeId // ∀ u,CG cs=some u→t=u }
def ObR(W:World)(U:Nat→Nat→Prop)(b:Nat):List AV→Prop
 | [.mp ks vs bs clk]=>∃ es:Array MapEntry,W.heap[b]?=some (.map es clk)∧es.size=ks.length∧vs.length=ks.length∧bs.length=ks.length∧bs.Pairwise (· < ·)∧(∀ x∈bs,x<clk)∧
   ∀ (i:Nat) (e:MapEntry),es[i]?=some e→(∀ k,ks[i]?=some k→VR W U e.key k)∧(∀ v,vs[i]?=some v→VR W U e.val v)∧∀ n,bs[i]?=some n→e.born=n
 | [.mit m since seen last]=>W.heap[b]?=some (.mapIter (some m) since seen.toArray last)
 | cs=>∃ vs, ∃ ty:Oo cs,W.heap[b]?=some (.cells vs ty.1 (0,0))∧vs.size=cs.length∧(∀ j c,cs[j]?=some c→VR W U (vs.getD j undef) c∧(vs.getD j undef).oneCell'=true)
abbrev QQ(W:World)(U:Nat→Nat→Prop)(b:Nat)(cs:List AV):Prop:=
 ∃ vs, ∃ ty:Oo cs,W.heap[b]?=some (.cells vs ty.1 (0,0))∧vs.size=cs.length∧(∀ j c,cs[j]?=some c→VR W U (vs.getD j undef) c∧(vs.getD j undef).oneCell'=true)
theorem ObR.of{W:World}{U:Nat→Nat→Prop}{b:Nat}{cs:List AV}(h:QQ W U b cs):ObR W U b cs:=by
 unfold ObR
 split
 ·obtain ⟨vs,ty,_,_,h3⟩:=h
  have:=(h3 0 _ rfl).1
  generalize vs.getD 0 undef=z at this
  cases this
 ·obtain ⟨vs,ty,_,_,h3⟩:=h
  have:=(h3 0 _ rfl).1
  generalize vs.getD 0 undef=z at this
  cases this
 ·exact h
theorem ObR.to{W:World}{U:Nat→Nat→Prop}{b:Nat}{cs:List AV}(h:ObR W U b cs)(hm:DR W b):QQ W U b cs:=by
 obtain ⟨c,t,f,e⟩:=hm
 unfold ObR at h
 split at h
 ·obtain ⟨es,h1,_⟩:=h
  rw[e]at h1;cases h1
 ·rw[e]at h;cases h
 ·exact h
theorem ObR.lt{W:World}{U:Nat→Nat→Prop}{b:Nat}{cs:List AV}(h:ObR W U b cs):b<W.heap.size:=by
 unfold ObR at h
 split at h
 ·obtain ⟨es,h1,_⟩:=h
  exact (BH.1 h1).1
 ·exact (BH.1 h).1
 ·obtain ⟨vs,ty,h1,_⟩:=h
  exact (BH.1 h1).1
theorem ObR.move{W W':World}{U U':Nat→Nat→Prop}{b:Nat}{cs:List AV}(h:ObR W U b cs)(hk:Keeps W U W' U')(he:W'.heap[b]?=W.heap[b]?):ObR W' U' b cs:=by
 unfold ObR at h ⊢
 split at h
 ·obtain ⟨es,h1,h2,h3,h4,h5,h6,h7⟩:=h
  exact ⟨es,he.trans h1,h2,h3,h4,h5,h6,fun i e hi=>let ⟨a,b,c⟩:=h7 i e hi; ⟨fun k hx=>(a k hx).keep hk,fun v hx=>(b v hx).keep hk,c⟩⟩
 ·exact he.trans h
 ·obtain ⟨vs,ty,h1,h2,h3⟩:=h
  exact ⟨vs,ty,he.trans h1,h2,fun j c hc=>⟨(h3 j c hc).1.keep hk,(h3 j c hc).2⟩⟩
structure Inv (N:Nat) (W0:World) (U0:Nat→Nat→Prop) (M:Nat→Prop) (a:Act) (W:World) (U:Nat→Nat→Prop) (s:St):Prop where
 sz:a.tmps.size=N
 df:a.defers=[]
 fr:Fr W0 U0 M W U
 tv:∀ i v,s.t i=some v→VR W U (a.tmps.getD i undef) v
 ob:∀ b cs,s.o b=some cs→ObR W U b cs∧(∀ o,U b o)∧(W0.heap.size≤b∨M b)
 ow:∀ ℓ v,s.at ℓ=some v→Own1 W U (fun g=>W0.heap.size≤g∨M g) (AQ a W ℓ) v
 ap:∀ ℓ ℓ' e sz els e' sz' els',ℓ≠ℓ'→s.at ℓ=some (.sl (some e) sz els)→s.at ℓ'=some (.sl (some e') sz' els')→
  ∀ g,(AQ a W ℓ).ownBlock=some g→(AQ a W ℓ').ownBlock≠some g
 no:∀ ℓ e sz els,s.at ℓ=some (.sl (some e) sz els)→∀ g,(AQ a W ℓ).ownBlock=some g→s.o g=none

theorem Inv.obc{N:Nat}{W0:World}{U0:Nat→Nat→Prop}{M:Nat→Prop}{a:Act}{W:World}{U:Nat→Nat→Prop}{s:St}(h:Inv N W0 U0 M a W U s){b:Nat}{cs:List AV}(hb:s.o b=some cs)(hm:DR W b):
  ∃ vs, ∃ ty:Oo cs,W.heap[b]?=some (.cells vs ty.1 (0,0))∧vs.size=cs.length∧(∀ j c,cs[j]?=some c→VR W U (vs.getD j undef) c∧(vs.getD j undef).oneCell'=true)∧(∀ o,U b o)∧(W0.heap.size≤b∨M b):=by
 obtain ⟨h1,h2,h3⟩:=h.ob b cs hb
 obtain ⟨vs,ty,g1,g2,g3⟩:=h1.to hm
 exact ⟨vs,ty,g1,g2,g3,h2,h3⟩
theorem Inv.obs{N:Nat}{W0:World}{U0:Nat→Nat→Prop}{M:Nat→Prop}{a:Act}{W:World}{U:Nat→Nat→Prop}{s:St}(h:Inv N W0 U0 M a W U s){b j:Nat}{cs:List AV}(hb:s.o b=some cs){c:AV}(hc:cs[j]?=some c)
  (hm:∀ ks vs bs clk,c ≠ .mp ks vs bs clk) (hi:∀ m x y z,c ≠ .mit m x y z):
  ∃ vs, ∃ ty:Oo cs,W.heap[b]?=some (.cells vs ty.1 (0,0))∧vs.size=cs.length∧(∀ j c,cs[j]?=some c→VR W U (vs.getD j undef) c∧(vs.getD j undef).oneCell'=true)∧(∀ o,U b o)∧(W0.heap.size≤b∨M b):=by
 obtain ⟨h1,h2,h3⟩:=h.ob b cs hb
 unfold ObR at h1
 split at h1
 ·cases j with
  | zero=>simp only[G5,Az]at hc;exact absurd hc.symm (hm _ _ _ _)
  | succ j=>simp at hc
 ·cases j with
  | zero=>simp only[G5,Az]at hc;exact absurd hc.symm (hi _ _ _ _)
  | succ j=>simp at hc
 ·obtain ⟨vs,ty,g1,g2,g3⟩:=h1
  exact ⟨vs,ty,g1,g2,g3,h2,h3⟩
def CO(W:World)(o:Nat→Option (List AV))(k:Nat):Prop:=
 (∃ cs,o k=some cs)∨∃ b j e sz els,St.at ⟨fun _=>none,o⟩ (.o b j)=some (.sl (some e) sz els)∧(AQ { tmps := #[],defers:=[] } W (.o b j)).ownBlock=some k

def CT(P:Program)(f:Nat)(aS_:List AV)(o:Nat→Option (List AV))(Q:AV→(Nat→Option (List AV))→Prop):Prop:=
 ∀ (W:World) (U:Nat→Nat→Prop) (vs:List Value),vs.length=aS_.length→(∀ (i:Nat) (v:Value) (c:AV),vs[i]?=some v→aS_[i]?=some c→VR W U v c)→
  Inv 0 W U (CO W o) { tmps := #[],defers:=[] } W U ⟨fun _=>none,o⟩→
  Calls P f vs.toArray W fun e W'=>∃ v U' r o',e=.returned v∧Q r o'∧(∀ b cs,o b=some cs→∃ cs',o' b=some cs')∧Inv 1 W U (CO W o) { tmps := #[v],defers:=[] } W' U' ⟨upd (fun _=>none) 0 (some r),o'⟩
end
end Go.Proofs.YtfgihnhoocnmdaaGreatDoor
