import Derived.Test.YtobopbjedojebaaK15
import Derived.Test.YtobopbjedojebaaK16
import Derived.Test.YtobopbjedojebaaK13
/- maps.Keys of a map keyed by api.End; slices.AppendSeq over it (printed by turnkeys.py) -/
namespace Go.Proofs.Ytobopbjedojebaa
set_option linter.all false
open Go.RowKit Go.ChangeMaps Go.Sort Go.Shelf
set_option maxRecDepth 100000 in
set_option maxHeartbeats 4000000 in
theorem eva_iter {α : Type} [Inhabited α] (cl : α → List Value) (hcl : ∀ x, (cl x).length = 2) (h1 : ∀ x, ∀ u ∈ cl x, u.oneCell' = true) (F : Fence) (n : Nat) (hf : F.fn 67) (hro : F.round = none) (hn : 1 ≤ n)
    (bx b : Nat) (es : Array MapEntry) (clk : Nat) (l : List α) (w : World) (tb : TypeId) (hbx : w.heap[bx]? = some (.cells #[.map (some b)] tb (0, 0))) (hb : w.heap[b]? = some (.map es clk))
    (hval : es.toList.map (·.key) = l.map fun x => .agg (cl x).toArray) (hborn : ∀ x ∈ es.toList, x.born < clk) (hnd : (es.toList.map (·.born)).Nodup) :
    SeqStops F n Try.prog 67 #[.pointer (some ⟨bx, 0, none⟩)] (fun x => .agg (cl x).toArray) (fun xs => xs.Perm l) (fun _ => True) l.length w := by
  intro lp J Jx W hW hJ hJx hY h0
  have hbxl : bx < w.heap.size := (Array.getElem?_eq_some_iff.1 hbx).1
  have hbl : b < w.heap.size := (Array.getElem?_eq_some_iff.1 hb).1
  have hbx1 : W.heap[bx]? = some (.cells #[.map (some b)] tb (0, 0)) := (hW.block bx hbxl).trans hbx
  have hb1 : W.heap[b]? = some (.map es clk) := (hW.block b hbl).trans hb
  have hc1 : W.cell? ⟨bx, 0, none⟩ = some (.map (some b)) := by simp [World.cell?, hbx1]
  have hsz := hW.size
  refine callsIn_of_wp Try.func67 rfl hf ?_ hro
  simp only [Try.ntmps67, List.size_toArray, List.length_cons, List.length_nil, Nat.reduceAdd, Nat.reduceSub, Array.replicate_succ, Array.replicate_zero, List.push_toArray, List.append_toArray, List.nil_append, List.cons_append]
  gi_wp2_with (first
    | (gi_at_range; refine walk_range _ rfl _ _ rfl _ _ Try.underlying75 b es clk rfl hb1 ?_)
    | gi_in)
  gi_loopw [3] (fun _ wr => ∃ (seen : Array Nat) (is : List Nat), wr.heap[W.heap.size]? = some (.mapIter (some b) clk seen clk) ∧ wr.heap[b]? = some (.map es clk) ∧ W.heap.size ≤ wr.heap.size ∧ Came es seen is ∧ J (is.map fun i => l.getD i default) wr)
    (fun _ wr => es.size - seenN wr W.heap.size)
  case atStart =>
    refine ⟨#[], [], World.alloc_heap_new W _, (Below.heap_alloc _ _ b (by omega)).trans hb1, by simp, Came.nil es, ?_⟩
    exact hJ [] W _ none h0 (World.grownBy_alloc W _ none) (fun r e => by cases e)
  case round =>
    obtain ⟨seen, is, hr1, hr2, hr3, hC, hJs⟩ := hrel
    gi_wp2_with (first
      | (gi_at_next; refine walk_next _ rfl _ rfl W.heap.size b clk es seen rfl hr1 hr2 hborn ?_ ?_)
      | gi_in)
    · intro hl0
      gi_wp2
      go_end0
      refine ⟨⟨_, rfl⟩, .inl ⟨_, ?_, hJs⟩⟩
      have hp := hC.all hnd hl0
      have hlen : es.size = l.length := by have := congrArg List.length hval; simpa using this
      rw [hlen] at hp
      have := hp.map fun i => l.getD i default
      rwa [range_getD_map] at this
    · intro e w2 he hst
      obtain ⟨i, hi, hC2⟩ := hC.step hnd he
      have hil : i < es.size := (Array.getElem?_eq_some_iff.1 hi).1
      have hlen : es.size = l.length := by have := congrArg List.length hval; simpa using this
      have hv : e.key = .agg (cl (l.getD i default)).toArray := by
        have := congrArg (fun q => q[i]?) hval
        simp only [List.getElem?_map, Array.getElem?_toList, hi, Option.map_some] at this
        rw [List.getElem?_eq_getElem (by omega)] at this
        simpa [List.getD, show i < l.length by omega] using this
      have hmem : e ∈ es.toList := by
        rw [List.mem_iff_getElem?]
        exact ⟨i, by rw [Array.getElem?_toList]; exact hi⟩
      have hne : b ≠ W.heap.size := by omega
      have hb2 : w2.heap[b]? = some (.map es clk) := (hst.grown.block b (by omega) (by simpa using hne)).trans hr2
      have hJ2 := hJ _ _ w2 _ hJs hst.grown (fun r e => by cases e; exact ⟨Nat.le_refl _, _, hr1, rfl⟩)
      have hs2 := hst.size
      have hWr : W.heap.size < wr.heap.size := (Array.getElem?_eq_some_iff.1 hr1).1
      have hr2' := hst.at_
      obtain ⟨x, hx⟩ : ∃ x, l.getD i default = x := ⟨_, rfl⟩
      rw [hx] at hv
      have hJ3 : J (is.map fun i => l.getD i default) (w2.alloc (.cells (cl x).toArray 23)) := hJ _ _ _ none hJ2 (World.grownBy_alloc w2 _ none) (fun r e => by cases e)
      have hlt : (is.map fun i => l.getD i default).length < l.length := by
        have := nodup_lt _ _ hC2.nd hC2.lt
        simp at this ⊢; omega
      obtain ⟨fn, tmps, assign, body, hy, hR⟩ := hY _ x _ hJ3 hlt
      have hcs : (cl x).toArray.size = 2 := by simp [hcl]
      have hone : ∀ u ∈ (cl x).toArray.toList, u.oneCell' = true := by simpa using h1 x
      have hso : ∀ w, (Go.sizeOf 23).run Try.prog w = .ok (cl x).toArray.size w := fun w => by rw [hcs]; exact Try.sizeOf23 w
      generalize (cl x).toArray = c at hv hy hR hcs hone hso
      clear hJ3 hJ2 hJs h1 hcl
      gi_wp2_with (first
        | (refine walk_entry _ rfl _ rfl W.heap.size b clk es seen e rfl hr2' hb2 hmem hnd ?_)
        | (refine walk_store _ rfl rfl _ _ 23 rfl 2 (by kernel_rfl) wr.heap.size _ c 23 rfl (alloc_at hs2 _) rfl rfl hcs hone ?_; rw [alloc_setRow2 hs2])
        | (refine walk_load _ rfl _ 23 rfl wr.heap.size c 23 Try.isAgg23 hso rfl (alloc_at hs2 _) ?_)
        | gi_in)
      refine hR.mono ?_
      rintro e2 W3 (⟨rfl, hJ4, hk3⟩ | ⟨rfl, hJx4⟩)
      · gi_wp2
        have ha : (w2.alloc (.cells c 23)).heap[W.heap.size]? = some (.mapIter (some b) clk (seen.push e.born) clk) := (Below.heap_alloc _ _ _ (by omega)).trans hr2'
        have hb3 : (w2.alloc (.cells c 23)).heap[b]? = some (.map es clk) := (Below.heap_alloc _ _ _ (by omega)).trans hb2
        have ha3 := hk3.same _ _ ha rfl
        go_roundw
        case rel =>
          refine ⟨_, is ++ [i], ha3, hk3.same _ _ hb3 rfl, ?_, hC2, ?_⟩
          · have := hk3.size; simp at this; omega
          · rw [List.map_append, List.map_singleton, hx]; exact hJ4
        case measure =>
          have q1 : seenN W3 W.heap.size = seen.size + 1 := by simp [seenN, ha3]
          have q2 : seenN wr W.heap.size = seen.size := by simp [seenN, hr1]
          have q3 := hC2.size
          have q4 := nodup_lt _ _ hC2.nd hC2.lt
          simp only [Array.size_push, List.length_append, List.length_singleton] at q3 q4
          rw [q1, q2]; omega
      · gi_wp2
        (try simp only [Exit.inBlock, Exit.then]); refine bodyPost_ret (results_none rfl _ _ _) rfl ?_
        exact ⟨⟨_, rfl⟩, .inr ⟨_, trivial, hJx4⟩⟩

/-- Between two rounds. -/
structure eApI {α : Type} (cl : α → List Value) (w : World) (xs : List α) (W : World) : Prop where
  box : ∃ v, W.heap[w.heap.size]? = some (.cells #[v] 45 (0, 0)) ∧ W.ownsRow w.heap.size 23 2 v xs.length (xs.flatMap cl)
  below : Below w.heap.size w W
theorem eApI.own {α : Type} (cl : α → List Value) (w : World) (B : Nat) (hB : w.heap.size ≤ B) : OwnFrom B (eApI cl w) := by
  intro xs W W' row h hg hr
  obtain ⟨v, hv, hrow⟩ := h.box
  refine ⟨⟨v, (grownBy_keeps_cells hg (fun r e => (hr r e).2) hv rfl).trans hv, row_own hrow hg fun r e => (hr r e).2⟩, h.below.grown hg h.below.size fun k e => Nat.le_trans hB (hr k e).1⟩
set_option maxRecDepth 100000 in
set_option maxHeartbeats 4000000 in
theorem eva_app {α : Type} [Inhabited α] (cl : α → List Value) (hcl : ∀ x, (cl x).length = 2) (h1 : ∀ x, ∀ u ∈ cl x, u.oneCell' = true) (F : Fence) (n : Nat) (hf : F.fn 67)
    (hf2 : F.fn 83) (hro : F.round = none) (hn : 3 ≤ n)
    (bx b : Nat) (es : Array MapEntry) (clk : Nat) (l : List α) (w : World) (tb : TypeId) (hbx : w.heap[bx]? = some (.cells #[.map (some b)] tb (0, 0))) (hb : w.heap[b]? = some (.map es clk))
    (hval : es.toList.map (·.key) = l.map fun x => .agg (cl x).toArray) (hborn : ∀ x ∈ es.toList, x.born < clk) (hnd : (es.toList.map (·.born)).Nodup) (hl : l.length ≤ 1000000) :
    CallsIn F n Try.prog 83 #[.slice none 0 0, .func (.func 67) #[] #[.pointer (some ⟨bx, 0, none⟩)]] w fun e W' =>
      ∃ (v : Value) (xs : List α), e = .returned v ∧ xs.Perm l ∧ W'.ownsRow w.heap.size 23 2 v xs.length (xs.flatMap cl) ∧ Below w.heap.size w W' := by
  have hbxl : bx < w.heap.size := (Array.getElem?_eq_some_iff.1 hbx).1
  have hbl : b < w.heap.size := (Array.getElem?_eq_some_iff.1 hb).1
  have hmx : maxLen = 9223372036854775807 := rfl
  refine callsIn_of_wp_marks Try.func83 rfl hf2 ?_ hro
  simp only [Try.ntmps83, List.size_toArray, List.length_cons, List.length_nil, Nat.reduceAdd, Nat.reduceSub, Array.replicate_succ, Array.replicate_zero, List.push_toArray, List.append_toArray, List.nil_append, List.cons_append]
  gi_wp2
  obtain ⟨W0, hW0⟩ : ∃ W0, w.alloc (.cells #[.slice none 0 0] 45) = W0 := ⟨_, rfl⟩
  rw [hW0]
  have hs0 : W0.heap.size = w.heap.size + 1 := by rw [← hW0]; simp
  have hv0 : W0.heap[w.heap.size]? = some (.cells #[.slice none 0 0] 45 (0, 0)) := by rw [← hW0]; exact World.alloc_heap_new w _
  have hB0 : Below w.heap.size w W0 := by rw [← hW0]; exact (Below.refl _ w).alloc (Nat.le_refl _) _
  have hbx0 : W0.heap[bx]? = some (.cells #[.map (some b)] tb (0, 0)) := (hB0.block bx hbxl).trans hbx
  have hb0 : W0.heap[b]? = some (.map es clk) := (hB0.block b hbl).trans hb
  obtain ⟨i0, hi, hz0, hz1, hz2⟩ := info_parts (P := Try.prog) (e := 23) (z := .agg #[.string ⟨#[]⟩, .int .i64 0]) (size := 2) (bytes := 24) (by kernel_rfl)
  refine walk_seq (pt := 7) hro (by omega) (gf := 67) (lb := #[.pointer (some ⟨bx, 0, none⟩)]) rfl hf (enters_of Try.func67 (by kernel_rfl) rfl)
    (eva_iter cl hcl h1 F (n - 1) hf hro (by omega) bx b es clk l W0 tb hbx0 hb0 hval hborn hnd) (eApI cl w) (eApI.own cl w _ (by omega)) ⟨⟨_, hv0, ⟨rfl, .inl ⟨rfl, rfl⟩⟩⟩, hB0⟩
    (fun x => .cells (cl x).toArray 23 (0, 0)) (fun _ => rfl)
    (fun x p => { tmps := #[.slice none 0 0, .func (.func 67) #[] #[.pointer (some ⟨bx, 0, none⟩)], .pointer (some ⟨w.heap.size, 0, none⟩), undef, .slice none 0 0, .pointer (some ⟨p, 0, none⟩), .func (.func 67) #[] #[.pointer (some ⟨bx, 0, none⟩)], .agg (cl x).toArray, undef, undef, undef, undef, undef], defers := [] }) ?_ ?_ ?_
  · intro lp x W K hK
    have hcs : (cl x).toArray.size = 2 := by simp [hcl]
    have hone : ∀ u ∈ (cl x).toArray.toList, u.oneCell' = true := by simpa using h1 x
    generalize (cl x).toArray = c at hK hcs hone
    gi_wp2_with (first
      | (refine walk_store _ rfl rfl _ _ 23 rfl 2 (by kernel_rfl) W.heap.size _ c 23 rfl (alloc_at rfl _) rfl rfl hcs hone ?_; rw [alloc_setRow2 rfl])
      | (rw [Oper.semAt_eq _ _ _ (fun c h => by cases h)]; go_simp; try go_bits))
    exact hK
  · intro lp pre x W p hI hlen hp hwp
    obtain ⟨⟨v, hv, hrow⟩, hbel⟩ := hI
    have hcv : W.cell? ⟨w.heap.size, 0, none⟩ = some v := by simp [World.cell?, hv]
    have hfv : W.frozen? ⟨w.heap.size, 0, none⟩ = false := by simp [World.frozen?, hv]
    have hBlt : w.heap.size < W.heap.size := (Array.getElem?_eq_some_iff.1 hv).1
    have hcs : (cl x).toArray.size = 2 := by simp [hcl]
    have hso : ∀ w, (Go.sizeOf 23).run Try.prog w = .ok (cl x).toArray.size w := fun w => by rw [hcs]; exact Try.sizeOf23 w
    have hcell : ∀ j u, (cl x)[j]? = some u → (W.alloc (.cells (cl x).toArray 23)).cell? ((⟨W.heap.size, 0, none⟩ : Addr).add j) = some u := by
      intro j u hj
      rw [add_mk, cell_of_row _ _ _ _ _ _ (World.alloc_heap_new W _)]
      simpa using hj
    have hlcl := hcl x
    have hfm : (pre ++ [x]).flatMap cl = pre.flatMap cl ++ cl x := by simp
    have hone := h1 x
    have hne : some w.heap.size ≠ v.ownBlock := by
      rcases hrow.2 with ⟨rfl, _⟩ | ⟨g, cap, cur, rfl, _, hgb, _⟩
      · simp [Value.ownBlock]
      · intro e
        have e' : w.heap.size = g := by simpa [Value.ownBlock] using e
        subst e'
        rw [hv] at hgb
        cases hgb
    gi_wp2_with (first
      | (refine walk_load _ rfl _ 23 rfl p (cl x).toArray 23 Try.isAgg23 hso rfl hp ?_)
      | (refine walk_bs1 _ rfl _ 45 23 rfl i0 Try.underlying45 hi _ hz0 2 hz1 rfl (by omega) (by omega) (cl x).toArray rfl hcs ?_)
      | (gi_at_builtin; refine wpListIn_append_own _ rfl _ _ 45 rfl w.heap.size 23 i0 _ 2 24 Try.underlying45 hi hz0 hz1 hz2 rfl (by decide) _ _ _ rfl (hrow.alloc _) ⟨W.heap.size, 0, none⟩ 1 1 (cl x) rfl (by rw [hlcl]) hcell hone (by omega) (by omega) (by simp; omega) ?_; intro v' w3 hown' hg3 hnil3
         have hv3 : w3.heap[w.heap.size]? = some (.cells #[v] 45 (0, 0)) := (hg3.block w.heap.size (by simp; omega) hne).trans ((Below.heap_alloc _ _ _ hBlt).trans hv)
         have hcv3 : w3.cell? ⟨w.heap.size, 0, none⟩ = some v := by simp [World.cell?, hv3]
         have hfv3 : w3.frozen? ⟨w.heap.size, 0, none⟩ = false := by simp [World.frozen?, hv3]
         obtain ⟨g', cap', cur', rfl, hg'⟩ : ∃ g' cap' cur', v' = .slice (some ⟨g', 0, none⟩) (pre.length + 1) cap' ∧ w3.heap[g']? = some (.cells cur' 23 (0, 0)) := by
           rcases hown'.2 with ⟨_, h0⟩ | ⟨g', cap', cur', e, _, q, _⟩
           · exact absurd h0 (by omega)
           · exact ⟨g', cap', cur', e, q⟩)
      | (rw [Oper.semAt_eq _ _ _ (fun c h => by cases h)]; go_simp; try go_bits))
    have hgs := grown_setCell w3 w.heap.size (.slice (some ⟨g', 0, none⟩) (pre.length + 1) cap')
    have hne2 : (Value.slice (some ⟨g', 0, none⟩) (pre.length + 1) cap').ownBlock ≠ some w.heap.size := by
      intro e
      have e' : g' = w.heap.size := by simpa [Value.ownBlock] using e
      subst e'
      rw [hv3] at hg'
      cases hg'
    have hrc : ∀ (j : Nat) (o : Obj), v.ownBlock = some j → (W.alloc (.cells (cl x).toArray 23)).heap[j]? = some o → o.isCells = true := by
      intro j o hj ho
      rcases (hrow.alloc (.cells (cl x).toArray 23)).2 with ⟨rfl, _⟩ | ⟨g, cap, cur, rfl, _, hgb, _⟩
      · simp [Value.ownBlock] at hj
      · have : g = j := by simpa [Value.ownBlock] using hj
        subst this; rw [hgb] at ho; cases ho; rfl
    have hb3 : Below w.heap.size w w3 := (hbel.alloc hbel.size _).grown hg3 (by have := hbel.size; simp; omega) (fun k e => (hrow.lt k e).1)
    refine ⟨((KeepsOthers.alloc W _).trans (KeepsOthers.of_grownBy hg3 hrc)).trans (KeepsOthers.setCell _ _ _), ⟨⟨_, heap_setCell_one _ hv3, ?_⟩, hb3.grown hgs hb3.size (fun k e => by cases e; exact Nat.le_refl _)⟩⟩
    rw [hfm, List.length_append, List.length_singleton]
    exact hown'.kept hgs (.inr hne2)
  · intro D xs W hD hS hI hK
    obtain ⟨⟨v, hv, hrow⟩, hbel⟩ := hI
    have hcv : W.cell? ⟨w.heap.size, 0, none⟩ = some v := by simp [World.cell?, hv]
    gi_wp2
    refine ⟨by simp, .inl ⟨_, _, rfl, run_takeDeferred hK, ?_⟩⟩
    have hgp := grownBy_putObj' W D (.deferred none)
    exact ⟨_, results_tmp rfl _ _ _, v, xs, rfl, hS, row_own hrow hgp (fun r e => by cases e; exact ⟨_, hK, rfl⟩), hbel.grown hgp hbel.size (fun k e => by cases e; omega)⟩
end Go.Proofs.Ytobopbjedojebaa

/- slices.Collect, slices.SortedFunc over maps.Keys at lighterman/api.End with lighterman/life.byEnd (printed by turnsort.py) -/
namespace Go.Proofs.Ytobopbjedojebaa
set_option linter.all false
open Go.RowKit Go.ChangeMaps Go.Sort Go.Shelf
set_option maxRecDepth 100000
abbrev encs (x : EndP) : List AV := [.str x.1, .int .i64 x.2]
theorem enflat (x : EndP) : flatC (encs x) = true := rfl
abbrev encl (x : EndP) : List Value := plainV (encs x)
theorem encl_len (x : EndP) : (encl x).length = 2 := rfl
theorem encmp (x y : EndP) (W : World) (hG : Glob W fun _ _ => False) : Calls Try.prog 45 #[.agg (encl x).toArray, .agg (encl y).toArray] W fun e w' => e = .returned (.int .i64 (cmpL endLt x y)) ∧ ∃ q os', w' = grow (W.drewN q) os' := by
  refine CP_grow (p_byEnd x y) hG (vs := [_, _]) rfl (fun i u c hu hc => ?_) (fun W' U' u h => by cases h; rfl)
  match i with
  | 0 => simp at hu hc; subst hu; subst hc; exact flat_VR (enflat x) _ _
  | 1 => simp at hu hc; subst hu; subst hc; exact flat_VR (enflat y) _ _
  | i + 2 => simp at hu
theorem encmpLays (blk off size : Nat) (w : World) {U : Nat → Nat → Prop} (hG : Glob w U) (hb : ∀ x ∈ globTabs, x.1 ≠ blk) : CmpLays Try.prog 45 #[] encl 2 (cmpL endLt) blk off size w := fun _ _ _ _ x y => encmp x y _ (glob_sort hG hb)
set_option maxHeartbeats 4000000 in
theorem ensorted (bx b : Nat) (es : Array MapEntry) (clk : Nat) (l : List EndP) (w : World) {U : Nat → Nat → Prop} (hG : Glob w U) (tb : TypeId) (hbx : w.heap[bx]? = some (.cells #[.map (some b)] tb (0, 0))) (hb : w.heap[b]? = some (.map es clk))
    (hval : es.toList.map (·.key) = l.map fun x => .agg (encl x).toArray) (hborn : ∀ x ∈ es.toList, x.born < clk) (hnd : (es.toList.map (·.born)).Nodup) (hl : l.length ≤ 1000000) :
    Calls Try.prog 43 #[.func (.func 67) #[] #[.pointer (some ⟨bx, 0, none⟩)], .func (.func 45) #[] #[]] w fun e W' =>
      ∃ (v : Value) (ds : List EndP), e = .returned v ∧ ds.Perm l ∧ (∀ i j, i < j → j < ds.length → endLt (ds.getD j default) (ds.getD i default) = false) ∧ W'.ownsRow w.heap.size 23 2 v ds.length (ds.flatMap encl) ∧ Below w.heap.size w W' := by
  have hcol : Calls Try.prog 65 #[.func (.func 67) #[] #[.pointer (some ⟨bx, 0, none⟩)]] w fun e W' =>
      ∃ (v : Value) (xs : List EndP), e = .returned v ∧ xs.Perm l ∧ W'.ownsRow w.heap.size 23 2 v xs.length (xs.flatMap encl) ∧ Below w.heap.size w W' := by
    have ha := callsIn_wide.1 (eva_app encl encl_len (fun x => plainV_one (enflat x)) Fence.wide 10 trivial trivial rfl (by omega) bx b es clk l w tb hbx hb hval hborn hnd hl)
    go_enter Try.func65, Try.ntmps65
    go_wp2_with (go_at_call 83; refine ha.mono ?_; rintro e W' ⟨v, xs, rfl, hp, hrow, hbl⟩)
    go_ret
    exact ⟨v, xs, rfl, hp, hrow, hbl⟩
  go_enter Try.func43, Try.ntmps43
  go_wp2_with (go_at_call 65; refine hcol.mono ?_; rintro e W' ⟨v, xs, rfl, hp, hrow, hbl⟩)
  rcases hrow.2 with ⟨rfl, hz⟩ | ⟨g, cap, cur, rfl, hbase, hgb, r1, r2, r3, r4⟩
  · have hss : xs = [] := List.eq_nil_of_length_eq_zero hz
    subst hss
    refine (AnyF.slices_SortFunc_none Try.sort66 none 0 _ W').mono ?_
    rintro e W2 ⟨rfl, rfl⟩
    go_wp2
    go_ret
    exact ⟨.slice none 0 0, [], rfl, hp, by simp, by simpa using hrow, hbl⟩
  · have hH := holdsK_of_block encl_len (by omega) hgb r4
    have hgl : g < W'.heap.size := (Array.getElem?_eq_some_iff.1 hgb).1
    have hsz : xs.toArray.size < 4611686018427387904 := by
      have := hp.length_eq
      simp; omega
    have hG' := glob_below hG hbl
    have hnt : ∀ x ∈ globTabs, x.1 ≠ g := fun x hx e => by have := hG.lt hx; omega
    have cS := AnyQ.slices_SortFunc Try.sort66 2 Try.isAgg23 Try.sizeOf23 encl encl_len (fun x => plainV_one (enflat x)) (cmpL endLt) endSTO.swo 45 #[] g 0 cap xs.toArray W' (enters_of Try.func45 (by kernel_rfl) rfl) (encmpLays _ _ _ _ hG' hnt) hH hgl hsz
    refine (show Calls Try.prog 66 #[.slice (some ⟨g, 0, none⟩) xs.length cap, _] W' _ from cS).mono ?_
    rintro e W2 ⟨rfl, d', nn, os, hperm, hsorted, rfl⟩
    have hpd : d'.toList.Perm xs := perm_of hperm
    have hown := ownsRow_sortK (n := nn) (os := os) encl_len (by omega) (hpd.length_eq) hbase hgb r1 r2 r3
    have hgr := grown_sortK (cl := encl) (k := 2) (w := W') (g := g) (n := nn) (os := os) d'
    simp only [Array.toArray_toList] at hown
    go_wp2
    go_ret
    refine ⟨_, d'.toList, rfl, hpd.trans hp, fun i j hij hj => ?_, ?_, hbl.grown hgr hbl.size (fun k e => by cases e; exact hbase)⟩
    · have hj' : j < xs.toArray.size := by rw [List.size_toArray, ← hpd.length_eq]; exact hj
      have h5 := hsorted i j (Nat.zero_le _) hij hj'
      rw [lt_cmpL] at h5
      have hds : d'.size = d'.toList.length := by simp
      have e1 : d'[i]! = d'.toList.getD i default := by simp [List.getD, getElem!_pos, show i < d'.size by omega]
      have e2 : d'[j]! = d'.toList.getD j default := by simp [List.getD, getElem!_pos, show j < d'.size by omega]
      rw [← e1, ← e2]; exact h5
    · rw [hpd.length_eq]; exact hown
theorem ent_Keys (m : Nat) : CT Try.prog 44 [.mapv m] (lk []) (fun r o => ∃ b, r = .clo 67 [.ptr b 0] ∧ o = lk [(b, [.mapv m])]) := by
  refine CT_lays (R := fun b => .clo _ [.ptr b 0]) fun W U vs hl hv => ?_
  obtain rfl : vs = [.map (some m)] := by
    match vs, hl with
    | [v], _ => rw [(hv 0 v _ rfl rfl).map_inv]
  go_enter Try.func44, Try.ntmps44
  go_wp2
  go_ret
  refine ⟨_, _, _, rfl, rfl, rfl, fun u hu => (by cases hu), fun j u hj => ?_, fun W2 U2 hc => ?_, by simp⟩
  · match j with
    | 0 =>
      simp at hj; subst hj
      exact ⟨rfl, fun x hx => by simp at hx; subst hx; exact ⟨.mapv m, by simp⟩⟩
    | j + 1 => simp at hj
  · refine .clo _ [_] [_] rfl fun i v c h1 h2 => ?_
    match i with
    | 0 => simp at h1 h2; subst h1; subst h2; exact .ptr _ _ hc
    | i + 1 => simp at h1
theorem ent_Sorted (bx m : Nat) (h1 : ¬ bx = m) (l : List EndP) (vals : List AV) (ha : l.Nodup) (hl : l.length ≤ 1000) :
    CT Try.prog 43 [.clo 67 [.ptr bx 0], .fn 45] (lk [(bx, [.mapv m]), (m, [.mp (l.map fun x => .agg (encs x)) vals (List.range l.length) l.length])])
      (fun r o => r = .sl (some 23) 2 ((srtL endLt l).map encs) ∧ o = lk [(bx, [.mapv m]), (m, [.mp (l.map fun x => .agg (encs x)) vals (List.range l.length) l.length])]) := by
  refine CT_reads fun W U vs hG hlen hv ho => ?_
  obtain rfl : vs = [.func (.func 67) #[] #[.pointer (some ⟨bx, 0, none⟩)], .func (.func 45) #[] #[]] := by
    match vs, hlen with
    | [v, u], _ => rw [(hv 0 v _ rfl rfl).clo1_inv, (hv 1 u _ rfl rfl).fn_inv]
  obtain ⟨us, ty, q1, q2, q3⟩ : ObC W U bx [.mapv m] := ho bx _ (lk_hd _ _ _)
  obtain ⟨es, g1, g2, g3, g4, g5, g6, g7⟩ : ObR W U m [.mp (l.map fun x => .agg (encs x)) vals (List.range l.length) l.length] := ho m _ (lk_tl (fun e => h1 e.symm) (lk_hd _ _ _))
  have hus : us = #[.map (some m)] := by
    have h0 := (q3 0 _ rfl).1.map_inv
    match us, q2 with
    | ⟨[a]⟩, _ => simp at h0; subst h0; rfl
  subst hus
  have hsz : es.size = l.length := by rw [g2]; simp
  have hborn : ∀ (i : Nat) (e : MapEntry), es[i]? = some e → e.born = i := by
    intro i e he
    have hi : i < es.size := (Array.getElem?_eq_some_iff.1 he).1
    exact (g7 i e he).2.2 i (by rw [List.getElem?_range (by omega)])
  have hval : es.toList.map (·.key) = l.map fun x => .agg (encl x).toArray := by
    apply List.ext_getElem?
    intro i
    by_cases hi : i < es.size
    · have hil : i < l.length := by omega
      have he : es[i]? = some es[i] := Array.getElem?_eq_getElem hi
      have hx := (g7 i _ he).1 (.agg (encs l[i])) (by simp [List.getElem?_eq_getElem hil])
      simp only [List.getElem?_map, Array.getElem?_toList, he, Option.map_some, List.getElem?_eq_getElem hil]
      rw [flat_inv (enflat _) hx]
    · rw [List.getElem?_eq_none (by simp; omega), List.getElem?_eq_none (by simp; omega)]
  have hb1 : ∀ x ∈ es.toList, x.born < l.length := by
    intro x hx
    obtain ⟨i, hi, rfl⟩ := List.getElem_of_mem hx
    simp at hi
    have := hborn i es[i] (Array.getElem?_eq_getElem hi)
    simp [this]; omega
  have hnd : (es.toList.map (·.born)).Nodup := by
    have : es.toList.map (·.born) = List.range es.size := by
      apply List.ext_getElem
      · simp
      · intro i h2 h3
        simp at h2
        simp [hborn i es[i] (Array.getElem?_eq_getElem h2)]
    rw [this]; exact List.nodup_range
  refine (ensorted bx m es _ l W hG _ q1 g1 hval hb1 hnd (by omega)).mono ?_
  rintro e W' ⟨v, ds, rfl, hp, hs, hrow, hbl⟩
  have hDS : srtL endLt l = ds := rise_unique endSTO (srtL_rise endSTO ha) (rise_of endSTO hs (hp.nodup_iff.2 ha)) ((srtL_perm _ _).trans hp.symm)
  rw [hDS]
  obtain ⟨U', r1, r2, r3⟩ := row_VR (U := U) (e := 23) (k := 2) (els := ds.map encs) (by omega) hbl hrow (by simp) (fun l hl => by
      simp only [List.mem_map] at hl
      obtain ⟨a, _, rfl⟩ := hl
      rfl) (fun u hu => by
      obtain ⟨x, _, hx⟩ := List.mem_flatMap.1 hu
      exact plainV_one (enflat x) u hx) (fun i j l' c u hl' hc hu W2 U2 => by
      simp only [List.getElem?_map, Option.map_eq_some_iff] at hl'
      obtain ⟨x, hx, rfl⟩ := hl'
      have hj : j < 2 := (List.getElem?_eq_some_iff.1 hc).1
      have hi : i < ds.length := (List.getElem?_eq_some_iff.1 hx).1
      rw [flat_getD encl_len ds i j hi hj, hx] at hu
      exact (plainV_get _ (enflat x) j c u hc hu).1 W2 U2)
  exact ⟨v, U', rfl, r1, fun e sz els he => by cases he; exact r2, r3⟩
end Go.Proofs.Ytobopbjedojebaa

/- life: Keys, Closed -/
namespace Go.Proofs.Ytobopbjedojebaa
set_option linter.all false
open Go.RowKit
set_option maxRecDepth 100000
def keysS (t : Tb) : List KeyC := srtL keyLt (t.K.map (·.1))
def closS (t : Tb) : List EndP := srtL endLt t.C
theorem h_KeyS (bx m : Nat) (h1 : ¬ bx = m) (t : Tb) (hN : (t.K.map (·.1)).Nodup) (hl : t.K.length ≤ 1000) :
    CT Try.prog 36 [.clo 61 [.ptr bx 0], .fn 38] (lk [(bx, [.mapv m]), (m, [mpK t.K])])
      (fun r o => r = .sl (some 37) 4 ((keysS t).map KeyC.cs) ∧ o = lk [(bx, [.mapv m]), (m, [mpK t.K])]) := by
  have h := kyt_Sorted bx m h1 (t.K.map (·.1)) (tv t.K) hN (by simpa using hl)
  rw [List.length_map] at h
  exact h
theorem h_EndS (bx m : Nat) (h1 : ¬ bx = m) (t : Tb) (hN : t.C.Nodup) (hl : t.C.length ≤ 1000) :
    CT Try.prog 43 [.clo 67 [.ptr bx 0], .fn 45] (lk [(bx, [.mapv m]), (m, [mpC t.C])])
      (fun r o => r = .sl (some 23) 2 ((closS t).map fun e => [.str e.1, .int .i64 e.2]) ∧ o = lk [(bx, [.mapv m]), (m, [mpC t.C])]) :=
  ent_Sorted bx m h1 t.C (List.replicate t.C.length (.int .i64 1)) hN hl
theorem t_Keys (c m n : Nat) (hh : (¬ c = m ∧ ¬ m = c) ∧ (¬ c = n ∧ ¬ n = c) ∧ ¬ m = n ∧ ¬ n = m) (t : Tb) (hN : (t.K.map (·.1)).Nodup) (hl : t.K.length ≤ 1000) :
    CT Try.prog 13 [.ptr c 0] (lk (tabO c m n t)) (fun r o => r = .sl (some 37) 4 ((keysS t).map KeyC.cs) ∧ o = lk (tabO c m n t)) := by
  have hS := fun bx (h : ¬ bx = m) => h_KeyS bx m h t hN hl
  clear hN hl
  refine okt_life_Table_Keys _ _ _ (by simp) ?_
  simp only [c_life_Table_Keys, hh, ↓Ed, Eu, ↓reduceIte, reduceCtorEq, Nat.reduceAdd, Nat.reduceEqDiff, Nat.reduceLT, Nat.reduceLeDiff, Int.reduceToNat, Int.reduceEq, Int.reduceLT, Int.reduceLE, w64, List.length_append, List.length_map, Nat.mul_one, beq_self_eq_true, PktC.cs, EvC.cs, EntC.cs, KeyC.cs, st_nil, Int.reduceAdd]
  repeat' ((first | refine CallO_newR (R := fun b => .clo _ [.ptr b 0]) (kyt_Keys m) ?_ | refine NewB_intro0 (fun b => ?_) | (refine NewB_intro (fun b hb => ?_); simp only [ln_cons2, ln_nil, and_true] at hb) | (with_reducible apply And.intro; (focus (first | omega | (simp only [Fact, Bool.not_eq_true', Bool.not_eq_false', decide_eq_true_eq, decide_eq_false_iff_not] at *; omega)))) | ((first | refine gW_sp ?_ | refine condW_sp ?_ | refine pickW_sp ?_); (try refine Sp_n ?_); (first | refine Sp_t (by assumption) ?_ | refine Sp_f (by assumption) ?_ | refine Sp_split (fun h => ?_) (fun h => ?_)) <;> (first | have h' := Fact_lt h | have h' := Fact_nlt h | have h' := Fact_le h | have h' := Fact_nle h | skip) <;> (try (exfalso; omega))) | refine TreeW_intro (by rfl) ?_ | refine TreeW_all ?_ | refine upQ_intro ?_ | refine Two_intro ?_ ?_ | (refine leK_lit ?_; (simp [-List.getD_eq_getElem?_getD, LeL, lk, *]; done)) | (refine leK_dd ?_; (simp [-List.getD_eq_getElem?_getD, LeS, LeL, lk, *]; done)) | (simp only [Fact, Bool.not_eq_true', Bool.not_eq_false', decide_eq_true_eq, decide_eq_false_iff_not] at *; refine leK_dd ?_; (simp [-List.getD_eq_getElem?_getD, LeS, LeL, lk, *]; done)) | (show (_ : Nat) ≤ _; omega)) <;> (try simp (disch := omega) only [*, ↓Ed, Eu, ↓reduceIte, reduceCtorEq, Nat.reduceAdd, Nat.reduceEqDiff, Nat.reduceLT, Nat.reduceLeDiff, Int.reduceToNat, Int.reduceEq, Int.reduceLT, Int.reduceLE, w64, List.length_append, List.length_map, Nat.mul_one, beq_self_eq_true, PktC.cs, EvC.cs, EntC.cs, KeyC.cs, st_nil, Int.reduceAdd]))
  have hb' : (¬b = c ∧ ¬c = b) ∧ (¬b = m ∧ ¬m = b) ∧ ¬b = n ∧ ¬n = b := by simpa using hb
  refine CallO_det (hS b hb'.2.1.1) (lk_sub2 (lk_hd _ _ _) (lk_tl hb'.2.1.2 (lk_tl hh.1.2 (lk_hd _ _ _)))) ?_
  simp (disch := omega) only [hb', hh, ↓Ed, Eu, ↓reduceIte, reduceCtorEq, Nat.reduceAdd, Nat.reduceEqDiff, Nat.reduceLT, Nat.reduceLeDiff, Int.reduceToNat, Int.reduceEq, Int.reduceLT, Int.reduceLE, w64, List.length_append, List.length_map, Nat.mul_one, beq_self_eq_true, PktC.cs, EvC.cs, EntC.cs, KeyC.cs, st_nil, Int.reduceAdd]
  repeat' ((first | refine NewB_intro0 (fun b => ?_) | (refine NewB_intro (fun b hb => ?_); simp only [ln_cons2, ln_nil, and_true] at hb) | (with_reducible apply And.intro; (focus (first | omega | (simp only [Fact, Bool.not_eq_true', Bool.not_eq_false', decide_eq_true_eq, decide_eq_false_iff_not] at *; omega)))) | ((first | refine gW_sp ?_ | refine condW_sp ?_ | refine pickW_sp ?_); (try refine Sp_n ?_); (first | refine Sp_t (by assumption) ?_ | refine Sp_f (by assumption) ?_ | refine Sp_split (fun h => ?_) (fun h => ?_)) <;> (first | have h' := Fact_lt h | have h' := Fact_nlt h | have h' := Fact_le h | have h' := Fact_nle h | skip) <;> (try (exfalso; omega))) | refine TreeW_intro (by rfl) ?_ | refine TreeW_all ?_ | refine upQ_intro ?_ | refine Two_intro ?_ ?_ | (refine leK_lit ?_; (simp [-List.getD_eq_getElem?_getD, LeL, lk, *]; done)) | (refine leK_dd ?_; (simp [-List.getD_eq_getElem?_getD, LeS, LeL, lk, *]; done)) | (simp only [Fact, Bool.not_eq_true', Bool.not_eq_false', decide_eq_true_eq, decide_eq_false_iff_not] at *; refine leK_dd ?_; (simp [-List.getD_eq_getElem?_getD, LeS, LeL, lk, *]; done)) | (show (_ : Nat) ≤ _; omega)) <;> (try simp (disch := omega) only [*, ↓Ed, Eu, ↓reduceIte, reduceCtorEq, Nat.reduceAdd, Nat.reduceEqDiff, Nat.reduceLT, Nat.reduceLeDiff, Int.reduceToNat, Int.reduceEq, Int.reduceLT, Int.reduceLE, w64, List.length_append, List.length_map, Nat.mul_one, beq_self_eq_true, PktC.cs, EvC.cs, EntC.cs, KeyC.cs, st_nil, Int.reduceAdd]))
  exact ro_mk (by simp [LeL, lk, hh, hb', resR, arR]) dom3
theorem t_Closed (c m n : Nat) (hh : (¬ c = m ∧ ¬ m = c) ∧ (¬ c = n ∧ ¬ n = c) ∧ ¬ m = n ∧ ¬ n = m) (t : Tb) (hN : t.C.Nodup) (hl : t.C.length ≤ 1000) :
    CT Try.prog 21 [.ptr c 0] (lk (tabO c m n t)) (fun r o => r = .sl (some 23) 2 ((closS t).map fun e => [.str e.1, .int .i64 e.2]) ∧ o = lk (tabO c m n t)) := by
  have hS := fun bx (h : ¬ bx = n) => h_EndS bx n h t hN hl
  clear hN hl
  refine okt_life_Table_Closed _ _ _ (by simp) ?_
  simp only [c_life_Table_Closed, hh, ↓Ed, Eu, ↓reduceIte, reduceCtorEq, Nat.reduceAdd, Nat.reduceEqDiff, Nat.reduceLT, Nat.reduceLeDiff, Int.reduceToNat, Int.reduceEq, Int.reduceLT, Int.reduceLE, w64, List.length_append, List.length_map, Nat.mul_one, beq_self_eq_true, PktC.cs, EvC.cs, EntC.cs, KeyC.cs, st_nil, Int.reduceAdd]
  repeat' ((first | refine CallO_newR (R := fun b => .clo _ [.ptr b 0]) (ent_Keys n) ?_ | refine NewB_intro0 (fun b => ?_) | (refine NewB_intro (fun b hb => ?_); simp only [ln_cons2, ln_nil, and_true] at hb) | (with_reducible apply And.intro; (focus (first | omega | (simp only [Fact, Bool.not_eq_true', Bool.not_eq_false', decide_eq_true_eq, decide_eq_false_iff_not] at *; omega)))) | ((first | refine gW_sp ?_ | refine condW_sp ?_ | refine pickW_sp ?_); (try refine Sp_n ?_); (first | refine Sp_t (by assumption) ?_ | refine Sp_f (by assumption) ?_ | refine Sp_split (fun h => ?_) (fun h => ?_)) <;> (first | have h' := Fact_lt h | have h' := Fact_nlt h | have h' := Fact_le h | have h' := Fact_nle h | skip) <;> (try (exfalso; omega))) | refine TreeW_intro (by rfl) ?_ | refine TreeW_all ?_ | refine upQ_intro ?_ | refine Two_intro ?_ ?_ | (refine leK_lit ?_; (simp [-List.getD_eq_getElem?_getD, LeL, lk, *]; done)) | (refine leK_dd ?_; (simp [-List.getD_eq_getElem?_getD, LeS, LeL, lk, *]; done)) | (simp only [Fact, Bool.not_eq_true', Bool.not_eq_false', decide_eq_true_eq, decide_eq_false_iff_not] at *; refine leK_dd ?_; (simp [-List.getD_eq_getElem?_getD, LeS, LeL, lk, *]; done)) | (show (_ : Nat) ≤ _; omega)) <;> (try simp (disch := omega) only [*, ↓Ed, Eu, ↓reduceIte, reduceCtorEq, Nat.reduceAdd, Nat.reduceEqDiff, Nat.reduceLT, Nat.reduceLeDiff, Int.reduceToNat, Int.reduceEq, Int.reduceLT, Int.reduceLE, w64, List.length_append, List.length_map, Nat.mul_one, beq_self_eq_true, PktC.cs, EvC.cs, EntC.cs, KeyC.cs, st_nil, Int.reduceAdd]))
  have hb' : (¬b = c ∧ ¬c = b) ∧ (¬b = m ∧ ¬m = b) ∧ ¬b = n ∧ ¬n = b := by simpa using hb
  refine CallO_det (hS b hb'.2.2.1) (lk_sub2 (lk_hd _ _ _) (lk_tl hb'.2.2.2 (lk_tl hh.2.1.2 (lk_tl hh.2.2.2 (lk_hd _ _ _))))) ?_
  simp (disch := omega) only [hb', hh, ↓Ed, Eu, ↓reduceIte, reduceCtorEq, Nat.reduceAdd, Nat.reduceEqDiff, Nat.reduceLT, Nat.reduceLeDiff, Int.reduceToNat, Int.reduceEq, Int.reduceLT, Int.reduceLE, w64, List.length_append, List.length_map, Nat.mul_one, beq_self_eq_true, PktC.cs, EvC.cs, EntC.cs, KeyC.cs, st_nil, Int.reduceAdd]
  repeat' ((first | refine NewB_intro0 (fun b => ?_) | (refine NewB_intro (fun b hb => ?_); simp only [ln_cons2, ln_nil, and_true] at hb) | (with_reducible apply And.intro; (focus (first | omega | (simp only [Fact, Bool.not_eq_true', Bool.not_eq_false', decide_eq_true_eq, decide_eq_false_iff_not] at *; omega)))) | ((first | refine gW_sp ?_ | refine condW_sp ?_ | refine pickW_sp ?_); (try refine Sp_n ?_); (first | refine Sp_t (by assumption) ?_ | refine Sp_f (by assumption) ?_ | refine Sp_split (fun h => ?_) (fun h => ?_)) <;> (first | have h' := Fact_lt h | have h' := Fact_nlt h | have h' := Fact_le h | have h' := Fact_nle h | skip) <;> (try (exfalso; omega))) | refine TreeW_intro (by rfl) ?_ | refine TreeW_all ?_ | refine upQ_intro ?_ | refine Two_intro ?_ ?_ | (refine leK_lit ?_; (simp [-List.getD_eq_getElem?_getD, LeL, lk, *]; done)) | (refine leK_dd ?_; (simp [-List.getD_eq_getElem?_getD, LeS, LeL, lk, *]; done)) | (simp only [Fact, Bool.not_eq_true', Bool.not_eq_false', decide_eq_true_eq, decide_eq_false_iff_not] at *; refine leK_dd ?_; (simp [-List.getD_eq_getElem?_getD, LeS, LeL, lk, *]; done)) | (show (_ : Nat) ≤ _; omega)) <;> (try simp (disch := omega) only [*, ↓Ed, Eu, ↓reduceIte, reduceCtorEq, Nat.reduceAdd, Nat.reduceEqDiff, Nat.reduceLT, Nat.reduceLeDiff, Int.reduceToNat, Int.reduceEq, Int.reduceLT, Int.reduceLE, w64, List.length_append, List.length_map, Nat.mul_one, beq_self_eq_true, PktC.cs, EvC.cs, EntC.cs, KeyC.cs, st_nil, Int.reduceAdd]))
  exact ro_mk (by simp [LeL, lk, hh, hb', resR, arR]) dom3
end Go.Proofs.Ytobopbjedojebaa

/- what became of packets: plain laws: folding keeps tables good; parts that are apart; which keys a table has -/
namespace Go.Proofs.Ytobopbjedojebaa
set_option linter.all false
open Go.RowKit
noncomputable def foldL (t : Tb) (l : List EvC) : Tb := l.foldl (fun t e => (foldT t e).1) t
theorem foldL_nil (t : Tb) : foldL t [] = t := rfl
theorem foldL_snoc (t : Tb) (l : List EvC) (e : EvC) : foldL t (l ++ [e]) = (foldT (foldL t l) e).1 := by simp [foldL]
noncomputable def ownP (e : EvC) : EndP := ((ownE e).1, (ownE e).2.1)
noncomputable def ownOk (e : EvC) : Bool := (ownE e).2.2.2
structure Tgood (n : Nat) (t : Tb) : Prop where
  k : (t.K.map (·.1)).Nodup
  c : t.C.Nodup
  lk : t.K.length ≤ n
  lc : t.C.length ≤ n
theorem Tgood.mono {n m : Nat} {t : Tb} (h : Tgood n t) (hm : n ≤ m) : Tgood m t := ⟨h.k, h.c, Nat.le_trans h.lk hm, Nat.le_trans h.lc hm⟩
theorem tgood0 : Tgood 0 ⟨[], []⟩ := ⟨List.nodup_nil, List.nodup_nil, Nat.le_refl _, Nat.le_refl _⟩
theorem setE_keys (l : List (KeyC × EntC)) (k : KeyC) (y : EntC) : (setE l k y).map (·.1) = l.map (·.1) := by
  simp only [setE, List.map_map]
  congr 1; funext x; simp only [Function.comp]; split <;> simp_all
/-- What folding may come to. -/
theorem foldT_cases (t : Tb) (e : EvC) : (∃ n, foldT t e = (t, n) ∧ n ≠ 0) ∨ (e.k = 7 ∧ foldT t e = (t, 0)) ∨
    (mayE e = true ∧ e.k = 6 ∧ ((e.e, e.ec) : EndP) ∉ t.C ∧ foldT t e = (⟨t.K, t.C ++ [(e.e, e.ec)]⟩, 0)) ∨
    (mayE e = true ∧ e.k ≠ 6 ∧ e.k ≠ 7 ∧ findE t.K (keyE e) = none ∧ foldT t e = (⟨t.K ++ [(keyE e, markE (ent0 e.p) e)], t.C⟩, 0)) ∨
    (∃ x, mayE e = true ∧ e.k ≠ 6 ∧ e.k ≠ 7 ∧ findE t.K (keyE e) = some x ∧ x.p = e.p ∧ marked x e.k = false ∧ lateE x e.k = false ∧ foldT t e = (⟨setE t.K (keyE e) (markE x e), t.C⟩, 0)) := by
  unfold foldT
  by_cases hm : mayE e = false
  · rw [if_pos hm]; exact .inl ⟨1, rfl, by decide⟩
  rw [if_neg hm]
  have hm' : mayE e = true := by simpa using hm
  by_cases h7 : e.k = 7
  · rw [if_pos h7]; exact .inr (.inl ⟨h7, rfl⟩)
  rw [if_neg h7]
  by_cases h6 : e.k = 6
  · rw [if_pos h6]
    split
    · exact .inl ⟨8, rfl, by decide⟩
    · rename_i hc
      exact .inr (.inr (.inl ⟨hm', h6, hc, rfl⟩))
  rw [if_neg h6]
  cases hf : findE t.K (keyE e) with
  | none => exact .inr (.inr (.inr (.inl ⟨hm', h6, h7, rfl, rfl⟩)))
  | some x =>
    simp only
    by_cases h1 : ¬ x.p = e.p
    · rw [if_pos h1]; exact .inl ⟨3, rfl, by decide⟩
    rw [if_neg h1]
    by_cases h2 : marked x e.k = true
    · rw [if_pos h2]; exact .inl ⟨8, rfl, by decide⟩
    rw [if_neg h2]
    by_cases h3 : lateE x e.k = true
    · rw [if_pos h3]; exact .inl ⟨16, rfl, by decide⟩
    rw [if_neg h3]
    exact .inr (.inr (.inr (.inr ⟨x, hm', h6, h7, rfl, by simpa using h1, by simpa using h2, by simpa using h3, rfl⟩)))
theorem nodup_snoc {α : Type} {l : List α} {x : α} (h : l.Nodup) (hn : x ∉ l) : (l ++ [x]).Nodup :=
  List.nodup_append.2 ⟨h, by simp, fun a ha b hb => by simp at hb; subst hb; intro e; subst e; exact hn ha⟩
theorem fold_good {n : Nat} {t : Tb} (h : Tgood n t) (e : EvC) : Tgood (n + 1) (foldT t e).1 := by
  have h' := h.mono (Nat.le_succ n)
  rcases foldT_cases t e with ⟨m, g, _⟩ | ⟨_, g⟩ | ⟨_, _, hc, g⟩ | ⟨_, _, _, hf, g⟩ | ⟨x, _, _, _, _, _, _, _, g⟩ <;> rw [g]
  · exact h'
  · exact h'
  · exact ⟨h.k, nodup_snoc h.c hc, h'.lk, by simp; exact h.lc⟩
  · refine ⟨?_, h.c, by simp; exact h.lk, h'.lc⟩
    simp only [List.map_append, List.map_cons, List.map_nil]
    refine nodup_snoc h.k fun hm => ?_
    obtain ⟨y, hy, e1⟩ := List.mem_map.1 hm
    exact findE_none hf y hy e1
  · exact ⟨by simp only [setE_keys]; exact h.k, h.c, by simp only [setE, List.length_map]; exact h'.lk, h'.lc⟩
theorem foldL_good {n : Nat} {t : Tb} (h : Tgood n t) : ∀ l : List EvC, Tgood (n + l.length) (foldL t l) := by
  intro l
  induction l generalizing n t with
  | nil => exact h
  | cons e l ih =>
    have := ih (fold_good h e)
    rw [List.length_cons, show n + (l.length + 1) = n + 1 + l.length by omega]
    exact this
/-! ends of a table -/
def EndsIn (p : EndP → Prop) (t : Tb) : Prop := (∀ x ∈ t.K, p x.1.en) ∧ ∀ c ∈ t.C, p c
theorem key_en (e : EvC) : (keyE e).en = ownP e := rfl
theorem own_of {e : EvC} (hm : mayE e = true) (h7 : e.k ≠ 7) (hr : 1 ≤ e.k ∧ e.k ≤ 7) : ownOk e = true := by
  unfold ownOk ownE
  rw [if_pos hm]
  split
  · rfl
  · split
    · rfl
    · split
      · rfl
      · omega
theorem mayE_range {e : EvC} (h : mayE e = true) : 1 ≤ e.k ∧ e.k ≤ 7 := by
  simp only [mayE, Bool.and_eq_true, decide_eq_true_eq] at h; exact h.1.1
theorem own_6 {e : EvC} (hm : mayE e = true) (h6 : e.k = 6) : ownP e = (e.e, e.ec) := by
  unfold ownP ownE; rw [if_pos hm, if_neg (by omega), if_neg (by omega), if_pos h6]
theorem ends_fold {p : EndP → Prop} {t : Tb} (h : EndsIn p t) {e : EvC} (he : ownOk e = true → p (ownP e)) : EndsIn p (foldT t e).1 := by
  rcases foldT_cases t e with ⟨m, g, _⟩ | ⟨_, g⟩ | ⟨hm, h6, hc, g⟩ | ⟨hm, h6, h7, hf, g⟩ | ⟨x, hm, h6, h7, hf, _, _, _, g⟩ <;> rw [g]
  · exact h
  · exact h
  · refine ⟨h.1, fun c hc => ?_⟩
    rcases List.mem_append.1 hc with hc | hc
    · exact h.2 c hc
    · simp at hc; subst hc
      rw [← own_6 hm h6]; exact he (own_of hm (by omega) (mayE_range hm))
  · refine ⟨fun x hx => ?_, h.2⟩
    rcases List.mem_append.1 hx with hx | hx
    · exact h.1 x hx
    · simp at hx; subst hx
      exact he (own_of hm h7 (mayE_range hm))
  · refine ⟨fun y hy => ?_, h.2⟩
    simp only [setE, List.mem_map] at hy
    obtain ⟨z, hz, rfl⟩ := hy
    split
    · exact he (own_of hm h7 (mayE_range hm))
    · exact h.1 z hz
theorem ends_foldL {p : EndP → Prop} : ∀ {l : List EvC} {t : Tb}, EndsIn p t → (∀ e ∈ l, ownOk e = true → p (ownP e)) → EndsIn p (foldL t l)
  | [], _, h, _ => h
  | e :: l, t, h, he => ends_foldL (l := l) (ends_fold h (he e (by simp))) fun x hx => he x (by simp [hx])
/-! parts that are apart -/
def Tb.app (a b : Tb) : Tb := ⟨a.K ++ b.K, a.C ++ b.C⟩
theorem find_app {A B : List (KeyC × EntC)} {k : KeyC} (h : ∀ x ∈ A, x.1 ≠ k) : findE (A ++ B) k = findE B k := by
  unfold findE
  rw [List.find?_append, List.find?_eq_none.2 (fun x hx => by simp [h x hx])]
  rfl
theorem set_app {A B : List (KeyC × EntC)} {k : KeyC} {y : EntC} (h : ∀ x ∈ A, x.1 ≠ k) : setE (A ++ B) k y = A ++ setE B k y := by
  simp only [setE, List.map_append]
  congr 1
  refine (List.map_congr_left fun x hx => ?_).trans (List.map_id A)
  rw [if_neg (h x hx)]; rfl
theorem fold_app {a b : Tb} {e : EvC} (h : ownOk e = true → EndsIn (· ≠ ownP e) a) : foldT (a.app b) e = (a.app (foldT b e).1, (foldT b e).2) := by
  unfold foldT
  by_cases hm : mayE e = false
  · rw [if_pos hm, if_pos hm]
  rw [if_neg hm, if_neg hm]
  have hm' : mayE e = true := by simpa using hm
  by_cases h7 : e.k = 7
  · rw [if_pos h7, if_pos h7]
  rw [if_neg h7, if_neg h7]
  have hE := h (own_of hm' h7 (mayE_range hm'))
  by_cases h6 : e.k = 6
  · rw [if_pos h6, if_pos h6]
    have hc : ((e.e, e.ec) : EndP) ∈ (a.app b).C ↔ ((e.e, e.ec) : EndP) ∈ b.C := by
      simp only [Tb.app, List.mem_append]
      refine ⟨fun h => h.resolve_left fun h1 => ?_, .inr⟩
      exact hE.2 _ h1 (own_6 hm' h6).symm
    by_cases hc' : ((e.e, e.ec) : EndP) ∈ b.C
    · rw [if_pos (hc.2 hc'), if_pos hc']
    · rw [if_neg (fun h => hc' (hc.1 h)), if_neg hc']
      simp [Tb.app]
  rw [if_neg h6, if_neg h6]
  have hk : ∀ x ∈ a.K, x.1 ≠ keyE e := fun x hx e1 => hE.1 x hx (by rw [e1]; rfl)
  have hf : findE (a.app b).K (keyE e) = findE b.K (keyE e) := find_app hk
  rw [hf]
  cases hx : findE b.K (keyE e) with
  | none => simp [Tb.app]
  | some x =>
    simp only
    split
    · rfl
    · split
      · rfl
      · split
        · rfl
        · simp only [Tb.app]; rw [set_app hk]
theorem foldL_app {a : Tb} : ∀ {l : List EvC} {b : Tb}, (∀ e ∈ l, ownOk e = true → EndsIn (· ≠ ownP e) a) → foldL (a.app b) l = a.app (foldL b l)
  | [], _, _ => rfl
  | e :: l, b, h => by
    show foldL (foldT (a.app b) e).1 l = a.app (foldL (foldT b e).1 l)
    rw [fold_app (h e (by simp))]
    exact foldL_app fun x hx => h x (by simp [hx])
theorem app_nil (a : Tb) : a.app ⟨[], []⟩ = a := by simp [Tb.app]
theorem find_mem {l : List (KeyC × EntC)} (hN : (l.map (·.1)).Nodup) {k : KeyC} {x : EntC} : findE l k = some x ↔ (k, x) ∈ l := by
  induction l with
  | nil => simp [findE]
  | cons y l ih =>
    obtain ⟨h1, h2⟩ := List.nodup_cons.1 hN
    by_cases hy : y.1 = k
    · subst hy
      have : findE (y :: l) y.1 = some y.2 := by simp [findE]
      rw [this]
      constructor
      · intro e; cases e; exact List.mem_cons_self ..
      · intro e
        rcases List.mem_cons.1 e with e | e
        · rw [← e]
        · exact absurd (List.mem_map.2 ⟨_, e, rfl⟩) h1
    · have : findE (y :: l) k = findE l k := by simp [findE, hy]
      rw [this, ih h2, List.mem_cons]
      refine ⟨.inr, fun h => h.resolve_left fun e => hy (by rw [← e])⟩
theorem find_perm {A B : List (KeyC × EntC)} (hp : A.Perm B) (hN : (A.map (·.1)).Nodup) (k : KeyC) : findE A k = findE B k := by
  have hB : (B.map (·.1)).Nodup := (hp.map _).nodup_iff.1 hN
  cases h : findE B k with
  | none =>
    cases h2 : findE A k with
    | none => rfl
    | some x =>
      have := (find_mem hB).2 (hp.mem_iff.1 ((find_mem hN).1 h2))
      rw [h] at this; cases this
  | some x => exact (find_mem hN).2 (hp.mem_iff.2 ((find_mem hB).1 h))
theorem app_perm (a b : Tb) : (a.app b).K.Perm (b.app a).K := List.perm_append_comm
end Go.Proofs.Ytobopbjedojebaa
