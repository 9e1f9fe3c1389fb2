import Derived.Test.YtlefegihikpilaaK9
import Derived.Shelf.SlSortCmp.NoneTotal
/- maps.Values of a map of headers; slices.AppendSeq, Collect, SortedFunc over it -/
namespace Go.Proofs.Ytlefegihikpilaa
set_option linter.all false
open Go.RowKit Go.ChangeMaps Go.Sort Go.Shelf
set_option maxRecDepth 100000 in
set_option maxHeartbeats 4000000 in
theorem va_iter {α : Type} [Inhabited α] (cl : α → List Value) (hcl : ∀ x, (cl x).length = 34) (h1 : ∀ x, ∀ u ∈ cl x, u.oneCell' = true) (F : Fence) (n : Nat) (hf : F.fn 76) (hro : F.round = none) (hn : 1 ≤ n)
    (bx b : Nat) (es : Array MapEntry) (clk : Nat) (l : List α) (w : World) (tb : TypeId) (hbx : w.heap[bx]? = some (.cells #[.map (some b)] tb (0, 0))) (hb : w.heap[b]? = some (.map es clk))
    (hval : es.toList.map (·.val) = l.map fun x => .agg (cl x).toArray) (hborn : ∀ x ∈ es.toList, x.born < clk) (hnd : (es.toList.map (·.born)).Nodup) :
    SeqStops F n Try.prog 76 #[.pointer (some ⟨bx, 0, none⟩)] (fun x => .agg (cl x).toArray) (fun xs => xs.Perm l) (fun _ => True) l.length w := by
  intro lp J Jx W hW hJ hJx hY h0
  have hbxl : bx < w.heap.size := (Array.getElem?_eq_some_iff.1 hbx).1
  have hbl : b < w.heap.size := (Array.getElem?_eq_some_iff.1 hb).1
  have hbx1 : W.heap[bx]? = some (.cells #[.map (some b)] tb (0, 0)) := (hW.block bx hbxl).trans hbx
  have hb1 : W.heap[b]? = some (.map es clk) := (hW.block b hbl).trans hb
  have hc1 : W.cell? ⟨bx, 0, none⟩ = some (.map (some b)) := by simp [World.cell?, hbx1]
  have hsz := hW.size
  refine callsIn_of_wp Try.func76 rfl hf ?_ hro
  simp only [Try.ntmps76, List.size_toArray, List.length_cons, List.length_nil, Nat.reduceAdd, Nat.reduceSub, Array.replicate_succ, Array.replicate_zero, List.push_toArray, List.append_toArray, List.nil_append, List.cons_append]
  gi_wp2_with (first
    | (gi_at_range; refine walk_range _ rfl _ _ rfl _ _ Try.underlying94 b es clk rfl hb1 ?_)
    | gi_in)
  gi_loopw [4] (fun _ wr => ∃ (seen : Array Nat) (is : List Nat), wr.heap[W.heap.size]? = some (.mapIter (some b) clk seen clk) ∧ wr.heap[b]? = some (.map es clk) ∧ W.heap.size ≤ wr.heap.size ∧ Came es seen is ∧ J (is.map fun i => l.getD i default) wr)
    (fun _ wr => es.size - seenN wr W.heap.size)
  case atStart =>
    refine ⟨#[], [], World.alloc_heap_new W _, (Below.heap_alloc _ _ b (by omega)).trans hb1, by simp, Came.nil es, ?_⟩
    exact hJ [] W _ none h0 (World.grownBy_alloc W _ none) (fun r e => by cases e)
  case round =>
    obtain ⟨seen, is, hr1, hr2, hr3, hC, hJs⟩ := hrel
    gi_wp2_with (first
      | (gi_at_next; refine walk_next _ rfl _ rfl W.heap.size b clk es seen rfl hr1 hr2 hborn ?_ ?_)
      | gi_in)
    · intro hl0
      gi_wp2
      go_end0
      refine ⟨⟨_, rfl⟩, .inl ⟨_, ?_, hJs⟩⟩
      have hp := hC.all hnd hl0
      have hlen : es.size = l.length := by have := congrArg List.length hval; simpa using this
      rw [hlen] at hp
      have := hp.map fun i => l.getD i default
      rwa [range_getD_map] at this
    · intro e w2 he hst
      obtain ⟨i, hi, hC2⟩ := hC.step hnd he
      have hil : i < es.size := (Array.getElem?_eq_some_iff.1 hi).1
      have hlen : es.size = l.length := by have := congrArg List.length hval; simpa using this
      have hv : e.val = .agg (cl (l.getD i default)).toArray := by
        have := congrArg (fun q => q[i]?) hval
        simp only [List.getElem?_map, Array.getElem?_toList, hi, Option.map_some] at this
        rw [List.getElem?_eq_getElem (by omega)] at this
        simpa [List.getD, show i < l.length by omega] using this
      have hmem : e ∈ es.toList := by
        rw [List.mem_iff_getElem?]
        exact ⟨i, by rw [Array.getElem?_toList]; exact hi⟩
      have hne : b ≠ W.heap.size := by omega
      have hb2 : w2.heap[b]? = some (.map es clk) := (hst.grown.block b (by omega) (by simpa using hne)).trans hr2
      have hJ2 := hJ _ _ w2 _ hJs hst.grown (fun r e => by cases e; exact ⟨Nat.le_refl _, _, hr1, rfl⟩)
      have hs2 := hst.size
      have hWr : W.heap.size < wr.heap.size := (Array.getElem?_eq_some_iff.1 hr1).1
      have hr2' := hst.at_
      obtain ⟨x, hx⟩ : ∃ x, l.getD i default = x := ⟨_, rfl⟩
      rw [hx] at hv
      have hJ3 : J (is.map fun i => l.getD i default) (w2.alloc (.cells (cl x).toArray 30)) := hJ _ _ _ none hJ2 (World.grownBy_alloc w2 _ none) (fun r e => by cases e)
      have hlt : (is.map fun i => l.getD i default).length < l.length := by
        have := nodup_lt _ _ hC2.nd hC2.lt
        simp at this ⊢; omega
      obtain ⟨fn, tmps, assign, body, hy, hR⟩ := hY _ x _ hJ3 hlt
      have hcs : (cl x).toArray.size = 34 := by simp [hcl]
      have hone : ∀ u ∈ (cl x).toArray.toList, u.oneCell' = true := by simpa using h1 x
      have hso : ∀ w, (Go.sizeOf 30).run Try.prog w = .ok (cl x).toArray.size w := fun w => by rw [hcs]; exact Try.sizeOf30 w
      generalize (cl x).toArray = c at hv hy hR hcs hone hso
      clear hJ3 hJ2 hJs h1 hcl
      gi_wp2_with (first
        | (refine walk_entry _ rfl _ rfl W.heap.size b clk es seen e rfl hr2' hb2 hmem hnd ?_)
        | (refine walk_store _ rfl rfl _ _ 30 rfl 34 (by kernel_rfl) wr.heap.size _ c 30 rfl (alloc_at hs2 _) rfl rfl hcs hone ?_; rw [alloc_setRow2 hs2])
        | (refine walk_load _ rfl _ 30 rfl wr.heap.size c 30 Try.isAgg30 hso rfl (alloc_at hs2 _) ?_)
        | gi_in)
      refine hR.mono ?_
      rintro e2 W3 (⟨rfl, hJ4, hk3⟩ | ⟨rfl, hJx4⟩)
      · gi_wp2
        have ha : (w2.alloc (.cells c 30)).heap[W.heap.size]? = some (.mapIter (some b) clk (seen.push e.born) clk) := (Below.heap_alloc _ _ _ (by omega)).trans hr2'
        have hb3 : (w2.alloc (.cells c 30)).heap[b]? = some (.map es clk) := (Below.heap_alloc _ _ _ (by omega)).trans hb2
        have ha3 := hk3.same _ _ ha rfl
        go_roundw
        case rel =>
          refine ⟨_, is ++ [i], ha3, hk3.same _ _ hb3 rfl, ?_, hC2, ?_⟩
          · have := hk3.size; simp at this; omega
          · rw [List.map_append, List.map_singleton, hx]; exact hJ4
        case measure =>
          have q1 : seenN W3 W.heap.size = seen.size + 1 := by simp [seenN, ha3]
          have q2 : seenN wr W.heap.size = seen.size := by simp [seenN, hr1]
          have q3 := hC2.size
          have q4 := nodup_lt _ _ hC2.nd hC2.lt
          simp only [Array.size_push, List.length_append, List.length_singleton] at q3 q4
          rw [q1, q2]; omega
      · gi_wp2
        (try simp only [Exit.inBlock, Exit.then]); refine bodyPost_ret (results_none rfl _ _ _) rfl ?_
        exact ⟨⟨_, rfl⟩, .inr ⟨_, trivial, hJx4⟩⟩

theorem row_own {w W W' : World} {row : Option Nat} {e : TypeId} {size k : Nat} {v : Value} {xs : List Value} (h : W.ownsRow w.heap.size e size v k xs) (hg : W.grownBy W' row) (hr : ∀ r, row = some r → ∃ o : Obj, W.heap[r]? = some o ∧ o.isCells = false) : W'.ownsRow w.heap.size e size v k xs := by
  refine h.kept hg ?_
  rcases h.2 with ⟨rfl, _⟩ | ⟨g, cap, cur, rfl, _, hgb, _⟩
  · exact .inl rfl
  · refine .inr fun e' => ?_
    obtain ⟨o, ho, hc⟩ := hr g (by simpa [Value.ownBlock] using e'.symm)
    rw [hgb] at ho; cases ho; cases hc
/-- Between two rounds. -/
structure ApI {α : Type} (cl : α → List Value) (w : World) (xs : List α) (W : World) : Prop where
  box : ∃ v, W.heap[w.heap.size]? = some (.cells #[v] 22 (0, 0)) ∧ W.ownsRow w.heap.size 30 34 v xs.length (xs.flatMap cl)
  below : Below w.heap.size w W
theorem ApI.own {α : Type} (cl : α → List Value) (w : World) (B : Nat) (hB : w.heap.size ≤ B) : OwnFrom B (ApI cl w) := by
  intro xs W W' row h hg hr
  obtain ⟨v, hv, hrow⟩ := h.box
  refine ⟨⟨v, (grownBy_keeps_cells hg (fun r e => (hr r e).2) hv rfl).trans hv, row_own hrow hg fun r e => (hr r e).2⟩, h.below.grown hg h.below.size fun k e => Nat.le_trans hB (hr k e).1⟩
set_option maxRecDepth 100000 in
set_option maxHeartbeats 4000000 in
theorem va_app {α : Type} [Inhabited α] (cl : α → List Value) (hcl : ∀ x, (cl x).length = 34) (h1 : ∀ x, ∀ u ∈ cl x, u.oneCell' = true) (F : Fence) (n : Nat) (hf : F.fn 76)
    (hf2 : F.fn 104) (hro : F.round = none) (hn : 3 ≤ n)
    (bx b : Nat) (es : Array MapEntry) (clk : Nat) (l : List α) (w : World) (tb : TypeId) (hbx : w.heap[bx]? = some (.cells #[.map (some b)] tb (0, 0))) (hb : w.heap[b]? = some (.map es clk))
    (hval : es.toList.map (·.val) = l.map fun x => .agg (cl x).toArray) (hborn : ∀ x ∈ es.toList, x.born < clk) (hnd : (es.toList.map (·.born)).Nodup) (hl : l.length ≤ 1000000) :
    CallsIn F n Try.prog 104 #[.slice none 0 0, .func (.func 76) #[] #[.pointer (some ⟨bx, 0, none⟩)]] w fun e W' =>
      ∃ (v : Value) (xs : List α), e = .returned v ∧ xs.Perm l ∧ W'.ownsRow w.heap.size 30 34 v xs.length (xs.flatMap cl) ∧ Below w.heap.size w W' := by
  have hbxl : bx < w.heap.size := (Array.getElem?_eq_some_iff.1 hbx).1
  have hbl : b < w.heap.size := (Array.getElem?_eq_some_iff.1 hb).1
  have hmx : maxLen = 9223372036854775807 := rfl
  refine callsIn_of_wp_marks Try.func104 rfl hf2 ?_ hro
  simp only [Try.ntmps104, List.size_toArray, List.length_cons, List.length_nil, Nat.reduceAdd, Nat.reduceSub, Array.replicate_succ, Array.replicate_zero, List.push_toArray, List.append_toArray, List.nil_append, List.cons_append]
  gi_wp2
  obtain ⟨W0, hW0⟩ : ∃ W0, w.alloc (.cells #[.slice none 0 0] 22) = W0 := ⟨_, rfl⟩
  rw [hW0]
  have hs0 : W0.heap.size = w.heap.size + 1 := by rw [← hW0]; simp
  have hv0 : W0.heap[w.heap.size]? = some (.cells #[.slice none 0 0] 22 (0, 0)) := by rw [← hW0]; exact World.alloc_heap_new w _
  have hB0 : Below w.heap.size w W0 := by rw [← hW0]; exact (Below.refl _ w).alloc (Nat.le_refl _) _
  have hbx0 : W0.heap[bx]? = some (.cells #[.map (some b)] tb (0, 0)) := (hB0.block bx hbxl).trans hbx
  have hb0 : W0.heap[b]? = some (.map es clk) := (hB0.block b hbl).trans hb
  obtain ⟨i0, hi, hz0, hz1, hz2⟩ := info_parts (P := Try.prog) (e := 30) (z := .agg (Array.mk ([.int .i64 0, .int .i64 0] ++ List.replicate 32 (.int .u8 0)))) (size := 34) (bytes := 48) (by kernel_rfl)
  refine walk_seq (pt := 7) hro (by omega) (gf := 76) (lb := #[.pointer (some ⟨bx, 0, none⟩)]) rfl hf (enters_of Try.func76 (by kernel_rfl) rfl)
    (va_iter cl hcl h1 F (n - 1) hf hro (by omega) bx b es clk l W0 tb hbx0 hb0 hval hborn hnd) (ApI cl w) (ApI.own cl w _ (by omega)) ⟨⟨_, hv0, ⟨rfl, .inl ⟨rfl, rfl⟩⟩⟩, hB0⟩
    (fun x => .cells (cl x).toArray 30 (0, 0)) (fun _ => rfl)
    (fun x p => { tmps := #[.slice none 0 0, .func (.func 76) #[] #[.pointer (some ⟨bx, 0, none⟩)], .pointer (some ⟨w.heap.size, 0, none⟩), undef, .slice none 0 0, .pointer (some ⟨p, 0, none⟩), .func (.func 76) #[] #[.pointer (some ⟨bx, 0, none⟩)], .agg (cl x).toArray, undef, undef, undef, undef, undef], defers := [] }) ?_ ?_ ?_
  · intro lp x W K hK
    have hcs : (cl x).toArray.size = 34 := by simp [hcl]
    have hone : ∀ u ∈ (cl x).toArray.toList, u.oneCell' = true := by simpa using h1 x
    generalize (cl x).toArray = c at hK hcs hone
    gi_wp2_with (first
      | (refine walk_store _ rfl rfl _ _ 30 rfl 34 (by kernel_rfl) W.heap.size _ c 30 rfl (alloc_at rfl _) rfl rfl hcs hone ?_; rw [alloc_setRow2 rfl])
      | (rw [Oper.semAt_eq _ _ _ (fun c h => by cases h)]; go_simp; try go_bits))
    exact hK
  · intro lp pre x W p hI hlen hp hwp
    obtain ⟨⟨v, hv, hrow⟩, hbel⟩ := hI
    have hcv : W.cell? ⟨w.heap.size, 0, none⟩ = some v := by simp [World.cell?, hv]
    have hfv : W.frozen? ⟨w.heap.size, 0, none⟩ = false := by simp [World.frozen?, hv]
    have hBlt : w.heap.size < W.heap.size := (Array.getElem?_eq_some_iff.1 hv).1
    have hcs : (cl x).toArray.size = 34 := by simp [hcl]
    have hso : ∀ w, (Go.sizeOf 30).run Try.prog w = .ok (cl x).toArray.size w := fun w => by rw [hcs]; exact Try.sizeOf30 w
    have hcell : ∀ j u, (cl x)[j]? = some u → (W.alloc (.cells (cl x).toArray 30)).cell? ((⟨W.heap.size, 0, none⟩ : Addr).add j) = some u := by
      intro j u hj
      rw [add_mk, cell_of_row _ _ _ _ _ _ (World.alloc_heap_new W _)]
      simpa using hj
    have hlcl := hcl x
    have hfm : (pre ++ [x]).flatMap cl = pre.flatMap cl ++ cl x := by simp
    have hone := h1 x
    have hne : some w.heap.size ≠ v.ownBlock := by
      rcases hrow.2 with ⟨rfl, _⟩ | ⟨g, cap, cur, rfl, _, hgb, _⟩
      · simp [Value.ownBlock]
      · intro e
        have e' : w.heap.size = g := by simpa [Value.ownBlock] using e
        subst e'
        rw [hv] at hgb
        cases hgb
    gi_wp2_with (first
      | (refine walk_load _ rfl _ 30 rfl p (cl x).toArray 30 Try.isAgg30 hso rfl hp ?_)
      | (refine walk_bs1 _ rfl _ 22 30 rfl i0 Try.underlying22 hi _ hz0 34 hz1 rfl (by omega) (by omega) (cl x).toArray rfl hcs ?_)
      | (gi_at_builtin; refine wpListIn_append_own _ rfl _ _ 22 rfl w.heap.size 30 i0 _ 34 48 Try.underlying22 hi hz0 hz1 hz2 rfl (by decide) _ _ _ rfl (hrow.alloc _) ⟨W.heap.size, 0, none⟩ 1 1 (cl x) rfl (by rw [hlcl]) hcell hone (by omega) (by omega) (by simp; omega) ?_; intro v' w3 hown' hg3 hnil3
         have hv3 : w3.heap[w.heap.size]? = some (.cells #[v] 22 (0, 0)) := (hg3.block w.heap.size (by simp; omega) hne).trans ((Below.heap_alloc _ _ _ hBlt).trans hv)
         have hcv3 : w3.cell? ⟨w.heap.size, 0, none⟩ = some v := by simp [World.cell?, hv3]
         have hfv3 : w3.frozen? ⟨w.heap.size, 0, none⟩ = false := by simp [World.frozen?, hv3]
         obtain ⟨g', cap', cur', rfl, hg'⟩ : ∃ g' cap' cur', v' = .slice (some ⟨g', 0, none⟩) (pre.length + 1) cap' ∧ w3.heap[g']? = some (.cells cur' 30 (0, 0)) := by
           rcases hown'.2 with ⟨_, h0⟩ | ⟨g', cap', cur', e, _, q, _⟩
           · exact absurd h0 (by omega)
           · exact ⟨g', cap', cur', e, q⟩)
      | (rw [Oper.semAt_eq _ _ _ (fun c h => by cases h)]; go_simp; try go_bits))
    have hgs := grown_setCell w3 w.heap.size (.slice (some ⟨g', 0, none⟩) (pre.length + 1) cap')
    have hne2 : (Value.slice (some ⟨g', 0, none⟩) (pre.length + 1) cap').ownBlock ≠ some w.heap.size := by
      intro e
      have e' : g' = w.heap.size := by simpa [Value.ownBlock] using e
      subst e'
      rw [hv3] at hg'
      cases hg'
    have hrc : ∀ (j : Nat) (o : Obj), v.ownBlock = some j → (W.alloc (.cells (cl x).toArray 30)).heap[j]? = some o → o.isCells = true := by
      intro j o hj ho
      rcases (hrow.alloc (.cells (cl x).toArray 30)).2 with ⟨rfl, _⟩ | ⟨g, cap, cur, rfl, _, hgb, _⟩
      · simp [Value.ownBlock] at hj
      · have : g = j := by simpa [Value.ownBlock] using hj
        subst this; rw [hgb] at ho; cases ho; rfl
    have hb3 : Below w.heap.size w w3 := (hbel.alloc hbel.size _).grown hg3 (by have := hbel.size; simp; omega) (fun k e => (hrow.lt k e).1)
    refine ⟨((KeepsOthers.alloc W _).trans (KeepsOthers.of_grownBy hg3 hrc)).trans (KeepsOthers.setCell _ _ _), ⟨⟨_, heap_setCell_one _ hv3, ?_⟩, hb3.grown hgs hb3.size (fun k e => by cases e; exact Nat.le_refl _)⟩⟩
    rw [hfm, List.length_append, List.length_singleton]
    exact hown'.kept hgs (.inr hne2)
  · intro D xs W hD hS hI hK
    obtain ⟨⟨v, hv, hrow⟩, hbel⟩ := hI
    have hcv : W.cell? ⟨w.heap.size, 0, none⟩ = some v := by simp [World.cell?, hv]
    gi_wp2
    refine ⟨by simp, .inl ⟨_, _, rfl, run_takeDeferred hK, ?_⟩⟩
    have hgp := grownBy_putObj' W D (.deferred none)
    exact ⟨_, results_tmp rfl _ _ _, v, xs, rfl, hS, row_own hrow hgp (fun r e => by cases e; exact ⟨_, hK, rfl⟩), hbel.grown hgp hbel.size (fun k e => by cases e; omega)⟩
end Go.Proofs.Ytlefegihikpilaa

/- A slice of aggregates that the call has built, sorted by the library. -/
namespace Go.Proofs.Ytlefegihikpilaa
set_option linter.all false
open Go.RowKit Go.Sort
section
variable {α : Type} [Inhabited α] {cl : α → List Value} {k : Nat}
theorem flat_getD (hcl : ∀ x, (cl x).length = k) : ∀ (xs : List α) (i j : Nat), i < xs.length → j < k → (xs.flatMap cl)[i * k + j]? = (cl (xs[i]?.getD default))[j]?
  | [], i, j, h, _ => by simp at h
  | x :: xs, 0, j, _, hj => by
    rw [List.flatMap_cons, List.getElem?_append_left (by rw [hcl]; omega)]; simp
  | x :: xs, i + 1, j, h, hj => by
    rw [List.flatMap_cons, List.getElem?_append_right (by rw [hcl, Nat.add_mul]; omega), hcl]
    have : (i + 1) * k + j - k = i * k + j := by rw [Nat.add_mul]; omega
    rw [this, flat_getD hcl xs i j (by simpa using h) hj]; simp
theorem flat_len (hcl : ∀ x, (cl x).length = k) : ∀ xs : List α, (xs.flatMap cl).length = xs.length * k
  | [] => by simp
  | x :: xs => by rw [List.flatMap_cons, List.length_append, hcl, flat_len hcl xs, List.length_cons, Nat.add_mul]; omega
theorem flatK_eq (hcl : ∀ x, (cl x).length = k) (hk : 0 < k) (xs : List α) : flatK cl k xs.toArray = (xs.flatMap cl).toArray := by
  apply Array.ext
  · simp [flat_len hcl]
  · intro t h1 h2
    rw [size_flatK] at h1
    have ht : t < xs.length * k := by simpa using h1
    have hi : t / k < xs.length := (Nat.div_lt_iff_lt_mul hk).2 ht
    have hj : t % k < k := Nat.mod_lt _ hk
    have e : t / k * k + t % k = t := by rw [Nat.mul_comm]; exact Nat.div_add_mod t k
    have hf := flat_getD hcl xs (t / k) (t % k) hi hj
    rw [e] at hf
    have h3 : t < (xs.flatMap cl).length := by rw [flat_len hcl]; exact ht
    rw [List.getElem?_eq_getElem h3, List.getElem?_eq_getElem (by rw [hcl]; exact hj)] at hf
    simp only [List.getElem_toArray]
    rw [Option.some.inj hf]
    simp only [flatK, Array.getElem_map, Array.getElem_range]
    have hj2 : t % k < (cl (xs[t / k]?.getD default)).length := by rw [hcl]; exact hj
    have e3 : (xs.toArray[t / k]! : α) = xs[t / k]?.getD default := by simp [hi]
    rw [e3, List.getElem!_eq_getElem?_getD, List.getElem?_eq_getElem hj2]; rfl
theorem holdsK_of_block {w : World} {g : Nat} {cur : Array Value} {e : TypeId} {xs : List α} (hcl : ∀ x, (cl x).length = k) (hk : 0 < k) (hb : w.heap[g]? = some (.cells cur e (0, 0))) (ht : cur.toList.take (xs.length * k) = xs.flatMap cl) : HoldsK cl k w g 0 xs.toArray := by
  unfold HoldsK
  rw [flatK_eq hcl hk]
  intro j hj
  have hj' : j < (xs.flatMap cl).length := by simpa using hj
  have hj2 : j < xs.length * k := by rw [← flat_len hcl]; exact hj'
  refine ⟨?_, by simp [World.frozen?, hb]⟩
  have h1 : (cur.toList.take (xs.length * k))[j]? = (xs.flatMap cl)[j]? := by rw [ht]
  rw [List.getElem?_take_of_lt hj2] at h1
  simp only [World.cell?, hb, Nat.zero_add, Option.isSome_none, Bool.false_eq_true, if_false]
  rw [← Array.getElem?_toList, h1, List.getElem?_eq_getElem hj']
  simp [List.getElem?_eq_getElem hj']
theorem grown_sortK {w : World} {g n : Nat} {os : Array Obj} (d : Array α) : w.grownBy (sortWorldK cl k w g 0 n d os) (some g) := by
  refine ⟨rfl, rfl, rfl, by simp [sortWorldK, putRowK, putRow, mapBlock, grow, Sort.ahead], fun j hj hne => ?_⟩
  have hgj : g ≠ j := fun e => hne (by rw [e])
  unfold sortWorldK
  rw [heap_grow_old _ _ (by simpa [putRowK, putRow, mapBlock, Sort.ahead] using hj)]
  simp [putRowK, putRow, mapBlock, Sort.ahead, Array.getElem?_modify, hgj]
theorem ownsRow_sortK {w : World} {base g cap n : Nat} {e : TypeId} {os : Array Obj} {cur : Array Value} {xs ds : List α} (hcl : ∀ x, (cl x).length = k) (hk : 0 < k) (hl : ds.length = xs.length) (hbase : base ≤ g) (hb : w.heap[g]? = some (.cells cur e (0, 0)))
    (h1 : xs.length ≤ cap) (h2 : cap ≤ maxLen) (h3 : cur.size = cap * k) : (sortWorldK cl k w g 0 n ds.toArray os).ownsRow base e k (.slice (some ⟨g, 0, none⟩) xs.length cap) xs.length (ds.flatMap cl) := by
  have hg : g < w.heap.size := (Array.getElem?_eq_some_iff.1 hb).1
  have hfl : (ds.flatMap cl).length = xs.length * k := by rw [flat_len hcl, hl]
  have hle : xs.length * k ≤ cap * k := Nat.mul_le_mul_right k h1
  have hh : (sortWorldK cl k w g 0 n ds.toArray os).heap[g]? = some (.cells (putCells id 0 (ds.flatMap cl).toArray cur) e (0, 0)) := by
    unfold sortWorldK
    rw [heap_grow_old _ _ (by simpa [putRowK, putRow, mapBlock, Sort.ahead] using hg)]
    simp [putRowK, putRow, mapBlock, Sort.ahead, Array.getElem?_modify, hb, onCells, flatK_eq hcl hk]
  refine ⟨hfl, .inr ⟨g, cap, _, rfl, hbase, hh, h1, h2, by simp [putCells, h3], ?_⟩⟩
  apply List.ext_getElem?
  intro j
  by_cases hj : j < xs.length * k
  · rw [List.getElem?_take_of_lt hj, Array.getElem?_toList]
    have hjc : j < cur.size := by omega
    have hjd : j < (ds.flatMap cl).length := by omega
    simp only [putCells, Array.getElem?_mapIdx, Array.getElem?_eq_getElem hjc, Option.map_some, Nat.zero_le, true_and, Nat.zero_add, List.size_toArray, hjd, if_true, Nat.sub_zero, id]
    rw [List.getElem?_eq_getElem hjd]
    simp [List.getElem?_eq_getElem hjd]
  · rw [List.getElem?_take_eq_none (by omega), List.getElem?_eq_none (by omega)]
end
/-- What the call has built reads as a slice that is its holder's alone. -/
theorem row_VR {W W' : World} {U : Nat → Nat → Prop} {e k n : Nat} {v : Value} {xs : List Value} {els : List (List AV)} (hk : 0 < k) (hb : RowKit.Below W.heap.size W W') (hrow : W'.ownsRow W.heap.size e k v n xs) (hn : els.length = n) (hsz : ∀ l ∈ els, l.length = k) (hone : ∀ u ∈ xs, u.oneCell' = true)
    (hv : ∀ (i j : Nat) (l : List AV) (c : AV) (u : Value), els[i]? = some l → l[j]? = some c → xs[i * k + j]? = some u → ∀ W U, VR W U u c) :
    ∃ U', VR W' U' v (.sl (some e) k els) ∧ OwnRow W' U' (W.heap.size ≤ ·) v e k els.length ∧ Ext W U W' U' := by
  subst hn
  obtain ⟨hlen, hnil | ⟨g, cap, cur, rfl, hbase, hgb, h1, h2, h3, h4⟩⟩ := hrow
  · obtain ⟨rfl, h0⟩ := hnil
    have : els = [] := List.eq_nil_of_length_eq_zero h0
    subst this
    exact ⟨fun b o => if b < W.heap.size then U b o else False, VR.nil _ _, .inl ⟨rfl, rfl⟩, hb, fun j hj o => by simp [hj]⟩
  · have hcell : ∀ t, t < els.length * k → ∃ u, xs[t]? = some u ∧ W'.cell? ⟨g, t, none⟩ = some u := by
      intro t ht
      have ht' : t < xs.length := by omega
      refine ⟨xs[t], List.getElem?_eq_getElem ht', ?_⟩
      have q : (cur.toList.take (els.length * k))[t]? = xs[t]? := by rw [h4]
      rw [List.getElem?_take_of_lt ht, Array.getElem?_toList, List.getElem?_eq_getElem ht'] at q
      simp only [World.cell?, hgb, Option.isSome_none, Bool.false_eq_true, if_false]
      exact q
    refine ⟨fun b o => if b < W.heap.size then U b o else (b = g ∧ els.length * k ≤ o), ?_, .inr ⟨g, cap, cur, rfl, hbase, hgb, h1, h2, h3, fun o ho => ?_, fun o ho => ?_⟩, hb, fun j hj o => by simp [hj]⟩
    · refine .sl (some ⟨g, 0, none⟩) cap (some e) els g 0 k (fun i j => (xs[i * k + j]?).getD undef) h1 h2 (fun _ => rfl) hsz (fun i j hi hj => ?_) (fun i l j c hl hc => ?_)
      · have ht : i * k + j < els.length * k := by
          have := Nat.mul_le_mul_right k (show i + 1 ≤ els.length from hi)
          rw [Nat.add_mul, Nat.one_mul] at this; omega
        obtain ⟨u, q1, q2⟩ := hcell _ ht
        rw [q1, Nat.zero_add]
        refine ⟨q2, hone u (List.mem_of_getElem? q1), ?_⟩
        simp only [show ¬ g < W.heap.size by omega, if_false]
        omega
      · have hi : i < els.length := (List.getElem?_eq_some_iff.1 hl).1
        have hj : j < k := by rw [← hsz l (List.mem_of_getElem? hl)]; exact (List.getElem?_eq_some_iff.1 hc).1
        have ht : i * k + j < els.length * k := by
          have := Nat.mul_le_mul_right k (show i + 1 ≤ els.length from hi)
          rw [Nat.add_mul, Nat.one_mul] at this; omega
        obtain ⟨u, q1, _⟩ := hcell _ ht
        rw [q1]
        exact hv i j l c u hl hc q1 _ _
    · simp only [show ¬ g < W.heap.size by omega, if_false]; omega
    · simp only [show ¬ g < W.heap.size by omega, if_false]; exact ⟨trivial, ho⟩
end Go.Proofs.Ytlefegihikpilaa
