import Derived.Test.YtobopbjedojebaaK16
import Derived.Sort.MapsRangeIn
import Derived.RangeFuncFrom
import Derived.RangeFuncLeaves
import Derived.TacticsInMore
import Derived.RegionIn
import Derived.LoopNIn
import Derived.LoopIn
import Derived.Maps.RangeRun
import Derived.Maps.AppendAt
import Derived.Shelf.AbstractIn
import Derived.Shelf.SlGeneric
import Derived.Shelf.SlMaps.Clone
import Derived.Ground.SlmcProg
import Derived.Shelf.SlSortCmp.NoneTotal
import Derived.Ground.SlsfProg
import Derived.Test.YtobopbjedojebaaProg
/- Ranges over maps whose keys and elements have several cells: laws of the kit's walk. -/
namespace Go.Proofs.Ytobopbjedojebaa
set_option linter.all false
open Go.RowKit Go.ChangeMaps
/-- One of those that have not come. -/
def Came1 (es : Array MapEntry) (seen : Array Nat) (e : MapEntry) : Prop := e ∈ (leftOf es seen).toList
/-- Nothing is left. -/
def Done1 (es : Array MapEntry) (seen : Array Nat) : Prop := (leftOf es seen).size = 0
/-- A step of an iterator: its block is turned, nothing else. -/
structure StepTo (w : World) (r : Nat) (o : Obj) (w2 : World) : Prop where
  at_ : w2.heap[r]? = some o
  grown : w.grownBy w2 (some r)
  size : w2.heap.size = w.heap.size
theorem stepTo_mk {w w1 : World} {r : Nat} {o o' : Obj} (hr : w.heap[r]? = some o) (h : w1 = w ∨ w1 = w.drew) : StepTo w r o' (setBlock w1 r o') := by
  have hlt : r < w.heap.size := (Array.getElem?_eq_some_iff.1 hr).1
  have hh : w1.heap = w.heap := by rcases h with rfl | rfl <;> rfl
  refine ⟨?_, ⟨?_, ?_, ?_, ?_, fun k hk hne => ?_⟩, ?_⟩
  · simp [setBlock, hh, hlt]
  · rcases h with rfl | rfl <;> rfl
  · rcases h with rfl | rfl <;> rfl
  · rcases h with rfl | rfl <;> rfl
  · simp [setBlock, hh]
  · have : r ≠ k := fun e => hne (by rw [e])
    simp [setBlock, hh, Array.getElem?_setIfInBounds, this]
  · simp [setBlock, hh]
section
variable {F : Fence} {n : Nat} {P : Program} (w : World) {ops : Array Oper} {rest : List Oper} {o : Oper} {a : Act} {Q : Exit → Act → World → Prop}
/-- 'range m'. -/
theorem walk_range (hg : o.guard = none) (m : Operand) (t : TypeId) (hop : o.op = Op.range t m) (k e : TypeId) (ht : P.underlying t = some (.map k e)) (b : Nat) (es : Array MapEntry) (clk : Nat) (hm : a.eval m = .map (some b)) (hb : w.heap[b]? = some (.map es clk))
    (hK : wpListIn F n P ops Q rest (a.put o.dst (.pointer (some ⟨w.heap.size, 0, none⟩))) (w.alloc (.mapIter (some b) clk #[] clk))) : wpListIn F n P ops Q (o :: rest) a w := by
  refine wpListIn_plain hg fun K' hK' => ?_
  unfold Oper.wpIn
  refine ⟨by simp [Oper.about, hop], ?_⟩
  rw [Oper.semAt_plain F _ _ (by rw [hop]; intro c hc'; cases hc')]
  simp only [execOp, hop, hm]
  simp [Instr.range, run_underlying ht, MapKept.run_getObj_map hb, run_newObj, Result.andThen]
  exact hK' _ _ hK
/-- The step. -/
theorem walk_next (hg : o.guard = none) (it : Operand) (hop : o.op = Op.next it false) (r b clk : Nat) (es : Array MapEntry) (seen : Array Nat) (hit : a.eval it = .pointer (some ⟨r, 0, none⟩)) (hr : w.heap[r]? = some (.mapIter (some b) clk seen clk)) (hb : w.heap[b]? = some (.map es clk)) (hold : ∀ x ∈ es.toList, x.born < clk)
    (hDone : Done1 es seen → wpListIn F n P ops Q rest (a.put o.dst (.tuple #[.bool false])) w)
    (hMore : ∀ (e : MapEntry) (w2 : World), Came1 es seen e → StepTo w r (.mapIter (some b) clk (seen.push e.born) clk) w2 → wpListIn F n P ops Q rest (a.put o.dst (.tuple #[.bool true, e.key, e.val])) w2) :
    wpListIn F n P ops Q (o :: rest) a w := by
  refine wpListIn_plain hg fun K' hK' => ?_
  unfold Oper.wpIn
  refine ⟨by simp [Oper.about, hop], ?_⟩
  rw [Oper.semAt_plain F _ _ (by rw [hop]; intro c hc'; cases hc')]
  rcases run_next_at (P := P) w o.type r b clk clk seen es clk hr hb hold (Nat.le_refl _) with ⟨h0, hrun⟩ | ⟨e, he, w1, hw1, hrun⟩
  · simp [execOp, hop, hit, hrun, Result.andThen]
    exact hK' _ _ (hDone h0)
  · simp [execOp, hop, hit, hrun, Result.andThen]
    exact hK' _ _ (hMore e _ he (stepTo_mk hr hw1))
/-- The round's entry. -/
theorem walk_entry (hg : o.guard = none) (it : Operand) (hop : o.op = Op.entry it) (r b clk : Nat) (es : Array MapEntry) (seen : Array Nat) (e : MapEntry) (hit : a.eval it = .pointer (some ⟨r, 0, none⟩)) (hr : w.heap[r]? = some (.mapIter (some b) clk (seen.push e.born) clk)) (hb : w.heap[b]? = some (.map es clk)) (he : e ∈ es.toList) (hn : (es.toList.map (·.born)).Nodup)
    (hK : wpListIn F n P ops Q rest (a.put o.dst (.tuple #[e.key, e.val])) w) : wpListIn F n P ops Q (o :: rest) a w := by
  refine wpListIn_plain hg fun K' hK' => ?_
  unfold Oper.wpIn
  refine ⟨by simp [Oper.about, hop], ?_⟩
  rw [Oper.semAt_plain F _ _ (by rw [hop]; intro c hc'; cases hc')]
  simp [execOp, hop, hit, run_entry_at (P := P) w r b clk seen es clk e hr hb he hn, Result.andThen]
  exact hK' _ _ hK
/-- A store of an aggregate into a block of its own. -/
theorem walk_store (hg : o.guard = none) (hod : o.dst = none) (x v : Operand) (t : TypeId) (hop : o.op = Op.store t x v) (k : Nat) (hsz : (P.info? t).map (·.size) = some k) (b : Nat) (z c : Array Value) (ty : TypeId) (hx : a.eval x = .pointer (some ⟨b, 0, none⟩)) (hb : w.heap[b]? = some (.cells z ty (0, 0))) (hz : z.size = k)
    (hv : (a.eval v).cells = c) (hc : c.size = k) (h1 : ∀ u ∈ c.toList, u.oneCell' = true) (hK : wpListIn F n P ops Q rest a (w.setRow b c)) : wpListIn F n P ops Q (o :: rest) a w := by
  have hst := run_storeCells_at P b 0 ty c.toList 0 z w hb (by rw [Array.length_toList]; omega) h1
  have hrow : (z.toList.take (0 + 0) ++ c.toList ++ z.toList.drop (0 + 0 + c.toList.length)).toArray = c := by
    rw [List.drop_eq_nil_of_le (by simp; omega)]; simp
  rw [hrow] at hst
  refine wpListIn_plain hg fun K' hK' => ?_
  unfold Oper.wpIn
  refine ⟨by simp [Oper.about, hop], ?_⟩
  rw [Oper.semAt_plain F _ _ (by rw [hop]; intro c hc'; cases hc')]
  cases hi : P.info? t with
  | none => simp [hi] at hsz
  | some i =>
    have hin : i.size = k := by simpa [hi] using hsz
    have hcs : ¬ c.size ≠ i.size := by omega
    have hrun : (execOp a.eval o).run P w = .ok .skip (w.setRow b c) := by
      simp only [execOp, hop, Instr.storeAt, hx, Instr.sureAddr, Sem.run_bind, Sem.run_pure, Result.andThen_ok, storeVar, sizeOf, typeInfo, run_program, hi, Sem.run_ite, hcs, if_false, hv, hst]
    rw [hrun]
    refine hK' (a.put o.dst undef) _ ?_
    rw [hod]
    exact hK
/-- A load of a block's aggregate. -/
theorem walk_load (hg : o.guard = none) (x : Operand) (t : TypeId) (hop : o.op = Op.load t x) (b : Nat) (c : Array Value) (ty : TypeId) (ha : ∀ w, (isAgg t).run P w = .ok true w) (hs : ∀ w, (Go.sizeOf t).run P w = .ok c.size w) (hx : a.eval x = .pointer (some ⟨b, 0, none⟩)) (hb : w.heap[b]? = some (.cells c ty (0, 0)))
    (hK : wpListIn F n P ops Q rest (a.put o.dst (.agg c)) w) : wpListIn F n P ops Q (o :: rest) a w := by
  have hl := run_loadCells_list (P := P) (w := w) ⟨b, 0, none⟩ c.toList (fun j v hj => by
    rw [add_mk, cell_of_row w b _ c ty (0, 0) hb]
    rw [Nat.zero_add, ← Array.getElem?_toList]; exact hj)
  refine wpListIn_plain hg fun K' hK' => ?_
  unfold Oper.wpIn
  refine ⟨by simp [Oper.about, hop], ?_⟩
  rw [Oper.semAt_plain F _ _ (by rw [hop]; intro c hc'; cases hc')]
  have hrun : (execOp a.eval o).run P w = .ok (.value (.agg c)) w := by
    simp only [Array.length_toList] at hl
    simp [execOp, hop, hx, Instr.loadAt, Instr.sureAddr, loadVar, ha, hs, hl]
  rw [hrun]
  exact hK' _ _ hK
/-- A slice literal of one aggregate. -/
theorem walk_bs1 (hg : o.guard = none) (x : Operand) (t e : TypeId) (hop : o.op = Op.buildSlice t 1 #[(0, x)]) (i : TypeInfo) (hu : P.underlying t = some (.slice e)) (hi : P.info? e = some i) (z : Value) (hz : i.zero = some z) (k : Nat) (hk : i.size = k) (hz2 : z.cells.size = k) (hpos : 0 < k) (hsm : k ≤ 16777216)
    (c : Array Value) (hx : (a.eval x).cells = c) (hc : c.size = k) (hK : wpListIn F n P ops Q rest (a.put o.dst (.slice (some ⟨w.heap.size, 0, none⟩) 1 1)) (w.alloc (.cells c e))) : wpListIn F n P ops Q (o :: rest) a w := by
  subst hk
  have hf := Go.Great.fill_whole hpos [a.eval x] ((Array.range (1 * i.size)).map (z.cells[· % z.cells.size]!)) (fun v hv => by simp only [List.mem_singleton] at hv; subst hv; rw [hx, hc]) (by simp)
  have hrun := run_buildSlice (P := P) w t e 1 #[(0, a.eval x)] _ i z hu hi hz (by omega) (by omega) hf
  refine wpListIn_plain hg fun K' hK' => ?_
  unfold Oper.wpIn
  refine ⟨by simp [Oper.about, hop], ?_⟩
  rw [Oper.semAt_plain F _ _ (by rw [hop]; intro c hc'; cases hc')]
  have hr : (execOp a.eval o).run P w = .ok (.value (.slice (some ⟨w.heap.size, 0, none⟩) 1 1)) (w.alloc (.cells c e)) := by
    have hl : ([a.eval x].flatMap fun v => v.cells.toList).toArray = c := by simp [hx]
    rw [hl] at hrun
    simp only [execOp, hop, Sem.run_bind]
    rw [show (#[(0, x)].map fun (p : Nat × Operand) => (p.1, a.eval p.2)) = #[(0, a.eval x)] by simp]
    rw [hrun]; rfl
  rw [hr]
  exact hK' _ _ hK
end
theorem alloc_setRow (w : World) (z c : Array Value) (ty : TypeId) : (w.alloc (.cells z ty)).setRow w.heap.size c = w.alloc (.cells c ty) := by
  simp only [World.setRow, World.alloc]
  congr 1
  apply Array.ext_getElem?
  intro i
  rw [Array.getElem?_modify]
  by_cases h : w.heap.size = i
  · subst h; simp
  · rw [if_neg h]
    by_cases h2 : i < w.heap.size
    · simp [Array.getElem?_push, h, Ne.symm h]
    · simp [Array.getElem?_push, h, Ne.symm h]
end Go.Proofs.Ytobopbjedojebaa

/- Ranges over maps: what has come, as places. -/
namespace Go.Proofs.Ytobopbjedojebaa
set_option linter.all false
open Go.RowKit Go.ChangeMaps
theorem alloc_at {w : World} {k : Nat} (h : w.heap.size = k) (o : Obj) : (w.alloc o).heap[k]? = some o := by subst h; exact World.alloc_heap_new w o
theorem alloc_setRow2 {w : World} {k : Nat} (h : w.heap.size = k) (z c : Array Value) (ty : TypeId) : (w.alloc (.cells z ty)).setRow k c = w.alloc (.cells c ty) := by subst h; exact alloc_setRow w z c ty
/-- The places that have come. -/
structure Came (es : Array MapEntry) (seen : Array Nat) (is : List Nat) : Prop where
  nd : is.Nodup
  lt : ∀ i ∈ is, i < es.size
  sn : seen.toList = is.map fun i => (es[i]?.map (·.born)).getD 0
theorem Came.nil (es : Array MapEntry) : Came es #[] [] := ⟨by simp, by simp, rfl⟩
theorem born_at {es : Array MapEntry} (hn : (es.toList.map (·.born)).Nodup) {i j : Nat} (hi : i < es.size) (hj : j < es.size) (h : (es[i]?.map (·.born)).getD 0 = (es[j]?.map (·.born)).getD 0) : i = j := by
  have hi' : i < (es.toList.map (·.born)).length := by simpa using hi
  have hj' : j < (es.toList.map (·.born)).length := by simpa using hj
  have hp := List.pairwise_iff_getElem.1 hn
  rcases Nat.lt_trichotomy i j with hlt | rfl | hlt
  · exact absurd (by simpa [hi, hj] using h) (hp i j hi' hj' hlt)
  · rfl
  · exact absurd (by simpa [hi, hj] using h.symm) (hp j i hj' hi' hlt)
theorem Came.step {es : Array MapEntry} (hn : (es.toList.map (·.born)).Nodup) {seen : Array Nat} {is : List Nat} (h : Came es seen is) {e : MapEntry} (he : Came1 es seen e) : ∃ i, es[i]? = some e ∧ Came es (seen.push e.born) (is ++ [i]) := by
  simp only [Came1, leftOf, Array.mem_toList_iff, Array.mem_filter, Bool.not_eq_true'] at he
  obtain ⟨he1, he2⟩ := he
  obtain ⟨i, hi, rfl⟩ := Array.getElem_of_mem he1
  have hni : i ∉ is := fun hm => by
    have : es[i].born ∈ seen.toList := by
      rw [h.sn]
      exact List.mem_map.2 ⟨i, hm, by simp [hi]⟩
    simp_all
  refine ⟨i, by simp [hi], List.nodup_append.2 ⟨h.nd, by simp, fun a ha b hb => by simp at hb; subst hb; intro e; subst e; exact hni ha⟩, fun j hj => ?_, ?_⟩
  · rcases List.mem_append.1 hj with hj | hj
    · exact h.lt j hj
    · simp at hj; omega
  · rw [Array.toList_push, h.sn]; simp [hi]
theorem perm_range : ∀ (n : Nat) (is : List Nat), is.Nodup → (∀ i ∈ is, i < n) → (∀ i, i < n → i ∈ is) → is.Perm (List.range n) := by
  intro n is h1 h2 h3
  rw [List.perm_iff_count]
  intro a
  rw [h1.count, List.nodup_range.count]
  by_cases ha : a < n
  · simp [h3 a ha, ha]
  · have : a ∉ is := fun h => ha (h2 a h)
    simp [this, ha]
theorem Came.all {es : Array MapEntry} (hn : (es.toList.map (·.born)).Nodup) {seen : Array Nat} {is : List Nat} (h : Came es seen is) (h0 : Done1 es seen) : is.Perm (List.range es.size) := by
  refine perm_range _ _ h.nd h.lt fun i hi => ?_
  have he : ∀ x ∈ es, seen.contains x.born = true := by
    intro x hx
    by_cases hc : seen.contains x.born = true
    · exact hc
    · have : x ∈ leftOf es seen := by simp only [leftOf, Array.mem_filter]; exact ⟨hx, by simpa using hc⟩
      rw [Array.eq_empty_of_size_eq_zero (show (leftOf es seen).size = 0 from h0)] at this
      simp at this
  have h1 := he es[i] (Array.getElem_mem hi)
  have h2 : es[i].born ∈ seen.toList := by simpa using h1
  rw [h.sn, List.mem_map] at h2
  obtain ⟨j, hj, e⟩ := h2
  have := born_at hn (h.lt j hj) hi (by rw [e]; simp [hi])
  rw [← this]; exact hj
theorem range_getD_map {α : Type} [Inhabited α] (l : List α) : (List.range l.length).map (fun i => l.getD i default) = l := by
  apply List.ext_getElem
  · simp
  · intro i h1 h2
    simp at h1
    simp [List.getD, h1]
/-- How many have come. -/
def seenN (w : World) (r : Nat) : Nat := match w.heap[r]? with
  | some (.mapIter _ _ seen _) => seen.size
  | _ => 0
theorem Came.size {es : Array MapEntry} {seen : Array Nat} {is : List Nat} (h : Came es seen is) : seen.size = is.length := by
  have := congrArg List.length h.sn
  simpa using this
theorem nodup_lt : ∀ (n : Nat) (s : List Nat), s.Nodup → (∀ x ∈ s, x < n) → s.length ≤ n
  | 0, s, _, hs => by
    cases s with
    | nil => simp
    | cons x s => exact absurd (hs x (by simp)) (by omega)
  | n + 1, s, hn, hs => by
    have h1 := nodup_lt n (s.erase n) (hn.erase n) fun x hx => by
      have := (hn.mem_erase_iff).1 hx
      have := hs x this.2
      omega
    rw [List.length_erase] at h1
    split at h1 <;> omega
end Go.Proofs.Ytobopbjedojebaa

/- A range over an iterator of aggregates: the round's variable is a block of its own. -/
namespace Go.Proofs.Ytobopbjedojebaa
set_option linter.all false
open Go.RowKit
theorem heap_setCell_one {W : World} {B : Nat} {v : Value} {t : TypeId} (v' : Value) (h : W.heap[B]? = some (.cells #[v] t (0, 0))) : (W.setCell ⟨B, 0, none⟩ v').heap[B]? = some (.cells #[v'] t (0, 0)) := by
  obtain ⟨hlt, hk⟩ := Array.getElem?_eq_some_iff.1 h
  show (W.heap.modify B _)[B]? = _
  rw [Array.getElem?_eq_getElem (by rw [Array.size_modify]; exact hlt), Array.getElem_modify_self, hk]
  rfl
theorem grown_setCell (W : World) (b : Nat) (v : Value) : W.grownBy (W.setCell ⟨b, 0, none⟩ v) (some b) :=
  ⟨rfl, rfl, rfl, by show W.heap.size ≤ (W.heap.modify _ _).size; rw [Array.size_modify]; exact Nat.le_refl _, fun k _ hk => Below.heap_setCell W _ v k (fun e => hk (by rw [e]))⟩
section
variable {F : Fence} {n : Nat} {P : Program}
theorem walk_seq {α : Type} {g : Operand} {pt : Tmp} {assign body : Code} {Q : Exit → Act → World → Prop} {a : Act} {w : World} (hro : F.round = none) (h1 : 1 ≤ n) {gf : Nat} {lb : Array Value} (hg : a.eval g = .func (.func gf) #[] lb) (hFg : F.fn gf)
    (eg : ∀ args w, (callFunc gf args).run P w = .ok (.enter gf args) w) {enc : α → Value} {S : List α → Prop} {N : Nat} (hseq : SeqStops F (n - 1) P gf lb enc S (fun _ => True) N w)
    (I : List α → World → Prop) (hI : OwnFrom w.heap.size I) (h0 : I [] w) (ob : α → Obj) (hob : ∀ x, (ob x).isCells = true) (a₁ : α → Nat → Act)
    (hassign : ∀ (l : Nat) (x : α) (W : World) (K : Act → World → Prop), K (a₁ x W.heap.size) (W.alloc (ob x)) →
      assign.wpIn (F.inRound l) (n - 1 - 1) P (Exit.then K (fun _ _ _ => False)) { tmps := a.tmps.setIfInBounds pt (enc x), defers := [] } W)
    (hbody : ∀ (l : Nat) (pre : List α) (x : α) (W : World) (p : Nat), I pre W → pre.length < N → W.heap[p]? = some (ob x) → w.heap.size ≤ p →
      body.wpIn (F.inRound l) (n - 1 - 1) P (fun e _ W' => e = .normal ∧ KeepsOthers W W' ∧ I (pre ++ [x]) W') (a₁ x p) W)
    (hdone : ∀ (D : Nat) (xs : List α) (W : World), w.heap.size ≤ D → S xs → I xs W → W.heap[D]? = some (.deferred (some [])) → Q .normal { a with defers := { target := .collected D, args := #[] } :: a.defers } W) :
    (Code.rangeFunc g #[pt] assign body).wpIn F n P Q a w := by
  refine wpIn_rangeFunc ?_
  intro fn hfn
  rw [hro]
  obtain ⟨rc, hrc⟩ : ∃ rc : LoopState → Loop, rc = fun st => { state := st, pending := none, fn, tmps := a.tmps, params := #[pt], assign, body, defers := w.heap.size } := ⟨_, rfl⟩
  obtain ⟨W1, hW1⟩ : ∃ W1, (w.alloc (.deferred (some []))).alloc (.loop (rc .ready)) = W1 := ⟨_, rfl⟩
  have hs1 : W1.heap.size = w.heap.size + 2 := by rw [← hW1]; simp
  have hL : W1.heap[w.heap.size + 1]? = some (.loop (rc .ready)) := by rw [← hW1]; exact alloc_at (by simp) _
  have hK : W1.heap[w.heap.size]? = some (.deferred (some [])) := by rw [← hW1]; exact (Below.heap_alloc _ _ _ (by simp)).trans (World.alloc_heap_new w _)
  have hI1 : I [] W1 := by rw [← hW1]; exact hI.alloc _ (hI.alloc _ h0)
  have hb1 : Below w.heap.size w W1 := by rw [← hW1]; exact ((Below.refl _ w).alloc (Nat.le_refl _) _).alloc (by simp) _
  refine ⟨w.heap.size + 1, [{ target := .collected w.heap.size, args := #[] }], W1, { target := .fn (.func gf) lb, args := #[.func (.yield (w.heap.size + 1)) #[] #[]] }, W1, gf, #[.func (.yield (w.heap.size + 1)) #[] #[]] ++ lb, W1, ?_, ?_, ?_, ?_, fun _ => h1, ?_⟩
  · rw [← hW1, hrc]; exact run_enterLoop_outer _ _ _ _ _
  · simp only [resolve, hg]; simp [go_sem]
  · intro f' hf'; simp [Target.leads] at hf'; subst hf'; exact hFg
  · simp [invoke, go_sem, eg]
  have hnc : ∀ {A : World} {row : Option Nat}, (∀ r, row = some r → W1.heap.size ≤ r ∧ ∃ o : Obj, A.heap[r]? = some o ∧ o.isWalk = true) → ∀ r, row = some r → w.heap.size ≤ r ∧ ∃ o : Obj, A.heap[r]? = some o ∧ o.isCells = false :=
    fun hr r e => by obtain ⟨hB, o, ho, hw⟩ := hr r e; exact ⟨by omega, o, ho, Obj.not_cells_of_walk hw⟩
  refine (hseq (w.heap.size + 1) (fun pre W => I pre W ∧ W.heap[w.heap.size + 1]? = some (.loop (rc .ready)) ∧ W.heap[w.heap.size]? = some (.deferred (some []))) (fun _ _ => False) W1 hb1
    (fun s A B row hs hg' hr => ⟨hI s A B row hs.1 hg' (hnc hr), (grownBy_keeps hg' (fun r e => (hr r e).2) hs.2.1 rfl).trans hs.2.1, (grownBy_keeps hg' (fun r e => (hr r e).2) hs.2.2 rfl).trans hs.2.2⟩)
    (fun _ _ _ _ h _ _ => h) ?_ ⟨hI1, hL, hK⟩).mono ?_
  · rintro pre x W ⟨hi, hl, hk⟩ hlen
    have hlt : w.heap.size + 1 < W.heap.size := (Array.getElem?_eq_some_iff.1 hl).1
    have hy := run_yield (P := P) (args := #[enc x]) hl (by rw [hrc]; rfl)
    have hl2 : (W.alloc (ob x)).heap[w.heap.size + 1]? = some (.loop (rc .ready)) := (Below.heap_alloc _ _ _ hlt).trans hl
    have hk2 : (W.alloc (ob x)).heap[w.heap.size]? = some (.deferred (some [])) := (Below.heap_alloc _ _ _ (by omega)).trans hk
    have hp2 : (W.alloc (ob x)).heap[W.heap.size]? = some (ob x) := World.alloc_heap_new W _
    have hy : (Instr.yield (w.heap.size + 1) #[enc x]).run P W = .ok (.round (w.heap.size + 1) fn (a.tmps.setIfInBounds pt (enc x)) assign body) W := by rw [hrc] at hy; simpa using hy
    refine ⟨fn, _, assign, body, hy, roundIn_of_wpIn hfn ?_⟩
    have hbr := run_beginRound (P := P) hl2 (by rw [hrc])
    obtain ⟨W3, hW3⟩ : ∃ W3, (W.alloc (ob x)).putObj (w.heap.size + 1) (.loop { rc .ready with state := .busy }) = W3 := ⟨_, rfl⟩
    rw [hW3] at hbr
    have hl3 : W3.heap[w.heap.size + 1]? = some (.loop { rc .ready with state := .busy }) := by rw [← hW3]; exact World.putObj_heap_same (by simp; omega)
    have hk3 : W3.heap[w.heap.size]? = some (.deferred (some [])) := by rw [← hW3]; exact (World.putObj_heap_other (by omega)).trans hk2
    have hp3 : W3.heap[W.heap.size]? = some (ob x) := by rw [← hW3]; exact (World.putObj_heap_other (by omega)).trans hp2
    have hi3 : I pre W3 := by rw [← hW3]; exact hI.putObj _ (hI.alloc _ hi) (by omega) hl2 rfl
    have hw3 : KeepsWalks W W3 := by rw [← hW3]; exact (KeepsWalks.alloc _ _).trans (KeepsWalks.putObj _ hl2 rfl)
    refine hassign (w.heap.size + 1) x W _ ?_
    refine ⟨W3, hbr, ?_⟩
    refine wpIn_mono (hbody (w.heap.size + 1) pre x W3 W.heap.size hi3 hlen hp3 (by omega)) ?_
    rintro e a3 W4 ⟨rfl, ho4, hi4⟩
    have hl4 := ho4.same _ _ hl3 rfl
    have hk4 := ho4.same _ _ hk3 rfl
    have her := run_endRound (P := P) none hl4
    refine ⟨_, _, her, .inl ⟨rfl, ⟨hI.putObj _ hi4 (by omega) hl4 rfl, ?_, (World.putObj_heap_other (by omega)).trans hk4⟩, (hw3.trans ho4.walks).trans (KeepsWalks.putObj _ hl4 rfl)⟩⟩
    rw [World.putObj_heap_same (Array.getElem?_eq_some_iff.1 hl4).1, hrc]; rfl
  · rintro e W2 ⟨⟨v, rfl⟩, (⟨xs, hS, hi, hl, hk⟩ | ⟨_, _, hf⟩)⟩
    · have hel := run_endLoop (P := P) hl (by rw [hrc]; simp)
      rw [hrc] at hel
      exact ⟨none, _, hel, hdone _ xs _ (Nat.le_refl _) hS (hI.putObj _ hi (by omega) hl rfl) ((World.putObj_heap_other (by omega)).trans hk)⟩
    · exact hf.elim
end
end Go.Proofs.Ytobopbjedojebaa

/- A row that the call has built stays its own when an iterator turns. -/
namespace Go.Proofs.Ytobopbjedojebaa
set_option linter.all false
open Go.RowKit
theorem row_own {w W W' : World} {row : Option Nat} {e : TypeId} {size k : Nat} {v : Value} {xs : List Value} (h : W.ownsRow w.heap.size e size v k xs) (hg : W.grownBy W' row) (hr : ∀ r, row = some r → ∃ o : Obj, W.heap[r]? = some o ∧ o.isCells = false) : W'.ownsRow w.heap.size e size v k xs := by
  refine h.kept hg ?_
  rcases h.2 with ⟨rfl, _⟩ | ⟨g, cap, cur, rfl, _, hgb, _⟩
  · exact .inl rfl
  · refine .inr fun e' => ?_
    obtain ⟨o, ho, hc⟩ := hr g (by simpa [Value.ownBlock] using e'.symm)
    rw [hgb] at ho; cases ho; cases hc
end Go.Proofs.Ytobopbjedojebaa

/-
  DERIVED: THE SHELF's CONTRACTS AT THIS DUMP, IN PLAIN WORDS (tools/lay-plain.mjs out of 'TryShelfG.lean', which tools/lay-shelf.mjs wrote): THE SAME DECLARATIONS UNDER THE SAME NAMES: 'import', 'namespace', 'open', 'def', 'theorem' AND NOTHING ELSE: no command of the shelf's: FOR A HAND-IN. Each laying: the table of numbers ('.._ren') and one theorem, a field a fact of the dump's own or the kernel's comparison; each contract: ONE APPLICATION.
-/
namespace Go.Proofs
open Go.Shelf
def Try.clone85_ren : Go.Shelf.Ren := ⟨fun | 5 => 85 | 7 => 113 | n => n, fun | 23 => 138 | 25 => 23 | 3 => 136 | 4 => 4 | 20 => 20 | n => n, fun | n => n⟩
theorem Try.clone85 : Go.Proofs.SlLaysW.n5 Try.prog Try.clone85_ren := {
  mixed := by kernel_rfl
  f5 := ⟨Try.f85.name, by decide, Try.func85.trans (congrArg some (by kernel_rfl))⟩
  f7 := Try.func113.trans (congrArg some (by kernel_rfl))
  t4 := Try.underlying4
  a4 := Try.isAgg4
  z4 := Try.sizeOf4
  v4 := Try.zeroValue4
  t20 := Try.underlying20
  a20 := Try.isAgg20
  z20 := Try.sizeOf20
  v20 := Try.zeroValue20
  t23 := Try.underlying138
  a23 := Try.isAgg138
  z23 := Try.sizeOf138
  v23 := Try.zeroValue138 }
def Try.clone86_ren : Go.Shelf.Ren := ⟨fun | 5 => 86 | 7 => 113 | n => n, fun | 23 => 139 | 25 => 150 | 3 => 3 | 4 => 4 | 20 => 20 | n => n, fun | n => n⟩
theorem Try.clone86 : Go.Proofs.SlLaysW.n5 Try.prog Try.clone86_ren := {
  mixed := by kernel_rfl
  f5 := ⟨Try.f86.name, by decide, Try.func86.trans (congrArg some (by kernel_rfl))⟩
  f7 := Try.func113.trans (congrArg some (by kernel_rfl))
  t4 := Try.underlying4
  a4 := Try.isAgg4
  z4 := Try.sizeOf4
  v4 := Try.zeroValue4
  t20 := Try.underlying20
  a20 := Try.isAgg20
  z20 := Try.sizeOf20
  v20 := Try.zeroValue20
  t23 := Try.underlying139
  a23 := Try.isAgg139
  z23 := Try.sizeOf139
  v23 := Try.zeroValue139 }
def Try.clone87_ren : Go.Shelf.Ren := ⟨fun | 5 => 87 | 7 => 113 | n => n, fun | 23 => 140 | 25 => 152 | 3 => 25 | 4 => 4 | 20 => 20 | n => n, fun | n => n⟩
theorem Try.clone87 : Go.Proofs.SlLaysW.n5 Try.prog Try.clone87_ren := {
  mixed := by kernel_rfl
  f5 := ⟨Try.f87.name, by decide, Try.func87.trans (congrArg some (by kernel_rfl))⟩
  f7 := Try.func113.trans (congrArg some (by kernel_rfl))
  t4 := Try.underlying4
  a4 := Try.isAgg4
  z4 := Try.sizeOf4
  v4 := Try.zeroValue4
  t20 := Try.underlying20
  a20 := Try.isAgg20
  z20 := Try.sizeOf20
  v20 := Try.zeroValue20
  t23 := Try.underlying140
  a23 := Try.isAgg140
  z23 := Try.sizeOf140
  v23 := Try.zeroValue140 }
def Try.clone88_ren : Go.Shelf.Ren := ⟨fun | 5 => 88 | 7 => 113 | n => n, fun | 23 => 141 | 25 => 152 | 3 => 3 | 4 => 4 | 20 => 20 | n => n, fun | n => n⟩
theorem Try.clone88 : Go.Proofs.SlLaysW.n5 Try.prog Try.clone88_ren := {
  mixed := by kernel_rfl
  f5 := ⟨Try.f88.name, by decide, Try.func88.trans (congrArg some (by kernel_rfl))⟩
  f7 := Try.func113.trans (congrArg some (by kernel_rfl))
  t4 := Try.underlying4
  a4 := Try.isAgg4
  z4 := Try.sizeOf4
  v4 := Try.zeroValue4
  t20 := Try.underlying20
  a20 := Try.isAgg20
  z20 := Try.sizeOf20
  v20 := Try.zeroValue20
  t23 := Try.underlying141
  a23 := Try.isAgg141
  z23 := Try.sizeOf141
  v23 := Try.zeroValue141 }
def Try.clone89_ren : Go.Shelf.Ren := ⟨fun | 5 => 89 | 7 => 113 | n => n, fun | 23 => 142 | 25 => 152 | 3 => 175 | 4 => 4 | 20 => 20 | n => n, fun | n => n⟩
theorem Try.clone89 : Go.Proofs.SlLaysW.n5 Try.prog Try.clone89_ren := {
  mixed := by kernel_rfl
  f5 := ⟨Try.f89.name, by decide, Try.func89.trans (congrArg some (by kernel_rfl))⟩
  f7 := Try.func113.trans (congrArg some (by kernel_rfl))
  t4 := Try.underlying4
  a4 := Try.isAgg4
  z4 := Try.sizeOf4
  v4 := Try.zeroValue4
  t20 := Try.underlying20
  a20 := Try.isAgg20
  z20 := Try.sizeOf20
  v20 := Try.zeroValue20
  t23 := Try.underlying142
  a23 := Try.isAgg142
  z23 := Try.sizeOf142
  v23 := Try.zeroValue142 }
def Try.sort60_ren : Go.Shelf.Ren := ⟨fun | 6 => 60 | 15 => 82 | 14 => 81 | 28 => 103 | 29 => 104 | 20 => 95 | 21 => 96 | 22 => 97 | 23 => 98 | 24 => 99 | 25 => 100 | 26 => 101 | 27 => 102 | 46 => 119 | 47 => 120 | 48 => 121 | 49 => 122 | 50 => 123 | 57 => 135 | n => n, fun | 22 => 38 | 24 => 37 | 25 => 87 | 3 => 3 | 39 => 165 | 0 => 0 | 53 => 188 | 55 => 190 | 4 => 4 | 46 => 182 | 45 => 181 | 50 => 88 | 5 => 5 | 9 => 9 | 66 => 208 | 70 => 212 | 76 => 224 | 77 => 225 | n => n, fun | n => n⟩
theorem Try.sort60 : Go.Proofs.SlLaysF0.n6 Try.prog Try.sort60_ren := {
  mixed := by kernel_rfl
  f6 := ⟨Try.f60.name, by decide, Try.func60.trans (congrArg some (by kernel_rfl))⟩
  f14 := ⟨Try.f81.name, by decide, Try.func81.trans (congrArg some (by kernel_rfl))⟩
  f15 := Try.func82.trans (congrArg some (by kernel_rfl))
  f20 := ⟨Try.f95.name, by decide, Try.func95.trans (congrArg some (by kernel_rfl))⟩
  f21 := ⟨Try.f96.name, by decide, Try.func96.trans (congrArg some (by kernel_rfl))⟩
  f22 := ⟨Try.f97.name, by decide, Try.func97.trans (congrArg some (by kernel_rfl))⟩
  f23 := ⟨Try.f98.name, by decide, Try.func98.trans (congrArg some (by kernel_rfl))⟩
  f24 := ⟨Try.f99.name, by decide, Try.func99.trans (congrArg some (by kernel_rfl))⟩
  f25 := ⟨Try.f100.name, by decide, Try.func100.trans (congrArg some (by kernel_rfl))⟩
  f26 := ⟨Try.f101.name, by decide, Try.func101.trans (congrArg some (by kernel_rfl))⟩
  f27 := ⟨Try.f102.name, by decide, Try.func102.trans (congrArg some (by kernel_rfl))⟩
  f28 := Try.func103.trans (congrArg some (by kernel_rfl))
  f29 := Try.func104.trans (congrArg some (by kernel_rfl))
  f46 := ⟨Try.f119.name, by decide, Try.func119.trans (congrArg some (by kernel_rfl))⟩
  f47 := Try.func120.trans (congrArg some (by kernel_rfl))
  f48 := Try.func121.trans (congrArg some (by kernel_rfl))
  f49 := ⟨Try.f122.name, by decide, Try.func122.trans (congrArg some (by kernel_rfl))⟩
  f50 := ⟨Try.f123.name, by decide, Try.func123.trans (congrArg some (by kernel_rfl))⟩
  f57 := ⟨Try.f135.name, by decide, Try.func135.trans (congrArg some (by kernel_rfl))⟩
  t0 := Try.underlying0
  a0 := Try.isAgg0
  z0 := Try.sizeOf0
  v0 := Try.zeroValue0
  t3 := Try.underlying3
  a3 := Try.isAgg3
  z3 := Try.sizeOf3
  v3 := Try.zeroValue3
  t4 := Try.underlying4
  a4 := Try.isAgg4
  z4 := Try.sizeOf4
  v4 := Try.zeroValue4
  t5 := Try.underlying5
  a5 := Try.isAgg5
  z5 := Try.sizeOf5
  v5 := Try.zeroValue5
  t9 := Try.underlying9
  a9 := Try.isAgg9
  z9 := Try.sizeOf9
  v9 := Try.zeroValue9
  t22 := Try.underlying38
  a22 := Try.isAgg38
  z22 := Try.sizeOf38
  v22 := Try.zeroValue38
  t25 := Try.underlying87
  a25 := Try.isAgg87
  z25 := Try.sizeOf87
  v25 := Try.zeroValue87
  t39 := Try.underlying165
  a39 := Try.isAgg165
  z39 := Try.sizeOf165
  v39 := Try.zeroValue165
  t45 := Try.underlying181
  a45 := Try.isAgg181
  z45 := Try.sizeOf181
  v45 := Try.zeroValue181
  t46 := Try.underlying182
  a46 := Try.isAgg182
  z46 := Try.sizeOf182
  v46 := Try.zeroValue182
  t50 := Try.underlying88
  a50 := Try.isAgg88
  z50 := Try.sizeOf88
  v50 := Try.zeroValue88
  t53 := Try.underlying188
  a53 := Try.isAgg188
  z53 := Try.sizeOf188
  v53 := Try.zeroValue188
  t55 := Try.underlying190
  a55 := Try.isAgg190
  z55 := Try.sizeOf190
  v55 := Try.zeroValue190
  t66 := Try.underlying208
  a66 := Try.isAgg208
  z66 := Try.sizeOf208
  v66 := Try.zeroValue208
  t70 := Try.underlying212
  a70 := Try.isAgg212
  z70 := Try.sizeOf212
  v70 := Try.zeroValue212
  t76 := Try.underlying224
  a76 := Try.isAgg224
  z76 := Try.sizeOf224
  v76 := Try.zeroValue224
  t77 := Try.underlying225
  a77 := Try.isAgg225
  z77 := Try.sizeOf225
  v77 := Try.zeroValue225 }
def Try.sort66_ren : Go.Shelf.Ren := ⟨fun | 6 => 66 | 15 => 82 | 14 => 84 | 28 => 103 | 29 => 104 | 20 => 105 | 21 => 106 | 22 => 107 | 23 => 108 | 24 => 109 | 25 => 110 | 26 => 111 | 27 => 112 | 46 => 124 | 47 => 120 | 48 => 121 | 49 => 125 | 50 => 126 | 57 => 136 | n => n, fun | 22 => 45 | 24 => 23 | 25 => 96 | 3 => 3 | 39 => 165 | 0 => 0 | 53 => 188 | 55 => 190 | 4 => 4 | 46 => 182 | 45 => 181 | 50 => 88 | 5 => 5 | 9 => 9 | 66 => 208 | 70 => 212 | 76 => 224 | 77 => 225 | n => n, fun | n => n⟩
theorem Try.sort66 : Go.Proofs.SlLaysF0.n6 Try.prog Try.sort66_ren := {
  mixed := by kernel_rfl
  f6 := ⟨Try.f66.name, by decide, Try.func66.trans (congrArg some (by kernel_rfl))⟩
  f14 := ⟨Try.f84.name, by decide, Try.func84.trans (congrArg some (by kernel_rfl))⟩
  f15 := Try.func82.trans (congrArg some (by kernel_rfl))
  f20 := ⟨Try.f105.name, by decide, Try.func105.trans (congrArg some (by kernel_rfl))⟩
  f21 := ⟨Try.f106.name, by decide, Try.func106.trans (congrArg some (by kernel_rfl))⟩
  f22 := ⟨Try.f107.name, by decide, Try.func107.trans (congrArg some (by kernel_rfl))⟩
  f23 := ⟨Try.f108.name, by decide, Try.func108.trans (congrArg some (by kernel_rfl))⟩
  f24 := ⟨Try.f109.name, by decide, Try.func109.trans (congrArg some (by kernel_rfl))⟩
  f25 := ⟨Try.f110.name, by decide, Try.func110.trans (congrArg some (by kernel_rfl))⟩
  f26 := ⟨Try.f111.name, by decide, Try.func111.trans (congrArg some (by kernel_rfl))⟩
  f27 := ⟨Try.f112.name, by decide, Try.func112.trans (congrArg some (by kernel_rfl))⟩
  f28 := Try.func103.trans (congrArg some (by kernel_rfl))
  f29 := Try.func104.trans (congrArg some (by kernel_rfl))
  f46 := ⟨Try.f124.name, by decide, Try.func124.trans (congrArg some (by kernel_rfl))⟩
  f47 := Try.func120.trans (congrArg some (by kernel_rfl))
  f48 := Try.func121.trans (congrArg some (by kernel_rfl))
  f49 := ⟨Try.f125.name, by decide, Try.func125.trans (congrArg some (by kernel_rfl))⟩
  f50 := ⟨Try.f126.name, by decide, Try.func126.trans (congrArg some (by kernel_rfl))⟩
  f57 := ⟨Try.f136.name, by decide, Try.func136.trans (congrArg some (by kernel_rfl))⟩
  t0 := Try.underlying0
  a0 := Try.isAgg0
  z0 := Try.sizeOf0
  v0 := Try.zeroValue0
  t3 := Try.underlying3
  a3 := Try.isAgg3
  z3 := Try.sizeOf3
  v3 := Try.zeroValue3
  t4 := Try.underlying4
  a4 := Try.isAgg4
  z4 := Try.sizeOf4
  v4 := Try.zeroValue4
  t5 := Try.underlying5
  a5 := Try.isAgg5
  z5 := Try.sizeOf5
  v5 := Try.zeroValue5
  t9 := Try.underlying9
  a9 := Try.isAgg9
  z9 := Try.sizeOf9
  v9 := Try.zeroValue9
  t22 := Try.underlying45
  a22 := Try.isAgg45
  z22 := Try.sizeOf45
  v22 := Try.zeroValue45
  t25 := Try.underlying96
  a25 := Try.isAgg96
  z25 := Try.sizeOf96
  v25 := Try.zeroValue96
  t39 := Try.underlying165
  a39 := Try.isAgg165
  z39 := Try.sizeOf165
  v39 := Try.zeroValue165
  t45 := Try.underlying181
  a45 := Try.isAgg181
  z45 := Try.sizeOf181
  v45 := Try.zeroValue181
  t46 := Try.underlying182
  a46 := Try.isAgg182
  z46 := Try.sizeOf182
  v46 := Try.zeroValue182
  t50 := Try.underlying88
  a50 := Try.isAgg88
  z50 := Try.sizeOf88
  v50 := Try.zeroValue88
  t53 := Try.underlying188
  a53 := Try.isAgg188
  z53 := Try.sizeOf188
  v53 := Try.zeroValue188
  t55 := Try.underlying190
  a55 := Try.isAgg190
  z55 := Try.sizeOf190
  v55 := Try.zeroValue190
  t66 := Try.underlying208
  a66 := Try.isAgg208
  z66 := Try.sizeOf208
  v66 := Try.zeroValue208
  t70 := Try.underlying212
  a70 := Try.isAgg212
  z70 := Try.sizeOf212
  v70 := Try.zeroValue212
  t76 := Try.underlying224
  a76 := Try.isAgg224
  z76 := Try.sizeOf224
  v76 := Try.zeroValue224
  t77 := Try.underlying225
  a77 := Try.isAgg225
  z77 := Try.sizeOf225
  v77 := Try.zeroValue225 }
def Try.sort137_ren : Go.Shelf.Ren := ⟨fun | 6 => 137 | 15 => 82 | 14 => 141 | 28 => 103 | 29 => 104 | 20 => 143 | 21 => 144 | 22 => 145 | 23 => 146 | 24 => 147 | 25 => 148 | 26 => 149 | 27 => 150 | 46 => 151 | 47 => 120 | 48 => 121 | 49 => 152 | 50 => 153 | 57 => 154 | n => n, fun | 22 => 216 | 24 => 25 | 25 => 229 | 3 => 3 | 39 => 165 | 0 => 0 | 53 => 188 | 55 => 190 | 4 => 4 | 46 => 182 | 45 => 181 | 50 => 88 | 5 => 5 | 9 => 9 | 66 => 208 | 70 => 212 | 76 => 224 | 77 => 225 | n => n, fun | n => n⟩
theorem Try.sort137 : Go.Proofs.SlLaysF0.n6 Try.prog Try.sort137_ren := {
  mixed := by kernel_rfl
  f6 := ⟨Try.f137.name, by decide, Try.func137.trans (congrArg some (by kernel_rfl))⟩
  f14 := ⟨Try.f141.name, by decide, Try.func141.trans (congrArg some (by kernel_rfl))⟩
  f15 := Try.func82.trans (congrArg some (by kernel_rfl))
  f20 := ⟨Try.f143.name, by decide, Try.func143.trans (congrArg some (by kernel_rfl))⟩
  f21 := ⟨Try.f144.name, by decide, Try.func144.trans (congrArg some (by kernel_rfl))⟩
  f22 := ⟨Try.f145.name, by decide, Try.func145.trans (congrArg some (by kernel_rfl))⟩
  f23 := ⟨Try.f146.name, by decide, Try.func146.trans (congrArg some (by kernel_rfl))⟩
  f24 := ⟨Try.f147.name, by decide, Try.func147.trans (congrArg some (by kernel_rfl))⟩
  f25 := ⟨Try.f148.name, by decide, Try.func148.trans (congrArg some (by kernel_rfl))⟩
  f26 := ⟨Try.f149.name, by decide, Try.func149.trans (congrArg some (by kernel_rfl))⟩
  f27 := ⟨Try.f150.name, by decide, Try.func150.trans (congrArg some (by kernel_rfl))⟩
  f28 := Try.func103.trans (congrArg some (by kernel_rfl))
  f29 := Try.func104.trans (congrArg some (by kernel_rfl))
  f46 := ⟨Try.f151.name, by decide, Try.func151.trans (congrArg some (by kernel_rfl))⟩
  f47 := Try.func120.trans (congrArg some (by kernel_rfl))
  f48 := Try.func121.trans (congrArg some (by kernel_rfl))
  f49 := ⟨Try.f152.name, by decide, Try.func152.trans (congrArg some (by kernel_rfl))⟩
  f50 := ⟨Try.f153.name, by decide, Try.func153.trans (congrArg some (by kernel_rfl))⟩
  f57 := ⟨Try.f154.name, by decide, Try.func154.trans (congrArg some (by kernel_rfl))⟩
  t0 := Try.underlying0
  a0 := Try.isAgg0
  z0 := Try.sizeOf0
  v0 := Try.zeroValue0
  t3 := Try.underlying3
  a3 := Try.isAgg3
  z3 := Try.sizeOf3
  v3 := Try.zeroValue3
  t4 := Try.underlying4
  a4 := Try.isAgg4
  z4 := Try.sizeOf4
  v4 := Try.zeroValue4
  t5 := Try.underlying5
  a5 := Try.isAgg5
  z5 := Try.sizeOf5
  v5 := Try.zeroValue5
  t9 := Try.underlying9
  a9 := Try.isAgg9
  z9 := Try.sizeOf9
  v9 := Try.zeroValue9
  t22 := Try.underlying216
  a22 := Try.isAgg216
  z22 := Try.sizeOf216
  v22 := Try.zeroValue216
  t25 := Try.underlying229
  a25 := Try.isAgg229
  z25 := Try.sizeOf229
  v25 := Try.zeroValue229
  t39 := Try.underlying165
  a39 := Try.isAgg165
  z39 := Try.sizeOf165
  v39 := Try.zeroValue165
  t45 := Try.underlying181
  a45 := Try.isAgg181
  z45 := Try.sizeOf181
  v45 := Try.zeroValue181
  t46 := Try.underlying182
  a46 := Try.isAgg182
  z46 := Try.sizeOf182
  v46 := Try.zeroValue182
  t50 := Try.underlying88
  a50 := Try.isAgg88
  z50 := Try.sizeOf88
  v50 := Try.zeroValue88
  t53 := Try.underlying188
  a53 := Try.isAgg188
  z53 := Try.sizeOf188
  v53 := Try.zeroValue188
  t55 := Try.underlying190
  a55 := Try.isAgg190
  z55 := Try.sizeOf190
  v55 := Try.zeroValue190
  t66 := Try.underlying208
  a66 := Try.isAgg208
  z66 := Try.sizeOf208
  v66 := Try.zeroValue208
  t70 := Try.underlying212
  a70 := Try.isAgg212
  z70 := Try.sizeOf212
  v70 := Try.zeroValue212
  t76 := Try.underlying224
  a76 := Try.isAgg224
  z76 := Try.sizeOf224
  v76 := Try.zeroValue224
  t77 := Try.underlying225
  a77 := Try.isAgg225
  z77 := Try.sizeOf225
  v77 := Try.zeroValue225 }
end Go.Proofs

/- maps.Keys of a map keyed by life.Key; slices.AppendSeq over it (printed by turnkeys.py) -/
namespace Go.Proofs.Ytobopbjedojebaa
set_option linter.all false
open Go.RowKit Go.ChangeMaps Go.Sort Go.Shelf
set_option maxRecDepth 100000 in
set_option maxHeartbeats 4000000 in
theorem kva_iter {α : Type} [Inhabited α] (cl : α → List Value) (hcl : ∀ x, (cl x).length = 4) (h1 : ∀ x, ∀ u ∈ cl x, u.oneCell' = true) (F : Fence) (n : Nat) (hf : F.fn 61) (hro : F.round = none) (hn : 1 ≤ n)
    (bx b : Nat) (es : Array MapEntry) (clk : Nat) (l : List α) (w : World) (tb : TypeId) (hbx : w.heap[bx]? = some (.cells #[.map (some b)] tb (0, 0))) (hb : w.heap[b]? = some (.map es clk))
    (hval : es.toList.map (·.key) = l.map fun x => .agg (cl x).toArray) (hborn : ∀ x ∈ es.toList, x.born < clk) (hnd : (es.toList.map (·.born)).Nodup) :
    SeqStops F n Try.prog 61 #[.pointer (some ⟨bx, 0, none⟩)] (fun x => .agg (cl x).toArray) (fun xs => xs.Perm l) (fun _ => True) l.length w := by
  intro lp J Jx W hW hJ hJx hY h0
  have hbxl : bx < w.heap.size := (Array.getElem?_eq_some_iff.1 hbx).1
  have hbl : b < w.heap.size := (Array.getElem?_eq_some_iff.1 hb).1
  have hbx1 : W.heap[bx]? = some (.cells #[.map (some b)] tb (0, 0)) := (hW.block bx hbxl).trans hbx
  have hb1 : W.heap[b]? = some (.map es clk) := (hW.block b hbl).trans hb
  have hc1 : W.cell? ⟨bx, 0, none⟩ = some (.map (some b)) := by simp [World.cell?, hbx1]
  have hsz := hW.size
  refine callsIn_of_wp Try.func61 rfl hf ?_ hro
  simp only [Try.ntmps61, List.size_toArray, List.length_cons, List.length_nil, Nat.reduceAdd, Nat.reduceSub, Array.replicate_succ, Array.replicate_zero, List.push_toArray, List.append_toArray, List.nil_append, List.cons_append]
  gi_wp2_with (first
    | (gi_at_range; refine walk_range _ rfl _ _ rfl _ _ Try.underlying74 b es clk rfl hb1 ?_)
    | gi_in)
  gi_loopw [3] (fun _ wr => ∃ (seen : Array Nat) (is : List Nat), wr.heap[W.heap.size]? = some (.mapIter (some b) clk seen clk) ∧ wr.heap[b]? = some (.map es clk) ∧ W.heap.size ≤ wr.heap.size ∧ Came es seen is ∧ J (is.map fun i => l.getD i default) wr)
    (fun _ wr => es.size - seenN wr W.heap.size)
  case atStart =>
    refine ⟨#[], [], World.alloc_heap_new W _, (Below.heap_alloc _ _ b (by omega)).trans hb1, by simp, Came.nil es, ?_⟩
    exact hJ [] W _ none h0 (World.grownBy_alloc W _ none) (fun r e => by cases e)
  case round =>
    obtain ⟨seen, is, hr1, hr2, hr3, hC, hJs⟩ := hrel
    gi_wp2_with (first
      | (gi_at_next; refine walk_next _ rfl _ rfl W.heap.size b clk es seen rfl hr1 hr2 hborn ?_ ?_)
      | gi_in)
    · intro hl0
      gi_wp2
      go_end0
      refine ⟨⟨_, rfl⟩, .inl ⟨_, ?_, hJs⟩⟩
      have hp := hC.all hnd hl0
      have hlen : es.size = l.length := by have := congrArg List.length hval; simpa using this
      rw [hlen] at hp
      have := hp.map fun i => l.getD i default
      rwa [range_getD_map] at this
    · intro e w2 he hst
      obtain ⟨i, hi, hC2⟩ := hC.step hnd he
      have hil : i < es.size := (Array.getElem?_eq_some_iff.1 hi).1
      have hlen : es.size = l.length := by have := congrArg List.length hval; simpa using this
      have hv : e.key = .agg (cl (l.getD i default)).toArray := by
        have := congrArg (fun q => q[i]?) hval
        simp only [List.getElem?_map, Array.getElem?_toList, hi, Option.map_some] at this
        rw [List.getElem?_eq_getElem (by omega)] at this
        simpa [List.getD, show i < l.length by omega] using this
      have hmem : e ∈ es.toList := by
        rw [List.mem_iff_getElem?]
        exact ⟨i, by rw [Array.getElem?_toList]; exact hi⟩
      have hne : b ≠ W.heap.size := by omega
      have hb2 : w2.heap[b]? = some (.map es clk) := (hst.grown.block b (by omega) (by simpa using hne)).trans hr2
      have hJ2 := hJ _ _ w2 _ hJs hst.grown (fun r e => by cases e; exact ⟨Nat.le_refl _, _, hr1, rfl⟩)
      have hs2 := hst.size
      have hWr : W.heap.size < wr.heap.size := (Array.getElem?_eq_some_iff.1 hr1).1
      have hr2' := hst.at_
      obtain ⟨x, hx⟩ : ∃ x, l.getD i default = x := ⟨_, rfl⟩
      rw [hx] at hv
      have hJ3 : J (is.map fun i => l.getD i default) (w2.alloc (.cells (cl x).toArray 37)) := hJ _ _ _ none hJ2 (World.grownBy_alloc w2 _ none) (fun r e => by cases e)
      have hlt : (is.map fun i => l.getD i default).length < l.length := by
        have := nodup_lt _ _ hC2.nd hC2.lt
        simp at this ⊢; omega
      obtain ⟨fn, tmps, assign, body, hy, hR⟩ := hY _ x _ hJ3 hlt
      have hcs : (cl x).toArray.size = 4 := by simp [hcl]
      have hone : ∀ u ∈ (cl x).toArray.toList, u.oneCell' = true := by simpa using h1 x
      have hso : ∀ w, (Go.sizeOf 37).run Try.prog w = .ok (cl x).toArray.size w := fun w => by rw [hcs]; exact Try.sizeOf37 w
      generalize (cl x).toArray = c at hv hy hR hcs hone hso
      clear hJ3 hJ2 hJs h1 hcl
      gi_wp2_with (first
        | (refine walk_entry _ rfl _ rfl W.heap.size b clk es seen e rfl hr2' hb2 hmem hnd ?_)
        | (refine walk_store _ rfl rfl _ _ 37 rfl 4 (by kernel_rfl) wr.heap.size _ c 37 rfl (alloc_at hs2 _) rfl rfl hcs hone ?_; rw [alloc_setRow2 hs2])
        | (refine walk_load _ rfl _ 37 rfl wr.heap.size c 37 Try.isAgg37 hso rfl (alloc_at hs2 _) ?_)
        | gi_in)
      refine hR.mono ?_
      rintro e2 W3 (⟨rfl, hJ4, hk3⟩ | ⟨rfl, hJx4⟩)
      · gi_wp2
        have ha : (w2.alloc (.cells c 37)).heap[W.heap.size]? = some (.mapIter (some b) clk (seen.push e.born) clk) := (Below.heap_alloc _ _ _ (by omega)).trans hr2'
        have hb3 : (w2.alloc (.cells c 37)).heap[b]? = some (.map es clk) := (Below.heap_alloc _ _ _ (by omega)).trans hb2
        have ha3 := hk3.same _ _ ha rfl
        go_roundw
        case rel =>
          refine ⟨_, is ++ [i], ha3, hk3.same _ _ hb3 rfl, ?_, hC2, ?_⟩
          · have := hk3.size; simp at this; omega
          · rw [List.map_append, List.map_singleton, hx]; exact hJ4
        case measure =>
          have q1 : seenN W3 W.heap.size = seen.size + 1 := by simp [seenN, ha3]
          have q2 : seenN wr W.heap.size = seen.size := by simp [seenN, hr1]
          have q3 := hC2.size
          have q4 := nodup_lt _ _ hC2.nd hC2.lt
          simp only [Array.size_push, List.length_append, List.length_singleton] at q3 q4
          rw [q1, q2]; omega
      · gi_wp2
        (try simp only [Exit.inBlock, Exit.then]); refine bodyPost_ret (results_none rfl _ _ _) rfl ?_
        exact ⟨⟨_, rfl⟩, .inr ⟨_, trivial, hJx4⟩⟩

/-- Between two rounds. -/
structure kApI {α : Type} (cl : α → List Value) (w : World) (xs : List α) (W : World) : Prop where
  box : ∃ v, W.heap[w.heap.size]? = some (.cells #[v] 38 (0, 0)) ∧ W.ownsRow w.heap.size 37 4 v xs.length (xs.flatMap cl)
  below : Below w.heap.size w W
theorem kApI.own {α : Type} (cl : α → List Value) (w : World) (B : Nat) (hB : w.heap.size ≤ B) : OwnFrom B (kApI cl w) := by
  intro xs W W' row h hg hr
  obtain ⟨v, hv, hrow⟩ := h.box
  refine ⟨⟨v, (grownBy_keeps_cells hg (fun r e => (hr r e).2) hv rfl).trans hv, row_own hrow hg fun r e => (hr r e).2⟩, h.below.grown hg h.below.size fun k e => Nat.le_trans hB (hr k e).1⟩
set_option maxRecDepth 100000 in
set_option maxHeartbeats 4000000 in
theorem kva_app {α : Type} [Inhabited α] (cl : α → List Value) (hcl : ∀ x, (cl x).length = 4) (h1 : ∀ x, ∀ u ∈ cl x, u.oneCell' = true) (F : Fence) (n : Nat) (hf : F.fn 61)
    (hf2 : F.fn 80) (hro : F.round = none) (hn : 3 ≤ n)
    (bx b : Nat) (es : Array MapEntry) (clk : Nat) (l : List α) (w : World) (tb : TypeId) (hbx : w.heap[bx]? = some (.cells #[.map (some b)] tb (0, 0))) (hb : w.heap[b]? = some (.map es clk))
    (hval : es.toList.map (·.key) = l.map fun x => .agg (cl x).toArray) (hborn : ∀ x ∈ es.toList, x.born < clk) (hnd : (es.toList.map (·.born)).Nodup) (hl : l.length ≤ 1000000) :
    CallsIn F n Try.prog 80 #[.slice none 0 0, .func (.func 61) #[] #[.pointer (some ⟨bx, 0, none⟩)]] w fun e W' =>
      ∃ (v : Value) (xs : List α), e = .returned v ∧ xs.Perm l ∧ W'.ownsRow w.heap.size 37 4 v xs.length (xs.flatMap cl) ∧ Below w.heap.size w W' := by
  have hbxl : bx < w.heap.size := (Array.getElem?_eq_some_iff.1 hbx).1
  have hbl : b < w.heap.size := (Array.getElem?_eq_some_iff.1 hb).1
  have hmx : maxLen = 9223372036854775807 := rfl
  refine callsIn_of_wp_marks Try.func80 rfl hf2 ?_ hro
  simp only [Try.ntmps80, List.size_toArray, List.length_cons, List.length_nil, Nat.reduceAdd, Nat.reduceSub, Array.replicate_succ, Array.replicate_zero, List.push_toArray, List.append_toArray, List.nil_append, List.cons_append]
  gi_wp2
  obtain ⟨W0, hW0⟩ : ∃ W0, w.alloc (.cells #[.slice none 0 0] 38) = W0 := ⟨_, rfl⟩
  rw [hW0]
  have hs0 : W0.heap.size = w.heap.size + 1 := by rw [← hW0]; simp
  have hv0 : W0.heap[w.heap.size]? = some (.cells #[.slice none 0 0] 38 (0, 0)) := by rw [← hW0]; exact World.alloc_heap_new w _
  have hB0 : Below w.heap.size w W0 := by rw [← hW0]; exact (Below.refl _ w).alloc (Nat.le_refl _) _
  have hbx0 : W0.heap[bx]? = some (.cells #[.map (some b)] tb (0, 0)) := (hB0.block bx hbxl).trans hbx
  have hb0 : W0.heap[b]? = some (.map es clk) := (hB0.block b hbl).trans hb
  obtain ⟨i0, hi, hz0, hz1, hz2⟩ := info_parts (P := Try.prog) (e := 37) (z := .agg #[.string ⟨#[]⟩, .int .i64 0, .bool false, .int .i64 0]) (size := 4) (bytes := 40) (by kernel_rfl)
  refine walk_seq (pt := 7) hro (by omega) (gf := 61) (lb := #[.pointer (some ⟨bx, 0, none⟩)]) rfl hf (enters_of Try.func61 (by kernel_rfl) rfl)
    (kva_iter cl hcl h1 F (n - 1) hf hro (by omega) bx b es clk l W0 tb hbx0 hb0 hval hborn hnd) (kApI cl w) (kApI.own cl w _ (by omega)) ⟨⟨_, hv0, ⟨rfl, .inl ⟨rfl, rfl⟩⟩⟩, hB0⟩
    (fun x => .cells (cl x).toArray 37 (0, 0)) (fun _ => rfl)
    (fun x p => { tmps := #[.slice none 0 0, .func (.func 61) #[] #[.pointer (some ⟨bx, 0, none⟩)], .pointer (some ⟨w.heap.size, 0, none⟩), undef, .slice none 0 0, .pointer (some ⟨p, 0, none⟩), .func (.func 61) #[] #[.pointer (some ⟨bx, 0, none⟩)], .agg (cl x).toArray, undef, undef, undef, undef, undef], defers := [] }) ?_ ?_ ?_
  · intro lp x W K hK
    have hcs : (cl x).toArray.size = 4 := by simp [hcl]
    have hone : ∀ u ∈ (cl x).toArray.toList, u.oneCell' = true := by simpa using h1 x
    generalize (cl x).toArray = c at hK hcs hone
    gi_wp2_with (first
      | (refine walk_store _ rfl rfl _ _ 37 rfl 4 (by kernel_rfl) W.heap.size _ c 37 rfl (alloc_at rfl _) rfl rfl hcs hone ?_; rw [alloc_setRow2 rfl])
      | (rw [Oper.semAt_eq _ _ _ (fun c h => by cases h)]; go_simp; try go_bits))
    exact hK
  · intro lp pre x W p hI hlen hp hwp
    obtain ⟨⟨v, hv, hrow⟩, hbel⟩ := hI
    have hcv : W.cell? ⟨w.heap.size, 0, none⟩ = some v := by simp [World.cell?, hv]
    have hfv : W.frozen? ⟨w.heap.size, 0, none⟩ = false := by simp [World.frozen?, hv]
    have hBlt : w.heap.size < W.heap.size := (Array.getElem?_eq_some_iff.1 hv).1
    have hcs : (cl x).toArray.size = 4 := by simp [hcl]
    have hso : ∀ w, (Go.sizeOf 37).run Try.prog w = .ok (cl x).toArray.size w := fun w => by rw [hcs]; exact Try.sizeOf37 w
    have hcell : ∀ j u, (cl x)[j]? = some u → (W.alloc (.cells (cl x).toArray 37)).cell? ((⟨W.heap.size, 0, none⟩ : Addr).add j) = some u := by
      intro j u hj
      rw [add_mk, cell_of_row _ _ _ _ _ _ (World.alloc_heap_new W _)]
      simpa using hj
    have hlcl := hcl x
    have hfm : (pre ++ [x]).flatMap cl = pre.flatMap cl ++ cl x := by simp
    have hone := h1 x
    have hne : some w.heap.size ≠ v.ownBlock := by
      rcases hrow.2 with ⟨rfl, _⟩ | ⟨g, cap, cur, rfl, _, hgb, _⟩
      · simp [Value.ownBlock]
      · intro e
        have e' : w.heap.size = g := by simpa [Value.ownBlock] using e
        subst e'
        rw [hv] at hgb
        cases hgb
    gi_wp2_with (first
      | (refine walk_load _ rfl _ 37 rfl p (cl x).toArray 37 Try.isAgg37 hso rfl hp ?_)
      | (refine walk_bs1 _ rfl _ 38 37 rfl i0 Try.underlying38 hi _ hz0 4 hz1 rfl (by omega) (by omega) (cl x).toArray rfl hcs ?_)
      | (gi_at_builtin; refine wpListIn_append_own _ rfl _ _ 38 rfl w.heap.size 37 i0 _ 4 40 Try.underlying38 hi hz0 hz1 hz2 rfl (by decide) _ _ _ rfl (hrow.alloc _) ⟨W.heap.size, 0, none⟩ 1 1 (cl x) rfl (by rw [hlcl]) hcell hone (by omega) (by omega) (by simp; omega) ?_; intro v' w3 hown' hg3 hnil3
         have hv3 : w3.heap[w.heap.size]? = some (.cells #[v] 38 (0, 0)) := (hg3.block w.heap.size (by simp; omega) hne).trans ((Below.heap_alloc _ _ _ hBlt).trans hv)
         have hcv3 : w3.cell? ⟨w.heap.size, 0, none⟩ = some v := by simp [World.cell?, hv3]
         have hfv3 : w3.frozen? ⟨w.heap.size, 0, none⟩ = false := by simp [World.frozen?, hv3]
         obtain ⟨g', cap', cur', rfl, hg'⟩ : ∃ g' cap' cur', v' = .slice (some ⟨g', 0, none⟩) (pre.length + 1) cap' ∧ w3.heap[g']? = some (.cells cur' 37 (0, 0)) := by
           rcases hown'.2 with ⟨_, h0⟩ | ⟨g', cap', cur', e, _, q, _⟩
           · exact absurd h0 (by omega)
           · exact ⟨g', cap', cur', e, q⟩)
      | (rw [Oper.semAt_eq _ _ _ (fun c h => by cases h)]; go_simp; try go_bits))
    have hgs := grown_setCell w3 w.heap.size (.slice (some ⟨g', 0, none⟩) (pre.length + 1) cap')
    have hne2 : (Value.slice (some ⟨g', 0, none⟩) (pre.length + 1) cap').ownBlock ≠ some w.heap.size := by
      intro e
      have e' : g' = w.heap.size := by simpa [Value.ownBlock] using e
      subst e'
      rw [hv3] at hg'
      cases hg'
    have hrc : ∀ (j : Nat) (o : Obj), v.ownBlock = some j → (W.alloc (.cells (cl x).toArray 37)).heap[j]? = some o → o.isCells = true := by
      intro j o hj ho
      rcases (hrow.alloc (.cells (cl x).toArray 37)).2 with ⟨rfl, _⟩ | ⟨g, cap, cur, rfl, _, hgb, _⟩
      · simp [Value.ownBlock] at hj
      · have : g = j := by simpa [Value.ownBlock] using hj
        subst this; rw [hgb] at ho; cases ho; rfl
    have hb3 : Below w.heap.size w w3 := (hbel.alloc hbel.size _).grown hg3 (by have := hbel.size; simp; omega) (fun k e => (hrow.lt k e).1)
    refine ⟨((KeepsOthers.alloc W _).trans (KeepsOthers.of_grownBy hg3 hrc)).trans (KeepsOthers.setCell _ _ _), ⟨⟨_, heap_setCell_one _ hv3, ?_⟩, hb3.grown hgs hb3.size (fun k e => by cases e; exact Nat.le_refl _)⟩⟩
    rw [hfm, List.length_append, List.length_singleton]
    exact hown'.kept hgs (.inr hne2)
  · intro D xs W hD hS hI hK
    obtain ⟨⟨v, hv, hrow⟩, hbel⟩ := hI
    have hcv : W.cell? ⟨w.heap.size, 0, none⟩ = some v := by simp [World.cell?, hv]
    gi_wp2
    refine ⟨by simp, .inl ⟨_, _, rfl, run_takeDeferred hK, ?_⟩⟩
    have hgp := grownBy_putObj' W D (.deferred none)
    exact ⟨_, results_tmp rfl _ _ _, v, xs, rfl, hS, row_own hrow hgp (fun r e => by cases e; exact ⟨_, hK, rfl⟩), hbel.grown hgp hbel.size (fun k e => by cases e; omega)⟩
end Go.Proofs.Ytobopbjedojebaa

/- A slice of aggregates that the call has built, sorted by the library. -/
namespace Go.Proofs.Ytobopbjedojebaa
set_option linter.all false
open Go.RowKit Go.Sort
section
variable {α : Type} [Inhabited α] {cl : α → List Value} {k : Nat}
theorem flat_getD (hcl : ∀ x, (cl x).length = k) : ∀ (xs : List α) (i j : Nat), i < xs.length → j < k → (xs.flatMap cl)[i * k + j]? = (cl (xs[i]?.getD default))[j]?
  | [], i, j, h, _ => by simp at h
  | x :: xs, 0, j, _, hj => by
    rw [List.flatMap_cons, List.getElem?_append_left (by rw [hcl]; omega)]; simp
  | x :: xs, i + 1, j, h, hj => by
    rw [List.flatMap_cons, List.getElem?_append_right (by rw [hcl, Nat.add_mul]; omega), hcl]
    have : (i + 1) * k + j - k = i * k + j := by rw [Nat.add_mul]; omega
    rw [this, flat_getD hcl xs i j (by simpa using h) hj]; simp
theorem flat_len (hcl : ∀ x, (cl x).length = k) : ∀ xs : List α, (xs.flatMap cl).length = xs.length * k
  | [] => by simp
  | x :: xs => by rw [List.flatMap_cons, List.length_append, hcl, flat_len hcl xs, List.length_cons, Nat.add_mul]; omega
theorem flatK_eq (hcl : ∀ x, (cl x).length = k) (hk : 0 < k) (xs : List α) : flatK cl k xs.toArray = (xs.flatMap cl).toArray := by
  apply Array.ext
  · simp [flat_len hcl]
  · intro t h1 h2
    rw [size_flatK] at h1
    have ht : t < xs.length * k := by simpa using h1
    have hi : t / k < xs.length := (Nat.div_lt_iff_lt_mul hk).2 ht
    have hj : t % k < k := Nat.mod_lt _ hk
    have e : t / k * k + t % k = t := by rw [Nat.mul_comm]; exact Nat.div_add_mod t k
    have hf := flat_getD hcl xs (t / k) (t % k) hi hj
    rw [e] at hf
    have h3 : t < (xs.flatMap cl).length := by rw [flat_len hcl]; exact ht
    rw [List.getElem?_eq_getElem h3, List.getElem?_eq_getElem (by rw [hcl]; exact hj)] at hf
    simp only [List.getElem_toArray]
    rw [Option.some.inj hf]
    simp only [flatK, Array.getElem_map, Array.getElem_range]
    have hj2 : t % k < (cl (xs[t / k]?.getD default)).length := by rw [hcl]; exact hj
    have e3 : (xs.toArray[t / k]! : α) = xs[t / k]?.getD default := by simp [hi]
    rw [e3, List.getElem!_eq_getElem?_getD, List.getElem?_eq_getElem hj2]; rfl
theorem holdsK_of_block {w : World} {g : Nat} {cur : Array Value} {e : TypeId} {xs : List α} (hcl : ∀ x, (cl x).length = k) (hk : 0 < k) (hb : w.heap[g]? = some (.cells cur e (0, 0))) (ht : cur.toList.take (xs.length * k) = xs.flatMap cl) : HoldsK cl k w g 0 xs.toArray := by
  unfold HoldsK
  rw [flatK_eq hcl hk]
  intro j hj
  have hj' : j < (xs.flatMap cl).length := by simpa using hj
  have hj2 : j < xs.length * k := by rw [← flat_len hcl]; exact hj'
  refine ⟨?_, by simp [World.frozen?, hb]⟩
  have h1 : (cur.toList.take (xs.length * k))[j]? = (xs.flatMap cl)[j]? := by rw [ht]
  rw [List.getElem?_take_of_lt hj2] at h1
  simp only [World.cell?, hb, Nat.zero_add, Option.isSome_none, Bool.false_eq_true, if_false]
  rw [← Array.getElem?_toList, h1, List.getElem?_eq_getElem hj']
  simp [List.getElem?_eq_getElem hj']
theorem grown_sortK {w : World} {g n : Nat} {os : Array Obj} (d : Array α) : w.grownBy (sortWorldK cl k w g 0 n d os) (some g) := by
  refine ⟨rfl, rfl, rfl, by simp [sortWorldK, putRowK, putRow, mapBlock, grow, Sort.ahead], fun j hj hne => ?_⟩
  have hgj : g ≠ j := fun e => hne (by rw [e])
  unfold sortWorldK
  rw [heap_grow_old _ _ (by simpa [putRowK, putRow, mapBlock, Sort.ahead] using hj)]
  simp [putRowK, putRow, mapBlock, Sort.ahead, Array.getElem?_modify, hgj]
theorem ownsRow_sortK {w : World} {base g cap n : Nat} {e : TypeId} {os : Array Obj} {cur : Array Value} {xs ds : List α} (hcl : ∀ x, (cl x).length = k) (hk : 0 < k) (hl : ds.length = xs.length) (hbase : base ≤ g) (hb : w.heap[g]? = some (.cells cur e (0, 0)))
    (h1 : xs.length ≤ cap) (h2 : cap ≤ maxLen) (h3 : cur.size = cap * k) : (sortWorldK cl k w g 0 n ds.toArray os).ownsRow base e k (.slice (some ⟨g, 0, none⟩) xs.length cap) xs.length (ds.flatMap cl) := by
  have hg : g < w.heap.size := (Array.getElem?_eq_some_iff.1 hb).1
  have hfl : (ds.flatMap cl).length = xs.length * k := by rw [flat_len hcl, hl]
  have hle : xs.length * k ≤ cap * k := Nat.mul_le_mul_right k h1
  have hh : (sortWorldK cl k w g 0 n ds.toArray os).heap[g]? = some (.cells (putCells id 0 (ds.flatMap cl).toArray cur) e (0, 0)) := by
    unfold sortWorldK
    rw [heap_grow_old _ _ (by simpa [putRowK, putRow, mapBlock, Sort.ahead] using hg)]
    simp [putRowK, putRow, mapBlock, Sort.ahead, Array.getElem?_modify, hb, onCells, flatK_eq hcl hk]
  refine ⟨hfl, .inr ⟨g, cap, _, rfl, hbase, hh, h1, h2, by simp [putCells, h3], ?_⟩⟩
  apply List.ext_getElem?
  intro j
  by_cases hj : j < xs.length * k
  · rw [List.getElem?_take_of_lt hj, Array.getElem?_toList]
    have hjc : j < cur.size := by omega
    have hjd : j < (ds.flatMap cl).length := by omega
    simp only [putCells, Array.getElem?_mapIdx, Array.getElem?_eq_getElem hjc, Option.map_some, Nat.zero_le, true_and, Nat.zero_add, List.size_toArray, hjd, if_true, Nat.sub_zero, id]
    rw [List.getElem?_eq_getElem hjd]
    simp [List.getElem?_eq_getElem hjd]
  · rw [List.getElem?_take_eq_none (by omega), List.getElem?_eq_none (by omega)]
end
/-- What the call has built reads as a slice that is its holder's alone. -/
theorem row_VR {W W' : World} {U : Nat → Nat → Prop} {e k n : Nat} {v : Value} {xs : List Value} {els : List (List AV)} (hk : 0 < k) (hb : RowKit.Below W.heap.size W W') (hrow : W'.ownsRow W.heap.size e k v n xs) (hn : els.length = n) (hsz : ∀ l ∈ els, l.length = k) (hone : ∀ u ∈ xs, u.oneCell' = true)
    (hv : ∀ (i j : Nat) (l : List AV) (c : AV) (u : Value), els[i]? = some l → l[j]? = some c → xs[i * k + j]? = some u → ∀ W U, VR W U u c) :
    ∃ U', VR W' U' v (.sl (some e) k els) ∧ OwnRow W' U' (W.heap.size ≤ ·) v e k els.length ∧ Ext W U W' U' := by
  subst hn
  obtain ⟨hlen, hnil | ⟨g, cap, cur, rfl, hbase, hgb, h1, h2, h3, h4⟩⟩ := hrow
  · obtain ⟨rfl, h0⟩ := hnil
    have : els = [] := List.eq_nil_of_length_eq_zero h0
    subst this
    exact ⟨fun b o => if b < W.heap.size then U b o else False, VR.nil _ _, .inl ⟨rfl, rfl⟩, hb, fun j hj o => by simp [hj]⟩
  · have hcell : ∀ t, t < els.length * k → ∃ u, xs[t]? = some u ∧ W'.cell? ⟨g, t, none⟩ = some u := by
      intro t ht
      have ht' : t < xs.length := by omega
      refine ⟨xs[t], List.getElem?_eq_getElem ht', ?_⟩
      have q : (cur.toList.take (els.length * k))[t]? = xs[t]? := by rw [h4]
      rw [List.getElem?_take_of_lt ht, Array.getElem?_toList, List.getElem?_eq_getElem ht'] at q
      simp only [World.cell?, hgb, Option.isSome_none, Bool.false_eq_true, if_false]
      exact q
    refine ⟨fun b o => if b < W.heap.size then U b o else (b = g ∧ els.length * k ≤ o), ?_, .inr ⟨g, cap, cur, rfl, hbase, hgb, h1, h2, h3, fun o ho => ?_, fun o ho => ?_⟩, hb, fun j hj o => by simp [hj]⟩
    · refine .sl (some ⟨g, 0, none⟩) cap (some e) els g 0 k (fun i j => (xs[i * k + j]?).getD undef) h1 h2 (fun _ => rfl) hsz (fun i j hi hj => ?_) (fun i l j c hl hc => ?_)
      · have ht : i * k + j < els.length * k := by
          have := Nat.mul_le_mul_right k (show i + 1 ≤ els.length from hi)
          rw [Nat.add_mul, Nat.one_mul] at this; omega
        obtain ⟨u, q1, q2⟩ := hcell _ ht
        rw [q1, Nat.zero_add]
        refine ⟨q2, hone u (List.mem_of_getElem? q1), ?_⟩
        simp only [show ¬ g < W.heap.size by omega, if_false]
        omega
      · have hi : i < els.length := (List.getElem?_eq_some_iff.1 hl).1
        have hj : j < k := by rw [← hsz l (List.mem_of_getElem? hl)]; exact (List.getElem?_eq_some_iff.1 hc).1
        have ht : i * k + j < els.length * k := by
          have := Nat.mul_le_mul_right k (show i + 1 ≤ els.length from hi)
          rw [Nat.add_mul, Nat.one_mul] at this; omega
        obtain ⟨u, q1, _⟩ := hcell _ ht
        rw [q1]
        exact hv i j l c u hl hc q1 _ _
    · simp only [show ¬ g < W.heap.size by omega, if_false]; omega
    · simp only [show ¬ g < W.heap.size by omega, if_false]; exact ⟨trivial, ho⟩
end Go.Proofs.Ytobopbjedojebaa
