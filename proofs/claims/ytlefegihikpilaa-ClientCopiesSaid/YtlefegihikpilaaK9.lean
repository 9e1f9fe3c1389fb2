import Derived.Test.YtlefegihikpilaaK8
import Derived.Maps.RangeWalk
import Derived.OwnWalkIn
import Derived.Sort.MapsRangeIn
import Derived.RangeFuncFrom
import Derived.RangeFuncLeaves
import Derived.TacticsInMore
import Derived.RegionIn
import Derived.LoopNIn
import Derived.LoopIn
import Derived.Maps.RangeRun
import Derived.Maps.AppendAt
import Derived.Shelf.AbstractIn
import Derived.Shelf.SlGeneric
import Derived.Shelf.SlMaps.Clone
import Derived.Ground.SlmcProg
import Derived.Shelf.SlSortCmp.NoneTotal
import Derived.Ground.SlsfProg
import Derived.Test.YtlefegihikpilaaProg
/- The abstract machine: contracts over two objects. -/
namespace Go.Proofs.Ytlefegihikpilaa
set_option linter.all false
open Go.RowKit
theorem lk_sub2 {b c : Nat} {cs ds : List AV} {o : Nat → Option (List AV)} (h : o b = some cs) (g : o c = some ds) : ∀ b' cs', lk [(b, cs), (c, ds)] b' = some cs' → o b' = some cs' := by
  intro b' cs' h'
  rw [lk_cons, lk_cons] at h'
  by_cases hb : b' = b
  · subst hb; rw [if_pos rfl] at h'; rw [h, h']
  · rw [if_neg hb] at h'
    by_cases hc : b' = c
    · subst hc; rw [if_pos rfl] at h'; rw [g, h']
    · rw [if_neg hc] at h'; cases h'
theorem dom2 {α : Type} {b d : Nat} {c c' e e' : α} : ∀ b' cs, lk [(b, c), (d, e)] b' = some cs → ∃ cs', lk [(b, c'), (d, e')] b' = some cs' := by
  intro b' cs h
  rw [lk_cons, lk_cons] at h ⊢
  by_cases hb : b' = b
  · rw [if_pos hb]; exact ⟨_, rfl⟩
  · rw [if_neg hb] at h ⊢
    by_cases hd : b' = d
    · rw [if_pos hd]; exact ⟨_, rfl⟩
    · rw [if_neg hd] at h; cases h
/-- Two new blocks. -/
def NewB2 (o : Nat → Option (List AV)) (K : Nat → Nat → Prop) : Prop := ∀ b c, o b = none → o c = none → ¬ b = c → ¬ c = b → K b c
theorem NewB2_intro {o : Nat → Option (List AV)} {K : Nat → Nat → Prop} (h : ∀ b c, o b = none → o c = none → ¬ b = c → ¬ c = b → K b c) : NewB2 o K := h
section
variable {P : Program} {d : Option Nat} {s : St} {K : St → Prop}
/-- What a function that makes two new objects (a struct, a map that it holds) says: the objects o1 that it was handed become o2. -/
abbrev new2 (o2 : List (Nat × List AV)) (ds : List AV) : AV → (Nat → Option (List AV)) → Prop := fun r' o' => ∃ c m, (¬ c = m ∧ lk o2 c = none ∧ lk o2 m = none) ∧ r' = .ptr c 0 ∧ o' = lk ((c, [.mapv m]) :: (m, ds) :: o2)
theorem CallO_new2 {f : Nat} {vs : List AV} {o1 o2 : List (Nat × List AV)} {ds : List AV} (h : CT P f vs (lk o1) (new2 o2 ds)) (hsub : ∀ b cs, lk o1 b = some cs → s.o b = some cs) (hd : ∀ b, lk o2 b = none → lk o1 b = none)
    (hK : NewB2 s.o (fun c m => KS (St.put ⟨s.t, ovr ((c, [.mapv m]) :: (m, ds) :: o2) s.o⟩ d (.ptr c 0)) K)) : CallO P f vs d s K := by
  refine ⟨lk o1, _, hsub, h, ?_⟩
  rintro r' o' ⟨c, m, ⟨h1, h2, h3⟩, rfl, rfl⟩ hf
  exact hK c m (hf c _ (lk_hd _ _ _) (hd c h2)) (hf m _ (lk_tl (fun e => h1 e.symm) (lk_hd _ _ _)) (hd m h3)) h1 (fun e => h1 e.symm)
theorem ro_new2 {s : St} {rs : List AR} {o1 o2 : List (Nat × List AV)} {ds : List AV} (c m : Nat) (h : resR s rs (.ptr c 0) ∧ LeL ((c, [.mapv m]) :: (m, ds) :: o2) s.o) (h1 : ¬ c = m) (h2 : lk o2 c = none) (h3 : lk o2 m = none) (hd : ∀ b cs, lk o1 b = some cs → ∃ cs', lk o2 b = some cs') : RetO s rs (lk o1) (new2 o2 ds) := by
  refine ⟨_, h.1, lk ((c, [.mapv m]) :: (m, ds) :: o2), LeL_ok h.2, fun b cs hb => ?_, c, m, ⟨h1, h2, h3⟩, rfl, rfl⟩
  obtain ⟨cs', hc⟩ := hd b cs hb
  refine ⟨cs', ?_⟩
  rw [lk_cons, lk_cons, if_neg (fun e => by subst e; rw [hc] at h2; cases h2), if_neg (fun e => by subst e; rw [hc] at h3; cases h3)]
  exact hc
end
end Go.Proofs.Ytlefegihikpilaa

/- The abstract machine: what a library function returns over objects that it only reads; maps.Clone. -/
namespace Go.Proofs.Ytlefegihikpilaa
set_option linter.all false
open Go.RowKit
section
variable {P : Program} {W0 : World} {U0 : Nat → Nat → Prop} {M : Nat → Prop} {W : World} {U : Nat → Nat → Prop}
/-- A result is put down. -/
theorem Inv.res1 {o : Nat → Option (List AV)} (h : Inv 0 W0 U0 M { tmps := #[], defers := [] } W U ⟨fun _ => none, o⟩) {v : Value} {r : AV} (hv : VR W U v r) (ho : Sole W0 M { tmps := #[undef], defers := [] } W U ⟨fun _ => none, o⟩ 0 v r) :
    Inv 1 W0 U0 M { tmps := #[v], defers := [] } W U ⟨upd (fun _ => none) 0 (some r), o⟩ := by
  have h1 : Inv 1 W0 U0 M { tmps := #[undef], defers := [] } W U ⟨fun _ => none, o⟩ := by
    have hc : ∀ {ℓ : Loc} {x : AV}, St.at ⟨fun _ => none, o⟩ ℓ = some x → cat { tmps := #[undef], defers := [] } W ℓ = cat { tmps := #[], defers := [] } W ℓ := by
      intro ℓ x hx
      cases ℓ with
      | t i => simp [St.at] at hx
      | o b j => rfl
    refine ⟨rfl, rfl, h.fr, fun i x hx => (by simp at hx), h.ob, fun ℓ x hx => ?_, fun ℓ ℓ' e sz els e' sz' els' hne h2 h3 => ?_, fun ℓ e sz els h2 => ?_⟩
    · rw [hc hx]; exact h.ow ℓ x hx
    · rw [hc h2, hc h3]; exact h.ap ℓ ℓ' _ _ _ _ _ _ hne h2 h3
    · rw [hc h2]; exact h.no ℓ e sz els h2
  exact h1.put (d := 0) (by omega) hv ho
/-- .. in a world that has grown. -/
theorem Inv.res2 {o : Nat → Option (List AV)} (h : Inv 0 W0 U0 M { tmps := #[], defers := [] } W U ⟨fun _ => none, o⟩) {W' : World} {U' : Nat → Nat → Prop} (he : Ext W U W' U') {v : Value} {r : AV} (hv : VR W' U' v r)
    (ho : ∀ e sz els, r = .sl (some e) sz els → OwnRow W' U' (W.heap.size ≤ ·) v e sz els.length) :
    Inv 1 W0 U0 M { tmps := #[v], defers := [] } W' U' ⟨upd (fun _ => none) 0 (some r), o⟩ := by
  refine (h.ext he).res1 hv fun e sz els hr => ?_
  have hw := ho e sz els hr
  refine ⟨hw.toB fun g hg => .inl (Nat.le_trans h.fr.size (OwnRow.inB hw hg)), fun g hg => ⟨?_, fun ℓ _ ⟨e', sz', els', hl⟩ hg' => ?_⟩⟩
  · cases hs : o g with
    | none => exact hs
    | some cs =>
      have h1 := h.ob_lt g cs hs
      have h2 : W.heap.size ≤ g := OwnRow.inB hw hg
      omega
  · have h2 : W.heap.size ≤ g := OwnRow.inB hw hg
    cases ℓ with
    | t i => simp [St.at] at hl
    | o b j =>
      have hl' : St.at ⟨fun _ => none, o⟩ (.o b j) = some (.sl (some e') sz' els') := hl
      have h5 := h.ow (.o b j) _ hl'
      simp only [Own1] at h5
      have hcat : cat { tmps := #[undef], defers := [] } W' (.o b j) = cat { tmps := #[], defers := [] } W (.o b j) := cat_ext (a := { tmps := #[], defers := [] }) he.b h.ob_lt hl'
      rw [hcat] at hg'
      have := h5.lt hg'
      omega
/-- A library function that reads objects and makes something new. -/
theorem CT_reads {f : Nat} {av : List AV} {o1 : List (Nat × List AV)} {r : AV}
    (h : ∀ (W : World) (U : Nat → Nat → Prop) (vs : List Value), Glob W U → vs.length = av.length → (∀ (i : Nat) (v : Value) (c : AV), vs[i]? = some v → av[i]? = some c → VR W U v c) → (∀ b cs, lk o1 b = some cs → ObR W U b cs) →
      Calls P f vs.toArray W fun e W' => ∃ v U', e = .returned v ∧ VR W' U' v r ∧ (∀ e sz els, r = .sl (some e) sz els → OwnRow W' U' (W.heap.size ≤ ·) v e sz els.length) ∧ Ext W U W' U') :
    CT P f av (lk o1) (fun r' o' => r' = r ∧ o' = lk o1) := by
  intro W U vs hl hv hI
  refine (h W U vs hI.fr.g0 hl hv (fun b cs hb => (hI.ob b cs hb).1)).mono ?_
  rintro e W' ⟨v, U', rfl, hvr, hown, hE⟩
  exact ⟨v, U', r, lk o1, rfl, ⟨rfl, rfl⟩, fun b cs hb => ⟨cs, hb⟩, hI.res2 hE hvr hown⟩
theorem lk_of_fun : (fun _ => none : Nat → Option (List AV)) = lk [] := rfl
/-- A library function that lays one block of cells. -/
theorem CT_lays {f : Nat} {av : List AV} {cs : List AV} {R : Nat → AV}
    (h : ∀ (W : World) (U : Nat → Nat → Prop) (vs : List Value), vs.length = av.length → (∀ (i : Nat) (v : Value) (c : AV), vs[i]? = some v → av[i]? = some c → VR W U v c) →
      Calls P f vs.toArray W fun e W' => ∃ (v : Value) (us : Array Value) (ty : TypeId), e = .returned v ∧ W' = W.alloc (.cells us ty) ∧ us.size = cs.length ∧ (∀ u, headT cs = some u → ty = u) ∧
        (∀ (j : Nat) (u : Value), us[j]? = some u → u.oneCell' = true ∧ ∀ x, cs[j]? = some x → VR W U u x ∧ ∀ e sz els, x = .sl (some e) sz els → u = .slice none 0 0 ∧ els = []) ∧
        (∀ W2 U2, CellsAt W2 W.heap.size → VR W2 U2 v (R W.heap.size)) ∧ ∀ e sz els, R W.heap.size ≠ .sl (some e) sz els) :
    CT P f av (lk []) (fun r' o' => ∃ b, r' = R b ∧ o' = lk [(b, cs)]) := by
  intro W U vs hl hv hI
  refine (h W U vs hl hv).mono ?_
  rintro e W' ⟨v, us, ty, rfl, rfl, g1, g2, g3, g4, g5⟩
  have hn := hI.newo (vs := us) (cs := cs) (ty := ty) g1 g2 g3
  have ho : upd (lk ([] : List (Nat × List AV))) W.heap.size (some cs) = lk [(W.heap.size, cs)] := by rw [upd_lk]; simp [pt]
  rw [show ({ (⟨fun _ => none, lk []⟩ : St) with o := upd (lk []) W.heap.size (some cs) } : St) = ⟨fun _ => none, lk [(W.heap.size, cs)]⟩ by rw [← ho]] at hn
  exact ⟨v, _, R W.heap.size, _, rfl, ⟨W.heap.size, rfl, rfl⟩, fun b' cs hb' => (by simp [lk] at hb'), hn.res1 (g4 _ _ ⟨_, _, _, heap_alloc_new W _⟩) fun e sz els hr => absurd hr (g5 e sz els)⟩
/-- maps.Clone. -/
theorem CT_clone {f : Nat} (hc : ∀ (b : Nat) (es : Array MapEntry) (clock : Nat) (w : World), w.heap[b]? = some (.map es clock) → Calls P f #[.map (some b)] w fun e w' => e = .returned (.map (some w.heap.size)) ∧ w' = w.alloc (.map es clock))
    (b : Nat) (kl vl : List AV) (bs : List Nat) (clk : Nat) : CT P f [.mapv b] (lk [(b, [.mp kl vl bs clk])]) (fun r o => ∃ m, (¬ m = b ∧ ¬ b = m) ∧ r = .mapv m ∧ o = lk [(b, [.mp kl vl bs clk]), (m, [.mp kl vl bs clk])]) := by
  intro W U vs hl hv hI
  have hvs : vs = [.map (some b)] := by
    match vs, hl with
    | [v], _ =>
      have := hv 0 v _ rfl rfl
      cases this; rfl
  subst hvs
  have hb : lk [(b, [AV.mp kl vl bs clk])] b = some [.mp kl vl bs clk] := by simp [lk]
  obtain ⟨⟨es, g1, G⟩, hnc⟩ := hI.mpR hb
  refine (hc b es clk W g1).mono ?_
  rintro e W' ⟨rfl, rfl⟩
  have hlt : b < W.heap.size := (Array.getElem?_eq_some_iff.1 g1).1
  have hE := Ext.alloc W U (.map es clk) (fun _ => True)
  have hn := hI.newm (x := .map es clk) (cs := [.mp kl vl bs clk]) ⟨es, heap_alloc_new W _, G.g2, G.g3, G.g4, G.g5, G.g6, fun i e hi => ⟨fun k hk => ((G.g7 i e hi).1 k hk).keep hE.keeps, fun v hv => ((G.g7 i e hi).2.1 v hv).keep hE.keeps, (G.g7 i e hi).2.2⟩⟩ (no_own (by simp))
  have ho : upd (lk [(b, [AV.mp kl vl bs clk])]) W.heap.size (some [.mp kl vl bs clk]) = lk [(b, [.mp kl vl bs clk]), (W.heap.size, [.mp kl vl bs clk])] := by
    rw [upd_lk]; simp [pt, show ¬ W.heap.size = b by omega]
  rw [show ({ (⟨fun _ => none, lk [(b, [AV.mp kl vl bs clk])]⟩ : St) with o := upd (lk [(b, [AV.mp kl vl bs clk])]) W.heap.size (some [.mp kl vl bs clk]) } : St) = ⟨fun _ => none, lk [(b, [.mp kl vl bs clk]), (W.heap.size, [.mp kl vl bs clk])]⟩ by rw [← ho]] at hn
  refine ⟨_, _, .mapv W.heap.size, _, rfl, ⟨W.heap.size, ⟨by omega, by omega⟩, rfl, rfl⟩, fun b' cs hb' => ?_, hn.res1 (.mapv _) fun e sz els hr => (by cases hr)⟩
  rw [lk_cons] at hb' ⊢
  by_cases e : b' = b
  · subst e; simp
  · rw [if_neg e] at hb'; cases hb'
end
section
variable {P : Program} {d : Option Nat} {s : St} {K : St → Prop}
/-- A function that makes one new object, its result telling where. -/
theorem CallO_newR {f : Nat} {vs : List AV} {cs : List AV} {R : Nat → AV} (h : CT P f vs (lk []) (fun r' o' => ∃ b, r' = R b ∧ o' = lk [(b, cs)])) (hK : NewB s.o (fun b => KS (St.put ⟨s.t, ovr [(b, cs)] s.o⟩ d (R b)) K)) : CallO P f vs d s K := by
  refine ⟨lk [], _, fun b cs hb => (by simp [lk] at hb), h, ?_⟩
  rintro r' o' ⟨b, rfl, rfl⟩ hf
  exact hK b (hf b cs (by simp [lk]) rfl)
theorem CallO_clone {f b : Nat} {kl vl : List AV} {bs : List Nat} {clk : Nat} (hc : ∀ (b : Nat) (es : Array MapEntry) (clock : Nat) (w : World), w.heap[b]? = some (.map es clock) → Calls P f #[.map (some b)] w fun e w' => e = .returned (.map (some w.heap.size)) ∧ w' = w.alloc (.map es clock))
    (hb : s.o b = some [.mp kl vl bs clk]) (hK : NewB s.o (fun m => KS (St.put ⟨s.t, ovr [(b, [.mp kl vl bs clk]), (m, [.mp kl vl bs clk])] s.o⟩ d (.mapv m)) K)) : CallO P f [.mapv b] d s K := by
  refine ⟨lk [(b, [.mp kl vl bs clk])], _, lk_sub1 hb, CT_clone hc b kl vl bs clk, ?_⟩
  rintro r' o' ⟨m, ⟨h1, h2⟩, rfl, rfl⟩ hf
  exact hK m (hf m _ (lk_tl h1 (lk_hd _ _ _)) (by simp [lk, h1]))
end
end Go.Proofs.Ytlefegihikpilaa

/- Ranges over maps whose keys and elements have several cells: laws of the kit's walk. -/
namespace Go.Proofs.Ytlefegihikpilaa
set_option linter.all false
open Go.RowKit Go.ChangeMaps
/-- One of those that have not come. -/
def Came1 (es : Array MapEntry) (seen : Array Nat) (e : MapEntry) : Prop := e ∈ (leftOf es seen).toList
/-- Nothing is left. -/
def Done1 (es : Array MapEntry) (seen : Array Nat) : Prop := (leftOf es seen).size = 0
/-- A step of an iterator: its block is turned, nothing else. -/
structure StepTo (w : World) (r : Nat) (o : Obj) (w2 : World) : Prop where
  at_ : w2.heap[r]? = some o
  grown : w.grownBy w2 (some r)
  size : w2.heap.size = w.heap.size
theorem stepTo_mk {w w1 : World} {r : Nat} {o o' : Obj} (hr : w.heap[r]? = some o) (h : w1 = w ∨ w1 = w.drew) : StepTo w r o' (setBlock w1 r o') := by
  have hlt : r < w.heap.size := (Array.getElem?_eq_some_iff.1 hr).1
  have hh : w1.heap = w.heap := by rcases h with rfl | rfl <;> rfl
  refine ⟨?_, ⟨?_, ?_, ?_, ?_, fun k hk hne => ?_⟩, ?_⟩
  · simp [setBlock, hh, hlt]
  · rcases h with rfl | rfl <;> rfl
  · rcases h with rfl | rfl <;> rfl
  · rcases h with rfl | rfl <;> rfl
  · simp [setBlock, hh]
  · have : r ≠ k := fun e => hne (by rw [e])
    simp [setBlock, hh, Array.getElem?_setIfInBounds, this]
  · simp [setBlock, hh]
section
variable {F : Fence} {n : Nat} {P : Program} (w : World) {ops : Array Oper} {rest : List Oper} {o : Oper} {a : Act} {Q : Exit → Act → World → Prop}
/-- 'range m'. -/
theorem walk_range (hg : o.guard = none) (m : Operand) (t : TypeId) (hop : o.op = Op.range t m) (k e : TypeId) (ht : P.underlying t = some (.map k e)) (b : Nat) (es : Array MapEntry) (clk : Nat) (hm : a.eval m = .map (some b)) (hb : w.heap[b]? = some (.map es clk))
    (hK : wpListIn F n P ops Q rest (a.put o.dst (.pointer (some ⟨w.heap.size, 0, none⟩))) (w.alloc (.mapIter (some b) clk #[] clk))) : wpListIn F n P ops Q (o :: rest) a w := by
  refine wpListIn_plain hg fun K' hK' => ?_
  unfold Oper.wpIn
  refine ⟨by simp [Oper.about, hop], ?_⟩
  rw [Oper.semAt_plain F _ _ (by rw [hop]; intro c hc'; cases hc')]
  simp only [execOp, hop, hm]
  simp [Instr.range, run_underlying ht, MapKept.run_getObj_map hb, run_newObj, Result.andThen]
  exact hK' _ _ hK
/-- The step. -/
theorem walk_next (hg : o.guard = none) (it : Operand) (hop : o.op = Op.next it false) (r b clk : Nat) (es : Array MapEntry) (seen : Array Nat) (hit : a.eval it = .pointer (some ⟨r, 0, none⟩)) (hr : w.heap[r]? = some (.mapIter (some b) clk seen clk)) (hb : w.heap[b]? = some (.map es clk)) (hold : ∀ x ∈ es.toList, x.born < clk)
    (hDone : Done1 es seen → wpListIn F n P ops Q rest (a.put o.dst (.tuple #[.bool false])) w)
    (hMore : ∀ (e : MapEntry) (w2 : World), Came1 es seen e → StepTo w r (.mapIter (some b) clk (seen.push e.born) clk) w2 → wpListIn F n P ops Q rest (a.put o.dst (.tuple #[.bool true, e.key, e.val])) w2) :
    wpListIn F n P ops Q (o :: rest) a w := by
  refine wpListIn_plain hg fun K' hK' => ?_
  unfold Oper.wpIn
  refine ⟨by simp [Oper.about, hop], ?_⟩
  rw [Oper.semAt_plain F _ _ (by rw [hop]; intro c hc'; cases hc')]
  rcases run_next_at (P := P) w o.type r b clk clk seen es clk hr hb hold (Nat.le_refl _) with ⟨h0, hrun⟩ | ⟨e, he, w1, hw1, hrun⟩
  · simp [execOp, hop, hit, hrun, Result.andThen]
    exact hK' _ _ (hDone h0)
  · simp [execOp, hop, hit, hrun, Result.andThen]
    exact hK' _ _ (hMore e _ he (stepTo_mk hr hw1))
/-- The round's entry. -/
theorem walk_entry (hg : o.guard = none) (it : Operand) (hop : o.op = Op.entry it) (r b clk : Nat) (es : Array MapEntry) (seen : Array Nat) (e : MapEntry) (hit : a.eval it = .pointer (some ⟨r, 0, none⟩)) (hr : w.heap[r]? = some (.mapIter (some b) clk (seen.push e.born) clk)) (hb : w.heap[b]? = some (.map es clk)) (he : e ∈ es.toList) (hn : (es.toList.map (·.born)).Nodup)
    (hK : wpListIn F n P ops Q rest (a.put o.dst (.tuple #[e.key, e.val])) w) : wpListIn F n P ops Q (o :: rest) a w := by
  refine wpListIn_plain hg fun K' hK' => ?_
  unfold Oper.wpIn
  refine ⟨by simp [Oper.about, hop], ?_⟩
  rw [Oper.semAt_plain F _ _ (by rw [hop]; intro c hc'; cases hc')]
  simp [execOp, hop, hit, run_entry_at (P := P) w r b clk seen es clk e hr hb he hn, Result.andThen]
  exact hK' _ _ hK
/-- A store of an aggregate into a block of its own. -/
theorem walk_store (hg : o.guard = none) (hod : o.dst = none) (x v : Operand) (t : TypeId) (hop : o.op = Op.store t x v) (k : Nat) (hsz : (P.info? t).map (·.size) = some k) (b : Nat) (z c : Array Value) (ty : TypeId) (hx : a.eval x = .pointer (some ⟨b, 0, none⟩)) (hb : w.heap[b]? = some (.cells z ty (0, 0))) (hz : z.size = k)
    (hv : (a.eval v).cells = c) (hc : c.size = k) (h1 : ∀ u ∈ c.toList, u.oneCell' = true) (hK : wpListIn F n P ops Q rest a (w.setRow b c)) : wpListIn F n P ops Q (o :: rest) a w := by
  have hst := run_storeCells_at P b 0 ty c.toList 0 z w hb (by rw [Array.length_toList]; omega) h1
  have hrow : (z.toList.take (0 + 0) ++ c.toList ++ z.toList.drop (0 + 0 + c.toList.length)).toArray = c := by
    rw [List.drop_eq_nil_of_le (by simp; omega)]; simp
  rw [hrow] at hst
  refine wpListIn_plain hg fun K' hK' => ?_
  unfold Oper.wpIn
  refine ⟨by simp [Oper.about, hop], ?_⟩
  rw [Oper.semAt_plain F _ _ (by rw [hop]; intro c hc'; cases hc')]
  cases hi : P.info? t with
  | none => simp [hi] at hsz
  | some i =>
    have hin : i.size = k := by simpa [hi] using hsz
    have hcs : ¬ c.size ≠ i.size := by omega
    have hrun : (execOp a.eval o).run P w = .ok .skip (w.setRow b c) := by
      simp only [execOp, hop, Instr.storeAt, hx, Instr.sureAddr, Sem.run_bind, Sem.run_pure, Result.andThen_ok, storeVar, sizeOf, typeInfo, run_program, hi, Sem.run_ite, hcs, if_false, hv, hst]
    rw [hrun]
    refine hK' (a.put o.dst undef) _ ?_
    rw [hod]
    exact hK
/-- A load of a block's aggregate. -/
theorem walk_load (hg : o.guard = none) (x : Operand) (t : TypeId) (hop : o.op = Op.load t x) (b : Nat) (c : Array Value) (ty : TypeId) (ha : ∀ w, (isAgg t).run P w = .ok true w) (hs : ∀ w, (Go.sizeOf t).run P w = .ok c.size w) (hx : a.eval x = .pointer (some ⟨b, 0, none⟩)) (hb : w.heap[b]? = some (.cells c ty (0, 0)))
    (hK : wpListIn F n P ops Q rest (a.put o.dst (.agg c)) w) : wpListIn F n P ops Q (o :: rest) a w := by
  have hl := run_loadCells_list (P := P) (w := w) ⟨b, 0, none⟩ c.toList (fun j v hj => by
    rw [add_mk, cell_of_row w b _ c ty (0, 0) hb]
    rw [Nat.zero_add, ← Array.getElem?_toList]; exact hj)
  refine wpListIn_plain hg fun K' hK' => ?_
  unfold Oper.wpIn
  refine ⟨by simp [Oper.about, hop], ?_⟩
  rw [Oper.semAt_plain F _ _ (by rw [hop]; intro c hc'; cases hc')]
  have hrun : (execOp a.eval o).run P w = .ok (.value (.agg c)) w := by
    simp only [Array.length_toList] at hl
    simp [execOp, hop, hx, Instr.loadAt, Instr.sureAddr, loadVar, ha, hs, hl]
  rw [hrun]
  exact hK' _ _ hK
/-- A slice literal of one aggregate. -/
theorem walk_bs1 (hg : o.guard = none) (x : Operand) (t e : TypeId) (hop : o.op = Op.buildSlice t 1 #[(0, x)]) (i : TypeInfo) (hu : P.underlying t = some (.slice e)) (hi : P.info? e = some i) (z : Value) (hz : i.zero = some z) (k : Nat) (hk : i.size = k) (hz2 : z.cells.size = k) (hpos : 0 < k) (hsm : k ≤ 16777216)
    (c : Array Value) (hx : (a.eval x).cells = c) (hc : c.size = k) (hK : wpListIn F n P ops Q rest (a.put o.dst (.slice (some ⟨w.heap.size, 0, none⟩) 1 1)) (w.alloc (.cells c e))) : wpListIn F n P ops Q (o :: rest) a w := by
  subst hk
  have hf := Go.Great.fill_whole hpos [a.eval x] ((Array.range (1 * i.size)).map (z.cells[· % z.cells.size]!)) (fun v hv => by simp only [List.mem_singleton] at hv; subst hv; rw [hx, hc]) (by simp)
  have hrun := run_buildSlice (P := P) w t e 1 #[(0, a.eval x)] _ i z hu hi hz (by omega) (by omega) hf
  refine wpListIn_plain hg fun K' hK' => ?_
  unfold Oper.wpIn
  refine ⟨by simp [Oper.about, hop], ?_⟩
  rw [Oper.semAt_plain F _ _ (by rw [hop]; intro c hc'; cases hc')]
  have hr : (execOp a.eval o).run P w = .ok (.value (.slice (some ⟨w.heap.size, 0, none⟩) 1 1)) (w.alloc (.cells c e)) := by
    have hl : ([a.eval x].flatMap fun v => v.cells.toList).toArray = c := by simp [hx]
    rw [hl] at hrun
    simp only [execOp, hop, Sem.run_bind]
    rw [show (#[(0, x)].map fun (p : Nat × Operand) => (p.1, a.eval p.2)) = #[(0, a.eval x)] by simp]
    rw [hrun]; rfl
  rw [hr]
  exact hK' _ _ hK
end
theorem alloc_setRow (w : World) (z c : Array Value) (ty : TypeId) : (w.alloc (.cells z ty)).setRow w.heap.size c = w.alloc (.cells c ty) := by
  simp only [World.setRow, World.alloc]
  congr 1
  apply Array.ext_getElem?
  intro i
  rw [Array.getElem?_modify]
  by_cases h : w.heap.size = i
  · subst h; simp
  · rw [if_neg h]
    by_cases h2 : i < w.heap.size
    · simp [Array.getElem?_push, h, Ne.symm h]
    · simp [Array.getElem?_push, h, Ne.symm h]
end Go.Proofs.Ytlefegihikpilaa

/- Ranges over maps: what has come, as places. -/
namespace Go.Proofs.Ytlefegihikpilaa
set_option linter.all false
open Go.RowKit Go.ChangeMaps
theorem alloc_at {w : World} {k : Nat} (h : w.heap.size = k) (o : Obj) : (w.alloc o).heap[k]? = some o := by subst h; exact World.alloc_heap_new w o
theorem alloc_setRow2 {w : World} {k : Nat} (h : w.heap.size = k) (z c : Array Value) (ty : TypeId) : (w.alloc (.cells z ty)).setRow k c = w.alloc (.cells c ty) := by subst h; exact alloc_setRow w z c ty
/-- The places that have come. -/
structure Came (es : Array MapEntry) (seen : Array Nat) (is : List Nat) : Prop where
  nd : is.Nodup
  lt : ∀ i ∈ is, i < es.size
  sn : seen.toList = is.map fun i => (es[i]?.map (·.born)).getD 0
theorem Came.nil (es : Array MapEntry) : Came es #[] [] := ⟨by simp, by simp, rfl⟩
theorem born_at {es : Array MapEntry} (hn : (es.toList.map (·.born)).Nodup) {i j : Nat} (hi : i < es.size) (hj : j < es.size) (h : (es[i]?.map (·.born)).getD 0 = (es[j]?.map (·.born)).getD 0) : i = j := by
  have hi' : i < (es.toList.map (·.born)).length := by simpa using hi
  have hj' : j < (es.toList.map (·.born)).length := by simpa using hj
  have hp := List.pairwise_iff_getElem.1 hn
  rcases Nat.lt_trichotomy i j with hlt | rfl | hlt
  · exact absurd (by simpa [hi, hj] using h) (hp i j hi' hj' hlt)
  · rfl
  · exact absurd (by simpa [hi, hj] using h.symm) (hp j i hj' hi' hlt)
theorem Came.step {es : Array MapEntry} (hn : (es.toList.map (·.born)).Nodup) {seen : Array Nat} {is : List Nat} (h : Came es seen is) {e : MapEntry} (he : Came1 es seen e) : ∃ i, es[i]? = some e ∧ Came es (seen.push e.born) (is ++ [i]) := by
  simp only [Came1, leftOf, Array.mem_toList_iff, Array.mem_filter, Bool.not_eq_true'] at he
  obtain ⟨he1, he2⟩ := he
  obtain ⟨i, hi, rfl⟩ := Array.getElem_of_mem he1
  have hni : i ∉ is := fun hm => by
    have : es[i].born ∈ seen.toList := by
      rw [h.sn]
      exact List.mem_map.2 ⟨i, hm, by simp [hi]⟩
    simp_all
  refine ⟨i, by simp [hi], List.nodup_append.2 ⟨h.nd, by simp, fun a ha b hb => by simp at hb; subst hb; intro e; subst e; exact hni ha⟩, fun j hj => ?_, ?_⟩
  · rcases List.mem_append.1 hj with hj | hj
    · exact h.lt j hj
    · simp at hj; omega
  · rw [Array.toList_push, h.sn]; simp [hi]
theorem perm_range : ∀ (n : Nat) (is : List Nat), is.Nodup → (∀ i ∈ is, i < n) → (∀ i, i < n → i ∈ is) → is.Perm (List.range n) := by
  intro n is h1 h2 h3
  rw [List.perm_iff_count]
  intro a
  rw [h1.count, List.nodup_range.count]
  by_cases ha : a < n
  · simp [h3 a ha, ha]
  · have : a ∉ is := fun h => ha (h2 a h)
    simp [this, ha]
theorem Came.all {es : Array MapEntry} (hn : (es.toList.map (·.born)).Nodup) {seen : Array Nat} {is : List Nat} (h : Came es seen is) (h0 : Done1 es seen) : is.Perm (List.range es.size) := by
  refine perm_range _ _ h.nd h.lt fun i hi => ?_
  have he : ∀ x ∈ es, seen.contains x.born = true := by
    intro x hx
    by_cases hc : seen.contains x.born = true
    · exact hc
    · have : x ∈ leftOf es seen := by simp only [leftOf, Array.mem_filter]; exact ⟨hx, by simpa using hc⟩
      rw [Array.eq_empty_of_size_eq_zero (show (leftOf es seen).size = 0 from h0)] at this
      simp at this
  have h1 := he es[i] (Array.getElem_mem hi)
  have h2 : es[i].born ∈ seen.toList := by simpa using h1
  rw [h.sn, List.mem_map] at h2
  obtain ⟨j, hj, e⟩ := h2
  have := born_at hn (h.lt j hj) hi (by rw [e]; simp [hi])
  rw [← this]; exact hj
theorem range_getD_map {α : Type} [Inhabited α] (l : List α) : (List.range l.length).map (fun i => l.getD i default) = l := by
  apply List.ext_getElem
  · simp
  · intro i h1 h2
    simp at h1
    simp [List.getD, h1]
/-- How many have come. -/
def seenN (w : World) (r : Nat) : Nat := match w.heap[r]? with
  | some (.mapIter _ _ seen _) => seen.size
  | _ => 0
theorem Came.size {es : Array MapEntry} {seen : Array Nat} {is : List Nat} (h : Came es seen is) : seen.size = is.length := by
  have := congrArg List.length h.sn
  simpa using this
theorem nodup_lt : ∀ (n : Nat) (s : List Nat), s.Nodup → (∀ x ∈ s, x < n) → s.length ≤ n
  | 0, s, _, hs => by
    cases s with
    | nil => simp
    | cons x s => exact absurd (hs x (by simp)) (by omega)
  | n + 1, s, hn, hs => by
    have h1 := nodup_lt n (s.erase n) (hn.erase n) fun x hx => by
      have := (hn.mem_erase_iff).1 hx
      have := hs x this.2
      omega
    rw [List.length_erase] at h1
    split at h1 <;> omega
end Go.Proofs.Ytlefegihikpilaa

/- A range over an iterator of aggregates: the round's variable is a block of its own. -/
namespace Go.Proofs.Ytlefegihikpilaa
set_option linter.all false
open Go.RowKit
theorem heap_setCell_one {W : World} {B : Nat} {v : Value} {t : TypeId} (v' : Value) (h : W.heap[B]? = some (.cells #[v] t (0, 0))) : (W.setCell ⟨B, 0, none⟩ v').heap[B]? = some (.cells #[v'] t (0, 0)) := by
  obtain ⟨hlt, hk⟩ := Array.getElem?_eq_some_iff.1 h
  show (W.heap.modify B _)[B]? = _
  rw [Array.getElem?_eq_getElem (by rw [Array.size_modify]; exact hlt), Array.getElem_modify_self, hk]
  rfl
theorem grown_setCell (W : World) (b : Nat) (v : Value) : W.grownBy (W.setCell ⟨b, 0, none⟩ v) (some b) :=
  ⟨rfl, rfl, rfl, by show W.heap.size ≤ (W.heap.modify _ _).size; rw [Array.size_modify]; exact Nat.le_refl _, fun k _ hk => Below.heap_setCell W _ v k (fun e => hk (by rw [e]))⟩
section
variable {F : Fence} {n : Nat} {P : Program}
theorem walk_seq {α : Type} {g : Operand} {pt : Tmp} {assign body : Code} {Q : Exit → Act → World → Prop} {a : Act} {w : World} (hro : F.round = none) (h1 : 1 ≤ n) {gf : Nat} {lb : Array Value} (hg : a.eval g = .func (.func gf) #[] lb) (hFg : F.fn gf)
    (eg : ∀ args w, (callFunc gf args).run P w = .ok (.enter gf args) w) {enc : α → Value} {S : List α → Prop} {N : Nat} (hseq : SeqStops F (n - 1) P gf lb enc S (fun _ => True) N w)
    (I : List α → World → Prop) (hI : OwnFrom w.heap.size I) (h0 : I [] w) (ob : α → Obj) (hob : ∀ x, (ob x).isCells = true) (a₁ : α → Nat → Act)
    (hassign : ∀ (l : Nat) (x : α) (W : World) (K : Act → World → Prop), K (a₁ x W.heap.size) (W.alloc (ob x)) →
      assign.wpIn (F.inRound l) (n - 1 - 1) P (Exit.then K (fun _ _ _ => False)) { tmps := a.tmps.setIfInBounds pt (enc x), defers := [] } W)
    (hbody : ∀ (l : Nat) (pre : List α) (x : α) (W : World) (p : Nat), I pre W → pre.length < N → W.heap[p]? = some (ob x) → w.heap.size ≤ p →
      body.wpIn (F.inRound l) (n - 1 - 1) P (fun e _ W' => e = .normal ∧ KeepsOthers W W' ∧ I (pre ++ [x]) W') (a₁ x p) W)
    (hdone : ∀ (D : Nat) (xs : List α) (W : World), w.heap.size ≤ D → S xs → I xs W → W.heap[D]? = some (.deferred (some [])) → Q .normal { a with defers := { target := .collected D, args := #[] } :: a.defers } W) :
    (Code.rangeFunc g #[pt] assign body).wpIn F n P Q a w := by
  refine wpIn_rangeFunc ?_
  intro fn hfn
  rw [hro]
  obtain ⟨rc, hrc⟩ : ∃ rc : LoopState → Loop, rc = fun st => { state := st, pending := none, fn, tmps := a.tmps, params := #[pt], assign, body, defers := w.heap.size } := ⟨_, rfl⟩
  obtain ⟨W1, hW1⟩ : ∃ W1, (w.alloc (.deferred (some []))).alloc (.loop (rc .ready)) = W1 := ⟨_, rfl⟩
  have hs1 : W1.heap.size = w.heap.size + 2 := by rw [← hW1]; simp
  have hL : W1.heap[w.heap.size + 1]? = some (.loop (rc .ready)) := by rw [← hW1]; exact alloc_at (by simp) _
  have hK : W1.heap[w.heap.size]? = some (.deferred (some [])) := by rw [← hW1]; exact (Below.heap_alloc _ _ _ (by simp)).trans (World.alloc_heap_new w _)
  have hI1 : I [] W1 := by rw [← hW1]; exact hI.alloc _ (hI.alloc _ h0)
  have hb1 : Below w.heap.size w W1 := by rw [← hW1]; exact ((Below.refl _ w).alloc (Nat.le_refl _) _).alloc (by simp) _
  refine ⟨w.heap.size + 1, [{ target := .collected w.heap.size, args := #[] }], W1, { target := .fn (.func gf) lb, args := #[.func (.yield (w.heap.size + 1)) #[] #[]] }, W1, gf, #[.func (.yield (w.heap.size + 1)) #[] #[]] ++ lb, W1, ?_, ?_, ?_, ?_, fun _ => h1, ?_⟩
  · rw [← hW1, hrc]; exact run_enterLoop_outer _ _ _ _ _
  · simp only [resolve, hg]; simp [go_sem]
  · intro f' hf'; simp [Target.leads] at hf'; subst hf'; exact hFg
  · simp [invoke, go_sem, eg]
  have hnc : ∀ {A : World} {row : Option Nat}, (∀ r, row = some r → W1.heap.size ≤ r ∧ ∃ o : Obj, A.heap[r]? = some o ∧ o.isWalk = true) → ∀ r, row = some r → w.heap.size ≤ r ∧ ∃ o : Obj, A.heap[r]? = some o ∧ o.isCells = false :=
    fun hr r e => by obtain ⟨hB, o, ho, hw⟩ := hr r e; exact ⟨by omega, o, ho, Obj.not_cells_of_walk hw⟩
  refine (hseq (w.heap.size + 1) (fun pre W => I pre W ∧ W.heap[w.heap.size + 1]? = some (.loop (rc .ready)) ∧ W.heap[w.heap.size]? = some (.deferred (some []))) (fun _ _ => False) W1 hb1
    (fun s A B row hs hg' hr => ⟨hI s A B row hs.1 hg' (hnc hr), (grownBy_keeps hg' (fun r e => (hr r e).2) hs.2.1 rfl).trans hs.2.1, (grownBy_keeps hg' (fun r e => (hr r e).2) hs.2.2 rfl).trans hs.2.2⟩)
    (fun _ _ _ _ h _ _ => h) ?_ ⟨hI1, hL, hK⟩).mono ?_
  · rintro pre x W ⟨hi, hl, hk⟩ hlen
    have hlt : w.heap.size + 1 < W.heap.size := (Array.getElem?_eq_some_iff.1 hl).1
    have hy := run_yield (P := P) (args := #[enc x]) hl (by rw [hrc]; rfl)
    have hl2 : (W.alloc (ob x)).heap[w.heap.size + 1]? = some (.loop (rc .ready)) := (Below.heap_alloc _ _ _ hlt).trans hl
    have hk2 : (W.alloc (ob x)).heap[w.heap.size]? = some (.deferred (some [])) := (Below.heap_alloc _ _ _ (by omega)).trans hk
    have hp2 : (W.alloc (ob x)).heap[W.heap.size]? = some (ob x) := World.alloc_heap_new W _
    have hy : (Instr.yield (w.heap.size + 1) #[enc x]).run P W = .ok (.round (w.heap.size + 1) fn (a.tmps.setIfInBounds pt (enc x)) assign body) W := by rw [hrc] at hy; simpa using hy
    refine ⟨fn, _, assign, body, hy, roundIn_of_wpIn hfn ?_⟩
    have hbr := run_beginRound (P := P) hl2 (by rw [hrc])
    obtain ⟨W3, hW3⟩ : ∃ W3, (W.alloc (ob x)).putObj (w.heap.size + 1) (.loop { rc .ready with state := .busy }) = W3 := ⟨_, rfl⟩
    rw [hW3] at hbr
    have hl3 : W3.heap[w.heap.size + 1]? = some (.loop { rc .ready with state := .busy }) := by rw [← hW3]; exact World.putObj_heap_same (by simp; omega)
    have hk3 : W3.heap[w.heap.size]? = some (.deferred (some [])) := by rw [← hW3]; exact (World.putObj_heap_other (by omega)).trans hk2
    have hp3 : W3.heap[W.heap.size]? = some (ob x) := by rw [← hW3]; exact (World.putObj_heap_other (by omega)).trans hp2
    have hi3 : I pre W3 := by rw [← hW3]; exact hI.putObj _ (hI.alloc _ hi) (by omega) hl2 rfl
    have hw3 : KeepsWalks W W3 := by rw [← hW3]; exact (KeepsWalks.alloc _ _).trans (KeepsWalks.putObj _ hl2 rfl)
    refine hassign (w.heap.size + 1) x W _ ?_
    refine ⟨W3, hbr, ?_⟩
    refine wpIn_mono (hbody (w.heap.size + 1) pre x W3 W.heap.size hi3 hlen hp3 (by omega)) ?_
    rintro e a3 W4 ⟨rfl, ho4, hi4⟩
    have hl4 := ho4.same _ _ hl3 rfl
    have hk4 := ho4.same _ _ hk3 rfl
    have her := run_endRound (P := P) none hl4
    refine ⟨_, _, her, .inl ⟨rfl, ⟨hI.putObj _ hi4 (by omega) hl4 rfl, ?_, (World.putObj_heap_other (by omega)).trans hk4⟩, (hw3.trans ho4.walks).trans (KeepsWalks.putObj _ hl4 rfl)⟩⟩
    rw [World.putObj_heap_same (Array.getElem?_eq_some_iff.1 hl4).1, hrc]; rfl
  · rintro e W2 ⟨⟨v, rfl⟩, (⟨xs, hS, hi, hl, hk⟩ | ⟨_, _, hf⟩)⟩
    · have hel := run_endLoop (P := P) hl (by rw [hrc]; simp)
      rw [hrc] at hel
      exact ⟨none, _, hel, hdone _ xs _ (Nat.le_refl _) hS (hI.putObj _ hi (by omega) hl rfl) ((World.putObj_heap_other (by omega)).trans hk)⟩
    · exact hf.elim
end
end Go.Proofs.Ytlefegihikpilaa

/- maps keyed by a type with decided equality: where a key is -/
namespace Go.Proofs.Ytlefegihikpilaa
set_option linter.all false
open Go.RowKit
theorem findK_map {α : Type} [DecidableEq α] (ks : List Kd) (ag : Bool) (κ : α → AV) (h : ∀ a b, keyEq ks ag (κ a) (κ b) = some (decide (a = b))) (a : α) (l : List α) : ∀ i, findK ks ag (κ a) (l.map κ) i = some ((l.idxOf? a).map (· + i)) := by
  induction l with
  | nil => intro i; rfl
  | cons x r ih =>
    intro i
    simp only [List.map_cons, findK, h, List.idxOf?_cons]
    by_cases hx : a = x
    · subst hx; simp
    · have hx2 : (x == a) = false := by simp [Ne.symm hx]
      simp only [hx, decide_false, ih, hx2]
      cases r.idxOf? a <;> simp <;> omega
theorem findM_map {α : Type} [DecidableEq α] (ks : List Kd) (ag : Bool) (κ : α → AV) (h : ∀ a b, keyEq ks ag (κ a) (κ b) = some (decide (a = b))) (a : α) (l : List α) : findM ks ag (κ a) (l.map κ) = some (l.idxOf? a) := by
  simp only [findM, h, Option.bind_some, findK_map ks ag κ h]
  cases l.idxOf? a <;> simp
theorem findM_no {α : Type} [DecidableEq α] (ks : List Kd) (ag : Bool) (κ : α → AV) (h : ∀ a b, keyEq ks ag (κ a) (κ b) = some (decide (a = b))) (a : α) (l : List α) (hn : a ∉ l) : findM ks ag (κ a) (l.map κ) = some none := by
  rw [findM_map ks ag κ h, List.idxOf?_eq_none_iff.2 hn]
theorem findM_snoc {α : Type} [DecidableEq α] (ks : List Kd) (ag : Bool) (κ : α → AV) (h : ∀ a b, keyEq ks ag (κ a) (κ b) = some (decide (a = b))) (a : α) (l : List α) (hn : a ∉ l) : findM ks ag (κ a) (l.map κ ++ [κ a]) = some (some l.length) := by
  have := findM_map ks ag κ h a (l ++ [a])
  rw [List.map_append, List.map_singleton] at this
  rw [this]
  congr 1
  induction l with
  | nil => simp [List.idxOf?_cons]
  | cons x r ih =>
    simp only [List.mem_cons, not_or] at hn
    have hx : (x == a) = false := by simp [Ne.symm hn.1]
    have ih' := ih hn.2 (by rw [findM_map ks ag κ h a (r ++ [a]) |>.symm]; simp)
    simp only [List.cons_append, List.idxOf?_cons, hx, ih', List.length_cons]
    simp
theorem snoc_set {α : Type} (l : List α) (z v : α) (k : Nat) (h : l.length = k) : (l ++ [z]).set k v = l ++ [v] := by
  rw [List.set_append_right _ _ (by omega)]; simp [h]
theorem snoc_get {α : Type} (l : List α) (z d : α) (k : Nat) (h : l.length = k) : (l ++ [z]).getD k d = z := by
  simp [List.getD, ← h]
theorem findB_app (bs : List Nat) (n : Nat) (hn : n ∉ bs) : ∀ i, findB (n : Int) (bs ++ [n]) i = some (bs.length + i) := by
  induction bs with
  | nil => intro i; simp [findB]
  | cons b r ih =>
    intro i
    simp only [List.mem_cons, not_or] at hn
    have hb : ¬ (b : Int) = n := by omega
    simp only [List.cons_append, findB, hb, if_false, ih hn.2, List.length_cons]
    congr 1; omega
theorem findB_range (k i : Nat) : findB (k : Int) (List.range k ++ [k]) i = some (k + i) := by
  have := findB_app (List.range k) k (by simp) i
  simpa using this
/-- Keys of two words: a text and a number. -/
def endK (e : List UInt8 × Int) : AV := .agg [.str e.1, .int .i64 e.2]
theorem endK_eq (a b : List UInt8 × Int) : keyEq [.s, .i] true (endK a) (endK b) = some (decide (a = b)) := by
  obtain ⟨x, y⟩ := a; obtain ⟨z, w⟩ := b
  simp [endK, keyEq, eqC, eq1, Prod.ext_iff]
end Go.Proofs.Ytlefegihikpilaa

/- headers: their cells, as keys, in lists -/
namespace Go.Proofs.Ytlefegihikpilaa
set_option linter.all false
open Go.RowKit
set_option maxRecDepth 100000
structure HdC where
  h : Int
  t : Int
  r : List Int
  n : r.length = 32
  deriving DecidableEq
instance : Inhabited HdC := ⟨⟨0, 0, List.replicate 32 0, by simp⟩⟩
theorem HdC.ext3 {a b : HdC} (h1 : a.h = b.h) (h2 : a.t = b.t) (h3 : a.r = b.r) : a = b := by
  obtain ⟨a1, a2, a3, a4⟩ := a; obtain ⟨b1, b2, b3, b4⟩ := b
  simp only at h1 h2 h3
  subst h1; subst h2; subst h3; rfl
def HdC.rt (x : HdC) : List AV := x.r.map (.int .u8 ·)
abbrev HdC.cs (x : HdC) : List AV := .int .i64 x.h :: .int .i64 x.t :: x.rt
theorem rt_len (x : HdC) : x.rt.length = 32 := by simp [HdC.rt, x.n]
theorem rt_take (x : HdC) : x.rt.take 32 = x.rt := by rw [List.take_of_length_le]; rw [rt_len]; omega
theorem rt_so (x : HdC) : x.rt.map AV.store = x.rt := by simp [HdC.rt, AV.store, AV.alias]
theorem splice_all : ∀ (l m : List AV), l.length = m.length → splice l 0 m = m
  | [], [], _ => rfl
  | c :: l, d :: m, h => by rw [sp_0, splice_all l m (by simpa using h)]
theorem rt_sp (l : List AV) (x : HdC) (h : l.length = 32) : splice l 0 x.rt = x.rt := splice_all l _ (by rw [h, rt_len])
theorem rt_zero : (default : HdC).rt = List.replicate 32 (.int .u8 0) := by simp [HdC.rt, default, instInhabitedHdC]
theorem hd0_h : (default : HdC).h = 0 := rfl
theorem hd0_t : (default : HdC).t = 0 := rfl
theorem zeros_rt : [AV.int .u8 0, .int .u8 0, .int .u8 0, .int .u8 0, .int .u8 0, .int .u8 0, .int .u8 0, .int .u8 0, .int .u8 0, .int .u8 0, .int .u8 0, .int .u8 0, .int .u8 0, .int .u8 0, .int .u8 0, .int .u8 0, .int .u8 0, .int .u8 0, .int .u8 0, .int .u8 0, .int .u8 0, .int .u8 0, .int .u8 0, .int .u8 0, .int .u8 0, .int .u8 0, .int .u8 0, .int .u8 0, .int .u8 0, .int .u8 0, .int .u8 0, .int .u8 0] = (default : HdC).rt := by rw [rt_zero]; rfl
theorem eqC_us : ∀ (a b : List Int), a.length = b.length → eqC (List.replicate a.length .i) (a.map (AV.int .u8 ·)) (b.map (AV.int .u8 ·)) = some (decide (a = b))
  | [], [], _ => rfl
  | x :: a, y :: b, h => by
    rw [List.length_cons, List.replicate_succ, List.map_cons, List.map_cons, eqC_i, eqC_us a b (by simpa using h), oand_some]
    simp
theorem eqC_rt (x y : HdC) : eqC [.i, .i, .i, .i, .i, .i, .i, .i, .i, .i, .i, .i, .i, .i, .i, .i, .i, .i, .i, .i, .i, .i, .i, .i, .i, .i, .i, .i, .i, .i, .i, .i] x.rt y.rt = some (decide (x.r = y.r)) := by
  have := eqC_us x.r y.r (by rw [x.n, y.n])
  rw [x.n] at this
  exact this
theorem hd_dec (a b : HdC) : (decide (a.h = b.h) && (decide (a.t = b.t) && decide (a.r = b.r))) = decide (a = b) := by
  rw [Bool.eq_iff_iff]
  simp only [Bool.and_eq_true, decide_eq_true_eq]
  exact ⟨fun ⟨h1, h2, h3⟩ => HdC.ext3 h1 h2 h3, fun h => by subst h; exact ⟨rfl, rfl, rfl⟩⟩
def hds (l : List HdC) : List (List AV) := l.map HdC.cs
theorem gdH (l : List HdC) (i : Nat) (h : i < l.length) : (hds l).getD i [] = (l.getD i default).cs := by
  simp [hds, List.getD, h]
theorem hds_len (l : List HdC) : (hds l).length = l.length := by simp [hds]
/-- Keys: whole headers, heights. -/
def hdK (x : HdC) : AV := .agg x.cs
theorem hdK_eq (a b : HdC) : keyEq [.i, .i, .i, .i, .i, .i, .i, .i, .i, .i, .i, .i, .i, .i, .i, .i, .i, .i, .i, .i, .i, .i, .i, .i, .i, .i, .i, .i, .i, .i, .i, .i, .i, .i] true (hdK a) (hdK b) = some (decide (a = b)) := by
  simp only [hdK, keyEq, eqC_i, eqC_rt, oand_some, hd_dec]
def markK (a : Int) : AV := .agg [.int .i64 a]
theorem markK_eq (a b : Int) : keyEq [.i] true (markK a) (markK b) = some (decide (a = b)) := by
  simp only [markK, keyEq, eqC_i, eqC_nil, oand_some, Bool.and_true]
theorem rt_sp2 (x y : HdC) : splice x.rt 0 y.rt = y.rt := rt_sp _ y (rt_len x)
abbrev K34 : List Kd := [.i, .i, .i, .i, .i, .i, .i, .i, .i, .i, .i, .i, .i, .i, .i, .i, .i, .i, .i, .i, .i, .i, .i, .i, .i, .i, .i, .i, .i, .i, .i, .i, .i, .i]
/-! where a key is, what stands there -/
theorem idx_get {α : Type} [DecidableEq α] : ∀ {l : List α} {a : α} {i : Nat}, l.idxOf? a = some i → l[i]? = some a
  | [], _, _, h => by simp at h
  | x :: l, a, i, h => by
    rw [List.idxOf?_cons] at h
    by_cases hx : x = a
    · subst hx; simp at h; subst h; rfl
    · have hx2 : (x == a) = false := by simp [hx]
      rw [hx2] at h
      simp only [Bool.false_eq_true, if_false, Option.map_eq_some_iff] at h
      obtain ⟨j, hj, rfl⟩ := h
      simpa using idx_get hj
theorem idx_ex {α : Type} [DecidableEq α] {l : List α} {a : α} (h : a ∈ l) : ∃ i, l.idxOf? a = some i ∧ i < l.length := by
  cases hi : l.idxOf? a with
  | none => exact absurd h (List.idxOf?_eq_none_iff.1 hi)
  | some i => exact ⟨i, rfl, (List.getElem?_eq_some_iff.1 (idx_get hi)).1⟩
theorem range_getD (n i : Nat) (h : i < n) : (List.range n).getD i 0 = i := by simp [List.getD, h]
theorem findB_at : ∀ (n s i j : Nat), i < n → findB ((s + i : Nat) : Int) (List.range' s n) j = some (i + j)
  | 0, s, i, j, h => by omega
  | n + 1, s, i, j, h => by
    rw [List.range'_succ, findB]
    by_cases hi : i = 0
    · subst hi; simp
    · rw [if_neg (by omega)]
      have := findB_at n (s + 1) (i - 1) (j + 1) (by omega)
      rw [show s + 1 + (i - 1) = s + i by omega] at this
      rw [this]; congr 1; omega
theorem findB_in (n i : Nat) (h : i < n) : findB (i : Int) (List.range n) 0 = some i := by
  have := findB_at n 0 i 0 h
  rw [List.range_eq_range']
  simpa using this
theorem ints_get (l : List Int) (i : Nat) (h : i < l.length) : (l.map (AV.int .i64 ·)).getD i .undef = .int .i64 (l.getD i 0) := by simp [List.getD, h]
theorem ints_set (l : List Int) (i : Nat) (v : Int) : (l.map (AV.int .i64 ·)).set i (.int .i64 v) = (l.set i v).map (AV.int .i64 ·) := by simp [List.map_set]
end Go.Proofs.Ytlefegihikpilaa

/-
  DERIVED: THE SHELF's CONTRACTS AT THIS DUMP, IN PLAIN WORDS (tools/lay-plain.mjs out of 'TryShelfG.lean', which tools/lay-shelf.mjs wrote): THE SAME DECLARATIONS UNDER THE SAME NAMES: 'import', 'namespace', 'open', 'def', 'theorem' AND NOTHING ELSE: no command of the shelf's: FOR A HAND-IN. Each laying: the table of numbers ('.._ren') and one theorem, a field a fact of the dump's own or the kernel's comparison; each contract: ONE APPLICATION.
-/
namespace Go.Proofs
open Go.Shelf
def Try.clone46_ren : Go.Shelf.Ren := ⟨fun | 5 => 46 | 7 => 77 | n => n, fun | 23 => 94 | 25 => 98 | 3 => 30 | 4 => 4 | 20 => 20 | n => n, fun | n => n⟩
theorem Try.clone46 : Go.Proofs.SlLaysW.n5 Try.prog Try.clone46_ren := {
  mixed := by kernel_rfl
  f5 := ⟨Try.f46.name, by decide, Try.func46.trans (congrArg some (by kernel_rfl))⟩
  f7 := Try.func77.trans (congrArg some (by kernel_rfl))
  t4 := Try.underlying4
  a4 := Try.isAgg4
  z4 := Try.sizeOf4
  v4 := Try.zeroValue4
  t20 := Try.underlying20
  a20 := Try.isAgg20
  z20 := Try.sizeOf20
  v20 := Try.zeroValue20
  t23 := Try.underlying94
  a23 := Try.isAgg94
  z23 := Try.sizeOf94
  v23 := Try.zeroValue94 }
def Try.clone112_ren : Go.Shelf.Ren := ⟨fun | 5 => 112 | 7 => 77 | n => n, fun | 23 => 178 | 25 => 48 | 3 => 176 | 4 => 4 | 20 => 20 | n => n, fun | n => n⟩
theorem Try.clone112 : Go.Proofs.SlLaysW.n5 Try.prog Try.clone112_ren := {
  mixed := by kernel_rfl
  f5 := ⟨Try.f112.name, by decide, Try.func112.trans (congrArg some (by kernel_rfl))⟩
  f7 := Try.func77.trans (congrArg some (by kernel_rfl))
  t4 := Try.underlying4
  a4 := Try.isAgg4
  z4 := Try.sizeOf4
  v4 := Try.zeroValue4
  t20 := Try.underlying20
  a20 := Try.isAgg20
  z20 := Try.sizeOf20
  v20 := Try.zeroValue20
  t23 := Try.underlying178
  a23 := Try.isAgg178
  z23 := Try.sizeOf178
  v23 := Try.zeroValue178 }
def Try.clone113_ren : Go.Shelf.Ren := ⟨fun | 5 => 113 | 7 => 77 | n => n, fun | 23 => 179 | 25 => 190 | 3 => 3 | 4 => 4 | 20 => 20 | n => n, fun | n => n⟩
theorem Try.clone113 : Go.Proofs.SlLaysW.n5 Try.prog Try.clone113_ren := {
  mixed := by kernel_rfl
  f5 := ⟨Try.f113.name, by decide, Try.func113.trans (congrArg some (by kernel_rfl))⟩
  f7 := Try.func77.trans (congrArg some (by kernel_rfl))
  t4 := Try.underlying4
  a4 := Try.isAgg4
  z4 := Try.sizeOf4
  v4 := Try.zeroValue4
  t20 := Try.underlying20
  a20 := Try.isAgg20
  z20 := Try.sizeOf20
  v20 := Try.zeroValue20
  t23 := Try.underlying179
  a23 := Try.isAgg179
  z23 := Try.sizeOf179
  v23 := Try.zeroValue179 }
def Try.clone114_ren : Go.Shelf.Ren := ⟨fun | 5 => 114 | 7 => 77 | n => n, fun | 23 => 180 | 25 => 192 | 3 => 50 | 4 => 4 | 20 => 20 | n => n, fun | n => n⟩
theorem Try.clone114 : Go.Proofs.SlLaysW.n5 Try.prog Try.clone114_ren := {
  mixed := by kernel_rfl
  f5 := ⟨Try.f114.name, by decide, Try.func114.trans (congrArg some (by kernel_rfl))⟩
  f7 := Try.func77.trans (congrArg some (by kernel_rfl))
  t4 := Try.underlying4
  a4 := Try.isAgg4
  z4 := Try.sizeOf4
  v4 := Try.zeroValue4
  t20 := Try.underlying20
  a20 := Try.isAgg20
  z20 := Try.sizeOf20
  v20 := Try.zeroValue20
  t23 := Try.underlying180
  a23 := Try.isAgg180
  z23 := Try.sizeOf180
  v23 := Try.zeroValue180 }
def Try.clone115_ren : Go.Shelf.Ren := ⟨fun | 5 => 115 | 7 => 77 | n => n, fun | 23 => 181 | 25 => 192 | 3 => 3 | 4 => 4 | 20 => 20 | n => n, fun | n => n⟩
theorem Try.clone115 : Go.Proofs.SlLaysW.n5 Try.prog Try.clone115_ren := {
  mixed := by kernel_rfl
  f5 := ⟨Try.f115.name, by decide, Try.func115.trans (congrArg some (by kernel_rfl))⟩
  f7 := Try.func77.trans (congrArg some (by kernel_rfl))
  t4 := Try.underlying4
  a4 := Try.isAgg4
  z4 := Try.sizeOf4
  v4 := Try.zeroValue4
  t20 := Try.underlying20
  a20 := Try.isAgg20
  z20 := Try.sizeOf20
  v20 := Try.zeroValue20
  t23 := Try.underlying181
  a23 := Try.isAgg181
  z23 := Try.sizeOf181
  v23 := Try.zeroValue181 }
def Try.clone116_ren : Go.Shelf.Ren := ⟨fun | 5 => 116 | 7 => 77 | n => n, fun | 23 => 182 | 25 => 192 | 3 => 217 | 4 => 4 | 20 => 20 | n => n, fun | n => n⟩
theorem Try.clone116 : Go.Proofs.SlLaysW.n5 Try.prog Try.clone116_ren := {
  mixed := by kernel_rfl
  f5 := ⟨Try.f116.name, by decide, Try.func116.trans (congrArg some (by kernel_rfl))⟩
  f7 := Try.func77.trans (congrArg some (by kernel_rfl))
  t4 := Try.underlying4
  a4 := Try.isAgg4
  z4 := Try.sizeOf4
  v4 := Try.zeroValue4
  t20 := Try.underlying20
  a20 := Try.isAgg20
  z20 := Try.sizeOf20
  v20 := Try.zeroValue20
  t23 := Try.underlying182
  a23 := Try.isAgg182
  z23 := Try.sizeOf182
  v23 := Try.zeroValue182 }
def Try.sort75_ren : Go.Shelf.Ren := ⟨fun | 6 => 75 | 15 => 106 | 14 => 105 | 28 => 130 | 29 => 131 | 20 => 122 | 21 => 123 | 22 => 124 | 23 => 125 | 24 => 126 | 25 => 127 | 26 => 128 | 27 => 129 | 46 => 153 | 47 => 154 | 48 => 155 | 49 => 156 | 50 => 157 | 57 => 172 | n => n, fun | 22 => 22 | 24 => 30 | 25 => 103 | 3 => 3 | 39 => 204 | 0 => 0 | 53 => 230 | 55 => 232 | 4 => 4 | 46 => 224 | 45 => 223 | 50 => 124 | 5 => 5 | 9 => 9 | 66 => 253 | 70 => 257 | 76 => 271 | 77 => 272 | n => n, fun | n => n⟩
theorem Try.sort75 : Go.Proofs.SlLaysF0.n6 Try.prog Try.sort75_ren := {
  mixed := by kernel_rfl
  f6 := ⟨Try.f75.name, by decide, Try.func75.trans (congrArg some (by kernel_rfl))⟩
  f14 := ⟨Try.f105.name, by decide, Try.func105.trans (congrArg some (by kernel_rfl))⟩
  f15 := Try.func106.trans (congrArg some (by kernel_rfl))
  f20 := ⟨Try.f122.name, by decide, Try.func122.trans (congrArg some (by kernel_rfl))⟩
  f21 := ⟨Try.f123.name, by decide, Try.func123.trans (congrArg some (by kernel_rfl))⟩
  f22 := ⟨Try.f124.name, by decide, Try.func124.trans (congrArg some (by kernel_rfl))⟩
  f23 := ⟨Try.f125.name, by decide, Try.func125.trans (congrArg some (by kernel_rfl))⟩
  f24 := ⟨Try.f126.name, by decide, Try.func126.trans (congrArg some (by kernel_rfl))⟩
  f25 := ⟨Try.f127.name, by decide, Try.func127.trans (congrArg some (by kernel_rfl))⟩
  f26 := ⟨Try.f128.name, by decide, Try.func128.trans (congrArg some (by kernel_rfl))⟩
  f27 := ⟨Try.f129.name, by decide, Try.func129.trans (congrArg some (by kernel_rfl))⟩
  f28 := Try.func130.trans (congrArg some (by kernel_rfl))
  f29 := Try.func131.trans (congrArg some (by kernel_rfl))
  f46 := ⟨Try.f153.name, by decide, Try.func153.trans (congrArg some (by kernel_rfl))⟩
  f47 := Try.func154.trans (congrArg some (by kernel_rfl))
  f48 := Try.func155.trans (congrArg some (by kernel_rfl))
  f49 := ⟨Try.f156.name, by decide, Try.func156.trans (congrArg some (by kernel_rfl))⟩
  f50 := ⟨Try.f157.name, by decide, Try.func157.trans (congrArg some (by kernel_rfl))⟩
  f57 := ⟨Try.f172.name, by decide, Try.func172.trans (congrArg some (by kernel_rfl))⟩
  t0 := Try.underlying0
  a0 := Try.isAgg0
  z0 := Try.sizeOf0
  v0 := Try.zeroValue0
  t3 := Try.underlying3
  a3 := Try.isAgg3
  z3 := Try.sizeOf3
  v3 := Try.zeroValue3
  t4 := Try.underlying4
  a4 := Try.isAgg4
  z4 := Try.sizeOf4
  v4 := Try.zeroValue4
  t5 := Try.underlying5
  a5 := Try.isAgg5
  z5 := Try.sizeOf5
  v5 := Try.zeroValue5
  t9 := Try.underlying9
  a9 := Try.isAgg9
  z9 := Try.sizeOf9
  v9 := Try.zeroValue9
  t22 := Try.underlying22
  a22 := Try.isAgg22
  z22 := Try.sizeOf22
  v22 := Try.zeroValue22
  t25 := Try.underlying103
  a25 := Try.isAgg103
  z25 := Try.sizeOf103
  v25 := Try.zeroValue103
  t39 := Try.underlying204
  a39 := Try.isAgg204
  z39 := Try.sizeOf204
  v39 := Try.zeroValue204
  t45 := Try.underlying223
  a45 := Try.isAgg223
  z45 := Try.sizeOf223
  v45 := Try.zeroValue223
  t46 := Try.underlying224
  a46 := Try.isAgg224
  z46 := Try.sizeOf224
  v46 := Try.zeroValue224
  t50 := Try.underlying124
  a50 := Try.isAgg124
  z50 := Try.sizeOf124
  v50 := Try.zeroValue124
  t53 := Try.underlying230
  a53 := Try.isAgg230
  z53 := Try.sizeOf230
  v53 := Try.zeroValue230
  t55 := Try.underlying232
  a55 := Try.isAgg232
  z55 := Try.sizeOf232
  v55 := Try.zeroValue232
  t66 := Try.underlying253
  a66 := Try.isAgg253
  z66 := Try.sizeOf253
  v66 := Try.zeroValue253
  t70 := Try.underlying257
  a70 := Try.isAgg257
  z70 := Try.sizeOf257
  v70 := Try.zeroValue257
  t76 := Try.underlying271
  a76 := Try.isAgg271
  z76 := Try.sizeOf271
  v76 := Try.zeroValue271
  t77 := Try.underlying272
  a77 := Try.isAgg272
  z77 := Try.sizeOf272
  v77 := Try.zeroValue272 }
def Try.sort85_ren : Go.Shelf.Ren := ⟨fun | 6 => 85 | 15 => 106 | 14 => 109 | 28 => 130 | 29 => 131 | 20 => 132 | 21 => 133 | 22 => 134 | 23 => 135 | 24 => 136 | 25 => 137 | 26 => 138 | 27 => 139 | 46 => 158 | 47 => 154 | 48 => 155 | 49 => 159 | 50 => 160 | 57 => 173 | n => n, fun | 22 => 61 | 24 => 60 | 25 => 123 | 3 => 3 | 39 => 204 | 0 => 0 | 53 => 230 | 55 => 232 | 4 => 4 | 46 => 224 | 45 => 223 | 50 => 124 | 5 => 5 | 9 => 9 | 66 => 253 | 70 => 257 | 76 => 271 | 77 => 272 | n => n, fun | n => n⟩
theorem Try.sort85 : Go.Proofs.SlLaysF0.n6 Try.prog Try.sort85_ren := {
  mixed := by kernel_rfl
  f6 := ⟨Try.f85.name, by decide, Try.func85.trans (congrArg some (by kernel_rfl))⟩
  f14 := ⟨Try.f109.name, by decide, Try.func109.trans (congrArg some (by kernel_rfl))⟩
  f15 := Try.func106.trans (congrArg some (by kernel_rfl))
  f20 := ⟨Try.f132.name, by decide, Try.func132.trans (congrArg some (by kernel_rfl))⟩
  f21 := ⟨Try.f133.name, by decide, Try.func133.trans (congrArg some (by kernel_rfl))⟩
  f22 := ⟨Try.f134.name, by decide, Try.func134.trans (congrArg some (by kernel_rfl))⟩
  f23 := ⟨Try.f135.name, by decide, Try.func135.trans (congrArg some (by kernel_rfl))⟩
  f24 := ⟨Try.f136.name, by decide, Try.func136.trans (congrArg some (by kernel_rfl))⟩
  f25 := ⟨Try.f137.name, by decide, Try.func137.trans (congrArg some (by kernel_rfl))⟩
  f26 := ⟨Try.f138.name, by decide, Try.func138.trans (congrArg some (by kernel_rfl))⟩
  f27 := ⟨Try.f139.name, by decide, Try.func139.trans (congrArg some (by kernel_rfl))⟩
  f28 := Try.func130.trans (congrArg some (by kernel_rfl))
  f29 := Try.func131.trans (congrArg some (by kernel_rfl))
  f46 := ⟨Try.f158.name, by decide, Try.func158.trans (congrArg some (by kernel_rfl))⟩
  f47 := Try.func154.trans (congrArg some (by kernel_rfl))
  f48 := Try.func155.trans (congrArg some (by kernel_rfl))
  f49 := ⟨Try.f159.name, by decide, Try.func159.trans (congrArg some (by kernel_rfl))⟩
  f50 := ⟨Try.f160.name, by decide, Try.func160.trans (congrArg some (by kernel_rfl))⟩
  f57 := ⟨Try.f173.name, by decide, Try.func173.trans (congrArg some (by kernel_rfl))⟩
  t0 := Try.underlying0
  a0 := Try.isAgg0
  z0 := Try.sizeOf0
  v0 := Try.zeroValue0
  t3 := Try.underlying3
  a3 := Try.isAgg3
  z3 := Try.sizeOf3
  v3 := Try.zeroValue3
  t4 := Try.underlying4
  a4 := Try.isAgg4
  z4 := Try.sizeOf4
  v4 := Try.zeroValue4
  t5 := Try.underlying5
  a5 := Try.isAgg5
  z5 := Try.sizeOf5
  v5 := Try.zeroValue5
  t9 := Try.underlying9
  a9 := Try.isAgg9
  z9 := Try.sizeOf9
  v9 := Try.zeroValue9
  t22 := Try.underlying61
  a22 := Try.isAgg61
  z22 := Try.sizeOf61
  v22 := Try.zeroValue61
  t25 := Try.underlying123
  a25 := Try.isAgg123
  z25 := Try.sizeOf123
  v25 := Try.zeroValue123
  t39 := Try.underlying204
  a39 := Try.isAgg204
  z39 := Try.sizeOf204
  v39 := Try.zeroValue204
  t45 := Try.underlying223
  a45 := Try.isAgg223
  z45 := Try.sizeOf223
  v45 := Try.zeroValue223
  t46 := Try.underlying224
  a46 := Try.isAgg224
  z46 := Try.sizeOf224
  v46 := Try.zeroValue224
  t50 := Try.underlying124
  a50 := Try.isAgg124
  z50 := Try.sizeOf124
  v50 := Try.zeroValue124
  t53 := Try.underlying230
  a53 := Try.isAgg230
  z53 := Try.sizeOf230
  v53 := Try.zeroValue230
  t55 := Try.underlying232
  a55 := Try.isAgg232
  z55 := Try.sizeOf232
  v55 := Try.zeroValue232
  t66 := Try.underlying253
  a66 := Try.isAgg253
  z66 := Try.sizeOf253
  v66 := Try.zeroValue253
  t70 := Try.underlying257
  a70 := Try.isAgg257
  z70 := Try.sizeOf257
  v70 := Try.zeroValue257
  t76 := Try.underlying271
  a76 := Try.isAgg271
  z76 := Try.sizeOf271
  v76 := Try.zeroValue271
  t77 := Try.underlying272
  a77 := Try.isAgg272
  z77 := Try.sizeOf272
  v77 := Try.zeroValue272 }
def Try.sort91_ren : Go.Shelf.Ren := ⟨fun | 6 => 91 | 15 => 106 | 14 => 111 | 28 => 130 | 29 => 131 | 20 => 140 | 21 => 141 | 22 => 142 | 23 => 143 | 24 => 144 | 25 => 145 | 26 => 146 | 27 => 147 | 46 => 161 | 47 => 154 | 48 => 155 | 49 => 162 | 50 => 163 | 57 => 174 | n => n, fun | 22 => 68 | 24 => 48 | 25 => 132 | 3 => 3 | 39 => 204 | 0 => 0 | 53 => 230 | 55 => 232 | 4 => 4 | 46 => 224 | 45 => 223 | 50 => 124 | 5 => 5 | 9 => 9 | 66 => 253 | 70 => 257 | 76 => 271 | 77 => 272 | n => n, fun | n => n⟩
theorem Try.sort91 : Go.Proofs.SlLaysF0.n6 Try.prog Try.sort91_ren := {
  mixed := by kernel_rfl
  f6 := ⟨Try.f91.name, by decide, Try.func91.trans (congrArg some (by kernel_rfl))⟩
  f14 := ⟨Try.f111.name, by decide, Try.func111.trans (congrArg some (by kernel_rfl))⟩
  f15 := Try.func106.trans (congrArg some (by kernel_rfl))
  f20 := ⟨Try.f140.name, by decide, Try.func140.trans (congrArg some (by kernel_rfl))⟩
  f21 := ⟨Try.f141.name, by decide, Try.func141.trans (congrArg some (by kernel_rfl))⟩
  f22 := ⟨Try.f142.name, by decide, Try.func142.trans (congrArg some (by kernel_rfl))⟩
  f23 := ⟨Try.f143.name, by decide, Try.func143.trans (congrArg some (by kernel_rfl))⟩
  f24 := ⟨Try.f144.name, by decide, Try.func144.trans (congrArg some (by kernel_rfl))⟩
  f25 := ⟨Try.f145.name, by decide, Try.func145.trans (congrArg some (by kernel_rfl))⟩
  f26 := ⟨Try.f146.name, by decide, Try.func146.trans (congrArg some (by kernel_rfl))⟩
  f27 := ⟨Try.f147.name, by decide, Try.func147.trans (congrArg some (by kernel_rfl))⟩
  f28 := Try.func130.trans (congrArg some (by kernel_rfl))
  f29 := Try.func131.trans (congrArg some (by kernel_rfl))
  f46 := ⟨Try.f161.name, by decide, Try.func161.trans (congrArg some (by kernel_rfl))⟩
  f47 := Try.func154.trans (congrArg some (by kernel_rfl))
  f48 := Try.func155.trans (congrArg some (by kernel_rfl))
  f49 := ⟨Try.f162.name, by decide, Try.func162.trans (congrArg some (by kernel_rfl))⟩
  f50 := ⟨Try.f163.name, by decide, Try.func163.trans (congrArg some (by kernel_rfl))⟩
  f57 := ⟨Try.f174.name, by decide, Try.func174.trans (congrArg some (by kernel_rfl))⟩
  t0 := Try.underlying0
  a0 := Try.isAgg0
  z0 := Try.sizeOf0
  v0 := Try.zeroValue0
  t3 := Try.underlying3
  a3 := Try.isAgg3
  z3 := Try.sizeOf3
  v3 := Try.zeroValue3
  t4 := Try.underlying4
  a4 := Try.isAgg4
  z4 := Try.sizeOf4
  v4 := Try.zeroValue4
  t5 := Try.underlying5
  a5 := Try.isAgg5
  z5 := Try.sizeOf5
  v5 := Try.zeroValue5
  t9 := Try.underlying9
  a9 := Try.isAgg9
  z9 := Try.sizeOf9
  v9 := Try.zeroValue9
  t22 := Try.underlying68
  a22 := Try.isAgg68
  z22 := Try.sizeOf68
  v22 := Try.zeroValue68
  t25 := Try.underlying132
  a25 := Try.isAgg132
  z25 := Try.sizeOf132
  v25 := Try.zeroValue132
  t39 := Try.underlying204
  a39 := Try.isAgg204
  z39 := Try.sizeOf204
  v39 := Try.zeroValue204
  t45 := Try.underlying223
  a45 := Try.isAgg223
  z45 := Try.sizeOf223
  v45 := Try.zeroValue223
  t46 := Try.underlying224
  a46 := Try.isAgg224
  z46 := Try.sizeOf224
  v46 := Try.zeroValue224
  t50 := Try.underlying124
  a50 := Try.isAgg124
  z50 := Try.sizeOf124
  v50 := Try.zeroValue124
  t53 := Try.underlying230
  a53 := Try.isAgg230
  z53 := Try.sizeOf230
  v53 := Try.zeroValue230
  t55 := Try.underlying232
  a55 := Try.isAgg232
  z55 := Try.sizeOf232
  v55 := Try.zeroValue232
  t66 := Try.underlying253
  a66 := Try.isAgg253
  z66 := Try.sizeOf253
  v66 := Try.zeroValue253
  t70 := Try.underlying257
  a70 := Try.isAgg257
  z70 := Try.sizeOf257
  v70 := Try.zeroValue257
  t76 := Try.underlying271
  a76 := Try.isAgg271
  z76 := Try.sizeOf271
  v76 := Try.zeroValue271
  t77 := Try.underlying272
  a77 := Try.isAgg272
  z77 := Try.sizeOf272
  v77 := Try.zeroValue272 }
def Try.sort175_ren : Go.Shelf.Ren := ⟨fun | 6 => 175 | 15 => 106 | 14 => 179 | 28 => 130 | 29 => 131 | 20 => 181 | 21 => 182 | 22 => 183 | 23 => 184 | 24 => 185 | 25 => 186 | 26 => 187 | 27 => 188 | 46 => 189 | 47 => 154 | 48 => 155 | 49 => 190 | 50 => 191 | 57 => 192 | n => n, fun | 22 => 263 | 24 => 50 | 25 => 277 | 3 => 3 | 39 => 204 | 0 => 0 | 53 => 230 | 55 => 232 | 4 => 4 | 46 => 224 | 45 => 223 | 50 => 124 | 5 => 5 | 9 => 9 | 66 => 253 | 70 => 257 | 76 => 271 | 77 => 272 | n => n, fun | n => n⟩
theorem Try.sort175 : Go.Proofs.SlLaysF0.n6 Try.prog Try.sort175_ren := {
  mixed := by kernel_rfl
  f6 := ⟨Try.f175.name, by decide, Try.func175.trans (congrArg some (by kernel_rfl))⟩
  f14 := ⟨Try.f179.name, by decide, Try.func179.trans (congrArg some (by kernel_rfl))⟩
  f15 := Try.func106.trans (congrArg some (by kernel_rfl))
  f20 := ⟨Try.f181.name, by decide, Try.func181.trans (congrArg some (by kernel_rfl))⟩
  f21 := ⟨Try.f182.name, by decide, Try.func182.trans (congrArg some (by kernel_rfl))⟩
  f22 := ⟨Try.f183.name, by decide, Try.func183.trans (congrArg some (by kernel_rfl))⟩
  f23 := ⟨Try.f184.name, by decide, Try.func184.trans (congrArg some (by kernel_rfl))⟩
  f24 := ⟨Try.f185.name, by decide, Try.func185.trans (congrArg some (by kernel_rfl))⟩
  f25 := ⟨Try.f186.name, by decide, Try.func186.trans (congrArg some (by kernel_rfl))⟩
  f26 := ⟨Try.f187.name, by decide, Try.func187.trans (congrArg some (by kernel_rfl))⟩
  f27 := ⟨Try.f188.name, by decide, Try.func188.trans (congrArg some (by kernel_rfl))⟩
  f28 := Try.func130.trans (congrArg some (by kernel_rfl))
  f29 := Try.func131.trans (congrArg some (by kernel_rfl))
  f46 := ⟨Try.f189.name, by decide, Try.func189.trans (congrArg some (by kernel_rfl))⟩
  f47 := Try.func154.trans (congrArg some (by kernel_rfl))
  f48 := Try.func155.trans (congrArg some (by kernel_rfl))
  f49 := ⟨Try.f190.name, by decide, Try.func190.trans (congrArg some (by kernel_rfl))⟩
  f50 := ⟨Try.f191.name, by decide, Try.func191.trans (congrArg some (by kernel_rfl))⟩
  f57 := ⟨Try.f192.name, by decide, Try.func192.trans (congrArg some (by kernel_rfl))⟩
  t0 := Try.underlying0
  a0 := Try.isAgg0
  z0 := Try.sizeOf0
  v0 := Try.zeroValue0
  t3 := Try.underlying3
  a3 := Try.isAgg3
  z3 := Try.sizeOf3
  v3 := Try.zeroValue3
  t4 := Try.underlying4
  a4 := Try.isAgg4
  z4 := Try.sizeOf4
  v4 := Try.zeroValue4
  t5 := Try.underlying5
  a5 := Try.isAgg5
  z5 := Try.sizeOf5
  v5 := Try.zeroValue5
  t9 := Try.underlying9
  a9 := Try.isAgg9
  z9 := Try.sizeOf9
  v9 := Try.zeroValue9
  t22 := Try.underlying263
  a22 := Try.isAgg263
  z22 := Try.sizeOf263
  v22 := Try.zeroValue263
  t25 := Try.underlying277
  a25 := Try.isAgg277
  z25 := Try.sizeOf277
  v25 := Try.zeroValue277
  t39 := Try.underlying204
  a39 := Try.isAgg204
  z39 := Try.sizeOf204
  v39 := Try.zeroValue204
  t45 := Try.underlying223
  a45 := Try.isAgg223
  z45 := Try.sizeOf223
  v45 := Try.zeroValue223
  t46 := Try.underlying224
  a46 := Try.isAgg224
  z46 := Try.sizeOf224
  v46 := Try.zeroValue224
  t50 := Try.underlying124
  a50 := Try.isAgg124
  z50 := Try.sizeOf124
  v50 := Try.zeroValue124
  t53 := Try.underlying230
  a53 := Try.isAgg230
  z53 := Try.sizeOf230
  v53 := Try.zeroValue230
  t55 := Try.underlying232
  a55 := Try.isAgg232
  z55 := Try.sizeOf232
  v55 := Try.zeroValue232
  t66 := Try.underlying253
  a66 := Try.isAgg253
  z66 := Try.sizeOf253
  v66 := Try.zeroValue253
  t70 := Try.underlying257
  a70 := Try.isAgg257
  z70 := Try.sizeOf257
  v70 := Try.zeroValue257
  t76 := Try.underlying271
  a76 := Try.isAgg271
  z76 := Try.sizeOf271
  v76 := Try.zeroValue271
  t77 := Try.underlying272
  a77 := Try.isAgg272
  z77 := Try.sizeOf272
  v77 := Try.zeroValue272 }
end Go.Proofs
