import Derived.Test.YtobopbjedojebaaK11
import Derived.Test.YtobopbjedojebaaK15
import Derived.Maps.RangeWalk
import Derived.OwnWalkIn
import Derived.Test.YtobopbjedojebaaK13
/- The abstract machine: contracts over two objects. -/
namespace Go.Proofs.Ytobopbjedojebaa
set_option linter.all false
open Go.RowKit
theorem dom2 {α : Type} {b d : Nat} {c c' e e' : α} : ∀ b' cs, lk [(b, c), (d, e)] b' = some cs → ∃ cs', lk [(b, c'), (d, e')] b' = some cs' := by
  intro b' cs h
  rw [lk_cons, lk_cons] at h ⊢
  by_cases hb : b' = b
  · rw [if_pos hb]; exact ⟨_, rfl⟩
  · rw [if_neg hb] at h ⊢
    by_cases hd : b' = d
    · rw [if_pos hd]; exact ⟨_, rfl⟩
    · rw [if_neg hd] at h; cases h
/-- Two new blocks. -/
def NewB2 (o : Nat → Option (List AV)) (K : Nat → Nat → Prop) : Prop := ∀ b c, o b = none → o c = none → ¬ b = c → ¬ c = b → K b c
theorem NewB2_intro {o : Nat → Option (List AV)} {K : Nat → Nat → Prop} (h : ∀ b c, o b = none → o c = none → ¬ b = c → ¬ c = b → K b c) : NewB2 o K := h
section
variable {P : Program} {d : Option Nat} {s : St} {K : St → Prop}
/-- What a function that makes two new objects (a struct, a map that it holds) says: the objects o1 that it was handed become o2. -/
abbrev new2 (o2 : List (Nat × List AV)) (ds : List AV) : AV → (Nat → Option (List AV)) → Prop := fun r' o' => ∃ c m, (¬ c = m ∧ lk o2 c = none ∧ lk o2 m = none) ∧ r' = .ptr c 0 ∧ o' = lk ((c, [.mapv m]) :: (m, ds) :: o2)
theorem CallO_new2 {f : Nat} {vs : List AV} {o1 o2 : List (Nat × List AV)} {ds : List AV} (h : CT P f vs (lk o1) (new2 o2 ds)) (hsub : ∀ b cs, lk o1 b = some cs → s.o b = some cs) (hd : ∀ b, lk o2 b = none → lk o1 b = none)
    (hK : NewB2 s.o (fun c m => KS (St.put ⟨s.t, ovr ((c, [.mapv m]) :: (m, ds) :: o2) s.o⟩ d (.ptr c 0)) K)) : CallO P f vs d s K := by
  refine ⟨lk o1, _, hsub, h, ?_⟩
  rintro r' o' ⟨c, m, ⟨h1, h2, h3⟩, rfl, rfl⟩ hf
  exact hK c m (hf c _ (lk_hd _ _ _) (hd c h2)) (hf m _ (lk_tl (fun e => h1 e.symm) (lk_hd _ _ _)) (hd m h3)) h1 (fun e => h1 e.symm)
theorem ro_new2 {s : St} {rs : List AR} {o1 o2 : List (Nat × List AV)} {ds : List AV} (c m : Nat) (h : resR s rs (.ptr c 0) ∧ LeL ((c, [.mapv m]) :: (m, ds) :: o2) s.o) (h1 : ¬ c = m) (h2 : lk o2 c = none) (h3 : lk o2 m = none) (hd : ∀ b cs, lk o1 b = some cs → ∃ cs', lk o2 b = some cs') : RetO s rs (lk o1) (new2 o2 ds) := by
  refine ⟨_, h.1, lk ((c, [.mapv m]) :: (m, ds) :: o2), LeL_ok h.2, fun b cs hb => ?_, c, m, ⟨h1, h2, h3⟩, rfl, rfl⟩
  obtain ⟨cs', hc⟩ := hd b cs hb
  refine ⟨cs', ?_⟩
  rw [lk_cons, lk_cons, if_neg (fun e => by subst e; rw [hc] at h2; cases h2), if_neg (fun e => by subst e; rw [hc] at h3; cases h3)]
  exact hc
end
end Go.Proofs.Ytobopbjedojebaa

/- The abstract machine: what a library function returns over objects that it only reads; maps.Clone. -/
namespace Go.Proofs.Ytobopbjedojebaa
set_option linter.all false
open Go.RowKit
section
variable {P : Program} {W0 : World} {U0 : Nat → Nat → Prop} {M : Nat → Prop} {W : World} {U : Nat → Nat → Prop}
/-- A result is put down. -/
theorem Inv.res1 {o : Nat → Option (List AV)} (h : Inv 0 W0 U0 M { tmps := #[], defers := [] } W U ⟨fun _ => none, o⟩) {v : Value} {r : AV} (hv : VR W U v r) (ho : Sole W0 M { tmps := #[undef], defers := [] } W U ⟨fun _ => none, o⟩ 0 v r) :
    Inv 1 W0 U0 M { tmps := #[v], defers := [] } W U ⟨upd (fun _ => none) 0 (some r), o⟩ := by
  have h1 : Inv 1 W0 U0 M { tmps := #[undef], defers := [] } W U ⟨fun _ => none, o⟩ := by
    have hc : ∀ {ℓ : Loc} {x : AV}, St.at ⟨fun _ => none, o⟩ ℓ = some x → cat { tmps := #[undef], defers := [] } W ℓ = cat { tmps := #[], defers := [] } W ℓ := by
      intro ℓ x hx
      cases ℓ with
      | t i => simp [St.at] at hx
      | o b j => rfl
    refine ⟨rfl, rfl, h.fr, fun i x hx => (by simp at hx), h.ob, fun ℓ x hx => ?_, fun ℓ ℓ' e sz els e' sz' els' hne h2 h3 => ?_, fun ℓ e sz els h2 => ?_⟩
    · rw [hc hx]; exact h.ow ℓ x hx
    · rw [hc h2, hc h3]; exact h.ap ℓ ℓ' _ _ _ _ _ _ hne h2 h3
    · rw [hc h2]; exact h.no ℓ e sz els h2
  exact h1.put (d := 0) (by omega) hv ho
/-- .. in a world that has grown. -/
theorem Inv.res2 {o : Nat → Option (List AV)} (h : Inv 0 W0 U0 M { tmps := #[], defers := [] } W U ⟨fun _ => none, o⟩) {W' : World} {U' : Nat → Nat → Prop} (he : Ext W U W' U') {v : Value} {r : AV} (hv : VR W' U' v r)
    (ho : ∀ e sz els, r = .sl (some e) sz els → OwnRow W' U' (W.heap.size ≤ ·) v e sz els.length) :
    Inv 1 W0 U0 M { tmps := #[v], defers := [] } W' U' ⟨upd (fun _ => none) 0 (some r), o⟩ := by
  refine (h.ext he).res1 hv fun e sz els hr => ?_
  have hw := ho e sz els hr
  refine ⟨hw.toB fun g hg => .inl (Nat.le_trans h.fr.size (OwnRow.inB hw hg)), fun g hg => ⟨?_, fun ℓ _ ⟨e', sz', els', hl⟩ hg' => ?_⟩⟩
  · cases hs : o g with
    | none => exact hs
    | some cs =>
      have h1 := h.ob_lt g cs hs
      have h2 : W.heap.size ≤ g := OwnRow.inB hw hg
      omega
  · have h2 : W.heap.size ≤ g := OwnRow.inB hw hg
    cases ℓ with
    | t i => simp [St.at] at hl
    | o b j =>
      have hl' : St.at ⟨fun _ => none, o⟩ (.o b j) = some (.sl (some e') sz' els') := hl
      have h5 := h.ow (.o b j) _ hl'
      simp only [Own1] at h5
      have hcat : cat { tmps := #[undef], defers := [] } W' (.o b j) = cat { tmps := #[], defers := [] } W (.o b j) := cat_ext (a := { tmps := #[], defers := [] }) he.b h.ob_lt hl'
      rw [hcat] at hg'
      have := h5.lt hg'
      omega
/-- A library function that reads objects and makes something new. -/
theorem CT_reads {f : Nat} {av : List AV} {o1 : List (Nat × List AV)} {r : AV}
    (h : ∀ (W : World) (U : Nat → Nat → Prop) (vs : List Value), Glob W U → vs.length = av.length → (∀ (i : Nat) (v : Value) (c : AV), vs[i]? = some v → av[i]? = some c → VR W U v c) → (∀ b cs, lk o1 b = some cs → ObR W U b cs) →
      Calls P f vs.toArray W fun e W' => ∃ v U', e = .returned v ∧ VR W' U' v r ∧ (∀ e sz els, r = .sl (some e) sz els → OwnRow W' U' (W.heap.size ≤ ·) v e sz els.length) ∧ Ext W U W' U') :
    CT P f av (lk o1) (fun r' o' => r' = r ∧ o' = lk o1) := by
  intro W U vs hl hv hI
  refine (h W U vs hI.fr.g0 hl hv (fun b cs hb => (hI.ob b cs hb).1)).mono ?_
  rintro e W' ⟨v, U', rfl, hvr, hown, hE⟩
  exact ⟨v, U', r, lk o1, rfl, ⟨rfl, rfl⟩, fun b cs hb => ⟨cs, hb⟩, hI.res2 hE hvr hown⟩
theorem lk_of_fun : (fun _ => none : Nat → Option (List AV)) = lk [] := rfl
/-- A library function that lays one block of cells. -/
theorem CT_lays {f : Nat} {av : List AV} {cs : List AV} {R : Nat → AV}
    (h : ∀ (W : World) (U : Nat → Nat → Prop) (vs : List Value), vs.length = av.length → (∀ (i : Nat) (v : Value) (c : AV), vs[i]? = some v → av[i]? = some c → VR W U v c) →
      Calls P f vs.toArray W fun e W' => ∃ (v : Value) (us : Array Value) (ty : TypeId), e = .returned v ∧ W' = W.alloc (.cells us ty) ∧ us.size = cs.length ∧ (∀ u, headT cs = some u → ty = u) ∧
        (∀ (j : Nat) (u : Value), us[j]? = some u → u.oneCell' = true ∧ ∀ x, cs[j]? = some x → VR W U u x ∧ ∀ e sz els, x = .sl (some e) sz els → u = .slice none 0 0 ∧ els = []) ∧
        (∀ W2 U2, CellsAt W2 W.heap.size → VR W2 U2 v (R W.heap.size)) ∧ ∀ e sz els, R W.heap.size ≠ .sl (some e) sz els) :
    CT P f av (lk []) (fun r' o' => ∃ b, r' = R b ∧ o' = lk [(b, cs)]) := by
  intro W U vs hl hv hI
  refine (h W U vs hl hv).mono ?_
  rintro e W' ⟨v, us, ty, rfl, rfl, g1, g2, g3, g4, g5⟩
  have hn := hI.newo (vs := us) (cs := cs) (ty := ty) g1 g2 g3
  have ho : upd (lk ([] : List (Nat × List AV))) W.heap.size (some cs) = lk [(W.heap.size, cs)] := by rw [upd_lk]; simp [pt]
  rw [show ({ (⟨fun _ => none, lk []⟩ : St) with o := upd (lk []) W.heap.size (some cs) } : St) = ⟨fun _ => none, lk [(W.heap.size, cs)]⟩ by rw [← ho]] at hn
  exact ⟨v, _, R W.heap.size, _, rfl, ⟨W.heap.size, rfl, rfl⟩, fun b' cs hb' => (by simp [lk] at hb'), hn.res1 (g4 _ _ ⟨_, _, _, heap_alloc_new W _⟩) fun e sz els hr => absurd hr (g5 e sz els)⟩
/-- maps.Clone. -/
theorem CT_clone {f : Nat} (hc : ∀ (b : Nat) (es : Array MapEntry) (clock : Nat) (w : World), w.heap[b]? = some (.map es clock) → Calls P f #[.map (some b)] w fun e w' => e = .returned (.map (some w.heap.size)) ∧ w' = w.alloc (.map es clock))
    (b : Nat) (kl vl : List AV) (bs : List Nat) (clk : Nat) : CT P f [.mapv b] (lk [(b, [.mp kl vl bs clk])]) (fun r o => ∃ m, (¬ m = b ∧ ¬ b = m) ∧ r = .mapv m ∧ o = lk [(b, [.mp kl vl bs clk]), (m, [.mp kl vl bs clk])]) := by
  intro W U vs hl hv hI
  have hvs : vs = [.map (some b)] := by
    match vs, hl with
    | [v], _ =>
      have := hv 0 v _ rfl rfl
      cases this; rfl
  subst hvs
  have hb : lk [(b, [AV.mp kl vl bs clk])] b = some [.mp kl vl bs clk] := by simp [lk]
  obtain ⟨⟨es, g1, G⟩, hnc⟩ := hI.mpR hb
  refine (hc b es clk W g1).mono ?_
  rintro e W' ⟨rfl, rfl⟩
  have hlt : b < W.heap.size := (Array.getElem?_eq_some_iff.1 g1).1
  have hE := Ext.alloc W U (.map es clk) (fun _ => True)
  have hn := hI.newm (x := .map es clk) (cs := [.mp kl vl bs clk]) ⟨es, heap_alloc_new W _, G.g2, G.g3, G.g4, G.g5, G.g6, fun i e hi => ⟨fun k hk => ((G.g7 i e hi).1 k hk).keep hE.keeps, fun v hv => ((G.g7 i e hi).2.1 v hv).keep hE.keeps, (G.g7 i e hi).2.2⟩⟩ (no_own (by simp))
  have ho : upd (lk [(b, [AV.mp kl vl bs clk])]) W.heap.size (some [.mp kl vl bs clk]) = lk [(b, [.mp kl vl bs clk]), (W.heap.size, [.mp kl vl bs clk])] := by
    rw [upd_lk]; simp [pt, show ¬ W.heap.size = b by omega]
  rw [show ({ (⟨fun _ => none, lk [(b, [AV.mp kl vl bs clk])]⟩ : St) with o := upd (lk [(b, [AV.mp kl vl bs clk])]) W.heap.size (some [.mp kl vl bs clk]) } : St) = ⟨fun _ => none, lk [(b, [.mp kl vl bs clk]), (W.heap.size, [.mp kl vl bs clk])]⟩ by rw [← ho]] at hn
  refine ⟨_, _, .mapv W.heap.size, _, rfl, ⟨W.heap.size, ⟨by omega, by omega⟩, rfl, rfl⟩, fun b' cs hb' => ?_, hn.res1 (.mapv _) fun e sz els hr => (by cases hr)⟩
  rw [lk_cons] at hb' ⊢
  by_cases e : b' = b
  · subst e; simp
  · rw [if_neg e] at hb'; cases hb'
end
section
variable {P : Program} {d : Option Nat} {s : St} {K : St → Prop}
/-- A function that makes one new object, its result telling where. -/
theorem CallO_newR {f : Nat} {vs : List AV} {cs : List AV} {R : Nat → AV} (h : CT P f vs (lk []) (fun r' o' => ∃ b, r' = R b ∧ o' = lk [(b, cs)])) (hK : NewB s.o (fun b => KS (St.put ⟨s.t, ovr [(b, cs)] s.o⟩ d (R b)) K)) : CallO P f vs d s K := by
  refine ⟨lk [], _, fun b cs hb => (by simp [lk] at hb), h, ?_⟩
  rintro r' o' ⟨b, rfl, rfl⟩ hf
  exact hK b (hf b cs (by simp [lk]) rfl)
theorem CallO_clone {f b : Nat} {kl vl : List AV} {bs : List Nat} {clk : Nat} (hc : ∀ (b : Nat) (es : Array MapEntry) (clock : Nat) (w : World), w.heap[b]? = some (.map es clock) → Calls P f #[.map (some b)] w fun e w' => e = .returned (.map (some w.heap.size)) ∧ w' = w.alloc (.map es clock))
    (hb : s.o b = some [.mp kl vl bs clk]) (hK : NewB s.o (fun m => KS (St.put ⟨s.t, ovr [(b, [.mp kl vl bs clk]), (m, [.mp kl vl bs clk])] s.o⟩ d (.mapv m)) K)) : CallO P f [.mapv b] d s K := by
  refine ⟨lk [(b, [.mp kl vl bs clk])], _, lk_sub1 hb, CT_clone hc b kl vl bs clk, ?_⟩
  rintro r' o' ⟨m, ⟨h1, h2⟩, rfl, rfl⟩ hf
  exact hK m (hf m _ (lk_tl h1 (lk_hd _ _ _)) (by simp [lk, h1]))
end
end Go.Proofs.Ytobopbjedojebaa

/- The abstract machine: contracts over three objects (a struct that holds two maps). -/
namespace Go.Proofs.Ytobopbjedojebaa
set_option linter.all false
open Go.RowKit
theorem dom3 {α : Type} {b d f : Nat} {c c' e e' g g' : α} : ∀ b' cs, lk [(b, c), (d, e), (f, g)] b' = some cs → ∃ cs', lk [(b, c'), (d, e'), (f, g')] b' = some cs' := by
  intro b' cs h
  rw [lk_cons] at h ⊢
  by_cases hb : b' = b
  · rw [if_pos hb]; exact ⟨_, rfl⟩
  · rw [if_neg hb] at h ⊢; exact dom2 b' cs h
/-- Three new blocks. -/
def NewB3 (o : Nat → Option (List AV)) (K : Nat → Nat → Nat → Prop) : Prop := ∀ b c d, o b = none → o c = none → o d = none → ((¬ b = c ∧ ¬ c = b) ∧ (¬ b = d ∧ ¬ d = b) ∧ ¬ c = d ∧ ¬ d = c) → K b c d
theorem NewB3_intro {o : Nat → Option (List AV)} {K : Nat → Nat → Nat → Prop} (h : ∀ b c d, o b = none → o c = none → o d = none → ((¬ b = c ∧ ¬ c = b) ∧ (¬ b = d ∧ ¬ d = b) ∧ ¬ c = d ∧ ¬ d = c) → K b c d) : NewB3 o K := h
section
variable {P : Program} {d : Option Nat} {s : St} {K : St → Prop}
/-- A function that makes a struct of two maps, and keeps what it was handed. -/
abbrev new3 (ds es : List AV) : AV → (Nat → Option (List AV)) → Prop := fun r' o' => ∃ c m n, (¬ c = m ∧ ¬ c = n ∧ ¬ m = n) ∧ r' = .ptr c 0 ∧ o' = lk [(c, [.mapv m, .mapv n]), (m, ds), (n, es)]
theorem CallO_new3 {f : Nat} {vs : List AV} {ds es : List AV} (h : CT P f vs (lk []) (new3 ds es))
    (hK : NewB3 s.o (fun c m n => KS (St.put ⟨s.t, ovr [(c, [.mapv m, .mapv n]), (m, ds), (n, es)] s.o⟩ d (.ptr c 0)) K)) : CallO P f vs d s K := by
  refine ⟨lk [], _, fun b cs hb => by simp [lk] at hb, h, ?_⟩
  rintro r' o' ⟨c, m, n, ⟨h1, h2, h3⟩, rfl, rfl⟩ hf
  have g1 : lk [(c, [AV.mapv m, .mapv n]), (m, ds), (n, es)] m = some ds := lk_tl (fun e => h1 e.symm) (lk_hd _ _ _)
  have g2 : lk [(c, [AV.mapv m, .mapv n]), (m, ds), (n, es)] n = some es := lk_tl (fun e => h2 e.symm) (lk_tl (fun e => h3 e.symm) (lk_hd _ _ _))
  exact hK c m n (hf c _ (lk_hd _ _ _) rfl) (hf m _ g1 rfl) (hf n _ g2 rfl) ⟨⟨h1, fun e => h1 e.symm⟩, ⟨h2, fun e => h2 e.symm⟩, h3, fun e => h3 e.symm⟩
theorem ro_new3 {s : St} {rs : List AR} {ds es : List AV} (c m n : Nat) (h : resR s rs (.ptr c 0) ∧ LeL [(c, [.mapv m, .mapv n]), (m, ds), (n, es)] s.o) (h1 : ¬ c = m ∧ ¬ c = n ∧ ¬ m = n) : RetO s rs (lk []) (new3 ds es) :=
  ⟨_, h.1, lk [(c, [.mapv m, .mapv n]), (m, ds), (n, es)], LeL_ok h.2, fun b cs hb => by simp [lk] at hb, c, m, n, h1, rfl, rfl⟩
end
end Go.Proofs.Ytobopbjedojebaa

/- ends.Check: what a chain may begin with -/
namespace Go.Proofs.Ytobopbjedojebaa
set_option linter.all false
open Go.RowKit
set_option maxRecDepth 100000
structure GenC where
  ap : List UInt8
  ac : Int
  bp : List UInt8
  bc : Int
  o : Bool
  n : Int
  deriving DecidableEq, Inhabited
abbrev GenC.cs (g : GenC) : List AV := [.str g.ap, .int .i64 g.ac, .str g.bp, .int .i64 g.bc, .bool g.o, .int .i64 g.n]
def gens (l : List GenC) : List (List AV) := l.map GenC.cs
theorem gdG (l : List GenC) (i : Nat) (h : i < l.length) : (gens l).getD i [] = (l.getD i default).cs := by
  simp [gens, List.getD, h]
def owns (l : List GenC) : List (List UInt8 × Int) := l.map fun g => (g.ap, g.ac)
theorem ones_set (k : Nat) : (List.replicate k (AV.int .i64 1) ++ [AV.int .i64 0]).set k (.int .i64 1) = List.replicate (k + 1) (.int .i64 1) := by
  rw [snoc_set _ _ _ _ (by simp), List.replicate_succ']
theorem ones_get (k : Nat) : (List.replicate k (AV.int .i64 1) ++ [AV.int .i64 0]).getD k .undef = AV.int .i64 0 := snoc_get _ _ _ _ (by simp)
theorem range_get (k : Nat) : List.range k ++ [k] = List.range (k + 1) := List.range_succ.symm
theorem p_counted (n : Int) (h1 : 1 ≤ n) (h2 : n ≤ 1099511627777) : CP Try.prog 94 [.int .i64 n] (.bool true) := by
  refine ok_ends_counted _ _ (by simp) ?_
  simp only [c_ends_counted, ↓Ed, Eu, ↓reduceIte, reduceCtorEq, Nat.reduceAdd, Nat.reduceEqDiff, Nat.reduceLT, Nat.reduceLeDiff, Int.reduceToNat, Int.reduceEq, Int.reduceLT, Int.reduceLE, w64, List.length_append, List.length_map, Nat.mul_one, beq_self_eq_true, GenC.cs, gdG, findB_range, ones_set, ones_get, Int.reduceAdd]
  repeat' ((first | refine NewB_intro0 (fun b => ?_) | (refine NewB_intro (fun b hb => ?_); simp only [ln_cons2, ln_nil, and_true] at hb) | (with_reducible apply wA; focus exact OM_a) | ((first | refine gW_sp ?_ | refine condW_sp ?_ | refine pickW_sp ?_); (try refine Sp_n ?_); (first | refine wT ?_ | refine wF ?_ | refine wL (fun h h' => ?_) (fun h h' => ?_) | refine wE (fun h h' => ?_) (fun h h' => ?_) | refine Sp_split (fun h => ?_) (fun h => ?_)) <;> (try (exfalso; omega))) | refine TreeW_intro (by rfl) ?_ | refine TreeW_all ?_ | refine upQ_intro ?_ | refine Two_intro ?_ ?_ | exact wK | exact wD | (simp only [Fact, Bool.not_eq_true', Bool.not_eq_false', decide_eq_true_eq, decide_eq_false_iff_not] at *; exact wD) | (show (_ : Nat) ≤ _; omega)) <;> (try simp (disch := omega) only [*, ↓Ed, Eu, ↓reduceIte, reduceCtorEq, Nat.reduceAdd, Nat.reduceEqDiff, Nat.reduceLT, Nat.reduceLeDiff, Int.reduceToNat, Int.reduceEq, Int.reduceLT, Int.reduceLE, w64, List.length_append, List.length_map, Nat.mul_one, beq_self_eq_true, GenC.cs, gdG, findB_range, ones_set, ones_get, Int.reduceAdd]))
  all_goals (try simp only [Fact, Bool.not_eq_true', Bool.not_eq_false', decide_eq_true_eq, decide_eq_false_iff_not] at *)
abbrev ownK (g : GenC) : AV := endK (g.ap, g.ac)
theorem take_own (l : List GenC) (k : Nat) (hk : k < l.length) : ((owns l).take (k + 1)).map endK = ((owns l).take k).map endK ++ [.agg [.str (l.getD k default).ap, .int .i64 (l.getD k default).ac]] := by
  have : (owns l)[k]? = some ((l.getD k default).ap, (l.getD k default).ac) := by simp [owns, List.getD, hk]
  rw [List.take_add_one, this]; simp [endK]
set_option maxHeartbeats 4000000 in
theorem p_Check (l : List GenC) (g : AV) (hg : g.alias = .sl none 6 (gens l)) (hl : l.length ≤ 6) (hq : ∀ i, i < l.length → mayP (l.getD i default).ap (l.getD i default).ac = true ∧ mayP (l.getD i default).bp (l.getD i default).bc = true ∧ 1 ≤ (l.getD i default).n ∧ (l.getD i default).n ≤ 1099511627777)
    (hs : ∀ i, (l.getD i default).ap.length ≤ 1000000 ∧ (l.getD i default).bp.length ≤ 1000000) (hd : ∀ i, i < l.length → ((l.getD i default).ap, (l.getD i default).ac) ∉ (owns l).take i) : CP Try.prog 77 [g] (.int .i64 0) := by
  refine ok_ends_Check _ _ (by simp) ?_
  have hlen : (gens l).length = l.length := by simp [gens]
  have f1 : Fact (decide (6 < (l.length : Int)) = false) := by simp only [Fact, Bool.not_eq_true', Bool.not_eq_false', decide_eq_true_eq, decide_eq_false_iff_not]; omega
  simp only [c_ends_Check, hg, hlen, ↓Ed, Eu, ↓reduceIte, reduceCtorEq, Nat.reduceAdd, Nat.reduceEqDiff, Nat.reduceLT, Nat.reduceLeDiff, Int.reduceToNat, Int.reduceEq, Int.reduceLT, Int.reduceLE, w64, List.length_append, List.length_map, Nat.mul_one, beq_self_eq_true, GenC.cs, gdG, findB_range, ones_set, ones_get, Int.reduceAdd]
  repeat' ((first | refine NewB_intro0 (fun b => ?_) | (refine NewB_intro (fun b hb => ?_); simp only [ln_cons2, ln_nil, and_true] at hb) | (with_reducible apply wA; focus exact OM_a) | ((first | refine gW_sp ?_ | refine condW_sp ?_ | refine pickW_sp ?_); (try refine Sp_n ?_); (first | refine wT ?_ | refine wF ?_ | refine wL (fun h h' => ?_) (fun h h' => ?_) | refine wE (fun h h' => ?_) (fun h h' => ?_) | refine Sp_split (fun h => ?_) (fun h => ?_)) <;> (try (exfalso; omega))) | refine TreeW_intro (by rfl) ?_ | refine TreeW_all ?_ | refine upQ_intro ?_ | refine Two_intro ?_ ?_ | exact wK | exact wD | (simp only [Fact, Bool.not_eq_true', Bool.not_eq_false', decide_eq_true_eq, decide_eq_false_iff_not] at *; exact wD) | (show (_ : Nat) ≤ _; omega)) <;> (try simp (disch := omega) only [*, ↓Ed, Eu, ↓reduceIte, reduceCtorEq, Nat.reduceAdd, Nat.reduceEqDiff, Nat.reduceLT, Nat.reduceLeDiff, Int.reduceToNat, Int.reduceEq, Int.reduceLT, Int.reduceLE, w64, List.length_append, List.length_map, Nat.mul_one, beq_self_eq_true, GenC.cs, gdG, findB_range, ones_set, ones_get, Int.reduceAdd]))
  refine wpx_loop (fun k : Nat => ⟨lk [(3, .mapv b), (10, .sl none 6 (gens l)), (11, .int .i64 l.length), (12, .int .i64 (k : Int))], lk [(b, [.mp (((owns l).take k).map endK) (List.replicate k (.int .i64 1)) (List.range k) k])]⟩) (fun k => k ≤ l.length) (fun k => l.length - k) 0 (by omega) (Le_lit (by simp [LeL, lk])) ?_
  intro k g1
  by_cases hk : k < l.length
  · have f5 : Fact (decide ((k : Int) < l.length) = true) := by simp only [Fact, Bool.not_eq_true', Bool.not_eq_false', decide_eq_true_eq, decide_eq_false_iff_not]; omega
    obtain ⟨q1, q2, q3, q4⟩ := hq k hk
    obtain ⟨s1, s2⟩ := hs k
    have hA := p_pMay (l.getD k default).ap (l.getD k default).ac (by omega)
    have hB := p_pMay (l.getD k default).bp (l.getD k default).bc (by omega)
    have hC := p_counted _ q3 q4
    have hf : findM [.s, .i] true (.agg [.str (l.getD k default).ap, .int .i64 (l.getD k default).ac]) (((owns l).take k).map endK) = some none := findM_no _ _ endK endK_eq _ _ (hd k hk)
    have hf2 : findM [.s, .i] true (.agg [.str (l.getD k default).ap, .int .i64 (l.getD k default).ac]) (((owns l).take k).map endK ++ [.agg [.str (l.getD k default).ap, .int .i64 (l.getD k default).ac]]) = some (some k) := by
      have := findM_snoc [.s, .i] true endK endK_eq _ _ (hd k hk)
      rwa [show ((owns l).take k).length = k by simp [owns]; omega] at this
    rw [q1] at hA
    rw [q2] at hB
    clear hq hs hd q1 q2 q3 q4
    simp (disch := omega) only [hf, hlen, findB_range, ones_set, ↓Ed, Eu, ↓reduceIte, reduceCtorEq, Nat.reduceAdd, Nat.reduceEqDiff, Nat.reduceLT, Nat.reduceLeDiff, Int.reduceToNat, Int.reduceEq, Int.reduceLT, Int.reduceLE, w64, List.length_append, List.length_map, Nat.mul_one, beq_self_eq_true, GenC.cs, gdG, findB_range, ones_set, ones_get, Int.reduceAdd]
    repeat' ((first | refine CallO_pure (hA) ?_ | refine CallO_pure (hB) ?_ | refine CallO_pure (hC) ?_ | refine NewB_intro0 (fun b => ?_) | (refine NewB_intro (fun b hb => ?_); simp only [ln_cons2, ln_nil, and_true] at hb) | (with_reducible apply wA; focus exact OM_a) | ((first | refine gW_sp ?_ | refine condW_sp ?_ | refine pickW_sp ?_); (try refine Sp_n ?_); (first | refine wT ?_ | refine wF ?_ | refine wL (fun h h' => ?_) (fun h h' => ?_) | refine wE (fun h h' => ?_) (fun h h' => ?_) | refine Sp_split (fun h => ?_) (fun h => ?_)) <;> (try (exfalso; omega))) | refine TreeW_intro (by rfl) ?_ | refine TreeW_all ?_ | refine upQ_intro ?_ | refine Two_intro ?_ ?_ | exact wK | exact wD | (simp only [Fact, Bool.not_eq_true', Bool.not_eq_false', decide_eq_true_eq, decide_eq_false_iff_not] at *; exact wD) | (show (_ : Nat) ≤ _; omega)) <;> (try simp (disch := omega) only [*, ↓Ed, Eu, ↓reduceIte, reduceCtorEq, Nat.reduceAdd, Nat.reduceEqDiff, Nat.reduceLT, Nat.reduceLeDiff, Int.reduceToNat, Int.reduceEq, Int.reduceLT, Int.reduceLE, w64, List.length_append, List.length_map, Nat.mul_one, beq_self_eq_true, GenC.cs, gdG, findB_range, ones_set, ones_get, Int.reduceAdd]))
    exact Round_lit (k + 1) ⟨Le_lit (by simp [LeL, lk, take_own l k hk, range_get]), by omega, by omega⟩
  have f5 : Fact (decide ((k : Int) < l.length) = false) := by simp only [Fact, Bool.not_eq_true', Bool.not_eq_false', decide_eq_true_eq, decide_eq_false_iff_not]; omega
  simp (disch := omega) only [↓Ed, Eu, ↓reduceIte, reduceCtorEq, Nat.reduceAdd, Nat.reduceEqDiff, Nat.reduceLT, Nat.reduceLeDiff, Int.reduceToNat, Int.reduceEq, Int.reduceLT, Int.reduceLE, w64, List.length_append, List.length_map, Nat.mul_one, beq_self_eq_true, GenC.cs, gdG, findB_range, ones_set, ones_get, Int.reduceAdd]
  repeat' ((first | refine NewB_intro0 (fun b => ?_) | (refine NewB_intro (fun b hb => ?_); simp only [ln_cons2, ln_nil, and_true] at hb) | (with_reducible apply wA; focus exact OM_a) | ((first | refine gW_sp ?_ | refine condW_sp ?_ | refine pickW_sp ?_); (try refine Sp_n ?_); (first | refine wT ?_ | refine wF ?_ | refine wL (fun h h' => ?_) (fun h h' => ?_) | refine wE (fun h h' => ?_) (fun h h' => ?_) | refine Sp_split (fun h => ?_) (fun h => ?_)) <;> (try (exfalso; omega))) | refine TreeW_intro (by rfl) ?_ | refine TreeW_all ?_ | refine upQ_intro ?_ | refine Two_intro ?_ ?_ | exact wK | exact wD | (simp only [Fact, Bool.not_eq_true', Bool.not_eq_false', decide_eq_true_eq, decide_eq_false_iff_not] at *; exact wD) | (show (_ : Nat) ≤ _; omega)) <;> (try simp (disch := omega) only [*, ↓Ed, Eu, ↓reduceIte, reduceCtorEq, Nat.reduceAdd, Nat.reduceEqDiff, Nat.reduceLT, Nat.reduceLeDiff, Int.reduceToNat, Int.reduceEq, Int.reduceLT, Int.reduceLE, w64, List.length_append, List.length_map, Nat.mul_one, beq_self_eq_true, GenC.cs, gdG, findB_range, ones_set, ones_get, Int.reduceAdd]))
end Go.Proofs.Ytobopbjedojebaa

/- life: New, mark, out, shut, Get, Stage: contracts over the table's three objects -/
namespace Go.Proofs.Ytobopbjedojebaa
set_option linter.all false
open Go.RowKit
set_option maxRecDepth 100000
theorem t_New3 : CT Try.prog 11 [] (lk []) (new3 [mpK []] [mpC []]) := by
  refine okt_life_New _ _ _ (by simp) ?_
  simp only [c_life_New, ↓Ed, Eu, ↓reduceIte, reduceCtorEq, Nat.reduceAdd, Nat.reduceEqDiff, Nat.reduceLT, Nat.reduceLeDiff, Int.reduceToNat, Int.reduceEq, Int.reduceLT, Int.reduceLE, w64, List.length_append, List.length_map, Nat.mul_one, beq_self_eq_true, PktC.cs, EvC.cs, EntC.cs, KeyC.cs, st_nil, findB_range, ones_set, ones_get, Int.reduceAdd]
  repeat' ((first | refine NewB_intro0 (fun b => ?_) | (refine NewB_intro (fun b hb => ?_); simp only [ln_cons2, ln_nil, and_true] at hb) | (with_reducible apply wA; focus exact OM_a) | ((first | refine gW_sp ?_ | refine condW_sp ?_ | refine pickW_sp ?_); (try refine Sp_n ?_); (first | refine wT ?_ | refine wF ?_ | refine wL (fun h h' => ?_) (fun h h' => ?_) | refine wE (fun h h' => ?_) (fun h h' => ?_) | refine Sp_split (fun h => ?_) (fun h => ?_)) <;> (try (exfalso; omega))) | refine TreeW_intro (by rfl) ?_ | refine TreeW_all ?_ | refine upQ_intro ?_ | refine Two_intro ?_ ?_ | exact wK | exact wD | (simp only [Fact, Bool.not_eq_true', Bool.not_eq_false', decide_eq_true_eq, decide_eq_false_iff_not] at *; exact wD) | (show (_ : Nat) ≤ _; omega)) <;> (try simp (disch := omega) only [*, ↓Ed, Eu, ↓reduceIte, reduceCtorEq, Nat.reduceAdd, Nat.reduceEqDiff, Nat.reduceLT, Nat.reduceLeDiff, Int.reduceToNat, Int.reduceEq, Int.reduceLT, Int.reduceLE, w64, List.length_append, List.length_map, Nat.mul_one, beq_self_eq_true, PktC.cs, EvC.cs, EntC.cs, KeyC.cs, st_nil, findB_range, ones_set, ones_get, Int.reduceAdd]))
  rename_i M N HN
  exact ro_new3 b M N (by simp [LeL, lk, hb, HN, resR, arR, tk, tv]) (by simp [hb, Bool.not_eq_true', Bool.not_eq_false', decide_eq_true_eq, decide_eq_false_iff_not]; exact HN.2)
theorem p_mark (b : Nat) (k : Int) : CP Try.prog 34 [.ptr b 0, .int .i64 k] (.ptr b (markO k)) := by
  refine ok_life_Entry_mark _ _ (by simp) ?_
  have h : (Fact (decide (k = 1) = true) ∧ markO k = 9) ∨ (Fact (decide (k = 1) = false) ∧ Fact (decide (k = 2) = true) ∧ markO k = 10) ∨ (Fact (decide (k = 1) = false) ∧ Fact (decide (k = 2) = false) ∧ Fact (decide (k = 3) = true) ∧ markO k = 11) ∨
      (Fact (decide (k = 1) = false) ∧ Fact (decide (k = 2) = false) ∧ Fact (decide (k = 3) = false) ∧ Fact (decide (k = 4) = true) ∧ markO k = 12) ∨ (Fact (decide (k = 1) = false) ∧ Fact (decide (k = 2) = false) ∧ Fact (decide (k = 3) = false) ∧ Fact (decide (k = 4) = false) ∧ markO k = 13) := by
    unfold markO
    simp only [Fact, decide_eq_true_eq, decide_eq_false_iff_not]
    by_cases h1 : k = 1
    · exact .inl ⟨h1, if_pos h1⟩
    by_cases h2 : k = 2
    · exact .inr (.inl ⟨h1, h2, by rw [if_neg h1, if_pos h2]⟩)
    by_cases h3 : k = 3
    · exact .inr (.inr (.inl ⟨h1, h2, h3, by rw [if_neg h1, if_neg h2, if_pos h3]⟩))
    by_cases h4 : k = 4
    · exact .inr (.inr (.inr (.inl ⟨h1, h2, h3, h4, by rw [if_neg h1, if_neg h2, if_neg h3, if_pos h4]⟩)))
    · exact .inr (.inr (.inr (.inr ⟨h1, h2, h3, h4, by rw [if_neg h1, if_neg h2, if_neg h3, if_neg h4]⟩)))
  rcases h with ⟨f1, h⟩ | ⟨f1, f2, h⟩ | ⟨f1, f2, f3, h⟩ | ⟨f1, f2, f3, f4, h⟩ | ⟨f1, f2, f3, f4, h⟩
  all_goals rw [h]
  all_goals clear h
  all_goals simp only [c_life_Entry_mark, ↓Ed, Eu, ↓reduceIte, reduceCtorEq, Nat.reduceAdd, Nat.reduceEqDiff, Nat.reduceLT, Nat.reduceLeDiff, Int.reduceToNat, Int.reduceEq, Int.reduceLT, Int.reduceLE, w64, List.length_append, List.length_map, Nat.mul_one, beq_self_eq_true, PktC.cs, EvC.cs, EntC.cs, KeyC.cs, st_nil, findB_range, ones_set, ones_get, Int.reduceAdd]
  all_goals repeat' ((first | refine NewB_intro0 (fun b => ?_) | (refine NewB_intro (fun b hb => ?_); simp only [ln_cons2, ln_nil, and_true] at hb) | (with_reducible apply wA; focus exact OM_a) | ((first | refine gW_sp ?_ | refine condW_sp ?_ | refine pickW_sp ?_); (try refine Sp_n ?_); (first | refine wT ?_ | refine wF ?_ | refine wL (fun h h' => ?_) (fun h h' => ?_) | refine wE (fun h h' => ?_) (fun h h' => ?_) | refine Sp_split (fun h => ?_) (fun h => ?_)) <;> (try (exfalso; omega))) | refine TreeW_intro (by rfl) ?_ | refine TreeW_all ?_ | refine upQ_intro ?_ | refine Two_intro ?_ ?_ | exact wK | exact wD | (simp only [Fact, Bool.not_eq_true', Bool.not_eq_false', decide_eq_true_eq, decide_eq_false_iff_not] at *; exact wD) | (show (_ : Nat) ≤ _; omega)) <;> (try simp (disch := omega) only [*, ↓Ed, Eu, ↓reduceIte, reduceCtorEq, Nat.reduceAdd, Nat.reduceEqDiff, Nat.reduceLT, Nat.reduceLeDiff, Int.reduceToNat, Int.reduceEq, Int.reduceLT, Int.reduceLE, w64, List.length_append, List.length_map, Nat.mul_one, beq_self_eq_true, PktC.cs, EvC.cs, EntC.cs, KeyC.cs, st_nil, findB_range, ones_set, ones_get, Int.reduceAdd]))
theorem p_outK (k : Int) : CP Try.prog 33 [.int .i64 k] (.bool (outK k)) := by
  refine ok_life_out _ _ (by simp) ?_
  unfold outK
  by_cases h : k = 1 ∨ k = 4 ∨ k = 5
  · rw [decide_eq_true h]
    have F : Fact (k = 1 ∨ k = 4 ∨ k = 5) := h
    clear h
    simp only [c_life_out, ↓Ed, Eu, ↓reduceIte, reduceCtorEq, Nat.reduceAdd, Nat.reduceEqDiff, Nat.reduceLT, Nat.reduceLeDiff, Int.reduceToNat, Int.reduceEq, Int.reduceLT, Int.reduceLE, w64, List.length_append, List.length_map, Nat.mul_one, beq_self_eq_true, PktC.cs, EvC.cs, EntC.cs, KeyC.cs, st_nil, findB_range, ones_set, ones_get, Int.reduceAdd]
    repeat' ((first | refine NewB_intro0 (fun b => ?_) | (refine NewB_intro (fun b hb => ?_); simp only [ln_cons2, ln_nil, and_true] at hb) | (with_reducible apply wA; focus exact OM_a) | ((first | refine gW_sp ?_ | refine condW_sp ?_ | refine pickW_sp ?_); (try refine Sp_n ?_); (first | refine wT ?_ | refine wF ?_ | refine wL (fun h h' => ?_) (fun h h' => ?_) | refine wE (fun h h' => ?_) (fun h h' => ?_) | refine Sp_split (fun h => ?_) (fun h => ?_)) <;> (try (exfalso; omega))) | refine TreeW_intro (by rfl) ?_ | refine TreeW_all ?_ | refine upQ_intro ?_ | refine Two_intro ?_ ?_ | exact wK | exact wD | (simp only [Fact, Bool.not_eq_true', Bool.not_eq_false', decide_eq_true_eq, decide_eq_false_iff_not] at *; exact wD) | (show (_ : Nat) ≤ _; omega)) <;> (try simp (disch := omega) only [*, ↓Ed, Eu, ↓reduceIte, reduceCtorEq, Nat.reduceAdd, Nat.reduceEqDiff, Nat.reduceLT, Nat.reduceLeDiff, Int.reduceToNat, Int.reduceEq, Int.reduceLT, Int.reduceLE, w64, List.length_append, List.length_map, Nat.mul_one, beq_self_eq_true, PktC.cs, EvC.cs, EntC.cs, KeyC.cs, st_nil, findB_range, ones_set, ones_get, Int.reduceAdd]))
    all_goals (simp only [Fact, Bool.not_eq_true', Bool.not_eq_false', decide_eq_true_eq, decide_eq_false_iff_not] at *; omega)
  · rw [decide_eq_false h]
    have F : Fact (¬ (k = 1 ∨ k = 4 ∨ k = 5)) := h
    clear h
    simp only [c_life_out, ↓Ed, Eu, ↓reduceIte, reduceCtorEq, Nat.reduceAdd, Nat.reduceEqDiff, Nat.reduceLT, Nat.reduceLeDiff, Int.reduceToNat, Int.reduceEq, Int.reduceLT, Int.reduceLE, w64, List.length_append, List.length_map, Nat.mul_one, beq_self_eq_true, PktC.cs, EvC.cs, EntC.cs, KeyC.cs, st_nil, findB_range, ones_set, ones_get, Int.reduceAdd]
    repeat' ((first | refine NewB_intro0 (fun b => ?_) | (refine NewB_intro (fun b hb => ?_); simp only [ln_cons2, ln_nil, and_true] at hb) | (with_reducible apply wA; focus exact OM_a) | ((first | refine gW_sp ?_ | refine condW_sp ?_ | refine pickW_sp ?_); (try refine Sp_n ?_); (first | refine wT ?_ | refine wF ?_ | refine wL (fun h h' => ?_) (fun h h' => ?_) | refine wE (fun h h' => ?_) (fun h h' => ?_) | refine Sp_split (fun h => ?_) (fun h => ?_)) <;> (try (exfalso; omega))) | refine TreeW_intro (by rfl) ?_ | refine TreeW_all ?_ | refine upQ_intro ?_ | refine Two_intro ?_ ?_ | exact wK | exact wD | (simp only [Fact, Bool.not_eq_true', Bool.not_eq_false', decide_eq_true_eq, decide_eq_false_iff_not] at *; exact wD) | (show (_ : Nat) ≤ _; omega)) <;> (try simp (disch := omega) only [*, ↓Ed, Eu, ↓reduceIte, reduceCtorEq, Nat.reduceAdd, Nat.reduceEqDiff, Nat.reduceLT, Nat.reduceLeDiff, Int.reduceToNat, Int.reduceEq, Int.reduceLT, Int.reduceLE, w64, List.length_append, List.length_map, Nat.mul_one, beq_self_eq_true, PktC.cs, EvC.cs, EntC.cs, KeyC.cs, st_nil, findB_range, ones_set, ones_get, Int.reduceAdd]))
    all_goals (simp only [Fact, Bool.not_eq_true', Bool.not_eq_false', decide_eq_true_eq, decide_eq_false_iff_not] at *; omega)
theorem en0 : (default : EntC) = ⟨⟨[], 0, [], 0, 0, [], 0, 0⟩, [], false, false, false, false, false⟩ := rfl
theorem t_Get (c m n : Nat) (hh : (¬ c = m ∧ ¬ m = c) ∧ (¬ c = n ∧ ¬ n = c) ∧ ¬ m = n ∧ ¬ n = m) (t : Tb) (k : KeyC) : CT Try.prog 16 [.ptr c 0, .agg k.cs] (lk (tabO c m n t)) (fun r o => r = .tup [.agg ((findE t.K k).getD default).cs, .bool (findE t.K k).isSome] ∧ o = lk (tabO c m n t)) := by
  refine okt_life_Table_Get _ _ _ (by simp) ?_
  cases hs : findE t.K k with
  | none =>
    have hf := lookK_none hs
    clear hs
    simp only [c_life_Table_Get, hh, ↓Ed, Eu, ↓reduceIte, reduceCtorEq, Nat.reduceAdd, Nat.reduceEqDiff, Nat.reduceLT, Nat.reduceLeDiff, Int.reduceToNat, Int.reduceEq, Int.reduceLT, Int.reduceLE, w64, List.length_append, List.length_map, Nat.mul_one, beq_self_eq_true, PktC.cs, EvC.cs, EntC.cs, KeyC.cs, st_nil, findB_range, ones_set, ones_get, Int.reduceAdd]
    repeat' ((first | refine NewB_intro0 (fun b => ?_) | (refine NewB_intro (fun b hb => ?_); simp only [ln_cons2, ln_nil, and_true] at hb) | (with_reducible apply wA; focus exact OM_a) | ((first | refine gW_sp ?_ | refine condW_sp ?_ | refine pickW_sp ?_); (try refine Sp_n ?_); (first | refine wT ?_ | refine wF ?_ | refine wL (fun h h' => ?_) (fun h h' => ?_) | refine wE (fun h h' => ?_) (fun h h' => ?_) | refine Sp_split (fun h => ?_) (fun h => ?_)) <;> (try (exfalso; omega))) | refine TreeW_intro (by rfl) ?_ | refine TreeW_all ?_ | refine upQ_intro ?_ | refine Two_intro ?_ ?_ | exact wK | exact wD | (simp only [Fact, Bool.not_eq_true', Bool.not_eq_false', decide_eq_true_eq, decide_eq_false_iff_not] at *; exact wD) | (show (_ : Nat) ≤ _; omega)) <;> (try simp (disch := omega) only [*, ↓Ed, Eu, ↓reduceIte, reduceCtorEq, Nat.reduceAdd, Nat.reduceEqDiff, Nat.reduceLT, Nat.reduceLeDiff, Int.reduceToNat, Int.reduceEq, Int.reduceLT, Int.reduceLE, w64, List.length_append, List.length_map, Nat.mul_one, beq_self_eq_true, PktC.cs, EvC.cs, EntC.cs, KeyC.cs, st_nil, findB_range, ones_set, ones_get, Int.reduceAdd]))
    rename_i B1 H1 B2 H2
    exact ro_mk (by simp [LeL, lk, hh, hb, H1, H2, r_two, rl_cons, rl_nil, arR, view, l_all, al_agg, al_bool, en0]) dom3
  | some x =>
    obtain ⟨i, hi, hf, hg, _⟩ := lookK_some hs
    clear hs
    simp only [c_life_Table_Get, hh, ↓Ed, Eu, ↓reduceIte, reduceCtorEq, Nat.reduceAdd, Nat.reduceEqDiff, Nat.reduceLT, Nat.reduceLeDiff, Int.reduceToNat, Int.reduceEq, Int.reduceLT, Int.reduceLE, w64, List.length_append, List.length_map, Nat.mul_one, beq_self_eq_true, PktC.cs, EvC.cs, EntC.cs, KeyC.cs, st_nil, findB_range, ones_set, ones_get, Int.reduceAdd]
    repeat' ((first | refine NewB_intro0 (fun b => ?_) | (refine NewB_intro (fun b hb => ?_); simp only [ln_cons2, ln_nil, and_true] at hb) | (with_reducible apply wA; focus exact OM_a) | ((first | refine gW_sp ?_ | refine condW_sp ?_ | refine pickW_sp ?_); (try refine Sp_n ?_); (first | refine wT ?_ | refine wF ?_ | refine wL (fun h h' => ?_) (fun h h' => ?_) | refine wE (fun h h' => ?_) (fun h h' => ?_) | refine Sp_split (fun h => ?_) (fun h => ?_)) <;> (try (exfalso; omega))) | refine TreeW_intro (by rfl) ?_ | refine TreeW_all ?_ | refine upQ_intro ?_ | refine Two_intro ?_ ?_ | exact wK | exact wD | (simp only [Fact, Bool.not_eq_true', Bool.not_eq_false', decide_eq_true_eq, decide_eq_false_iff_not] at *; exact wD) | (show (_ : Nat) ≤ _; omega)) <;> (try simp (disch := omega) only [*, ↓Ed, Eu, ↓reduceIte, reduceCtorEq, Nat.reduceAdd, Nat.reduceEqDiff, Nat.reduceLT, Nat.reduceLeDiff, Int.reduceToNat, Int.reduceEq, Int.reduceLT, Int.reduceLE, w64, List.length_append, List.length_map, Nat.mul_one, beq_self_eq_true, PktC.cs, EvC.cs, EntC.cs, KeyC.cs, st_nil, findB_range, ones_set, ones_get, Int.reduceAdd]))
    rename_i B1 H1 B2 H2
    exact ro_mk (by simp [LeL, lk, hh, hb, H1, H2, r_two, rl_cons, rl_nil, arR, view, l_all, al_agg, al_bool]) dom3
def stageE (o : Option EntC) (out : Bool) : Int := match o with
  | none => 0
  | some x => if out && x.t then 3 else if out && x.c then 2 else if out then 1 else if x.w then 5 else 4
theorem t_Stage (c m n : Nat) (hh : (¬ c = m ∧ ¬ m = c) ∧ (¬ c = n ∧ ¬ n = c) ∧ ¬ m = n ∧ ¬ n = m) (t : Tb) (k : KeyC) : CT Try.prog 14 [.ptr c 0, .agg k.cs] (lk (tabO c m n t)) (fun r o => r = .int .i64 (stageE (findE t.K k) k.o) ∧ o = lk (tabO c m n t)) := by
  refine okt_life_Table_Stage _ _ _ (by simp) ?_
  cases hs : findE t.K k with
  | none =>
    have hf := lookK_none hs
    clear hs
    simp only [c_life_Table_Stage, hh, stageE, ↓Ed, Eu, ↓reduceIte, reduceCtorEq, Nat.reduceAdd, Nat.reduceEqDiff, Nat.reduceLT, Nat.reduceLeDiff, Int.reduceToNat, Int.reduceEq, Int.reduceLT, Int.reduceLE, w64, List.length_append, List.length_map, Nat.mul_one, beq_self_eq_true, PktC.cs, EvC.cs, EntC.cs, KeyC.cs, st_nil, findB_range, ones_set, ones_get, Int.reduceAdd]
    repeat' ((first | refine NewB_intro0 (fun b => ?_) | (refine NewB_intro (fun b hb => ?_); simp only [ln_cons2, ln_nil, and_true] at hb) | (with_reducible apply wA; focus exact OM_a) | ((first | refine gW_sp ?_ | refine condW_sp ?_ | refine pickW_sp ?_); (try refine Sp_n ?_); (first | refine wT ?_ | refine wF ?_ | refine wL (fun h h' => ?_) (fun h h' => ?_) | refine wE (fun h h' => ?_) (fun h h' => ?_) | refine Sp_split (fun h => ?_) (fun h => ?_)) <;> (try (exfalso; omega))) | refine TreeW_intro (by rfl) ?_ | refine TreeW_all ?_ | refine upQ_intro ?_ | refine Two_intro ?_ ?_ | exact wK | exact wD | (simp only [Fact, Bool.not_eq_true', Bool.not_eq_false', decide_eq_true_eq, decide_eq_false_iff_not] at *; exact wD) | (show (_ : Nat) ≤ _; omega)) <;> (try simp (disch := omega) only [*, ↓Ed, Eu, ↓reduceIte, reduceCtorEq, Nat.reduceAdd, Nat.reduceEqDiff, Nat.reduceLT, Nat.reduceLeDiff, Int.reduceToNat, Int.reduceEq, Int.reduceLT, Int.reduceLE, w64, List.length_append, List.length_map, Nat.mul_one, beq_self_eq_true, PktC.cs, EvC.cs, EntC.cs, KeyC.cs, st_nil, findB_range, ones_set, ones_get, Int.reduceAdd]))
    all_goals exact ro_mk (by simp [LeL, lk, hh, hb, resR, arR]) dom3
  | some x =>
    obtain ⟨i, hi, hf, hg, _⟩ := lookK_some hs
    clear hs
    obtain ⟨p, a, xs, xr, xw, xc, xt⟩ := x
    obtain ⟨ke, kec, ko, kq⟩ := k
    cases ko <;> cases xt <;> cases xc <;> cases xw
    all_goals simp only [c_life_Table_Stage, hh, stageE, ↓Ed, Eu, ↓reduceIte, reduceCtorEq, Nat.reduceAdd, Nat.reduceEqDiff, Nat.reduceLT, Nat.reduceLeDiff, Int.reduceToNat, Int.reduceEq, Int.reduceLT, Int.reduceLE, w64, List.length_append, List.length_map, Nat.mul_one, beq_self_eq_true, PktC.cs, EvC.cs, EntC.cs, KeyC.cs, st_nil, findB_range, ones_set, ones_get, Int.reduceAdd]
    all_goals repeat' ((first | refine NewB_intro0 (fun b => ?_) | (refine NewB_intro (fun b hb => ?_); simp only [ln_cons2, ln_nil, and_true] at hb) | (with_reducible apply wA; focus exact OM_a) | ((first | refine gW_sp ?_ | refine condW_sp ?_ | refine pickW_sp ?_); (try refine Sp_n ?_); (first | refine wT ?_ | refine wF ?_ | refine wL (fun h h' => ?_) (fun h h' => ?_) | refine wE (fun h h' => ?_) (fun h h' => ?_) | refine Sp_split (fun h => ?_) (fun h => ?_)) <;> (try (exfalso; omega))) | refine TreeW_intro (by rfl) ?_ | refine TreeW_all ?_ | refine upQ_intro ?_ | refine Two_intro ?_ ?_ | exact wK | exact wD | (simp only [Fact, Bool.not_eq_true', Bool.not_eq_false', decide_eq_true_eq, decide_eq_false_iff_not] at *; exact wD) | (show (_ : Nat) ≤ _; omega)) <;> (try simp (disch := omega) only [*, ↓Ed, Eu, ↓reduceIte, reduceCtorEq, Nat.reduceAdd, Nat.reduceEqDiff, Nat.reduceLT, Nat.reduceLeDiff, Int.reduceToNat, Int.reduceEq, Int.reduceLT, Int.reduceLE, w64, List.length_append, List.length_map, Nat.mul_one, beq_self_eq_true, PktC.cs, EvC.cs, EntC.cs, KeyC.cs, st_nil, findB_range, ones_set, ones_get, Int.reduceAdd]))
    all_goals exact ro_mk (by simp [LeL, lk, hh, resR, arR]) dom3
set_option maxHeartbeats 4000000 in
theorem t_shut (c m n : Nat) (hh : (¬ c = m ∧ ¬ m = c) ∧ (¬ c = n ∧ ¬ n = c) ∧ ¬ m = n ∧ ¬ n = m) (t : Tb) (e : List UInt8) (ec : Int) : CT Try.prog 32 [.ptr c 0, .agg [.str e, .int .i64 ec]] (lk (tabO c m n t))
    (fun r o => r = .int .i64 (if ((e, ec) : EndP) ∈ t.C then 8 else 0) ∧ o = lk (tabO c m n (if ((e, ec) : EndP) ∈ t.C then t else ⟨t.K, t.C ++ [(e, ec)]⟩))) := by
  refine okt_life_Table_shut _ _ _ (by simp) ?_
  by_cases hs : ((e, ec) : EndP) ∈ t.C
  · obtain ⟨i, hi, hf, hg⟩ := lookC_in hs
    rw [if_pos hs, if_pos hs]
    simp only [endK] at hf
    clear hs
    simp only [c_life_Table_shut, hh, ↓Ed, Eu, ↓reduceIte, reduceCtorEq, Nat.reduceAdd, Nat.reduceEqDiff, Nat.reduceLT, Nat.reduceLeDiff, Int.reduceToNat, Int.reduceEq, Int.reduceLT, Int.reduceLE, w64, List.length_append, List.length_map, Nat.mul_one, beq_self_eq_true, PktC.cs, EvC.cs, EntC.cs, KeyC.cs, st_nil, findB_range, ones_set, ones_get, Int.reduceAdd]
    repeat' ((first | refine NewB_intro0 (fun b => ?_) | (refine NewB_intro (fun b hb => ?_); simp only [ln_cons2, ln_nil, and_true] at hb) | (with_reducible apply wA; focus exact OM_a) | ((first | refine gW_sp ?_ | refine condW_sp ?_ | refine pickW_sp ?_); (try refine Sp_n ?_); (first | refine wT ?_ | refine wF ?_ | refine wL (fun h h' => ?_) (fun h h' => ?_) | refine wE (fun h h' => ?_) (fun h h' => ?_) | refine Sp_split (fun h => ?_) (fun h => ?_)) <;> (try (exfalso; omega))) | refine TreeW_intro (by rfl) ?_ | refine TreeW_all ?_ | refine upQ_intro ?_ | refine Two_intro ?_ ?_ | exact wK | exact wD | (simp only [Fact, Bool.not_eq_true', Bool.not_eq_false', decide_eq_true_eq, decide_eq_false_iff_not] at *; exact wD) | (show (_ : Nat) ≤ _; omega)) <;> (try simp (disch := omega) only [*, ↓Ed, Eu, ↓reduceIte, reduceCtorEq, Nat.reduceAdd, Nat.reduceEqDiff, Nat.reduceLT, Nat.reduceLeDiff, Int.reduceToNat, Int.reduceEq, Int.reduceLT, Int.reduceLE, w64, List.length_append, List.length_map, Nat.mul_one, beq_self_eq_true, PktC.cs, EvC.cs, EntC.cs, KeyC.cs, st_nil, findB_range, ones_set, ones_get, Int.reduceAdd]))
    all_goals exact ro_mk (by simp [LeL, lk, hh, resR, arR]) dom3
  · have hf := lookC_no hs
    have hf2 := findM_snoc [.s, .i] true endK endK_eq ((e, ec) : EndP) t.C hs
    rw [if_neg hs, if_neg hs]
    simp only [endK] at hf hf2
    clear hs
    simp only [c_life_Table_shut, hh, ↓Ed, Eu, ↓reduceIte, reduceCtorEq, Nat.reduceAdd, Nat.reduceEqDiff, Nat.reduceLT, Nat.reduceLeDiff, Int.reduceToNat, Int.reduceEq, Int.reduceLT, Int.reduceLE, w64, List.length_append, List.length_map, Nat.mul_one, beq_self_eq_true, PktC.cs, EvC.cs, EntC.cs, KeyC.cs, st_nil, findB_range, ones_set, ones_get, Int.reduceAdd]
    repeat' ((first | refine NewB_intro0 (fun b => ?_) | (refine NewB_intro (fun b hb => ?_); simp only [ln_cons2, ln_nil, and_true] at hb) | (with_reducible apply wA; focus exact OM_a) | ((first | refine gW_sp ?_ | refine condW_sp ?_ | refine pickW_sp ?_); (try refine Sp_n ?_); (first | refine wT ?_ | refine wF ?_ | refine wL (fun h h' => ?_) (fun h h' => ?_) | refine wE (fun h h' => ?_) (fun h h' => ?_) | refine Sp_split (fun h => ?_) (fun h => ?_)) <;> (try (exfalso; omega))) | refine TreeW_intro (by rfl) ?_ | refine TreeW_all ?_ | refine upQ_intro ?_ | refine Two_intro ?_ ?_ | exact wK | exact wD | (simp only [Fact, Bool.not_eq_true', Bool.not_eq_false', decide_eq_true_eq, decide_eq_false_iff_not] at *; exact wD) | (show (_ : Nat) ≤ _; omega)) <;> (try simp (disch := omega) only [*, ↓Ed, Eu, ↓reduceIte, reduceCtorEq, Nat.reduceAdd, Nat.reduceEqDiff, Nat.reduceLT, Nat.reduceLeDiff, Int.reduceToNat, Int.reduceEq, Int.reduceLT, Int.reduceLE, w64, List.length_append, List.length_map, Nat.mul_one, beq_self_eq_true, PktC.cs, EvC.cs, EntC.cs, KeyC.cs, st_nil, findB_range, ones_set, ones_get, Int.reduceAdd]))
    all_goals exact ro_mk (by simp [LeL, lk, hh, resR, arR, range_get, endK]) dom3
end Go.Proofs.Ytobopbjedojebaa

/- the document's LessEnd, LessKey, marked, mark -/
namespace Go.Proofs.Ytobopbjedojebaa
set_option linter.all false
open Go.RowKit
set_option maxRecDepth 100000
theorem p_LessE (a b : EndP) : CP Try.prog 63 [.agg [.str a.1, .int .i64 a.2], .agg [.str b.1, .int .i64 b.2]] (.bool (endLt a b)) := by
  refine ok_ligref1_LessEnd _ _ (by simp) ?_
  unfold endLt
  cases h1 : Op.bytesLess a.1 b.1 <;> cases h2 : decide (a.1 = b.1) <;> cases h3 : decide (a.2 < b.2)
  all_goals simp only [c_ligref1_LessEnd, h1, h2, h3, ↓Ed, Eu, ↓reduceIte, reduceCtorEq, Nat.reduceAdd, Nat.reduceEqDiff, Nat.reduceLT, Nat.reduceLeDiff, Int.reduceToNat, Int.reduceEq, Int.reduceLT, Int.reduceLE, w64, List.length_append, List.length_map, Nat.mul_one, beq_self_eq_true, PktC.cs, EvC.cs, EntC.cs, KeyC.cs, st_nil, Int.reduceAdd]
  all_goals repeat' ((first | refine NewB_intro0 (fun b => ?_) | (refine NewB_intro (fun b hb => ?_); simp only [ln_cons2, ln_nil, and_true] at hb) | (with_reducible apply wA; focus exact OM_a) | ((first | refine gW_sp ?_ | refine condW_sp ?_ | refine pickW_sp ?_); (try refine Sp_n ?_); (first | refine wT ?_ | refine wF ?_ | refine wL (fun h h' => ?_) (fun h h' => ?_) | refine wE (fun h h' => ?_) (fun h h' => ?_) | refine Sp_split (fun h => ?_) (fun h => ?_)) <;> (try (exfalso; omega))) | refine TreeW_intro (by rfl) ?_ | refine TreeW_all ?_ | refine upQ_intro ?_ | refine Two_intro ?_ ?_ | exact wK | exact wD | (simp only [Fact, Bool.not_eq_true', Bool.not_eq_false', decide_eq_true_eq, decide_eq_false_iff_not] at *; exact wD) | (show (_ : Nat) ≤ _; omega)) <;> (try simp (disch := omega) only [*, ↓Ed, Eu, ↓reduceIte, reduceCtorEq, Nat.reduceAdd, Nat.reduceEqDiff, Nat.reduceLT, Nat.reduceLeDiff, Int.reduceToNat, Int.reduceEq, Int.reduceLT, Int.reduceLE, w64, List.length_append, List.length_map, Nat.mul_one, beq_self_eq_true, PktC.cs, EvC.cs, EntC.cs, KeyC.cs, st_nil, Int.reduceAdd]))
  all_goals rfl
theorem key_dec (a b : KeyC) : (decide (a.e = b.e) && decide (a.ec = b.ec)) = decide (a.en = b.en) := by simp [KeyC.en]
theorem p_LessK (a b : KeyC) : CP Try.prog 64 [.agg a.cs, .agg b.cs] (.bool (keyLt a b)) := by
  have hE := p_LessE a.en b.en
  refine ok_ligref22_LessKey _ _ (by simp) ?_
  simp only [KeyC.en] at hE
  have hk := key_dec a b
  by_cases he : a.en = b.en
  · have e1 : endLt (a.e, a.ec) (b.e, b.ec) = false := by
      rw [show ((a.e, a.ec) : EndP) = (b.e, b.ec) from he]; exact endSTO.irr _
    rw [decide_eq_true he] at hk
    by_cases ho : a.o = b.o
    · have hr : keyLt a b = decide (a.q < b.q) := by
        unfold keyLt
        rw [decide_eq_true he, decide_eq_true ho, show endLt a.en b.en = false from e1, ho]
        cases b.o <;> simp
      rw [hr]
      have hob : decide (a.o = b.o) = true := decide_eq_true ho
      clear he ho hr e1
      simp only [c_ligref22_LessKey, hk, hob, ↓Ed, Eu, ↓reduceIte, reduceCtorEq, Nat.reduceAdd, Nat.reduceEqDiff, Nat.reduceLT, Nat.reduceLeDiff, Int.reduceToNat, Int.reduceEq, Int.reduceLT, Int.reduceLE, w64, List.length_append, List.length_map, Nat.mul_one, beq_self_eq_true, PktC.cs, EvC.cs, EntC.cs, KeyC.cs, st_nil, Int.reduceAdd]
      repeat' ((first | refine CallO_pure (hE) ?_ | refine NewB_intro0 (fun b => ?_) | (refine NewB_intro (fun b hb => ?_); simp only [ln_cons2, ln_nil, and_true] at hb) | (with_reducible apply wA; focus exact OM_a) | ((first | refine gW_sp ?_ | refine condW_sp ?_ | refine pickW_sp ?_); (try refine Sp_n ?_); (first | refine wT ?_ | refine wF ?_ | refine wL (fun h h' => ?_) (fun h h' => ?_) | refine wE (fun h h' => ?_) (fun h h' => ?_) | refine Sp_split (fun h => ?_) (fun h => ?_)) <;> (try (exfalso; omega))) | refine TreeW_intro (by rfl) ?_ | refine TreeW_all ?_ | refine upQ_intro ?_ | refine Two_intro ?_ ?_ | exact wK | exact wD | (simp only [Fact, Bool.not_eq_true', Bool.not_eq_false', decide_eq_true_eq, decide_eq_false_iff_not] at *; exact wD) | (show (_ : Nat) ≤ _; omega)) <;> (try simp (disch := omega) only [*, ↓Ed, Eu, ↓reduceIte, reduceCtorEq, Nat.reduceAdd, Nat.reduceEqDiff, Nat.reduceLT, Nat.reduceLeDiff, Int.reduceToNat, Int.reduceEq, Int.reduceLT, Int.reduceLE, w64, List.length_append, List.length_map, Nat.mul_one, beq_self_eq_true, PktC.cs, EvC.cs, EntC.cs, KeyC.cs, st_nil, Int.reduceAdd]))
    · have hr : keyLt a b = b.o := by
        unfold keyLt
        rw [decide_eq_true he, decide_eq_false ho, show endLt a.en b.en = false from e1]
        cases ha : a.o <;> cases hb : b.o <;> simp_all
      rw [hr]
      have hob : decide (a.o = b.o) = false := decide_eq_false ho
      clear he ho hr e1
      simp only [c_ligref22_LessKey, hk, hob, ↓Ed, Eu, ↓reduceIte, reduceCtorEq, Nat.reduceAdd, Nat.reduceEqDiff, Nat.reduceLT, Nat.reduceLeDiff, Int.reduceToNat, Int.reduceEq, Int.reduceLT, Int.reduceLE, w64, List.length_append, List.length_map, Nat.mul_one, beq_self_eq_true, PktC.cs, EvC.cs, EntC.cs, KeyC.cs, st_nil, Int.reduceAdd]
      repeat' ((first | refine CallO_pure (hE) ?_ | refine NewB_intro0 (fun b => ?_) | (refine NewB_intro (fun b hb => ?_); simp only [ln_cons2, ln_nil, and_true] at hb) | (with_reducible apply wA; focus exact OM_a) | ((first | refine gW_sp ?_ | refine condW_sp ?_ | refine pickW_sp ?_); (try refine Sp_n ?_); (first | refine wT ?_ | refine wF ?_ | refine wL (fun h h' => ?_) (fun h h' => ?_) | refine wE (fun h h' => ?_) (fun h h' => ?_) | refine Sp_split (fun h => ?_) (fun h => ?_)) <;> (try (exfalso; omega))) | refine TreeW_intro (by rfl) ?_ | refine TreeW_all ?_ | refine upQ_intro ?_ | refine Two_intro ?_ ?_ | exact wK | exact wD | (simp only [Fact, Bool.not_eq_true', Bool.not_eq_false', decide_eq_true_eq, decide_eq_false_iff_not] at *; exact wD) | (show (_ : Nat) ≤ _; omega)) <;> (try simp (disch := omega) only [*, ↓Ed, Eu, ↓reduceIte, reduceCtorEq, Nat.reduceAdd, Nat.reduceEqDiff, Nat.reduceLT, Nat.reduceLeDiff, Int.reduceToNat, Int.reduceEq, Int.reduceLT, Int.reduceLE, w64, List.length_append, List.length_map, Nat.mul_one, beq_self_eq_true, PktC.cs, EvC.cs, EntC.cs, KeyC.cs, st_nil, Int.reduceAdd]))
  · have hr : keyLt a b = endLt (a.e, a.ec) (b.e, b.ec) := by
      unfold keyLt
      rw [decide_eq_false he]
      simp [KeyC.en]
    rw [decide_eq_false he] at hk
    rw [hr]
    clear he hr
    simp only [c_ligref22_LessKey, hk, ↓Ed, Eu, ↓reduceIte, reduceCtorEq, Nat.reduceAdd, Nat.reduceEqDiff, Nat.reduceLT, Nat.reduceLeDiff, Int.reduceToNat, Int.reduceEq, Int.reduceLT, Int.reduceLE, w64, List.length_append, List.length_map, Nat.mul_one, beq_self_eq_true, PktC.cs, EvC.cs, EntC.cs, KeyC.cs, st_nil, Int.reduceAdd]
    repeat' ((first | refine CallO_pure (hE) ?_ | refine NewB_intro0 (fun b => ?_) | (refine NewB_intro (fun b hb => ?_); simp only [ln_cons2, ln_nil, and_true] at hb) | (with_reducible apply wA; focus exact OM_a) | ((first | refine gW_sp ?_ | refine condW_sp ?_ | refine pickW_sp ?_); (try refine Sp_n ?_); (first | refine wT ?_ | refine wF ?_ | refine wL (fun h h' => ?_) (fun h h' => ?_) | refine wE (fun h h' => ?_) (fun h h' => ?_) | refine Sp_split (fun h => ?_) (fun h => ?_)) <;> (try (exfalso; omega))) | refine TreeW_intro (by rfl) ?_ | refine TreeW_all ?_ | refine upQ_intro ?_ | refine Two_intro ?_ ?_ | exact wK | exact wD | (simp only [Fact, Bool.not_eq_true', Bool.not_eq_false', decide_eq_true_eq, decide_eq_false_iff_not] at *; exact wD) | (show (_ : Nat) ≤ _; omega)) <;> (try simp (disch := omega) only [*, ↓Ed, Eu, ↓reduceIte, reduceCtorEq, Nat.reduceAdd, Nat.reduceEqDiff, Nat.reduceLT, Nat.reduceLeDiff, Int.reduceToNat, Int.reduceEq, Int.reduceLT, Int.reduceLE, w64, List.length_append, List.length_map, Nat.mul_one, beq_self_eq_true, PktC.cs, EvC.cs, EntC.cs, KeyC.cs, st_nil, Int.reduceAdd]))
theorem k5 (k : Int) : (k = 1 ∧ Fact (decide (k = 1) = true)) ∨ (k = 2 ∧ Fact (decide (k = 1) = false) ∧ Fact (decide (k = 2) = true)) ∨ (k = 3 ∧ Fact (decide (k = 1) = false) ∧ Fact (decide (k = 2) = false) ∧ Fact (decide (k = 3) = true)) ∨
    (k = 4 ∧ Fact (decide (k = 1) = false) ∧ Fact (decide (k = 2) = false) ∧ Fact (decide (k = 3) = false) ∧ Fact (decide (k = 4) = true)) ∨ ((k ≠ 1 ∧ k ≠ 2 ∧ k ≠ 3 ∧ k ≠ 4) ∧ Fact (decide (k = 1) = false) ∧ Fact (decide (k = 2) = false) ∧ Fact (decide (k = 3) = false) ∧ Fact (decide (k = 4) = false)) := by
  simp only [Fact, decide_eq_true_eq, decide_eq_false_iff_not]
  omega
theorem p_marked (x : EntC) (k : Int) : CP Try.prog 42 [.agg x.cs, .int .i64 k] (.bool (marked x k)) := by
  refine ok_ligref22_marked _ _ (by simp) ?_
  rcases k5 k with ⟨h, f1⟩ | ⟨h, f1, f2⟩ | ⟨h, f1, f2, f3⟩ | ⟨h, f1, f2, f3, f4⟩ | ⟨⟨h1, h2, h3, h4⟩, f1, f2, f3, f4⟩
  · rw [show marked x k = x.s from if_pos h]; clear h
    simp only [c_ligref22_marked, ↓Ed, Eu, ↓reduceIte, reduceCtorEq, Nat.reduceAdd, Nat.reduceEqDiff, Nat.reduceLT, Nat.reduceLeDiff, Int.reduceToNat, Int.reduceEq, Int.reduceLT, Int.reduceLE, w64, List.length_append, List.length_map, Nat.mul_one, beq_self_eq_true, PktC.cs, EvC.cs, EntC.cs, KeyC.cs, st_nil, Int.reduceAdd]
    repeat' ((first | refine NewB_intro0 (fun b => ?_) | (refine NewB_intro (fun b hb => ?_); simp only [ln_cons2, ln_nil, and_true] at hb) | (with_reducible apply wA; focus exact OM_a) | ((first | refine gW_sp ?_ | refine condW_sp ?_ | refine pickW_sp ?_); (try refine Sp_n ?_); (first | refine wT ?_ | refine wF ?_ | refine wL (fun h h' => ?_) (fun h h' => ?_) | refine wE (fun h h' => ?_) (fun h h' => ?_) | refine Sp_split (fun h => ?_) (fun h => ?_)) <;> (try (exfalso; omega))) | refine TreeW_intro (by rfl) ?_ | refine TreeW_all ?_ | refine upQ_intro ?_ | refine Two_intro ?_ ?_ | exact wK | exact wD | (simp only [Fact, Bool.not_eq_true', Bool.not_eq_false', decide_eq_true_eq, decide_eq_false_iff_not] at *; exact wD) | (show (_ : Nat) ≤ _; omega)) <;> (try simp (disch := omega) only [*, ↓Ed, Eu, ↓reduceIte, reduceCtorEq, Nat.reduceAdd, Nat.reduceEqDiff, Nat.reduceLT, Nat.reduceLeDiff, Int.reduceToNat, Int.reduceEq, Int.reduceLT, Int.reduceLE, w64, List.length_append, List.length_map, Nat.mul_one, beq_self_eq_true, PktC.cs, EvC.cs, EntC.cs, KeyC.cs, st_nil, Int.reduceAdd]))
  · rw [show marked x k = x.r by simp [marked, h]]; clear h
    simp only [c_ligref22_marked, ↓Ed, Eu, ↓reduceIte, reduceCtorEq, Nat.reduceAdd, Nat.reduceEqDiff, Nat.reduceLT, Nat.reduceLeDiff, Int.reduceToNat, Int.reduceEq, Int.reduceLT, Int.reduceLE, w64, List.length_append, List.length_map, Nat.mul_one, beq_self_eq_true, PktC.cs, EvC.cs, EntC.cs, KeyC.cs, st_nil, Int.reduceAdd]
    repeat' ((first | refine NewB_intro0 (fun b => ?_) | (refine NewB_intro (fun b hb => ?_); simp only [ln_cons2, ln_nil, and_true] at hb) | (with_reducible apply wA; focus exact OM_a) | ((first | refine gW_sp ?_ | refine condW_sp ?_ | refine pickW_sp ?_); (try refine Sp_n ?_); (first | refine wT ?_ | refine wF ?_ | refine wL (fun h h' => ?_) (fun h h' => ?_) | refine wE (fun h h' => ?_) (fun h h' => ?_) | refine Sp_split (fun h => ?_) (fun h => ?_)) <;> (try (exfalso; omega))) | refine TreeW_intro (by rfl) ?_ | refine TreeW_all ?_ | refine upQ_intro ?_ | refine Two_intro ?_ ?_ | exact wK | exact wD | (simp only [Fact, Bool.not_eq_true', Bool.not_eq_false', decide_eq_true_eq, decide_eq_false_iff_not] at *; exact wD) | (show (_ : Nat) ≤ _; omega)) <;> (try simp (disch := omega) only [*, ↓Ed, Eu, ↓reduceIte, reduceCtorEq, Nat.reduceAdd, Nat.reduceEqDiff, Nat.reduceLT, Nat.reduceLeDiff, Int.reduceToNat, Int.reduceEq, Int.reduceLT, Int.reduceLE, w64, List.length_append, List.length_map, Nat.mul_one, beq_self_eq_true, PktC.cs, EvC.cs, EntC.cs, KeyC.cs, st_nil, Int.reduceAdd]))
  · rw [show marked x k = x.w by simp [marked, h]]; clear h
    simp only [c_ligref22_marked, ↓Ed, Eu, ↓reduceIte, reduceCtorEq, Nat.reduceAdd, Nat.reduceEqDiff, Nat.reduceLT, Nat.reduceLeDiff, Int.reduceToNat, Int.reduceEq, Int.reduceLT, Int.reduceLE, w64, List.length_append, List.length_map, Nat.mul_one, beq_self_eq_true, PktC.cs, EvC.cs, EntC.cs, KeyC.cs, st_nil, Int.reduceAdd]
    repeat' ((first | refine NewB_intro0 (fun b => ?_) | (refine NewB_intro (fun b hb => ?_); simp only [ln_cons2, ln_nil, and_true] at hb) | (with_reducible apply wA; focus exact OM_a) | ((first | refine gW_sp ?_ | refine condW_sp ?_ | refine pickW_sp ?_); (try refine Sp_n ?_); (first | refine wT ?_ | refine wF ?_ | refine wL (fun h h' => ?_) (fun h h' => ?_) | refine wE (fun h h' => ?_) (fun h h' => ?_) | refine Sp_split (fun h => ?_) (fun h => ?_)) <;> (try (exfalso; omega))) | refine TreeW_intro (by rfl) ?_ | refine TreeW_all ?_ | refine upQ_intro ?_ | refine Two_intro ?_ ?_ | exact wK | exact wD | (simp only [Fact, Bool.not_eq_true', Bool.not_eq_false', decide_eq_true_eq, decide_eq_false_iff_not] at *; exact wD) | (show (_ : Nat) ≤ _; omega)) <;> (try simp (disch := omega) only [*, ↓Ed, Eu, ↓reduceIte, reduceCtorEq, Nat.reduceAdd, Nat.reduceEqDiff, Nat.reduceLT, Nat.reduceLeDiff, Int.reduceToNat, Int.reduceEq, Int.reduceLT, Int.reduceLE, w64, List.length_append, List.length_map, Nat.mul_one, beq_self_eq_true, PktC.cs, EvC.cs, EntC.cs, KeyC.cs, st_nil, Int.reduceAdd]))
  · rw [show marked x k = x.c by simp [marked, h]]; clear h
    simp only [c_ligref22_marked, ↓Ed, Eu, ↓reduceIte, reduceCtorEq, Nat.reduceAdd, Nat.reduceEqDiff, Nat.reduceLT, Nat.reduceLeDiff, Int.reduceToNat, Int.reduceEq, Int.reduceLT, Int.reduceLE, w64, List.length_append, List.length_map, Nat.mul_one, beq_self_eq_true, PktC.cs, EvC.cs, EntC.cs, KeyC.cs, st_nil, Int.reduceAdd]
    repeat' ((first | refine NewB_intro0 (fun b => ?_) | (refine NewB_intro (fun b hb => ?_); simp only [ln_cons2, ln_nil, and_true] at hb) | (with_reducible apply wA; focus exact OM_a) | ((first | refine gW_sp ?_ | refine condW_sp ?_ | refine pickW_sp ?_); (try refine Sp_n ?_); (first | refine wT ?_ | refine wF ?_ | refine wL (fun h h' => ?_) (fun h h' => ?_) | refine wE (fun h h' => ?_) (fun h h' => ?_) | refine Sp_split (fun h => ?_) (fun h => ?_)) <;> (try (exfalso; omega))) | refine TreeW_intro (by rfl) ?_ | refine TreeW_all ?_ | refine upQ_intro ?_ | refine Two_intro ?_ ?_ | exact wK | exact wD | (simp only [Fact, Bool.not_eq_true', Bool.not_eq_false', decide_eq_true_eq, decide_eq_false_iff_not] at *; exact wD) | (show (_ : Nat) ≤ _; omega)) <;> (try simp (disch := omega) only [*, ↓Ed, Eu, ↓reduceIte, reduceCtorEq, Nat.reduceAdd, Nat.reduceEqDiff, Nat.reduceLT, Nat.reduceLeDiff, Int.reduceToNat, Int.reduceEq, Int.reduceLT, Int.reduceLE, w64, List.length_append, List.length_map, Nat.mul_one, beq_self_eq_true, PktC.cs, EvC.cs, EntC.cs, KeyC.cs, st_nil, Int.reduceAdd]))
  · rw [show marked x k = x.t by simp [marked, h1, h2, h3, h4]]; clear h1 h2 h3 h4
    simp only [c_ligref22_marked, ↓Ed, Eu, ↓reduceIte, reduceCtorEq, Nat.reduceAdd, Nat.reduceEqDiff, Nat.reduceLT, Nat.reduceLeDiff, Int.reduceToNat, Int.reduceEq, Int.reduceLT, Int.reduceLE, w64, List.length_append, List.length_map, Nat.mul_one, beq_self_eq_true, PktC.cs, EvC.cs, EntC.cs, KeyC.cs, st_nil, Int.reduceAdd]
    repeat' ((first | refine NewB_intro0 (fun b => ?_) | (refine NewB_intro (fun b hb => ?_); simp only [ln_cons2, ln_nil, and_true] at hb) | (with_reducible apply wA; focus exact OM_a) | ((first | refine gW_sp ?_ | refine condW_sp ?_ | refine pickW_sp ?_); (try refine Sp_n ?_); (first | refine wT ?_ | refine wF ?_ | refine wL (fun h h' => ?_) (fun h h' => ?_) | refine wE (fun h h' => ?_) (fun h h' => ?_) | refine Sp_split (fun h => ?_) (fun h => ?_)) <;> (try (exfalso; omega))) | refine TreeW_intro (by rfl) ?_ | refine TreeW_all ?_ | refine upQ_intro ?_ | refine Two_intro ?_ ?_ | exact wK | exact wD | (simp only [Fact, Bool.not_eq_true', Bool.not_eq_false', decide_eq_true_eq, decide_eq_false_iff_not] at *; exact wD) | (show (_ : Nat) ≤ _; omega)) <;> (try simp (disch := omega) only [*, ↓Ed, Eu, ↓reduceIte, reduceCtorEq, Nat.reduceAdd, Nat.reduceEqDiff, Nat.reduceLT, Nat.reduceLeDiff, Int.reduceToNat, Int.reduceEq, Int.reduceLT, Int.reduceLE, w64, List.length_append, List.length_map, Nat.mul_one, beq_self_eq_true, PktC.cs, EvC.cs, EntC.cs, KeyC.cs, st_nil, Int.reduceAdd]))
theorem p_markD (x : EntC) (e : EvC) : CP Try.prog 41 [.agg x.cs, .agg e.cs] (.agg (markE x e).cs) := by
  refine ok_ligref22_mark _ _ (by simp) ?_
  rcases k5 e.k with ⟨h, f1⟩ | ⟨h, f1, f2⟩ | ⟨h, f1, f2, f3⟩ | ⟨h, f1, f2, f3, f4⟩ | ⟨⟨h1, h2, h3, h4⟩, f1, f2, f3, f4⟩
  · rw [show markE x e = { x with s := true } by simp [markE, h]]; clear h
    simp only [c_ligref22_mark, ↓Ed, Eu, ↓reduceIte, reduceCtorEq, Nat.reduceAdd, Nat.reduceEqDiff, Nat.reduceLT, Nat.reduceLeDiff, Int.reduceToNat, Int.reduceEq, Int.reduceLT, Int.reduceLE, w64, List.length_append, List.length_map, Nat.mul_one, beq_self_eq_true, PktC.cs, EvC.cs, EntC.cs, KeyC.cs, st_nil, Int.reduceAdd]
    repeat' ((first | refine NewB_intro0 (fun b => ?_) | (refine NewB_intro (fun b hb => ?_); simp only [ln_cons2, ln_nil, and_true] at hb) | (with_reducible apply wA; focus exact OM_a) | ((first | refine gW_sp ?_ | refine condW_sp ?_ | refine pickW_sp ?_); (try refine Sp_n ?_); (first | refine wT ?_ | refine wF ?_ | refine wL (fun h h' => ?_) (fun h h' => ?_) | refine wE (fun h h' => ?_) (fun h h' => ?_) | refine Sp_split (fun h => ?_) (fun h => ?_)) <;> (try (exfalso; omega))) | refine TreeW_intro (by rfl) ?_ | refine TreeW_all ?_ | refine upQ_intro ?_ | refine Two_intro ?_ ?_ | exact wK | exact wD | (simp only [Fact, Bool.not_eq_true', Bool.not_eq_false', decide_eq_true_eq, decide_eq_false_iff_not] at *; exact wD) | (show (_ : Nat) ≤ _; omega)) <;> (try simp (disch := omega) only [*, ↓Ed, Eu, ↓reduceIte, reduceCtorEq, Nat.reduceAdd, Nat.reduceEqDiff, Nat.reduceLT, Nat.reduceLeDiff, Int.reduceToNat, Int.reduceEq, Int.reduceLT, Int.reduceLE, w64, List.length_append, List.length_map, Nat.mul_one, beq_self_eq_true, PktC.cs, EvC.cs, EntC.cs, KeyC.cs, st_nil, Int.reduceAdd]))
  · rw [show markE x e = { x with r := true } by simp [markE, h]]; clear h
    simp only [c_ligref22_mark, ↓Ed, Eu, ↓reduceIte, reduceCtorEq, Nat.reduceAdd, Nat.reduceEqDiff, Nat.reduceLT, Nat.reduceLeDiff, Int.reduceToNat, Int.reduceEq, Int.reduceLT, Int.reduceLE, w64, List.length_append, List.length_map, Nat.mul_one, beq_self_eq_true, PktC.cs, EvC.cs, EntC.cs, KeyC.cs, st_nil, Int.reduceAdd]
    repeat' ((first | refine NewB_intro0 (fun b => ?_) | (refine NewB_intro (fun b hb => ?_); simp only [ln_cons2, ln_nil, and_true] at hb) | (with_reducible apply wA; focus exact OM_a) | ((first | refine gW_sp ?_ | refine condW_sp ?_ | refine pickW_sp ?_); (try refine Sp_n ?_); (first | refine wT ?_ | refine wF ?_ | refine wL (fun h h' => ?_) (fun h h' => ?_) | refine wE (fun h h' => ?_) (fun h h' => ?_) | refine Sp_split (fun h => ?_) (fun h => ?_)) <;> (try (exfalso; omega))) | refine TreeW_intro (by rfl) ?_ | refine TreeW_all ?_ | refine upQ_intro ?_ | refine Two_intro ?_ ?_ | exact wK | exact wD | (simp only [Fact, Bool.not_eq_true', Bool.not_eq_false', decide_eq_true_eq, decide_eq_false_iff_not] at *; exact wD) | (show (_ : Nat) ≤ _; omega)) <;> (try simp (disch := omega) only [*, ↓Ed, Eu, ↓reduceIte, reduceCtorEq, Nat.reduceAdd, Nat.reduceEqDiff, Nat.reduceLT, Nat.reduceLeDiff, Int.reduceToNat, Int.reduceEq, Int.reduceLT, Int.reduceLE, w64, List.length_append, List.length_map, Nat.mul_one, beq_self_eq_true, PktC.cs, EvC.cs, EntC.cs, KeyC.cs, st_nil, Int.reduceAdd]))
  · rw [show markE x e = { x with w := true, a := e.a } by simp [markE, h]]; clear h
    simp only [c_ligref22_mark, ↓Ed, Eu, ↓reduceIte, reduceCtorEq, Nat.reduceAdd, Nat.reduceEqDiff, Nat.reduceLT, Nat.reduceLeDiff, Int.reduceToNat, Int.reduceEq, Int.reduceLT, Int.reduceLE, w64, List.length_append, List.length_map, Nat.mul_one, beq_self_eq_true, PktC.cs, EvC.cs, EntC.cs, KeyC.cs, st_nil, Int.reduceAdd]
    repeat' ((first | refine NewB_intro0 (fun b => ?_) | (refine NewB_intro (fun b hb => ?_); simp only [ln_cons2, ln_nil, and_true] at hb) | (with_reducible apply wA; focus exact OM_a) | ((first | refine gW_sp ?_ | refine condW_sp ?_ | refine pickW_sp ?_); (try refine Sp_n ?_); (first | refine wT ?_ | refine wF ?_ | refine wL (fun h h' => ?_) (fun h h' => ?_) | refine wE (fun h h' => ?_) (fun h h' => ?_) | refine Sp_split (fun h => ?_) (fun h => ?_)) <;> (try (exfalso; omega))) | refine TreeW_intro (by rfl) ?_ | refine TreeW_all ?_ | refine upQ_intro ?_ | refine Two_intro ?_ ?_ | exact wK | exact wD | (simp only [Fact, Bool.not_eq_true', Bool.not_eq_false', decide_eq_true_eq, decide_eq_false_iff_not] at *; exact wD) | (show (_ : Nat) ≤ _; omega)) <;> (try simp (disch := omega) only [*, ↓Ed, Eu, ↓reduceIte, reduceCtorEq, Nat.reduceAdd, Nat.reduceEqDiff, Nat.reduceLT, Nat.reduceLeDiff, Int.reduceToNat, Int.reduceEq, Int.reduceLT, Int.reduceLE, w64, List.length_append, List.length_map, Nat.mul_one, beq_self_eq_true, PktC.cs, EvC.cs, EntC.cs, KeyC.cs, st_nil, Int.reduceAdd]))
  · rw [show markE x e = { x with c := true } by simp [markE, h]]; clear h
    simp only [c_ligref22_mark, ↓Ed, Eu, ↓reduceIte, reduceCtorEq, Nat.reduceAdd, Nat.reduceEqDiff, Nat.reduceLT, Nat.reduceLeDiff, Int.reduceToNat, Int.reduceEq, Int.reduceLT, Int.reduceLE, w64, List.length_append, List.length_map, Nat.mul_one, beq_self_eq_true, PktC.cs, EvC.cs, EntC.cs, KeyC.cs, st_nil, Int.reduceAdd]
    repeat' ((first | refine NewB_intro0 (fun b => ?_) | (refine NewB_intro (fun b hb => ?_); simp only [ln_cons2, ln_nil, and_true] at hb) | (with_reducible apply wA; focus exact OM_a) | ((first | refine gW_sp ?_ | refine condW_sp ?_ | refine pickW_sp ?_); (try refine Sp_n ?_); (first | refine wT ?_ | refine wF ?_ | refine wL (fun h h' => ?_) (fun h h' => ?_) | refine wE (fun h h' => ?_) (fun h h' => ?_) | refine Sp_split (fun h => ?_) (fun h => ?_)) <;> (try (exfalso; omega))) | refine TreeW_intro (by rfl) ?_ | refine TreeW_all ?_ | refine upQ_intro ?_ | refine Two_intro ?_ ?_ | exact wK | exact wD | (simp only [Fact, Bool.not_eq_true', Bool.not_eq_false', decide_eq_true_eq, decide_eq_false_iff_not] at *; exact wD) | (show (_ : Nat) ≤ _; omega)) <;> (try simp (disch := omega) only [*, ↓Ed, Eu, ↓reduceIte, reduceCtorEq, Nat.reduceAdd, Nat.reduceEqDiff, Nat.reduceLT, Nat.reduceLeDiff, Int.reduceToNat, Int.reduceEq, Int.reduceLT, Int.reduceLE, w64, List.length_append, List.length_map, Nat.mul_one, beq_self_eq_true, PktC.cs, EvC.cs, EntC.cs, KeyC.cs, st_nil, Int.reduceAdd]))
  · rw [show markE x e = { x with t := true } by simp [markE, h1, h2, h3, h4]]; clear h1 h2 h3 h4
    simp only [c_ligref22_mark, ↓Ed, Eu, ↓reduceIte, reduceCtorEq, Nat.reduceAdd, Nat.reduceEqDiff, Nat.reduceLT, Nat.reduceLeDiff, Int.reduceToNat, Int.reduceEq, Int.reduceLT, Int.reduceLE, w64, List.length_append, List.length_map, Nat.mul_one, beq_self_eq_true, PktC.cs, EvC.cs, EntC.cs, KeyC.cs, st_nil, Int.reduceAdd]
    repeat' ((first | refine NewB_intro0 (fun b => ?_) | (refine NewB_intro (fun b hb => ?_); simp only [ln_cons2, ln_nil, and_true] at hb) | (with_reducible apply wA; focus exact OM_a) | ((first | refine gW_sp ?_ | refine condW_sp ?_ | refine pickW_sp ?_); (try refine Sp_n ?_); (first | refine wT ?_ | refine wF ?_ | refine wL (fun h h' => ?_) (fun h h' => ?_) | refine wE (fun h h' => ?_) (fun h h' => ?_) | refine Sp_split (fun h => ?_) (fun h => ?_)) <;> (try (exfalso; omega))) | refine TreeW_intro (by rfl) ?_ | refine TreeW_all ?_ | refine upQ_intro ?_ | refine Two_intro ?_ ?_ | exact wK | exact wD | (simp only [Fact, Bool.not_eq_true', Bool.not_eq_false', decide_eq_true_eq, decide_eq_false_iff_not] at *; exact wD) | (show (_ : Nat) ≤ _; omega)) <;> (try simp (disch := omega) only [*, ↓Ed, Eu, ↓reduceIte, reduceCtorEq, Nat.reduceAdd, Nat.reduceEqDiff, Nat.reduceLT, Nat.reduceLeDiff, Int.reduceToNat, Int.reduceEq, Int.reduceLT, Int.reduceLE, w64, List.length_append, List.length_map, Nat.mul_one, beq_self_eq_true, PktC.cs, EvC.cs, EntC.cs, KeyC.cs, st_nil, Int.reduceAdd]))
end Go.Proofs.Ytobopbjedojebaa
