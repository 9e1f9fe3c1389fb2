import Derived.Test.YtobopbjedojebaaK12
import Derived.Test.YtobopbjedojebaaK8
import Derived.Test.YtobopbjedojebaaK11
import Derived.Maps.RangeWalk
import Derived.OwnWalkIn
import Derived.Test.YtobopbjedojebaaK10
/- what became of packets: a table as lists in the order of coming -/
namespace Go.Proofs.Ytobopbjedojebaa
set_option linter.all false
open Go.RowKit
abbrev keyA (k : KeyC) : AV := .agg k.cs
abbrev entA (x : EntC) : AV := .agg x.cs
theorem keyA_eq (a b : KeyC) : keyEq [.s, .i, .b, .i] true (keyA a) (keyA b) = some (decide (a = b)) := by
  obtain ⟨a1, a2, a3, a4⟩ := a; obtain ⟨b1, b2, b3, b4⟩ := b
  simp only [keyA, keyEq, eqC_s, eqC_i, eqC_b, eqC_nil, oand_some, Bool.and_true]
  congr 1
  rw [Bool.eq_iff_iff]
  simp
structure Tb where
  K : List (KeyC × EntC)
  C : List EndP
def findE (l : List (KeyC × EntC)) (k : KeyC) : Option EntC := (l.find? fun x => decide (x.1 = k)).map (·.2)
def tk (l : List (KeyC × EntC)) : List AV := (l.map (·.1)).map keyA
def tv (l : List (KeyC × EntC)) : List AV := l.map fun x => entA x.2
abbrev mpK (l : List (KeyC × EntC)) : AV := .mp (tk l) (tv l) (List.range l.length) l.length
abbrev mpC (l : List EndP) : AV := .mp (l.map endK) (List.replicate l.length (.int .i64 1)) (List.range l.length) l.length
abbrev tabO (c m n : Nat) (t : Tb) : List (Nat × List AV) := [(c, [.mapv m, .mapv n]), (m, [mpK t.K]), (n, [mpC t.C])]
theorem findE_none {l : List (KeyC × EntC)} {k : KeyC} (h : findE l k = none) : ∀ x ∈ l, x.1 ≠ k := by
  intro x hx e
  simp only [findE, Option.map_eq_none_iff, List.find?_eq_none] at h
  have := h x hx
  simp [e] at this
theorem lookK_none {l : List (KeyC × EntC)} {k : KeyC} (h : findE l k = none) : findM [.s, .i, .b, .i] true (keyA k) (tk l) = some none := by
  refine findM_no [.s, .i, .b, .i] true keyA keyA_eq k _ fun hm => ?_
  obtain ⟨x, hx, e⟩ := List.mem_map.1 hm
  exact findE_none h x hx e
theorem lookK_some {l : List (KeyC × EntC)} {k : KeyC} {x : EntC} (h : findE l k = some x) : ∃ i, i < l.length ∧ findM [.s, .i, .b, .i] true (keyA k) (tk l) = some (some i) ∧ (tv l).getD i .undef = entA x ∧ l[i]? = some (k, x) := by
  induction l with
  | nil => simp [findE] at h
  | cons y l ih =>
    have e := findM_map [.s, .i, .b, .i] true keyA keyA_eq k ((y :: l).map (·.1))
    by_cases hy : y.1 = k
    · simp [findE, hy] at h
      subst h
      refine ⟨0, by simp, ?_, rfl, by simp [← hy]⟩
      rw [tk, e, List.map_cons, List.idxOf?_cons, hy]; simp
    · have h' : findE l k = some x := by simpa [findE, hy] using h
      obtain ⟨i, h1, h2, h3, h4⟩ := ih h'
      refine ⟨i + 1, by simpa using h1, ?_, by simpa [tv] using h3, by simpa using h4⟩
      have e2 := findM_map [.s, .i, .b, .i] true keyA keyA_eq k (l.map (·.1))
      rw [tk, e2] at h2
      rw [tk, e, List.map_cons, List.idxOf?_cons]
      have : (y.1 == k) = false := by simp [hy]
      rw [this]
      simp only [Option.some.injEq] at h2
      simp [h2]
theorem lookC_no {l : List EndP} {e : EndP} (h : e ∉ l) : findM [.s, .i] true (endK e) (l.map endK) = some none := findM_no [.s, .i] true endK endK_eq e l h
theorem lookC_in {l : List EndP} {e : EndP} (h : e ∈ l) : ∃ i, i < l.length ∧ findM [.s, .i] true (endK e) (l.map endK) = some (some i) ∧ (List.replicate l.length (AV.int .i64 1)).getD i .undef = .int .i64 1 := by
  have h2 := findM_map [.s, .i] true endK endK_eq e l
  obtain ⟨i, hi, hlt⟩ := idx_ex h
  exact ⟨i, hlt, by rw [h2, hi], by simp [List.getD, hlt]⟩
def outK (k : Int) : Bool := decide (k = 1 ∨ k = 4 ∨ k = 5)
def ent0 (p : PktC) : EntC := ⟨p, [], false, false, false, false, false⟩
def markO (k : Int) : Nat := if k = 1 then 9 else if k = 2 then 10 else if k = 3 then 11 else if k = 4 then 12 else 13
def marked (x : EntC) (k : Int) : Bool := if k = 1 then x.s else if k = 2 then x.r else if k = 3 then x.w else if k = 4 then x.c else x.t
def markE (x : EntC) (e : EvC) : EntC := if e.k = 1 then { x with s := true } else if e.k = 2 then { x with r := true } else if e.k = 3 then { x with w := true, a := e.a } else if e.k = 4 then { x with c := true } else { x with t := true }
def lateE (x : EntC) (k : Int) : Bool := (decide (k = 4) && x.t) || (decide (k = 5) && x.c)
def setE (l : List (KeyC × EntC)) (k : KeyC) (y : EntC) : List (KeyC × EntC) := l.map fun x => if x.1 = k then (k, y) else x
noncomputable def keyE (e : EvC) : KeyC := ⟨(ownE e).1, (ownE e).2.1, outK e.k, (ownE e).2.2.1⟩
open Classical in
noncomputable def foldT (t : Tb) (e : EvC) : Tb × Int :=
  if mayE e = false then (t, 1) else if e.k = 7 then (t, 0) else if e.k = 6 then (if ((e.e, e.ec) : EndP) ∈ t.C then (t, 8) else (⟨t.K, t.C ++ [(e.e, e.ec)]⟩, 0))
  else match findE t.K (keyE e) with
    | none => (⟨t.K ++ [(keyE e, markE (ent0 e.p) e)], t.C⟩, 0)
    | some x => if ¬ x.p = e.p then (t, 3) else if marked x e.k then (t, 8) else if lateE x e.k then (t, 16) else (⟨setE t.K (keyE e) (markE x e), t.C⟩, 0)
end Go.Proofs.Ytobopbjedojebaa

/- The abstract machine: contracts of library functions over plain values, taken from the kit's shelf. -/
namespace Go.Proofs.Ytobopbjedojebaa
set_option linter.all false
open Go.RowKit
mutual
/-- The one value that reads av this. -/
def conc : AV → Option Value
  | .int k n => some (.int k n)
  | .bool b => some (.bool b)
  | .str l => some (.string ⟨l.toArray⟩)
  | .tup cs => (concs cs).map fun vs => .tuple vs.toArray
  | _ => none
def concs : List AV → Option (List Value)
  | [] => some []
  | c :: cs => match conc c, concs cs with
    | some v, some vs => some (v :: vs)
    | _, _ => none
end
theorem conc_unique {W : World} {U : Nat → Nat → Prop} {a : AV} {v u : Value} (h : VR W U u a) (hc : conc a = some v) (hp : ∀ cs, a ≠ .tup cs) : u = v := by
  cases h <;> simp [conc] at hc <;> first | exact hc | exact absurd rfl (hp _)
theorem concs_get : ∀ {cs : List AV} {vs : List Value}, concs cs = some vs → vs.length = cs.length ∧ ∀ (i : Nat) (v : Value) (c : AV), vs[i]? = some v → cs[i]? = some c → conc c = some v
  | [], vs, h => by
    simp only [concs, Option.some.injEq] at h
    subst h; simp
  | c :: cs, vs, h => by
    rw [concs] at h
    split at h
    · rename_i v ws h1 h2
      cases h
      have ih := concs_get h2
      refine ⟨by simp [ih.1], fun i u d hu hd => ?_⟩
      cases i with
      | zero => simp at hu hd; subst hu; subst hd; exact h1
      | succ i => exact ih.2 i u d (by simpa using hu) (by simpa using hd)
    · cases h
theorem conc_reads (W : World) (U : Nat → Nat → Prop) : ∀ (n : Nat) (a : AV) (v : Value), SizeOf.sizeOf a ≤ n → conc a = some v → VR W U v a
  | 0, a, v, hn, h => by cases a <;> simp at hn
  | n + 1, a, v, hn, h => by
    cases a <;> simp only [conc, Option.some.injEq, reduceCtorEq] at h
    · subst h; exact .int _ _
    · subst h; exact .bool _
    · subst h; exact .str _
    · rename_i cs
      cases hc : concs cs with
      | none => rw [hc] at h; cases h
      | some vs =>
        rw [hc] at h
        cases h
        have hg := concs_get hc
        refine .tup vs cs hg.1 fun i v c hv hc => conc_reads W U n c v ?_ (hg.2 i v c hv hc)
        have := List.sizeOf_lt_of_mem (List.mem_of_getElem? hc)
        simp at hn
        omega
/-- A library function over plain values: what it returns, and that nothing of what was there has turned. -/
theorem CP_libG {P : Program} {f : Nat} {av : List AV} {vs : List Value} {r : AV} {v : Value} (ha : concs av = some vs) (hp : ∀ a ∈ av, ∀ cs, a ≠ .tup cs) (hr : conc r = some v)
    (h : ∀ W U, Glob W U → Calls P f vs.toArray W fun e W' => e = .returned v ∧ Below W.heap.size W W') : CP P f av r := by
  intro W U us hG hl hu
  have hg := concs_get ha
  have he : us = vs := by
    apply List.ext_getElem?
    intro i
    by_cases hi : i < us.length
    · have h1 : i < vs.length := by omega
      have h2 : i < av.length := by omega
      rw [List.getElem?_eq_getElem hi, List.getElem?_eq_getElem h1]
      refine congrArg some (conc_unique (hu i _ av[i] (List.getElem?_eq_getElem hi) (List.getElem?_eq_getElem h2)) (hg.2 i _ _ (List.getElem?_eq_getElem h1) (List.getElem?_eq_getElem h2)) (hp _ (List.getElem_mem h2)))
    · rw [List.getElem?_eq_none (by omega), List.getElem?_eq_none (by omega)]
  subst he
  refine (h W U hG).mono ?_
  rintro e W' ⟨rfl, hb⟩
  refine ⟨v, fun k o => if k < W.heap.size then U k o else False, rfl, conc_reads _ _ _ r v (Nat.le_refl _) hr, ?_, hb, fun k hk o => by simp [hk]⟩
  cases r <;> first | trivial | simp [conc] at hr
/-- .. that reads no listed variable. -/
theorem CP_lib {P : Program} {f : Nat} {av : List AV} {vs : List Value} {r : AV} {v : Value} (ha : concs av = some vs) (hp : ∀ a ∈ av, ∀ cs, a ≠ .tup cs) (hr : conc r = some v)
    (h : ∀ W, Calls P f vs.toArray W fun e W' => e = .returned v ∧ Below W.heap.size W W') : CP P f av r := CP_libG ha hp hr fun W _ _ => h W
end Go.Proofs.Ytobopbjedojebaa

/- The abstract machine: contracts over two objects. -/
namespace Go.Proofs.Ytobopbjedojebaa
set_option linter.all false
open Go.RowKit
theorem lk_sub2 {b c : Nat} {cs ds : List AV} {o : Nat → Option (List AV)} (h : o b = some cs) (g : o c = some ds) : ∀ b' cs', lk [(b, cs), (c, ds)] b' = some cs' → o b' = some cs' := by
  intro b' cs' h'
  rw [lk_cons, lk_cons] at h'
  by_cases hb : b' = b
  · subst hb; rw [if_pos rfl] at h'; rw [h, h']
  · rw [if_neg hb] at h'
    by_cases hc : b' = c
    · subst hc; rw [if_pos rfl] at h'; rw [g, h']
    · rw [if_neg hc] at h'; cases h'
theorem dom2 {α : Type} {b d : Nat} {c c' e e' : α} : ∀ b' cs, lk [(b, c), (d, e)] b' = some cs → ∃ cs', lk [(b, c'), (d, e')] b' = some cs' := by
  intro b' cs h
  rw [lk_cons, lk_cons] at h ⊢
  by_cases hb : b' = b
  · rw [if_pos hb]; exact ⟨_, rfl⟩
  · rw [if_neg hb] at h ⊢
    by_cases hd : b' = d
    · rw [if_pos hd]; exact ⟨_, rfl⟩
    · rw [if_neg hd] at h; cases h
/-- Two new blocks. -/
def NewB2 (o : Nat → Option (List AV)) (K : Nat → Nat → Prop) : Prop := ∀ b c, o b = none → o c = none → ¬ b = c → ¬ c = b → K b c
theorem NewB2_intro {o : Nat → Option (List AV)} {K : Nat → Nat → Prop} (h : ∀ b c, o b = none → o c = none → ¬ b = c → ¬ c = b → K b c) : NewB2 o K := h
section
variable {P : Program} {d : Option Nat} {s : St} {K : St → Prop}
/-- What a function that makes two new objects (a struct, a map that it holds) says: the objects o1 that it was handed become o2. -/
abbrev new2 (o2 : List (Nat × List AV)) (ds : List AV) : AV → (Nat → Option (List AV)) → Prop := fun r' o' => ∃ c m, (¬ c = m ∧ lk o2 c = none ∧ lk o2 m = none) ∧ r' = .ptr c 0 ∧ o' = lk ((c, [.mapv m]) :: (m, ds) :: o2)
theorem CallO_new2 {f : Nat} {vs : List AV} {o1 o2 : List (Nat × List AV)} {ds : List AV} (h : CT P f vs (lk o1) (new2 o2 ds)) (hsub : ∀ b cs, lk o1 b = some cs → s.o b = some cs) (hd : ∀ b, lk o2 b = none → lk o1 b = none)
    (hK : NewB2 s.o (fun c m => KS (St.put ⟨s.t, ovr ((c, [.mapv m]) :: (m, ds) :: o2) s.o⟩ d (.ptr c 0)) K)) : CallO P f vs d s K := by
  refine ⟨lk o1, _, hsub, h, ?_⟩
  rintro r' o' ⟨c, m, ⟨h1, h2, h3⟩, rfl, rfl⟩ hf
  exact hK c m (hf c _ (lk_hd _ _ _) (hd c h2)) (hf m _ (lk_tl (fun e => h1 e.symm) (lk_hd _ _ _)) (hd m h3)) h1 (fun e => h1 e.symm)
theorem ro_new2 {s : St} {rs : List AR} {o1 o2 : List (Nat × List AV)} {ds : List AV} (c m : Nat) (h : resR s rs (.ptr c 0) ∧ LeL ((c, [.mapv m]) :: (m, ds) :: o2) s.o) (h1 : ¬ c = m) (h2 : lk o2 c = none) (h3 : lk o2 m = none) (hd : ∀ b cs, lk o1 b = some cs → ∃ cs', lk o2 b = some cs') : RetO s rs (lk o1) (new2 o2 ds) := by
  refine ⟨_, h.1, lk ((c, [.mapv m]) :: (m, ds) :: o2), LeL_ok h.2, fun b cs hb => ?_, c, m, ⟨h1, h2, h3⟩, rfl, rfl⟩
  obtain ⟨cs', hc⟩ := hd b cs hb
  refine ⟨cs', ?_⟩
  rw [lk_cons, lk_cons, if_neg (fun e => by subst e; rw [hc] at h2; cases h2), if_neg (fun e => by subst e; rw [hc] at h3; cases h3)]
  exact hc
end
end Go.Proofs.Ytobopbjedojebaa

/- The abstract machine: what a library function returns over objects that it only reads; maps.Clone. -/
namespace Go.Proofs.Ytobopbjedojebaa
set_option linter.all false
open Go.RowKit
section
variable {P : Program} {W0 : World} {U0 : Nat → Nat → Prop} {M : Nat → Prop} {W : World} {U : Nat → Nat → Prop}
/-- A result is put down. -/
theorem Inv.res1 {o : Nat → Option (List AV)} (h : Inv 0 W0 U0 M { tmps := #[], defers := [] } W U ⟨fun _ => none, o⟩) {v : Value} {r : AV} (hv : VR W U v r) (ho : Sole W0 M { tmps := #[undef], defers := [] } W U ⟨fun _ => none, o⟩ 0 v r) :
    Inv 1 W0 U0 M { tmps := #[v], defers := [] } W U ⟨upd (fun _ => none) 0 (some r), o⟩ := by
  have h1 : Inv 1 W0 U0 M { tmps := #[undef], defers := [] } W U ⟨fun _ => none, o⟩ := by
    have hc : ∀ {ℓ : Loc} {x : AV}, St.at ⟨fun _ => none, o⟩ ℓ = some x → cat { tmps := #[undef], defers := [] } W ℓ = cat { tmps := #[], defers := [] } W ℓ := by
      intro ℓ x hx
      cases ℓ with
      | t i => simp [St.at] at hx
      | o b j => rfl
    refine ⟨rfl, rfl, h.fr, fun i x hx => (by simp at hx), h.ob, fun ℓ x hx => ?_, fun ℓ ℓ' e sz els e' sz' els' hne h2 h3 => ?_, fun ℓ e sz els h2 => ?_⟩
    · rw [hc hx]; exact h.ow ℓ x hx
    · rw [hc h2, hc h3]; exact h.ap ℓ ℓ' _ _ _ _ _ _ hne h2 h3
    · rw [hc h2]; exact h.no ℓ e sz els h2
  exact h1.put (d := 0) (by omega) hv ho
/-- .. in a world that has grown. -/
theorem Inv.res2 {o : Nat → Option (List AV)} (h : Inv 0 W0 U0 M { tmps := #[], defers := [] } W U ⟨fun _ => none, o⟩) {W' : World} {U' : Nat → Nat → Prop} (he : Ext W U W' U') {v : Value} {r : AV} (hv : VR W' U' v r)
    (ho : ∀ e sz els, r = .sl (some e) sz els → OwnRow W' U' (W.heap.size ≤ ·) v e sz els.length) :
    Inv 1 W0 U0 M { tmps := #[v], defers := [] } W' U' ⟨upd (fun _ => none) 0 (some r), o⟩ := by
  refine (h.ext he).res1 hv fun e sz els hr => ?_
  have hw := ho e sz els hr
  refine ⟨hw.toB fun g hg => .inl (Nat.le_trans h.fr.size (OwnRow.inB hw hg)), fun g hg => ⟨?_, fun ℓ _ ⟨e', sz', els', hl⟩ hg' => ?_⟩⟩
  · cases hs : o g with
    | none => exact hs
    | some cs =>
      have h1 := h.ob_lt g cs hs
      have h2 : W.heap.size ≤ g := OwnRow.inB hw hg
      omega
  · have h2 : W.heap.size ≤ g := OwnRow.inB hw hg
    cases ℓ with
    | t i => simp [St.at] at hl
    | o b j =>
      have hl' : St.at ⟨fun _ => none, o⟩ (.o b j) = some (.sl (some e') sz' els') := hl
      have h5 := h.ow (.o b j) _ hl'
      simp only [Own1] at h5
      have hcat : cat { tmps := #[undef], defers := [] } W' (.o b j) = cat { tmps := #[], defers := [] } W (.o b j) := cat_ext (a := { tmps := #[], defers := [] }) he.b h.ob_lt hl'
      rw [hcat] at hg'
      have := h5.lt hg'
      omega
/-- A library function that reads objects and makes something new. -/
theorem CT_reads {f : Nat} {av : List AV} {o1 : List (Nat × List AV)} {r : AV}
    (h : ∀ (W : World) (U : Nat → Nat → Prop) (vs : List Value), Glob W U → vs.length = av.length → (∀ (i : Nat) (v : Value) (c : AV), vs[i]? = some v → av[i]? = some c → VR W U v c) → (∀ b cs, lk o1 b = some cs → ObR W U b cs) →
      Calls P f vs.toArray W fun e W' => ∃ v U', e = .returned v ∧ VR W' U' v r ∧ (∀ e sz els, r = .sl (some e) sz els → OwnRow W' U' (W.heap.size ≤ ·) v e sz els.length) ∧ Ext W U W' U') :
    CT P f av (lk o1) (fun r' o' => r' = r ∧ o' = lk o1) := by
  intro W U vs hl hv hI
  refine (h W U vs hI.fr.g0 hl hv (fun b cs hb => (hI.ob b cs hb).1)).mono ?_
  rintro e W' ⟨v, U', rfl, hvr, hown, hE⟩
  exact ⟨v, U', r, lk o1, rfl, ⟨rfl, rfl⟩, fun b cs hb => ⟨cs, hb⟩, hI.res2 hE hvr hown⟩
theorem lk_of_fun : (fun _ => none : Nat → Option (List AV)) = lk [] := rfl
/-- A library function that lays one block of cells. -/
theorem CT_lays {f : Nat} {av : List AV} {cs : List AV} {R : Nat → AV}
    (h : ∀ (W : World) (U : Nat → Nat → Prop) (vs : List Value), vs.length = av.length → (∀ (i : Nat) (v : Value) (c : AV), vs[i]? = some v → av[i]? = some c → VR W U v c) →
      Calls P f vs.toArray W fun e W' => ∃ (v : Value) (us : Array Value) (ty : TypeId), e = .returned v ∧ W' = W.alloc (.cells us ty) ∧ us.size = cs.length ∧ (∀ u, headT cs = some u → ty = u) ∧
        (∀ (j : Nat) (u : Value), us[j]? = some u → u.oneCell' = true ∧ ∀ x, cs[j]? = some x → VR W U u x ∧ ∀ e sz els, x = .sl (some e) sz els → u = .slice none 0 0 ∧ els = []) ∧
        (∀ W2 U2, CellsAt W2 W.heap.size → VR W2 U2 v (R W.heap.size)) ∧ ∀ e sz els, R W.heap.size ≠ .sl (some e) sz els) :
    CT P f av (lk []) (fun r' o' => ∃ b, r' = R b ∧ o' = lk [(b, cs)]) := by
  intro W U vs hl hv hI
  refine (h W U vs hl hv).mono ?_
  rintro e W' ⟨v, us, ty, rfl, rfl, g1, g2, g3, g4, g5⟩
  have hn := hI.newo (vs := us) (cs := cs) (ty := ty) g1 g2 g3
  have ho : upd (lk ([] : List (Nat × List AV))) W.heap.size (some cs) = lk [(W.heap.size, cs)] := by rw [upd_lk]; simp [pt]
  rw [show ({ (⟨fun _ => none, lk []⟩ : St) with o := upd (lk []) W.heap.size (some cs) } : St) = ⟨fun _ => none, lk [(W.heap.size, cs)]⟩ by rw [← ho]] at hn
  exact ⟨v, _, R W.heap.size, _, rfl, ⟨W.heap.size, rfl, rfl⟩, fun b' cs hb' => (by simp [lk] at hb'), hn.res1 (g4 _ _ ⟨_, _, _, heap_alloc_new W _⟩) fun e sz els hr => absurd hr (g5 e sz els)⟩
/-- maps.Clone. -/
theorem CT_clone {f : Nat} (hc : ∀ (b : Nat) (es : Array MapEntry) (clock : Nat) (w : World), w.heap[b]? = some (.map es clock) → Calls P f #[.map (some b)] w fun e w' => e = .returned (.map (some w.heap.size)) ∧ w' = w.alloc (.map es clock))
    (b : Nat) (kl vl : List AV) (bs : List Nat) (clk : Nat) : CT P f [.mapv b] (lk [(b, [.mp kl vl bs clk])]) (fun r o => ∃ m, (¬ m = b ∧ ¬ b = m) ∧ r = .mapv m ∧ o = lk [(b, [.mp kl vl bs clk]), (m, [.mp kl vl bs clk])]) := by
  intro W U vs hl hv hI
  have hvs : vs = [.map (some b)] := by
    match vs, hl with
    | [v], _ =>
      have := hv 0 v _ rfl rfl
      cases this; rfl
  subst hvs
  have hb : lk [(b, [AV.mp kl vl bs clk])] b = some [.mp kl vl bs clk] := by simp [lk]
  obtain ⟨⟨es, g1, G⟩, hnc⟩ := hI.mpR hb
  refine (hc b es clk W g1).mono ?_
  rintro e W' ⟨rfl, rfl⟩
  have hlt : b < W.heap.size := (Array.getElem?_eq_some_iff.1 g1).1
  have hE := Ext.alloc W U (.map es clk) (fun _ => True)
  have hn := hI.newm (x := .map es clk) (cs := [.mp kl vl bs clk]) ⟨es, heap_alloc_new W _, G.g2, G.g3, G.g4, G.g5, G.g6, fun i e hi => ⟨fun k hk => ((G.g7 i e hi).1 k hk).keep hE.keeps, fun v hv => ((G.g7 i e hi).2.1 v hv).keep hE.keeps, (G.g7 i e hi).2.2⟩⟩ (no_own (by simp))
  have ho : upd (lk [(b, [AV.mp kl vl bs clk])]) W.heap.size (some [.mp kl vl bs clk]) = lk [(b, [.mp kl vl bs clk]), (W.heap.size, [.mp kl vl bs clk])] := by
    rw [upd_lk]; simp [pt, show ¬ W.heap.size = b by omega]
  rw [show ({ (⟨fun _ => none, lk [(b, [AV.mp kl vl bs clk])]⟩ : St) with o := upd (lk [(b, [AV.mp kl vl bs clk])]) W.heap.size (some [.mp kl vl bs clk]) } : St) = ⟨fun _ => none, lk [(b, [.mp kl vl bs clk]), (W.heap.size, [.mp kl vl bs clk])]⟩ by rw [← ho]] at hn
  refine ⟨_, _, .mapv W.heap.size, _, rfl, ⟨W.heap.size, ⟨by omega, by omega⟩, rfl, rfl⟩, fun b' cs hb' => ?_, hn.res1 (.mapv _) fun e sz els hr => (by cases hr)⟩
  rw [lk_cons] at hb' ⊢
  by_cases e : b' = b
  · subst e; simp
  · rw [if_neg e] at hb'; cases hb'
end
section
variable {P : Program} {d : Option Nat} {s : St} {K : St → Prop}
/-- A function that makes one new object, its result telling where. -/
theorem CallO_newR {f : Nat} {vs : List AV} {cs : List AV} {R : Nat → AV} (h : CT P f vs (lk []) (fun r' o' => ∃ b, r' = R b ∧ o' = lk [(b, cs)])) (hK : NewB s.o (fun b => KS (St.put ⟨s.t, ovr [(b, cs)] s.o⟩ d (R b)) K)) : CallO P f vs d s K := by
  refine ⟨lk [], _, fun b cs hb => (by simp [lk] at hb), h, ?_⟩
  rintro r' o' ⟨b, rfl, rfl⟩ hf
  exact hK b (hf b cs (by simp [lk]) rfl)
theorem CallO_clone {f b : Nat} {kl vl : List AV} {bs : List Nat} {clk : Nat} (hc : ∀ (b : Nat) (es : Array MapEntry) (clock : Nat) (w : World), w.heap[b]? = some (.map es clock) → Calls P f #[.map (some b)] w fun e w' => e = .returned (.map (some w.heap.size)) ∧ w' = w.alloc (.map es clock))
    (hb : s.o b = some [.mp kl vl bs clk]) (hK : NewB s.o (fun m => KS (St.put ⟨s.t, ovr [(b, [.mp kl vl bs clk]), (m, [.mp kl vl bs clk])] s.o⟩ d (.mapv m)) K)) : CallO P f [.mapv b] d s K := by
  refine ⟨lk [(b, [.mp kl vl bs clk])], _, lk_sub1 hb, CT_clone hc b kl vl bs clk, ?_⟩
  rintro r' o' ⟨m, ⟨h1, h2⟩, rfl, rfl⟩ hf
  exact hK m (hf m _ (lk_tl h1 (lk_hd _ _ _)) (by simp [lk, h1]))
end
end Go.Proofs.Ytobopbjedojebaa

/- The abstract machine: contracts over three objects (a struct that holds two maps). -/
namespace Go.Proofs.Ytobopbjedojebaa
set_option linter.all false
open Go.RowKit
theorem lk_sub3 {b c d : Nat} {x y z : List AV} {o : Nat → Option (List AV)} (h : o b = some x) (g : o c = some y) (k : o d = some z) : ∀ b' cs', lk [(b, x), (c, y), (d, z)] b' = some cs' → o b' = some cs' := by
  intro b' cs' h'
  rw [lk_cons] at h'
  by_cases hb : b' = b
  · subst hb; rw [if_pos rfl] at h'; rw [h, h']
  · rw [if_neg hb] at h'; exact lk_sub2 g k b' cs' h'
theorem dom3 {α : Type} {b d f : Nat} {c c' e e' g g' : α} : ∀ b' cs, lk [(b, c), (d, e), (f, g)] b' = some cs → ∃ cs', lk [(b, c'), (d, e'), (f, g')] b' = some cs' := by
  intro b' cs h
  rw [lk_cons] at h ⊢
  by_cases hb : b' = b
  · rw [if_pos hb]; exact ⟨_, rfl⟩
  · rw [if_neg hb] at h ⊢; exact dom2 b' cs h
/-- Three new blocks. -/
def NewB3 (o : Nat → Option (List AV)) (K : Nat → Nat → Nat → Prop) : Prop := ∀ b c d, o b = none → o c = none → o d = none → ((¬ b = c ∧ ¬ c = b) ∧ (¬ b = d ∧ ¬ d = b) ∧ ¬ c = d ∧ ¬ d = c) → K b c d
theorem NewB3_intro {o : Nat → Option (List AV)} {K : Nat → Nat → Nat → Prop} (h : ∀ b c d, o b = none → o c = none → o d = none → ((¬ b = c ∧ ¬ c = b) ∧ (¬ b = d ∧ ¬ d = b) ∧ ¬ c = d ∧ ¬ d = c) → K b c d) : NewB3 o K := h
section
variable {P : Program} {d : Option Nat} {s : St} {K : St → Prop}
/-- A function that makes a struct of two maps, and keeps what it was handed. -/
abbrev new3 (ds es : List AV) : AV → (Nat → Option (List AV)) → Prop := fun r' o' => ∃ c m n, (¬ c = m ∧ ¬ c = n ∧ ¬ m = n) ∧ r' = .ptr c 0 ∧ o' = lk [(c, [.mapv m, .mapv n]), (m, ds), (n, es)]
theorem CallO_new3 {f : Nat} {vs : List AV} {ds es : List AV} (h : CT P f vs (lk []) (new3 ds es))
    (hK : NewB3 s.o (fun c m n => KS (St.put ⟨s.t, ovr [(c, [.mapv m, .mapv n]), (m, ds), (n, es)] s.o⟩ d (.ptr c 0)) K)) : CallO P f vs d s K := by
  refine ⟨lk [], _, fun b cs hb => by simp [lk] at hb, h, ?_⟩
  rintro r' o' ⟨c, m, n, ⟨h1, h2, h3⟩, rfl, rfl⟩ hf
  have g1 : lk [(c, [AV.mapv m, .mapv n]), (m, ds), (n, es)] m = some ds := lk_tl (fun e => h1 e.symm) (lk_hd _ _ _)
  have g2 : lk [(c, [AV.mapv m, .mapv n]), (m, ds), (n, es)] n = some es := lk_tl (fun e => h2 e.symm) (lk_tl (fun e => h3 e.symm) (lk_hd _ _ _))
  exact hK c m n (hf c _ (lk_hd _ _ _) rfl) (hf m _ g1 rfl) (hf n _ g2 rfl) ⟨⟨h1, fun e => h1 e.symm⟩, ⟨h2, fun e => h2 e.symm⟩, h3, fun e => h3 e.symm⟩
theorem ro_new3 {s : St} {rs : List AR} {ds es : List AV} (c m n : Nat) (h : resR s rs (.ptr c 0) ∧ LeL [(c, [.mapv m, .mapv n]), (m, ds), (n, es)] s.o) (h1 : ¬ c = m ∧ ¬ c = n ∧ ¬ m = n) : RetO s rs (lk []) (new3 ds es) :=
  ⟨_, h.1, lk [(c, [.mapv m, .mapv n]), (m, ds), (n, es)], LeL_ok h.2, fun b cs hb => by simp [lk] at hb, c, m, n, h1, rfl, rfl⟩
end
end Go.Proofs.Ytobopbjedojebaa

/- ends.Check: what a chain may begin with -/
namespace Go.Proofs.Ytobopbjedojebaa
set_option linter.all false
open Go.RowKit
set_option maxRecDepth 100000
structure GenC where
  ap : List UInt8
  ac : Int
  bp : List UInt8
  bc : Int
  o : Bool
  n : Int
  deriving DecidableEq, Inhabited
abbrev GenC.cs (g : GenC) : List AV := [.str g.ap, .int .i64 g.ac, .str g.bp, .int .i64 g.bc, .bool g.o, .int .i64 g.n]
def gens (l : List GenC) : List (List AV) := l.map GenC.cs
theorem gdG (l : List GenC) (i : Nat) (h : i < l.length) : (gens l).getD i [] = (l.getD i default).cs := by
  simp [gens, List.getD, h]
def owns (l : List GenC) : List (List UInt8 × Int) := l.map fun g => (g.ap, g.ac)
theorem ones_set (k : Nat) : (List.replicate k (AV.int .i64 1) ++ [AV.int .i64 0]).set k (.int .i64 1) = List.replicate (k + 1) (.int .i64 1) := by
  rw [snoc_set _ _ _ _ (by simp), List.replicate_succ']
theorem ones_get (k : Nat) : (List.replicate k (AV.int .i64 1) ++ [AV.int .i64 0]).getD k .undef = AV.int .i64 0 := snoc_get _ _ _ _ (by simp)
theorem range_get (k : Nat) : List.range k ++ [k] = List.range (k + 1) := List.range_succ.symm
theorem p_counted (n : Int) (h1 : 1 ≤ n) (h2 : n ≤ 1099511627777) : CP Try.prog 94 [.int .i64 n] (.bool true) := by
  refine ok_ends_counted _ _ (by simp) ?_
  simp only [c_ends_counted, ↓Ed, Eu, ↓reduceIte, reduceCtorEq, Nat.reduceAdd, Nat.reduceEqDiff, Nat.reduceLT, Nat.reduceLeDiff, Int.reduceToNat, Int.reduceEq, Int.reduceLT, Int.reduceLE, w64, List.length_append, List.length_map, Nat.mul_one, beq_self_eq_true, GenC.cs, gdG, findB_range, ones_set, ones_get, Int.reduceAdd]
  repeat' ((first | refine NewB_intro0 (fun b => ?_) | (refine NewB_intro (fun b hb => ?_); simp only [ln_cons2, ln_nil, and_true] at hb) | (with_reducible apply And.intro; (focus (first | omega | (simp only [Fact, Bool.not_eq_true', Bool.not_eq_false', decide_eq_true_eq, decide_eq_false_iff_not] at *; omega)))) | ((first | refine gW_sp ?_ | refine condW_sp ?_ | refine pickW_sp ?_); (try refine Sp_n ?_); (first | refine Sp_t (by assumption) ?_ | refine Sp_f (by assumption) ?_ | refine Sp_split (fun h => ?_) (fun h => ?_)) <;> (first | have h' := Fact_lt h | have h' := Fact_nlt h | have h' := Fact_le h | have h' := Fact_nle h | skip) <;> (try (exfalso; omega))) | refine TreeW_intro (by rfl) ?_ | refine TreeW_all ?_ | refine upQ_intro ?_ | refine Two_intro ?_ ?_ | (refine leK_lit ?_; (simp [-List.getD_eq_getElem?_getD, LeL, lk, *]; done)) | (refine leK_dd ?_; (simp [-List.getD_eq_getElem?_getD, LeS, LeL, lk, *]; done)) | (simp only [Fact, Bool.not_eq_true', Bool.not_eq_false', decide_eq_true_eq, decide_eq_false_iff_not] at *; refine leK_dd ?_; (simp [-List.getD_eq_getElem?_getD, LeS, LeL, lk, *]; done)) | (show (_ : Nat) ≤ _; omega)) <;> (try simp (disch := omega) only [*, ↓Ed, Eu, ↓reduceIte, reduceCtorEq, Nat.reduceAdd, Nat.reduceEqDiff, Nat.reduceLT, Nat.reduceLeDiff, Int.reduceToNat, Int.reduceEq, Int.reduceLT, Int.reduceLE, w64, List.length_append, List.length_map, Nat.mul_one, beq_self_eq_true, GenC.cs, gdG, findB_range, ones_set, ones_get, Int.reduceAdd]))
  all_goals (try simp only [Fact, Bool.not_eq_true', Bool.not_eq_false', decide_eq_true_eq, decide_eq_false_iff_not] at *)
abbrev ownK (g : GenC) : AV := endK (g.ap, g.ac)
theorem take_own (l : List GenC) (k : Nat) (hk : k < l.length) : ((owns l).take (k + 1)).map endK = ((owns l).take k).map endK ++ [.agg [.str (l.getD k default).ap, .int .i64 (l.getD k default).ac]] := by
  have : (owns l)[k]? = some ((l.getD k default).ap, (l.getD k default).ac) := by simp [owns, List.getD, hk]
  rw [List.take_add_one, this]; simp [endK]
set_option maxHeartbeats 4000000 in
theorem p_Check (l : List GenC) (g : AV) (hg : g.alias = .sl none 6 (gens l)) (hl : l.length ≤ 6) (hq : ∀ i, i < l.length → mayP (l.getD i default).ap (l.getD i default).ac = true ∧ mayP (l.getD i default).bp (l.getD i default).bc = true ∧ 1 ≤ (l.getD i default).n ∧ (l.getD i default).n ≤ 1099511627777)
    (hs : ∀ i, (l.getD i default).ap.length ≤ 1000000 ∧ (l.getD i default).bp.length ≤ 1000000) (hd : ∀ i, i < l.length → ((l.getD i default).ap, (l.getD i default).ac) ∉ (owns l).take i) : CP Try.prog 77 [g] (.int .i64 0) := by
  refine ok_ends_Check _ _ (by simp) ?_
  have hlen : (gens l).length = l.length := by simp [gens]
  have f1 : Fact (decide (6 < (l.length : Int)) = false) := by simp only [Fact, Bool.not_eq_true', Bool.not_eq_false', decide_eq_true_eq, decide_eq_false_iff_not]; omega
  simp only [c_ends_Check, hg, hlen, ↓Ed, Eu, ↓reduceIte, reduceCtorEq, Nat.reduceAdd, Nat.reduceEqDiff, Nat.reduceLT, Nat.reduceLeDiff, Int.reduceToNat, Int.reduceEq, Int.reduceLT, Int.reduceLE, w64, List.length_append, List.length_map, Nat.mul_one, beq_self_eq_true, GenC.cs, gdG, findB_range, ones_set, ones_get, Int.reduceAdd]
  repeat' ((first | refine NewB_intro0 (fun b => ?_) | (refine NewB_intro (fun b hb => ?_); simp only [ln_cons2, ln_nil, and_true] at hb) | (with_reducible apply And.intro; (focus (first | omega | (simp only [Fact, Bool.not_eq_true', Bool.not_eq_false', decide_eq_true_eq, decide_eq_false_iff_not] at *; omega)))) | ((first | refine gW_sp ?_ | refine condW_sp ?_ | refine pickW_sp ?_); (try refine Sp_n ?_); (first | refine Sp_t (by assumption) ?_ | refine Sp_f (by assumption) ?_ | refine Sp_split (fun h => ?_) (fun h => ?_)) <;> (first | have h' := Fact_lt h | have h' := Fact_nlt h | have h' := Fact_le h | have h' := Fact_nle h | skip) <;> (try (exfalso; omega))) | refine TreeW_intro (by rfl) ?_ | refine TreeW_all ?_ | refine upQ_intro ?_ | refine Two_intro ?_ ?_ | (refine leK_lit ?_; (simp [-List.getD_eq_getElem?_getD, LeL, lk, *]; done)) | (refine leK_dd ?_; (simp [-List.getD_eq_getElem?_getD, LeS, LeL, lk, *]; done)) | (simp only [Fact, Bool.not_eq_true', Bool.not_eq_false', decide_eq_true_eq, decide_eq_false_iff_not] at *; refine leK_dd ?_; (simp [-List.getD_eq_getElem?_getD, LeS, LeL, lk, *]; done)) | (show (_ : Nat) ≤ _; omega)) <;> (try simp (disch := omega) only [*, ↓Ed, Eu, ↓reduceIte, reduceCtorEq, Nat.reduceAdd, Nat.reduceEqDiff, Nat.reduceLT, Nat.reduceLeDiff, Int.reduceToNat, Int.reduceEq, Int.reduceLT, Int.reduceLE, w64, List.length_append, List.length_map, Nat.mul_one, beq_self_eq_true, GenC.cs, gdG, findB_range, ones_set, ones_get, Int.reduceAdd]))
  refine wpx_loop (fun k : Nat => ⟨lk [(3, .mapv b), (10, .sl none 6 (gens l)), (11, .int .i64 l.length), (12, .int .i64 (k : Int))], lk [(b, [.mp (((owns l).take k).map endK) (List.replicate k (.int .i64 1)) (List.range k) k])]⟩) (fun k => k ≤ l.length) (fun k => l.length - k) 0 (by omega) (Le_lit (by simp [LeL, lk])) ?_
  intro k g1
  by_cases hk : k < l.length
  · have f5 : Fact (decide ((k : Int) < l.length) = true) := by simp only [Fact, Bool.not_eq_true', Bool.not_eq_false', decide_eq_true_eq, decide_eq_false_iff_not]; omega
    obtain ⟨q1, q2, q3, q4⟩ := hq k hk
    obtain ⟨s1, s2⟩ := hs k
    have hA := p_pMay (l.getD k default).ap (l.getD k default).ac (by omega)
    have hB := p_pMay (l.getD k default).bp (l.getD k default).bc (by omega)
    have hC := p_counted _ q3 q4
    have hf : findM [.s, .i] true (.agg [.str (l.getD k default).ap, .int .i64 (l.getD k default).ac]) (((owns l).take k).map endK) = some none := findM_no _ _ endK endK_eq _ _ (hd k hk)
    have hf2 : findM [.s, .i] true (.agg [.str (l.getD k default).ap, .int .i64 (l.getD k default).ac]) (((owns l).take k).map endK ++ [.agg [.str (l.getD k default).ap, .int .i64 (l.getD k default).ac]]) = some (some k) := by
      have := findM_snoc [.s, .i] true endK endK_eq _ _ (hd k hk)
      rwa [show ((owns l).take k).length = k by simp [owns]; omega] at this
    rw [q1] at hA
    rw [q2] at hB
    clear hq hs hd q1 q2 q3 q4
    simp (disch := omega) only [hf, hlen, findB_range, ones_set, ↓Ed, Eu, ↓reduceIte, reduceCtorEq, Nat.reduceAdd, Nat.reduceEqDiff, Nat.reduceLT, Nat.reduceLeDiff, Int.reduceToNat, Int.reduceEq, Int.reduceLT, Int.reduceLE, w64, List.length_append, List.length_map, Nat.mul_one, beq_self_eq_true, GenC.cs, gdG, findB_range, ones_set, ones_get, Int.reduceAdd]
    repeat' ((first | refine CallO_pure (hA) ?_ | refine CallO_pure (hB) ?_ | refine CallO_pure (hC) ?_ | refine NewB_intro0 (fun b => ?_) | (refine NewB_intro (fun b hb => ?_); simp only [ln_cons2, ln_nil, and_true] at hb) | (with_reducible apply And.intro; (focus (first | omega | (simp only [Fact, Bool.not_eq_true', Bool.not_eq_false', decide_eq_true_eq, decide_eq_false_iff_not] at *; omega)))) | ((first | refine gW_sp ?_ | refine condW_sp ?_ | refine pickW_sp ?_); (try refine Sp_n ?_); (first | refine Sp_t (by assumption) ?_ | refine Sp_f (by assumption) ?_ | refine Sp_split (fun h => ?_) (fun h => ?_)) <;> (first | have h' := Fact_lt h | have h' := Fact_nlt h | have h' := Fact_le h | have h' := Fact_nle h | skip) <;> (try (exfalso; omega))) | refine TreeW_intro (by rfl) ?_ | refine TreeW_all ?_ | refine upQ_intro ?_ | refine Two_intro ?_ ?_ | (refine leK_lit ?_; (simp [-List.getD_eq_getElem?_getD, LeL, lk, *]; done)) | (refine leK_dd ?_; (simp [-List.getD_eq_getElem?_getD, LeS, LeL, lk, *]; done)) | (simp only [Fact, Bool.not_eq_true', Bool.not_eq_false', decide_eq_true_eq, decide_eq_false_iff_not] at *; refine leK_dd ?_; (simp [-List.getD_eq_getElem?_getD, LeS, LeL, lk, *]; done)) | (show (_ : Nat) ≤ _; omega)) <;> (try simp (disch := omega) only [*, ↓Ed, Eu, ↓reduceIte, reduceCtorEq, Nat.reduceAdd, Nat.reduceEqDiff, Nat.reduceLT, Nat.reduceLeDiff, Int.reduceToNat, Int.reduceEq, Int.reduceLT, Int.reduceLE, w64, List.length_append, List.length_map, Nat.mul_one, beq_self_eq_true, GenC.cs, gdG, findB_range, ones_set, ones_get, Int.reduceAdd]))
    exact Round_lit (k + 1) ⟨Le_lit (by simp [LeL, lk, take_own l k hk, range_get]), by omega, by omega⟩
  have f5 : Fact (decide ((k : Int) < l.length) = false) := by simp only [Fact, Bool.not_eq_true', Bool.not_eq_false', decide_eq_true_eq, decide_eq_false_iff_not]; omega
  simp (disch := omega) only [↓Ed, Eu, ↓reduceIte, reduceCtorEq, Nat.reduceAdd, Nat.reduceEqDiff, Nat.reduceLT, Nat.reduceLeDiff, Int.reduceToNat, Int.reduceEq, Int.reduceLT, Int.reduceLE, w64, List.length_append, List.length_map, Nat.mul_one, beq_self_eq_true, GenC.cs, gdG, findB_range, ones_set, ones_get, Int.reduceAdd]
  repeat' ((first | refine NewB_intro0 (fun b => ?_) | (refine NewB_intro (fun b hb => ?_); simp only [ln_cons2, ln_nil, and_true] at hb) | (with_reducible apply And.intro; (focus (first | omega | (simp only [Fact, Bool.not_eq_true', Bool.not_eq_false', decide_eq_true_eq, decide_eq_false_iff_not] at *; omega)))) | ((first | refine gW_sp ?_ | refine condW_sp ?_ | refine pickW_sp ?_); (try refine Sp_n ?_); (first | refine Sp_t (by assumption) ?_ | refine Sp_f (by assumption) ?_ | refine Sp_split (fun h => ?_) (fun h => ?_)) <;> (first | have h' := Fact_lt h | have h' := Fact_nlt h | have h' := Fact_le h | have h' := Fact_nle h | skip) <;> (try (exfalso; omega))) | refine TreeW_intro (by rfl) ?_ | refine TreeW_all ?_ | refine upQ_intro ?_ | refine Two_intro ?_ ?_ | (refine leK_lit ?_; (simp [-List.getD_eq_getElem?_getD, LeL, lk, *]; done)) | (refine leK_dd ?_; (simp [-List.getD_eq_getElem?_getD, LeS, LeL, lk, *]; done)) | (simp only [Fact, Bool.not_eq_true', Bool.not_eq_false', decide_eq_true_eq, decide_eq_false_iff_not] at *; refine leK_dd ?_; (simp [-List.getD_eq_getElem?_getD, LeS, LeL, lk, *]; done)) | (show (_ : Nat) ≤ _; omega)) <;> (try simp (disch := omega) only [*, ↓Ed, Eu, ↓reduceIte, reduceCtorEq, Nat.reduceAdd, Nat.reduceEqDiff, Nat.reduceLT, Nat.reduceLeDiff, Int.reduceToNat, Int.reduceEq, Int.reduceLT, Int.reduceLE, w64, List.length_append, List.length_map, Nat.mul_one, beq_self_eq_true, GenC.cs, gdG, findB_range, ones_set, ones_get, Int.reduceAdd]))
end Go.Proofs.Ytobopbjedojebaa

/- life: New, mark, out, shut, Get, Stage: contracts over the table's three objects -/
namespace Go.Proofs.Ytobopbjedojebaa
set_option linter.all false
open Go.RowKit
set_option maxRecDepth 100000
theorem t_New3 : CT Try.prog 11 [] (lk []) (new3 [mpK []] [mpC []]) := by
  refine okt_life_New _ _ _ (by simp) ?_
  simp only [c_life_New, ↓Ed, Eu, ↓reduceIte, reduceCtorEq, Nat.reduceAdd, Nat.reduceEqDiff, Nat.reduceLT, Nat.reduceLeDiff, Int.reduceToNat, Int.reduceEq, Int.reduceLT, Int.reduceLE, w64, List.length_append, List.length_map, Nat.mul_one, beq_self_eq_true, PktC.cs, EvC.cs, EntC.cs, KeyC.cs, st_nil, findB_range, ones_set, ones_get, Int.reduceAdd]
  repeat' ((first | refine NewB_intro0 (fun b => ?_) | (refine NewB_intro (fun b hb => ?_); simp only [ln_cons2, ln_nil, and_true] at hb) | (with_reducible apply And.intro; (focus (first | omega | (simp only [Fact, Bool.not_eq_true', Bool.not_eq_false', decide_eq_true_eq, decide_eq_false_iff_not] at *; omega)))) | ((first | refine gW_sp ?_ | refine condW_sp ?_ | refine pickW_sp ?_); (try refine Sp_n ?_); (first | refine Sp_t (by assumption) ?_ | refine Sp_f (by assumption) ?_ | refine Sp_split (fun h => ?_) (fun h => ?_)) <;> (first | have h' := Fact_lt h | have h' := Fact_nlt h | have h' := Fact_le h | have h' := Fact_nle h | skip) <;> (try (exfalso; omega))) | refine TreeW_intro (by rfl) ?_ | refine TreeW_all ?_ | refine upQ_intro ?_ | refine Two_intro ?_ ?_ | (refine leK_lit ?_; (simp [-List.getD_eq_getElem?_getD, LeL, lk, *]; done)) | (refine leK_dd ?_; (simp [-List.getD_eq_getElem?_getD, LeS, LeL, lk, *]; done)) | (simp only [Fact, Bool.not_eq_true', Bool.not_eq_false', decide_eq_true_eq, decide_eq_false_iff_not] at *; refine leK_dd ?_; (simp [-List.getD_eq_getElem?_getD, LeS, LeL, lk, *]; done)) | (show (_ : Nat) ≤ _; omega)) <;> (try simp (disch := omega) only [*, ↓Ed, Eu, ↓reduceIte, reduceCtorEq, Nat.reduceAdd, Nat.reduceEqDiff, Nat.reduceLT, Nat.reduceLeDiff, Int.reduceToNat, Int.reduceEq, Int.reduceLT, Int.reduceLE, w64, List.length_append, List.length_map, Nat.mul_one, beq_self_eq_true, PktC.cs, EvC.cs, EntC.cs, KeyC.cs, st_nil, findB_range, ones_set, ones_get, Int.reduceAdd]))
  rename_i M N HN
  exact ro_new3 b M N (by simp [LeL, lk, hb, HN, resR, arR, tk, tv]) (by simp [hb, Bool.not_eq_true', Bool.not_eq_false', decide_eq_true_eq, decide_eq_false_iff_not]; exact HN.2)
theorem p_mark (b : Nat) (k : Int) : CP Try.prog 34 [.ptr b 0, .int .i64 k] (.ptr b (markO k)) := by
  refine ok_life_Entry_mark _ _ (by simp) ?_
  have h : (Fact (decide (k = 1) = true) ∧ markO k = 9) ∨ (Fact (decide (k = 1) = false) ∧ Fact (decide (k = 2) = true) ∧ markO k = 10) ∨ (Fact (decide (k = 1) = false) ∧ Fact (decide (k = 2) = false) ∧ Fact (decide (k = 3) = true) ∧ markO k = 11) ∨
      (Fact (decide (k = 1) = false) ∧ Fact (decide (k = 2) = false) ∧ Fact (decide (k = 3) = false) ∧ Fact (decide (k = 4) = true) ∧ markO k = 12) ∨ (Fact (decide (k = 1) = false) ∧ Fact (decide (k = 2) = false) ∧ Fact (decide (k = 3) = false) ∧ Fact (decide (k = 4) = false) ∧ markO k = 13) := by
    unfold markO
    simp only [Fact, decide_eq_true_eq, decide_eq_false_iff_not]
    by_cases h1 : k = 1
    · exact .inl ⟨h1, if_pos h1⟩
    by_cases h2 : k = 2
    · exact .inr (.inl ⟨h1, h2, by rw [if_neg h1, if_pos h2]⟩)
    by_cases h3 : k = 3
    · exact .inr (.inr (.inl ⟨h1, h2, h3, by rw [if_neg h1, if_neg h2, if_pos h3]⟩))
    by_cases h4 : k = 4
    · exact .inr (.inr (.inr (.inl ⟨h1, h2, h3, h4, by rw [if_neg h1, if_neg h2, if_neg h3, if_pos h4]⟩)))
    · exact .inr (.inr (.inr (.inr ⟨h1, h2, h3, h4, by rw [if_neg h1, if_neg h2, if_neg h3, if_neg h4]⟩)))
  rcases h with ⟨f1, h⟩ | ⟨f1, f2, h⟩ | ⟨f1, f2, f3, h⟩ | ⟨f1, f2, f3, f4, h⟩ | ⟨f1, f2, f3, f4, h⟩
  all_goals rw [h]
  all_goals clear h
  all_goals simp only [c_life_Entry_mark, ↓Ed, Eu, ↓reduceIte, reduceCtorEq, Nat.reduceAdd, Nat.reduceEqDiff, Nat.reduceLT, Nat.reduceLeDiff, Int.reduceToNat, Int.reduceEq, Int.reduceLT, Int.reduceLE, w64, List.length_append, List.length_map, Nat.mul_one, beq_self_eq_true, PktC.cs, EvC.cs, EntC.cs, KeyC.cs, st_nil, findB_range, ones_set, ones_get, Int.reduceAdd]
  all_goals repeat' ((first | refine NewB_intro0 (fun b => ?_) | (refine NewB_intro (fun b hb => ?_); simp only [ln_cons2, ln_nil, and_true] at hb) | (with_reducible apply And.intro; (focus (first | omega | (simp only [Fact, Bool.not_eq_true', Bool.not_eq_false', decide_eq_true_eq, decide_eq_false_iff_not] at *; omega)))) | ((first | refine gW_sp ?_ | refine condW_sp ?_ | refine pickW_sp ?_); (try refine Sp_n ?_); (first | refine Sp_t (by assumption) ?_ | refine Sp_f (by assumption) ?_ | refine Sp_split (fun h => ?_) (fun h => ?_)) <;> (first | have h' := Fact_lt h | have h' := Fact_nlt h | have h' := Fact_le h | have h' := Fact_nle h | skip) <;> (try (exfalso; omega))) | refine TreeW_intro (by rfl) ?_ | refine TreeW_all ?_ | refine upQ_intro ?_ | refine Two_intro ?_ ?_ | (refine leK_lit ?_; (simp [-List.getD_eq_getElem?_getD, LeL, lk, *]; done)) | (refine leK_dd ?_; (simp [-List.getD_eq_getElem?_getD, LeS, LeL, lk, *]; done)) | (simp only [Fact, Bool.not_eq_true', Bool.not_eq_false', decide_eq_true_eq, decide_eq_false_iff_not] at *; refine leK_dd ?_; (simp [-List.getD_eq_getElem?_getD, LeS, LeL, lk, *]; done)) | (show (_ : Nat) ≤ _; omega)) <;> (try simp (disch := omega) only [*, ↓Ed, Eu, ↓reduceIte, reduceCtorEq, Nat.reduceAdd, Nat.reduceEqDiff, Nat.reduceLT, Nat.reduceLeDiff, Int.reduceToNat, Int.reduceEq, Int.reduceLT, Int.reduceLE, w64, List.length_append, List.length_map, Nat.mul_one, beq_self_eq_true, PktC.cs, EvC.cs, EntC.cs, KeyC.cs, st_nil, findB_range, ones_set, ones_get, Int.reduceAdd]))
theorem p_outK (k : Int) : CP Try.prog 33 [.int .i64 k] (.bool (outK k)) := by
  refine ok_life_out _ _ (by simp) ?_
  unfold outK
  by_cases h : k = 1 ∨ k = 4 ∨ k = 5
  · rw [decide_eq_true h]
    have F : Fact (k = 1 ∨ k = 4 ∨ k = 5) := h
    clear h
    simp only [c_life_out, ↓Ed, Eu, ↓reduceIte, reduceCtorEq, Nat.reduceAdd, Nat.reduceEqDiff, Nat.reduceLT, Nat.reduceLeDiff, Int.reduceToNat, Int.reduceEq, Int.reduceLT, Int.reduceLE, w64, List.length_append, List.length_map, Nat.mul_one, beq_self_eq_true, PktC.cs, EvC.cs, EntC.cs, KeyC.cs, st_nil, findB_range, ones_set, ones_get, Int.reduceAdd]
    repeat' ((first | refine NewB_intro0 (fun b => ?_) | (refine NewB_intro (fun b hb => ?_); simp only [ln_cons2, ln_nil, and_true] at hb) | (with_reducible apply And.intro; (focus (first | omega | (simp only [Fact, Bool.not_eq_true', Bool.not_eq_false', decide_eq_true_eq, decide_eq_false_iff_not] at *; omega)))) | ((first | refine gW_sp ?_ | refine condW_sp ?_ | refine pickW_sp ?_); (try refine Sp_n ?_); (first | refine Sp_t (by assumption) ?_ | refine Sp_f (by assumption) ?_ | refine Sp_split (fun h => ?_) (fun h => ?_)) <;> (first | have h' := Fact_lt h | have h' := Fact_nlt h | have h' := Fact_le h | have h' := Fact_nle h | skip) <;> (try (exfalso; omega))) | refine TreeW_intro (by rfl) ?_ | refine TreeW_all ?_ | refine upQ_intro ?_ | refine Two_intro ?_ ?_ | (refine leK_lit ?_; (simp [-List.getD_eq_getElem?_getD, LeL, lk, *]; done)) | (refine leK_dd ?_; (simp [-List.getD_eq_getElem?_getD, LeS, LeL, lk, *]; done)) | (simp only [Fact, Bool.not_eq_true', Bool.not_eq_false', decide_eq_true_eq, decide_eq_false_iff_not] at *; refine leK_dd ?_; (simp [-List.getD_eq_getElem?_getD, LeS, LeL, lk, *]; done)) | (show (_ : Nat) ≤ _; omega)) <;> (try simp (disch := omega) only [*, ↓Ed, Eu, ↓reduceIte, reduceCtorEq, Nat.reduceAdd, Nat.reduceEqDiff, Nat.reduceLT, Nat.reduceLeDiff, Int.reduceToNat, Int.reduceEq, Int.reduceLT, Int.reduceLE, w64, List.length_append, List.length_map, Nat.mul_one, beq_self_eq_true, PktC.cs, EvC.cs, EntC.cs, KeyC.cs, st_nil, findB_range, ones_set, ones_get, Int.reduceAdd]))
    all_goals (simp only [Fact, Bool.not_eq_true', Bool.not_eq_false', decide_eq_true_eq, decide_eq_false_iff_not] at *; omega)
  · rw [decide_eq_false h]
    have F : Fact (¬ (k = 1 ∨ k = 4 ∨ k = 5)) := h
    clear h
    simp only [c_life_out, ↓Ed, Eu, ↓reduceIte, reduceCtorEq, Nat.reduceAdd, Nat.reduceEqDiff, Nat.reduceLT, Nat.reduceLeDiff, Int.reduceToNat, Int.reduceEq, Int.reduceLT, Int.reduceLE, w64, List.length_append, List.length_map, Nat.mul_one, beq_self_eq_true, PktC.cs, EvC.cs, EntC.cs, KeyC.cs, st_nil, findB_range, ones_set, ones_get, Int.reduceAdd]
    repeat' ((first | refine NewB_intro0 (fun b => ?_) | (refine NewB_intro (fun b hb => ?_); simp only [ln_cons2, ln_nil, and_true] at hb) | (with_reducible apply And.intro; (focus (first | omega | (simp only [Fact, Bool.not_eq_true', Bool.not_eq_false', decide_eq_true_eq, decide_eq_false_iff_not] at *; omega)))) | ((first | refine gW_sp ?_ | refine condW_sp ?_ | refine pickW_sp ?_); (try refine Sp_n ?_); (first | refine Sp_t (by assumption) ?_ | refine Sp_f (by assumption) ?_ | refine Sp_split (fun h => ?_) (fun h => ?_)) <;> (first | have h' := Fact_lt h | have h' := Fact_nlt h | have h' := Fact_le h | have h' := Fact_nle h | skip) <;> (try (exfalso; omega))) | refine TreeW_intro (by rfl) ?_ | refine TreeW_all ?_ | refine upQ_intro ?_ | refine Two_intro ?_ ?_ | (refine leK_lit ?_; (simp [-List.getD_eq_getElem?_getD, LeL, lk, *]; done)) | (refine leK_dd ?_; (simp [-List.getD_eq_getElem?_getD, LeS, LeL, lk, *]; done)) | (simp only [Fact, Bool.not_eq_true', Bool.not_eq_false', decide_eq_true_eq, decide_eq_false_iff_not] at *; refine leK_dd ?_; (simp [-List.getD_eq_getElem?_getD, LeS, LeL, lk, *]; done)) | (show (_ : Nat) ≤ _; omega)) <;> (try simp (disch := omega) only [*, ↓Ed, Eu, ↓reduceIte, reduceCtorEq, Nat.reduceAdd, Nat.reduceEqDiff, Nat.reduceLT, Nat.reduceLeDiff, Int.reduceToNat, Int.reduceEq, Int.reduceLT, Int.reduceLE, w64, List.length_append, List.length_map, Nat.mul_one, beq_self_eq_true, PktC.cs, EvC.cs, EntC.cs, KeyC.cs, st_nil, findB_range, ones_set, ones_get, Int.reduceAdd]))
    all_goals (simp only [Fact, Bool.not_eq_true', Bool.not_eq_false', decide_eq_true_eq, decide_eq_false_iff_not] at *; omega)
theorem en0 : (default : EntC) = ⟨⟨[], 0, [], 0, 0, [], 0, 0⟩, [], false, false, false, false, false⟩ := rfl
theorem t_Get (c m n : Nat) (hh : (¬ c = m ∧ ¬ m = c) ∧ (¬ c = n ∧ ¬ n = c) ∧ ¬ m = n ∧ ¬ n = m) (t : Tb) (k : KeyC) : CT Try.prog 16 [.ptr c 0, .agg k.cs] (lk (tabO c m n t)) (fun r o => r = .tup [.agg ((findE t.K k).getD default).cs, .bool (findE t.K k).isSome] ∧ o = lk (tabO c m n t)) := by
  refine okt_life_Table_Get _ _ _ (by simp) ?_
  cases hs : findE t.K k with
  | none =>
    have hf := lookK_none hs
    clear hs
    simp only [c_life_Table_Get, hh, ↓Ed, Eu, ↓reduceIte, reduceCtorEq, Nat.reduceAdd, Nat.reduceEqDiff, Nat.reduceLT, Nat.reduceLeDiff, Int.reduceToNat, Int.reduceEq, Int.reduceLT, Int.reduceLE, w64, List.length_append, List.length_map, Nat.mul_one, beq_self_eq_true, PktC.cs, EvC.cs, EntC.cs, KeyC.cs, st_nil, findB_range, ones_set, ones_get, Int.reduceAdd]
    repeat' ((first | refine NewB_intro0 (fun b => ?_) | (refine NewB_intro (fun b hb => ?_); simp only [ln_cons2, ln_nil, and_true] at hb) | (with_reducible apply And.intro; (focus (first | omega | (simp only [Fact, Bool.not_eq_true', Bool.not_eq_false', decide_eq_true_eq, decide_eq_false_iff_not] at *; omega)))) | ((first | refine gW_sp ?_ | refine condW_sp ?_ | refine pickW_sp ?_); (try refine Sp_n ?_); (first | refine Sp_t (by assumption) ?_ | refine Sp_f (by assumption) ?_ | refine Sp_split (fun h => ?_) (fun h => ?_)) <;> (first | have h' := Fact_lt h | have h' := Fact_nlt h | have h' := Fact_le h | have h' := Fact_nle h | skip) <;> (try (exfalso; omega))) | refine TreeW_intro (by rfl) ?_ | refine TreeW_all ?_ | refine upQ_intro ?_ | refine Two_intro ?_ ?_ | (refine leK_lit ?_; (simp [-List.getD_eq_getElem?_getD, LeL, lk, *]; done)) | (refine leK_dd ?_; (simp [-List.getD_eq_getElem?_getD, LeS, LeL, lk, *]; done)) | (simp only [Fact, Bool.not_eq_true', Bool.not_eq_false', decide_eq_true_eq, decide_eq_false_iff_not] at *; refine leK_dd ?_; (simp [-List.getD_eq_getElem?_getD, LeS, LeL, lk, *]; done)) | (show (_ : Nat) ≤ _; omega)) <;> (try simp (disch := omega) only [*, ↓Ed, Eu, ↓reduceIte, reduceCtorEq, Nat.reduceAdd, Nat.reduceEqDiff, Nat.reduceLT, Nat.reduceLeDiff, Int.reduceToNat, Int.reduceEq, Int.reduceLT, Int.reduceLE, w64, List.length_append, List.length_map, Nat.mul_one, beq_self_eq_true, PktC.cs, EvC.cs, EntC.cs, KeyC.cs, st_nil, findB_range, ones_set, ones_get, Int.reduceAdd]))
    rename_i B1 H1 B2 H2
    exact ro_mk (by simp [LeL, lk, hh, hb, H1, H2, r_two, rl_cons, rl_nil, arR, view, l_all, al_agg, al_bool, en0]) dom3
  | some x =>
    obtain ⟨i, hi, hf, hg, _⟩ := lookK_some hs
    clear hs
    simp only [c_life_Table_Get, hh, ↓Ed, Eu, ↓reduceIte, reduceCtorEq, Nat.reduceAdd, Nat.reduceEqDiff, Nat.reduceLT, Nat.reduceLeDiff, Int.reduceToNat, Int.reduceEq, Int.reduceLT, Int.reduceLE, w64, List.length_append, List.length_map, Nat.mul_one, beq_self_eq_true, PktC.cs, EvC.cs, EntC.cs, KeyC.cs, st_nil, findB_range, ones_set, ones_get, Int.reduceAdd]
    repeat' ((first | refine NewB_intro0 (fun b => ?_) | (refine NewB_intro (fun b hb => ?_); simp only [ln_cons2, ln_nil, and_true] at hb) | (with_reducible apply And.intro; (focus (first | omega | (simp only [Fact, Bool.not_eq_true', Bool.not_eq_false', decide_eq_true_eq, decide_eq_false_iff_not] at *; omega)))) | ((first | refine gW_sp ?_ | refine condW_sp ?_ | refine pickW_sp ?_); (try refine Sp_n ?_); (first | refine Sp_t (by assumption) ?_ | refine Sp_f (by assumption) ?_ | refine Sp_split (fun h => ?_) (fun h => ?_)) <;> (first | have h' := Fact_lt h | have h' := Fact_nlt h | have h' := Fact_le h | have h' := Fact_nle h | skip) <;> (try (exfalso; omega))) | refine TreeW_intro (by rfl) ?_ | refine TreeW_all ?_ | refine upQ_intro ?_ | refine Two_intro ?_ ?_ | (refine leK_lit ?_; (simp [-List.getD_eq_getElem?_getD, LeL, lk, *]; done)) | (refine leK_dd ?_; (simp [-List.getD_eq_getElem?_getD, LeS, LeL, lk, *]; done)) | (simp only [Fact, Bool.not_eq_true', Bool.not_eq_false', decide_eq_true_eq, decide_eq_false_iff_not] at *; refine leK_dd ?_; (simp [-List.getD_eq_getElem?_getD, LeS, LeL, lk, *]; done)) | (show (_ : Nat) ≤ _; omega)) <;> (try simp (disch := omega) only [*, ↓Ed, Eu, ↓reduceIte, reduceCtorEq, Nat.reduceAdd, Nat.reduceEqDiff, Nat.reduceLT, Nat.reduceLeDiff, Int.reduceToNat, Int.reduceEq, Int.reduceLT, Int.reduceLE, w64, List.length_append, List.length_map, Nat.mul_one, beq_self_eq_true, PktC.cs, EvC.cs, EntC.cs, KeyC.cs, st_nil, findB_range, ones_set, ones_get, Int.reduceAdd]))
    rename_i B1 H1 B2 H2
    exact ro_mk (by simp [LeL, lk, hh, hb, H1, H2, r_two, rl_cons, rl_nil, arR, view, l_all, al_agg, al_bool]) dom3
def stageE (o : Option EntC) (out : Bool) : Int := match o with
  | none => 0
  | some x => if out && x.t then 3 else if out && x.c then 2 else if out then 1 else if x.w then 5 else 4
theorem t_Stage (c m n : Nat) (hh : (¬ c = m ∧ ¬ m = c) ∧ (¬ c = n ∧ ¬ n = c) ∧ ¬ m = n ∧ ¬ n = m) (t : Tb) (k : KeyC) : CT Try.prog 14 [.ptr c 0, .agg k.cs] (lk (tabO c m n t)) (fun r o => r = .int .i64 (stageE (findE t.K k) k.o) ∧ o = lk (tabO c m n t)) := by
  refine okt_life_Table_Stage _ _ _ (by simp) ?_
  cases hs : findE t.K k with
  | none =>
    have hf := lookK_none hs
    clear hs
    simp only [c_life_Table_Stage, hh, stageE, ↓Ed, Eu, ↓reduceIte, reduceCtorEq, Nat.reduceAdd, Nat.reduceEqDiff, Nat.reduceLT, Nat.reduceLeDiff, Int.reduceToNat, Int.reduceEq, Int.reduceLT, Int.reduceLE, w64, List.length_append, List.length_map, Nat.mul_one, beq_self_eq_true, PktC.cs, EvC.cs, EntC.cs, KeyC.cs, st_nil, findB_range, ones_set, ones_get, Int.reduceAdd]
    repeat' ((first | refine NewB_intro0 (fun b => ?_) | (refine NewB_intro (fun b hb => ?_); simp only [ln_cons2, ln_nil, and_true] at hb) | (with_reducible apply And.intro; (focus (first | omega | (simp only [Fact, Bool.not_eq_true', Bool.not_eq_false', decide_eq_true_eq, decide_eq_false_iff_not] at *; omega)))) | ((first | refine gW_sp ?_ | refine condW_sp ?_ | refine pickW_sp ?_); (try refine Sp_n ?_); (first | refine Sp_t (by assumption) ?_ | refine Sp_f (by assumption) ?_ | refine Sp_split (fun h => ?_) (fun h => ?_)) <;> (first | have h' := Fact_lt h | have h' := Fact_nlt h | have h' := Fact_le h | have h' := Fact_nle h | skip) <;> (try (exfalso; omega))) | refine TreeW_intro (by rfl) ?_ | refine TreeW_all ?_ | refine upQ_intro ?_ | refine Two_intro ?_ ?_ | (refine leK_lit ?_; (simp [-List.getD_eq_getElem?_getD, LeL, lk, *]; done)) | (refine leK_dd ?_; (simp [-List.getD_eq_getElem?_getD, LeS, LeL, lk, *]; done)) | (simp only [Fact, Bool.not_eq_true', Bool.not_eq_false', decide_eq_true_eq, decide_eq_false_iff_not] at *; refine leK_dd ?_; (simp [-List.getD_eq_getElem?_getD, LeS, LeL, lk, *]; done)) | (show (_ : Nat) ≤ _; omega)) <;> (try simp (disch := omega) only [*, ↓Ed, Eu, ↓reduceIte, reduceCtorEq, Nat.reduceAdd, Nat.reduceEqDiff, Nat.reduceLT, Nat.reduceLeDiff, Int.reduceToNat, Int.reduceEq, Int.reduceLT, Int.reduceLE, w64, List.length_append, List.length_map, Nat.mul_one, beq_self_eq_true, PktC.cs, EvC.cs, EntC.cs, KeyC.cs, st_nil, findB_range, ones_set, ones_get, Int.reduceAdd]))
    all_goals exact ro_mk (by simp [LeL, lk, hh, hb, resR, arR]) dom3
  | some x =>
    obtain ⟨i, hi, hf, hg, _⟩ := lookK_some hs
    clear hs
    obtain ⟨p, a, xs, xr, xw, xc, xt⟩ := x
    obtain ⟨ke, kec, ko, kq⟩ := k
    cases ko <;> cases xt <;> cases xc <;> cases xw
    all_goals simp only [c_life_Table_Stage, hh, stageE, ↓Ed, Eu, ↓reduceIte, reduceCtorEq, Nat.reduceAdd, Nat.reduceEqDiff, Nat.reduceLT, Nat.reduceLeDiff, Int.reduceToNat, Int.reduceEq, Int.reduceLT, Int.reduceLE, w64, List.length_append, List.length_map, Nat.mul_one, beq_self_eq_true, PktC.cs, EvC.cs, EntC.cs, KeyC.cs, st_nil, findB_range, ones_set, ones_get, Int.reduceAdd]
    all_goals repeat' ((first | refine NewB_intro0 (fun b => ?_) | (refine NewB_intro (fun b hb => ?_); simp only [ln_cons2, ln_nil, and_true] at hb) | (with_reducible apply And.intro; (focus (first | omega | (simp only [Fact, Bool.not_eq_true', Bool.not_eq_false', decide_eq_true_eq, decide_eq_false_iff_not] at *; omega)))) | ((first | refine gW_sp ?_ | refine condW_sp ?_ | refine pickW_sp ?_); (try refine Sp_n ?_); (first | refine Sp_t (by assumption) ?_ | refine Sp_f (by assumption) ?_ | refine Sp_split (fun h => ?_) (fun h => ?_)) <;> (first | have h' := Fact_lt h | have h' := Fact_nlt h | have h' := Fact_le h | have h' := Fact_nle h | skip) <;> (try (exfalso; omega))) | refine TreeW_intro (by rfl) ?_ | refine TreeW_all ?_ | refine upQ_intro ?_ | refine Two_intro ?_ ?_ | (refine leK_lit ?_; (simp [-List.getD_eq_getElem?_getD, LeL, lk, *]; done)) | (refine leK_dd ?_; (simp [-List.getD_eq_getElem?_getD, LeS, LeL, lk, *]; done)) | (simp only [Fact, Bool.not_eq_true', Bool.not_eq_false', decide_eq_true_eq, decide_eq_false_iff_not] at *; refine leK_dd ?_; (simp [-List.getD_eq_getElem?_getD, LeS, LeL, lk, *]; done)) | (show (_ : Nat) ≤ _; omega)) <;> (try simp (disch := omega) only [*, ↓Ed, Eu, ↓reduceIte, reduceCtorEq, Nat.reduceAdd, Nat.reduceEqDiff, Nat.reduceLT, Nat.reduceLeDiff, Int.reduceToNat, Int.reduceEq, Int.reduceLT, Int.reduceLE, w64, List.length_append, List.length_map, Nat.mul_one, beq_self_eq_true, PktC.cs, EvC.cs, EntC.cs, KeyC.cs, st_nil, findB_range, ones_set, ones_get, Int.reduceAdd]))
    all_goals exact ro_mk (by simp [LeL, lk, hh, resR, arR]) dom3
set_option maxHeartbeats 4000000 in
theorem t_shut (c m n : Nat) (hh : (¬ c = m ∧ ¬ m = c) ∧ (¬ c = n ∧ ¬ n = c) ∧ ¬ m = n ∧ ¬ n = m) (t : Tb) (e : List UInt8) (ec : Int) : CT Try.prog 32 [.ptr c 0, .agg [.str e, .int .i64 ec]] (lk (tabO c m n t))
    (fun r o => r = .int .i64 (if ((e, ec) : EndP) ∈ t.C then 8 else 0) ∧ o = lk (tabO c m n (if ((e, ec) : EndP) ∈ t.C then t else ⟨t.K, t.C ++ [(e, ec)]⟩))) := by
  refine okt_life_Table_shut _ _ _ (by simp) ?_
  by_cases hs : ((e, ec) : EndP) ∈ t.C
  · obtain ⟨i, hi, hf, hg⟩ := lookC_in hs
    rw [if_pos hs, if_pos hs]
    simp only [endK] at hf
    clear hs
    simp only [c_life_Table_shut, hh, ↓Ed, Eu, ↓reduceIte, reduceCtorEq, Nat.reduceAdd, Nat.reduceEqDiff, Nat.reduceLT, Nat.reduceLeDiff, Int.reduceToNat, Int.reduceEq, Int.reduceLT, Int.reduceLE, w64, List.length_append, List.length_map, Nat.mul_one, beq_self_eq_true, PktC.cs, EvC.cs, EntC.cs, KeyC.cs, st_nil, findB_range, ones_set, ones_get, Int.reduceAdd]
    repeat' ((first | refine NewB_intro0 (fun b => ?_) | (refine NewB_intro (fun b hb => ?_); simp only [ln_cons2, ln_nil, and_true] at hb) | (with_reducible apply And.intro; (focus (first | omega | (simp only [Fact, Bool.not_eq_true', Bool.not_eq_false', decide_eq_true_eq, decide_eq_false_iff_not] at *; omega)))) | ((first | refine gW_sp ?_ | refine condW_sp ?_ | refine pickW_sp ?_); (try refine Sp_n ?_); (first | refine Sp_t (by assumption) ?_ | refine Sp_f (by assumption) ?_ | refine Sp_split (fun h => ?_) (fun h => ?_)) <;> (first | have h' := Fact_lt h | have h' := Fact_nlt h | have h' := Fact_le h | have h' := Fact_nle h | skip) <;> (try (exfalso; omega))) | refine TreeW_intro (by rfl) ?_ | refine TreeW_all ?_ | refine upQ_intro ?_ | refine Two_intro ?_ ?_ | (refine leK_lit ?_; (simp [-List.getD_eq_getElem?_getD, LeL, lk, *]; done)) | (refine leK_dd ?_; (simp [-List.getD_eq_getElem?_getD, LeS, LeL, lk, *]; done)) | (simp only [Fact, Bool.not_eq_true', Bool.not_eq_false', decide_eq_true_eq, decide_eq_false_iff_not] at *; refine leK_dd ?_; (simp [-List.getD_eq_getElem?_getD, LeS, LeL, lk, *]; done)) | (show (_ : Nat) ≤ _; omega)) <;> (try simp (disch := omega) only [*, ↓Ed, Eu, ↓reduceIte, reduceCtorEq, Nat.reduceAdd, Nat.reduceEqDiff, Nat.reduceLT, Nat.reduceLeDiff, Int.reduceToNat, Int.reduceEq, Int.reduceLT, Int.reduceLE, w64, List.length_append, List.length_map, Nat.mul_one, beq_self_eq_true, PktC.cs, EvC.cs, EntC.cs, KeyC.cs, st_nil, findB_range, ones_set, ones_get, Int.reduceAdd]))
    all_goals exact ro_mk (by simp [LeL, lk, hh, resR, arR]) dom3
  · have hf := lookC_no hs
    have hf2 := findM_snoc [.s, .i] true endK endK_eq ((e, ec) : EndP) t.C hs
    rw [if_neg hs, if_neg hs]
    simp only [endK] at hf hf2
    clear hs
    simp only [c_life_Table_shut, hh, ↓Ed, Eu, ↓reduceIte, reduceCtorEq, Nat.reduceAdd, Nat.reduceEqDiff, Nat.reduceLT, Nat.reduceLeDiff, Int.reduceToNat, Int.reduceEq, Int.reduceLT, Int.reduceLE, w64, List.length_append, List.length_map, Nat.mul_one, beq_self_eq_true, PktC.cs, EvC.cs, EntC.cs, KeyC.cs, st_nil, findB_range, ones_set, ones_get, Int.reduceAdd]
    repeat' ((first | refine NewB_intro0 (fun b => ?_) | (refine NewB_intro (fun b hb => ?_); simp only [ln_cons2, ln_nil, and_true] at hb) | (with_reducible apply And.intro; (focus (first | omega | (simp only [Fact, Bool.not_eq_true', Bool.not_eq_false', decide_eq_true_eq, decide_eq_false_iff_not] at *; omega)))) | ((first | refine gW_sp ?_ | refine condW_sp ?_ | refine pickW_sp ?_); (try refine Sp_n ?_); (first | refine Sp_t (by assumption) ?_ | refine Sp_f (by assumption) ?_ | refine Sp_split (fun h => ?_) (fun h => ?_)) <;> (first | have h' := Fact_lt h | have h' := Fact_nlt h | have h' := Fact_le h | have h' := Fact_nle h | skip) <;> (try (exfalso; omega))) | refine TreeW_intro (by rfl) ?_ | refine TreeW_all ?_ | refine upQ_intro ?_ | refine Two_intro ?_ ?_ | (refine leK_lit ?_; (simp [-List.getD_eq_getElem?_getD, LeL, lk, *]; done)) | (refine leK_dd ?_; (simp [-List.getD_eq_getElem?_getD, LeS, LeL, lk, *]; done)) | (simp only [Fact, Bool.not_eq_true', Bool.not_eq_false', decide_eq_true_eq, decide_eq_false_iff_not] at *; refine leK_dd ?_; (simp [-List.getD_eq_getElem?_getD, LeS, LeL, lk, *]; done)) | (show (_ : Nat) ≤ _; omega)) <;> (try simp (disch := omega) only [*, ↓Ed, Eu, ↓reduceIte, reduceCtorEq, Nat.reduceAdd, Nat.reduceEqDiff, Nat.reduceLT, Nat.reduceLeDiff, Int.reduceToNat, Int.reduceEq, Int.reduceLT, Int.reduceLE, w64, List.length_append, List.length_map, Nat.mul_one, beq_self_eq_true, PktC.cs, EvC.cs, EntC.cs, KeyC.cs, st_nil, findB_range, ones_set, ones_get, Int.reduceAdd]))
    all_goals exact ro_mk (by simp [LeL, lk, hh, resR, arR, range_get, endK]) dom3
end Go.Proofs.Ytobopbjedojebaa
