import Derived.Test.YtbjmcmgekcmbpaaDoorK2
import Derived.Test.YtbjmcmgekcmbpaaDoorK1
import Derived.Laws.StructEq
import Derived.Deep.AppendSrc
/- The abstract machine, part 9b: calls that are handed objects. -/
namespace Go.Proofs.YtbjmcmgekcmbpaaDoor
set_option linter.all false
open Go.RowKit

section
variable {P : Program} {N : Nat} {W0 : World} {U0 : Nat → Nat → Prop} {M : Nat → Prop} {a : Act} {W : World} {U : Nat → Nat → Prop} {s : St} {o : Oper} {r : AV}

theorem OwnRow.toB {B B' : Nat → Prop} {v : Value} {e sz n : Nat} (h : OwnRow W U B v e sz n) (hb : ∀ g, v.ownBlock = some g → B' g) : OwnRow W U B' v e sz n := by
  rcases h with h | ⟨g, cap, cur, rfl, _, h⟩
  · exact .inl h
  · exact .inr ⟨g, cap, cur, rfl, hb g rfl, h⟩
theorem OwnRow.inB {B : Nat → Prop} {v : Value} {e sz n g : Nat} (h : OwnRow W U B v e sz n) (hg : v.ownBlock = some g) : B g := by
  rcases h with ⟨rfl, _⟩ | ⟨g', cap, cur, rfl, hB, h⟩
  · simp [Value.ownBlock] at hg
  · simp [Value.ownBlock] at hg; subst hg; exact hB
theorem OwnRow.move {W' : World} {U' : Nat → Nat → Prop} {B : Nat → Prop} {v : Value} {e sz n : Nat} (h : OwnRow W U B v e sz n) (hb : ∀ g, v.ownBlock = some g → g < W.heap.size → W'.heap[g]? = W.heap[g]? ∧ ∀ o, U' g o ↔ U g o) : OwnRow W' U' B v e sz n := by
  rcases h with h | ⟨g, cap, cur, rfl, hB, hh, h1, h2, h3, h4, h5⟩
  · exact .inl h
  · obtain ⟨e1, e2⟩ := hb g rfl (Array.getElem?_eq_some_iff.1 hh).1
    exact .inr ⟨g, cap, cur, rfl, hB, e1.trans hh, h1, h2, h3, fun o ho hu => h4 o ho ((e2 o).1 hu), fun o ho => (e2 o).2 (h5 o ho)⟩
theorem Inv.own (h : Inv N W0 U0 M a W U s) {ℓ : Loc} {e sz : Nat} {els : List (List AV)} (hl : s.at ℓ = some (.sl (some e) sz els)) : OwnRow W U (fun g => W0.heap.size ≤ g ∨ M g) (cat a W ℓ) e sz els.length := h.ow ℓ _ hl

theorem at_only {o1 : Nat → Option (List AV)} {ℓ : Loc} {v : AV} (h : St.at ⟨fun _ => none, o1⟩ ℓ = some v) : ∃ b j, ℓ = .o b j := by
  cases ℓ with
  | t i => simp [St.at] at h
  | o b j => exact ⟨b, j, rfl⟩
theorem at_sub {o1 : Nat → Option (List AV)} (ho : ∀ b cs, o1 b = some cs → s.o b = some cs) {ℓ : Loc} {v : AV} (h : St.at ⟨fun _ => none, o1⟩ ℓ = some v) : s.at ℓ = some v := by
  obtain ⟨b, j, rfl⟩ := at_only h
  simp only [St.at, Option.bind_eq_some_iff] at h ⊢
  obtain ⟨cs, h1, h2⟩ := h
  exact ⟨cs, ho b cs h1, h2⟩

/-- Objects are handed over. -/
theorem Inv.hand (h : Inv N W0 U0 M a W U s) {o1 : Nat → Option (List AV)} (ho : ∀ b cs, o1 b = some cs → s.o b = some cs) : Inv 0 W U (ownedBy W o1) { tmps := #[], defers := [] } W U ⟨fun _ => none, o1⟩ where
  sz := rfl
  df := rfl
  fr := ⟨rfl, rfl, rfl, Nat.le_refl _, fun _ _ _ => rfl, fun _ _ _ _ => Iff.rfl, Keeps.refl _ _, h.fr.glob, fun x hx hm => by
    have hu := (h.fr.glob x hx).2
    rcases hm with ⟨cs, hcs⟩ | ⟨b, j, e, sz, els, h1, h2⟩
    · obtain ⟨vs, ty, _, _, _, h4, _⟩ := h.ob _ cs (ho _ cs hcs)
      exact hu 0 (h4 0)
    · have hw : Own1 W U (fun g => W0.heap.size ≤ g ∨ M g) (cat a W (.o b j)) (.sl (some e) sz els) := h.ow _ _ (at_sub ho h1)
      have hc : (cat a W (.o b j)).ownBlock = some x.1 := h2
      rcases hw with ⟨e1, _⟩ | ⟨g, cap, cur, e1, _, _, _, _, _, _, e2⟩
      · rw [e1] at hc; cases hc
      · rw [e1] at hc
        have : g = x.1 := by simpa [Value.ownBlock] using hc
        subst this
        exact hu _ (e2 _ (Nat.le_refl _))⟩
  tv := fun i v hv => by cases hv
  ob := fun b cs hb => by
    obtain ⟨vs, ty, h1, h2, h3, h4, _⟩ := h.ob b cs (ho b cs hb)
    exact ⟨vs, ty, h1, h2, h3, h4, .inr (.inl ⟨cs, hb⟩)⟩
  ow := fun ℓ v hv => by
    obtain ⟨b, j, rfl⟩ := at_only hv
    have h1 := h.ow _ v (at_sub ho hv)
    unfold Own1 at h1 ⊢
    split
    · exact OwnRow.toB h1 fun g hg => .inr (.inr ⟨b, j, _, _, _, hv, hg⟩)
    · trivial
  ap := fun ℓ ℓ' e sz els e' sz' els' hne h1 h2 => by
    obtain ⟨b, j, rfl⟩ := at_only h1
    obtain ⟨b', j', rfl⟩ := at_only h2
    exact h.ap _ _ _ _ _ _ _ _ hne (at_sub ho h1) (at_sub ho h2)
  no := fun ℓ e sz els h1 g hg => by
    obtain ⟨b, j, rfl⟩ := at_only h1
    have h2 := h.no _ e sz els (at_sub ho h1) g hg
    cases h3 : o1 g with
    | none => exact h3
    | some cs => rw [ho g cs h3] at h2; cases h2

/-- .. and come back. -/
theorem Inv.back (h : Inv N W0 U0 M a W U s) {o1 o2 : Nat → Option (List AV)} (ho : ∀ b cs, o1 b = some cs → s.o b = some cs) {v : Value} {W' : World} {U' : Nat → Nat → Prop}
    (h' : Inv 1 W U (ownedBy W o1) { tmps := #[v], defers := [] } W' U' ⟨upd (fun _ => none) 0 (some r), o2⟩) (hdom : ∀ b cs, o1 b = some cs → ∃ cs', o2 b = some cs') {d : Option Nat} (hd : ∀ j, d = some j → j < N) :
    Inv N W0 U0 M (a.put d v) W' U' (St.put ⟨s.t, fun b => (o2 b).or (s.o b)⟩ d r) := by
  have F := h'.fr
  have hM : ∀ k, ownedBy W o1 k → (W0.heap.size ≤ k ∨ M k) ∧ k < W.heap.size := by
    rintro k (⟨cs, hk⟩ | ⟨b, j, e, sz, els, hat, hg⟩)
    · obtain ⟨vs, ty, h1, _, _, _, h5⟩ := h.ob k cs (ho k cs hk)
      exact ⟨h5, (Array.getElem?_eq_some_iff.1 h1).1⟩
    · have h1 := h.own (at_sub ho hat)
      exact ⟨h1.inB hg, h1.lt hg⟩
  -- rows and blocks that stayed with the caller
  have hrow : ∀ {ℓ : Loc} {e sz : Nat} {els : List (List AV)}, s.at ℓ = some (.sl (some e) sz els) → (∀ b j, ℓ = .o b j → o1 b = none) → ∀ g, (cat a W ℓ).ownBlock = some g → ¬ ownedBy W o1 g := by
    rintro ℓ e sz els hl hn g hg (⟨cs, hk⟩ | ⟨b, j, e', sz', els', hat, hg'⟩)
    · have := h.no ℓ e sz els hl g hg
      rw [ho g cs hk] at this; cases this
    · refine h.ap ℓ (.o b j) e sz els e' sz' els' ?_ hl (at_sub ho hat) g hg hg'
      rintro rfl
      simp only [St.at, hn b j rfl, Option.bind_none] at hat
      cases hat
  have hblk : ∀ b cs, s.o b = some cs → o1 b = none → ¬ ownedBy W o1 b := by
    rintro b cs hb hn (⟨cs', hk⟩ | ⟨b', j, e', sz', els', hat, hg'⟩)
    · rw [hn] at hk; cases hk
    · have := h.no (.o b' j) _ _ _ (at_sub ho hat) b hg'
      rw [hb] at this; cases this
  have hsame : ∀ g, g < W.heap.size → ¬ ownedBy W o1 g → W'.heap[g]? = W.heap[g]? ∧ ∀ k, U' g k ↔ U g k := fun g hg hn => ⟨F.block g hg hn, F.u g hg hn⟩
  -- a place of the merged state: an old one, or one of the callee's
  have hat : ∀ {ℓ : Loc} {x : AV}, St.at ⟨s.t, fun b => (o2 b).or (s.o b)⟩ ℓ = some x →
      (s.at ℓ = some x ∧ (∀ b j, ℓ = .o b j → o1 b = none ∧ o2 b = none)) ∨ (∃ b j, ℓ = .o b j ∧ St.at ⟨upd (fun _ => none) 0 (some r), o2⟩ ℓ = some x) := by
    intro ℓ x hx
    cases ℓ with
    | t i => exact .inl ⟨hx, fun b j e => by cases e⟩
    | o b j =>
      cases h2 : o2 b with
      | some cs =>
        refine .inr ⟨b, j, rfl, ?_⟩
        simpa only [St.at, h2, Option.or_some, Option.some_or] using hx
      | none =>
        refine .inl ⟨?_, fun b' j' e => ?_⟩
        · simpa only [St.at, h2, Option.none_or] using hx
        · cases e
          refine ⟨?_, h2⟩
          cases h1 : o1 b with
          | none => rfl
          | some cs => obtain ⟨cs', h3⟩ := hdom b cs h1; rw [h2] at h3; cases h3
  have hcat : ∀ {ℓ : Loc} {x : AV}, s.at ℓ = some x → (∀ b j, ℓ = .o b j → o1 b = none ∧ o2 b = none) → cat a W' ℓ = cat a W ℓ := by
    intro ℓ x hx hn
    cases ℓ with
    | t i => rfl
    | o b j =>
      simp only [St.at, Option.bind_eq_some_iff] at hx
      obtain ⟨cs, h1, _⟩ := hx
      simp only [cat, (hsame b (h.ob_lt b cs h1) (hblk b cs h1 (hn b j rfl).1)).1]
  have hcat' : ∀ {b j : Nat}, cat { tmps := #[v], defers := [] } W' (.o b j) = cat a W' (.o b j) := rfl
  have hB : ∀ g, (W.heap.size ≤ g ∨ ownedBy W o1 g) → (W0.heap.size ≤ g ∨ M g) := fun g hg => hg.elim (fun hg => .inl (Nat.le_trans h.fr.size hg)) fun hg => (hM g hg).1
  have hbase : Inv N W0 U0 M a W' U' ⟨s.t, fun b => (o2 b).or (s.o b)⟩ := by
    refine ⟨h.sz, h.df, ?_, fun i x hx => (h.tv i x hx).keep F.keeps, ?_, ?_, ?_, ?_⟩
    · exact {
        os := F.os.trans h.fr.os
        tape := F.tape.trans h.fr.tape
        output := F.output.trans h.fr.output
        size := Nat.le_trans h.fr.size F.size
        block := fun k hk hm => by
          have hn : ¬ ownedBy W o1 k := fun hk' => (hM k hk').1.elim (by omega) hm
          exact (F.block k (Nat.lt_of_lt_of_le hk h.fr.size) hn).trans (h.fr.block k hk hm)
        u := fun k hk hm x => by
          have hn : ¬ ownedBy W o1 k := fun hk' => (hM k hk').1.elim (by omega) hm
          exact (F.u k (Nat.lt_of_lt_of_le hk h.fr.size) hn x).trans (h.fr.u k hk hm x)
        keeps := h.fr.keeps.trans F.keeps
        g0 := h.fr.g0
        gm := h.fr.gm }
    · intro b cs hb
      cases h2 : o2 b with
      | some cs2 =>
        simp only [h2, Option.some_or, Option.some.injEq] at hb
        subst hb
        obtain ⟨vs, ty, q1, q2, q3, q4, q5⟩ := h'.ob b cs2 h2
        exact ⟨vs, ty, q1, q2, q3, q4, hB b q5⟩
      | none =>
        simp only [h2, Option.none_or] at hb
        have hn : o1 b = none := by
          cases h1 : o1 b with
          | none => rfl
          | some cs1 => obtain ⟨cs', h3⟩ := hdom b cs1 h1; rw [h2] at h3; cases h3
        obtain ⟨e1, e2⟩ := hsame b (h.ob_lt b cs hb) (hblk b cs hb hn)
        obtain ⟨vs, ty, q1, q2, q3, q4, q5⟩ := h.ob b cs hb
        exact ⟨vs, ty, e1.trans q1, q2, fun j c hc => ⟨(q3 j c hc).1.keep F.keeps, (q3 j c hc).2⟩, fun x => (e2 x).2 (q4 x), q5⟩
    · intro ℓ x hx
      rcases hat hx with ⟨g1, g2⟩ | ⟨b, j, rfl, g1⟩
      · unfold Own1
        split
        · rw [hcat g1 g2]
          exact (h.own g1).move fun g hg hlt => hsame g hlt (hrow g1 (fun b j e => (g2 b j e).1) g hg)
        · trivial
      · have h3 := h'.ow (.o b j) x g1
        unfold Own1 at h3 ⊢
        split
        · exact OwnRow.toB h3 fun g hg => hB g (OwnRow.inB h3 hg)
        · trivial
    · intro ℓ ℓ' e sz els e' sz' els' hne h1 h2 g hg hg'
      rcases hat h1 with ⟨g1, g2⟩ | ⟨b, j, rfl, g1⟩ <;> rcases hat h2 with ⟨g3, g4⟩ | ⟨b', j', rfl, g3⟩
      · rw [hcat g1 g2] at hg
        rw [hcat g3 g4] at hg'
        exact h.ap ℓ ℓ' _ _ _ _ _ _ hne g1 g3 g hg hg'
      · rw [hcat g1 g2] at hg
        have q := (h'.own g3).inB (g := g) hg'
        exact q.elim (fun q => by have := (h.own g1).lt hg; omega) (hrow g1 (fun b j e => (g2 b j e).1) g hg)
      · rw [hcat g3 g4] at hg'
        have q := (h'.own g1).inB (g := g) hg
        exact q.elim (fun q => by have := (h.own g3).lt hg'; omega) (hrow g3 (fun b j e => (g4 b j e).1) g hg')
      · exact h'.ap _ _ _ _ _ _ _ _ hne g1 g3 g hg hg'
    · intro ℓ e sz els h1 g hg
      show (o2 g).or (s.o g) = none
      rcases hat h1 with ⟨g1, g2⟩ | ⟨b, j, rfl, g1⟩
      · rw [hcat g1 g2] at hg
        rw [h.no ℓ e sz els g1 g hg]
        cases h2 : o2 g with
        | none => rfl
        | some cs =>
          obtain ⟨_, _, _, _, _, _, q5⟩ := h'.ob g cs h2
          exact (q5.elim (fun q => by have := (h.own g1).lt hg; omega) (hrow g1 (fun b j e => (g2 b j e).1) g hg)).elim
      · have h2 : o2 g = none := h'.no (.o b j) e sz els g1 g hg
        rw [h2]
        cases h3 : s.o g with
        | none => rfl
        | some cs =>
          have q := (h'.own g1).inB (g := g) hg
          exfalso
          rcases q with q | q
          · have := h.ob_lt g cs h3; omega
          have hn : o1 g = none := by
            cases h4 : o1 g with
            | none => rfl
            | some cs1 => obtain ⟨cs', h5⟩ := hdom g cs1 h4; rw [h2] at h5; cases h5
          exact hblk g cs h3 hn q
  refine hbase.putO hd (h'.tv 0 r (by simp [upd])) fun i hi => ?_
  intro e sz els hr
  subst hr
  have hr0 : St.at ⟨upd (fun _ => none) 0 (some (.sl (some e) sz els)), o2⟩ (.t 0) = some (.sl (some e) sz els) := by simp [St.at, upd]
  have h1 := h'.own hr0
  have h1' : OwnRow W' U' (fun g => W.heap.size ≤ g ∨ ownedBy W o1 g) v e sz els.length := h1
  refine ⟨OwnRow.toB h1' fun g hg => hB g (h1'.inB hg), fun g hg => ⟨?_, fun ℓ hl ⟨e2, sz2, els2, hl2⟩ hg2 => ?_⟩⟩
  · show (o2 g).or (s.o g) = none
    have h2 : o2 g = none := h'.no (.t 0) _ _ _ hr0 g hg
    rw [h2]
    cases h3 : s.o g with
    | none => rfl
    | some cs =>
      exfalso
      rcases h1'.inB hg with q | q
      · have := h.ob_lt g cs h3; omega
      have hn : o1 g = none := by
        cases h4 : o1 g with
        | none => rfl
        | some cs1 => obtain ⟨cs', h5⟩ := hdom g cs1 h4; rw [h2] at h5; cases h5
      exact hblk g cs h3 hn q
  · rcases hat hl2 with ⟨g1, g2⟩ | ⟨b, j, rfl, g1⟩
    · rw [hcat g1 g2] at hg2
      exact (h1'.inB hg).elim (fun q => by have := (h.own g1).lt hg2; omega) (hrow g1 (fun b j e => (g2 b j e).1) g hg2)
    · exact h'.ap (.t 0) (.o b j) _ _ _ _ _ _ (by simp) hr0 g1 g hg hg2

/-- A pure function is one that is handed nothing. -/
theorem CT_of_CP {f : Nat} {as : List AV} (h : CP P f as r) : CT P f as (fun _ => none) (fun r' o' => r' = r ∧ o' = fun _ => none) := by
  intro W U vs hl hv hI
  refine (h W U vs hI.fr.g0 hl hv).mono ?_
  rintro e W' ⟨v, U', rfl, hvr, hown, hE⟩
  refine ⟨v, U', r, fun _ => none, rfl, ⟨rfl, rfl⟩, fun b cs hb => (by cases hb), ?_⟩
  have hat : ∀ {ℓ : Loc} {x : AV}, St.at ⟨upd (fun _ => none) 0 (some r), fun _ => none⟩ ℓ = some x → ℓ = .t 0 ∧ x = r := by
    intro ℓ x hx
    cases ℓ with
    | t i =>
      simp only [St.at, upd] at hx
      by_cases hi : i = 0
      · subst hi; simp at hx; exact ⟨rfl, hx.symm⟩
      · simp [hi] at hx
    | o b j => simp [St.at] at hx
  refine ⟨rfl, rfl, ⟨hE.b.os, hE.b.tape, hE.b.output, hE.b.size, fun k hk _ => hE.b.block k hk, fun k hk _ => hE.u k hk, hE.keeps, hI.fr.g0, hI.fr.gm⟩, fun i x hx => ?_, fun b cs hb => (by cases hb), fun ℓ x hx => ?_, fun ℓ ℓ' e sz els e' sz' els' hne h1 h2 => ?_, fun ℓ e sz els h1 g hg => rfl⟩
  · obtain ⟨h1, rfl⟩ := hat (ℓ := .t i) hx
    cases h1
    exact hvr
  · obtain ⟨rfl, rfl⟩ := hat hx
    unfold Own1 at hown ⊢
    split
    · exact OwnRow.toB hown fun g hg => .inl (OwnRow.inB hown hg)
    · trivial
  · obtain ⟨rfl, _⟩ := hat h1
    obtain ⟨rfl, _⟩ := hat h2
    exact absurd rfl hne

theorem s_callo (h : Inv N W0 U0 M a W U s) {f : Nat} {fn : Func} {args : Array Operand} {argTypes : Array TypeId} {ps : List Opd} {d : Option Nat} (ho : o.op = .call { callee := .value (.func f), args, argTypes }) (hod : o.dst = d) (hd : ∀ j, d = some j → j < N)
    (hf : P.funcs[f]? = some fn) (hb : fn.body.isSome = true) (hnm : (fn.name == "runtime.NumGoroutine") = false) (hp : cArgs P argTypes.toList args.toList = some ps) {K : St → Prop} (hK : kW P d (.callo f ps) s K) {next : Act → World → Prop} {Q : Exit → Act → World → Prop}
    (hn : ∀ a' W' U' s', Inv N W0 U0 M a' W' U' s' → K s' → next a' W') : o.wp P a W next Q := by
  obtain ⟨vs, hvs, o1, Q1, hsub, hCT, hcont⟩ := hK
  obtain ⟨e1, e2⟩ := cArgs_spec hp
  obtain ⟨g1, g2⟩ := evs_len hvs
  have hC := hCT W U (args.toList.map a.eval) (by simp only [List.length_map]; omega) (fun i v c hv hc => by
    simp only [List.getElem?_map, Option.map_eq_some_iff] at hv hc
    obtain ⟨x, hx, rfl⟩ := hv
    obtain ⟨y, hy, rfl⟩ := hc
    obtain ⟨p, t, q1, q2⟩ := e2 i x hx
    obtain ⟨y', q3, q4⟩ := g2 i p q1
    rw [hy] at q3
    cases q3
    exact (cOpdT_sound h q2 q4).alias) (h.hand hsub)
  have hbn : fn.body.isNone = false := by
    cases hbb : fn.body with
    | none => simp [hbb] at hb
    | some c => rfl
  have hrun : (execOp a.eval o).run P W = .ok (.enter f (args.toList.map a.eval).toArray) W := by
    have hargs : args.map a.eval = (args.toList.map a.eval).toArray := by
      apply Array.ext'
      simp
    simp only [execOp, ho, resolve, Act.eval, Deferred.ofValue, Sem.run_bind, Sem.run_pure, Result.andThen_ok, invoke, callFunc, run_program, hf, hnm, Bool.false_eq_true, if_false, hbn]
    simp [hargs]
  unfold Oper.wp
  rw [hrun, Oper.upon_enter]
  refine hC.mono ?_
  rintro e W' ⟨v, U', r', o', rfl, hq, hdom, hinv⟩
  rw [hod]
  refine hn _ _ _ _ (h.back hsub hinv hdom hd) (hcont r' o' hq fun b cs hb' hn' => ?_)
  cases hs : s.o b with
  | none => rfl
  | some cs1 =>
    exfalso
    obtain ⟨_, _, _, _, _, _, q5⟩ := hinv.ob b cs hb'
    rcases q5 with q5 | ⟨cs', q5⟩ | ⟨b', j, e', sz', els', hat, hg'⟩
    · have := h.ob_lt b cs1 hs; omega
    · rw [hn'] at q5; cases q5
    · have := h.no (.o b' j) _ _ _ (at_sub hsub hat) b hg'
      rw [hs] at this; cases this

/-- A cell's right to its row is dropped. -/
theorem Inv.strip (h : Inv N W0 U0 M a W U s) {b off : Nat} {cs : List AV} (hb : s.o b = some cs) {e sz : Nat} {els : List (List AV)} (hc : cs[off]? = some (.sl (some e) sz els)) :
    Inv N W0 U0 M a W U { s with o := upd s.o b (some (splice cs off [.sl none sz els])) } := by
  have hlt : off < cs.length := (List.getElem?_eq_some_iff.1 hc).1
  have hle : off + [AV.sl none sz els].length ≤ cs.length := by simp; omega
  have hat : ∀ {ℓ : Loc} {e' sz' : Nat} {els' : List (List AV)}, St.at { s with o := upd s.o b (some (splice cs off [.sl none sz els])) } ℓ = some (.sl (some e') sz' els') → s.at ℓ = some (.sl (some e') sz' els') := by
    intro ℓ e' sz' els' hl
    cases ℓ with
    | t i => exact hl
    | o b' j =>
      simp only [St.at, upd] at hl ⊢
      by_cases hbb : b' = b
      · subst hbb
        simp only [if_true, Option.bind_some, splice_get _ _ _ hle] at hl
        rw [hb]
        simp only [Option.bind_some]
        split at hl
        · rename_i hj
          have : j - off = 0 := by simp at hj; omega
          rw [this] at hl
          simp at hl
        · exact hl
      · rw [if_neg hbb] at hl; exact hl
  refine ⟨h.sz, h.df, h.fr, h.tv, fun b' cs' hb' => ?_, fun ℓ v hl => ?_, fun ℓ ℓ' _ _ _ _ _ _ hne h1 h2 => h.ap ℓ ℓ' _ _ _ _ _ _ hne (hat h1) (hat h2), fun ℓ _ _ _ h1 g hg => ?_⟩
  · simp only [upd] at hb'
    by_cases hbb : b' = b
    · subst hbb
      simp only [if_true, Option.some.injEq] at hb'
      subst hb'
      obtain ⟨vs, ty, q1, q2, q3, q4, q5⟩ := h.ob b' cs hb
      refine ⟨vs, ⟨ty.1, fun u hu => ty.2 u (headT_splice (vs := [_]) rfl hu)⟩, q1, by rw [splice_length _ _ _ hle]; exact q2, fun j c hj => ?_, q4, q5⟩
      rw [splice_get _ _ _ hle] at hj
      split at hj
      · rename_i hjj
        have e0 : j = off := by simp at hjj; omega
        subst e0
        simp at hj
        subst hj
        exact ⟨(q3 j _ hc).1.reown, (q3 j _ hc).2⟩
      · exact q3 j c hj
    · rw [if_neg hbb] at hb'; exact h.ob b' cs' hb'
  · unfold Own1
    split
    · exact h.own (hat hl)
    · trivial
  · have := h.no ℓ _ _ _ (hat h1) g hg
    simp only [upd]
    by_cases hgb : g = b
    · subst hgb; rw [hb] at this; cases this
    · rw [if_neg hgb]; exact this
/-- .. and granted. -/
theorem Inv.grant (h : Inv N W0 U0 M a W U s) {b off : Nat} {cs : List AV} (hb : s.o b = some cs) {e sz : Nat} {els : List (List AV)} (hc : cs[off]? = some (.sl none sz els)) (hrow : OwnRow W U (fun g => W0.heap.size ≤ g ∨ M g) (cat a W (.o b off)) e sz els.length)
    (hfree : ∀ g, (cat a W (.o b off)).ownBlock = some g → s.o g = none ∧ ∀ ℓ, (∃ e sz els, s.at ℓ = some (.sl (some e) sz els)) → (cat a W ℓ).ownBlock ≠ some g) :
    Inv N W0 U0 M a W U { s with o := upd s.o b (some (splice cs off [.sl (some e) sz els])) } := by
  have hlt : off < cs.length := (List.getElem?_eq_some_iff.1 hc).1
  have hle : off + [AV.sl (some e) sz els].length ≤ cs.length := by simp; omega
  have hat : ∀ {ℓ : Loc} {e' sz' : Nat} {els' : List (List AV)}, St.at { s with o := upd s.o b (some (splice cs off [.sl (some e) sz els])) } ℓ = some (.sl (some e') sz' els') →
      (ℓ = .o b off ∧ e' = e ∧ sz' = sz ∧ els' = els) ∨ s.at ℓ = some (.sl (some e') sz' els') := by
    intro ℓ e' sz' els' hl
    cases ℓ with
    | t i => exact .inr hl
    | o b' j =>
      simp only [St.at, upd] at hl ⊢
      by_cases hbb : b' = b
      · subst hbb
        simp only [if_true, Option.bind_some, splice_get _ _ _ hle] at hl
        split at hl
        · rename_i hj
          have e0 : j = off := by simp at hj; omega
          subst e0
          simp at hl
          obtain ⟨rfl, rfl, rfl⟩ := hl
          exact .inl ⟨rfl, rfl, rfl, rfl⟩
        · right; rw [hb]; exact hl
      · right; rw [if_neg hbb] at hl; exact hl
  refine ⟨h.sz, h.df, h.fr, h.tv, fun b' cs' hb' => ?_, fun ℓ v hl => ?_, fun ℓ ℓ' _ _ _ _ _ _ hne h1 h2 g hg hg' => ?_, fun ℓ _ _ _ h1 g hg => ?_⟩
  · simp only [upd] at hb'
    by_cases hbb : b' = b
    · subst hbb
      simp only [if_true, Option.some.injEq] at hb'
      subst hb'
      obtain ⟨vs, ty, q1, q2, q3, q4, q5⟩ := h.ob b' cs hb
      refine ⟨vs, ⟨ty.1, fun u hu => ty.2 u (headT_splice (vs := [_]) rfl hu)⟩, q1, by rw [splice_length _ _ _ hle]; exact q2, fun j c hj => ?_, q4, q5⟩
      rw [splice_get _ _ _ hle] at hj
      split at hj
      · rename_i hjj
        have e0 : j = off := by simp at hjj; omega
        subst e0
        simp at hj
        subst hj
        exact ⟨(q3 j _ hc).1.reown, (q3 j _ hc).2⟩
      · exact q3 j c hj
    · rw [if_neg hbb] at hb'; exact h.ob b' cs' hb'
  · unfold Own1
    split
    · rcases hat hl with ⟨rfl, rfl, rfl, rfl⟩ | hl
      · exact hrow
      · exact h.own hl
    · trivial
  · rcases hat h1 with ⟨rfl, rfl, rfl, rfl⟩ | k1 <;> rcases hat h2 with ⟨rfl, rfl, rfl, rfl⟩ | k2
    · exact hne rfl
    · exact (hfree g hg).2 ℓ' ⟨_, _, _, k2⟩ hg'
    · exact (hfree g hg').2 ℓ ⟨_, _, _, k1⟩ hg
    · exact h.ap ℓ ℓ' _ _ _ _ _ _ hne k1 k2 g hg hg'
  · have hog : s.o g = none := by
      rcases hat h1 with ⟨rfl, rfl, rfl, rfl⟩ | k1
      · exact (hfree g hg).1
      · exact h.no ℓ _ _ _ k1 g hg
    simp only [upd]
    by_cases hgb : g = b
    · subst hgb; rw [hb] at hog; cases hog
    · rw [if_neg hgb]; exact hog

theorem run_load_one {t : TypeId} (hn : aggN P t = some none) {b off : Nat} {v : Value} (hc : W.cell? ⟨b, off, none⟩ = some v) : (Instr.loadAt t (.pointer (some ⟨b, off, none⟩))).run P W = .ok v W := by
  obtain ⟨d, i, hu, hi, hd⟩ := aggN_cases hn
  rcases hd with ⟨hd, h0⟩ | ⟨hd, _⟩
  · cases h0
  · simp [Instr.loadAt, Instr.sureAddr, loadVar, run_isAgg hu, hd, hc]

/-- A load that takes the row's right along. -/
theorem s_ldt (h : Inv N W0 U0 M a W U s) {d : Option Nat} {t : TypeId} {x : Operand} {X : Opd} {b off : Nat} (ho : o.op = .load t x) (hod : o.dst = d) (hd : ∀ j, d = some j → j < N) (hn : aggN P t = some none) (hx : cOpd x = some X) (hp : X.ev s = some (.ptr b off))
    {cs : List AV} (hb : s.o b = some cs) {e sz : Nat} {els : List (List AV)} (hc : cs[off]? = some (.sl (some e) sz els)) {next : Act → World → Prop} {Q : Exit → Act → World → Prop}
    (hnx : ∀ a' W' U', Inv N W0 U0 M a' W' U' (ldE s d b off cs (.sl (some e) sz els)) → next a' W') : o.wp P a W next Q := by
  have hpx := cOpd_sound h hx hp
  have hadr : a.eval x = .pointer (some ⟨b, off, none⟩) := by
    generalize a.eval x = val at hpx
    cases hpx
    rfl
  obtain ⟨vs, ty, q1, q2, q3, q4, q5⟩ := h.ob b cs hb
  have hlt : off < cs.length := (List.getElem?_eq_some_iff.1 hc).1
  have hcell : W.cell? ⟨b, off, none⟩ = some (vs.getD off undef) := by
    rw [cell_of_row W b off vs ty (0, 0) q1]
    have : off < vs.size := by omega
    simp [this]
  have hrun : (execOp a.eval o).run P W = .ok (.value (vs.getD off undef)) W := by
    simp [execOp, ho, hadr, run_load_one hn hcell]
  have hcat : cat a W (.o b off) = vs.getD off undef := by simp only [cat, q1]
  have hat : s.at (.o b off) = some (.sl (some e) sz els) := by simp [St.at, hb, hc]
  have hs := h.strip hb hc
  unfold Oper.wp
  rw [hrun, Oper.upon_value, hod]
  refine hnx _ _ U (hs.putO hd (q3 off _ hc).1 fun i hi e' sz' els' he => ?_)
  cases he
  have hown := h.own hat
  rw [hcat] at hown
  refine ⟨hown, fun g hg => ⟨?_, fun ℓ _ ⟨e2, sz2, els2, hl2⟩ hg2 => ?_⟩⟩
  · have := h.no _ _ _ _ hat g (by rw [hcat]; exact hg)
    simp only [upd]
    by_cases hgb : g = b
    · subst hgb; rw [hb] at this; cases this
    · rw [if_neg hgb]; exact this
  · have hle : off + [AV.sl none sz els].length ≤ cs.length := by simp; omega
    have hne : ℓ ≠ .o b off := by
      rintro rfl
      simp only [St.at, upd, if_true, Option.bind_some, splice_get _ _ _ hle] at hl2
      rw [if_pos (by simp)] at hl2
      simp at hl2
    have hl3 : s.at ℓ = some (.sl (some e2) sz2 els2) := by
      cases ℓ with
      | t i => exact hl2
      | o b' j =>
        simp only [St.at, upd] at hl2 ⊢
        by_cases hbb : b' = b
        · subst hbb
          simp only [if_true, Option.bind_some, splice_get _ _ _ hle] at hl2
          split at hl2
          · rename_i hj
            exact absurd (by simp at hj; congr 1; omega) hne
          · rw [hb]; exact hl2
        · rw [if_neg hbb] at hl2; exact hl2
    exact h.ap (.o b off) ℓ _ _ _ _ _ _ hne.symm hat hl3 g (by rw [hcat]; exact hg) hg2

theorem splice_twice (cs : List AV) (off : Nat) (c c' : AV) (h : off < cs.length) : splice (splice cs off [c]) off [c'] = splice cs off [c'] := by
  have h1 : off + [c].length ≤ cs.length := by simp; omega
  have h2 : off + [c'].length ≤ cs.length := by simp; omega
  apply List.ext_getElem?
  intro k
  rw [splice_get _ _ _ (by rw [splice_length _ _ _ h1]; exact h2), splice_get _ _ _ h2, splice_get _ _ _ h1]
  by_cases hk : off ≤ k ∧ k < off + [c'].length
  · rw [if_pos hk, if_pos hk]
  · rw [if_neg hk, if_neg hk, if_neg (by simpa using hk)]

/-- A temporary's right to its row is dropped. -/
theorem Inv.stripT (h : Inv N W0 U0 M a W U s) {i : Nat} {e sz : Nat} {els : List (List AV)} (hr' : s.t i = some (.sl (some e) sz els)) : Inv N W0 U0 M a W U { s with t := upd s.t i (some (.sl none sz els)) } := by
  have hv := h.tv i _ hr'
  have hle : Le { s with t := upd s.t i none } s := ⟨fun j v hj => by
    by_cases hji : j = i
    · subst hji; simp [upd] at hj
    · simpa [upd, hji] using hj, fun _ _ hj => hj⟩
  have h1 := h.le hle
  have hiN : i < N := by
    rcases Nat.lt_or_ge i N with hlt | hge
    · exact hlt
    · exfalso
      have : a.tmps.getD i undef = undef := by simp [Array.getD, show ¬ i < a.tmps.size by rw [h.sz]; omega]
      rw [this] at hv
      cases hv
  have h2 := h1.put (d := i) hiN (v := a.tmps.getD i undef) (r := .sl none sz els) hv.reown (Sole.plain (by simp))
  have hput : a.put (some i) (a.tmps.getD i undef) = a := by
    unfold Act.put
    cases a with
    | mk tmps df =>
      simp only [Act.mk.injEq, and_true]
      apply Array.ext'
      apply List.ext_getElem?
      intro k
      have hi' : i < tmps.size := by have := h.sz; simp at this; omega
      simp only [Array.toList_setIfInBounds, List.getElem?_set]
      by_cases hk : i = k
      · subst hk
        simp [hi']
      · simp [hk]
  rw [hput] at h2
  have hs' : (St.put { s with t := upd s.t i none } (some i) (.sl none sz els)) = { s with t := upd s.t i (some (.sl none sz els)) } := by
    simp only [St.put]
    congr 1
    funext k
    simp only [upd]
    by_cases hk : k = i <;> simp [hk]
  rw [hs'] at h2
  exact h2

/-- A store that hands the row's right over. -/
theorem s_stt (h : Inv N W0 U0 M a W U s) {t : TypeId} {x : Operand} {X : Opd} {i b off : Nat} (ho : o.op = .store t x (.tmp i)) (hod : o.dst = none) (hsz : (P.info? t).map (·.size) = some 1) (hx : cOpd x = some X) (hp : X.ev s = some (.ptr b off))
    {cs : List AV} (hb : s.o b = some cs) (hlt : off < cs.length) {e sz : Nat} {els : List (List AV)} (hi : s.t i = some (.sl (some e) sz els)) {next : Act → World → Prop} {Q : Exit → Act → World → Prop}
    (hnx : ∀ a' W' U', Inv N W0 U0 M a' W' U' (stE s i b off cs (.sl (some e) sz els)) → next a' W') : o.wp P a W next Q := by
  have hpx := cOpd_sound h hx hp
  have hadr : a.eval x = .pointer (some ⟨b, off, none⟩) := by
    generalize a.eval x = val at hpx
    cases hpx
    rfl
  obtain ⟨vs, ty, q1, q2, q3, q4, q5⟩ := h.ob b cs hb
  have hvi := h.tv i _ hi
  have hval : a.eval (.tmp i) = a.tmps.getD i undef := rfl
  obtain ⟨v, hve⟩ : ∃ v, v = a.tmps.getD i undef := ⟨_, rfl⟩
  rw [← hve] at hvi hval
  have hcells : (a.eval (.tmp i)).cells = #[v] ∧ v.oneCell' = true := by
    rw [hval]
    cases hvi
    exact ⟨rfl, rfl⟩
  have hst := run_storeCells_at P b off ty [v] 0 vs W q1 (by simp; omega) (by intro u hu; simp at hu; subst hu; exact hcells.2)
  obtain ⟨row, hrow⟩ : ∃ row : Array Value, row = (vs.toList.take (off + 0) ++ [v] ++ vs.toList.drop (off + 0 + [v].length)).toArray := ⟨_, rfl⟩
  rw [← hrow] at hst
  have hrun : (execOp a.eval o).run P W = .ok .skip (W.setRow b row) := by
    cases hinf : P.info? t with
    | none => simp [hinf] at hsz
    | some inf =>
      have hin : inf.size = 1 := by simpa [hinf] using hsz
      have hcs : ¬ (a.eval (.tmp i)).cells.size ≠ inf.size := by rw [hcells.1, hin]; simp
      simp only [execOp, ho, Instr.storeAt, hadr, Instr.sureAddr, Sem.run_bind, Sem.run_pure, Result.andThen_ok, storeVar, sizeOf, typeInfo, run_program, hinf, Sem.run_ite, hcs, if_false]
      rw [hcells.1]
      have hst' : (storeCells ⟨b, off, none⟩ [v]).run P W = .ok () (W.setRow b row) := by simpa using hst
      simp [hst']
  have hlv : off < vs.size := by omega
  have hget : ∀ j, row.getD j undef = if j = off then v else vs.getD j undef := by
    intro j
    subst hrow
    simp only [Nat.add_zero, Array.getD_eq_getD_getElem?, List.getElem?_toArray]
    by_cases hj1 : j < off
    · rw [if_neg (by omega), List.append_assoc, List.getElem?_append_left (by simp; omega), List.getElem?_take, if_pos hj1]
      simp
    · by_cases hj2 : j = off
      · subst hj2
        rw [if_pos rfl, List.append_assoc, List.getElem?_append_right (by simp; omega)]
        simp [Nat.min_eq_left (Nat.le_of_lt hlv)]
      · rw [if_neg hj2, List.getElem?_append_right (by simp; omega), List.getElem?_drop]
        congr 1
        simp
        congr 1
        omega
  have hrs : row.size = vs.size := by subst hrow; simp; omega
  have hle : ∀ c : AV, off + [c].length ≤ cs.length := fun c => by simp; omega
  have h1 := h.stripT hi
  have hb1 : St.o { s with t := upd s.t i (some (.sl none sz els)) } b = some cs := hb
  have h2 := h1.seto (cs' := splice cs off [.sl none sz els]) (vs' := row) hb1 q1 (splice_length _ _ _ (hle _)) hrs
    (fun j c hj => by
      rw [splice_get _ _ _ (hle _)] at hj
      rw [hget]
      split at hj
      · rename_i hjj
        have e0 : j = off := by simp at hjj; omega
        subst e0
        simp at hj
        subst hj
        rw [if_pos rfl]
        exact ⟨hvi.reown, hcells.2⟩
      · rename_i hjj
        rw [if_neg (by rintro rfl; exact hjj (by simp))]
        exact q3 j c hj) (fun u hu => headT_splice (vs := [_]) rfl hu)
    (fun j e2 sz2 els2 hj => by
      rw [splice_get _ _ _ (hle _)] at hj
      rw [hget]
      split at hj
      · rename_i hjj
        have e0 : j = off := by simp at hjj; omega
        subst e0
        simp at hj
      · rename_i hjj
        rw [if_neg (by rintro rfl; exact hjj (by simp))]
        exact ⟨hj, rfl⟩)
  have hheap := setRow_heap W b vs row ty (0, 0) q1
  have hcat : cat a (W.setRow b row) (.o b off) = v := by simp only [cat, hheap]; rw [hget, if_pos rfl]
  have hown := h.own (ℓ := .t i) hi
  have hcti : cat a W (.t i) = v := hve.symm
  rw [hcti] at hown
  have hno : ∀ g, v.ownBlock = some g → s.o g = none := fun g hg => h.no (.t i) _ _ _ hi g (by rw [hcti]; exact hg)
  have hgb : ∀ g, v.ownBlock = some g → g ≠ b := fun g hg e => by have := hno g hg; rw [e, hb] at this; cases this
  have hb2 : St.o ⟨upd s.t i (some (.sl none sz els)), upd s.o b (some (splice cs off [.sl none sz els]))⟩ b = some (splice cs off [.sl none sz els]) := by simp [upd]
  have h3 := h2.grant (off := off) (e := e) (sz := sz) (els := els) hb2 (by rw [splice_get _ _ _ (hle _), if_pos (by simp)]; simp)
    (by
      rw [hcat]
      exact hown.move fun g hg _ => ⟨setRow_other W b g _ (hgb g hg), fun _ => Iff.rfl⟩)
    (by
      rw [hcat]
      intro g hg
      refine ⟨?_, ?_⟩
      · show upd s.o b (some (splice cs off [.sl none sz els])) g = none
        rw [upd_ne _ _ (hgb g hg)]; exact hno g hg
      · rintro ℓ ⟨e2, sz2, els2, hl⟩ hg2
        have key : s.at ℓ = some (.sl (some e2) sz2 els2) ∧ ℓ ≠ .t i ∧ cat a (W.setRow b row) ℓ = cat a W ℓ := by
          cases ℓ with
          | t k =>
            simp only [St.at, upd] at hl ⊢
            by_cases hk : k = i
            · rw [if_pos hk] at hl; simp at hl
            · rw [if_neg hk] at hl
              exact ⟨hl, by simpa using hk, rfl⟩
          | o b' j =>
            simp only [St.at, upd] at hl ⊢
            by_cases hbb : b' = b
            · subst hbb
              simp only [if_true, Option.bind_some, splice_get _ _ _ (hle _)] at hl
              split at hl
              · rename_i hj
                have : j - off = 0 := by simp at hj; omega
                rw [this] at hl
                simp at hl
              · rename_i hj
                rw [hb]
                refine ⟨hl, by simp, ?_⟩
                simp only [cat, hheap, q1]
                rw [hget, if_neg (by rintro rfl; exact hj (by simp))]
            · rw [if_neg hbb] at hl
              exact ⟨hl, by simp, by simp only [cat, setRow_other W b b' _ hbb]⟩
        rw [key.2.2] at hg2
        exact h.ap (.t i) ℓ _ _ _ _ _ _ (Ne.symm key.2.1) hi key.1 g (by rw [hcti]; exact hg) hg2)
  unfold Oper.wp
  rw [hrun, Oper.upon_skip, hod]
  refine hnx _ _ U ?_
  have he : stE s i b off cs (.sl (some e) sz els) = { (⟨upd s.t i (some (.sl none sz els)), upd s.o b (some (splice cs off [.sl none sz els]))⟩ : St) with o := upd (upd s.o b (some (splice cs off [.sl none sz els]))) b (some (splice (splice cs off [.sl none sz els]) off [.sl (some e) sz els])) } := by
    simp only [stE, splice_twice _ _ _ _ hlt, St.mk.injEq, true_and]
    funext k
    simp only [upd]
    by_cases hk : k = b <;> simp [hk]
  rw [he]
  exact h3
end
end Go.Proofs.YtbjmcmgekcmbpaaDoor

/- The abstract machine, beside part 5: == of structs, cell by cell. -/
namespace Go.Proofs.YtbjmcmgekcmbpaaDoor
set_option linter.all false
open Go.RowKit

theorem eqC_split : ∀ {k l : List Kd} {a b c d : List AV} {r : Bool}, a.length = k.length → b.length = k.length → eqC (k ++ l) (a ++ c) (b ++ d) = some r → ∃ x y, eqC k a b = some x ∧ eqC l c d = some y ∧ r = (x && y)
  | [], l, a, b, c, d, r, h1, h2, h => by
    obtain rfl := List.eq_nil_of_length_eq_zero h1
    obtain rfl := List.eq_nil_of_length_eq_zero h2
    exact ⟨true, r, rfl, h, by simp⟩
  | k :: ks, l, a, b, c, d, r, h1, h2, h => by
    match a, b, h1, h2 with
    | x :: a, y :: b, h1, h2 =>
      simp only [List.cons_append, eqC] at h ⊢
      split at h
      · rename_i u v g1 g2
        obtain ⟨p, q, h3, h4, rfl⟩ := eqC_split (by simpa using h1) (by simpa using h2) g2
        simp only [Option.some.injEq] at h
        subst h
        exact ⟨u && p, q, by rw [g1, h3], h4, by rw [Bool.and_assoc]⟩
      · cases h
/-- A value's cells. -/
structure CellsR (P : Program) (W : World) (U : Nat → Nat → Prop) (t : TypeId) (x : Value) (cs : List AV) : Prop where
  len : cs.length = sizeT P t
  size : x.cells.size = cs.length
  vr : ∀ (j : Nat) (v : Value) (c : AV), x.cells[j]? = some v → cs[j]? = some c → VR W U v c ∧ v.oneCell' = true
  form : (∃ xs, x = .agg xs) ↔ ∃ fs, P.underlying t = some (.struct fs)
section
variable {P : Program} {W : World} {U : Nat → Nat → Prop}
theorem kinds_len : ∀ (n : Nat) (t : TypeId) (ks : List Kd), kindsT P n t = some ks → ks.length = sizeT P t
  | 0, t, ks, h => by simp [kindsT] at h
  | n + 1, t, ks, h => by
    unfold kindsT at h
    have hch : ∀ (fs : List Field) (a tot : Nat) (ks : List Kd), chainS P a fs = some tot → kindsF (kindsT P n) fs = some ks → a + ks.length = tot := by
      intro fs
      induction fs with
      | nil => intro a tot ks h1 h2; simp [chainS] at h1; simp [kindsF] at h2; subst h2; simpa using h1
      | cons f fs ih =>
        intro a tot ks h1 h2
        simp only [chainS] at h1
        split at h1
        · simp only [kindsF] at h2
          split at h2
          · rename_i k1 k2 e1 e2
            simp only [Option.some.injEq] at h2
            subst h2
            have := ih _ _ _ h1 e2
            have := kinds_len n _ _ e1
            simp only [List.length_append]; omega
          · cases h2
        · cases h1
    split at h
    · split at h
      · cases h; simp_all
      · cases h
    · split at h
      · cases h; simp_all
      · cases h
    · split at h
      · cases h; simp_all
      · cases h
    · split at h
      · rename_i hc
        have := hch _ _ _ _ hc.2 h
        omega
      · cases h
    · cases h
theorem equalIn_fields {n d : Nat} (ih : ∀ (t : TypeId) (x y : Value) (ks : List Kd) (cs ds : List AV) (r : Bool), kindsT P n t = some ks → CellsR P W U t x cs → CellsR P W U t y ds → eqC ks cs ds = some r → (Op.equalIn d t x y).run P W = .ok r W)
    (xs ys : Array Value) (cs ds : List AV) (h1 : xs.size = cs.length) (h2 : ys.size = ds.length) (h3 : ∀ (j : Nat) (v : Value) (c : AV), xs[j]? = some v → cs[j]? = some c → VR W U v c ∧ v.oneCell' = true)
    (h4 : ∀ (j : Nat) (v : Value) (c : AV), ys[j]? = some v → ds[j]? = some c → VR W U v c ∧ v.oneCell' = true) :
    ∀ (fs : List Field) (a tot : Nat) (ks : List Kd) (r : Bool), chainS P a fs = some tot → cs.length = tot → ds.length = tot → kindsF (kindsT P n) fs = some ks → eqC ks (cs.drop a) (ds.drop a) = some r → (Op.eqFields d xs ys fs).run P W = .ok r W
  | [], a, tot, ks, r, hc, hl1, hl2, hf, he => by
    simp only [kindsF, Option.some.injEq] at hf
    subst hf
    simp only [chainS, Option.some.injEq] at hc
    subst hc
    rw [List.drop_eq_nil_of_le (by omega), List.drop_eq_nil_of_le (by omega)] at he
    simp only [eqC, Option.some.injEq] at he
    subst he
    simp [Op.eqFields]
  | f :: fs, a, tot, ks, r, hc, hl1, hl2, hf, he => by
    obtain ⟨kf, kr, hkf, hkr, rfl⟩ : ∃ kf kr, kindsT P n f.type = some kf ∧ kindsF (kindsT P n) fs = some kr ∧ ks = kf ++ kr := by
      simp only [kindsF] at hf
      split at hf
      · rename_i a b e1 e2; exact ⟨a, b, e1, e2, by simpa using hf.symm⟩
      · cases hf
    have hkl := kinds_len n _ _ hkf
    simp only [chainS] at hc
    split at hc
    · rename_i hcond
      obtain ⟨ho, hn, hi⟩ := hcond
      have hge : a + sizeT P f.type ≤ tot := by
        have : ∀ (l : List Field) (a t : Nat), chainS P a l = some t → a ≤ t := by
          intro l
          induction l with
          | nil => intro a t h; simp [chainS] at h; omega
          | cons g l ih2 =>
            intro a t h
            simp only [chainS] at h
            split at h
            · have := ih2 _ _ h; omega
            · cases h
        exact this _ _ _ hc
      have e1 : cs.drop a = (cs.drop a).take (sizeT P f.type) ++ cs.drop (a + sizeT P f.type) := by rw [← List.drop_drop, List.take_append_drop]
      have e2 : ds.drop a = (ds.drop a).take (sizeT P f.type) ++ ds.drop (a + sizeT P f.type) := by rw [← List.drop_drop, List.take_append_drop]
      rw [e1, e2] at he
      obtain ⟨x, y, q1, q2, rfl⟩ := eqC_split (by simp; omega) (by simp; omega) he
      have part1 : ∀ (zs : Array Value) (es : List AV), zs.size = es.length → es.length = tot → (∀ (j : Nat) (v : Value) (c : AV), zs[j]? = some v → es[j]? = some c → VR W U v c ∧ v.oneCell' = true) →
          ∃ v, (part f.type zs f.offset).run P W = .ok v W ∧ CellsR P W U f.type v ((es.drop a).take (sizeT P f.type)) := by
        intro zs es g1 g2 g3
        have ht := hkf
        cases hinf : P.info? f.type with
        | none => simp [hinf] at hi
        | some inf =>
          have hsz : inf.size = sizeT P f.type := by simp [sizeT, hinf]
          have single : (∃ dd, P.underlying f.type = some dd ∧ isAggD dd = false ∧ (∀ fs, dd ≠ .struct fs)) → sizeT P f.type = 1 → ∃ v, (part f.type zs f.offset).run P W = .ok v W ∧ CellsR P W U f.type v ((es.drop a).take (sizeT P f.type)) := by
            rintro ⟨dd, hu, hag, hns⟩ h1
            have hlt : a < zs.size := by omega
            have hz : zs[a]? = some zs[a] := Array.getElem?_eq_getElem hlt
            have hes : es[a]? = some (es[a]'(by omega)) := List.getElem?_eq_getElem (by omega)
            obtain ⟨k1, k2⟩ := g3 a _ _ hz hes
            have hc1 : (zs[a]).cells = #[zs[a]] := by
              revert k2
              cases zs[a] <;> simp [Value.oneCell', Value.cells]
            have htk : (es.drop a).take (sizeT P f.type) = [es[a]'(by omega)] := by
              rw [h1, List.drop_eq_getElem_cons (by omega)]; rfl
            refine ⟨zs[a], ?_, ?_⟩
            · simp [part, run_isAgg hu, hag, ho, hz]
            · rw [htk]
              refine ⟨by simp [h1], by rw [hc1]; rfl, fun j v c hv hc => ?_, ?_⟩
              · rw [hc1] at hv
                cases j with
                | zero => simp at hv hc; subst hv; subst hc; exact ⟨k1, k2⟩
                | succ j => simp at hv
              · constructor
                · rintro ⟨xs', hx⟩
                  rw [hx] at k2; simp [Value.oneCell'] at k2
                · rintro ⟨fs', hx⟩
                  rw [hu] at hx
                  exact absurd (Option.some.inj hx) (hns fs')
          cases n with
          | zero => simp [kindsT] at ht
          | succ n =>
            unfold kindsT at ht
            split at ht
            · rename_i hu; split at ht
              · rename_i h1; exact single ⟨_, hu, rfl, by simp⟩ h1
              · cases ht
            · rename_i k hu; split at ht
              · rename_i h1; exact single ⟨_, hu, rfl, by simp⟩ h1
              · cases ht
            · rename_i hu; split at ht
              · rename_i h1; exact single ⟨_, hu, rfl, by simp⟩ h1
              · cases ht
            · rename_i gs hu
              refine ⟨.agg (zs.extract f.offset (f.offset + inf.size)), by simp [part, run_isAgg hu, isAggD, sizeOf, typeInfo, hinf], ?_⟩
              refine ⟨by simp; omega, by simp [Value.cells, ho, hsz]; omega, fun j v c hv hc => ?_, ⟨fun _ => ⟨gs, hu⟩, fun _ => ⟨_, rfl⟩⟩⟩
              simp only [Value.cells, Array.getElem?_extract, ho] at hv
              rw [List.getElem?_take, List.getElem?_drop] at hc
              split at hv
              · split at hc
                · exact g3 (a + j) v c hv hc
                · cases hc
              · cases hv
            · cases ht
      obtain ⟨v1, r1, c1⟩ := part1 xs cs h1 hl1 h3
      obtain ⟨v2, r2, c2⟩ := part1 ys ds h2 hl2 h4
      have hr := ih f.type v1 v2 _ _ _ x hkf c1 c2 q1
      have hrest := equalIn_fields ih xs ys cs ds h1 h2 h3 h4 fs _ tot _ y hc hl1 hl2 hkr q2
      simp only [Op.eqFields, if_pos hn, Sem.run_bind, r1, Result.andThen_ok, r2, hr, Sem.run_ite]
      cases x
      · simp
      · simpa using hrest
    · cases hc

theorem equalIn_sound : ∀ (n d : Nat), n ≤ d → ∀ (t : TypeId) (x y : Value) (ks : List Kd) (cs ds : List AV) (r : Bool), kindsT P n t = some ks → CellsR P W U t x cs → CellsR P W U t y ds → eqC ks cs ds = some r → (Op.equalIn d t x y).run P W = .ok r W
  | 0, d, _, t, x, y, ks, cs, ds, r, ht, _, _, _ => by simp [kindsT] at ht
  | n + 1, 0, hd, t, x, y, ks, cs, ds, r, ht, hx, hy, he => by omega
  | n + 1, d + 1, hd, t, x, y, ks, cs, ds, r, ht, hx, hy, he => by
    have ih := fun t x y ks cs ds r => equalIn_sound n d (by omega) t x y ks cs ds r
    have single : ∀ k, ks = [k] → sizeT P t = 1 → (∀ fs, P.underlying t ≠ some (.struct fs)) → ∃ c c', VR W U x c ∧ VR W U y c' ∧ eq1 k c c' = some r := by
      intro k hk h1 hns
      subst hk
      have one : ∀ (z : Value) (es : List AV), CellsR P W U t z es → ∃ c, es = [c] ∧ VR W U z c := by
        intro z es hz
        have hl : es.length = 1 := by rw [hz.len, h1]
        match es, hl with
        | [c], _ =>
          refine ⟨c, rfl, ?_⟩
          have hna : ¬ ∃ xs, z = .agg xs := fun h => by
            obtain ⟨fs, hfs⟩ := hz.form.1 h
            exact hns fs hfs
          have hc : z.cells = #[z] := by
            cases z <;> first | rfl | exact absurd ⟨_, rfl⟩ hna
          exact (hz.vr 0 z c (by rw [hc]; rfl) rfl).1
      obtain ⟨c, rfl, k1⟩ := one x cs hx
      obtain ⟨c', rfl, k2⟩ := one y ds hy
      refine ⟨c, c', k1, k2, ?_⟩
      simp only [eqC] at he
      split at he
      · rename_i u v q1 q2
        simp only [Option.some.injEq] at q2 he
        subst q2 he
        rw [q1]; simp
      · cases he
    unfold kindsT at ht
    split at ht
    · rename_i hu
      split at ht
      · rename_i h1
        obtain ⟨c, c', k1, k2, k3⟩ := single .b (by simpa using ht.symm) h1 (by simp [hu])
        unfold eq1 at k3
        split at k3 <;> simp_all
        rw [k1.bool_inv, k2.bool_inv, run_equal_bool hu]
        simp [k3]
      · cases ht
    · rename_i kk hu
      split at ht
      · rename_i h1
        obtain ⟨c, c', k1, k2, k3⟩ := single .i (by simpa using ht.symm) h1 (by simp [hu])
        unfold eq1 at k3
        split at k3 <;> simp_all
        obtain ⟨rfl, rfl⟩ := k3
        rw [k1.int_inv, k2.int_inv, run_equalIn_int W d t _ kk _ _ hu]
        rfl
      · cases ht
    · rename_i hu
      split at ht
      · rename_i h1
        obtain ⟨c, c', k1, k2, k3⟩ := single .s (by simpa using ht.symm) h1 (by simp [hu])
        unfold eq1 at k3
        split at k3 <;> simp_all
        rw [k1.str_inv, k2.str_inv, run_equalIn_string W d t _ _ hu, toList_str, toList_str, beq_str]
        simp [k3]
      · cases ht
    · rename_i fs hu
      split at ht
      · rename_i hc
        obtain ⟨hs, hch⟩ := hc
        obtain ⟨xs, rfl⟩ := hx.form.2 ⟨fs, hu⟩
        obtain ⟨ys, rfl⟩ := hy.form.2 ⟨fs, hu⟩
        have hfo : P.fieldsOf t = fs := by simp [Program.fieldsOf, hu]
        rw [run_equalIn_struct W d t xs ys (by rw [hfo]; exact hu) hs, hfo]
        exact equalIn_fields ih xs ys cs ds hx.size hy.size hx.vr hy.vr fs.toList 0 _ _ r hch hx.len hy.len ht (by simpa using he)
      · cases ht
    · cases ht

theorem eqC_len : ∀ {ks : List Kd} {cs ds : List AV} {b : Bool}, eqC ks cs ds = some b → cs.length = ks.length ∧ ds.length = ks.length
  | [], [], [], _, _ => ⟨rfl, rfl⟩
  | k :: ks, c :: cs, d :: ds, b, h => by
    simp only [eqC] at h
    split at h
    · rename_i x y h1 h2
      have := eqC_len h2
      simp [this]
    · cases h
  | [], _ :: _, _, _, h => by simp [eqC] at h
  | [], [], _ :: _, _, h => by simp [eqC] at h
  | _ :: _, [], _, _, h => by simp [eqC] at h
  | _ :: _, _ :: _, [], _, h => by simp [eqC] at h
theorem s_aeq {N : Nat} {W0 : World} {U0 : Nat → Nat → Prop} {M : Nat → Prop} {a : Act} {s : St} {o : Oper} {r : AV} (h : Inv N W0 U0 M a W U s) {op : BinOp} {t ty : TypeId} {fs : Array Field} {x y : Operand} {X Y : Opd} {ks : List Kd} (ho : o.op = .binOp op t x y ty) (hop : op = .eql ∨ op = .neq)
    (ht : P.underlying t = some (.struct fs)) (hg : P.eqGuardType P.depth t = false) (hk : kindsT P 8 t = some ks) (hx : cOpd x = some X) (hy : cOpd y = some Y) (hr : opR P s (.aeq (isNeq op) ks X Y) r) : VOK P a o W U r := by
  obtain ⟨cs, ds, b, hv, hu, he, rfl⟩ := hr
  obtain ⟨l1, l2⟩ := eqC_len he
  have kl := kinds_len 8 t ks hk
  have cell : ∀ {z : Value} {es : List AV}, VR W U z (.agg es) → es.length = ks.length → ∃ vs : List Value, z = .agg vs.toArray ∧ CellsR P W U t z es := by
    intro z es hz hl
    cases hz with
    | agg vs _ hvl hvr h1 =>
      refine ⟨vs, rfl, by omega, by simp [Value.cells, hvl], fun j v c hv hc => ?_, ⟨fun _ => ⟨fs, ht⟩, fun _ => ⟨_, rfl⟩⟩⟩
      have hv' : vs[j]? = some v := by simpa [Value.cells] using hv
      exact ⟨hvr j v c hv' hc, h1 v (List.mem_of_getElem? hv')⟩
  obtain ⟨vs, e1, c1⟩ := cell (cOpd_sound h hx hv) l1
  obtain ⟨us, e2, c2⟩ := cell (cOpd_sound h hy hu) l2
  have hrun := equalIn_sound 8 10000 (by omega) t _ _ ks cs ds b hk c1 c2 he
  rw [e1, e2] at hrun
  rcases hop with rfl | rfl
  · refine VOK.same (v := .bool b) ?_ (.bool _) (by simp [isNeq])
    simp only [execOp, ho, e1, e2, Sem.run_bind, run_eqGuard_agg W _ t x y _ _ hg, Result.andThen_ok, run_eql_struct, hrun]
    simp
  · refine VOK.same (v := .bool (!b)) ?_ (.bool _) (by simp [isNeq])
    simp only [execOp, ho, e1, e2, Sem.run_bind, run_eqGuard_agg W _ t x y _ _ hg, Result.andThen_ok, run_neq_struct, hrun]
    simp
end
end Go.Proofs.YtbjmcmgekcmbpaaDoor

/- The abstract machine, part 7b: append of a string. -/
namespace Go.Proofs.YtbjmcmgekcmbpaaDoor
set_option linter.all false
open Go.RowKit

section
variable {P : Program} {N : Nat} {W0 : World} {U0 : Nat → Nat → Prop} {M : Nat → Prop} {a : Act} {W : World} {U : Nat → Nat → Prop} {s : St} {o : Oper} {r : AV}
/-- **A string's bytes onto an own row.** -/
theorem s_apps (h : Inv N W0 U0 M a W U s) {t tx e i : Nat} {inf : TypeInfo} {x : Operand} {X : Opd} {d : Option Nat} (ho : o.op = .call { callee := .builtin .append, args := ⟨[.tmp i, x]⟩, argTypes := ⟨[t, tx]⟩ }) (hod : o.dst = d) (hd : ∀ j, d = some j → j < N)
    (ht : P.underlying t = some (.slice e)) (hi : P.info? e = some inf) (htx : P.underlying tx = some .string) (hisz : inf.size = 1) (hz : zeroSize P e = some 1) (hx : cOpd x = some X) (hr : opR P s (.apps e inf.bytes i X) r) {next : Act → World → Prop} {Q : Exit → Act → World → Prop}
    (hn : ∀ a' W' U', Inv N W0 U0 M a' W' U' (eff d (.apps e inf.bytes i X) r s) → next a' W') : o.wp P a W next Q := by
  obtain ⟨els, l, hs0, hxv, hb0, hmx0, rfl⟩ := hr
  obtain ⟨sz, hsz1⟩ : ∃ sz, sz = 1 := ⟨_, rfl⟩
  have hsz : 0 < sz := by omega
  rw [← hsz1] at hz hisz hs0
  obtain ⟨news, hnews0⟩ : ∃ news, news = l.map byteEl := ⟨_, rfl⟩
  have hnl : news.length = l.length := by rw [hnews0]; simp
  rw [← hsz1, ← hnews0] at hn
  have hb : (els.length + news.length) * inf.bytes ≤ 140737488355328 := by rw [hnl]; exact hb0
  have hmx : els.length + news.length ≤ maxLen := by rw [hnl]; exact hmx0
  have hv := h.tv i _ hs0
  have hw := cOpd_sound h hx hxv
  have hown := h.ow (.t i) _ hs0
  simp only [Own1, cat] at hown
  obtain ⟨z, hz1, hz2⟩ : ∃ z, inf.zero = some z ∧ z.cells.size = sz := by
    simp only [zeroSize, hi, Option.bind_some, Option.map_eq_some_iff] at hz
    exact hz
  -- it is enough to know what the append gives
  have key : ∀ v' W' U', (Builtin.append_ #[t, tx] o.type #[a.eval (.tmp i), a.eval x]).run P W = .ok v' W' → Inv N W0 U0 M a W' U' { s with t := upd s.t i none } → VR W' U' v' (.sl (some e) sz (els ++ news)) →
      (∀ j, d = some j → Sole W0 M a W' U' { s with t := upd s.t i none } j v' (.sl (some e) sz (els ++ news))) → o.wp P a W next Q := by
    intro v' W' U' hrun hinv hvr hso
    unfold Oper.wp execOp
    simp only [ho, resolve, invoke, builtin, Sem.run_bind, Sem.run_pure, Result.andThen_ok, List.map_toArray, List.map_cons, List.map_nil]
    rw [show (#[a.eval (.tmp i), a.eval x] : Array Value) = ⟨[a.eval (.tmp i), a.eval x]⟩ from rfl] at hrun
    rw [show (#[t, tx] : Array Nat) = ⟨[t, tx]⟩ from rfl] at hrun
    rw [hrun]
    simp only [Result.andThen_ok, Oper.upon, hod]
    exact hn _ _ _ (hinv.putO hd hvr hso)
  have hle : Le { s with t := upd s.t i none } s := ⟨fun j v hj => by
    by_cases hji : j = i
    · subst hji; simp [upd] at hj
    · simpa [upd, hji] using hj, fun _ _ hj => hj⟩
  have h' := h.le hle
  have hother : ∀ ℓ e' sz' els', St.at { s with t := upd s.t i none } ℓ = some (.sl (some e') sz' els') → ℓ ≠ .t i ∧ s.at ℓ = some (.sl (some e') sz' els') := by
    intro ℓ e' sz' els' hl
    refine ⟨fun he => ?_, hle.at_ hl⟩
    subst he
    simp [St.at, upd] at hl
  generalize hval : a.eval (.tmp i) = val at *
  have hval' : a.tmps.getD i undef = val := hval
  rw [hval'] at hv hown
  have hxs : a.eval x = .string ⟨l.toArray⟩ := hw.str_inv
  rw [hxs] at key
  obtain ⟨f2, hf2⟩ : ∃ f2 : Nat → Nat → Value, f2 = fun i _ => .int .u8 ((l.getD i 0).toNat : Int) := ⟨_, rfl⟩
  have hs2 : ∀ e ∈ news, e.length = sz := by
    intro e' he'
    rw [hnews0] at he'
    obtain ⟨b, _, rfl⟩ := List.mem_map.1 he'
    simp [byteEl, hsz1]
  have hc2 : ∀ i j, i < news.length → j < sz → True ∧ (f2 i j).oneCell' = true ∧ True := fun i j _ _ => by subst hf2; exact ⟨trivial, rfl, trivial⟩
  have hv2 : ∀ (i : Nat) (e : List AV) (j : Nat) (c : AV), news[i]? = some e → e[j]? = some c → VR W U (f2 i j) c := by
    intro i e' j c he hc
    rw [hnews0, List.getElem?_map, Option.map_eq_some_iff] at he
    obtain ⟨b, hb', rfl⟩ := he
    cases j with
    | succ j => simp [byteEl] at hc
    | zero =>
      simp [byteEl] at hc
      subst hc
      rw [hf2]
      have : l.getD i 0 = b := by simp [List.getD, hb']
      simp only [this]
      exact .int _ _
  have hflat : flatV f2 news.length sz = byteCells ⟨l.toArray⟩ := by
    rw [hf2, hsz1, hnl]
    apply List.ext_getElem?
    intro p
    simp only [flatV, byteCells, Nat.mul_one, Nat.div_one, List.getElem?_map]
    by_cases hp : p < l.length
    · simp [hp, List.getD]
    · simp [hp]
  have hsrc : Src P inf.size tx (.string ⟨l.toArray⟩) news.length (flatV f2 news.length sz) W := by
    rw [hflat, hisz, hsz1]
    have := Src.ofString (P := P) W htx ⟨l.toArray⟩
    rwa [size_str, ← hnl] at this
  have h1new : ∀ u ∈ flatV f2 news.length sz, u.oneCell' = true := hsrc.one
  cases hv with
  | sl A1 cap1 _ _ b1 o1 _ f1 hcap1 hmax1 hA1 hs1 hc1 hv1 =>
      have hsall : ∀ e ∈ els ++ news, e.length = sz := by
        intro e' he'
        rcases List.mem_append.1 he' with he' | he'
        · exact hs1 e' he'
        · exact hs2 e' he'
      have hlen : (els ++ news).length = els.length + news.length := List.length_append
      ·
        rcases hown with ⟨hnil, hn0⟩ | ⟨g, capg, cur, hsl, hB, hgh, hgc, hgm, hgs, hgU1, hgU2⟩
        · -- the row is nil
          have he0 : els = [] := List.eq_nil_of_length_eq_zero hn0
          subst he0
          simp only [List.nil_append, List.length_nil, Nat.zero_add] at key hn hmx hb hlen hnil ⊢
          injection hnil with q1 q2 q3
          subst q1 q3
          by_cases hm : news.length = 0
          · have hn1 : news = [] := List.eq_nil_of_length_eq_zero hm
            subst hn1
            refine key (.slice none 0 0) W U ?_ h' (zVR_sound (v := .slice none 0 0) (c := .sl (some e) sz []) rfl W U).1 (fun j hj e' sz' els' he' => ?_)
            · have hl0 : l = [] := List.eq_nil_of_length_eq_zero (by rw [← hnl]; rfl)
              subst hl0
              simp [Builtin.append_, run_underlying ht, run_underlying htx, sizeOf, typeInfo, hi, Builtin.lenOf, Builtin.firstCells, ByteArray.size]
            · cases he'
              exact ⟨.inl ⟨rfl, rfl⟩, fun g hg => by simp [Value.ownBlock] at hg⟩
          · have hrun : (Builtin.append_ #[t, tx] o.type #[.slice none 0 0, .string ⟨l.toArray⟩]).run P W = .ok (.slice (some ⟨W.heap.size, 0, none⟩) news.length (grownCap W news.length 0 e)) (W.drew.alloc (.cells ((flatV f2 news.length sz).toArray ++ Builtin.zeroCells z.cells (grownCap W news.length 0 e - news.length)) e)) := by
              have := run_append_grow_src (P := P) W t tx o.type e inf z ht hi hz1 none 0 0 [] (by simp [Builtin.firstCells]) _ news.length (flatV f2 news.length sz) hsrc (by omega) (by simp only [maxLen] at hmx; omega) (growslice_fits (by omega) (by simpa using hb))
              simpa using this
            have hE : Ext W U (W.drew.alloc (.cells ((flatV f2 news.length sz).toArray ++ Builtin.zeroCells z.cells (grownCap W news.length 0 e - news.length)) e)) (fun k i => if k = W.heap.size then news.length * sz ≤ i else U k i) := by
              have := Ext.alloc W.drew U (.cells ((flatV f2 news.length sz).toArray ++ Builtin.zeroCells z.cells (grownCap W news.length 0 e - news.length)) e) (fun i => news.length * sz ≤ i)
              exact ⟨(Below.refl _ _).drew.alloc (Nat.le_refl _) _, this.u⟩
            have hge := grownCap_ge W news.length 0 e
            have hcm := grownCap_le_maxLen W news.length 0 e hmx
            have hnew := heap_alloc_new W.drew (.cells ((flatV f2 news.length sz).toArray ++ Builtin.zeroCells z.cells (grownCap W news.length 0 e - news.length)) e)
            have hcsz : ((flatV f2 news.length sz).toArray ++ Builtin.zeroCells z.cells (grownCap W news.length 0 e - news.length)).size = grownCap W news.length 0 e * sz := by
              simp only [Array.size_append, List.size_toArray, size_zeroCells, hz2, flatV_length, ← Nat.add_mul]
              congr 1
              omega
            refine key _ _ _ hrun (h'.ext hE) ?_ (fun j hj => Sole.fresh h' hE ?_)
            · refine VR_row (f := f2) hnew hge hcm hs2 (fun i j hi hj => ?_) (fun o ho hu => ?_) (fun i e' j c he hc => (hv2 i e' j c he hc).keep hE.keeps)
              · refine ⟨?_, (hc2 i j hi hj).2.1⟩
                have := flatV_get (f := f2) hi hj
                rw [Array.getElem?_append_left (by rw [List.size_toArray]; exact (List.getElem?_eq_some_iff.1 this).1)]
                simpa using this
              · have hu' : news.length * sz ≤ o := by simpa using hu
                omega
            · refine .inr ⟨W.heap.size, _, _, rfl, Nat.le_refl _, hnew, hge, hcm, hcsz, fun o ho hu => ?_, fun o ho => ?_⟩
              · have hu' : news.length * sz ≤ o := by simpa using hu
                omega
              · simpa using ho
        · -- a row of its own
          have hb1 : 0 < els.length → b1 = g ∧ o1 = 0 := fun hp => by
            have := hA1 hp
            rw [this] at hsl
            injection hsl with h1 h2 h3
            injection h1 with h1
            injection h1 with h1 h2
            exact ⟨h1, h2⟩
          have hcur : ∀ i j, i < els.length → j < sz → cur[i * sz + j]? = some (f1 i j) := by
            intro i j hi hj
            obtain ⟨rfl, rfl⟩ := hb1 (by omega)
            have := (hc1 i j hi hj).1
            rw [Nat.zero_add] at this
            rw [← this, cell_of_row W b1 _ cur e (0, 0) hgh]
          have hold : ∀ p v, (flatV f1 els.length sz)[p]? = some v → W.cell? ((⟨g, 0, none⟩ : Addr).add p) = some v := by
            intro p v hp
            obtain ⟨q1, q2, rfl, q4⟩ := flatV_some hp
            rw [add_mk, Nat.zero_add, cell_of_row W g p cur e (0, 0) hgh]
            have := hcur _ _ q1 q2
            rw [← q4] at this
            exact this
          injection hsl with hA1' hlen1 hcap1'
          subst hA1' hcap1'
          have hnog : s.o g = none := h.no (.t i) _ _ _ hs0 g (by simp only [cat, hval']; rfl)
          have hapg : ∀ ℓ e' sz' els', St.at { s with t := upd s.t i none } ℓ = some (.sl (some e') sz' els') → (cat a W ℓ).ownBlock ≠ some g := fun ℓ e' sz' els' hl => by
            obtain ⟨hne, hl'⟩ := hother ℓ _ _ _ hl
            exact h.ap (.t i) ℓ _ _ _ _ _ _ (Ne.symm hne) hs0 hl' g (by simp only [cat, hval']; rfl)
          by_cases hroom : els.length + news.length ≤ cap1
          · -- in place
            have hfit : els.length * inf.size + (flatV f2 news.length sz).length ≤ cur.size := by
              rw [flatV_length, hgs, hisz, ← Nat.add_mul]
              exact Nat.mul_le_mul_right _ hroom
            have hrun : (Builtin.append_ #[t, tx] o.type #[.slice (some ⟨g, 0, none⟩) els.length cap1, .string ⟨l.toArray⟩]).run P W = .ok (.slice (some ⟨g, 0, none⟩) (els.length + news.length) cap1) (W.setRow g (cur.toList.take (els.length * inf.size) ++ flatV f2 news.length sz ++ cur.toList.drop (els.length * inf.size + (flatV f2 news.length sz).length)).toArray) := by
              have hst := run_storeCells_at P g (els.length * inf.size) e (flatV f2 news.length sz) 0 cur W hgh (by simpa using hfit) h1new
              simp only [Nat.add_zero] at hst
              have hadd : (⟨g, 0, none⟩ : Addr).add (els.length * inf.size) = ⟨g, els.length * inf.size, none⟩ := by rw [add_mk, Nat.zero_add]
              have hlen' := hsrc.len
              have hcel' := hsrc.cells
              simp only [Builtin.append_, List.getElem?_toArray, List.getElem?_cons_zero, List.getElem?_cons_succ, Sem.run_bind, run_underlying ht, run_underlying htx, sizeOf, typeInfo, hi, hlen', hcel', Result.andThen_ok]
              simp [hroom, hlen', hcel', hadd, hst, hi]
            rw [hisz] at hrun hfit
            have hnew := setRow_heap W g cur (cur.toList.take (els.length * sz) ++ flatV f2 news.length sz ++ cur.toList.drop (els.length * sz + (flatV f2 news.length sz).length)).toArray e (0, 0) hgh
            have htk : (cur.toList.take (els.length * sz)) = flatV f1 els.length sz := by
              apply List.ext_getElem?
              intro p
              rcases Nat.lt_or_ge p (els.length * sz) with hp | hp
              · have hp' : p / sz < els.length := (Nat.div_lt_iff_lt_mul hsz).2 hp
                have e4 : p = p / sz * sz + p % sz := by have := Nat.div_add_mod p sz; rw [Nat.mul_comm] at this; omega
                rw [List.getElem?_take, if_pos hp, e4, flatV_get hp' (Nat.mod_lt _ hsz)]
                simpa using hcur _ _ hp' (Nat.mod_lt _ hsz)
              · rw [List.getElem?_eq_none (by simp; omega), List.getElem?_eq_none (by rw [flatV_length]; exact hp)]
            rw [htk] at hrun hnew
            have hcell : ∀ i j, i < els.length + news.length → j < sz → (flatV f1 els.length sz ++ flatV f2 news.length sz ++ cur.toList.drop (els.length * sz + (flatV f2 news.length sz).length)).toArray[i * sz + j]? = some (joinF els.length f1 f2 i j) := by
              intro i j hi hj
              have := join_get (f := f1) (g := f2) hi hj
              rw [List.getElem?_toArray, List.getElem?_append_left (List.getElem?_eq_some_iff.1 this).1]
              exact this
            have hK : Keeps W U (W.setRow g (flatV f1 els.length sz ++ flatV f2 news.length sz ++ cur.toList.drop (els.length * sz + (flatV f2 news.length sz).length)).toArray) (fun k i => if k = g then (els.length + news.length) * sz ≤ i else U k i) := by
              intro b' o' v hc hu
              by_cases hbg : b' = g
              · subst hbg
                have hlt : o' < els.length * sz := by
                  rcases Nat.lt_or_ge o' (els.length * sz) with hl | hl
                  · exact hl
                  · exact absurd (hgU2 o' hl) hu
                have e4 : o' = o' / sz * sz + o' % sz := by have := Nat.div_add_mod o' sz; rw [Nat.mul_comm] at this; omega
                have hp' : o' / sz < els.length := (Nat.div_lt_iff_lt_mul hsz).2 hlt
                refine ⟨?_, ?_⟩
                · rw [cell_of_row _ b' o' _ e (0, 0) hnew]
                  rw [cell_of_row W b' o' cur e (0, 0) hgh] at hc
                  have h5 := hcell (o' / sz) (o' % sz) (by omega) (Nat.mod_lt _ hsz)
                  have h6 := hcur _ _ hp' (Nat.mod_lt o' hsz)
                  rw [← e4] at h5 h6
                  rw [h5, ← hc, h6]
                  simp [joinF, hp']
                · simp only [if_true]
                  rw [Nat.add_mul]
                  omega
              · refine ⟨?_, by simpa [hbg] using hu⟩
                rw [World.cell?_of_block (w := W) (a := ⟨b', o', none⟩) (setRow_other W g b' _ hbg)]
                exact hc
            refine key _ _ (fun k i => if k = g then (els.length + news.length) * sz ≤ i else U k i) hrun
              (h'.turn hB hnog hapg hK rfl rfl rfl (by simp) (fun k _ hk => setRow_other W g k _ hk) (fun k _ hk o => by simp [hk])) ?_ (fun j hj e' sz' els' he' => ?_)
            · refine VR_row' (f := joinF els.length f1 f2) hlen hnew hroom hgm hsall (fun i j hi hj => ⟨hcell i j hi hj, ?_⟩) (fun o ho hu => ?_) (join_VR (fun i e' j c he hc => (hv1 i e' j c he hc).keep hK) (fun i e' j c he hc => (hv2 i e' j c he hc).keep hK))
              · unfold joinF
                by_cases hil : i < els.length
                · rw [if_pos hil]; exact (hc1 i j hil hj).2.1
                · rw [if_neg hil]; exact (hc2 (i - els.length) j (by omega) hj).2.1
              · simp only [if_true] at hu
                omega
            · cases he'
              refine ⟨.inr ⟨g, cap1, _, by rw [hlen], hB, hnew, by omega, hgm, ?_, fun o ho hu => ?_, fun o ho => ?_⟩, fun g' hg' => ?_⟩
              · simp only [List.size_toArray, List.length_append, List.length_drop, Array.length_toList, flatV_length] at hfit ⊢
                omega
              · simp only [if_true] at hu
                rw [hlen] at ho
                omega
              · simp only [if_true]
                rw [hlen] at ho
                exact ho
              · obtain rfl : g = g' := by simpa [Value.ownBlock] using hg'
                refine ⟨hnog, fun ℓ _ ⟨e2, sz2, els2, hl⟩ => ?_⟩
                have hcat : cat a (W.setRow g (flatV f1 els.length sz ++ flatV f2 news.length sz ++ cur.toList.drop (els.length * sz + (flatV f2 news.length sz).length)).toArray) ℓ = cat a W ℓ := by
                  cases ℓ with
                  | t i => rfl
                  | o b j =>
                    have hl2 := hl
                    simp only [St.at, Option.bind_eq_some_iff] at hl2
                    obtain ⟨cs, e1, _⟩ := hl2
                    have hne : b ≠ g := by rintro rfl; rw [hnog] at e1; cases e1
                    simp only [cat, setRow_other W g b _ hne]
                rw [hcat]
                exact hapg ℓ _ _ _ hl
          · -- a new row
            have hrun : (Builtin.append_ #[t, tx] o.type #[.slice (some ⟨g, 0, none⟩) els.length cap1, .string ⟨l.toArray⟩]).run P W = .ok (.slice (some ⟨W.heap.size, 0, none⟩) (els.length + news.length) (grownCap W (els.length + news.length) cap1 e)) (W.drew.alloc (.cells ((flatV f1 els.length sz).toArray ++ (flatV f2 news.length sz).toArray ++ Builtin.zeroCells z.cells (grownCap W (els.length + news.length) cap1 e - (els.length + news.length))) e)) := by
              have := run_append_grow_src (P := P) W t tx o.type e inf z ht hi hz1 (some ⟨g, 0, none⟩) els.length cap1 (flatV f1 els.length sz) (run_firstCells_some W.drew inf.size els.length ⟨g, 0, none⟩ els.length cap1 _ (by rw [flatV_length, hisz]) (by simpa using hold)) _ news.length (flatV f2 news.length sz) hsrc (by omega) (by simp only [maxLen] at hmx; omega) (growslice_fits (by omega) hb)
              simpa using this
            have hge := grownCap_ge W (els.length + news.length) cap1 e
            have hcm := grownCap_le_maxLen W (els.length + news.length) cap1 e hmx
            have hnew := heap_alloc_new W.drew (.cells ((flatV f1 els.length sz).toArray ++ (flatV f2 news.length sz).toArray ++ Builtin.zeroCells z.cells (grownCap W (els.length + news.length) cap1 e - (els.length + news.length))) e)
            have hE : Ext W U (W.drew.alloc (.cells ((flatV f1 els.length sz).toArray ++ (flatV f2 news.length sz).toArray ++ Builtin.zeroCells z.cells (grownCap W (els.length + news.length) cap1 e - (els.length + news.length))) e)) (fun k i => if k = W.heap.size then (els.length + news.length) * sz ≤ i else U k i) := by
              have := Ext.alloc W.drew U (.cells ((flatV f1 els.length sz).toArray ++ (flatV f2 news.length sz).toArray ++ Builtin.zeroCells z.cells (grownCap W (els.length + news.length) cap1 e - (els.length + news.length))) e) (fun i => (els.length + news.length) * sz ≤ i)
              exact ⟨(Below.refl _ _).drew.alloc (Nat.le_refl _) _, this.u⟩
            refine key _ _ _ hrun (h'.ext hE) ?_ (fun j hj => Sole.fresh h' hE ?_)
            · refine VR_row' (f := joinF els.length f1 f2) hlen hnew hge hcm hsall (fun i j hi hj => ⟨?_, ?_⟩) (fun o ho hu => ?_) (join_VR (fun i e' j c he hc => (hv1 i e' j c he hc).keep hE.keeps) (fun i e' j c he hc => (hv2 i e' j c he hc).keep hE.keeps))
              · have := join_get (f := f1) (g := f2) (by omega : i < els.length + news.length) hj
                rw [Array.getElem?_append_left (by have h9 := (List.getElem?_eq_some_iff.1 this).1; simpa using h9)]
                simpa using this
              · unfold joinF
                by_cases hil : i < els.length
                · rw [if_pos hil]; exact (hc1 i j hil hj).2.1
                · rw [if_neg hil]; exact (hc2 (i - els.length) j (by omega) hj).2.1
              · have hu' : (els.length + news.length) * sz ≤ o := by simpa using hu
                omega
            · refine .inr ⟨W.heap.size, _, _, by rw [hlen], Nat.le_refl _, hnew, by omega, hcm, ?_, fun o ho hu => ?_, fun o ho => ?_⟩
              · simp only [Array.size_append, List.size_toArray, size_zeroCells, hz2, flatV_length, ← Nat.add_mul]
                congr 1
                omega
              · have hu' : (els.length + news.length) * sz ≤ o := by simpa using hu
                rw [hlen] at ho
                omega
              · rw [hlen] at ho
                simpa using ho
end
end Go.Proofs.YtbjmcmgekcmbpaaDoor
