import Derived.Test.YtobopbjedojebaaK15
import Derived.Test.YtobopbjedojebaaK11
import Derived.Test.YtobopbjedojebaaK5
import Derived.Test.YtobopbjedojebaaK16
/- what became of packets: plain laws: folding keeps tables good; parts that are apart; which keys a table has -/
namespace Go.Proofs.Ytobopbjedojebaa
set_option linter.all false
open Go.RowKit
noncomputable def foldL (t : Tb) (l : List EvC) : Tb := l.foldl (fun t e => (foldT t e).1) t
theorem foldL_nil (t : Tb) : foldL t [] = t := rfl
theorem foldL_snoc (t : Tb) (l : List EvC) (e : EvC) : foldL t (l ++ [e]) = (foldT (foldL t l) e).1 := by simp [foldL]
noncomputable def ownP (e : EvC) : EndP := ((ownE e).1, (ownE e).2.1)
noncomputable def ownOk (e : EvC) : Bool := (ownE e).2.2.2
structure Tgood (n : Nat) (t : Tb) : Prop where
  k : (t.K.map (·.1)).Nodup
  c : t.C.Nodup
  lk : t.K.length ≤ n
  lc : t.C.length ≤ n
theorem Tgood.mono {n m : Nat} {t : Tb} (h : Tgood n t) (hm : n ≤ m) : Tgood m t := ⟨h.k, h.c, Nat.le_trans h.lk hm, Nat.le_trans h.lc hm⟩
theorem tgood0 : Tgood 0 ⟨[], []⟩ := ⟨List.nodup_nil, List.nodup_nil, Nat.le_refl _, Nat.le_refl _⟩
theorem setE_keys (l : List (KeyC × EntC)) (k : KeyC) (y : EntC) : (setE l k y).map (·.1) = l.map (·.1) := by
  simp only [setE, List.map_map]
  congr 1; funext x; simp only [Function.comp]; split <;> simp_all
/-- What folding may come to. -/
theorem foldT_cases (t : Tb) (e : EvC) : (∃ n, foldT t e = (t, n) ∧ n ≠ 0) ∨ (e.k = 7 ∧ foldT t e = (t, 0)) ∨
    (mayE e = true ∧ e.k = 6 ∧ ((e.e, e.ec) : EndP) ∉ t.C ∧ foldT t e = (⟨t.K, t.C ++ [(e.e, e.ec)]⟩, 0)) ∨
    (mayE e = true ∧ e.k ≠ 6 ∧ e.k ≠ 7 ∧ findE t.K (keyE e) = none ∧ foldT t e = (⟨t.K ++ [(keyE e, markE (ent0 e.p) e)], t.C⟩, 0)) ∨
    (∃ x, mayE e = true ∧ e.k ≠ 6 ∧ e.k ≠ 7 ∧ findE t.K (keyE e) = some x ∧ x.p = e.p ∧ marked x e.k = false ∧ lateE x e.k = false ∧ foldT t e = (⟨setE t.K (keyE e) (markE x e), t.C⟩, 0)) := by
  unfold foldT
  by_cases hm : mayE e = false
  · rw [if_pos hm]; exact .inl ⟨1, rfl, by decide⟩
  rw [if_neg hm]
  have hm' : mayE e = true := by simpa using hm
  by_cases h7 : e.k = 7
  · rw [if_pos h7]; exact .inr (.inl ⟨h7, rfl⟩)
  rw [if_neg h7]
  by_cases h6 : e.k = 6
  · rw [if_pos h6]
    split
    · exact .inl ⟨8, rfl, by decide⟩
    · rename_i hc
      exact .inr (.inr (.inl ⟨hm', h6, hc, rfl⟩))
  rw [if_neg h6]
  cases hf : findE t.K (keyE e) with
  | none => exact .inr (.inr (.inr (.inl ⟨hm', h6, h7, rfl, rfl⟩)))
  | some x =>
    simp only
    by_cases h1 : ¬ x.p = e.p
    · rw [if_pos h1]; exact .inl ⟨3, rfl, by decide⟩
    rw [if_neg h1]
    by_cases h2 : marked x e.k = true
    · rw [if_pos h2]; exact .inl ⟨8, rfl, by decide⟩
    rw [if_neg h2]
    by_cases h3 : lateE x e.k = true
    · rw [if_pos h3]; exact .inl ⟨16, rfl, by decide⟩
    rw [if_neg h3]
    exact .inr (.inr (.inr (.inr ⟨x, hm', h6, h7, rfl, by simpa using h1, by simpa using h2, by simpa using h3, rfl⟩)))
theorem nodup_snoc {α : Type} {l : List α} {x : α} (h : l.Nodup) (hn : x ∉ l) : (l ++ [x]).Nodup :=
  List.nodup_append.2 ⟨h, by simp, fun a ha b hb => by simp at hb; subst hb; intro e; subst e; exact hn ha⟩
theorem fold_good {n : Nat} {t : Tb} (h : Tgood n t) (e : EvC) : Tgood (n + 1) (foldT t e).1 := by
  have h' := h.mono (Nat.le_succ n)
  rcases foldT_cases t e with ⟨m, g, _⟩ | ⟨_, g⟩ | ⟨_, _, hc, g⟩ | ⟨_, _, _, hf, g⟩ | ⟨x, _, _, _, _, _, _, _, g⟩ <;> rw [g]
  · exact h'
  · exact h'
  · exact ⟨h.k, nodup_snoc h.c hc, h'.lk, by simp; exact h.lc⟩
  · refine ⟨?_, h.c, by simp; exact h.lk, h'.lc⟩
    simp only [List.map_append, List.map_cons, List.map_nil]
    refine nodup_snoc h.k fun hm => ?_
    obtain ⟨y, hy, e1⟩ := List.mem_map.1 hm
    exact findE_none hf y hy e1
  · exact ⟨by simp only [setE_keys]; exact h.k, h.c, by simp only [setE, List.length_map]; exact h'.lk, h'.lc⟩
theorem foldL_good {n : Nat} {t : Tb} (h : Tgood n t) : ∀ l : List EvC, Tgood (n + l.length) (foldL t l) := by
  intro l
  induction l generalizing n t with
  | nil => exact h
  | cons e l ih =>
    have := ih (fold_good h e)
    rw [List.length_cons, show n + (l.length + 1) = n + 1 + l.length by omega]
    exact this
/-! ends of a table -/
def EndsIn (p : EndP → Prop) (t : Tb) : Prop := (∀ x ∈ t.K, p x.1.en) ∧ ∀ c ∈ t.C, p c
theorem key_en (e : EvC) : (keyE e).en = ownP e := rfl
theorem own_of {e : EvC} (hm : mayE e = true) (h7 : e.k ≠ 7) (hr : 1 ≤ e.k ∧ e.k ≤ 7) : ownOk e = true := by
  unfold ownOk ownE
  rw [if_pos hm]
  split
  · rfl
  · split
    · rfl
    · split
      · rfl
      · omega
theorem mayE_range {e : EvC} (h : mayE e = true) : 1 ≤ e.k ∧ e.k ≤ 7 := by
  simp only [mayE, Bool.and_eq_true, decide_eq_true_eq] at h; exact h.1.1
theorem own_6 {e : EvC} (hm : mayE e = true) (h6 : e.k = 6) : ownP e = (e.e, e.ec) := by
  unfold ownP ownE; rw [if_pos hm, if_neg (by omega), if_neg (by omega), if_pos h6]
theorem ends_fold {p : EndP → Prop} {t : Tb} (h : EndsIn p t) {e : EvC} (he : ownOk e = true → p (ownP e)) : EndsIn p (foldT t e).1 := by
  rcases foldT_cases t e with ⟨m, g, _⟩ | ⟨_, g⟩ | ⟨hm, h6, hc, g⟩ | ⟨hm, h6, h7, hf, g⟩ | ⟨x, hm, h6, h7, hf, _, _, _, g⟩ <;> rw [g]
  · exact h
  · exact h
  · refine ⟨h.1, fun c hc => ?_⟩
    rcases List.mem_append.1 hc with hc | hc
    · exact h.2 c hc
    · simp at hc; subst hc
      rw [← own_6 hm h6]; exact he (own_of hm (by omega) (mayE_range hm))
  · refine ⟨fun x hx => ?_, h.2⟩
    rcases List.mem_append.1 hx with hx | hx
    · exact h.1 x hx
    · simp at hx; subst hx
      exact he (own_of hm h7 (mayE_range hm))
  · refine ⟨fun y hy => ?_, h.2⟩
    simp only [setE, List.mem_map] at hy
    obtain ⟨z, hz, rfl⟩ := hy
    split
    · exact he (own_of hm h7 (mayE_range hm))
    · exact h.1 z hz
theorem ends_foldL {p : EndP → Prop} : ∀ {l : List EvC} {t : Tb}, EndsIn p t → (∀ e ∈ l, ownOk e = true → p (ownP e)) → EndsIn p (foldL t l)
  | [], _, h, _ => h
  | e :: l, t, h, he => ends_foldL (l := l) (ends_fold h (he e (by simp))) fun x hx => he x (by simp [hx])
/-! parts that are apart -/
def Tb.app (a b : Tb) : Tb := ⟨a.K ++ b.K, a.C ++ b.C⟩
theorem find_app {A B : List (KeyC × EntC)} {k : KeyC} (h : ∀ x ∈ A, x.1 ≠ k) : findE (A ++ B) k = findE B k := by
  unfold findE
  rw [List.find?_append, List.find?_eq_none.2 (fun x hx => by simp [h x hx])]
  rfl
theorem set_app {A B : List (KeyC × EntC)} {k : KeyC} {y : EntC} (h : ∀ x ∈ A, x.1 ≠ k) : setE (A ++ B) k y = A ++ setE B k y := by
  simp only [setE, List.map_append]
  congr 1
  refine (List.map_congr_left fun x hx => ?_).trans (List.map_id A)
  rw [if_neg (h x hx)]; rfl
theorem fold_app {a b : Tb} {e : EvC} (h : ownOk e = true → EndsIn (· ≠ ownP e) a) : foldT (a.app b) e = (a.app (foldT b e).1, (foldT b e).2) := by
  unfold foldT
  by_cases hm : mayE e = false
  · rw [if_pos hm, if_pos hm]
  rw [if_neg hm, if_neg hm]
  have hm' : mayE e = true := by simpa using hm
  by_cases h7 : e.k = 7
  · rw [if_pos h7, if_pos h7]
  rw [if_neg h7, if_neg h7]
  have hE := h (own_of hm' h7 (mayE_range hm'))
  by_cases h6 : e.k = 6
  · rw [if_pos h6, if_pos h6]
    have hc : ((e.e, e.ec) : EndP) ∈ (a.app b).C ↔ ((e.e, e.ec) : EndP) ∈ b.C := by
      simp only [Tb.app, List.mem_append]
      refine ⟨fun h => h.resolve_left fun h1 => ?_, .inr⟩
      exact hE.2 _ h1 (own_6 hm' h6).symm
    by_cases hc' : ((e.e, e.ec) : EndP) ∈ b.C
    · rw [if_pos (hc.2 hc'), if_pos hc']
    · rw [if_neg (fun h => hc' (hc.1 h)), if_neg hc']
      simp [Tb.app]
  rw [if_neg h6, if_neg h6]
  have hk : ∀ x ∈ a.K, x.1 ≠ keyE e := fun x hx e1 => hE.1 x hx (by rw [e1]; rfl)
  have hf : findE (a.app b).K (keyE e) = findE b.K (keyE e) := find_app hk
  rw [hf]
  cases hx : findE b.K (keyE e) with
  | none => simp [Tb.app]
  | some x =>
    simp only
    split
    · rfl
    · split
      · rfl
      · split
        · rfl
        · simp only [Tb.app]; rw [set_app hk]
theorem foldL_app {a : Tb} : ∀ {l : List EvC} {b : Tb}, (∀ e ∈ l, ownOk e = true → EndsIn (· ≠ ownP e) a) → foldL (a.app b) l = a.app (foldL b l)
  | [], _, _ => rfl
  | e :: l, b, h => by
    show foldL (foldT (a.app b) e).1 l = a.app (foldL (foldT b e).1 l)
    rw [fold_app (h e (by simp))]
    exact foldL_app fun x hx => h x (by simp [hx])
theorem app_nil (a : Tb) : a.app ⟨[], []⟩ = a := by simp [Tb.app]
theorem find_mem {l : List (KeyC × EntC)} (hN : (l.map (·.1)).Nodup) {k : KeyC} {x : EntC} : findE l k = some x ↔ (k, x) ∈ l := by
  induction l with
  | nil => simp [findE]
  | cons y l ih =>
    obtain ⟨h1, h2⟩ := List.nodup_cons.1 hN
    by_cases hy : y.1 = k
    · subst hy
      have : findE (y :: l) y.1 = some y.2 := by simp [findE]
      rw [this]
      constructor
      · intro e; cases e; exact List.mem_cons_self ..
      · intro e
        rcases List.mem_cons.1 e with e | e
        · rw [← e]
        · exact absurd (List.mem_map.2 ⟨_, e, rfl⟩) h1
    · have : findE (y :: l) k = findE l k := by simp [findE, hy]
      rw [this, ih h2, List.mem_cons]
      refine ⟨.inr, fun h => h.resolve_left fun e => hy (by rw [← e])⟩
theorem find_perm {A B : List (KeyC × EntC)} (hp : A.Perm B) (hN : (A.map (·.1)).Nodup) (k : KeyC) : findE A k = findE B k := by
  have hB : (B.map (·.1)).Nodup := (hp.map _).nodup_iff.1 hN
  cases h : findE B k with
  | none =>
    cases h2 : findE A k with
    | none => rfl
    | some x =>
      have := (find_mem hB).2 (hp.mem_iff.1 ((find_mem hN).1 h2))
      rw [h] at this; cases this
  | some x => exact (find_mem hN).2 (hp.mem_iff.2 ((find_mem hB).1 h))
theorem app_perm (a b : Tb) : (a.app b).K.Perm (b.app a).K := List.perm_append_comm
end Go.Proofs.Ytobopbjedojebaa

/- the document's table: rising keys, their entries, rising closed ends; as the program's tells -/
namespace Go.Proofs.Ytobopbjedojebaa
set_option linter.all false
open Go.RowKit
structure Dt where
  K : List KeyC
  E : List EntC
  C : List EndP
def keysS (t : Tb) : List KeyC := srtL keyLt (t.K.map (·.1))
def closS (t : Tb) : List EndP := srtL endLt t.C
def entS (t : Tb) (k : KeyC) : EntC := (findE t.K k).getD default
def dOf (t : Tb) : Dt := ⟨keysS t, (keysS t).map (entS t), closS t⟩
theorem mem_keysS {t : Tb} {k : KeyC} : k ∈ keysS t ↔ (findE t.K k).isSome = true := by
  rw [keysS, (srtL_perm _ _).mem_iff]
  constructor
  · intro h
    cases hf : findE t.K k with
    | some x => rfl
    | none =>
      obtain ⟨y, hy, e⟩ := List.mem_map.1 h
      exact absurd e (findE_none hf y hy)
  · intro h
    obtain ⟨x, hx⟩ := Option.isSome_iff_exists.1 h
    obtain ⟨i, _, _, _, hi⟩ := lookK_some hx
    exact List.mem_map.2 ⟨_, List.mem_of_getElem? hi, rfl⟩
/-! the place of one among rising ones -/
theorem pl_le {α : Type} (lt : α → α → Bool) (x : α) (l : List α) : plL lt x l ≤ l.length := by
  unfold plL; exact (List.takeWhile_sublist _).length_le
theorem pl_before {α : Type} (lt : α → α → Bool) (x : α) : ∀ (l : List α) (i : Nat) (d : α), i < plL lt x l → lt (l.getD i d) x = true
  | [], i, d, h => by simp [plL] at h
  | y :: r, i, d, h => by
    unfold plL at h
    rw [List.takeWhile_cons] at h
    split at h
    · rename_i hy
      cases i with
      | zero => exact hy
      | succ i => exact pl_before lt x r i d (by simpa [plL] using h)
    · simp at h
theorem pl_at {α : Type} (lt : α → α → Bool) (x : α) : ∀ (l : List α) (d : α), plL lt x l < l.length → lt (l.getD (plL lt x l) d) x = false
  | [], d, h => by simp at h
  | y :: r, d, h => by
    by_cases hy : lt y x = true
    · have e : plL lt x (y :: r) = plL lt x r + 1 := by unfold plL; rw [List.takeWhile_cons, if_pos hy]; simp
      rw [e] at h ⊢
      exact pl_at lt x r d (by simpa using h)
    · have e : plL lt x (y :: r) = 0 := by unfold plL; rw [List.takeWhile_cons, if_neg hy]; rfl
      rw [e]; simpa using hy
/-- Is it there? It stands at its place. -/
theorem pl_mem {α : Type} {lt : α → α → Bool} (S : STO lt) {x : α} {l : List α} (hr : Rise lt l) (d : α) : x ∈ l ↔ plL lt x l < l.length ∧ l.getD (plL lt x l) d = x := by
  constructor
  · intro h
    obtain ⟨i, hi, rfl⟩ := List.getElem_of_mem h
    have hle : plL lt l[i] l = i := by
      have h1 : ¬ i < plL lt l[i] l := fun hlt => by
        have := pl_before lt l[i] l i d hlt
        simp only [List.getD, List.getElem?_eq_getElem hi, Option.getD_some] at this
        rw [S.irr] at this; cases this
      have h2 : ¬ plL lt l[i] l < i := fun hlt => by
        have := pl_at lt l[i] l d (by omega)
        have hj : plL lt l[i] l < l.length := by omega
        simp only [List.getD, List.getElem?_eq_getElem hj, Option.getD_some] at this
        rw [(List.pairwise_iff_getElem.1 hr) _ _ hj hi hlt] at this
        cases this
      omega
    rw [hle]
    exact ⟨hi, by simp [List.getD, hi]⟩
  · rintro ⟨h1, h2⟩
    rw [← h2]
    simp only [List.getD, List.getElem?_eq_getElem h1, Option.getD_some]
    exact List.getElem_mem h1
theorem keys_new {t : Tb} (hN : (t.K.map (·.1)).Nodup) {k : KeyC} {x : EntC} (hf : findE t.K k = none) : keysS ⟨t.K ++ [(k, x)], t.C⟩ = (keysS t).take (plL keyLt k (keysS t)) ++ [k] ++ (keysS t).drop (plL keyLt k (keysS t)) := by
  unfold keysS
  simp only [List.map_append, List.map_cons, List.map_nil]
  rw [srtL_snoc keySTO hN (fun h => by
    obtain ⟨y, hy, e⟩ := List.mem_map.1 h
    exact findE_none hf y hy e), insL_at]
theorem ent_new {t : Tb} {k k' : KeyC} {x : EntC} (hf : findE t.K k = none) : entS ⟨t.K ++ [(k, x)], t.C⟩ k' = if k' = k then x else entS t k' := by
  unfold entS
  by_cases h : k' = k
  · subst h
    rw [if_pos rfl, find_app (fun y hy e => findE_none hf y hy e)]
    simp [findE]
  · rw [if_neg h]
    congr 1
    unfold findE
    rw [List.find?_append]
    cases hq : t.K.find? fun y => decide (y.1 = k') with
    | some y => rfl
    | none =>
      have : (([(k, x)] : List (KeyC × EntC)).find? fun y => decide (y.1 = k')) = none := by simp [Ne.symm h]
      rw [this]; rfl
theorem dOf_new {t : Tb} (hN : (t.K.map (·.1)).Nodup) {k : KeyC} {x : EntC} (hf : findE t.K k = none) :
    dOf ⟨t.K ++ [(k, x)], t.C⟩ = ⟨(keysS t).take (plL keyLt k (keysS t)) ++ [k] ++ (keysS t).drop (plL keyLt k (keysS t)), ((dOf t).E.take (plL keyLt k (keysS t)) ++ [x]) ++ (dOf t).E.drop (plL keyLt k (keysS t)), closS t⟩ := by
  have hk : k ∉ keysS t := fun h => by rw [mem_keysS, hf] at h; cases h
  have hmap : ∀ l : List KeyC, (∀ y ∈ l, y ∈ keysS t) → l.map (entS ⟨t.K ++ [(k, x)], t.C⟩) = l.map (entS t) := fun l hl => List.map_congr_left fun y hy => by
    rw [ent_new hf, if_neg (fun e : y = k => hk (by rw [← e]; exact hl y hy))]
  unfold dOf
  rw [keys_new hN hf]
  simp only [Dt.mk.injEq, true_and]
  refine ⟨?_, rfl⟩
  simp only [List.map_append, List.map_cons, List.map_nil]
  rw [hmap _ (fun y hy => List.mem_of_mem_take hy), hmap _ (fun y hy => List.mem_of_mem_drop hy), ent_new hf, if_pos rfl, List.map_take, List.map_drop]
theorem dOf_set {t : Tb} (hN : (t.K.map (·.1)).Nodup) {k : KeyC} {x y : EntC} (hf : findE t.K k = some x) : dOf ⟨setE t.K k y, t.C⟩ = ⟨keysS t, (dOf t).E.set (plL keyLt k (keysS t)) y, closS t⟩ := by
  have hks : keysS ⟨setE t.K k y, t.C⟩ = keysS t := by unfold keysS; simp only [setE_keys]
  have hr : Rise keyLt (keysS t) := srtL_rise keySTO hN
  obtain ⟨p1, p2⟩ := (pl_mem keySTO hr default).1 (mem_keysS.2 (by rw [hf]; rfl))
  have hm : (k, x) ∈ t.K := (find_mem hN).1 hf
  have hN2 : ((setE t.K k y).map (·.1)).Nodup := by rw [setE_keys]; exact hN
  have hen : ∀ k', entS ⟨setE t.K k y, t.C⟩ k' = if k' = k then y else entS t k' := fun k' => by
    unfold entS
    simp only
    by_cases h : k' = k
    · subst h
      rw [if_pos rfl]
      have : findE (setE t.K k' y) k' = some y := (find_mem hN2).2 (by
        simp only [setE, List.mem_map]
        exact ⟨_, hm, by simp⟩)
      rw [this]; rfl
    · rw [if_neg h]
      congr 1
      cases hq : findE t.K k' with
      | some z =>
        refine (find_mem hN2).2 ?_
        simp only [setE, List.mem_map]
        exact ⟨_, (find_mem hN).1 hq, by simp [h]⟩
      | none =>
        cases hq2 : findE (setE t.K k y) k' with
        | none => rfl
        | some z =>
          have := (find_mem hN2).1 hq2
          simp only [setE, List.mem_map] at this
          obtain ⟨w, hw, e⟩ := this
          split at e
          · cases e; exact absurd rfl h
          · rename_i hwk
            subst e
            exact absurd rfl (findE_none hq _ hw)
  unfold dOf
  rw [hks]
  simp only [Dt.mk.injEq, true_and]
  refine ⟨?_, rfl⟩
  apply List.ext_getElem?
  intro i
  rw [List.getElem?_map, List.getElem?_set, List.length_map]
  by_cases hi : i < (keysS t).length
  · rw [List.getElem?_eq_getElem hi, Option.map_some, hen]
    have hd : (keysS t).getD i default = (keysS t)[i] := by simp [List.getD, hi]
    by_cases h : (keysS t)[i] = k
    · have : plL keyLt k (keysS t) = i := by
        have h3 : (keysS t)[plL keyLt k (keysS t)] = (keysS t)[i] := by
          rw [h]; simpa [List.getD, p1] using p2
        exact (List.getElem_inj (hr.imp (fun {a b} hab e => by subst e; rw [keySTO.irr] at hab; cases hab))).1 h3
      rw [if_pos h, this, if_pos rfl, if_pos hi]
    · rw [if_neg h, if_neg (fun e => h (by subst e; simpa [List.getD, p1] using p2)), List.getElem?_map, List.getElem?_eq_getElem hi]; rfl
  · have hnn : (keysS t)[i]? = none := List.getElem?_eq_none (by omega)
    have : ¬ plL keyLt k (keysS t) = i := fun e => by omega
    rw [if_neg this, List.getElem?_map, hnn]; rfl
theorem clos_new {t : Tb} (hC : t.C.Nodup) {c : EndP} (hc : c ∉ t.C) : closS ⟨t.K, t.C ++ [c]⟩ = (closS t).take (plL endLt c (closS t)) ++ [c] ++ (closS t).drop (plL endLt c (closS t)) := by
  unfold closS
  simp only
  rw [srtL_snoc endSTO hC hc, insL_at]
theorem mem_closS {t : Tb} {c : EndP} : c ∈ closS t ↔ c ∈ t.C := (srtL_perm _ _).mem_iff
end Go.Proofs.Ytobopbjedojebaa

/- The abstract machine: rows that are objects, reckoned: elements of a type alpha that lie as f tells. -/
namespace Go.Proofs.Ytobopbjedojebaa
set_option linter.all false
open Go.RowKit
/-- How elements lie. -/
structure RowT {α : Type} (f : α → List AV) (sz : Nat) : Prop where
  len : ∀ x, (f x).length = sz
  no : ∀ x, ∀ c ∈ f x, (∀ t k l, c ≠ .sl (some t) k l) ∧ ∀ t, c ≠ .nilT t
section
variable {α : Type} {f : α → List AV} {sz : Nat} (R : RowT f sz)
include R
theorem RowT.all (l : List α) : ∀ e ∈ l.map f, e.length = sz := fun e he => by
  obtain ⟨x, _, rfl⟩ := List.mem_map.1 he; exact R.len x
theorem RowT.noOwn (l : List α) : noOwn (l.map f) := fun e he => by
  obtain ⟨x, _, rfl⟩ := List.mem_map.1 he; exact R.no x
theorem RowT.len_hc (cap : Nat) (l : List α) : (hc sz cap (l.map f)).length = (max cap l.length) * sz := by rw [hc_len (R.all l), List.length_map]
theorem RowT.drop_take (cap : Nat) (l : List α) (i : Nat) (d : α) (hi : i < l.length) : ((hc sz cap (l.map f)).drop (i * sz)).take sz = f (l.getD i d) := by
  apply List.ext_getElem?
  intro j
  have he : (l.map f)[i]? = some (f (l.getD i d)) := by simp [List.getD, hi]
  by_cases hj : j < sz
  · rw [List.getElem?_take_of_lt hj, List.getElem?_drop, hc_get (R.all l) he hj]
  · rw [List.getElem?_take_eq_none (by omega), List.getElem?_eq_none (by rw [R.len]; omega)]
/-- An element is read. -/
theorem RowT.ld (cap : Nat) (l : List α) (i : Nat) (d : α) (hi : i < l.length) (K : AV → Prop) : RK (ldR (some sz) ((hc sz cap (l.map f)).drop (i * sz))) K = K (.agg (f (l.getD i d))) := by
  have hb : sz ≤ ((hc sz cap (l.map f)).drop (i * sz)).length := by
    rw [List.length_drop, R.len_hc]
    have := Nat.mul_le_mul_right sz (show i + 1 ≤ max cap l.length by omega)
    rw [Nat.add_mul, Nat.one_mul] at this; omega
  have e : ldR (some sz) ((hc sz cap (l.map f)).drop (i * sz)) = fun r => sz ≤ ((hc sz cap (l.map f)).drop (i * sz)).length ∧ r = .agg (((hc sz cap (l.map f)).drop (i * sz)).take sz) := by
    funext r; generalize (hc sz cap (l.map f)).drop (i * sz) = X; cases X <;> rfl
  rw [e, RK_and, R.drop_take cap l i d hi]
  exact propext ⟨fun h => h.2, fun h => ⟨hb, h⟩⟩
/-- An element is written. -/
theorem RowT.sto (cap : Nat) (l : List α) (i : Nat) (y : α) (hi : i < l.length) : splice (hc sz cap (l.map f)) (i * sz) (f y) = hc sz cap ((l.set i y).map f) := by
  have hb : i * sz + (f y).length ≤ (hc sz cap (l.map f)).length := by
    rw [R.len_hc, R.len]
    have := Nat.mul_le_mul_right sz (show i + 1 ≤ max cap l.length by omega)
    rw [Nat.add_mul, Nat.one_mul] at this; omega
  apply List.ext_getElem?
  intro p
  rw [splice_get _ _ _ hb]
  rcases Nat.eq_zero_or_pos sz with h0 | hsz
  · have hfy : (f y).length = 0 := by rw [R.len]; exact h0
    rw [if_neg (by omega)]
    have h1 : (hc sz cap (l.map f)) = [] := List.eq_nil_of_length_eq_zero (by rw [R.len_hc]; subst h0; simp)
    have h2 : (hc sz cap ((l.set i y).map f)) = [] := List.eq_nil_of_length_eq_zero (by rw [R.len_hc]; subst h0; simp)
    rw [h1, h2]
  have hdm : p / sz * sz + p % sz = p := by rw [Nat.mul_comm]; exact Nat.div_add_mod p sz
  have hml := Nat.mod_lt p hsz
  by_cases hpl : p / sz < l.length
  · have hpl' : p / sz < (l.set i y).length := by simpa using hpl
    have he : ((l.set i y).map f)[p / sz]? = some (f ((l.set i y).getD (p / sz) y)) := by rw [List.getElem?_map, List.getElem?_eq_getElem hpl', List.getD, List.getElem?_eq_getElem hpl']; rfl
    have he2 : (l.map f)[p / sz]? = some (f (l.getD (p / sz) y)) := by simp [List.getD, hpl]
    have r1 := hc_get (cap := cap) (R.all (l.set i y)) he hml
    have r2 := hc_get (cap := cap) (R.all l) he2 hml
    rw [hdm] at r1 r2
    rw [r1, r2]
    by_cases hpi : p / sz = i
    · rw [if_pos (by rw [R.len, ← hpi]; omega)]
      have : p - i * sz = p % sz := by rw [← hpi]; omega
      rw [this, hpi]
      simp [List.getD, hi]
    · rw [if_neg]
      · have : (l.set i y).getD (p / sz) y = l.getD (p / sz) y := by simp [List.getD, List.getElem?_set, Ne.symm hpi]
        rw [this]
      · rw [R.len]
        rintro ⟨a1, a2⟩
        apply hpi
        have b1 : i ≤ p / sz := (Nat.le_div_iff_mul_le hsz).2 a1
        have b2 : p / sz < i + 1 := (Nat.div_lt_iff_lt_mul hsz).2 (by rw [Nat.add_mul, Nat.one_mul]; exact a2)
        omega
  · have hge : l.length * sz ≤ p := (Nat.le_div_iff_mul_le hsz).1 (Nat.not_lt.1 hpl)
    rw [if_neg]
    · unfold hc
      have l1 : (l.map f).flatten.length = l.length * sz := by rw [flatten_len (R.all l), List.length_map]
      have l2 : ((l.set i y).map f).flatten.length = l.length * sz := by rw [flatten_len (R.all _), List.length_map, List.length_set]
      rw [List.getElem?_append_right (by omega), List.getElem?_append_right (by omega), l1, l2]
      simp
    · rw [R.len]
      have := Nat.mul_le_mul_right sz (show i + 1 ≤ l.length from hi)
      rw [Nat.add_mul, Nat.one_mul] at this
      omega
/-! what is appended -/
theorem RowT.src_part {o : Nat → Option (List AV)} {g cap a m : Nat} {l : List α} (hg : o g = some (hc sz cap (l.map f))) (hm : a + m ≤ l.length) : srcR o sz (.hss g sz a m) (((l.drop a).take m).map f) :=
  ⟨rfl, cap, l.map f, hg, R.all l, by simpa using hm, by simp⟩
theorem RowT.src_pre {o : Nat → Option (List AV)} {g e n cap : Nat} {l : List α} (hg : o g = some (hc sz cap (l.map f))) (hm : n ≤ l.length) : srcR o sz (.hsl g e sz n cap) ((l.take n).map f) :=
  ⟨rfl, l.map f, hg, R.all l, by simpa using hm, by simp⟩
theorem RowT.src_sl (o : Nat → Option (List AV)) (own : Option Nat) (l : List α) : srcR o sz (.sl own sz (l.map f)) (l.map f) := ⟨rfl, rfl⟩
/-! appends -/
variable {P : Program} {d : Option Nat} {s : St} {K : St → Prop} {e bytes : Nat} {q : AV}
theorem RowT.hap_nil {m : List α} (hs : srcR s.o sz q (m.map f)) (hb : m.length * bytes ≤ 140737488355328 ∧ m.length ≤ maxLen) (h0 : m.length = 0 → KS (St.put s d (.hnil e sz)) K)
    (h1 : 0 < m.length → NewB s.o (fun g => ∀ cap, m.length ≤ cap → KS (St.put ⟨s.t, upd s.o g (some (hc sz cap (m.map f)))⟩ d (.hsl g e sz m.length cap)) K)) : HapW e sz bytes d s K (.hnil e sz) q :=
  ⟨rfl, m.map f, hs, R.noOwn m, by simpa using hb, fun h => h0 (by simpa using h), fun h g hg cap hc => by
    have := h1 (by simpa using h) g hg cap (by simpa using hc)
    simpa using this⟩
theorem RowT.hap_row {g n cap : Nat} {l m : List α} (hg : s.o g = some (hc sz cap (l.map f))) (hs : srcR s.o sz q (m.map f)) (hn : n ≤ l.length ∧ l.length ≤ cap) (hb : (n + m.length) * bytes ≤ 140737488355328 ∧ n + m.length ≤ maxLen)
    (h1 : NewB (upd s.o g none) (fun g' => ∀ cap', n + m.length ≤ cap' → KS (St.put ⟨s.t, upd (upd s.o g none) g' (some (hc sz cap' ((l.take n ++ m).map f)))⟩ d (.hsl g' e sz (n + m.length) cap')) K)) : HapW e sz bytes d s K (.hsl g e sz n cap) q :=
  ⟨⟨rfl, rfl⟩, m.map f, l.map f, hs, R.noOwn m, hg, R.all l, R.noOwn l, by simpa using hn, by simpa using hb, fun g' hg' cap' hc => by
    have := h1 g' hg' cap' (by simpa using hc)
    simpa using this⟩
end
end Go.Proofs.Ytobopbjedojebaa

/- the document's table: Find, close -/
namespace Go.Proofs.Ytobopbjedojebaa
set_option linter.all false
open Go.RowKit Classical
set_option maxRecDepth 100000
def kys (l : List KeyC) : List (List AV) := l.map KeyC.cs
theorem kys_len (l : List KeyC) : (kys l).length = l.length := by simp [kys]
theorem kys_get (l : List KeyC) (i : Nat) (h : i < l.length) : (kys l).getD i [] = (l.getD i default).cs := by simp [kys, h]
def ens (l : List EndP) : List (List AV) := l.map fun e => [.str e.1, .int .i64 e.2]
theorem ens_len (l : List EndP) : (ens l).length = l.length := by simp [ens]
theorem ens_get (l : List EndP) (i : Nat) (h : i < l.length) : (ens l).getD i [] = [.str (l.getD i default).1, .int .i64 (l.getD i default).2] := by simp [ens, h]
theorem key_dec4 (a b : KeyC) : (decide (a.e = b.e) && (decide (a.ec = b.ec) && (decide (a.o = b.o) && decide (a.q = b.q)))) = decide (a = b) := by
  obtain ⟨a1, a2, a3, a4⟩ := a; obtain ⟨b1, b2, b3, b4⟩ := b
  rw [Bool.eq_iff_iff]; simp only [Bool.and_eq_true, decide_eq_true_eq, KeyC.mk.injEq]
theorem t_dFind (p : Nat) (kc ec cc : AV) (K : List KeyC) (hk : kc.alias = .sl none 4 (kys K)) (hr : Rise keyLt K) (hl : K.length ≤ 1000) (k : KeyC) :
    CT Try.prog 40 [.ptr p 0, .agg k.cs] (lk [(p, [kc, ec, cc])]) (fun r o => r = .tup [.int .i64 (plL keyLt k K : Nat), .bool (decide (k ∈ K))] ∧ o = lk [(p, [kc, ec, cc])]) := by
  refine okt_ligref22_Table_Find _ _ _ (by simp) ?_
  have hp := pl_le keyLt k K
  simp only [c_ligref22_Table_Find, hk, ↓Ed, Eu, ↓reduceIte, reduceCtorEq, Nat.reduceAdd, Nat.reduceEqDiff, Nat.reduceLT, Nat.reduceLeDiff, Int.reduceToNat, Int.reduceEq, Int.reduceLT, Int.reduceLE, w64, List.length_append, List.length_map, Nat.mul_one, beq_self_eq_true, PktC.cs, EvC.cs, EntC.cs, KeyC.cs, st_nil, Int.reduceAdd, kys_len, kys_get, ens_len, ens_get]
  repeat' ((first | refine NewB_intro0 (fun b => ?_) | (refine NewB_intro (fun b hb => ?_); simp only [ln_cons2, ln_nil, and_true] at hb) | (with_reducible apply wA; focus exact OM_a) | ((first | refine gW_sp ?_ | refine condW_sp ?_ | refine pickW_sp ?_); (try refine Sp_n ?_); (first | refine wT ?_ | refine wF ?_ | refine wL (fun h h' => ?_) (fun h h' => ?_) | refine wE (fun h h' => ?_) (fun h h' => ?_) | refine Sp_split (fun h => ?_) (fun h => ?_)) <;> (try (exfalso; omega))) | refine TreeW_intro (by rfl) ?_ | refine TreeW_all ?_ | refine upQ_intro ?_ | refine Two_intro ?_ ?_ | exact wK | exact wD | (simp only [Fact, Bool.not_eq_true', Bool.not_eq_false', decide_eq_true_eq, decide_eq_false_iff_not] at *; exact wD) | (show (_ : Nat) ≤ _; omega)) <;> (try simp (disch := omega) only [*, ↓Ed, Eu, ↓reduceIte, reduceCtorEq, Nat.reduceAdd, Nat.reduceEqDiff, Nat.reduceLT, Nat.reduceLeDiff, Int.reduceToNat, Int.reduceEq, Int.reduceLT, Int.reduceLE, w64, List.length_append, List.length_map, Nat.mul_one, beq_self_eq_true, PktC.cs, EvC.cs, EntC.cs, KeyC.cs, st_nil, Int.reduceAdd, kys_len, kys_get, ens_len, ens_get]))
  have hm := pl_mem keySTO hr (x := k) default
  refine wpx_loop (fun i : Nat => ⟨lk [(0, .ptr p 0), (3, .ptr b 0), (6, .int .i64 (i : Int))], lk [(b, k.cs), (p, [kc, ec, cc])]⟩) (fun i => i ≤ plL keyLt k K) (fun i => K.length - i) 0 (by omega) (Le_lit (by simp [LeL, lk, hb])) ?_
  intro i hi
  by_cases hlt : i < plL keyLt k K
  · have f1 : Fact (decide ((i : Int) < K.length) = true) := by simp only [Fact, Bool.not_eq_true', Bool.not_eq_false', decide_eq_true_eq, decide_eq_false_iff_not]; omega
    have hL := p_LessK (K.getD i default) k
    rw [pl_before keyLt k K i default hlt] at hL
    generalize hx : K.getD i default = x at hL
    clear hm hr
    simp (disch := omega) only [hk, hx, hb, ↓Ed, Eu, ↓reduceIte, reduceCtorEq, Nat.reduceAdd, Nat.reduceEqDiff, Nat.reduceLT, Nat.reduceLeDiff, Int.reduceToNat, Int.reduceEq, Int.reduceLT, Int.reduceLE, w64, List.length_append, List.length_map, Nat.mul_one, beq_self_eq_true, PktC.cs, EvC.cs, EntC.cs, KeyC.cs, st_nil, Int.reduceAdd, kys_len, kys_get, ens_len, ens_get]
    repeat' ((first | refine CallO_pure (hL) ?_ | refine CallW_intro (hL) ?_ | refine NewB_intro0 (fun b => ?_) | (refine NewB_intro (fun b hb => ?_); simp only [ln_cons2, ln_nil, and_true] at hb) | (with_reducible apply wA; focus exact OM_a) | ((first | refine gW_sp ?_ | refine condW_sp ?_ | refine pickW_sp ?_); (try refine Sp_n ?_); (first | refine wT ?_ | refine wF ?_ | refine wL (fun h h' => ?_) (fun h h' => ?_) | refine wE (fun h h' => ?_) (fun h h' => ?_) | refine Sp_split (fun h => ?_) (fun h => ?_)) <;> (try (exfalso; omega))) | refine TreeW_intro (by rfl) ?_ | refine TreeW_all ?_ | refine upQ_intro ?_ | refine Two_intro ?_ ?_ | exact wK | exact wD | (simp only [Fact, Bool.not_eq_true', Bool.not_eq_false', decide_eq_true_eq, decide_eq_false_iff_not] at *; exact wD) | (show (_ : Nat) ≤ _; omega)) <;> (try simp (disch := omega) only [*, ↓Ed, Eu, ↓reduceIte, reduceCtorEq, Nat.reduceAdd, Nat.reduceEqDiff, Nat.reduceLT, Nat.reduceLeDiff, Int.reduceToNat, Int.reduceEq, Int.reduceLT, Int.reduceLE, w64, List.length_append, List.length_map, Nat.mul_one, beq_self_eq_true, PktC.cs, EvC.cs, EntC.cs, KeyC.cs, st_nil, Int.reduceAdd, kys_len, kys_get, ens_len, ens_get]))
    all_goals exact Round_lit (i + 1) ⟨Le_lit (by simp [LeL, lk, hb]), by omega, by omega⟩
  have hie : i = plL keyLt k K := by omega
  by_cases hil : i < K.length
  · have f1 : Fact (decide ((i : Int) < K.length) = true) := by simp only [Fact, Bool.not_eq_true', Bool.not_eq_false', decide_eq_true_eq, decide_eq_false_iff_not]; omega
    have hL := p_LessK (K.getD i default) k
    have hat := pl_at keyLt k K default (by omega)
    rw [← hie] at hat hm
    rw [hat] at hL
    have hkd := key_dec4 (K.getD i default) k
    have hmd : decide (k ∈ K) = decide (K.getD i default = k) := by
      rw [Bool.eq_iff_iff, decide_eq_true_eq, decide_eq_true_eq, hm]
      exact ⟨fun h => h.2, fun h => ⟨hil, h⟩⟩
    rw [hmd, ← hie]
    generalize hx : K.getD i default = x at *
    clear hm hr hat hmd hie
    simp (disch := omega) only [hk, hx, hkd, hb, ↓Ed, Eu, ↓reduceIte, reduceCtorEq, Nat.reduceAdd, Nat.reduceEqDiff, Nat.reduceLT, Nat.reduceLeDiff, Int.reduceToNat, Int.reduceEq, Int.reduceLT, Int.reduceLE, w64, List.length_append, List.length_map, Nat.mul_one, beq_self_eq_true, PktC.cs, EvC.cs, EntC.cs, KeyC.cs, st_nil, Int.reduceAdd, kys_len, kys_get, ens_len, ens_get]
    repeat' ((first | refine CallO_pure (hL) ?_ | refine CallW_intro (hL) ?_ | refine NewB_intro0 (fun b => ?_) | (refine NewB_intro (fun b hb => ?_); simp only [ln_cons2, ln_nil, and_true] at hb) | (with_reducible apply wA; focus exact OM_a) | ((first | refine gW_sp ?_ | refine condW_sp ?_ | refine pickW_sp ?_); (try refine Sp_n ?_); (first | refine wT ?_ | refine wF ?_ | refine wL (fun h h' => ?_) (fun h h' => ?_) | refine wE (fun h h' => ?_) (fun h h' => ?_) | refine Sp_split (fun h => ?_) (fun h => ?_)) <;> (try (exfalso; omega))) | refine TreeW_intro (by rfl) ?_ | refine TreeW_all ?_ | refine upQ_intro ?_ | refine Two_intro ?_ ?_ | exact wK | exact wD | (simp only [Fact, Bool.not_eq_true', Bool.not_eq_false', decide_eq_true_eq, decide_eq_false_iff_not] at *; exact wD) | (show (_ : Nat) ≤ _; omega)) <;> (try simp (disch := omega) only [*, ↓Ed, Eu, ↓reduceIte, reduceCtorEq, Nat.reduceAdd, Nat.reduceEqDiff, Nat.reduceLT, Nat.reduceLeDiff, Int.reduceToNat, Int.reduceEq, Int.reduceLT, Int.reduceLE, w64, List.length_append, List.length_map, Nat.mul_one, beq_self_eq_true, PktC.cs, EvC.cs, EntC.cs, KeyC.cs, st_nil, Int.reduceAdd, kys_len, kys_get, ens_len, ens_get]))
    all_goals exact ro_mk (by simp [LeL, lk, hb, r_two, rl_cons, rl_nil, arR, al_bool, al_int, hkd]) dom1
  · have f1 : Fact (decide ((i : Int) < K.length) = false) := by simp only [Fact, Bool.not_eq_true', Bool.not_eq_false', decide_eq_true_eq, decide_eq_false_iff_not]; omega
    have hmd : decide (k ∈ K) = false := by
      rw [decide_eq_false_iff_not, hm]
      exact fun h => by omega
    rw [hmd, ← hie]
    clear hm hr hmd hie
    simp (disch := omega) only [hk, hb, ↓Ed, Eu, ↓reduceIte, reduceCtorEq, Nat.reduceAdd, Nat.reduceEqDiff, Nat.reduceLT, Nat.reduceLeDiff, Int.reduceToNat, Int.reduceEq, Int.reduceLT, Int.reduceLE, w64, List.length_append, List.length_map, Nat.mul_one, beq_self_eq_true, PktC.cs, EvC.cs, EntC.cs, KeyC.cs, st_nil, Int.reduceAdd, kys_len, kys_get, ens_len, ens_get]
    repeat' ((first | refine NewB_intro0 (fun b => ?_) | (refine NewB_intro (fun b hb => ?_); simp only [ln_cons2, ln_nil, and_true] at hb) | (with_reducible apply wA; focus exact OM_a) | ((first | refine gW_sp ?_ | refine condW_sp ?_ | refine pickW_sp ?_); (try refine Sp_n ?_); (first | refine wT ?_ | refine wF ?_ | refine wL (fun h h' => ?_) (fun h h' => ?_) | refine wE (fun h h' => ?_) (fun h h' => ?_) | refine Sp_split (fun h => ?_) (fun h => ?_)) <;> (try (exfalso; omega))) | refine TreeW_intro (by rfl) ?_ | refine TreeW_all ?_ | refine upQ_intro ?_ | refine Two_intro ?_ ?_ | exact wK | exact wD | (simp only [Fact, Bool.not_eq_true', Bool.not_eq_false', decide_eq_true_eq, decide_eq_false_iff_not] at *; exact wD) | (show (_ : Nat) ≤ _; omega)) <;> (try simp (disch := omega) only [*, ↓Ed, Eu, ↓reduceIte, reduceCtorEq, Nat.reduceAdd, Nat.reduceEqDiff, Nat.reduceLT, Nat.reduceLeDiff, Int.reduceToNat, Int.reduceEq, Int.reduceLT, Int.reduceLE, w64, List.length_append, List.length_map, Nat.mul_one, beq_self_eq_true, PktC.cs, EvC.cs, EntC.cs, KeyC.cs, st_nil, Int.reduceAdd, kys_len, kys_get, ens_len, ens_get]))
    all_goals exact ro_mk (by simp [LeL, lk, hb, r_two, rl_cons, rl_nil, arR, al_bool, al_int]) dom1
theorem end_dec2 (a b : EndP) : (decide (a.1 = b.1) && decide (a.2 = b.2)) = decide (a = b) := by
  rw [Bool.eq_iff_iff]; simp [Prod.ext_iff]
theorem ens_take (l : List EndP) (i : Nat) : (ens l).take i = ens (l.take i) := by simp [ens, List.map_take]
theorem ens_drop (l : List EndP) (i : Nat) : (ens l).drop i = ens (l.drop i) := by simp [ens, List.map_drop]
theorem ens_app (l m : List EndP) : ens (l ++ m) = ens l ++ ens m := by simp [ens]
theorem ens_one (c : EndP) (l : List EndP) : ens (c :: l) = [.str c.1, .int .i64 c.2] :: ens l := rfl
theorem t_dclose (p : Nat) (kc ec cc : AV) (C : List EndP) (hk : cc.alias = .sl none 2 (ens C)) (hr : Rise endLt C) (hl : C.length ≤ 1000) (c : EndP) :
    CT Try.prog 39 [.ptr p 0, .agg [.str c.1, .int .i64 c.2]] (lk [(p, [kc, ec, cc])]) (fun r o => r = .int .i64 (if c ∈ C then 8 else 0) ∧
      o = lk [(p, [kc, ec, if c ∈ C then cc else .sl (some 23) 2 (ens (C.take (plL endLt c C) ++ [c] ++ C.drop (plL endLt c C)))])]) := by
  refine okt_ligref22_Table_close _ _ _ (by simp) ?_
  have hp := pl_le endLt c C
  have hdr : List.take C.length (ens C) = ens C := by rw [← ens_len C, List.take_length]
  simp only [c_ligref22_Table_close, hk, ↓Ed, Eu, ↓reduceIte, reduceCtorEq, Nat.reduceAdd, Nat.reduceEqDiff, Nat.reduceLT, Nat.reduceLeDiff, Int.reduceToNat, Int.reduceEq, Int.reduceLT, Int.reduceLE, w64, List.length_append, List.length_map, Nat.mul_one, beq_self_eq_true, PktC.cs, EvC.cs, EntC.cs, KeyC.cs, st_nil, Int.reduceAdd, kys_len, kys_get, ens_len, ens_get]
  repeat' ((first | refine NewB_intro0 (fun b => ?_) | (refine NewB_intro (fun b hb => ?_); simp only [ln_cons2, ln_nil, and_true] at hb) | (with_reducible apply wA; focus exact OM_a) | ((first | refine gW_sp ?_ | refine condW_sp ?_ | refine pickW_sp ?_); (try refine Sp_n ?_); (first | refine wT ?_ | refine wF ?_ | refine wL (fun h h' => ?_) (fun h h' => ?_) | refine wE (fun h h' => ?_) (fun h h' => ?_) | refine Sp_split (fun h => ?_) (fun h => ?_)) <;> (try (exfalso; omega))) | refine TreeW_intro (by rfl) ?_ | refine TreeW_all ?_ | refine upQ_intro ?_ | refine Two_intro ?_ ?_ | exact wK | exact wD | (simp only [Fact, Bool.not_eq_true', Bool.not_eq_false', decide_eq_true_eq, decide_eq_false_iff_not] at *; exact wD) | (show (_ : Nat) ≤ _; omega)) <;> (try simp (disch := omega) only [*, ↓Ed, Eu, ↓reduceIte, reduceCtorEq, Nat.reduceAdd, Nat.reduceEqDiff, Nat.reduceLT, Nat.reduceLeDiff, Int.reduceToNat, Int.reduceEq, Int.reduceLT, Int.reduceLE, w64, List.length_append, List.length_map, Nat.mul_one, beq_self_eq_true, PktC.cs, EvC.cs, EntC.cs, KeyC.cs, st_nil, Int.reduceAdd, kys_len, kys_get, ens_len, ens_get]))
  have hm := pl_mem endSTO hr (x := c) default
  refine wpx_loop (fun i : Nat => ⟨lk [(0, .ptr p 0), (3, .ptr b 0), (5, .int .i64 (i : Int))], lk [(b, [.str c.1, .int .i64 c.2]), (p, [kc, ec, cc])]⟩) (fun i => i ≤ plL endLt c C) (fun i => C.length - i) 0 (by omega) (Le_lit (by simp [LeL, lk, hb])) ?_
  intro i hi
  by_cases hlt : i < plL endLt c C
  · have f1 : Fact (decide ((i : Int) < C.length) = true) := by simp only [Fact, Bool.not_eq_true', Bool.not_eq_false', decide_eq_true_eq, decide_eq_false_iff_not]; omega
    have hL := p_LessE (C.getD i default) c
    rw [pl_before endLt c C i default hlt] at hL
    generalize hx : C.getD i default = x at hL
    clear hm hr
    simp (disch := omega) only [hk, hx, hb, ↓Ed, Eu, ↓reduceIte, reduceCtorEq, Nat.reduceAdd, Nat.reduceEqDiff, Nat.reduceLT, Nat.reduceLeDiff, Int.reduceToNat, Int.reduceEq, Int.reduceLT, Int.reduceLE, w64, List.length_append, List.length_map, Nat.mul_one, beq_self_eq_true, PktC.cs, EvC.cs, EntC.cs, KeyC.cs, st_nil, Int.reduceAdd, kys_len, kys_get, ens_len, ens_get]
    repeat' ((first | refine CallO_pure (hL) ?_ | refine CallW_intro (hL) ?_ | refine NewB_intro0 (fun b => ?_) | (refine NewB_intro (fun b hb => ?_); simp only [ln_cons2, ln_nil, and_true] at hb) | (with_reducible apply wA; focus exact OM_a) | ((first | refine gW_sp ?_ | refine condW_sp ?_ | refine pickW_sp ?_); (try refine Sp_n ?_); (first | refine wT ?_ | refine wF ?_ | refine wL (fun h h' => ?_) (fun h h' => ?_) | refine wE (fun h h' => ?_) (fun h h' => ?_) | refine Sp_split (fun h => ?_) (fun h => ?_)) <;> (try (exfalso; omega))) | refine TreeW_intro (by rfl) ?_ | refine TreeW_all ?_ | refine upQ_intro ?_ | refine Two_intro ?_ ?_ | exact wK | exact wD | (simp only [Fact, Bool.not_eq_true', Bool.not_eq_false', decide_eq_true_eq, decide_eq_false_iff_not] at *; exact wD) | (show (_ : Nat) ≤ _; omega)) <;> (try simp (disch := omega) only [*, ↓Ed, Eu, ↓reduceIte, reduceCtorEq, Nat.reduceAdd, Nat.reduceEqDiff, Nat.reduceLT, Nat.reduceLeDiff, Int.reduceToNat, Int.reduceEq, Int.reduceLT, Int.reduceLE, w64, List.length_append, List.length_map, Nat.mul_one, beq_self_eq_true, PktC.cs, EvC.cs, EntC.cs, KeyC.cs, st_nil, Int.reduceAdd, kys_len, kys_get, ens_len, ens_get]))
    all_goals exact Round_lit (i + 1) ⟨Le_lit (by simp [LeL, lk, hb]), by omega, by omega⟩
  have hie : i = plL endLt c C := by omega
  by_cases hil : i < C.length
  · have f1 : Fact (decide ((i : Int) < C.length) = true) := by simp only [Fact, Bool.not_eq_true', Bool.not_eq_false', decide_eq_true_eq, decide_eq_false_iff_not]; omega
    have hL := p_LessE (C.getD i default) c
    have hat := pl_at endLt c C default (by omega)
    rw [← hie] at hat hm
    rw [hat] at hL
    have hkd := end_dec2 (C.getD i default) c
    have hmd : c ∈ C ↔ C.getD i default = c := by
      rw [hm]
      exact ⟨fun h => h.2, fun h => ⟨hil, h⟩⟩
    rw [← hie]
    by_cases hq : C.getD i default = c
    · rw [if_pos (hmd.2 hq), if_pos (hmd.2 hq)]
      rw [decide_eq_true hq] at hkd
      generalize hx : C.getD i default = x at *
      clear hm hr hat hmd hie hq
      simp (disch := omega) only [hk, hx, hkd, hb, ↓Ed, Eu, ↓reduceIte, reduceCtorEq, Nat.reduceAdd, Nat.reduceEqDiff, Nat.reduceLT, Nat.reduceLeDiff, Int.reduceToNat, Int.reduceEq, Int.reduceLT, Int.reduceLE, w64, List.length_append, List.length_map, Nat.mul_one, beq_self_eq_true, PktC.cs, EvC.cs, EntC.cs, KeyC.cs, st_nil, Int.reduceAdd, kys_len, kys_get, ens_len, ens_get]
      repeat' ((first | refine CallO_pure (hL) ?_ | refine CallW_intro (hL) ?_ | refine NewB_intro0 (fun b => ?_) | (refine NewB_intro (fun b hb => ?_); simp only [ln_cons2, ln_nil, and_true] at hb) | (with_reducible apply wA; focus exact OM_a) | ((first | refine gW_sp ?_ | refine condW_sp ?_ | refine pickW_sp ?_); (try refine Sp_n ?_); (first | refine wT ?_ | refine wF ?_ | refine wL (fun h h' => ?_) (fun h h' => ?_) | refine wE (fun h h' => ?_) (fun h h' => ?_) | refine Sp_split (fun h => ?_) (fun h => ?_)) <;> (try (exfalso; omega))) | refine TreeW_intro (by rfl) ?_ | refine TreeW_all ?_ | refine upQ_intro ?_ | refine Two_intro ?_ ?_ | exact wK | exact wD | (simp only [Fact, Bool.not_eq_true', Bool.not_eq_false', decide_eq_true_eq, decide_eq_false_iff_not] at *; exact wD) | (show (_ : Nat) ≤ _; omega)) <;> (try simp (disch := omega) only [*, ↓Ed, Eu, ↓reduceIte, reduceCtorEq, Nat.reduceAdd, Nat.reduceEqDiff, Nat.reduceLT, Nat.reduceLeDiff, Int.reduceToNat, Int.reduceEq, Int.reduceLT, Int.reduceLE, w64, List.length_append, List.length_map, Nat.mul_one, beq_self_eq_true, PktC.cs, EvC.cs, EntC.cs, KeyC.cs, st_nil, Int.reduceAdd, kys_len, kys_get, ens_len, ens_get]))
      all_goals exact ro_mk (by simp [LeL, lk, hb, resR, arR]) dom1
    · rw [if_neg (fun h => hq (hmd.1 h)), if_neg (fun h => hq (hmd.1 h))]
      rw [decide_eq_false hq] at hkd
      generalize hx : C.getD i default = x at *
      clear hm hr hat hmd hie hq
      simp (disch := omega) only [hk, hx, hkd, hb, ↓Ed, Eu, ↓reduceIte, reduceCtorEq, Nat.reduceAdd, Nat.reduceEqDiff, Nat.reduceLT, Nat.reduceLeDiff, Int.reduceToNat, Int.reduceEq, Int.reduceLT, Int.reduceLE, w64, List.length_append, List.length_map, Nat.mul_one, beq_self_eq_true, PktC.cs, EvC.cs, EntC.cs, KeyC.cs, st_nil, Int.reduceAdd, kys_len, kys_get, ens_len, ens_get]
      repeat' ((first | refine CallO_pure (hL) ?_ | refine CallW_intro (hL) ?_ | refine NewB_intro0 (fun b => ?_) | (refine NewB_intro (fun b hb => ?_); simp only [ln_cons2, ln_nil, and_true] at hb) | (with_reducible apply wA; focus exact OM_a) | ((first | refine gW_sp ?_ | refine condW_sp ?_ | refine pickW_sp ?_); (try refine Sp_n ?_); (first | refine wT ?_ | refine wF ?_ | refine wL (fun h h' => ?_) (fun h h' => ?_) | refine wE (fun h h' => ?_) (fun h h' => ?_) | refine Sp_split (fun h => ?_) (fun h => ?_)) <;> (try (exfalso; omega))) | refine TreeW_intro (by rfl) ?_ | refine TreeW_all ?_ | refine upQ_intro ?_ | refine Two_intro ?_ ?_ | exact wK | exact wD | (simp only [Fact, Bool.not_eq_true', Bool.not_eq_false', decide_eq_true_eq, decide_eq_false_iff_not] at *; exact wD) | (show (_ : Nat) ≤ _; omega)) <;> (try simp (disch := omega) only [*, ↓Ed, Eu, ↓reduceIte, reduceCtorEq, Nat.reduceAdd, Nat.reduceEqDiff, Nat.reduceLT, Nat.reduceLeDiff, Int.reduceToNat, Int.reduceEq, Int.reduceLT, Int.reduceLE, w64, List.length_append, List.length_map, Nat.mul_one, beq_self_eq_true, PktC.cs, EvC.cs, EntC.cs, KeyC.cs, st_nil, Int.reduceAdd, kys_len, kys_get, ens_len, ens_get]))
      refine ⟨⟨by simp only [ens_take, ens_len, List.length_take]; omega, by simp only [ens_take, ens_len, List.length_take, maxLen]; omega⟩, ⟨by simp only [ens_take, ens_len, List.length_take]; omega, by simp only [ens_take, ens_len, List.length_take, maxLen]; omega⟩, ⟨by omega, by omega⟩, ⟨by simp only [hdr, ens_take, ens_drop, ens_len, List.length_take, List.length_drop]; omega, by simp only [hdr, ens_take, ens_drop, ens_len, List.length_take, List.length_drop, maxLen]; omega⟩, ro_mk (by simp [LeL, lk, hb, resR, arR, hdr, ens_app, ens_take, ens_drop, ens_one]) dom1⟩
  · have f1 : Fact (decide ((i : Int) < C.length) = false) := by simp only [Fact, Bool.not_eq_true', Bool.not_eq_false', decide_eq_true_eq, decide_eq_false_iff_not]; omega
    have hmd : ¬ c ∈ C := by
      rw [hm]
      exact fun h => by omega
    rw [if_neg hmd, if_neg hmd, ← hie]
    clear hm hr hmd hie
    simp (disch := omega) only [hk, hb, ↓Ed, Eu, ↓reduceIte, reduceCtorEq, Nat.reduceAdd, Nat.reduceEqDiff, Nat.reduceLT, Nat.reduceLeDiff, Int.reduceToNat, Int.reduceEq, Int.reduceLT, Int.reduceLE, w64, List.length_append, List.length_map, Nat.mul_one, beq_self_eq_true, PktC.cs, EvC.cs, EntC.cs, KeyC.cs, st_nil, Int.reduceAdd, kys_len, kys_get, ens_len, ens_get]
    repeat' ((first | refine NewB_intro0 (fun b => ?_) | (refine NewB_intro (fun b hb => ?_); simp only [ln_cons2, ln_nil, and_true] at hb) | (with_reducible apply wA; focus exact OM_a) | ((first | refine gW_sp ?_ | refine condW_sp ?_ | refine pickW_sp ?_); (try refine Sp_n ?_); (first | refine wT ?_ | refine wF ?_ | refine wL (fun h h' => ?_) (fun h h' => ?_) | refine wE (fun h h' => ?_) (fun h h' => ?_) | refine Sp_split (fun h => ?_) (fun h => ?_)) <;> (try (exfalso; omega))) | refine TreeW_intro (by rfl) ?_ | refine TreeW_all ?_ | refine upQ_intro ?_ | refine Two_intro ?_ ?_ | exact wK | exact wD | (simp only [Fact, Bool.not_eq_true', Bool.not_eq_false', decide_eq_true_eq, decide_eq_false_iff_not] at *; exact wD) | (show (_ : Nat) ≤ _; omega)) <;> (try simp (disch := omega) only [*, ↓Ed, Eu, ↓reduceIte, reduceCtorEq, Nat.reduceAdd, Nat.reduceEqDiff, Nat.reduceLT, Nat.reduceLeDiff, Int.reduceToNat, Int.reduceEq, Int.reduceLT, Int.reduceLE, w64, List.length_append, List.length_map, Nat.mul_one, beq_self_eq_true, PktC.cs, EvC.cs, EntC.cs, KeyC.cs, st_nil, Int.reduceAdd, kys_len, kys_get, ens_len, ens_get]))
    refine ⟨⟨by simp only [ens_take, ens_len, List.length_take]; omega, by simp only [ens_take, ens_len, List.length_take, maxLen]; omega⟩, ⟨by simp only [ens_take, ens_len, List.length_take]; omega, by simp only [ens_take, ens_len, List.length_take, maxLen]; omega⟩, ⟨by omega, by omega⟩, ⟨by simp only [hdr, ens_take, ens_drop, ens_len, List.length_take, List.length_drop]; omega, by simp only [hdr, ens_take, ens_drop, ens_len, List.length_take, List.length_drop, maxLen]; omega⟩, ro_mk (by simp [LeL, lk, hb, resR, arR, hdr, ens_app, ens_take, ens_drop, ens_one]) dom1⟩
end Go.Proofs.Ytobopbjedojebaa
