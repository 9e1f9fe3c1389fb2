import Derived.Test.YtobopbjedojebaaK17
import Derived.Test.YtobopbjedojebaaK18
/- the document's table as objects: its entries lie in a row of their own -/
namespace Go.Proofs.Ytobopbjedojebaa
set_option linter.all false
open Go.RowKit Classical
set_option maxRecDepth 100000
/-- The block of a row of entries. -/
def hcE (cap : Nat) (l : List EntC) : List AV := hc 14 cap (l.map EntC.cs)
theorem entRow : RowT EntC.cs 14 where
  len := fun _ => rfl
  no := fun x c h => by
    simp only [EntC.cs, List.mem_cons, List.not_mem_nil, or_false] at h
    rcases h with rfl | rfl | rfl | rfl | rfl | rfl | rfl | rfl | rfl | rfl | rfl | rfl | rfl | rfl <;> exact ⟨fun _ _ _ e => (by cases e), fun _ e => (by cases e)⟩
/-- A call whose end is told by some x. -/
theorem CallO_ex {P : Program} {d : Option Nat} {s : St} {K : St → Prop} {α : Type} {f : Nat} {vs : List AV} {r : AV} {o1 : List (Nat × List AV)} {o2 : α → List (Nat × List AV)} {p : α → Prop}
    (h : CT P f vs (lk o1) (fun r' o' => r' = r ∧ ∃ x, p x ∧ o' = lk (o2 x))) (hsub : ∀ b cs, lk o1 b = some cs → s.o b = some cs)
    (hK : ∀ x, p x → (∀ b cs, lk (o2 x) b = some cs → lk o1 b = none → s.o b = none) → KS (St.put ⟨s.t, ovr (o2 x) s.o⟩ d r) K) : CallO P f vs d s K := by
  refine ⟨lk o1, _, hsub, h, ?_⟩
  rintro r' o' ⟨rfl, x, hx, rfl⟩ hf
  exact hK x hx hf
/-- What folding leaves: the cells of keys and closed ends, the row's block and room, what is left of the old row. -/
structure Fx where
  k : AV
  c : AV
  g : Nat
  cap : Nat
  X : List AV
def Fx.ok (x : Fx) (b : Nat) (t : Tb) : Prop := x.k.alias = .sl none 4 (kys (dOf t).K) ∧ x.c.alias = .sl none 2 (ens (dOf t).C) ∧ (¬ x.g = b ∧ ¬ b = x.g) ∧ (dOf t).E.length ≤ x.cap
abbrev Fx.o (x : Fx) (b g : Nat) (t : Tb) : List (Nat × List AV) := [(b, [x.k, .hsl x.g 53 14 (dOf t).E.length x.cap, x.c]), (x.g, hcE x.cap (dOf t).E), (g, x.X)]
theorem ro_ex {s : St} {rs : List AR} {o1 : List (Nat × List AV)} {r : AV} {α : Type} {o2 : α → List (Nat × List AV)} {q : α → Prop} (x : α) (h : resR s rs r ∧ LeL (o2 x) s.o) (hq : q x)
    (hd : ∀ b cs, lk o1 b = some cs → ∃ cs', lk (o2 x) b = some cs') : RetO s rs (lk o1) (fun r' o' => r' = r ∧ ∃ x, q x ∧ o' = lk (o2 x)) :=
  ⟨_, h.1, lk (o2 x), LeL_ok h.2, hd, rfl, x, hq, rfl⟩
theorem dom_fx {p g g' : Nat} {a b c d e : List AV} : ∀ b' cs, lk [(p, a), (g, b)] b' = some cs → ∃ cs', lk [(p, c), (g', d), (g, e)] b' = some cs' := by
  intro b' cs h
  rw [lk_cons] at h ⊢
  by_cases hb : b' = p
  · rw [if_pos hb]; exact ⟨_, rfl⟩
  rw [if_neg hb] at h ⊢
  rw [lk_cons] at h ⊢
  rw [lk_cons]
  by_cases hb2 : b' = g'
  · rw [if_pos hb2]; exact ⟨_, rfl⟩
  rw [if_neg hb2]
  by_cases hb3 : b' = g
  · rw [if_pos hb3]; exact ⟨_, rfl⟩
  · rw [if_neg hb3] at h; cases h
theorem key_in {t : Tb} {k : KeyC} : decide (k ∈ (dOf t).K) = (findE t.K k).isSome := by
  rw [Bool.eq_iff_iff, decide_eq_true_eq]; exact mem_keysS
theorem dK_len (t : Tb) : (dOf t).K.length = t.K.length := by
  show (srtL keyLt (t.K.map (·.1))).length = _
  rw [(srtL_perm _ _).length_eq, List.length_map]
theorem dE_len (t : Tb) : (dOf t).E.length = (dOf t).K.length := by
  show ((keysS t).map (entS t)).length = (keysS t).length
  rw [List.length_map]
theorem dC_len (t : Tb) : (dOf t).C.length = t.C.length := (srtL_perm _ _).length_eq
theorem kys_take (l : List KeyC) (i : Nat) : (kys l).take i = kys (l.take i) := by simp [kys, List.map_take]
theorem kys_drop (l : List KeyC) (i : Nat) : (kys l).drop i = kys (l.drop i) := by simp [kys, List.map_drop]
theorem kys_app (l m : List KeyC) : kys (l ++ m) = kys l ++ kys m := by simp [kys]
theorem kys_one (c : KeyC) (l : List KeyC) : kys (c :: l) = c.cs :: kys l := rfl
theorem ent_at {t : Tb} (hN : (t.K.map (·.1)).Nodup) {k : KeyC} {x : EntC} (hf : findE t.K k = some x) : plL keyLt k (dOf t).K < (dOf t).K.length ∧ (dOf t).E.getD (plL keyLt k (dOf t).K) default = x := by
  obtain ⟨p1, p2⟩ := (pl_mem keySTO (srtL_rise keySTO hN) default).1 (mem_keysS.2 (by rw [hf]; rfl) : k ∈ keysS t)
  refine ⟨p1, ?_⟩
  show ((keysS t).map (entS t)).getD (plL keyLt k (keysS t)) default = x
  have h : (keysS t)[plL keyLt k (keysS t)]? = some k := by
    have p1' : plL keyLt k (keysS t) < (keysS t).length := p1
    have p2' : (keysS t).getD (plL keyLt k (keysS t)) default = k := p2
    rw [List.getElem?_eq_getElem p1']
    simpa [List.getD, p1'] using p2'
  simp only [List.getD, List.getElem?_map, h, Option.map_some, Option.getD_some, entS, hf]
section
variable {d : Option Nat} {s : St} {K : St → Prop}
theorem hapA {e g n cap : Nat} {l : List EntC} (h0 : Fact (n = 0) → KS (St.put s d (.hnil e 14)) K)
    (h1 : 0 < n → NewB s.o (fun b => ∀ cap', n ≤ cap' → KS (St.put ⟨s.t, upd s.o b (some (hcE cap' (l.take n)))⟩ d (.hsl b e 14 n cap')) K))
    (hg : s.o g = some (hcE cap l) := by first | ((repeat (first | exact lk_hd _ _ _ | (refine lk_tl ?_ ?_; (focus (first | assumption | (simp only [*, not_false_eq_true]; done)))))); done) | fail) (hb : n ≤ 100000 := by omega) (hn : n ≤ l.length := by omega) : HapW e 14 112 d s K (.hnil e 14) (.hsl g e 14 n cap) := by
  have hl : (l.take n).length = n := by rw [List.length_take]; omega
  refine entRow.hap_nil (m := l.take n) (entRow.src_pre hg hn) (by rw [hl]; exact ⟨by omega, by unfold maxLen; omega⟩) (fun h => h0 (by rw [hl] at h; exact h)) (fun h => ?_)
  rw [hl] at h ⊢
  exact h1 h
theorem hapB {e : Nat} {own : Option Nat} (x : EntC) (h1 : NewB s.o (fun b => ∀ cap', 1 ≤ cap' → KS (St.put ⟨s.t, upd s.o b (some (hcE cap' [x]))⟩ d (.hsl b e 14 1 cap')) K)) : HapW e 14 112 d s K (.hnil e 14) (.sl own 14 [x.cs]) :=
  entRow.hap_nil (m := [x]) (entRow.src_sl s.o own [x]) ⟨by simp, by simp [maxLen]⟩ (fun h => by cases h) (fun _ => h1)
theorem hapC {e g n cap : Nat} {own : Option Nat} {l : List EntC} (x : EntC) (h1 : NewB (upd s.o g none) (fun b => ∀ cap', n + 1 ≤ cap' → KS (St.put ⟨s.t, upd (upd s.o g none) b (some (hcE cap' (l ++ [x])))⟩ d (.hsl b e 14 (n + 1) cap')) K))
    (hb : n ≤ 100000 := by omega) (hcp : n ≤ cap := by omega) (hg : s.o g = some (hcE cap l) := by first | ((repeat (first | exact lk_hd _ _ _ | (refine lk_tl ?_ ?_; (focus (first | assumption | (simp only [*, not_false_eq_true]; done)))))); done) | fail) (hl : l.length = n := by first | rfl | ((try simp only [List.length_append, List.length_take, List.length_cons, List.length_nil]); omega) | fail) : HapW e 14 112 d s K (.hsl g e 14 n cap) (.sl own 14 [x.cs]) := by
  have ht : l.take n = l := by rw [← hl, List.take_length]
  refine entRow.hap_row (m := [x]) hg (entRow.src_sl s.o own [x]) ⟨by omega, by omega⟩ ⟨by simp only [List.length_cons, List.length_nil]; omega, by simp only [List.length_cons, List.length_nil, maxLen]; omega⟩ ?_
  rw [ht]; exact h1
theorem hapD' {e g n cap g2 i m cap2 : Nat} {l l2 : List EntC} (h1 : NewB (upd s.o g none) (fun b => ∀ cap', n + m ≤ cap' → KS (St.put ⟨s.t, upd (upd s.o g none) b (some (hcE cap' (l ++ l2.drop i)))⟩ d (.hsl b e 14 (n + m) cap')) K))
    (hb : n ≤ 100000 ∧ m ≤ 100000 := by omega) (hcp : n ≤ cap := by omega) (hg2 : s.o g2 = some (hcE cap2 l2) := by first | ((repeat (first | exact lk_hd _ _ _ | (refine lk_tl ?_ ?_; (focus (first | assumption | (simp only [*, not_false_eq_true]; done)))))); done) | fail) (hg : s.o g = some (hcE cap l) := by first | ((repeat (first | exact lk_hd _ _ _ | (refine lk_tl ?_ ?_; (focus (first | assumption | (simp only [*, not_false_eq_true]; done)))))); done) | fail) (hl : l.length = n := by first | rfl | ((try simp only [List.length_append, List.length_take, List.length_cons, List.length_nil]); omega) | fail) (hm : i + m = l2.length := by first | rfl | ((try simp only [List.length_append, List.length_take, List.length_cons, List.length_nil]); omega) | fail) : HapW e 14 112 d s K (.hsl g e 14 n cap) (.hss g2 14 i m) := by
  have ht : l.take n = l := by rw [← hl, List.take_length]
  have hd : (l2.drop i).take m = l2.drop i := by rw [List.take_of_length_le]; rw [List.length_drop]; omega
  have hdl : (l2.drop i).length = m := by rw [List.length_drop]; omega
  refine entRow.hap_row (m := l2.drop i) hg (by rw [← hd]; exact entRow.src_part hg2 (by omega)) ⟨by omega, by omega⟩ ⟨by rw [hdl]; omega, by rw [hdl]; unfold maxLen; omega⟩ ?_
  rw [ht, hdl]; exact h1
end
set_option maxHeartbeats 8000000 in
theorem t_dFold1 (p g : Nat) (hg : ¬ g = p ∧ ¬ p = g) (kc cc : AV) (cap : Nat) (t : Tb) (hk : kc.alias = .sl none 4 (kys (dOf t).K)) (hcc : cc.alias = .sl none 2 (ens (dOf t).C)) (ht : Tgood 900 t) (hcap : (dOf t).E.length ≤ cap)
    (e : EvC) (h1 : e.p.s.length ≤ 1000000) (h2 : e.p.d.length ≤ 1000000) (h3 : e.p.x.length ≤ 1000000) (h4 : e.e.length ≤ 1000000) (h5 : e.a.length ≤ 1000000) :
    CT Try.prog 15 [.ptr p 0, .agg e.cs] (lk [(p, [kc, .hsl g 53 14 (dOf t).E.length cap, cc]), (g, hcE cap (dOf t).E)])
      (fun r o => r = .int .i64 (foldT t e).2 ∧ ∃ x : Fx, x.ok p (foldT t e).1 ∧ o = lk (x.o p g (foldT t e).1)) := by
  have hO := p_rOwn e h1 h2 h3 h4 h5
  have hM := p_rMayE e h1 h2 h3 h4 h5
  have same : Fx.ok ⟨kc, cc, g, cap, hcE cap (dOf t).E⟩ p t := ⟨hk, hcc, hg, hcap⟩
  refine okt_ligref22_Table_Fold _ _ _ (by simp) ?_
  by_cases hm : mayE e = true
  rotate_left
  · have hm' : mayE e = false := by simpa using hm
    rw [own_no hm'] at hO
    rw [fold_no hm']
    rw [hm'] at hM
    clear hm hm' ht hcap
    generalize hX : hcE cap (dOf t).E = X at same ⊢
    simp only [c_ligref22_Table_Fold, hg, ↓Ed, Eu, ↓reduceIte, reduceCtorEq, Nat.reduceAdd, Nat.reduceEqDiff, Nat.reduceLT, Nat.reduceLeDiff, Int.reduceToNat, Int.reduceEq, Int.reduceLT, Int.reduceLE, w64, List.length_append, List.length_map, Nat.mul_one, beq_self_eq_true, PktC.cs, EvC.cs, EntC.cs, KeyC.cs, st_nil, Int.reduceAdd, kys_len, kys_get, ens_len, ens_get]
    repeat' ((first | refine CallO_pure (hM) ?_ | refine CallO_pure (hO) ?_ | refine NewB_intro0 (fun b => ?_) | (refine NewB_intro (fun b hb => ?_); simp only [ln_cons2, ln_nil, and_true] at hb) | (with_reducible apply wA; focus exact OM_a) | ((first | refine gW_sp ?_ | refine condW_sp ?_ | refine pickW_sp ?_); (try refine Sp_n ?_); (first | refine wT ?_ | refine wF ?_ | refine wL (fun h h' => ?_) (fun h h' => ?_) | refine wE (fun h h' => ?_) (fun h h' => ?_) | refine Sp_split (fun h => ?_) (fun h => ?_)) <;> (try (exfalso; omega))) | refine TreeW_intro (by rfl) ?_ | refine TreeW_all ?_ | refine upQ_intro ?_ | refine Two_intro ?_ ?_ | exact wK | exact wD | (simp only [Fact, Bool.not_eq_true', Bool.not_eq_false', decide_eq_true_eq, decide_eq_false_iff_not] at *; exact wD) | (show (_ : Nat) ≤ _; omega)) <;> (try simp (disch := omega) only [*, ↓Ed, Eu, ↓reduceIte, reduceCtorEq, Nat.reduceAdd, Nat.reduceEqDiff, Nat.reduceLT, Nat.reduceLeDiff, Int.reduceToNat, Int.reduceEq, Int.reduceLT, Int.reduceLE, w64, List.length_append, List.length_map, Nat.mul_one, beq_self_eq_true, PktC.cs, EvC.cs, EntC.cs, KeyC.cs, st_nil, Int.reduceAdd, kys_len, kys_get, ens_len, ens_get]))
    all_goals exact ro_ex ⟨kc, cc, g, cap, X⟩ (by simp [LeL, lk, hg, resR, arR, hX]) same dom_fx
  have hr := may_range hm
  have hF := fun k => t_dFind p kc (.hsl g 53 14 (dOf t).E.length cap) cc (dOf t).K hk (srtL_rise keySTO ht.k) (by rw [dK_len]; have := ht.lk; omega) k
  rcases kfacts e.k with ⟨k1, k2, k3, k4, k5, k6, k7, k8, k9, k10, k11, k12⟩ | ⟨k1, k2, k3, k4, k5, k6, k7, k8, k9, k10, k11, k12⟩ | ⟨k1, k2, k3, k4, k5, k6, k7, k8, k9, k10, k11, k12⟩ | ⟨k1, k2, k3, k4, k5, k6, k7, k8, k9, k10, k11, k12⟩ | ⟨k1, k2, k3, k4, k5, k6, k7, k8, k9, k10, k11, k12⟩ | ⟨k1, k2, k3, k4, k5, k6, k7, k8, k9, k10, k11, k12⟩ | ⟨k1, k2, k3, k4, k5, k6, k7, k8, k9, k10, k11, k12⟩ | ⟨k1, k2, k3, k4, k5, k6, k7, k8, k9, k10, k11, k12⟩ | ⟨k1, k2, k3, k4, k5, k6, k7, k8, k9, k10, k11, k12⟩
  rotate_left 5
  · have hS := t_dclose p kc (.hsl g 53 14 (dOf t).E.length cap) cc (dOf t).C hcc (srtL_rise endSTO ht.c) (by rw [dC_len]; have := ht.lc; omega) (e.e, e.ec)
    rw [fold_cl hm k12]
    rw [hm] at hM
    by_cases hcm : ((e.e, e.ec) : EndP) ∈ t.C
    · have hcm' : ((e.e, e.ec) : EndP) ∈ (dOf t).C := mem_closS.2 hcm
      rw [if_pos hcm, if_pos hcm]
      rw [if_pos hcm', if_pos hcm'] at hS
      clear hm hr k12 ht hcap hF hcm hcm' hO
      generalize hX : hcE cap (dOf t).E = X at same ⊢
      simp only [c_ligref22_Table_Fold, hg, ↓Ed, Eu, ↓reduceIte, reduceCtorEq, Nat.reduceAdd, Nat.reduceEqDiff, Nat.reduceLT, Nat.reduceLeDiff, Int.reduceToNat, Int.reduceEq, Int.reduceLT, Int.reduceLE, w64, List.length_append, List.length_map, Nat.mul_one, beq_self_eq_true, PktC.cs, EvC.cs, EntC.cs, KeyC.cs, st_nil, Int.reduceAdd, kys_len, kys_get, ens_len, ens_get]
      repeat' ((first | refine CallO_pure (hM) ?_ | refine c1 (hS) ?_ | refine NewB_intro0 (fun b => ?_) | (refine NewB_intro (fun b hb => ?_); simp only [ln_cons2, ln_nil, and_true] at hb) | (with_reducible apply wA; focus exact OM_a) | ((first | refine gW_sp ?_ | refine condW_sp ?_ | refine pickW_sp ?_); (try refine Sp_n ?_); (first | refine wT ?_ | refine wF ?_ | refine wL (fun h h' => ?_) (fun h h' => ?_) | refine wE (fun h h' => ?_) (fun h h' => ?_) | refine Sp_split (fun h => ?_) (fun h => ?_)) <;> (try (exfalso; omega))) | refine TreeW_intro (by rfl) ?_ | refine TreeW_all ?_ | refine upQ_intro ?_ | refine Two_intro ?_ ?_ | exact wK | exact wD | (simp only [Fact, Bool.not_eq_true', Bool.not_eq_false', decide_eq_true_eq, decide_eq_false_iff_not] at *; exact wD) | (show (_ : Nat) ≤ _; omega)) <;> (try simp (disch := omega) only [*, ↓Ed, Eu, ↓reduceIte, reduceCtorEq, Nat.reduceAdd, Nat.reduceEqDiff, Nat.reduceLT, Nat.reduceLeDiff, Int.reduceToNat, Int.reduceEq, Int.reduceLT, Int.reduceLE, w64, List.length_append, List.length_map, Nat.mul_one, beq_self_eq_true, PktC.cs, EvC.cs, EntC.cs, KeyC.cs, st_nil, Int.reduceAdd, kys_len, kys_get, ens_len, ens_get]))
      all_goals exact ro_ex ⟨kc, cc, g, cap, X⟩ (by simp [LeL, lk, hg, resR, arR, hX]) same dom_fx
    · have hcm' : ¬ ((e.e, e.ec) : EndP) ∈ (dOf t).C := fun h => hcm (mem_closS.1 h)
      rw [if_neg hcm, if_neg hcm]
      rw [if_neg hcm', if_neg hcm'] at hS
      have hT : Fact ((dOf ⟨t.K, t.C ++ [(e.e, e.ec)]⟩).K = (dOf t).K ∧ (dOf ⟨t.K, t.C ++ [(e.e, e.ec)]⟩).E = (dOf t).E ∧ (dOf ⟨t.K, t.C ++ [(e.e, e.ec)]⟩).C = (dOf t).C.take (plL endLt (e.e, e.ec) (dOf t).C) ++ [(e.e, e.ec)] ++ (dOf t).C.drop (plL endLt (e.e, e.ec) (dOf t).C)) := ⟨rfl, rfl, clos_new ht.c hcm⟩
      generalize (⟨t.K, t.C ++ [(e.e, e.ec)]⟩ : Tb) = T at hT ⊢
      generalize (dOf t).C.take (plL endLt (e.e, e.ec) (dOf t).C) ++ [(e.e, e.ec)] ++ (dOf t).C.drop (plL endLt (e.e, e.ec) (dOf t).C) = C' at hT hS
      clear hm hr k12 ht hF hcm hcm' hO same
      generalize hE : (dOf t).E = E at *
      simp only [c_ligref22_Table_Fold, hg, ↓Ed, Eu, ↓reduceIte, reduceCtorEq, Nat.reduceAdd, Nat.reduceEqDiff, Nat.reduceLT, Nat.reduceLeDiff, Int.reduceToNat, Int.reduceEq, Int.reduceLT, Int.reduceLE, w64, List.length_append, List.length_map, Nat.mul_one, beq_self_eq_true, PktC.cs, EvC.cs, EntC.cs, KeyC.cs, st_nil, Int.reduceAdd, kys_len, kys_get, ens_len, ens_get]
      repeat' ((first | refine CallO_pure (hM) ?_ | refine c1 (hS) ?_ | refine NewB_intro0 (fun b => ?_) | (refine NewB_intro (fun b hb => ?_); simp only [ln_cons2, ln_nil, and_true] at hb) | (with_reducible apply wA; focus exact OM_a) | ((first | refine gW_sp ?_ | refine condW_sp ?_ | refine pickW_sp ?_); (try refine Sp_n ?_); (first | refine wT ?_ | refine wF ?_ | refine wL (fun h h' => ?_) (fun h h' => ?_) | refine wE (fun h h' => ?_) (fun h h' => ?_) | refine Sp_split (fun h => ?_) (fun h => ?_)) <;> (try (exfalso; omega))) | refine TreeW_intro (by rfl) ?_ | refine TreeW_all ?_ | refine upQ_intro ?_ | refine Two_intro ?_ ?_ | exact wK | exact wD | (simp only [Fact, Bool.not_eq_true', Bool.not_eq_false', decide_eq_true_eq, decide_eq_false_iff_not] at *; exact wD) | (show (_ : Nat) ≤ _; omega)) <;> (try simp (disch := omega) only [*, ↓Ed, Eu, ↓reduceIte, reduceCtorEq, Nat.reduceAdd, Nat.reduceEqDiff, Nat.reduceLT, Nat.reduceLeDiff, Int.reduceToNat, Int.reduceEq, Int.reduceLT, Int.reduceLE, w64, List.length_append, List.length_map, Nat.mul_one, beq_self_eq_true, PktC.cs, EvC.cs, EntC.cs, KeyC.cs, st_nil, Int.reduceAdd, kys_len, kys_get, ens_len, ens_get]))
      all_goals (obtain ⟨t1, t2, t3⟩ := hT)
      all_goals exact ro_ex ⟨kc, .sl (some 23) 2 (ens C'), g, cap, hcE cap E⟩ (by simp [LeL, lk, hg, resR, arR, t2]) ⟨by rw [t1]; exact hk, by rw [t3]; rfl, hg, by rw [t2]; exact hcap⟩ dom_fx
  · rw [own_up hm k12] at hO
    rw [fold_up hm k12]
    rw [hm] at hM
    clear hm hr k12 ht hcap hF
    generalize hX : hcE cap (dOf t).E = X at same ⊢
    simp only [c_ligref22_Table_Fold, hg, ↓Ed, Eu, ↓reduceIte, reduceCtorEq, Nat.reduceAdd, Nat.reduceEqDiff, Nat.reduceLT, Nat.reduceLeDiff, Int.reduceToNat, Int.reduceEq, Int.reduceLT, Int.reduceLE, w64, List.length_append, List.length_map, Nat.mul_one, beq_self_eq_true, PktC.cs, EvC.cs, EntC.cs, KeyC.cs, st_nil, Int.reduceAdd, kys_len, kys_get, ens_len, ens_get]
    repeat' ((first | refine CallO_pure (hM) ?_ | refine CallO_pure (hO) ?_ | refine NewB_intro0 (fun b => ?_) | (refine NewB_intro (fun b hb => ?_); simp only [ln_cons2, ln_nil, and_true] at hb) | (with_reducible apply wA; focus exact OM_a) | ((first | refine gW_sp ?_ | refine condW_sp ?_ | refine pickW_sp ?_); (try refine Sp_n ?_); (first | refine wT ?_ | refine wF ?_ | refine wL (fun h h' => ?_) (fun h h' => ?_) | refine wE (fun h h' => ?_) (fun h h' => ?_) | refine Sp_split (fun h => ?_) (fun h => ?_)) <;> (try (exfalso; omega))) | refine TreeW_intro (by rfl) ?_ | refine TreeW_all ?_ | refine upQ_intro ?_ | refine Two_intro ?_ ?_ | exact wK | exact wD | (simp only [Fact, Bool.not_eq_true', Bool.not_eq_false', decide_eq_true_eq, decide_eq_false_iff_not] at *; exact wD) | (show (_ : Nat) ≤ _; omega)) <;> (try simp (disch := omega) only [*, ↓Ed, Eu, ↓reduceIte, reduceCtorEq, Nat.reduceAdd, Nat.reduceEqDiff, Nat.reduceLT, Nat.reduceLeDiff, Int.reduceToNat, Int.reduceEq, Int.reduceLT, Int.reduceLE, w64, List.length_append, List.length_map, Nat.mul_one, beq_self_eq_true, PktC.cs, EvC.cs, EntC.cs, KeyC.cs, st_nil, Int.reduceAdd, kys_len, kys_get, ens_len, ens_get]))
    all_goals exact ro_ex ⟨kc, cc, g, cap, X⟩ (by simp [LeL, lk, hg, resR, arR, hX]) same dom_fx
  · have : e.k < 1 := k12
    omega
  · have : 7 < e.k := k12
    omega
  rotate_left
  all_goals
    have hk1 : e.k = _ := k12
    have d1 : decide (e.k = 1) = _ := k1
    have d4 : decide (e.k = 4) = _ := k4
    have d5 : decide (e.k = 5) = _ := k5
    have d6 : decide (e.k = 6) = _ := k6
    have d7 : decide (e.k = 7) = _ := k7
    have hkk : 1 ≤ e.k ∧ e.k ≤ 5 := by omega
    have hMD := fun x => p_markD x e
    have hMk := fun x => p_marked x e.k
    have hokk : (ownE e).2.2.2 = true := by
      first | rw [own_src hm (by omega)] | rw [own_dst hm (by omega)]
    rw [hokk] at hO
    first
    | have hke : keyE e = ⟨(ownE e).1, (ownE e).2.1, true, (ownE e).2.2.1⟩ := by unfold keyE; rw [show outK e.k = true by rw [hk1]; rfl]
    | have hke : keyE e = ⟨(ownE e).1, (ownE e).2.1, false, (ownE e).2.2.1⟩ := by unfold keyE; rw [show outK e.k = false by rw [hk1]; rfl]
    replace hF := hF (keyE e)
    rw [key_in] at hF
    cases hf0 : findE t.K (keyE e) with
    | none =>
      rw [fold_new hm hkk hf0]
      have hT : Fact ((dOf ⟨t.K ++ [(keyE e, markE (ent0 e.p) e)], t.C⟩).K = (dOf t).K.take (plL keyLt (keyE e) (dOf t).K) ++ [keyE e] ++ (dOf t).K.drop (plL keyLt (keyE e) (dOf t).K) ∧
          (dOf ⟨t.K ++ [(keyE e, markE (ent0 e.p) e)], t.C⟩).E = (dOf t).E.take (plL keyLt (keyE e) (dOf t).K) ++ [markE (ent0 e.p) e] ++ (dOf t).E.drop (plL keyLt (keyE e) (dOf t).K) ∧
          (dOf ⟨t.K ++ [(keyE e, markE (ent0 e.p) e)], t.C⟩).C = (dOf t).C) := by
        rw [dOf_new ht.k (x := markE (ent0 e.p) e) hf0]; exact ⟨rfl, rfl, rfl⟩
      generalize (⟨t.K ++ [(keyE e, markE (ent0 e.p) e)], t.C⟩ : Tb) = T at hT ⊢
      rw [hf0] at hF
      rw [hm] at hM
      have hple := pl_le keyLt (keyE e) (dOf t).K
      have hMD0 := hMD (ent0 e.p)
      generalize hi : plL keyLt (keyE e) (dOf t).K = i at *
      rw [hke] at hF
      simp only [Option.isSome_none] at hF
      clear hMD hMk hm hr k12 hf0 hokk hkk hk1 same
      generalize ownE e = OW at *
      simp only [c_ligref22_Table_Fold, hg, hk, ent0, ↓Ed, Eu, ↓reduceIte, reduceCtorEq, Nat.reduceAdd, Nat.reduceEqDiff, Nat.reduceLT, Nat.reduceLeDiff, Int.reduceToNat, Int.reduceEq, Int.reduceLT, Int.reduceLE, w64, List.length_append, List.length_map, Nat.mul_one, beq_self_eq_true, PktC.cs, EvC.cs, EntC.cs, KeyC.cs, st_nil, Int.reduceAdd, kys_len, kys_get, ens_len, ens_get]
      repeat' ((first | refine CallO_pure (hM) ?_ | refine CallO_pure (hO) ?_ | refine c1 (hF) ?_ | refine CallW_intro (hMD0) ?_ | refine NewB_intro0 (fun b => ?_) | (refine NewB_intro (fun b hb => ?_); simp only [ln_cons2, ln_nil, and_true] at hb) | (with_reducible apply wA; focus exact OM_a) | ((first | refine gW_sp ?_ | refine condW_sp ?_ | refine pickW_sp ?_); (try refine Sp_n ?_); (first | refine wT ?_ | refine wF ?_ | refine wL (fun h h' => ?_) (fun h h' => ?_) | refine wE (fun h h' => ?_) (fun h h' => ?_) | refine Sp_split (fun h => ?_) (fun h => ?_)) <;> (try (exfalso; omega))) | refine TreeW_intro (by rfl) ?_ | refine TreeW_all ?_ | refine upQ_intro ?_ | refine Two_intro ?_ ?_ | exact wK | exact wD | (simp only [Fact, Bool.not_eq_true', Bool.not_eq_false', decide_eq_true_eq, decide_eq_false_iff_not] at *; exact wD) | (show (_ : Nat) ≤ _; omega)) <;> (try simp (disch := omega) only [*, ↓Ed, Eu, ↓reduceIte, reduceCtorEq, Nat.reduceAdd, Nat.reduceEqDiff, Nat.reduceLT, Nat.reduceLeDiff, Int.reduceToNat, Int.reduceEq, Int.reduceLT, Int.reduceLE, w64, List.length_append, List.length_map, Nat.mul_one, beq_self_eq_true, PktC.cs, EvC.cs, EntC.cs, KeyC.cs, st_nil, Int.reduceAdd, kys_len, kys_get, ens_len, ens_get]))
      have hdr : List.take (dOf t).K.length (kys (dOf t).K) = kys (dOf t).K := by rw [← kys_len, List.take_length]
      have hKl : (dOf t).K.length ≤ 900 := by rw [dK_len]; exact ht.lk
      have hEl := dE_len t
      simp only [hdr]
      refine ⟨⟨by simp only [kys_take, kys_len, List.length_take]; omega, by simp only [kys_take, kys_len, List.length_take, maxLen]; omega⟩, ⟨by simp only [kys_take, kys_len, List.length_take]; omega, by simp only [kys_take, kys_len, List.length_take, maxLen]; omega⟩, Nat.le_refl _,
        ⟨by simp only [kys_take, kys_drop, kys_len, List.length_take, List.length_drop]; omega, by simp only [kys_take, kys_drop, kys_len, List.length_take, List.length_drop, maxLen]; omega⟩, ?_⟩
      generalize hKK : List.take i (kys (dOf t).K) = KK
      generalize hKL : List.drop i (kys (dOf t).K) = KL
      clear hdr hF hM hO
      generalize hE : (dOf t).E = E at *
      generalize (dOf t).K.length = N at *
      generalize hY : markE (ent0 e.p) e = y at *
      repeat' ((first | refine CallW_intro (hMD0) ?_ | ((refine hapA (fun h0 => ?_) (fun h0 => NewB_intro (fun bA hbA cA hcA => ?_))) <;> (try simp only [ln_cons2, ln_nil, and_true] at hbA)) | (refine hapB y (NewB_intro (fun bB hbB cB hcB => ?_)); simp only [ln_cons2, ln_nil, and_true] at hbB) | (refine hapC y (NewB_intro (fun bB hbB cB hcB => ?_)); simp only [upd_del, del_cons, del_nil, *, if_true, if_false, ln_cons2, ln_nil, and_true] at hbB) | (refine hapD' (NewB_intro (fun bD hbD cD hcD => ?_)); simp only [upd_del, del_cons, del_nil, *, if_true, if_false, ln_cons2, ln_nil, and_true] at hbD) | refine NewB_intro0 (fun b => ?_) | (refine NewB_intro (fun b hb => ?_); simp only [ln_cons2, ln_nil, and_true] at hb) | (with_reducible apply wA; focus exact OM_a) | ((first | refine gW_sp ?_ | refine condW_sp ?_ | refine pickW_sp ?_); (try refine Sp_n ?_); (first | refine wT ?_ | refine wF ?_ | refine wL (fun h h' => ?_) (fun h h' => ?_) | refine wE (fun h h' => ?_) (fun h h' => ?_) | refine Sp_split (fun h => ?_) (fun h => ?_)) <;> (try (exfalso; omega))) | refine TreeW_intro (by rfl) ?_ | refine TreeW_all ?_ | refine upQ_intro ?_ | refine Two_intro ?_ ?_ | exact wK | exact wD | (simp only [Fact, Bool.not_eq_true', Bool.not_eq_false', decide_eq_true_eq, decide_eq_false_iff_not] at *; exact wD) | (show (_ : Nat) ≤ _; omega)) <;> (try simp (disch := omega) only [*, ↓Ed, Eu, ↓reduceIte, reduceCtorEq, Nat.reduceAdd, Nat.reduceEqDiff, Nat.reduceLT, Nat.reduceLeDiff, Int.reduceToNat, Int.reduceEq, Int.reduceLT, Int.reduceLE, w64, List.length_append, List.length_map, Nat.mul_one, beq_self_eq_true, PktC.cs, EvC.cs, EntC.cs, KeyC.cs, st_nil, Int.reduceAdd, kys_len, kys_get, ens_len, ens_get]))
      all_goals
        obtain ⟨t1, t2, t3⟩ := hT
        have l2 : (dOf T).E.length = i + 1 + (N - i) := by rw [t2]; simp only [List.length_append, List.length_take, List.length_drop, List.length_cons, List.length_nil]; omega
        refine ro_ex (⟨.sl (some 52) 4 (KK ++ [(keyE e).cs] ++ KL), cc, bD, cD, hcE cap E⟩ : Fx) ⟨by simp [resR, arR, lk], ?_⟩ ⟨?_, ?_, ?_, ?_⟩ dom_fx
        rotate_left
        · show AV.sl none 4 _ = _
          rw [t1, kys_app, kys_app, ← kys_take, ← kys_drop, hKK, hKL]; rfl
        · rw [t3]; exact hcc
        · exact hbD.1
        · show (dOf T).E.length ≤ cD
          rw [l2]
          first
          | omega
          | (have h0' : i = 0 := h0
             omega)
        · first
          | (have h0' : i = 0 := h0
             have t4 : (dOf T).E = [y] ++ E.drop i := by rw [t2, h0']; rfl
             have l4 : (dOf T).E.length = 1 + (N - i) := by omega
             simp [LeL, lk, hg, hbD, l4, t4, hke]
             try omega)
          | (simp [LeL, lk, hg, hbD, l2, t2, hke]
             try omega)
    | some x =>
      rw [fold_some hm hkk hf0]
      obtain ⟨hil, hix⟩ := ent_at ht.k hf0
      have hset := fun y => dOf_set ht.k (y := y) hf0
      have hpd := pkt_dec x.p e.p
      have hMD0 := hMD x
      have hMk0 := hMk x
      have hEl := dE_len t
      rw [hf0, hEl] at hF
      rw [hm] at hM
      have hT : Fact ((dOf ⟨setE t.K (keyE e) (markE x e), t.C⟩).K = (dOf t).K ∧ (dOf ⟨setE t.K (keyE e) (markE x e), t.C⟩).E = (dOf t).E.set (plL keyLt (keyE e) (dOf t).K) (markE x e) ∧ (dOf ⟨setE t.K (keyE e) (markE x e), t.C⟩).C = (dOf t).C) := by
        rw [hset]; exact ⟨rfl, rfl, rfl⟩
      generalize (⟨setE t.K (keyE e) (markE x e), t.C⟩ : Tb) = T at hT ⊢
      have hla : lateE x e.k = ((decide (e.k = 4) && x.t) || (decide (e.k = 5) && x.c)) := rfl
      generalize lateE x e.k = late at hla ⊢
      have hKl : (dOf t).K.length ≤ 900 := by rw [dK_len]; exact ht.lk
      have hTk : List.take 14 (List.drop (plL keyLt (keyE e) (dOf t).K * 14) (hcE cap (dOf t).E)) = x.cs := by
        rw [← hix]; exact entRow.drop_take cap (dOf t).E _ default (by omega)
      have hSt : splice (hcE cap (dOf t).E) (plL keyLt (keyE e) (dOf t).K * 14) (markE x e).cs = hcE cap ((dOf t).E.set (plL keyLt (keyE e) (dOf t).K) (markE x e)) := entRow.sto cap (dOf t).E _ _ (by omega)
      have hLen : (hcE cap (dOf t).E).length = cap * 14 := by
        unfold hcE; rw [entRow.len_hc, Nat.max_eq_left hcap]
      have hL1 : 14 ≤ (List.drop (plL keyLt (keyE e) (dOf t).K * 14) (hcE cap (dOf t).E)).length := by rw [List.length_drop, hLen]; omega
      have hL2 : plL keyLt (keyE e) (dOf t).K * 14 + 14 ≤ (hcE cap (dOf t).E).length := by rw [hLen]; omega
      generalize hi : plL keyLt (keyE e) (dOf t).K = i at *
      rw [hke] at hF
      simp only [Option.isSome_some] at hF
      clear hMD hMk hm hr hf0 hokk hkk hk1 k12 hix hset
      generalize ownE e = OW at *
      generalize hE : (dOf t).E = E at *
      generalize (dOf t).K.length = N at *
      generalize markE x e = y at *
      simp only [EntC.cs] at hTk hSt
      by_cases hp : x.p = e.p
      rotate_left
      · rw [decide_eq_false hp] at hpd
        rw [if_pos hp]
        clear hp hla hT
        simp only [c_ligref22_Table_Fold, hg, hk, ↓Ed, Eu, ↓reduceIte, reduceCtorEq, Nat.reduceAdd, Nat.reduceEqDiff, Nat.reduceLT, Nat.reduceLeDiff, Int.reduceToNat, Int.reduceEq, Int.reduceLT, Int.reduceLE, w64, List.length_append, List.length_map, Nat.mul_one, beq_self_eq_true, PktC.cs, EvC.cs, EntC.cs, KeyC.cs, st_nil, Int.reduceAdd, kys_len, kys_get, ens_len, ens_get]
        repeat' ((first | refine CallO_pure (hM) ?_ | refine CallO_pure (hO) ?_ | refine c1 (hF) ?_ | refine CallO_pure (hMk0) ?_ | refine CallW_intro (hMD0) ?_ | refine NewB_intro0 (fun b => ?_) | (refine NewB_intro (fun b hb => ?_); simp only [ln_cons2, ln_nil, and_true] at hb) | (with_reducible apply wA; focus exact OM_a) | ((first | refine gW_sp ?_ | refine condW_sp ?_ | refine pickW_sp ?_); (try refine Sp_n ?_); (first | refine wT ?_ | refine wF ?_ | refine wL (fun h h' => ?_) (fun h h' => ?_) | refine wE (fun h h' => ?_) (fun h h' => ?_) | refine Sp_split (fun h => ?_) (fun h => ?_)) <;> (try (exfalso; omega))) | refine TreeW_intro (by rfl) ?_ | refine TreeW_all ?_ | refine upQ_intro ?_ | refine Two_intro ?_ ?_ | exact wK | exact wD | (simp only [Fact, Bool.not_eq_true', Bool.not_eq_false', decide_eq_true_eq, decide_eq_false_iff_not] at *; exact wD) | (show (_ : Nat) ≤ _; omega)) <;> (try simp (disch := omega) only [*, ↓Ed, Eu, ↓reduceIte, reduceCtorEq, Nat.reduceAdd, Nat.reduceEqDiff, Nat.reduceLT, Nat.reduceLeDiff, Int.reduceToNat, Int.reduceEq, Int.reduceLT, Int.reduceLE, w64, List.length_append, List.length_map, Nat.mul_one, beq_self_eq_true, PktC.cs, EvC.cs, EntC.cs, KeyC.cs, st_nil, Int.reduceAdd, kys_len, kys_get, ens_len, ens_get]))
        all_goals exact ro_ex ⟨kc, cc, g, cap, hcE cap E⟩ (by simp [LeL, lk, hg, resR, arR, hE, hEl]) same dom_fx
      rw [decide_eq_true hp] at hpd
      rw [if_neg (fun h => h hp)]
      clear hp
      cases hmv : marked x e.k with
      | true =>
        rw [hmv] at hMk0
        rw [if_pos rfl]
        clear hla hT
        simp only [c_ligref22_Table_Fold, hg, hk, ↓Ed, Eu, ↓reduceIte, reduceCtorEq, Nat.reduceAdd, Nat.reduceEqDiff, Nat.reduceLT, Nat.reduceLeDiff, Int.reduceToNat, Int.reduceEq, Int.reduceLT, Int.reduceLE, w64, List.length_append, List.length_map, Nat.mul_one, beq_self_eq_true, PktC.cs, EvC.cs, EntC.cs, KeyC.cs, st_nil, Int.reduceAdd, kys_len, kys_get, ens_len, ens_get]
        repeat' ((first | refine CallO_pure (hM) ?_ | refine CallO_pure (hO) ?_ | refine c1 (hF) ?_ | refine CallO_pure (hMk0) ?_ | refine CallW_intro (hMD0) ?_ | refine NewB_intro0 (fun b => ?_) | (refine NewB_intro (fun b hb => ?_); simp only [ln_cons2, ln_nil, and_true] at hb) | (with_reducible apply wA; focus exact OM_a) | ((first | refine gW_sp ?_ | refine condW_sp ?_ | refine pickW_sp ?_); (try refine Sp_n ?_); (first | refine wT ?_ | refine wF ?_ | refine wL (fun h h' => ?_) (fun h h' => ?_) | refine wE (fun h h' => ?_) (fun h h' => ?_) | refine Sp_split (fun h => ?_) (fun h => ?_)) <;> (try (exfalso; omega))) | refine TreeW_intro (by rfl) ?_ | refine TreeW_all ?_ | refine upQ_intro ?_ | refine Two_intro ?_ ?_ | exact wK | exact wD | (simp only [Fact, Bool.not_eq_true', Bool.not_eq_false', decide_eq_true_eq, decide_eq_false_iff_not] at *; exact wD) | (show (_ : Nat) ≤ _; omega)) <;> (try simp (disch := omega) only [*, ↓Ed, Eu, ↓reduceIte, reduceCtorEq, Nat.reduceAdd, Nat.reduceEqDiff, Nat.reduceLT, Nat.reduceLeDiff, Int.reduceToNat, Int.reduceEq, Int.reduceLT, Int.reduceLE, w64, List.length_append, List.length_map, Nat.mul_one, beq_self_eq_true, PktC.cs, EvC.cs, EntC.cs, KeyC.cs, st_nil, Int.reduceAdd, kys_len, kys_get, ens_len, ens_get]))
        all_goals exact ro_ex ⟨kc, cc, g, cap, hcE cap E⟩ (by simp [LeL, lk, hg, resR, arR, hE, hEl]) same dom_fx
      | false =>
        rw [hmv] at hMk0
        rw [if_neg (by simp)]
        rw [d4, d5] at hla
        cases hxt : x.t <;> cases hxc : x.c <;> rw [hxt, hxc] at hla <;> subst hla <;> simp only [Bool.and_true, Bool.and_false, Bool.or_false, Bool.or_true, Bool.false_or, Bool.true_or, Bool.true_and, Bool.false_and, if_true, if_false, Bool.false_eq_true]
        all_goals (simp only [EntC.cs, hxt, hxc] at hMk0 hMD0)
        all_goals (simp only [c_ligref22_Table_Fold, hg, hk, ↓Ed, Eu, ↓reduceIte, reduceCtorEq, Nat.reduceAdd, Nat.reduceEqDiff, Nat.reduceLT, Nat.reduceLeDiff, Int.reduceToNat, Int.reduceEq, Int.reduceLT, Int.reduceLE, w64, List.length_append, List.length_map, Nat.mul_one, beq_self_eq_true, PktC.cs, EvC.cs, EntC.cs, KeyC.cs, st_nil, Int.reduceAdd, kys_len, kys_get, ens_len, ens_get])
        all_goals repeat' ((first | refine CallO_pure (hM) ?_ | refine CallO_pure (hO) ?_ | refine c1 (hF) ?_ | refine CallO_pure (hMk0) ?_ | refine CallW_intro (hMD0) ?_ | refine NewB_intro0 (fun b => ?_) | (refine NewB_intro (fun b hb => ?_); simp only [ln_cons2, ln_nil, and_true] at hb) | (with_reducible apply wA; focus exact OM_a) | ((first | refine gW_sp ?_ | refine condW_sp ?_ | refine pickW_sp ?_); (try refine Sp_n ?_); (first | refine wT ?_ | refine wF ?_ | refine wL (fun h h' => ?_) (fun h h' => ?_) | refine wE (fun h h' => ?_) (fun h h' => ?_) | refine Sp_split (fun h => ?_) (fun h => ?_)) <;> (try (exfalso; omega))) | refine TreeW_intro (by rfl) ?_ | refine TreeW_all ?_ | refine upQ_intro ?_ | refine Two_intro ?_ ?_ | exact wK | exact wD | (simp only [Fact, Bool.not_eq_true', Bool.not_eq_false', decide_eq_true_eq, decide_eq_false_iff_not] at *; exact wD) | (show (_ : Nat) ≤ _; omega)) <;> (try simp (disch := omega) only [*, ↓Ed, Eu, ↓reduceIte, reduceCtorEq, Nat.reduceAdd, Nat.reduceEqDiff, Nat.reduceLT, Nat.reduceLeDiff, Int.reduceToNat, Int.reduceEq, Int.reduceLT, Int.reduceLE, w64, List.length_append, List.length_map, Nat.mul_one, beq_self_eq_true, PktC.cs, EvC.cs, EntC.cs, KeyC.cs, st_nil, Int.reduceAdd, kys_len, kys_get, ens_len, ens_get]))
        all_goals first
        | exact ro_ex ⟨kc, cc, g, cap, hcE cap E⟩ (by simp [LeL, lk, hg, resR, arR, hE, hEl]) same dom_fx
        | (obtain ⟨t1, t2, t3⟩ := hT
           exact ro_ex ⟨kc, cc, g, cap, hcE cap (E.set i y)⟩ (by simp [LeL, lk, hg, resR, arR, t2, hEl, hSt]) ⟨by rw [t1]; exact hk, by rw [t3]; exact hcc, hg, by rw [t2, List.length_set]; exact hcap⟩ dom_fx)
        | trace_state
end Go.Proofs.Ytobopbjedojebaa

/- the document's table as objects: Fold on a table without entries -/
namespace Go.Proofs.Ytobopbjedojebaa
set_option linter.all false
open Go.RowKit Classical
set_option maxRecDepth 100000
section
variable {d : Option Nat} {s : St} {K : St → Prop}
theorem hapA0 {e : Nat} {own : Option Nat} (h0 : KS (St.put s d (.hnil e 14)) K) : HapW e 14 112 d s K (.hnil e 14) (.sl own 14 []) :=
  entRow.hap_nil (m := []) (entRow.src_sl s.o own []) ⟨by simp, by simp [maxLen]⟩ (fun _ => h0) (fun h => by simp at h)
theorem hapD0 {e g n cap : Nat} {own : Option Nat} {l : List EntC} (h1 : NewB (upd s.o g none) (fun b => ∀ cap', n ≤ cap' → KS (St.put ⟨s.t, upd (upd s.o g none) b (some (hcE cap' l))⟩ d (.hsl b e 14 n cap')) K))
    (hb : n ≤ 100000 := by omega) (hcp : n ≤ cap := by omega) (hg : s.o g = some (hcE cap l) := by first | ((repeat (first | exact lk_hd _ _ _ | (refine lk_tl ?_ ?_; (focus (first | assumption | (simp only [*, not_false_eq_true]; done)))))); done) | fail) (hl : l.length = n := by first | rfl | omega | fail) : HapW e 14 112 d s K (.hsl g e 14 n cap) (.sl own 14 []) := by
  have ht : l.take n = l := by rw [← hl, List.take_length]
  refine entRow.hap_row (m := []) hg (entRow.src_sl s.o own []) ⟨by omega, by omega⟩ ⟨by simp only [List.length_nil]; omega, by simp only [List.length_nil, maxLen]; omega⟩ ?_
  rw [ht, List.append_nil]; exact h1
end
theorem dom_g {p : Nat} {a c : List AV} {r : List (Nat × List AV)} : ∀ b' cs, lk [(p, a)] b' = some cs → ∃ cs', lk ((p, c) :: r) b' = some cs' := by
  intro b' cs h
  rw [lk_cons] at h ⊢
  by_cases hb : b' = p
  · rw [if_pos hb]; exact ⟨_, rfl⟩
  · rw [if_neg hb] at h; cases h
/-- What folding leaves of a table that had no entries: none still, or a row. -/
abbrev Gx := (AV × AV) ⊕ Fx
def Gx.ok (x : Gx) (b : Nat) (t : Tb) : Prop := match x with
  | .inl y => y.1.alias = .sl none 4 (kys (dOf t).K) ∧ y.2.alias = .sl none 2 (ens (dOf t).C) ∧ t.K = []
  | .inr y => y.ok b t
abbrev Gx.o (x : Gx) (b : Nat) (t : Tb) : List (Nat × List AV) := match x with
  | .inl y => [(b, [y.1, .nils 53 14, y.2])]
  | .inr x => [(b, [x.k, .hsl x.g 53 14 (dOf t).E.length x.cap, x.c]), (x.g, hcE x.cap (dOf t).E)]
set_option maxHeartbeats 8000000 in
theorem t_dFold0 (p : Nat) (kc cc : AV) (t : Tb) (hk : kc.alias = .sl none 4 (kys (dOf t).K)) (hcc : cc.alias = .sl none 2 (ens (dOf t).C)) (ht : Tgood 900 t) (ht0 : t.K = [])
    (e : EvC) (h1 : e.p.s.length ≤ 1000000) (h2 : e.p.d.length ≤ 1000000) (h3 : e.p.x.length ≤ 1000000) (h4 : e.e.length ≤ 1000000) (h5 : e.a.length ≤ 1000000) :
    CT Try.prog 15 [.ptr p 0, .agg e.cs] (lk [(p, [kc, .nils 53 14, cc])])
      (fun r o => r = .int .i64 (foldT t e).2 ∧ ∃ x : Gx, x.ok p (foldT t e).1 ∧ o = lk (x.o p (foldT t e).1)) := by
  have hO := p_rOwn e h1 h2 h3 h4 h5
  have hM := p_rMayE e h1 h2 h3 h4 h5
  have same : Gx.ok (.inl (kc, cc)) p t := ⟨hk, hcc, ht0⟩
  refine okt_ligref22_Table_Fold _ _ _ (by simp) ?_
  by_cases hm : mayE e = true
  rotate_left
  · have hm' : mayE e = false := by simpa using hm
    rw [own_no hm'] at hO
    rw [fold_no hm']
    rw [hm'] at hM
    clear hm hm' ht
    simp only [c_ligref22_Table_Fold, ↓Ed, Eu, ↓reduceIte, reduceCtorEq, Nat.reduceAdd, Nat.reduceEqDiff, Nat.reduceLT, Nat.reduceLeDiff, Int.reduceToNat, Int.reduceEq, Int.reduceLT, Int.reduceLE, w64, List.length_append, List.length_map, Nat.mul_one, beq_self_eq_true, PktC.cs, EvC.cs, EntC.cs, KeyC.cs, st_nil, Int.reduceAdd, kys_len, kys_get, ens_len, ens_get, List.take_nil, List.drop_nil, List.length_nil]
    repeat' ((first | refine CallO_pure (hM) ?_ | refine CallO_pure (hO) ?_ | refine NewB_intro0 (fun b => ?_) | (refine NewB_intro (fun b hb => ?_); simp only [ln_cons2, ln_nil, and_true] at hb) | (with_reducible apply wA; focus exact OM_a) | ((first | refine gW_sp ?_ | refine condW_sp ?_ | refine pickW_sp ?_); (try refine Sp_n ?_); (first | refine wT ?_ | refine wF ?_ | refine wL (fun h h' => ?_) (fun h h' => ?_) | refine wE (fun h h' => ?_) (fun h h' => ?_) | refine Sp_split (fun h => ?_) (fun h => ?_)) <;> (try (exfalso; omega))) | refine TreeW_intro (by rfl) ?_ | refine TreeW_all ?_ | refine upQ_intro ?_ | refine Two_intro ?_ ?_ | exact wK | exact wD | (simp only [Fact, Bool.not_eq_true', Bool.not_eq_false', decide_eq_true_eq, decide_eq_false_iff_not] at *; exact wD) | (show (_ : Nat) ≤ _; omega)) <;> (try simp (disch := omega) only [*, ↓Ed, Eu, ↓reduceIte, reduceCtorEq, Nat.reduceAdd, Nat.reduceEqDiff, Nat.reduceLT, Nat.reduceLeDiff, Int.reduceToNat, Int.reduceEq, Int.reduceLT, Int.reduceLE, w64, List.length_append, List.length_map, Nat.mul_one, beq_self_eq_true, PktC.cs, EvC.cs, EntC.cs, KeyC.cs, st_nil, Int.reduceAdd, kys_len, kys_get, ens_len, ens_get, List.take_nil, List.drop_nil, List.length_nil]))
    all_goals exact ro_ex (.inl (kc, cc)) (by simp [LeL, lk, resR, arR]) same dom_g
  have hr := may_range hm
  have hF := fun k => t_dFind p kc (.nils 53 14) cc (dOf t).K hk (srtL_rise keySTO ht.k) (by rw [dK_len]; have := ht.lk; omega) k
  rcases kfacts e.k with ⟨k1, k2, k3, k4, k5, k6, k7, k8, k9, k10, k11, k12⟩ | ⟨k1, k2, k3, k4, k5, k6, k7, k8, k9, k10, k11, k12⟩ | ⟨k1, k2, k3, k4, k5, k6, k7, k8, k9, k10, k11, k12⟩ | ⟨k1, k2, k3, k4, k5, k6, k7, k8, k9, k10, k11, k12⟩ | ⟨k1, k2, k3, k4, k5, k6, k7, k8, k9, k10, k11, k12⟩ | ⟨k1, k2, k3, k4, k5, k6, k7, k8, k9, k10, k11, k12⟩ | ⟨k1, k2, k3, k4, k5, k6, k7, k8, k9, k10, k11, k12⟩ | ⟨k1, k2, k3, k4, k5, k6, k7, k8, k9, k10, k11, k12⟩ | ⟨k1, k2, k3, k4, k5, k6, k7, k8, k9, k10, k11, k12⟩
  rotate_left 5
  · have hS := t_dclose p kc (.nils 53 14) cc (dOf t).C hcc (srtL_rise endSTO ht.c) (by rw [dC_len]; have := ht.lc; omega) (e.e, e.ec)
    rw [fold_cl hm k12]
    rw [hm] at hM
    by_cases hcm : ((e.e, e.ec) : EndP) ∈ t.C
    · have hcm' : ((e.e, e.ec) : EndP) ∈ (dOf t).C := mem_closS.2 hcm
      rw [if_pos hcm, if_pos hcm]
      rw [if_pos hcm', if_pos hcm'] at hS
      clear hm hr k12 ht hF hcm hcm' hO
      simp only [c_ligref22_Table_Fold, ↓Ed, Eu, ↓reduceIte, reduceCtorEq, Nat.reduceAdd, Nat.reduceEqDiff, Nat.reduceLT, Nat.reduceLeDiff, Int.reduceToNat, Int.reduceEq, Int.reduceLT, Int.reduceLE, w64, List.length_append, List.length_map, Nat.mul_one, beq_self_eq_true, PktC.cs, EvC.cs, EntC.cs, KeyC.cs, st_nil, Int.reduceAdd, kys_len, kys_get, ens_len, ens_get, List.take_nil, List.drop_nil, List.length_nil]
      repeat' ((first | refine CallO_pure (hM) ?_ | refine c1 (hS) ?_ | refine NewB_intro0 (fun b => ?_) | (refine NewB_intro (fun b hb => ?_); simp only [ln_cons2, ln_nil, and_true] at hb) | (with_reducible apply wA; focus exact OM_a) | ((first | refine gW_sp ?_ | refine condW_sp ?_ | refine pickW_sp ?_); (try refine Sp_n ?_); (first | refine wT ?_ | refine wF ?_ | refine wL (fun h h' => ?_) (fun h h' => ?_) | refine wE (fun h h' => ?_) (fun h h' => ?_) | refine Sp_split (fun h => ?_) (fun h => ?_)) <;> (try (exfalso; omega))) | refine TreeW_intro (by rfl) ?_ | refine TreeW_all ?_ | refine upQ_intro ?_ | refine Two_intro ?_ ?_ | exact wK | exact wD | (simp only [Fact, Bool.not_eq_true', Bool.not_eq_false', decide_eq_true_eq, decide_eq_false_iff_not] at *; exact wD) | (show (_ : Nat) ≤ _; omega)) <;> (try simp (disch := omega) only [*, ↓Ed, Eu, ↓reduceIte, reduceCtorEq, Nat.reduceAdd, Nat.reduceEqDiff, Nat.reduceLT, Nat.reduceLeDiff, Int.reduceToNat, Int.reduceEq, Int.reduceLT, Int.reduceLE, w64, List.length_append, List.length_map, Nat.mul_one, beq_self_eq_true, PktC.cs, EvC.cs, EntC.cs, KeyC.cs, st_nil, Int.reduceAdd, kys_len, kys_get, ens_len, ens_get, List.take_nil, List.drop_nil, List.length_nil]))
      all_goals exact ro_ex (.inl (kc, cc)) (by simp [LeL, lk, resR, arR]) same dom_g
    · have hcm' : ¬ ((e.e, e.ec) : EndP) ∈ (dOf t).C := fun h => hcm (mem_closS.1 h)
      rw [if_neg hcm, if_neg hcm]
      rw [if_neg hcm', if_neg hcm'] at hS
      have hT : Fact ((dOf ⟨t.K, t.C ++ [(e.e, e.ec)]⟩).K = (dOf t).K ∧ (⟨t.K, t.C ++ [(e.e, e.ec)]⟩ : Tb).K = [] ∧ (dOf ⟨t.K, t.C ++ [(e.e, e.ec)]⟩).C = (dOf t).C.take (plL endLt (e.e, e.ec) (dOf t).C) ++ [(e.e, e.ec)] ++ (dOf t).C.drop (plL endLt (e.e, e.ec) (dOf t).C)) := ⟨rfl, ht0, clos_new ht.c hcm⟩
      generalize (⟨t.K, t.C ++ [(e.e, e.ec)]⟩ : Tb) = T at hT ⊢
      generalize (dOf t).C.take (plL endLt (e.e, e.ec) (dOf t).C) ++ [(e.e, e.ec)] ++ (dOf t).C.drop (plL endLt (e.e, e.ec) (dOf t).C) = C' at hT hS
      clear hm hr k12 ht hF hcm hcm' hO same
      simp only [c_ligref22_Table_Fold, ↓Ed, Eu, ↓reduceIte, reduceCtorEq, Nat.reduceAdd, Nat.reduceEqDiff, Nat.reduceLT, Nat.reduceLeDiff, Int.reduceToNat, Int.reduceEq, Int.reduceLT, Int.reduceLE, w64, List.length_append, List.length_map, Nat.mul_one, beq_self_eq_true, PktC.cs, EvC.cs, EntC.cs, KeyC.cs, st_nil, Int.reduceAdd, kys_len, kys_get, ens_len, ens_get, List.take_nil, List.drop_nil, List.length_nil]
      repeat' ((first | refine CallO_pure (hM) ?_ | refine c1 (hS) ?_ | refine NewB_intro0 (fun b => ?_) | (refine NewB_intro (fun b hb => ?_); simp only [ln_cons2, ln_nil, and_true] at hb) | (with_reducible apply wA; focus exact OM_a) | ((first | refine gW_sp ?_ | refine condW_sp ?_ | refine pickW_sp ?_); (try refine Sp_n ?_); (first | refine wT ?_ | refine wF ?_ | refine wL (fun h h' => ?_) (fun h h' => ?_) | refine wE (fun h h' => ?_) (fun h h' => ?_) | refine Sp_split (fun h => ?_) (fun h => ?_)) <;> (try (exfalso; omega))) | refine TreeW_intro (by rfl) ?_ | refine TreeW_all ?_ | refine upQ_intro ?_ | refine Two_intro ?_ ?_ | exact wK | exact wD | (simp only [Fact, Bool.not_eq_true', Bool.not_eq_false', decide_eq_true_eq, decide_eq_false_iff_not] at *; exact wD) | (show (_ : Nat) ≤ _; omega)) <;> (try simp (disch := omega) only [*, ↓Ed, Eu, ↓reduceIte, reduceCtorEq, Nat.reduceAdd, Nat.reduceEqDiff, Nat.reduceLT, Nat.reduceLeDiff, Int.reduceToNat, Int.reduceEq, Int.reduceLT, Int.reduceLE, w64, List.length_append, List.length_map, Nat.mul_one, beq_self_eq_true, PktC.cs, EvC.cs, EntC.cs, KeyC.cs, st_nil, Int.reduceAdd, kys_len, kys_get, ens_len, ens_get, List.take_nil, List.drop_nil, List.length_nil]))
      all_goals (obtain ⟨t1, t2, t3⟩ := hT)
      all_goals exact ro_ex (.inl (kc, .sl (some 23) 2 (ens C'))) (by simp [LeL, lk, resR, arR]) ⟨by rw [t1]; exact hk, by rw [t3]; rfl, t2⟩ dom_g
  · rw [own_up hm k12] at hO
    rw [fold_up hm k12]
    rw [hm] at hM
    clear hm hr k12 ht hF
    simp only [c_ligref22_Table_Fold, ↓Ed, Eu, ↓reduceIte, reduceCtorEq, Nat.reduceAdd, Nat.reduceEqDiff, Nat.reduceLT, Nat.reduceLeDiff, Int.reduceToNat, Int.reduceEq, Int.reduceLT, Int.reduceLE, w64, List.length_append, List.length_map, Nat.mul_one, beq_self_eq_true, PktC.cs, EvC.cs, EntC.cs, KeyC.cs, st_nil, Int.reduceAdd, kys_len, kys_get, ens_len, ens_get, List.take_nil, List.drop_nil, List.length_nil]
    repeat' ((first | refine CallO_pure (hM) ?_ | refine CallO_pure (hO) ?_ | refine NewB_intro0 (fun b => ?_) | (refine NewB_intro (fun b hb => ?_); simp only [ln_cons2, ln_nil, and_true] at hb) | (with_reducible apply wA; focus exact OM_a) | ((first | refine gW_sp ?_ | refine condW_sp ?_ | refine pickW_sp ?_); (try refine Sp_n ?_); (first | refine wT ?_ | refine wF ?_ | refine wL (fun h h' => ?_) (fun h h' => ?_) | refine wE (fun h h' => ?_) (fun h h' => ?_) | refine Sp_split (fun h => ?_) (fun h => ?_)) <;> (try (exfalso; omega))) | refine TreeW_intro (by rfl) ?_ | refine TreeW_all ?_ | refine upQ_intro ?_ | refine Two_intro ?_ ?_ | exact wK | exact wD | (simp only [Fact, Bool.not_eq_true', Bool.not_eq_false', decide_eq_true_eq, decide_eq_false_iff_not] at *; exact wD) | (show (_ : Nat) ≤ _; omega)) <;> (try simp (disch := omega) only [*, ↓Ed, Eu, ↓reduceIte, reduceCtorEq, Nat.reduceAdd, Nat.reduceEqDiff, Nat.reduceLT, Nat.reduceLeDiff, Int.reduceToNat, Int.reduceEq, Int.reduceLT, Int.reduceLE, w64, List.length_append, List.length_map, Nat.mul_one, beq_self_eq_true, PktC.cs, EvC.cs, EntC.cs, KeyC.cs, st_nil, Int.reduceAdd, kys_len, kys_get, ens_len, ens_get, List.take_nil, List.drop_nil, List.length_nil]))
    all_goals exact ro_ex (.inl (kc, cc)) (by simp [LeL, lk, resR, arR]) same dom_g
  · have : e.k < 1 := k12
    omega
  · have : 7 < e.k := k12
    omega
  rotate_left
  all_goals
    have hk1 : e.k = _ := k12
    have d1 : decide (e.k = 1) = _ := k1
    have d4 : decide (e.k = 4) = _ := k4
    have d5 : decide (e.k = 5) = _ := k5
    have d6 : decide (e.k = 6) = _ := k6
    have d7 : decide (e.k = 7) = _ := k7
    have hkk : 1 ≤ e.k ∧ e.k ≤ 5 := by omega
    have hMD := fun x => p_markD x e
    have hMk := fun x => p_marked x e.k
    have hokk : (ownE e).2.2.2 = true := by
      first | rw [own_src hm (by omega)] | rw [own_dst hm (by omega)]
    rw [hokk] at hO
    first
    | have hke : keyE e = ⟨(ownE e).1, (ownE e).2.1, true, (ownE e).2.2.1⟩ := by unfold keyE; rw [show outK e.k = true by rw [hk1]; rfl]
    | have hke : keyE e = ⟨(ownE e).1, (ownE e).2.1, false, (ownE e).2.2.1⟩ := by unfold keyE; rw [show outK e.k = false by rw [hk1]; rfl]
    replace hF := hF (keyE e)
    rw [key_in] at hF
    cases hf0 : findE t.K (keyE e) with
    | none =>
      rw [fold_new hm hkk hf0]
      have hT : Fact ((dOf ⟨t.K ++ [(keyE e, markE (ent0 e.p) e)], t.C⟩).K = (dOf t).K.take (plL keyLt (keyE e) (dOf t).K) ++ [keyE e] ++ (dOf t).K.drop (plL keyLt (keyE e) (dOf t).K) ∧
          (dOf ⟨t.K ++ [(keyE e, markE (ent0 e.p) e)], t.C⟩).E = (dOf t).E.take (plL keyLt (keyE e) (dOf t).K) ++ [markE (ent0 e.p) e] ++ (dOf t).E.drop (plL keyLt (keyE e) (dOf t).K) ∧
          (dOf ⟨t.K ++ [(keyE e, markE (ent0 e.p) e)], t.C⟩).C = (dOf t).C) := by
        rw [dOf_new ht.k (x := markE (ent0 e.p) e) hf0]; exact ⟨rfl, rfl, rfl⟩
      generalize (⟨t.K ++ [(keyE e, markE (ent0 e.p) e)], t.C⟩ : Tb) = T at hT ⊢
      rw [hf0] at hF
      rw [hm] at hM
      have hple := pl_le keyLt (keyE e) (dOf t).K
      have hMD0 := hMD (ent0 e.p)
      generalize hi : plL keyLt (keyE e) (dOf t).K = i at *
      rw [hke] at hF
      simp only [Option.isSome_none] at hF
      clear hMD hMk hm hr k12 hf0 hokk hkk hk1 same
      generalize ownE e = OW at *
      simp only [c_ligref22_Table_Fold, hk, ent0, ↓Ed, Eu, ↓reduceIte, reduceCtorEq, Nat.reduceAdd, Nat.reduceEqDiff, Nat.reduceLT, Nat.reduceLeDiff, Int.reduceToNat, Int.reduceEq, Int.reduceLT, Int.reduceLE, w64, List.length_append, List.length_map, Nat.mul_one, beq_self_eq_true, PktC.cs, EvC.cs, EntC.cs, KeyC.cs, st_nil, Int.reduceAdd, kys_len, kys_get, ens_len, ens_get, List.take_nil, List.drop_nil, List.length_nil]
      repeat' ((first | refine CallO_pure (hM) ?_ | refine CallO_pure (hO) ?_ | refine c1 (hF) ?_ | refine CallW_intro (hMD0) ?_ | refine NewB_intro0 (fun b => ?_) | (refine NewB_intro (fun b hb => ?_); simp only [ln_cons2, ln_nil, and_true] at hb) | (with_reducible apply wA; focus exact OM_a) | ((first | refine gW_sp ?_ | refine condW_sp ?_ | refine pickW_sp ?_); (try refine Sp_n ?_); (first | refine wT ?_ | refine wF ?_ | refine wL (fun h h' => ?_) (fun h h' => ?_) | refine wE (fun h h' => ?_) (fun h h' => ?_) | refine Sp_split (fun h => ?_) (fun h => ?_)) <;> (try (exfalso; omega))) | refine TreeW_intro (by rfl) ?_ | refine TreeW_all ?_ | refine upQ_intro ?_ | refine Two_intro ?_ ?_ | exact wK | exact wD | (simp only [Fact, Bool.not_eq_true', Bool.not_eq_false', decide_eq_true_eq, decide_eq_false_iff_not] at *; exact wD) | (show (_ : Nat) ≤ _; omega)) <;> (try simp (disch := omega) only [*, ↓Ed, Eu, ↓reduceIte, reduceCtorEq, Nat.reduceAdd, Nat.reduceEqDiff, Nat.reduceLT, Nat.reduceLeDiff, Int.reduceToNat, Int.reduceEq, Int.reduceLT, Int.reduceLE, w64, List.length_append, List.length_map, Nat.mul_one, beq_self_eq_true, PktC.cs, EvC.cs, EntC.cs, KeyC.cs, st_nil, Int.reduceAdd, kys_len, kys_get, ens_len, ens_get, List.take_nil, List.drop_nil, List.length_nil]))
      have hdr : List.take (dOf t).K.length (kys (dOf t).K) = kys (dOf t).K := by rw [← kys_len, List.take_length]
      have hKl : (dOf t).K.length ≤ 900 := by rw [dK_len]; exact ht.lk
      have hEl := dE_len t
      simp only [hdr]
      refine ⟨⟨by simp only [kys_take, kys_len, List.length_take]; omega, by simp only [kys_take, kys_len, List.length_take, maxLen]; omega⟩, ⟨by simp only [kys_take, kys_len, List.length_take]; omega, by simp only [kys_take, kys_len, List.length_take, maxLen]; omega⟩, Nat.le_refl _,
        ⟨by simp only [kys_take, kys_drop, kys_len, List.length_take, List.length_drop]; omega, by simp only [kys_take, kys_drop, kys_len, List.length_take, List.length_drop, maxLen]; omega⟩, ?_⟩
      generalize hKK : List.take i (kys (dOf t).K) = KK
      generalize hKL : List.drop i (kys (dOf t).K) = KL
      clear hdr hF hM hO
      have hE : (dOf t).E = [] := List.eq_nil_of_length_eq_zero (by rw [hEl, dK_len, ht0]; rfl)
      have hN0 : (dOf t).K.length = 0 := by rw [dK_len, ht0]; rfl
      clear hEl
      rw [hE] at hT
      clear hE
      generalize (dOf t).K.length = N at *
      have hi0 : Fact (i = 0) := by show i = 0; omega
      subst hN0
      generalize hY : markE (ent0 e.p) e = y at *
      repeat' ((first | refine CallW_intro (hMD0) ?_ | refine hapA0 ?_ | (refine hapB y (NewB_intro (fun bB hbB cB hcB => ?_)); simp only [ln_cons2, ln_nil, and_true] at hbB) | (refine hapD0 (NewB_intro (fun bD hbD cD hcD => ?_)); simp only [upd_del, del_cons, del_nil, *, if_true, if_false, ln_cons2, ln_nil, and_true] at hbD) | refine NewB_intro0 (fun b => ?_) | (refine NewB_intro (fun b hb => ?_); simp only [ln_cons2, ln_nil, and_true] at hb) | (with_reducible apply wA; focus exact OM_a) | ((first | refine gW_sp ?_ | refine condW_sp ?_ | refine pickW_sp ?_); (try refine Sp_n ?_); (first | refine wT ?_ | refine wF ?_ | refine wL (fun h h' => ?_) (fun h h' => ?_) | refine wE (fun h h' => ?_) (fun h h' => ?_) | refine Sp_split (fun h => ?_) (fun h => ?_)) <;> (try (exfalso; omega))) | refine TreeW_intro (by rfl) ?_ | refine TreeW_all ?_ | refine upQ_intro ?_ | refine Two_intro ?_ ?_ | exact wK | exact wD | (simp only [Fact, Bool.not_eq_true', Bool.not_eq_false', decide_eq_true_eq, decide_eq_false_iff_not] at *; exact wD) | (show (_ : Nat) ≤ _; omega)) <;> (try simp (disch := omega) only [*, ↓Ed, Eu, ↓reduceIte, reduceCtorEq, Nat.reduceAdd, Nat.reduceEqDiff, Nat.reduceLT, Nat.reduceLeDiff, Int.reduceToNat, Int.reduceEq, Int.reduceLT, Int.reduceLE, w64, List.length_append, List.length_map, Nat.mul_one, beq_self_eq_true, PktC.cs, EvC.cs, EntC.cs, KeyC.cs, st_nil, Int.reduceAdd, kys_len, kys_get, ens_len, ens_get, List.take_nil, List.drop_nil, List.length_nil]))
      all_goals
        obtain ⟨t1, t2, t3⟩ := hT
        have l2 : (dOf T).E = [y] := by rw [t2]; simp
        refine ro_ex (.inr ⟨.sl (some 52) 4 (KK ++ [(keyE e).cs] ++ KL), cc, bD, cD, []⟩) ⟨by simp [resR, arR, lk], ?_⟩ ⟨?_, ?_, ?_, ?_⟩ dom_g
        rotate_left
        · show AV.sl none 4 _ = _
          rw [t1, kys_app, kys_app, ← kys_take, ← kys_drop, hKK, hKL]; rfl
        · rw [t3]; exact hcc
        · first | exact hbD.1 | exact hbD
        · show (dOf T).E.length ≤ cD
          rw [l2]; exact hcD
        · simp [LeL, lk, hbD, l2, hke]
    | some x => rw [ht0] at hf0; cases hf0
end Go.Proofs.Ytobopbjedojebaa

/- the document's table as objects: Get -/
namespace Go.Proofs.Ytobopbjedojebaa
set_option linter.all false
open Go.RowKit Classical
set_option maxRecDepth 100000
theorem t_dGet1 (p g : Nat) (hg : ¬ g = p ∧ ¬ p = g) (kc cc : AV) (cap : Nat) (t : Tb) (hk : kc.alias = .sl none 4 (kys (dOf t).K)) (ht : Tgood 900 t) (hcap : (dOf t).E.length ≤ cap) (k : KeyC) :
    CT Try.prog 17 [.ptr p 0, .agg k.cs] (lk [(p, [kc, .hsl g 53 14 (dOf t).E.length cap, cc]), (g, hcE cap (dOf t).E)])
      (fun r o => r = .tup [.agg ((findE t.K k).getD default).cs, .bool (findE t.K k).isSome] ∧ o = lk [(p, [kc, .hsl g 53 14 (dOf t).E.length cap, cc]), (g, hcE cap (dOf t).E)]) := by
  have hEl := dE_len t
  have hF := t_dFind p kc (.hsl g 53 14 (dOf t).E.length cap) cc (dOf t).K hk (srtL_rise keySTO ht.k) (by rw [dK_len]; have := ht.lk; omega) k
  rw [key_in] at hF
  refine okt_ligref22_Table_Get _ _ _ (by simp) ?_
  cases hf0 : findE t.K k with
  | none =>
    rw [hf0] at hF
    simp only [Option.isSome_none] at hF
    rw [hEl] at hF ⊢
    clear hf0 ht hcap hEl
    generalize hcE cap (dOf t).E = X
    generalize (dOf t).K.length = N at *
    simp only [c_ligref22_Table_Get, hg, ↓Ed, Eu, ↓reduceIte, reduceCtorEq, Nat.reduceAdd, Nat.reduceEqDiff, Nat.reduceLT, Nat.reduceLeDiff, Int.reduceToNat, Int.reduceEq, Int.reduceLT, Int.reduceLE, w64, List.length_append, List.length_map, Nat.mul_one, beq_self_eq_true, PktC.cs, EvC.cs, EntC.cs, KeyC.cs, st_nil, Int.reduceAdd, kys_len, kys_get, ens_len, ens_get]
    repeat' ((first | refine c1 (hF) ?_ | refine NewB_intro0 (fun b => ?_) | (refine NewB_intro (fun b hb => ?_); simp only [ln_cons2, ln_nil, and_true] at hb) | (with_reducible apply wA; focus exact OM_a) | ((first | refine gW_sp ?_ | refine condW_sp ?_ | refine pickW_sp ?_); (try refine Sp_n ?_); (first | refine wT ?_ | refine wF ?_ | refine wL (fun h h' => ?_) (fun h h' => ?_) | refine wE (fun h h' => ?_) (fun h h' => ?_) | refine Sp_split (fun h => ?_) (fun h => ?_)) <;> (try (exfalso; omega))) | refine TreeW_intro (by rfl) ?_ | refine TreeW_all ?_ | refine upQ_intro ?_ | refine Two_intro ?_ ?_ | exact wK | exact wD | (simp only [Fact, Bool.not_eq_true', Bool.not_eq_false', decide_eq_true_eq, decide_eq_false_iff_not] at *; exact wD) | (show (_ : Nat) ≤ _; omega)) <;> (try simp (disch := omega) only [*, ↓Ed, Eu, ↓reduceIte, reduceCtorEq, Nat.reduceAdd, Nat.reduceEqDiff, Nat.reduceLT, Nat.reduceLeDiff, Int.reduceToNat, Int.reduceEq, Int.reduceLT, Int.reduceLE, w64, List.length_append, List.length_map, Nat.mul_one, beq_self_eq_true, PktC.cs, EvC.cs, EntC.cs, KeyC.cs, st_nil, Int.reduceAdd, kys_len, kys_get, ens_len, ens_get]))
    all_goals exact ro_mk (by simp [LeL, lk, hg, hb, *, r_two, rl_cons, rl_nil, arR, view, l_all, al_agg, al_bool, en0]) dom2
  | some x =>
    obtain ⟨hil, hix⟩ := ent_at ht.k hf0
    rw [hf0] at hF
    simp only [Option.isSome_some] at hF
    have hTk : List.take 14 (List.drop (plL keyLt k (dOf t).K * 14) (hcE cap (dOf t).E)) = x.cs := by
      rw [← hix]; exact entRow.drop_take cap (dOf t).E _ default (by omega)
    have hLen : (hcE cap (dOf t).E).length = cap * 14 := by
      unfold hcE; rw [entRow.len_hc, Nat.max_eq_left hcap]
    have hL1 : 14 ≤ (List.drop (plL keyLt k (dOf t).K * 14) (hcE cap (dOf t).E)).length := by rw [List.length_drop, hLen]; omega
    rw [hEl] at hF ⊢
    generalize plL keyLt k (dOf t).K = i at *
    clear hf0 ht hcap hEl hLen hix
    generalize hcE cap (dOf t).E = X at *
    generalize (dOf t).K.length = N at *
    simp only [EntC.cs] at hTk
    simp only [c_ligref22_Table_Get, hg, ↓Ed, Eu, ↓reduceIte, reduceCtorEq, Nat.reduceAdd, Nat.reduceEqDiff, Nat.reduceLT, Nat.reduceLeDiff, Int.reduceToNat, Int.reduceEq, Int.reduceLT, Int.reduceLE, w64, List.length_append, List.length_map, Nat.mul_one, beq_self_eq_true, PktC.cs, EvC.cs, EntC.cs, KeyC.cs, st_nil, Int.reduceAdd, kys_len, kys_get, ens_len, ens_get]
    repeat' ((first | refine c1 (hF) ?_ | refine NewB_intro0 (fun b => ?_) | (refine NewB_intro (fun b hb => ?_); simp only [ln_cons2, ln_nil, and_true] at hb) | (with_reducible apply wA; focus exact OM_a) | ((first | refine gW_sp ?_ | refine condW_sp ?_ | refine pickW_sp ?_); (try refine Sp_n ?_); (first | refine wT ?_ | refine wF ?_ | refine wL (fun h h' => ?_) (fun h h' => ?_) | refine wE (fun h h' => ?_) (fun h h' => ?_) | refine Sp_split (fun h => ?_) (fun h => ?_)) <;> (try (exfalso; omega))) | refine TreeW_intro (by rfl) ?_ | refine TreeW_all ?_ | refine upQ_intro ?_ | refine Two_intro ?_ ?_ | exact wK | exact wD | (simp only [Fact, Bool.not_eq_true', Bool.not_eq_false', decide_eq_true_eq, decide_eq_false_iff_not] at *; exact wD) | (show (_ : Nat) ≤ _; omega)) <;> (try simp (disch := omega) only [*, ↓Ed, Eu, ↓reduceIte, reduceCtorEq, Nat.reduceAdd, Nat.reduceEqDiff, Nat.reduceLT, Nat.reduceLeDiff, Int.reduceToNat, Int.reduceEq, Int.reduceLT, Int.reduceLE, w64, List.length_append, List.length_map, Nat.mul_one, beq_self_eq_true, PktC.cs, EvC.cs, EntC.cs, KeyC.cs, st_nil, Int.reduceAdd, kys_len, kys_get, ens_len, ens_get]))
    all_goals exact ro_mk (by simp [LeL, lk, hg, hb, *, r_two, rl_cons, rl_nil, arR, view, l_all, al_agg, al_bool, en0]) dom2
theorem t_dGet0 (p : Nat) (kc cc : AV) (t : Tb) (hk : kc.alias = .sl none 4 (kys (dOf t).K)) (ht : Tgood 900 t) (ht0 : t.K = []) (k : KeyC) :
    CT Try.prog 17 [.ptr p 0, .agg k.cs] (lk [(p, [kc, .nils 53 14, cc])])
      (fun r o => r = .tup [.agg ((findE t.K k).getD default).cs, .bool (findE t.K k).isSome] ∧ o = lk [(p, [kc, .nils 53 14, cc])]) := by
  have hF := t_dFind p kc (.nils 53 14) cc (dOf t).K hk (srtL_rise keySTO ht.k) (by rw [dK_len]; have := ht.lk; omega) k
  rw [key_in] at hF
  have hf0 : findE t.K k = none := by rw [ht0]; rfl
  refine okt_ligref22_Table_Get _ _ _ (by simp) ?_
  rw [hf0] at hF ⊢
  simp only [Option.isSome_none] at hF
  clear hf0 ht ht0
  simp only [c_ligref22_Table_Get, ↓Ed, Eu, ↓reduceIte, reduceCtorEq, Nat.reduceAdd, Nat.reduceEqDiff, Nat.reduceLT, Nat.reduceLeDiff, Int.reduceToNat, Int.reduceEq, Int.reduceLT, Int.reduceLE, w64, List.length_append, List.length_map, Nat.mul_one, beq_self_eq_true, PktC.cs, EvC.cs, EntC.cs, KeyC.cs, st_nil, Int.reduceAdd, kys_len, kys_get, ens_len, ens_get]
  repeat' ((first | refine c1 (hF) ?_ | refine NewB_intro0 (fun b => ?_) | (refine NewB_intro (fun b hb => ?_); simp only [ln_cons2, ln_nil, and_true] at hb) | (with_reducible apply wA; focus exact OM_a) | ((first | refine gW_sp ?_ | refine condW_sp ?_ | refine pickW_sp ?_); (try refine Sp_n ?_); (first | refine wT ?_ | refine wF ?_ | refine wL (fun h h' => ?_) (fun h h' => ?_) | refine wE (fun h h' => ?_) (fun h h' => ?_) | refine Sp_split (fun h => ?_) (fun h => ?_)) <;> (try (exfalso; omega))) | refine TreeW_intro (by rfl) ?_ | refine TreeW_all ?_ | refine upQ_intro ?_ | refine Two_intro ?_ ?_ | exact wK | exact wD | (simp only [Fact, Bool.not_eq_true', Bool.not_eq_false', decide_eq_true_eq, decide_eq_false_iff_not] at *; exact wD) | (show (_ : Nat) ≤ _; omega)) <;> (try simp (disch := omega) only [*, ↓Ed, Eu, ↓reduceIte, reduceCtorEq, Nat.reduceAdd, Nat.reduceEqDiff, Nat.reduceLT, Nat.reduceLeDiff, Int.reduceToNat, Int.reduceEq, Int.reduceLT, Int.reduceLE, w64, List.length_append, List.length_map, Nat.mul_one, beq_self_eq_true, PktC.cs, EvC.cs, EntC.cs, KeyC.cs, st_nil, Int.reduceAdd, kys_len, kys_get, ens_len, ens_get]))
  all_goals exact ro_mk (by simp [LeL, lk, hb, *, r_two, rl_cons, rl_nil, arR, view, l_all, al_agg, al_bool, en0]) dom1
theorem t_dStage1 (p g : Nat) (hg : ¬ g = p ∧ ¬ p = g) (kc cc : AV) (cap : Nat) (t : Tb) (hk : kc.alias = .sl none 4 (kys (dOf t).K)) (ht : Tgood 900 t) (hcap : (dOf t).E.length ≤ cap) (k : KeyC) :
    CT Try.prog 18 [.ptr p 0, .agg k.cs] (lk [(p, [kc, .hsl g 53 14 (dOf t).E.length cap, cc]), (g, hcE cap (dOf t).E)])
      (fun r o => r = .int .i64 (stageE (findE t.K k) k.o) ∧ o = lk [(p, [kc, .hsl g 53 14 (dOf t).E.length cap, cc]), (g, hcE cap (dOf t).E)]) := by
  have hG := t_dGet1 p g hg kc cc cap t hk ht hcap k
  refine okt_ligref22_Table_Stage _ _ _ (by simp) ?_
  clear hk ht hcap
  generalize hcE cap (dOf t).E = X at *
  generalize (dOf t).E.length = N at *
  cases hf0 : findE t.K k with
  | none =>
    rw [hf0] at hG
    simp only [Option.isSome_none, Option.getD_none] at hG
    clear hf0
    generalize (default : EntC) = x at hG
    simp only [c_ligref22_Table_Stage, hg, stageE, ↓Ed, Eu, ↓reduceIte, reduceCtorEq, Nat.reduceAdd, Nat.reduceEqDiff, Nat.reduceLT, Nat.reduceLeDiff, Int.reduceToNat, Int.reduceEq, Int.reduceLT, Int.reduceLE, w64, List.length_append, List.length_map, Nat.mul_one, beq_self_eq_true, PktC.cs, EvC.cs, EntC.cs, KeyC.cs, st_nil, Int.reduceAdd, kys_len, kys_get, ens_len, ens_get]
    repeat' ((first | refine c2 (hG) ?_ | refine NewB_intro0 (fun b => ?_) | (refine NewB_intro (fun b hb => ?_); simp only [ln_cons2, ln_nil, and_true] at hb) | (with_reducible apply wA; focus exact OM_a) | ((first | refine gW_sp ?_ | refine condW_sp ?_ | refine pickW_sp ?_); (try refine Sp_n ?_); (first | refine wT ?_ | refine wF ?_ | refine wL (fun h h' => ?_) (fun h h' => ?_) | refine wE (fun h h' => ?_) (fun h h' => ?_) | refine Sp_split (fun h => ?_) (fun h => ?_)) <;> (try (exfalso; omega))) | refine TreeW_intro (by rfl) ?_ | refine TreeW_all ?_ | refine upQ_intro ?_ | refine Two_intro ?_ ?_ | exact wK | exact wD | (simp only [Fact, Bool.not_eq_true', Bool.not_eq_false', decide_eq_true_eq, decide_eq_false_iff_not] at *; exact wD) | (show (_ : Nat) ≤ _; omega)) <;> (try simp (disch := omega) only [*, ↓Ed, Eu, ↓reduceIte, reduceCtorEq, Nat.reduceAdd, Nat.reduceEqDiff, Nat.reduceLT, Nat.reduceLeDiff, Int.reduceToNat, Int.reduceEq, Int.reduceLT, Int.reduceLE, w64, List.length_append, List.length_map, Nat.mul_one, beq_self_eq_true, PktC.cs, EvC.cs, EntC.cs, KeyC.cs, st_nil, Int.reduceAdd, kys_len, kys_get, ens_len, ens_get]))
    all_goals exact ro_mk (by simp [LeL, lk, hg, resR, arR]) dom2
  | some x =>
    rw [hf0] at hG
    simp only [Option.isSome_some, Option.getD_some] at hG
    clear hf0
    obtain ⟨pk, a, xs, xr, xw, xc, xt⟩ := x
    obtain ⟨ke, kec, ko, kq⟩ := k
    cases ko <;> cases xt <;> cases xc <;> cases xw
    all_goals simp only [c_ligref22_Table_Stage, hg, stageE, ↓Ed, Eu, ↓reduceIte, reduceCtorEq, Nat.reduceAdd, Nat.reduceEqDiff, Nat.reduceLT, Nat.reduceLeDiff, Int.reduceToNat, Int.reduceEq, Int.reduceLT, Int.reduceLE, w64, List.length_append, List.length_map, Nat.mul_one, beq_self_eq_true, PktC.cs, EvC.cs, EntC.cs, KeyC.cs, st_nil, Int.reduceAdd, kys_len, kys_get, ens_len, ens_get]
    all_goals repeat' ((first | refine c2 (hG) ?_ | refine NewB_intro0 (fun b => ?_) | (refine NewB_intro (fun b hb => ?_); simp only [ln_cons2, ln_nil, and_true] at hb) | (with_reducible apply wA; focus exact OM_a) | ((first | refine gW_sp ?_ | refine condW_sp ?_ | refine pickW_sp ?_); (try refine Sp_n ?_); (first | refine wT ?_ | refine wF ?_ | refine wL (fun h h' => ?_) (fun h h' => ?_) | refine wE (fun h h' => ?_) (fun h h' => ?_) | refine Sp_split (fun h => ?_) (fun h => ?_)) <;> (try (exfalso; omega))) | refine TreeW_intro (by rfl) ?_ | refine TreeW_all ?_ | refine upQ_intro ?_ | refine Two_intro ?_ ?_ | exact wK | exact wD | (simp only [Fact, Bool.not_eq_true', Bool.not_eq_false', decide_eq_true_eq, decide_eq_false_iff_not] at *; exact wD) | (show (_ : Nat) ≤ _; omega)) <;> (try simp (disch := omega) only [*, ↓Ed, Eu, ↓reduceIte, reduceCtorEq, Nat.reduceAdd, Nat.reduceEqDiff, Nat.reduceLT, Nat.reduceLeDiff, Int.reduceToNat, Int.reduceEq, Int.reduceLT, Int.reduceLE, w64, List.length_append, List.length_map, Nat.mul_one, beq_self_eq_true, PktC.cs, EvC.cs, EntC.cs, KeyC.cs, st_nil, Int.reduceAdd, kys_len, kys_get, ens_len, ens_get]))
    all_goals exact ro_mk (by simp [LeL, lk, hg, resR, arR]) dom2
theorem t_dStage0 (p : Nat) (kc cc : AV) (t : Tb) (hk : kc.alias = .sl none 4 (kys (dOf t).K)) (ht : Tgood 900 t) (ht0 : t.K = []) (k : KeyC) :
    CT Try.prog 18 [.ptr p 0, .agg k.cs] (lk [(p, [kc, .nils 53 14, cc])])
      (fun r o => r = .int .i64 (stageE (findE t.K k) k.o) ∧ o = lk [(p, [kc, .nils 53 14, cc])]) := by
  have hG := t_dGet0 p kc cc t hk ht ht0 k
  refine okt_ligref22_Table_Stage _ _ _ (by simp) ?_
  have hf0 : findE t.K k = none := by rw [ht0]; rfl
  rw [hf0] at hG ⊢
  simp only [Option.isSome_none, Option.getD_none] at hG
  clear hf0 hk ht ht0
  generalize (default : EntC) = x at hG
  simp only [c_ligref22_Table_Stage, stageE, ↓Ed, Eu, ↓reduceIte, reduceCtorEq, Nat.reduceAdd, Nat.reduceEqDiff, Nat.reduceLT, Nat.reduceLeDiff, Int.reduceToNat, Int.reduceEq, Int.reduceLT, Int.reduceLE, w64, List.length_append, List.length_map, Nat.mul_one, beq_self_eq_true, PktC.cs, EvC.cs, EntC.cs, KeyC.cs, st_nil, Int.reduceAdd, kys_len, kys_get, ens_len, ens_get]
  repeat' ((first | refine c1 (hG) ?_ | refine NewB_intro0 (fun b => ?_) | (refine NewB_intro (fun b hb => ?_); simp only [ln_cons2, ln_nil, and_true] at hb) | (with_reducible apply wA; focus exact OM_a) | ((first | refine gW_sp ?_ | refine condW_sp ?_ | refine pickW_sp ?_); (try refine Sp_n ?_); (first | refine wT ?_ | refine wF ?_ | refine wL (fun h h' => ?_) (fun h h' => ?_) | refine wE (fun h h' => ?_) (fun h h' => ?_) | refine Sp_split (fun h => ?_) (fun h => ?_)) <;> (try (exfalso; omega))) | refine TreeW_intro (by rfl) ?_ | refine TreeW_all ?_ | refine upQ_intro ?_ | refine Two_intro ?_ ?_ | exact wK | exact wD | (simp only [Fact, Bool.not_eq_true', Bool.not_eq_false', decide_eq_true_eq, decide_eq_false_iff_not] at *; exact wD) | (show (_ : Nat) ≤ _; omega)) <;> (try simp (disch := omega) only [*, ↓Ed, Eu, ↓reduceIte, reduceCtorEq, Nat.reduceAdd, Nat.reduceEqDiff, Nat.reduceLT, Nat.reduceLeDiff, Int.reduceToNat, Int.reduceEq, Int.reduceLT, Int.reduceLE, w64, List.length_append, List.length_map, Nat.mul_one, beq_self_eq_true, PktC.cs, EvC.cs, EntC.cs, KeyC.cs, st_nil, Int.reduceAdd, kys_len, kys_get, ens_len, ens_get]))
  all_goals exact ro_mk (by simp [LeL, lk, resR, arR]) dom1
end Go.Proofs.Ytobopbjedojebaa
