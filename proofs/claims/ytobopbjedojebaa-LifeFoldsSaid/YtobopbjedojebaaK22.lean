import Derived.Test.YtobopbjedojebaaK21
import Derived.Test.YtobopbjedojebaaK20
import Derived.Test.YtobopbjedojebaaK16
import Derived.Test.YtobopbjedojebaaK17
import Derived.Test.YtobopbjedojebaaK19
import Derived.Test.YtobopbjedojebaaK18
/- slices.Collect, slices.SortedFunc over maps.Keys at lighterman/api.End with lighterman/life.byEnd (printed by turnsort.py) -/
namespace Go.Proofs.Ytobopbjedojebaa
set_option linter.all false
open Go.RowKit Go.ChangeMaps Go.Sort Go.Shelf
set_option maxRecDepth 100000
abbrev encs (x : EndP) : List AV := [.str x.1, .int .i64 x.2]
theorem enflat (x : EndP) : flatC (encs x) = true := rfl
abbrev encl (x : EndP) : List Value := plainV (encs x)
theorem encl_len (x : EndP) : (encl x).length = 2 := rfl
theorem encmp (x y : EndP) (W : World) (hG : Glob W fun _ _ => False) : Calls Try.prog 45 #[.agg (encl x).toArray, .agg (encl y).toArray] W fun e w' => e = .returned (.int .i64 (cmpL endLt x y)) ∧ ∃ q os', w' = grow (W.drewN q) os' := by
  refine CP_grow (p_byEnd x y) hG (vs := [_, _]) rfl (fun i u c hu hc => ?_) (fun W' U' u h => by cases h; rfl)
  match i with
  | 0 => simp at hu hc; subst hu; subst hc; exact flat_VR (enflat x) _ _
  | 1 => simp at hu hc; subst hu; subst hc; exact flat_VR (enflat y) _ _
  | i + 2 => simp at hu
theorem encmpLays (blk off size : Nat) (w : World) {U : Nat → Nat → Prop} (hG : Glob w U) (hb : ∀ x ∈ globTabs, x.1 ≠ blk) : CmpLays Try.prog 45 #[] encl 2 (cmpL endLt) blk off size w := fun _ _ _ _ x y => encmp x y _ (glob_sort hG hb)
set_option maxHeartbeats 4000000 in
theorem ensorted (bx b : Nat) (es : Array MapEntry) (clk : Nat) (l : List EndP) (w : World) {U : Nat → Nat → Prop} (hG : Glob w U) (tb : TypeId) (hbx : w.heap[bx]? = some (.cells #[.map (some b)] tb (0, 0))) (hb : w.heap[b]? = some (.map es clk))
    (hval : es.toList.map (·.key) = l.map fun x => .agg (encl x).toArray) (hborn : ∀ x ∈ es.toList, x.born < clk) (hnd : (es.toList.map (·.born)).Nodup) (hl : l.length ≤ 1000000) :
    Calls Try.prog 43 #[.func (.func 67) #[] #[.pointer (some ⟨bx, 0, none⟩)], .func (.func 45) #[] #[]] w fun e W' =>
      ∃ (v : Value) (ds : List EndP), e = .returned v ∧ ds.Perm l ∧ (∀ i j, i < j → j < ds.length → endLt (ds.getD j default) (ds.getD i default) = false) ∧ W'.ownsRow w.heap.size 23 2 v ds.length (ds.flatMap encl) ∧ Below w.heap.size w W' := by
  have hcol : Calls Try.prog 65 #[.func (.func 67) #[] #[.pointer (some ⟨bx, 0, none⟩)]] w fun e W' =>
      ∃ (v : Value) (xs : List EndP), e = .returned v ∧ xs.Perm l ∧ W'.ownsRow w.heap.size 23 2 v xs.length (xs.flatMap encl) ∧ Below w.heap.size w W' := by
    have ha := callsIn_wide.1 (eva_app encl encl_len (fun x => plainV_one (enflat x)) Fence.wide 10 trivial trivial rfl (by omega) bx b es clk l w tb hbx hb hval hborn hnd hl)
    go_enter Try.func65, Try.ntmps65
    go_wp2_with (go_at_call 83; refine ha.mono ?_; rintro e W' ⟨v, xs, rfl, hp, hrow, hbl⟩)
    go_ret
    exact ⟨v, xs, rfl, hp, hrow, hbl⟩
  go_enter Try.func43, Try.ntmps43
  go_wp2_with (go_at_call 65; refine hcol.mono ?_; rintro e W' ⟨v, xs, rfl, hp, hrow, hbl⟩)
  rcases hrow.2 with ⟨rfl, hz⟩ | ⟨g, cap, cur, rfl, hbase, hgb, r1, r2, r3, r4⟩
  · have hss : xs = [] := List.eq_nil_of_length_eq_zero hz
    subst hss
    refine (AnyF.slices_SortFunc_none Try.sort66 none 0 _ W').mono ?_
    rintro e W2 ⟨rfl, rfl⟩
    go_wp2
    go_ret
    exact ⟨.slice none 0 0, [], rfl, hp, by simp, by simpa using hrow, hbl⟩
  · have hH := holdsK_of_block encl_len (by omega) hgb r4
    have hgl : g < W'.heap.size := (Array.getElem?_eq_some_iff.1 hgb).1
    have hsz : xs.toArray.size < 4611686018427387904 := by
      have := hp.length_eq
      simp; omega
    have hG' := glob_below hG hbl
    have hnt : ∀ x ∈ globTabs, x.1 ≠ g := fun x hx e => by have := hG.lt hx; omega
    have cS := AnyQ.slices_SortFunc Try.sort66 2 Try.isAgg23 Try.sizeOf23 encl encl_len (fun x => plainV_one (enflat x)) (cmpL endLt) endSTO.swo 45 #[] g 0 cap xs.toArray W' (enters_of Try.func45 (by kernel_rfl) rfl) (encmpLays _ _ _ _ hG' hnt) hH hgl hsz
    refine (show Calls Try.prog 66 #[.slice (some ⟨g, 0, none⟩) xs.length cap, _] W' _ from cS).mono ?_
    rintro e W2 ⟨rfl, d', nn, os, hperm, hsorted, rfl⟩
    have hpd : d'.toList.Perm xs := perm_of hperm
    have hown := ownsRow_sortK (n := nn) (os := os) encl_len (by omega) (hpd.length_eq) hbase hgb r1 r2 r3
    have hgr := grown_sortK (cl := encl) (k := 2) (w := W') (g := g) (n := nn) (os := os) d'
    simp only [Array.toArray_toList] at hown
    go_wp2
    go_ret
    refine ⟨_, d'.toList, rfl, hpd.trans hp, fun i j hij hj => ?_, ?_, hbl.grown hgr hbl.size (fun k e => by cases e; exact hbase)⟩
    · have hj' : j < xs.toArray.size := by rw [List.size_toArray, ← hpd.length_eq]; exact hj
      have h5 := hsorted i j (Nat.zero_le _) hij hj'
      rw [lt_cmpL] at h5
      have hds : d'.size = d'.toList.length := by simp
      have e1 : d'[i]! = d'.toList.getD i default := by simp [List.getD, getElem!_pos, show i < d'.size by omega]
      have e2 : d'[j]! = d'.toList.getD j default := by simp [List.getD, getElem!_pos, show j < d'.size by omega]
      rw [← e1, ← e2]; exact h5
    · rw [hpd.length_eq]; exact hown
theorem ent_Keys (m : Nat) : CT Try.prog 44 [.mapv m] (lk []) (fun r o => ∃ b, r = .clo 67 [.ptr b 0] ∧ o = lk [(b, [.mapv m])]) := by
  refine CT_lays (R := fun b => .clo _ [.ptr b 0]) fun W U vs hl hv => ?_
  obtain rfl : vs = [.map (some m)] := by
    match vs, hl with
    | [v], _ => rw [(hv 0 v _ rfl rfl).map_inv]
  go_enter Try.func44, Try.ntmps44
  go_wp2
  go_ret
  refine ⟨_, _, _, rfl, rfl, rfl, fun u hu => (by cases hu), fun j u hj => ?_, fun W2 U2 hc => ?_, by simp⟩
  · match j with
    | 0 =>
      simp at hj; subst hj
      exact ⟨rfl, fun x hx => by simp at hx; subst hx; exact ⟨.mapv m, by simp⟩⟩
    | j + 1 => simp at hj
  · refine .clo _ [_] [_] rfl fun i v c h1 h2 => ?_
    match i with
    | 0 => simp at h1 h2; subst h1; subst h2; exact .ptr _ _ hc
    | i + 1 => simp at h1
theorem ent_Sorted (bx m : Nat) (h1 : ¬ bx = m) (l : List EndP) (vals : List AV) (ha : l.Nodup) (hl : l.length ≤ 1000) :
    CT Try.prog 43 [.clo 67 [.ptr bx 0], .fn 45] (lk [(bx, [.mapv m]), (m, [.mp (l.map fun x => .agg (encs x)) vals (List.range l.length) l.length])])
      (fun r o => r = .sl (some 23) 2 ((srtL endLt l).map encs) ∧ o = lk [(bx, [.mapv m]), (m, [.mp (l.map fun x => .agg (encs x)) vals (List.range l.length) l.length])]) := by
  refine CT_reads fun W U vs hG hlen hv ho => ?_
  obtain rfl : vs = [.func (.func 67) #[] #[.pointer (some ⟨bx, 0, none⟩)], .func (.func 45) #[] #[]] := by
    match vs, hlen with
    | [v, u], _ => rw [(hv 0 v _ rfl rfl).clo1_inv, (hv 1 u _ rfl rfl).fn_inv]
  obtain ⟨us, ty, q1, q2, q3⟩ : ObC W U bx [.mapv m] := ho bx _ (lk_hd _ _ _)
  obtain ⟨es, g1, g2, g3, g4, g5, g6, g7⟩ : ObR W U m [.mp (l.map fun x => .agg (encs x)) vals (List.range l.length) l.length] := ho m _ (lk_tl (fun e => h1 e.symm) (lk_hd _ _ _))
  have hus : us = #[.map (some m)] := by
    have h0 := (q3 0 _ rfl).1.map_inv
    match us, q2 with
    | ⟨[a]⟩, _ => simp at h0; subst h0; rfl
  subst hus
  have hsz : es.size = l.length := by rw [g2]; simp
  have hborn : ∀ (i : Nat) (e : MapEntry), es[i]? = some e → e.born = i := by
    intro i e he
    have hi : i < es.size := (Array.getElem?_eq_some_iff.1 he).1
    exact (g7 i e he).2.2 i (by rw [List.getElem?_range (by omega)])
  have hval : es.toList.map (·.key) = l.map fun x => .agg (encl x).toArray := by
    apply List.ext_getElem?
    intro i
    by_cases hi : i < es.size
    · have hil : i < l.length := by omega
      have he : es[i]? = some es[i] := Array.getElem?_eq_getElem hi
      have hx := (g7 i _ he).1 (.agg (encs l[i])) (by simp [List.getElem?_eq_getElem hil])
      simp only [List.getElem?_map, Array.getElem?_toList, he, Option.map_some, List.getElem?_eq_getElem hil]
      rw [flat_inv (enflat _) hx]
    · rw [List.getElem?_eq_none (by simp; omega), List.getElem?_eq_none (by simp; omega)]
  have hb1 : ∀ x ∈ es.toList, x.born < l.length := by
    intro x hx
    obtain ⟨i, hi, rfl⟩ := List.getElem_of_mem hx
    simp at hi
    have := hborn i es[i] (Array.getElem?_eq_getElem hi)
    simp [this]; omega
  have hnd : (es.toList.map (·.born)).Nodup := by
    have : es.toList.map (·.born) = List.range es.size := by
      apply List.ext_getElem
      · simp
      · intro i h2 h3
        simp at h2
        simp [hborn i es[i] (Array.getElem?_eq_getElem h2)]
    rw [this]; exact List.nodup_range
  refine (ensorted bx m es _ l W hG _ q1 g1 hval hb1 hnd (by omega)).mono ?_
  rintro e W' ⟨v, ds, rfl, hp, hs, hrow, hbl⟩
  have hDS : srtL endLt l = ds := rise_unique endSTO (srtL_rise endSTO ha) (rise_of endSTO hs (hp.nodup_iff.2 ha)) ((srtL_perm _ _).trans hp.symm)
  rw [hDS]
  obtain ⟨U', r1, r2, r3⟩ := row_VR (U := U) (e := 23) (k := 2) (els := ds.map encs) (by omega) hbl hrow (by simp) (fun l hl => by
      simp only [List.mem_map] at hl
      obtain ⟨a, _, rfl⟩ := hl
      rfl) (fun u hu => by
      obtain ⟨x, _, hx⟩ := List.mem_flatMap.1 hu
      exact plainV_one (enflat x) u hx) (fun i j l' c u hl' hc hu W2 U2 => by
      simp only [List.getElem?_map, Option.map_eq_some_iff] at hl'
      obtain ⟨x, hx, rfl⟩ := hl'
      have hj : j < 2 := (List.getElem?_eq_some_iff.1 hc).1
      have hi : i < ds.length := (List.getElem?_eq_some_iff.1 hx).1
      rw [flat_getD encl_len ds i j hi hj, hx] at hu
      exact (plainV_get _ (enflat x) j c u hc hu).1 W2 U2)
  exact ⟨v, U', rfl, r1, fun e sz els he => by cases he; exact r2, r3⟩
end Go.Proofs.Ytobopbjedojebaa

/- life: Keys, Closed -/
namespace Go.Proofs.Ytobopbjedojebaa
set_option linter.all false
open Go.RowKit
set_option maxRecDepth 100000
theorem h_KeyS (bx m : Nat) (h1 : ¬ bx = m) (t : Tb) (hN : (t.K.map (·.1)).Nodup) (hl : t.K.length ≤ 1000) :
    CT Try.prog 36 [.clo 61 [.ptr bx 0], .fn 38] (lk [(bx, [.mapv m]), (m, [mpK t.K])])
      (fun r o => r = .sl (some 37) 4 ((keysS t).map KeyC.cs) ∧ o = lk [(bx, [.mapv m]), (m, [mpK t.K])]) := by
  have h := kyt_Sorted bx m h1 (t.K.map (·.1)) (tv t.K) hN (by simpa using hl)
  rw [List.length_map] at h
  exact h
theorem h_EndS (bx m : Nat) (h1 : ¬ bx = m) (t : Tb) (hN : t.C.Nodup) (hl : t.C.length ≤ 1000) :
    CT Try.prog 43 [.clo 67 [.ptr bx 0], .fn 45] (lk [(bx, [.mapv m]), (m, [mpC t.C])])
      (fun r o => r = .sl (some 23) 2 ((closS t).map fun e => [.str e.1, .int .i64 e.2]) ∧ o = lk [(bx, [.mapv m]), (m, [mpC t.C])]) :=
  ent_Sorted bx m h1 t.C (List.replicate t.C.length (.int .i64 1)) hN hl
theorem t_Keys (c m n : Nat) (hh : (¬ c = m ∧ ¬ m = c) ∧ (¬ c = n ∧ ¬ n = c) ∧ ¬ m = n ∧ ¬ n = m) (t : Tb) (hN : (t.K.map (·.1)).Nodup) (hl : t.K.length ≤ 1000) :
    CT Try.prog 13 [.ptr c 0] (lk (tabO c m n t)) (fun r o => r = .sl (some 37) 4 ((keysS t).map KeyC.cs) ∧ o = lk (tabO c m n t)) := by
  have hS := fun bx (h : ¬ bx = m) => h_KeyS bx m h t hN hl
  clear hN hl
  refine okt_life_Table_Keys _ _ _ (by simp) ?_
  simp only [c_life_Table_Keys, hh, ↓Ed, Eu, ↓reduceIte, reduceCtorEq, Nat.reduceAdd, Nat.reduceEqDiff, Nat.reduceLT, Nat.reduceLeDiff, Int.reduceToNat, Int.reduceEq, Int.reduceLT, Int.reduceLE, w64, List.length_append, List.length_map, Nat.mul_one, beq_self_eq_true, PktC.cs, EvC.cs, EntC.cs, KeyC.cs, st_nil, Int.reduceAdd]
  repeat' ((first | refine CallO_newR (R := fun b => .clo _ [.ptr b 0]) (kyt_Keys m) ?_ | refine NewB_intro0 (fun b => ?_) | (refine NewB_intro (fun b hb => ?_); simp only [ln_cons2, ln_nil, and_true] at hb) | (with_reducible apply wA; focus exact OM_a) | ((first | refine gW_sp ?_ | refine condW_sp ?_ | refine pickW_sp ?_); (try refine Sp_n ?_); (first | refine wT ?_ | refine wF ?_ | refine wL (fun h h' => ?_) (fun h h' => ?_) | refine wE (fun h h' => ?_) (fun h h' => ?_) | refine Sp_split (fun h => ?_) (fun h => ?_)) <;> (try (exfalso; omega))) | refine TreeW_intro (by rfl) ?_ | refine TreeW_all ?_ | refine upQ_intro ?_ | refine Two_intro ?_ ?_ | exact wK | exact wD | (simp only [Fact, Bool.not_eq_true', Bool.not_eq_false', decide_eq_true_eq, decide_eq_false_iff_not] at *; exact wD) | (show (_ : Nat) ≤ _; omega)) <;> (try simp (disch := omega) only [*, ↓Ed, Eu, ↓reduceIte, reduceCtorEq, Nat.reduceAdd, Nat.reduceEqDiff, Nat.reduceLT, Nat.reduceLeDiff, Int.reduceToNat, Int.reduceEq, Int.reduceLT, Int.reduceLE, w64, List.length_append, List.length_map, Nat.mul_one, beq_self_eq_true, PktC.cs, EvC.cs, EntC.cs, KeyC.cs, st_nil, Int.reduceAdd]))
  have hb' : (¬b = c ∧ ¬c = b) ∧ (¬b = m ∧ ¬m = b) ∧ ¬b = n ∧ ¬n = b := by simpa using hb
  refine CallO_det (hS b hb'.2.1.1) (lk_sub2 (lk_hd _ _ _) (lk_tl hb'.2.1.2 (lk_tl hh.1.2 (lk_hd _ _ _)))) ?_
  simp (disch := omega) only [hb', hh, ↓Ed, Eu, ↓reduceIte, reduceCtorEq, Nat.reduceAdd, Nat.reduceEqDiff, Nat.reduceLT, Nat.reduceLeDiff, Int.reduceToNat, Int.reduceEq, Int.reduceLT, Int.reduceLE, w64, List.length_append, List.length_map, Nat.mul_one, beq_self_eq_true, PktC.cs, EvC.cs, EntC.cs, KeyC.cs, st_nil, Int.reduceAdd]
  repeat' ((first | refine NewB_intro0 (fun b => ?_) | (refine NewB_intro (fun b hb => ?_); simp only [ln_cons2, ln_nil, and_true] at hb) | (with_reducible apply wA; focus exact OM_a) | ((first | refine gW_sp ?_ | refine condW_sp ?_ | refine pickW_sp ?_); (try refine Sp_n ?_); (first | refine wT ?_ | refine wF ?_ | refine wL (fun h h' => ?_) (fun h h' => ?_) | refine wE (fun h h' => ?_) (fun h h' => ?_) | refine Sp_split (fun h => ?_) (fun h => ?_)) <;> (try (exfalso; omega))) | refine TreeW_intro (by rfl) ?_ | refine TreeW_all ?_ | refine upQ_intro ?_ | refine Two_intro ?_ ?_ | exact wK | exact wD | (simp only [Fact, Bool.not_eq_true', Bool.not_eq_false', decide_eq_true_eq, decide_eq_false_iff_not] at *; exact wD) | (show (_ : Nat) ≤ _; omega)) <;> (try simp (disch := omega) only [*, ↓Ed, Eu, ↓reduceIte, reduceCtorEq, Nat.reduceAdd, Nat.reduceEqDiff, Nat.reduceLT, Nat.reduceLeDiff, Int.reduceToNat, Int.reduceEq, Int.reduceLT, Int.reduceLE, w64, List.length_append, List.length_map, Nat.mul_one, beq_self_eq_true, PktC.cs, EvC.cs, EntC.cs, KeyC.cs, st_nil, Int.reduceAdd]))
  exact ro_mk (by simp [LeL, lk, hh, hb', resR, arR]) dom3
theorem t_Closed (c m n : Nat) (hh : (¬ c = m ∧ ¬ m = c) ∧ (¬ c = n ∧ ¬ n = c) ∧ ¬ m = n ∧ ¬ n = m) (t : Tb) (hN : t.C.Nodup) (hl : t.C.length ≤ 1000) :
    CT Try.prog 21 [.ptr c 0] (lk (tabO c m n t)) (fun r o => r = .sl (some 23) 2 ((closS t).map fun e => [.str e.1, .int .i64 e.2]) ∧ o = lk (tabO c m n t)) := by
  have hS := fun bx (h : ¬ bx = n) => h_EndS bx n h t hN hl
  clear hN hl
  refine okt_life_Table_Closed _ _ _ (by simp) ?_
  simp only [c_life_Table_Closed, hh, ↓Ed, Eu, ↓reduceIte, reduceCtorEq, Nat.reduceAdd, Nat.reduceEqDiff, Nat.reduceLT, Nat.reduceLeDiff, Int.reduceToNat, Int.reduceEq, Int.reduceLT, Int.reduceLE, w64, List.length_append, List.length_map, Nat.mul_one, beq_self_eq_true, PktC.cs, EvC.cs, EntC.cs, KeyC.cs, st_nil, Int.reduceAdd]
  repeat' ((first | refine CallO_newR (R := fun b => .clo _ [.ptr b 0]) (ent_Keys n) ?_ | refine NewB_intro0 (fun b => ?_) | (refine NewB_intro (fun b hb => ?_); simp only [ln_cons2, ln_nil, and_true] at hb) | (with_reducible apply wA; focus exact OM_a) | ((first | refine gW_sp ?_ | refine condW_sp ?_ | refine pickW_sp ?_); (try refine Sp_n ?_); (first | refine wT ?_ | refine wF ?_ | refine wL (fun h h' => ?_) (fun h h' => ?_) | refine wE (fun h h' => ?_) (fun h h' => ?_) | refine Sp_split (fun h => ?_) (fun h => ?_)) <;> (try (exfalso; omega))) | refine TreeW_intro (by rfl) ?_ | refine TreeW_all ?_ | refine upQ_intro ?_ | refine Two_intro ?_ ?_ | exact wK | exact wD | (simp only [Fact, Bool.not_eq_true', Bool.not_eq_false', decide_eq_true_eq, decide_eq_false_iff_not] at *; exact wD) | (show (_ : Nat) ≤ _; omega)) <;> (try simp (disch := omega) only [*, ↓Ed, Eu, ↓reduceIte, reduceCtorEq, Nat.reduceAdd, Nat.reduceEqDiff, Nat.reduceLT, Nat.reduceLeDiff, Int.reduceToNat, Int.reduceEq, Int.reduceLT, Int.reduceLE, w64, List.length_append, List.length_map, Nat.mul_one, beq_self_eq_true, PktC.cs, EvC.cs, EntC.cs, KeyC.cs, st_nil, Int.reduceAdd]))
  have hb' : (¬b = c ∧ ¬c = b) ∧ (¬b = m ∧ ¬m = b) ∧ ¬b = n ∧ ¬n = b := by simpa using hb
  refine CallO_det (hS b hb'.2.2.1) (lk_sub2 (lk_hd _ _ _) (lk_tl hb'.2.2.2 (lk_tl hh.2.1.2 (lk_tl hh.2.2.2 (lk_hd _ _ _))))) ?_
  simp (disch := omega) only [hb', hh, ↓Ed, Eu, ↓reduceIte, reduceCtorEq, Nat.reduceAdd, Nat.reduceEqDiff, Nat.reduceLT, Nat.reduceLeDiff, Int.reduceToNat, Int.reduceEq, Int.reduceLT, Int.reduceLE, w64, List.length_append, List.length_map, Nat.mul_one, beq_self_eq_true, PktC.cs, EvC.cs, EntC.cs, KeyC.cs, st_nil, Int.reduceAdd]
  repeat' ((first | refine NewB_intro0 (fun b => ?_) | (refine NewB_intro (fun b hb => ?_); simp only [ln_cons2, ln_nil, and_true] at hb) | (with_reducible apply wA; focus exact OM_a) | ((first | refine gW_sp ?_ | refine condW_sp ?_ | refine pickW_sp ?_); (try refine Sp_n ?_); (first | refine wT ?_ | refine wF ?_ | refine wL (fun h h' => ?_) (fun h h' => ?_) | refine wE (fun h h' => ?_) (fun h h' => ?_) | refine Sp_split (fun h => ?_) (fun h => ?_)) <;> (try (exfalso; omega))) | refine TreeW_intro (by rfl) ?_ | refine TreeW_all ?_ | refine upQ_intro ?_ | refine Two_intro ?_ ?_ | exact wK | exact wD | (simp only [Fact, Bool.not_eq_true', Bool.not_eq_false', decide_eq_true_eq, decide_eq_false_iff_not] at *; exact wD) | (show (_ : Nat) ≤ _; omega)) <;> (try simp (disch := omega) only [*, ↓Ed, Eu, ↓reduceIte, reduceCtorEq, Nat.reduceAdd, Nat.reduceEqDiff, Nat.reduceLT, Nat.reduceLeDiff, Int.reduceToNat, Int.reduceEq, Int.reduceLT, Int.reduceLE, w64, List.length_append, List.length_map, Nat.mul_one, beq_self_eq_true, PktC.cs, EvC.cs, EntC.cs, KeyC.cs, st_nil, Int.reduceAdd]))
  exact ro_mk (by simp [LeL, lk, hh, hb', resR, arR]) dom3
end Go.Proofs.Ytobopbjedojebaa

/- liglaw22.Same: a table against the document's (rows) -/
namespace Go.Proofs.Ytobopbjedojebaa
set_option linter.all false
open Go.RowKit Classical
set_option maxRecDepth 100000
theorem ent_nth {t : Tb} (i : Nat) (hi : i < (dOf t).K.length) : findE t.K ((dOf t).K.getD i default) = some ((dOf t).E.getD i default) := by
  have hi' : i < (keysS t).length := hi
  have hm : (keysS t).getD i default ∈ keysS t := by
    rw [List.getD, List.getElem?_eq_getElem hi', Option.getD_some]; exact List.getElem_mem hi'
  obtain ⟨x, hx⟩ := Option.isSome_iff_exists.1 (mem_keysS.1 hm)
  show findE t.K ((keysS t).getD i default) = some (((keysS t).map (entS t)).getD i default)
  have e : ((keysS t).map (entS t)).getD i default = entS t ((keysS t).getD i default) := by
    simp only [List.getD, List.getElem?_map, List.getElem?_eq_getElem hi', Option.map_some, Option.getD_some]
  rw [e, hx]
  simp only [entS, hx, Option.getD_some]
theorem dom4 {α : Type} {b d f h : Nat} {c c' e e' g g' i i' : α} : ∀ b' cs, lk [(b, c), (d, e), (f, g), (h, i)] b' = some cs → ∃ cs', lk [(b, c'), (d, e'), (f, g'), (h, i')] b' = some cs' := by
  intro b' cs hq
  rw [lk_cons] at hq ⊢
  by_cases hb : b' = b
  · rw [if_pos hb]; exact ⟨_, rfl⟩
  · rw [if_neg hb] at hq ⊢; exact dom3 b' cs hq
theorem dom5 {α : Type} {b d f h j : Nat} {c c' e e' g g' i i' k k' : α} : ∀ b' cs, lk [(b, c), (d, e), (f, g), (h, i), (j, k)] b' = some cs → ∃ cs', lk [(b, c'), (d, e'), (f, g'), (h, i'), (j, k')] b' = some cs' := by
  intro b' cs hq
  rw [lk_cons] at hq ⊢
  by_cases hb : b' = b
  · rw [if_pos hb]; exact ⟨_, rfl⟩
  · rw [if_neg hb] at hq ⊢; exact dom4 b' cs hq
theorem t_Same1 (c m n p g : Nat) (hh : (¬ c = m ∧ ¬ m = c) ∧ (¬ c = n ∧ ¬ n = c) ∧ ¬ m = n ∧ ¬ n = m) (hp : (¬ p = c ∧ ¬ c = p) ∧ (¬ p = m ∧ ¬ m = p) ∧ ¬ p = n ∧ ¬ n = p)
    (hg : (¬ g = c ∧ ¬ c = g) ∧ (¬ g = m ∧ ¬ m = g) ∧ (¬ g = n ∧ ¬ n = g) ∧ ¬ g = p ∧ ¬ p = g) (kc cc : AV) (cap : Nat) (t : Tb) (hk : kc.alias = .sl none 4 (kys (dOf t).K)) (hcc : cc.alias = .sl none 2 (ens (dOf t).C))
    (ht : Tgood 900 t) (hcap : (dOf t).E.length ≤ cap) :
    CT Try.prog 19 [.ptr c 0, .ptr p 0] (lk (tabO c m n t ++ [(p, [kc, .hsl g 53 14 (dOf t).E.length cap, cc]), (g, hcE cap (dOf t).E)]))
      (fun r o => r = .bool true ∧ o = lk (tabO c m n t ++ [(p, [kc, .hsl g 53 14 (dOf t).E.length cap, cc]), (g, hcE cap (dOf t).E)])) := by
  have hK := t_Keys c m n hh t ht.k (by have := ht.lk; omega)
  have hC := t_Closed c m n hh t ht.c (by have := ht.lc; omega)
  have hKl : (dOf t).K.length ≤ 900 := by rw [dK_len]; exact ht.lk
  have hCl : (dOf t).C.length ≤ 900 := by rw [dC_len]; exact ht.lc
  have hEl := dE_len t
  rw [show (keysS t).map KeyC.cs = kys (dOf t).K from rfl] at hK
  rw [show ((closS t).map fun e => [AV.str e.1, .int .i64 e.2]) = ens (dOf t).C from rfl] at hC
  refine okt_liglaw22_Same _ _ _ (by simp) ?_
  simp only [c_liglaw22_Same, hh, hp, hg, hk, hcc, List.cons_append, List.nil_append, ↓Ed, Eu, ↓reduceIte, reduceCtorEq, Nat.reduceAdd, Nat.reduceEqDiff, Nat.reduceLT, Nat.reduceLeDiff, Int.reduceToNat, Int.reduceEq, Int.reduceLT, Int.reduceLE, w64, List.length_append, List.length_map, Nat.mul_one, beq_self_eq_true, PktC.cs, EvC.cs, EntC.cs, KeyC.cs, st_nil, Int.reduceAdd, kys_len, kys_get, ens_len, ens_get]
  repeat' ((first | refine c3 (hK) ?_ | refine c3 (hC) ?_ | refine NewB_intro0 (fun b => ?_) | (refine NewB_intro (fun b hb => ?_); simp only [ln_cons2, ln_nil, and_true] at hb) | (with_reducible apply wA; focus exact OM_a) | ((first | refine gW_sp ?_ | refine condW_sp ?_ | refine pickW_sp ?_); (try refine Sp_n ?_); (first | refine wT ?_ | refine wF ?_ | refine wL (fun h h' => ?_) (fun h h' => ?_) | refine wE (fun h h' => ?_) (fun h h' => ?_) | refine Sp_split (fun h => ?_) (fun h => ?_)) <;> (try (exfalso; omega))) | refine TreeW_intro (by rfl) ?_ | refine TreeW_all ?_ | refine upQ_intro ?_ | refine Two_intro ?_ ?_ | exact wK | exact wD | (simp only [Fact, Bool.not_eq_true', Bool.not_eq_false', decide_eq_true_eq, decide_eq_false_iff_not] at *; exact wD) | (show (_ : Nat) ≤ _; omega)) <;> (try simp (disch := omega) only [*, ↓Ed, Eu, ↓reduceIte, reduceCtorEq, Nat.reduceAdd, Nat.reduceEqDiff, Nat.reduceLT, Nat.reduceLeDiff, Int.reduceToNat, Int.reduceEq, Int.reduceLT, Int.reduceLE, w64, List.length_append, List.length_map, Nat.mul_one, beq_self_eq_true, PktC.cs, EvC.cs, EntC.cs, KeyC.cs, st_nil, Int.reduceAdd, kys_len, kys_get, ens_len, ens_get]))
  refine wpx_loop (fun i : Nat => ⟨lk [(0, .ptr c 0), (1, .ptr p 0), (5, .sl (some 37) 4 (kys (dOf t).K)), (6, .int .i64 (i : Int))], lk [(c, [.mapv m, .mapv n]), (m, [mpK t.K]), (n, [mpC t.C]), (p, [kc, .hsl g 53 14 (dOf t).K.length cap, cc]), (g, hcE cap (dOf t).E)]⟩) (fun i => i ≤ (dOf t).K.length) (fun i => (dOf t).K.length - i) 0 (by omega) (Le_lit (by simp [LeL, lk, hh, hp, hg])) ?_
  intro i hi
  by_cases hlt : i < (dOf t).K.length
  · have f1 : Fact (decide ((i : Int) < (dOf t).K.length) = true) := by simp only [Fact, Bool.not_eq_true', Bool.not_eq_false', decide_eq_true_eq, decide_eq_false_iff_not]; omega
    have hG := t_Get c m n hh t ((dOf t).K.getD i default)
    rw [ent_nth i hlt] at hG
    simp only [Option.isSome_some, Option.getD_some] at hG
    have hTk : List.take 14 (List.drop (i * 14) (hcE cap (dOf t).E)) = ((dOf t).E.getD i default).cs := entRow.drop_take cap (dOf t).E i default (by omega)
    have hL1 : 14 ≤ (List.drop (i * 14) (hcE cap (dOf t).E)).length := by
      rw [List.length_drop, show (hcE cap (dOf t).E).length = cap * 14 by unfold hcE; rw [entRow.len_hc, Nat.max_eq_left hcap]]; omega
    generalize hkx : (dOf t).K.getD i default = k at *
    generalize (dOf t).E.getD i default = x at *
    simp only [EntC.cs] at hTk
    clear hK hC
    simp (disch := omega) only [hk, hcc, hkx, hh, hp, hg, ↓Ed, Eu, ↓reduceIte, reduceCtorEq, Nat.reduceAdd, Nat.reduceEqDiff, Nat.reduceLT, Nat.reduceLeDiff, Int.reduceToNat, Int.reduceEq, Int.reduceLT, Int.reduceLE, w64, List.length_append, List.length_map, Nat.mul_one, beq_self_eq_true, PktC.cs, EvC.cs, EntC.cs, KeyC.cs, st_nil, Int.reduceAdd, kys_len, kys_get, ens_len, ens_get]
    repeat' ((first | refine c3 (hG) ?_ | refine NewB_intro0 (fun b => ?_) | (refine NewB_intro (fun b hb => ?_); simp only [ln_cons2, ln_nil, and_true] at hb) | (with_reducible apply wA; focus exact OM_a) | ((first | refine gW_sp ?_ | refine condW_sp ?_ | refine pickW_sp ?_); (try refine Sp_n ?_); (first | refine wT ?_ | refine wF ?_ | refine wL (fun h h' => ?_) (fun h h' => ?_) | refine wE (fun h h' => ?_) (fun h h' => ?_) | refine Sp_split (fun h => ?_) (fun h => ?_)) <;> (try (exfalso; omega))) | refine TreeW_intro (by rfl) ?_ | refine TreeW_all ?_ | refine upQ_intro ?_ | refine Two_intro ?_ ?_ | exact wK | exact wD | (simp only [Fact, Bool.not_eq_true', Bool.not_eq_false', decide_eq_true_eq, decide_eq_false_iff_not] at *; exact wD) | (show (_ : Nat) ≤ _; omega)) <;> (try simp (disch := omega) only [*, ↓Ed, Eu, ↓reduceIte, reduceCtorEq, Nat.reduceAdd, Nat.reduceEqDiff, Nat.reduceLT, Nat.reduceLeDiff, Int.reduceToNat, Int.reduceEq, Int.reduceLT, Int.reduceLE, w64, List.length_append, List.length_map, Nat.mul_one, beq_self_eq_true, PktC.cs, EvC.cs, EntC.cs, KeyC.cs, st_nil, Int.reduceAdd, kys_len, kys_get, ens_len, ens_get]))
    all_goals first | exact Round_lit (i + 1) ⟨Le_lit (by simp [LeL, lk, hh, hp, hg]), by omega, by omega⟩ | trace_state
  have hie : i = (dOf t).K.length := by omega
  subst hie
  have f1 : Fact (decide (((dOf t).K.length : Int) < (dOf t).K.length) = false) := by simp only [Fact, Bool.not_eq_true', Bool.not_eq_false', decide_eq_true_eq, decide_eq_false_iff_not]; omega
  clear hK
  simp (disch := omega) only [hk, hcc, hh, hp, hg, ↓Ed, Eu, ↓reduceIte, reduceCtorEq, Nat.reduceAdd, Nat.reduceEqDiff, Nat.reduceLT, Nat.reduceLeDiff, Int.reduceToNat, Int.reduceEq, Int.reduceLT, Int.reduceLE, w64, List.length_append, List.length_map, Nat.mul_one, beq_self_eq_true, PktC.cs, EvC.cs, EntC.cs, KeyC.cs, st_nil, Int.reduceAdd, kys_len, kys_get, ens_len, ens_get]
  repeat' ((first | refine c3 (hC) ?_ | refine NewB_intro0 (fun b => ?_) | (refine NewB_intro (fun b hb => ?_); simp only [ln_cons2, ln_nil, and_true] at hb) | (with_reducible apply wA; focus exact OM_a) | ((first | refine gW_sp ?_ | refine condW_sp ?_ | refine pickW_sp ?_); (try refine Sp_n ?_); (first | refine wT ?_ | refine wF ?_ | refine wL (fun h h' => ?_) (fun h h' => ?_) | refine wE (fun h h' => ?_) (fun h h' => ?_) | refine Sp_split (fun h => ?_) (fun h => ?_)) <;> (try (exfalso; omega))) | refine TreeW_intro (by rfl) ?_ | refine TreeW_all ?_ | refine upQ_intro ?_ | refine Two_intro ?_ ?_ | exact wK | exact wD | (simp only [Fact, Bool.not_eq_true', Bool.not_eq_false', decide_eq_true_eq, decide_eq_false_iff_not] at *; exact wD) | (show (_ : Nat) ≤ _; omega)) <;> (try simp (disch := omega) only [*, ↓Ed, Eu, ↓reduceIte, reduceCtorEq, Nat.reduceAdd, Nat.reduceEqDiff, Nat.reduceLT, Nat.reduceLeDiff, Int.reduceToNat, Int.reduceEq, Int.reduceLT, Int.reduceLE, w64, List.length_append, List.length_map, Nat.mul_one, beq_self_eq_true, PktC.cs, EvC.cs, EntC.cs, KeyC.cs, st_nil, Int.reduceAdd, kys_len, kys_get, ens_len, ens_get]))
  refine wpx_loop (fun i : Nat => ⟨lk [(0, .ptr c 0), (1, .ptr p 0), (10, .sl (some 23) 2 (ens (dOf t).C)), (11, .int .i64 (i : Int))], lk [(c, [.mapv m, .mapv n]), (m, [mpK t.K]), (n, [mpC t.C]), (p, [kc, .hsl g 53 14 (dOf t).K.length cap, cc]), (g, hcE cap (dOf t).E)]⟩) (fun i => i ≤ (dOf t).C.length) (fun i => (dOf t).C.length - i) 0 (by omega) (Le_lit (by simp [LeL, lk, hh, hp, hg])) ?_
  intro i hi
  clear f1 hC
  by_cases hlt : i < (dOf t).C.length
  · have f1 : Fact (decide ((i : Int) < (dOf t).C.length) = true) := by simp only [Fact, Bool.not_eq_true', Bool.not_eq_false', decide_eq_true_eq, decide_eq_false_iff_not]; omega
    generalize hkx : (dOf t).C.getD i default = k at *
    simp (disch := omega) only [hk, hcc, hkx, hh, hp, hg, ↓Ed, Eu, ↓reduceIte, reduceCtorEq, Nat.reduceAdd, Nat.reduceEqDiff, Nat.reduceLT, Nat.reduceLeDiff, Int.reduceToNat, Int.reduceEq, Int.reduceLT, Int.reduceLE, w64, List.length_append, List.length_map, Nat.mul_one, beq_self_eq_true, PktC.cs, EvC.cs, EntC.cs, KeyC.cs, st_nil, Int.reduceAdd, kys_len, kys_get, ens_len, ens_get]
    repeat' ((first | refine NewB_intro0 (fun b => ?_) | (refine NewB_intro (fun b hb => ?_); simp only [ln_cons2, ln_nil, and_true] at hb) | (with_reducible apply wA; focus exact OM_a) | ((first | refine gW_sp ?_ | refine condW_sp ?_ | refine pickW_sp ?_); (try refine Sp_n ?_); (first | refine wT ?_ | refine wF ?_ | refine wL (fun h h' => ?_) (fun h h' => ?_) | refine wE (fun h h' => ?_) (fun h h' => ?_) | refine Sp_split (fun h => ?_) (fun h => ?_)) <;> (try (exfalso; omega))) | refine TreeW_intro (by rfl) ?_ | refine TreeW_all ?_ | refine upQ_intro ?_ | refine Two_intro ?_ ?_ | exact wK | exact wD | (simp only [Fact, Bool.not_eq_true', Bool.not_eq_false', decide_eq_true_eq, decide_eq_false_iff_not] at *; exact wD) | (show (_ : Nat) ≤ _; omega)) <;> (try simp (disch := omega) only [*, ↓Ed, Eu, ↓reduceIte, reduceCtorEq, Nat.reduceAdd, Nat.reduceEqDiff, Nat.reduceLT, Nat.reduceLeDiff, Int.reduceToNat, Int.reduceEq, Int.reduceLT, Int.reduceLE, w64, List.length_append, List.length_map, Nat.mul_one, beq_self_eq_true, PktC.cs, EvC.cs, EntC.cs, KeyC.cs, st_nil, Int.reduceAdd, kys_len, kys_get, ens_len, ens_get]))
    all_goals first | exact Round_lit (i + 1) ⟨Le_lit (by simp [LeL, lk, hh, hp, hg]), by omega, by omega⟩ | trace_state
  have hie : i = (dOf t).C.length := by omega
  subst hie
  have f1 : Fact (decide (((dOf t).C.length : Int) < (dOf t).C.length) = false) := by simp only [Fact, Bool.not_eq_true', Bool.not_eq_false', decide_eq_true_eq, decide_eq_false_iff_not]; omega
  simp (disch := omega) only [hk, hcc, hh, hp, hg, ↓Ed, Eu, ↓reduceIte, reduceCtorEq, Nat.reduceAdd, Nat.reduceEqDiff, Nat.reduceLT, Nat.reduceLeDiff, Int.reduceToNat, Int.reduceEq, Int.reduceLT, Int.reduceLE, w64, List.length_append, List.length_map, Nat.mul_one, beq_self_eq_true, PktC.cs, EvC.cs, EntC.cs, KeyC.cs, st_nil, Int.reduceAdd, kys_len, kys_get, ens_len, ens_get]
  repeat' ((first | refine NewB_intro0 (fun b => ?_) | (refine NewB_intro (fun b hb => ?_); simp only [ln_cons2, ln_nil, and_true] at hb) | (with_reducible apply wA; focus exact OM_a) | ((first | refine gW_sp ?_ | refine condW_sp ?_ | refine pickW_sp ?_); (try refine Sp_n ?_); (first | refine wT ?_ | refine wF ?_ | refine wL (fun h h' => ?_) (fun h h' => ?_) | refine wE (fun h h' => ?_) (fun h h' => ?_) | refine Sp_split (fun h => ?_) (fun h => ?_)) <;> (try (exfalso; omega))) | refine TreeW_intro (by rfl) ?_ | refine TreeW_all ?_ | refine upQ_intro ?_ | refine Two_intro ?_ ?_ | exact wK | exact wD | (simp only [Fact, Bool.not_eq_true', Bool.not_eq_false', decide_eq_true_eq, decide_eq_false_iff_not] at *; exact wD) | (show (_ : Nat) ≤ _; omega)) <;> (try simp (disch := omega) only [*, ↓Ed, Eu, ↓reduceIte, reduceCtorEq, Nat.reduceAdd, Nat.reduceEqDiff, Nat.reduceLT, Nat.reduceLeDiff, Int.reduceToNat, Int.reduceEq, Int.reduceLT, Int.reduceLE, w64, List.length_append, List.length_map, Nat.mul_one, beq_self_eq_true, PktC.cs, EvC.cs, EntC.cs, KeyC.cs, st_nil, Int.reduceAdd, kys_len, kys_get, ens_len, ens_get]))
  all_goals exact ro_mk (by simp [LeL, lk, hh, hp, hg, resR, arR]) dom5
theorem t_Same0 (c m n p : Nat) (hh : (¬ c = m ∧ ¬ m = c) ∧ (¬ c = n ∧ ¬ n = c) ∧ ¬ m = n ∧ ¬ n = m) (hp : (¬ p = c ∧ ¬ c = p) ∧ (¬ p = m ∧ ¬ m = p) ∧ ¬ p = n ∧ ¬ n = p) (kc cc : AV) (t : Tb) (hk : kc.alias = .sl none 4 (kys (dOf t).K)) (hcc : cc.alias = .sl none 2 (ens (dOf t).C))
    (ht : Tgood 900 t) (ht0 : t.K = []) :
    CT Try.prog 19 [.ptr c 0, .ptr p 0] (lk (tabO c m n t ++ [(p, [kc, .nils 53 14, cc])]))
      (fun r o => r = .bool true ∧ o = lk (tabO c m n t ++ [(p, [kc, .nils 53 14, cc])])) := by
  have hK := t_Keys c m n hh t ht.k (by have := ht.lk; omega)
  have hC := t_Closed c m n hh t ht.c (by have := ht.lc; omega)
  have hKl : (dOf t).K.length ≤ 900 := by rw [dK_len]; exact ht.lk
  have hN0 : Fact ((dOf t).K.length = 0) := by show (dOf t).K.length = 0; rw [dK_len, ht0]; rfl
  clear ht0
  have hCl : (dOf t).C.length ≤ 900 := by rw [dC_len]; exact ht.lc
  have hEl := dE_len t
  rw [show (keysS t).map KeyC.cs = kys (dOf t).K from rfl] at hK
  rw [show ((closS t).map fun e => [AV.str e.1, .int .i64 e.2]) = ens (dOf t).C from rfl] at hC
  refine okt_liglaw22_Same _ _ _ (by simp) ?_
  simp only [c_liglaw22_Same, hh, hp, hk, hcc, List.cons_append, List.nil_append, ↓Ed, Eu, ↓reduceIte, reduceCtorEq, Nat.reduceAdd, Nat.reduceEqDiff, Nat.reduceLT, Nat.reduceLeDiff, Int.reduceToNat, Int.reduceEq, Int.reduceLT, Int.reduceLE, w64, List.length_append, List.length_map, Nat.mul_one, beq_self_eq_true, PktC.cs, EvC.cs, EntC.cs, KeyC.cs, st_nil, Int.reduceAdd, kys_len, kys_get, ens_len, ens_get]
  repeat' ((first | refine c3 (hK) ?_ | refine c3 (hC) ?_ | refine NewB_intro0 (fun b => ?_) | (refine NewB_intro (fun b hb => ?_); simp only [ln_cons2, ln_nil, and_true] at hb) | (with_reducible apply wA; focus exact OM_a) | ((first | refine gW_sp ?_ | refine condW_sp ?_ | refine pickW_sp ?_); (try refine Sp_n ?_); (first | refine wT ?_ | refine wF ?_ | refine wL (fun h h' => ?_) (fun h h' => ?_) | refine wE (fun h h' => ?_) (fun h h' => ?_) | refine Sp_split (fun h => ?_) (fun h => ?_)) <;> (try (exfalso; omega))) | refine TreeW_intro (by rfl) ?_ | refine TreeW_all ?_ | refine upQ_intro ?_ | refine Two_intro ?_ ?_ | exact wK | exact wD | (simp only [Fact, Bool.not_eq_true', Bool.not_eq_false', decide_eq_true_eq, decide_eq_false_iff_not] at *; exact wD) | (show (_ : Nat) ≤ _; omega)) <;> (try simp (disch := omega) only [*, ↓Ed, Eu, ↓reduceIte, reduceCtorEq, Nat.reduceAdd, Nat.reduceEqDiff, Nat.reduceLT, Nat.reduceLeDiff, Int.reduceToNat, Int.reduceEq, Int.reduceLT, Int.reduceLE, w64, List.length_append, List.length_map, Nat.mul_one, beq_self_eq_true, PktC.cs, EvC.cs, EntC.cs, KeyC.cs, st_nil, Int.reduceAdd, kys_len, kys_get, ens_len, ens_get]))
  refine wpx_loop (fun i : Nat => ⟨lk [(0, .ptr c 0), (1, .ptr p 0), (5, .sl (some 37) 4 (kys (dOf t).K)), (6, .int .i64 (i : Int))], lk [(c, [.mapv m, .mapv n]), (m, [mpK t.K]), (n, [mpC t.C]), (p, [kc, .nils 53 14, cc])]⟩) (fun i => i ≤ (dOf t).K.length) (fun i => (dOf t).K.length - i) 0 (by omega) (Le_lit (by simp [LeL, lk, hh, hp])) ?_
  intro i hi
  by_cases hlt : i < (dOf t).K.length
  · exact absurd hlt (by rw [show (dOf t).K.length = 0 from hN0]; simp)
  have hie : i = (dOf t).K.length := by omega
  subst hie
  have f1 : Fact (decide (((dOf t).K.length : Int) < (dOf t).K.length) = false) := by simp only [Fact, Bool.not_eq_true', Bool.not_eq_false', decide_eq_true_eq, decide_eq_false_iff_not]; omega
  clear hK
  simp (disch := omega) only [hk, hcc, hh, hp, ↓Ed, Eu, ↓reduceIte, reduceCtorEq, Nat.reduceAdd, Nat.reduceEqDiff, Nat.reduceLT, Nat.reduceLeDiff, Int.reduceToNat, Int.reduceEq, Int.reduceLT, Int.reduceLE, w64, List.length_append, List.length_map, Nat.mul_one, beq_self_eq_true, PktC.cs, EvC.cs, EntC.cs, KeyC.cs, st_nil, Int.reduceAdd, kys_len, kys_get, ens_len, ens_get]
  repeat' ((first | refine c3 (hC) ?_ | refine NewB_intro0 (fun b => ?_) | (refine NewB_intro (fun b hb => ?_); simp only [ln_cons2, ln_nil, and_true] at hb) | (with_reducible apply wA; focus exact OM_a) | ((first | refine gW_sp ?_ | refine condW_sp ?_ | refine pickW_sp ?_); (try refine Sp_n ?_); (first | refine wT ?_ | refine wF ?_ | refine wL (fun h h' => ?_) (fun h h' => ?_) | refine wE (fun h h' => ?_) (fun h h' => ?_) | refine Sp_split (fun h => ?_) (fun h => ?_)) <;> (try (exfalso; omega))) | refine TreeW_intro (by rfl) ?_ | refine TreeW_all ?_ | refine upQ_intro ?_ | refine Two_intro ?_ ?_ | exact wK | exact wD | (simp only [Fact, Bool.not_eq_true', Bool.not_eq_false', decide_eq_true_eq, decide_eq_false_iff_not] at *; exact wD) | (show (_ : Nat) ≤ _; omega)) <;> (try simp (disch := omega) only [*, ↓Ed, Eu, ↓reduceIte, reduceCtorEq, Nat.reduceAdd, Nat.reduceEqDiff, Nat.reduceLT, Nat.reduceLeDiff, Int.reduceToNat, Int.reduceEq, Int.reduceLT, Int.reduceLE, w64, List.length_append, List.length_map, Nat.mul_one, beq_self_eq_true, PktC.cs, EvC.cs, EntC.cs, KeyC.cs, st_nil, Int.reduceAdd, kys_len, kys_get, ens_len, ens_get]))
  refine wpx_loop (fun i : Nat => ⟨lk [(0, .ptr c 0), (1, .ptr p 0), (10, .sl (some 23) 2 (ens (dOf t).C)), (11, .int .i64 (i : Int))], lk [(c, [.mapv m, .mapv n]), (m, [mpK t.K]), (n, [mpC t.C]), (p, [kc, .nils 53 14, cc])]⟩) (fun i => i ≤ (dOf t).C.length) (fun i => (dOf t).C.length - i) 0 (by omega) (Le_lit (by simp [LeL, lk, hh, hp])) ?_
  intro i hi
  clear f1 hC
  by_cases hlt : i < (dOf t).C.length
  · have f1 : Fact (decide ((i : Int) < (dOf t).C.length) = true) := by simp only [Fact, Bool.not_eq_true', Bool.not_eq_false', decide_eq_true_eq, decide_eq_false_iff_not]; omega
    generalize hkx : (dOf t).C.getD i default = k at *
    simp (disch := omega) only [hk, hcc, hkx, hh, hp, ↓Ed, Eu, ↓reduceIte, reduceCtorEq, Nat.reduceAdd, Nat.reduceEqDiff, Nat.reduceLT, Nat.reduceLeDiff, Int.reduceToNat, Int.reduceEq, Int.reduceLT, Int.reduceLE, w64, List.length_append, List.length_map, Nat.mul_one, beq_self_eq_true, PktC.cs, EvC.cs, EntC.cs, KeyC.cs, st_nil, Int.reduceAdd, kys_len, kys_get, ens_len, ens_get]
    repeat' ((first | refine NewB_intro0 (fun b => ?_) | (refine NewB_intro (fun b hb => ?_); simp only [ln_cons2, ln_nil, and_true] at hb) | (with_reducible apply wA; focus exact OM_a) | ((first | refine gW_sp ?_ | refine condW_sp ?_ | refine pickW_sp ?_); (try refine Sp_n ?_); (first | refine wT ?_ | refine wF ?_ | refine wL (fun h h' => ?_) (fun h h' => ?_) | refine wE (fun h h' => ?_) (fun h h' => ?_) | refine Sp_split (fun h => ?_) (fun h => ?_)) <;> (try (exfalso; omega))) | refine TreeW_intro (by rfl) ?_ | refine TreeW_all ?_ | refine upQ_intro ?_ | refine Two_intro ?_ ?_ | exact wK | exact wD | (simp only [Fact, Bool.not_eq_true', Bool.not_eq_false', decide_eq_true_eq, decide_eq_false_iff_not] at *; exact wD) | (show (_ : Nat) ≤ _; omega)) <;> (try simp (disch := omega) only [*, ↓Ed, Eu, ↓reduceIte, reduceCtorEq, Nat.reduceAdd, Nat.reduceEqDiff, Nat.reduceLT, Nat.reduceLeDiff, Int.reduceToNat, Int.reduceEq, Int.reduceLT, Int.reduceLE, w64, List.length_append, List.length_map, Nat.mul_one, beq_self_eq_true, PktC.cs, EvC.cs, EntC.cs, KeyC.cs, st_nil, Int.reduceAdd, kys_len, kys_get, ens_len, ens_get]))
    all_goals first | exact Round_lit (i + 1) ⟨Le_lit (by simp [LeL, lk, hh, hp]), by omega, by omega⟩ | trace_state
  have hie : i = (dOf t).C.length := by omega
  subst hie
  have f1 : Fact (decide (((dOf t).C.length : Int) < (dOf t).C.length) = false) := by simp only [Fact, Bool.not_eq_true', Bool.not_eq_false', decide_eq_true_eq, decide_eq_false_iff_not]; omega
  simp (disch := omega) only [hk, hcc, hh, hp, ↓Ed, Eu, ↓reduceIte, reduceCtorEq, Nat.reduceAdd, Nat.reduceEqDiff, Nat.reduceLT, Nat.reduceLeDiff, Int.reduceToNat, Int.reduceEq, Int.reduceLT, Int.reduceLE, w64, List.length_append, List.length_map, Nat.mul_one, beq_self_eq_true, PktC.cs, EvC.cs, EntC.cs, KeyC.cs, st_nil, Int.reduceAdd, kys_len, kys_get, ens_len, ens_get]
  repeat' ((first | refine NewB_intro0 (fun b => ?_) | (refine NewB_intro (fun b hb => ?_); simp only [ln_cons2, ln_nil, and_true] at hb) | (with_reducible apply wA; focus exact OM_a) | ((first | refine gW_sp ?_ | refine condW_sp ?_ | refine pickW_sp ?_); (try refine Sp_n ?_); (first | refine wT ?_ | refine wF ?_ | refine wL (fun h h' => ?_) (fun h h' => ?_) | refine wE (fun h h' => ?_) (fun h h' => ?_) | refine Sp_split (fun h => ?_) (fun h => ?_)) <;> (try (exfalso; omega))) | refine TreeW_intro (by rfl) ?_ | refine TreeW_all ?_ | refine upQ_intro ?_ | refine Two_intro ?_ ?_ | exact wK | exact wD | (simp only [Fact, Bool.not_eq_true', Bool.not_eq_false', decide_eq_true_eq, decide_eq_false_iff_not] at *; exact wD) | (show (_ : Nat) ≤ _; omega)) <;> (try simp (disch := omega) only [*, ↓Ed, Eu, ↓reduceIte, reduceCtorEq, Nat.reduceAdd, Nat.reduceEqDiff, Nat.reduceLT, Nat.reduceLeDiff, Int.reduceToNat, Int.reduceEq, Int.reduceLT, Int.reduceLE, w64, List.length_append, List.length_map, Nat.mul_one, beq_self_eq_true, PktC.cs, EvC.cs, EntC.cs, KeyC.cs, st_nil, Int.reduceAdd, kys_len, kys_get, ens_len, ens_get]))
  all_goals exact ro_mk (by simp [LeL, lk, hh, hp, resR, arR]) dom4
end Go.Proofs.Ytobopbjedojebaa

/- what was folded is refused the second time (LifeTwice) -/
namespace Go.Proofs.Ytobopbjedojebaa
set_option linter.all false
open Go.RowKit
theorem markE_p (x : EntC) (e : EvC) : (markE x e).p = x.p := by unfold markE; split <;> (try split) <;> (try split) <;> (try split) <;> rfl
theorem markE_m (x : EntC) (e : EvC) : marked (markE x e) e.k = true := by
  unfold markE marked
  split
  · rfl
  · split
    · rfl
    · split
      · rfl
      · split <;> rfl
theorem fold_known {t : Tb} {e : EvC} {y : EntC} (hm : mayE e = true) (h6 : e.k ≠ 6) (h7 : e.k ≠ 7) (hf : findE t.K (keyE e) = some y) (hp : y.p = e.p) (hk : marked y e.k = true) : foldT t e = (t, 8) := by
  unfold foldT
  rw [if_neg (by rw [hm]; simp), if_neg h7, if_neg h6, hf]
  simp only
  rw [if_neg (fun h => h hp), if_pos hk]
theorem fold_twice {t : Tb} (hN : (t.K.map (·.1)).Nodup) {e : EvC} (h0 : (foldT t e).2 = 0) (h7 : e.k ≠ 7) : foldT (foldT t e).1 e = ((foldT t e).1, 8) := by
  rcases foldT_cases t e with ⟨m, g, hm⟩ | ⟨h, g⟩ | ⟨hm, h6, hc, g⟩ | ⟨hm, h6, _, hf, g⟩ | ⟨x, hm, h6, _, hf, hp, _, _, g⟩
  · rw [g] at h0; exact absurd h0 hm
  · exact absurd h h7
  · rw [g]
    unfold foldT
    rw [if_neg (by rw [hm]; simp), if_neg h7, if_pos h6, if_pos (by simp)]
  · rw [g]
    refine fold_known hm h6 h7 (y := markE (ent0 e.p) e) ?_ (markE_p _ _) (markE_m _ _)
    show findE (t.K ++ _) _ = _
    rw [find_app (fun y hy e1 => findE_none hf y hy e1)]
    simp [findE]
  · rw [g]
    refine fold_known hm h6 h7 (y := markE x e) ?_ (by rw [markE_p]; exact hp) (markE_m _ _)
    refine (find_mem (by rw [setE_keys]; exact hN)).2 ?_
    simp only [setE, List.mem_map]
    exact ⟨_, (find_mem hN).1 hf, by simp⟩
theorem fold_bad {t : Tb} {e : EvC} (h0 : (foldT t e).2 ≠ 0) : (foldT t e).1 = t := by
  rcases foldT_cases t e with ⟨m, g, hm⟩ | ⟨h, g⟩ | ⟨hm, h6, hc, g⟩ | ⟨hm, h6, _, hf, g⟩ | ⟨x, hm, h6, _, hf, hp, _, _, g⟩
  · rw [g]
  all_goals (rw [g] at h0; exact absurd rfl h0)
theorem fold_7 {t : Tb} {e : EvC} (h7 : e.k = 7) : (foldT t e).1 = t := by
  rcases foldT_cases t e with ⟨m, g, hm⟩ | ⟨h, g⟩ | ⟨hm, h6, hc, g⟩ | ⟨hm, h6, h, hf, g⟩ | ⟨x, hm, h6, h, hf, hp, _, _, g⟩
  · rw [g]
  · rw [g]
  · omega
  · exact absurd h7 h
  · exact absurd h7 h
end Go.Proofs.Ytobopbjedojebaa

/- chapter 22: what its examples fix -/
namespace Go.Proofs.Ytobopbjedojebaa
set_option linter.all false
open Go.RowKit
set_option maxRecDepth 100000
def pk22 : PktC := ⟨[97], 1, [98], 2, 3, [], 0, 0⟩
def ev22 : EvC := ⟨4, pk22, [], [], 0, 0⟩
def key22 : KeyC := ⟨[97], 1, true, 3⟩
def ent22 : EntC := ⟨pk22, [], false, false, false, true, false⟩
theorem ev22_p : ev22.p = pk22 := rfl
theorem ev22_k : ev22.k = 4 := rfl
theorem ev22_a : ev22.a = [] := rfl
theorem ev22_e : ev22.e = [] := rfl
theorem ev22_ec : ev22.ec = 0 := rfl
theorem ev22_h : ev22.h = 0 := rfl
theorem en22_c : ent22.c = true := rfl
theorem en22_s : ent22.s = false := rfl
theorem name1 (c : UInt8) (h : 97 ≤ c.toNat ∧ c.toNat ≤ 122) : nameP [c] = true := nameP_t ⟨by simp, by simp, fun j hj => by
  have : j = 0 := by simpa using hj
  subst this
  exact .inl (by simpa using h)⟩
theorem may22 : mayE ev22 = true := by
  rw [may_pk (e := ev22) (by decide) (by decide) (by decide) (by decide)]
  have h1 : mayP [97] 1 = true := by unfold mayP; rw [name1 97 (by decide)]; rfl
  have h2 : mayP [98] 2 = true := by unfold mayP; rw [name1 98 (by decide)]; rfl
  have h3 : mayK ev22.p = true := by
    unfold mayK
    rw [show mayP ev22.p.s ev22.p.sc = true from h1, show mayP ev22.p.d ev22.p.dc = true from h2]
    rfl
  rw [h3]; rfl
theorem key22_is : keyE ev22 = key22 := by
  unfold keyE; rw [own_src may22 (by decide)]; rfl
theorem fold22 : foldT ⟨[], []⟩ ev22 = (⟨[(key22, ent22)], []⟩, 0) := by
  rw [fold_new may22 (by decide) rfl, key22_is]; rfl
theorem hF22 (c m n : Nat) (hh : (¬ c = m ∧ ¬ m = c) ∧ (¬ c = n ∧ ¬ n = c) ∧ ¬ m = n ∧ ¬ n = m) : CT Try.prog 12 [.ptr c 0, .agg ev22.cs] (lk (tabO c m n ⟨[], []⟩)) (fun r o => r = .int .i64 0 ∧ o = lk (tabO c m n ⟨[(key22, ent22)], []⟩)) := by
  have h := t_Fold c m n hh ⟨[], []⟩ ev22 (by simp) (by decide) (by decide) (by decide) (by decide) (by decide)
  rw [fold22] at h
  exact h
theorem hG22 (c m n : Nat) (hh : (¬ c = m ∧ ¬ m = c) ∧ (¬ c = n ∧ ¬ n = c) ∧ ¬ m = n ∧ ¬ n = m) : CT Try.prog 16 [.ptr c 0, .agg key22.cs] (lk (tabO c m n ⟨[(key22, ent22)], []⟩)) (fun r o => r = .tup [.agg ent22.cs, .bool true] ∧ o = lk (tabO c m n ⟨[(key22, ent22)], []⟩)) := by
  have h := t_Get c m n hh ⟨[(key22, ent22)], []⟩ key22
  rw [show findE [(key22, ent22)] key22 = some ent22 from by simp [findE]] at h
  exact h
theorem hS22 (c m n : Nat) (hh : (¬ c = m ∧ ¬ m = c) ∧ (¬ c = n ∧ ¬ n = c) ∧ ¬ m = n ∧ ¬ n = m) : CT Try.prog 14 [.ptr c 0, .agg key22.cs] (lk (tabO c m n ⟨[(key22, ent22)], []⟩)) (fun r o => r = .int .i64 2 ∧ o = lk (tabO c m n ⟨[(key22, ent22)], []⟩)) := by
  have h := t_Stage c m n hh ⟨[(key22, ent22)], []⟩ key22
  rw [show findE [(key22, ent22)] key22 = some ent22 from by simp [findE]] at h
  exact h
set_option maxHeartbeats 4000000 in
theorem p_first : CP Try.prog 8 [] (.bool true) := by
  refine ok_liglaw22_first _ _ (by simp) ?_
  simp only [c_liglaw22_first, ↓Ed, Eu, ↓reduceIte, reduceCtorEq, Nat.reduceAdd, Nat.reduceEqDiff, Nat.reduceLT, Nat.reduceLeDiff, Int.reduceToNat, Int.reduceEq, Int.reduceLT, Int.reduceLE, w64, List.length_append, List.length_map, Nat.mul_one, beq_self_eq_true, PktC.cs, EvC.cs, EntC.cs, KeyC.cs, st_nil, Int.reduceAdd, ev22_p, ev22_k, ev22_a, ev22_e, ev22_ec, ev22_h, en22_c, en22_s]
  repeat' ((first | (refine CallO_new3 (t_New3) (NewB3_intro (fun c m n hc hm hn hcmn => ?_)); simp only [ln_cons2, ln_nil, and_true] at hc hm hn) | refine c3 (hF22 _ _ _ (by assumption)) ?_ | refine c3 (hG22 _ _ _ (by assumption)) ?_ | refine c3 (hS22 _ _ _ (by assumption)) ?_ | refine NewB_intro0 (fun b => ?_) | (refine NewB_intro (fun b hb => ?_); simp only [ln_cons2, ln_nil, and_true] at hb) | (with_reducible apply wA; focus exact OM_a) | ((first | refine gW_sp ?_ | refine condW_sp ?_ | refine pickW_sp ?_); (try refine Sp_n ?_); (first | refine wT ?_ | refine wF ?_ | refine wL (fun h h' => ?_) (fun h h' => ?_) | refine wE (fun h h' => ?_) (fun h h' => ?_) | refine Sp_split (fun h => ?_) (fun h => ?_)) <;> (try (exfalso; omega))) | refine TreeW_intro (by rfl) ?_ | refine TreeW_all ?_ | refine upQ_intro ?_ | refine Two_intro ?_ ?_ | exact wK | exact wD | (simp only [Fact, Bool.not_eq_true', Bool.not_eq_false', decide_eq_true_eq, decide_eq_false_iff_not] at *; exact wD) | (show (_ : Nat) ≤ _; omega)) <;> (try simp (disch := omega) only [*, ↓Ed, Eu, ↓reduceIte, reduceCtorEq, Nat.reduceAdd, Nat.reduceEqDiff, Nat.reduceLT, Nat.reduceLeDiff, Int.reduceToNat, Int.reduceEq, Int.reduceLT, Int.reduceLE, w64, List.length_append, List.length_map, Nat.mul_one, beq_self_eq_true, PktC.cs, EvC.cs, EntC.cs, KeyC.cs, st_nil, Int.reduceAdd, ev22_p, ev22_k, ev22_a, ev22_e, ev22_ec, ev22_h, en22_c, en22_s]))
end Go.Proofs.Ytobopbjedojebaa
