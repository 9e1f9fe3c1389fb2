import Derived.Test.YtobopbjedojebaaK17
import Derived.Test.YtobopbjedojebaaK16
import Derived.Test.YtobopbjedojebaaK14
import Derived.Test.YtobopbjedojebaaK13
import Derived.Test.YtobopbjedojebaaK15
import Derived.Test.YtobopbjedojebaaK8
import Derived.Carry
import Derived.ChangeSame
import Derived.Deep.Slices
import Derived.Below
import Derived.OpenShut
/- slices.Collect, slices.SortedFunc over maps.Keys at lighterman/api.End with lighterman/life.byEnd (printed by turnsort.py) -/
namespace Go.Proofs.Ytobopbjedojebaa
set_option linter.all false
open Go.RowKit Go.ChangeMaps Go.Sort Go.Shelf
set_option maxRecDepth 100000
abbrev encs (x : EndP) : List AV := [.str x.1, .int .i64 x.2]
theorem enflat (x : EndP) : flatC (encs x) = true := rfl
abbrev encl (x : EndP) : List Value := plainV (encs x)
theorem encl_len (x : EndP) : (encl x).length = 2 := rfl
theorem encmp (x y : EndP) (W : World) (hG : Glob W fun _ _ => False) : Calls Try.prog 45 #[.agg (encl x).toArray, .agg (encl y).toArray] W fun e w' => e = .returned (.int .i64 (cmpL endLt x y)) ∧ ∃ q os', w' = grow (W.drewN q) os' := by
  refine CP_grow (p_byEnd x y) hG (vs := [_, _]) rfl (fun i u c hu hc => ?_) (fun W' U' u h => by cases h; rfl)
  match i with
  | 0 => simp at hu hc; subst hu; subst hc; exact flat_VR (enflat x) _ _
  | 1 => simp at hu hc; subst hu; subst hc; exact flat_VR (enflat y) _ _
  | i + 2 => simp at hu
theorem encmpLays (blk off size : Nat) (w : World) {U : Nat → Nat → Prop} (hG : Glob w U) (hb : ∀ x ∈ globTabs, x.1 ≠ blk) : CmpLays Try.prog 45 #[] encl 2 (cmpL endLt) blk off size w := fun _ _ _ _ x y => encmp x y _ (glob_sort hG hb)
set_option maxHeartbeats 4000000 in
theorem ensorted (bx b : Nat) (es : Array MapEntry) (clk : Nat) (l : List EndP) (w : World) {U : Nat → Nat → Prop} (hG : Glob w U) (tb : TypeId) (hbx : w.heap[bx]? = some (.cells #[.map (some b)] tb (0, 0))) (hb : w.heap[b]? = some (.map es clk))
    (hval : es.toList.map (·.key) = l.map fun x => .agg (encl x).toArray) (hborn : ∀ x ∈ es.toList, x.born < clk) (hnd : (es.toList.map (·.born)).Nodup) (hl : l.length ≤ 1000000) :
    Calls Try.prog 43 #[.func (.func 67) #[] #[.pointer (some ⟨bx, 0, none⟩)], .func (.func 45) #[] #[]] w fun e W' =>
      ∃ (v : Value) (ds : List EndP), e = .returned v ∧ ds.Perm l ∧ (∀ i j, i < j → j < ds.length → endLt (ds.getD j default) (ds.getD i default) = false) ∧ W'.ownsRow w.heap.size 23 2 v ds.length (ds.flatMap encl) ∧ Below w.heap.size w W' := by
  have hcol : Calls Try.prog 65 #[.func (.func 67) #[] #[.pointer (some ⟨bx, 0, none⟩)]] w fun e W' =>
      ∃ (v : Value) (xs : List EndP), e = .returned v ∧ xs.Perm l ∧ W'.ownsRow w.heap.size 23 2 v xs.length (xs.flatMap encl) ∧ Below w.heap.size w W' := by
    have ha := callsIn_wide.1 (eva_app encl encl_len (fun x => plainV_one (enflat x)) Fence.wide 10 trivial trivial rfl (by omega) bx b es clk l w tb hbx hb hval hborn hnd hl)
    go_enter Try.func65, Try.ntmps65
    go_wp2_with (go_at_call 83; refine ha.mono ?_; rintro e W' ⟨v, xs, rfl, hp, hrow, hbl⟩)
    go_ret
    exact ⟨v, xs, rfl, hp, hrow, hbl⟩
  go_enter Try.func43, Try.ntmps43
  go_wp2_with (go_at_call 65; refine hcol.mono ?_; rintro e W' ⟨v, xs, rfl, hp, hrow, hbl⟩)
  rcases hrow.2 with ⟨rfl, hz⟩ | ⟨g, cap, cur, rfl, hbase, hgb, r1, r2, r3, r4⟩
  · have hss : xs = [] := List.eq_nil_of_length_eq_zero hz
    subst hss
    refine (AnyF.slices_SortFunc_none Try.sort66 none 0 _ W').mono ?_
    rintro e W2 ⟨rfl, rfl⟩
    go_wp2
    go_ret
    exact ⟨.slice none 0 0, [], rfl, hp, by simp, by simpa using hrow, hbl⟩
  · have hH := holdsK_of_block encl_len (by omega) hgb r4
    have hgl : g < W'.heap.size := (Array.getElem?_eq_some_iff.1 hgb).1
    have hsz : xs.toArray.size < 4611686018427387904 := by
      have := hp.length_eq
      simp; omega
    have hG' := glob_below hG hbl
    have hnt : ∀ x ∈ globTabs, x.1 ≠ g := fun x hx e => by have := hG.lt hx; omega
    have cS := AnyQ.slices_SortFunc Try.sort66 2 Try.isAgg23 Try.sizeOf23 encl encl_len (fun x => plainV_one (enflat x)) (cmpL endLt) endSTO.swo 45 #[] g 0 cap xs.toArray W' (enters_of Try.func45 (by kernel_rfl) rfl) (encmpLays _ _ _ _ hG' hnt) hH hgl hsz
    refine (show Calls Try.prog 66 #[.slice (some ⟨g, 0, none⟩) xs.length cap, _] W' _ from cS).mono ?_
    rintro e W2 ⟨rfl, d', nn, os, hperm, hsorted, rfl⟩
    have hpd : d'.toList.Perm xs := perm_of hperm
    have hown := ownsRow_sortK (n := nn) (os := os) encl_len (by omega) (hpd.length_eq) hbase hgb r1 r2 r3
    have hgr := grown_sortK (cl := encl) (k := 2) (w := W') (g := g) (n := nn) (os := os) d'
    simp only [Array.toArray_toList] at hown
    go_wp2
    go_ret
    refine ⟨_, d'.toList, rfl, hpd.trans hp, fun i j hij hj => ?_, ?_, hbl.grown hgr hbl.size (fun k e => by cases e; exact hbase)⟩
    · have hj' : j < xs.toArray.size := by rw [List.size_toArray, ← hpd.length_eq]; exact hj
      have h5 := hsorted i j (Nat.zero_le _) hij hj'
      rw [lt_cmpL] at h5
      have hds : d'.size = d'.toList.length := by simp
      have e1 : d'[i]! = d'.toList.getD i default := by simp [List.getD, getElem!_pos, show i < d'.size by omega]
      have e2 : d'[j]! = d'.toList.getD j default := by simp [List.getD, getElem!_pos, show j < d'.size by omega]
      rw [← e1, ← e2]; exact h5
    · rw [hpd.length_eq]; exact hown
theorem ent_Keys (m : Nat) : CT Try.prog 44 [.mapv m] (lk []) (fun r o => ∃ b, r = .clo 67 [.ptr b 0] ∧ o = lk [(b, [.mapv m])]) := by
  refine CT_lays (R := fun b => .clo _ [.ptr b 0]) fun W U vs hl hv => ?_
  obtain rfl : vs = [.map (some m)] := by
    match vs, hl with
    | [v], _ => rw [(hv 0 v _ rfl rfl).map_inv]
  go_enter Try.func44, Try.ntmps44
  go_wp2
  go_ret
  refine ⟨_, _, _, rfl, rfl, rfl, fun u hu => (by cases hu), fun j u hj => ?_, fun W2 U2 hc => ?_, by simp⟩
  · match j with
    | 0 =>
      simp at hj; subst hj
      exact ⟨rfl, fun x hx => by simp at hx; subst hx; exact ⟨.mapv m, by simp⟩⟩
    | j + 1 => simp at hj
  · refine .clo _ [_] [_] rfl fun i v c h1 h2 => ?_
    match i with
    | 0 => simp at h1 h2; subst h1; subst h2; exact .ptr _ _ hc
    | i + 1 => simp at h1
theorem ent_Sorted (bx m : Nat) (h1 : ¬ bx = m) (l : List EndP) (vals : List AV) (ha : l.Nodup) (hl : l.length ≤ 1000) :
    CT Try.prog 43 [.clo 67 [.ptr bx 0], .fn 45] (lk [(bx, [.mapv m]), (m, [.mp (l.map fun x => .agg (encs x)) vals (List.range l.length) l.length])])
      (fun r o => r = .sl (some 23) 2 ((srtL endLt l).map encs) ∧ o = lk [(bx, [.mapv m]), (m, [.mp (l.map fun x => .agg (encs x)) vals (List.range l.length) l.length])]) := by
  refine CT_reads fun W U vs hG hlen hv ho => ?_
  obtain rfl : vs = [.func (.func 67) #[] #[.pointer (some ⟨bx, 0, none⟩)], .func (.func 45) #[] #[]] := by
    match vs, hlen with
    | [v, u], _ => rw [(hv 0 v _ rfl rfl).clo1_inv, (hv 1 u _ rfl rfl).fn_inv]
  obtain ⟨us, ty, q1, q2, q3⟩ : ObC W U bx [.mapv m] := ho bx _ (lk_hd _ _ _)
  obtain ⟨es, g1, g2, g3, g4, g5, g6, g7⟩ : ObR W U m [.mp (l.map fun x => .agg (encs x)) vals (List.range l.length) l.length] := ho m _ (lk_tl (fun e => h1 e.symm) (lk_hd _ _ _))
  have hus : us = #[.map (some m)] := by
    have h0 := (q3 0 _ rfl).1.map_inv
    match us, q2 with
    | ⟨[a]⟩, _ => simp at h0; subst h0; rfl
  subst hus
  have hsz : es.size = l.length := by rw [g2]; simp
  have hborn : ∀ (i : Nat) (e : MapEntry), es[i]? = some e → e.born = i := by
    intro i e he
    have hi : i < es.size := (Array.getElem?_eq_some_iff.1 he).1
    exact (g7 i e he).2.2 i (by rw [List.getElem?_range (by omega)])
  have hval : es.toList.map (·.key) = l.map fun x => .agg (encl x).toArray := by
    apply List.ext_getElem?
    intro i
    by_cases hi : i < es.size
    · have hil : i < l.length := by omega
      have he : es[i]? = some es[i] := Array.getElem?_eq_getElem hi
      have hx := (g7 i _ he).1 (.agg (encs l[i])) (by simp [List.getElem?_eq_getElem hil])
      simp only [List.getElem?_map, Array.getElem?_toList, he, Option.map_some, List.getElem?_eq_getElem hil]
      rw [flat_inv (enflat _) hx]
    · rw [List.getElem?_eq_none (by simp; omega), List.getElem?_eq_none (by simp; omega)]
  have hb1 : ∀ x ∈ es.toList, x.born < l.length := by
    intro x hx
    obtain ⟨i, hi, rfl⟩ := List.getElem_of_mem hx
    simp at hi
    have := hborn i es[i] (Array.getElem?_eq_getElem hi)
    simp [this]; omega
  have hnd : (es.toList.map (·.born)).Nodup := by
    have : es.toList.map (·.born) = List.range es.size := by
      apply List.ext_getElem
      · simp
      · intro i h2 h3
        simp at h2
        simp [hborn i es[i] (Array.getElem?_eq_getElem h2)]
    rw [this]; exact List.nodup_range
  refine (ensorted bx m es _ l W hG _ q1 g1 hval hb1 hnd (by omega)).mono ?_
  rintro e W' ⟨v, ds, rfl, hp, hs, hrow, hbl⟩
  have hDS : srtL endLt l = ds := rise_unique endSTO (srtL_rise endSTO ha) (rise_of endSTO hs (hp.nodup_iff.2 ha)) ((srtL_perm _ _).trans hp.symm)
  rw [hDS]
  obtain ⟨U', r1, r2, r3⟩ := row_VR (U := U) (e := 23) (k := 2) (els := ds.map encs) (by omega) hbl hrow (by simp) (fun l hl => by
      simp only [List.mem_map] at hl
      obtain ⟨a, _, rfl⟩ := hl
      rfl) (fun u hu => by
      obtain ⟨x, _, hx⟩ := List.mem_flatMap.1 hu
      exact plainV_one (enflat x) u hx) (fun i j l' c u hl' hc hu W2 U2 => by
      simp only [List.getElem?_map, Option.map_eq_some_iff] at hl'
      obtain ⟨x, hx, rfl⟩ := hl'
      have hj : j < 2 := (List.getElem?_eq_some_iff.1 hc).1
      have hi : i < ds.length := (List.getElem?_eq_some_iff.1 hx).1
      rw [flat_getD encl_len ds i j hi hj, hx] at hu
      exact (plainV_get _ (enflat x) j c u hc hu).1 W2 U2)
  exact ⟨v, U', rfl, r1, fun e sz els he => by cases he; exact r2, r3⟩
end Go.Proofs.Ytobopbjedojebaa

/- life: Keys, Closed -/
namespace Go.Proofs.Ytobopbjedojebaa
set_option linter.all false
open Go.RowKit
set_option maxRecDepth 100000
def keysS (t : Tb) : List KeyC := srtL keyLt (t.K.map (·.1))
def closS (t : Tb) : List EndP := srtL endLt t.C
theorem h_KeyS (bx m : Nat) (h1 : ¬ bx = m) (t : Tb) (hN : (t.K.map (·.1)).Nodup) (hl : t.K.length ≤ 1000) :
    CT Try.prog 36 [.clo 61 [.ptr bx 0], .fn 38] (lk [(bx, [.mapv m]), (m, [mpK t.K])])
      (fun r o => r = .sl (some 37) 4 ((keysS t).map KeyC.cs) ∧ o = lk [(bx, [.mapv m]), (m, [mpK t.K])]) := by
  have h := kyt_Sorted bx m h1 (t.K.map (·.1)) (tv t.K) hN (by simpa using hl)
  rw [List.length_map] at h
  exact h
theorem h_EndS (bx m : Nat) (h1 : ¬ bx = m) (t : Tb) (hN : t.C.Nodup) (hl : t.C.length ≤ 1000) :
    CT Try.prog 43 [.clo 67 [.ptr bx 0], .fn 45] (lk [(bx, [.mapv m]), (m, [mpC t.C])])
      (fun r o => r = .sl (some 23) 2 ((closS t).map fun e => [.str e.1, .int .i64 e.2]) ∧ o = lk [(bx, [.mapv m]), (m, [mpC t.C])]) :=
  ent_Sorted bx m h1 t.C (List.replicate t.C.length (.int .i64 1)) hN hl
theorem t_Keys (c m n : Nat) (hh : (¬ c = m ∧ ¬ m = c) ∧ (¬ c = n ∧ ¬ n = c) ∧ ¬ m = n ∧ ¬ n = m) (t : Tb) (hN : (t.K.map (·.1)).Nodup) (hl : t.K.length ≤ 1000) :
    CT Try.prog 13 [.ptr c 0] (lk (tabO c m n t)) (fun r o => r = .sl (some 37) 4 ((keysS t).map KeyC.cs) ∧ o = lk (tabO c m n t)) := by
  have hS := fun bx (h : ¬ bx = m) => h_KeyS bx m h t hN hl
  clear hN hl
  refine okt_life_Table_Keys _ _ _ (by simp) ?_
  simp only [c_life_Table_Keys, hh, ↓Ed, Eu, ↓reduceIte, reduceCtorEq, Nat.reduceAdd, Nat.reduceEqDiff, Nat.reduceLT, Nat.reduceLeDiff, Int.reduceToNat, Int.reduceEq, Int.reduceLT, Int.reduceLE, w64, List.length_append, List.length_map, Nat.mul_one, beq_self_eq_true, PktC.cs, EvC.cs, EntC.cs, KeyC.cs, st_nil, Int.reduceAdd]
  repeat' ((first | refine CallO_newR (R := fun b => .clo _ [.ptr b 0]) (kyt_Keys m) ?_ | refine NewB_intro0 (fun b => ?_) | (refine NewB_intro (fun b hb => ?_); simp only [ln_cons2, ln_nil, and_true] at hb) | (with_reducible apply wA; focus exact OM_a) | ((first | refine gW_sp ?_ | refine condW_sp ?_ | refine pickW_sp ?_); (try refine Sp_n ?_); (first | refine wT ?_ | refine wF ?_ | refine wL (fun h h' => ?_) (fun h h' => ?_) | refine wE (fun h h' => ?_) (fun h h' => ?_) | refine Sp_split (fun h => ?_) (fun h => ?_)) <;> (try (exfalso; omega))) | refine TreeW_intro (by rfl) ?_ | refine TreeW_all ?_ | refine upQ_intro ?_ | refine Two_intro ?_ ?_ | exact wK | exact wD | (simp only [Fact, Bool.not_eq_true', Bool.not_eq_false', decide_eq_true_eq, decide_eq_false_iff_not] at *; exact wD) | (show (_ : Nat) ≤ _; omega)) <;> (try simp (disch := omega) only [*, ↓Ed, Eu, ↓reduceIte, reduceCtorEq, Nat.reduceAdd, Nat.reduceEqDiff, Nat.reduceLT, Nat.reduceLeDiff, Int.reduceToNat, Int.reduceEq, Int.reduceLT, Int.reduceLE, w64, List.length_append, List.length_map, Nat.mul_one, beq_self_eq_true, PktC.cs, EvC.cs, EntC.cs, KeyC.cs, st_nil, Int.reduceAdd]))
  have hb' : (¬b = c ∧ ¬c = b) ∧ (¬b = m ∧ ¬m = b) ∧ ¬b = n ∧ ¬n = b := by simpa using hb
  refine CallO_det (hS b hb'.2.1.1) (lk_sub2 (lk_hd _ _ _) (lk_tl hb'.2.1.2 (lk_tl hh.1.2 (lk_hd _ _ _)))) ?_
  simp (disch := omega) only [hb', hh, ↓Ed, Eu, ↓reduceIte, reduceCtorEq, Nat.reduceAdd, Nat.reduceEqDiff, Nat.reduceLT, Nat.reduceLeDiff, Int.reduceToNat, Int.reduceEq, Int.reduceLT, Int.reduceLE, w64, List.length_append, List.length_map, Nat.mul_one, beq_self_eq_true, PktC.cs, EvC.cs, EntC.cs, KeyC.cs, st_nil, Int.reduceAdd]
  repeat' ((first | refine NewB_intro0 (fun b => ?_) | (refine NewB_intro (fun b hb => ?_); simp only [ln_cons2, ln_nil, and_true] at hb) | (with_reducible apply wA; focus exact OM_a) | ((first | refine gW_sp ?_ | refine condW_sp ?_ | refine pickW_sp ?_); (try refine Sp_n ?_); (first | refine wT ?_ | refine wF ?_ | refine wL (fun h h' => ?_) (fun h h' => ?_) | refine wE (fun h h' => ?_) (fun h h' => ?_) | refine Sp_split (fun h => ?_) (fun h => ?_)) <;> (try (exfalso; omega))) | refine TreeW_intro (by rfl) ?_ | refine TreeW_all ?_ | refine upQ_intro ?_ | refine Two_intro ?_ ?_ | exact wK | exact wD | (simp only [Fact, Bool.not_eq_true', Bool.not_eq_false', decide_eq_true_eq, decide_eq_false_iff_not] at *; exact wD) | (show (_ : Nat) ≤ _; omega)) <;> (try simp (disch := omega) only [*, ↓Ed, Eu, ↓reduceIte, reduceCtorEq, Nat.reduceAdd, Nat.reduceEqDiff, Nat.reduceLT, Nat.reduceLeDiff, Int.reduceToNat, Int.reduceEq, Int.reduceLT, Int.reduceLE, w64, List.length_append, List.length_map, Nat.mul_one, beq_self_eq_true, PktC.cs, EvC.cs, EntC.cs, KeyC.cs, st_nil, Int.reduceAdd]))
  exact ro_mk (by simp [LeL, lk, hh, hb', resR, arR]) dom3
theorem t_Closed (c m n : Nat) (hh : (¬ c = m ∧ ¬ m = c) ∧ (¬ c = n ∧ ¬ n = c) ∧ ¬ m = n ∧ ¬ n = m) (t : Tb) (hN : t.C.Nodup) (hl : t.C.length ≤ 1000) :
    CT Try.prog 21 [.ptr c 0] (lk (tabO c m n t)) (fun r o => r = .sl (some 23) 2 ((closS t).map fun e => [.str e.1, .int .i64 e.2]) ∧ o = lk (tabO c m n t)) := by
  have hS := fun bx (h : ¬ bx = n) => h_EndS bx n h t hN hl
  clear hN hl
  refine okt_life_Table_Closed _ _ _ (by simp) ?_
  simp only [c_life_Table_Closed, hh, ↓Ed, Eu, ↓reduceIte, reduceCtorEq, Nat.reduceAdd, Nat.reduceEqDiff, Nat.reduceLT, Nat.reduceLeDiff, Int.reduceToNat, Int.reduceEq, Int.reduceLT, Int.reduceLE, w64, List.length_append, List.length_map, Nat.mul_one, beq_self_eq_true, PktC.cs, EvC.cs, EntC.cs, KeyC.cs, st_nil, Int.reduceAdd]
  repeat' ((first | refine CallO_newR (R := fun b => .clo _ [.ptr b 0]) (ent_Keys n) ?_ | refine NewB_intro0 (fun b => ?_) | (refine NewB_intro (fun b hb => ?_); simp only [ln_cons2, ln_nil, and_true] at hb) | (with_reducible apply wA; focus exact OM_a) | ((first | refine gW_sp ?_ | refine condW_sp ?_ | refine pickW_sp ?_); (try refine Sp_n ?_); (first | refine wT ?_ | refine wF ?_ | refine wL (fun h h' => ?_) (fun h h' => ?_) | refine wE (fun h h' => ?_) (fun h h' => ?_) | refine Sp_split (fun h => ?_) (fun h => ?_)) <;> (try (exfalso; omega))) | refine TreeW_intro (by rfl) ?_ | refine TreeW_all ?_ | refine upQ_intro ?_ | refine Two_intro ?_ ?_ | exact wK | exact wD | (simp only [Fact, Bool.not_eq_true', Bool.not_eq_false', decide_eq_true_eq, decide_eq_false_iff_not] at *; exact wD) | (show (_ : Nat) ≤ _; omega)) <;> (try simp (disch := omega) only [*, ↓Ed, Eu, ↓reduceIte, reduceCtorEq, Nat.reduceAdd, Nat.reduceEqDiff, Nat.reduceLT, Nat.reduceLeDiff, Int.reduceToNat, Int.reduceEq, Int.reduceLT, Int.reduceLE, w64, List.length_append, List.length_map, Nat.mul_one, beq_self_eq_true, PktC.cs, EvC.cs, EntC.cs, KeyC.cs, st_nil, Int.reduceAdd]))
  have hb' : (¬b = c ∧ ¬c = b) ∧ (¬b = m ∧ ¬m = b) ∧ ¬b = n ∧ ¬n = b := by simpa using hb
  refine CallO_det (hS b hb'.2.2.1) (lk_sub2 (lk_hd _ _ _) (lk_tl hb'.2.2.2 (lk_tl hh.2.1.2 (lk_tl hh.2.2.2 (lk_hd _ _ _))))) ?_
  simp (disch := omega) only [hb', hh, ↓Ed, Eu, ↓reduceIte, reduceCtorEq, Nat.reduceAdd, Nat.reduceEqDiff, Nat.reduceLT, Nat.reduceLeDiff, Int.reduceToNat, Int.reduceEq, Int.reduceLT, Int.reduceLE, w64, List.length_append, List.length_map, Nat.mul_one, beq_self_eq_true, PktC.cs, EvC.cs, EntC.cs, KeyC.cs, st_nil, Int.reduceAdd]
  repeat' ((first | refine NewB_intro0 (fun b => ?_) | (refine NewB_intro (fun b hb => ?_); simp only [ln_cons2, ln_nil, and_true] at hb) | (with_reducible apply wA; focus exact OM_a) | ((first | refine gW_sp ?_ | refine condW_sp ?_ | refine pickW_sp ?_); (try refine Sp_n ?_); (first | refine wT ?_ | refine wF ?_ | refine wL (fun h h' => ?_) (fun h h' => ?_) | refine wE (fun h h' => ?_) (fun h h' => ?_) | refine Sp_split (fun h => ?_) (fun h => ?_)) <;> (try (exfalso; omega))) | refine TreeW_intro (by rfl) ?_ | refine TreeW_all ?_ | refine upQ_intro ?_ | refine Two_intro ?_ ?_ | exact wK | exact wD | (simp only [Fact, Bool.not_eq_true', Bool.not_eq_false', decide_eq_true_eq, decide_eq_false_iff_not] at *; exact wD) | (show (_ : Nat) ≤ _; omega)) <;> (try simp (disch := omega) only [*, ↓Ed, Eu, ↓reduceIte, reduceCtorEq, Nat.reduceAdd, Nat.reduceEqDiff, Nat.reduceLT, Nat.reduceLeDiff, Int.reduceToNat, Int.reduceEq, Int.reduceLT, Int.reduceLE, w64, List.length_append, List.length_map, Nat.mul_one, beq_self_eq_true, PktC.cs, EvC.cs, EntC.cs, KeyC.cs, st_nil, Int.reduceAdd]))
  exact ro_mk (by simp [LeL, lk, hh, hb', resR, arR]) dom3
end Go.Proofs.Ytobopbjedojebaa

/- what became of packets: plain laws: folding keeps tables good; parts that are apart; which keys a table has -/
namespace Go.Proofs.Ytobopbjedojebaa
set_option linter.all false
open Go.RowKit
noncomputable def foldL (t : Tb) (l : List EvC) : Tb := l.foldl (fun t e => (foldT t e).1) t
theorem foldL_nil (t : Tb) : foldL t [] = t := rfl
theorem foldL_snoc (t : Tb) (l : List EvC) (e : EvC) : foldL t (l ++ [e]) = (foldT (foldL t l) e).1 := by simp [foldL]
noncomputable def ownP (e : EvC) : EndP := ((ownE e).1, (ownE e).2.1)
noncomputable def ownOk (e : EvC) : Bool := (ownE e).2.2.2
structure Tgood (n : Nat) (t : Tb) : Prop where
  k : (t.K.map (·.1)).Nodup
  c : t.C.Nodup
  lk : t.K.length ≤ n
  lc : t.C.length ≤ n
theorem Tgood.mono {n m : Nat} {t : Tb} (h : Tgood n t) (hm : n ≤ m) : Tgood m t := ⟨h.k, h.c, Nat.le_trans h.lk hm, Nat.le_trans h.lc hm⟩
theorem tgood0 : Tgood 0 ⟨[], []⟩ := ⟨List.nodup_nil, List.nodup_nil, Nat.le_refl _, Nat.le_refl _⟩
theorem setE_keys (l : List (KeyC × EntC)) (k : KeyC) (y : EntC) : (setE l k y).map (·.1) = l.map (·.1) := by
  simp only [setE, List.map_map]
  congr 1; funext x; simp only [Function.comp]; split <;> simp_all
/-- What folding may come to. -/
theorem foldT_cases (t : Tb) (e : EvC) : (∃ n, foldT t e = (t, n) ∧ n ≠ 0) ∨ (e.k = 7 ∧ foldT t e = (t, 0)) ∨
    (mayE e = true ∧ e.k = 6 ∧ ((e.e, e.ec) : EndP) ∉ t.C ∧ foldT t e = (⟨t.K, t.C ++ [(e.e, e.ec)]⟩, 0)) ∨
    (mayE e = true ∧ e.k ≠ 6 ∧ e.k ≠ 7 ∧ findE t.K (keyE e) = none ∧ foldT t e = (⟨t.K ++ [(keyE e, markE (ent0 e.p) e)], t.C⟩, 0)) ∨
    (∃ x, mayE e = true ∧ e.k ≠ 6 ∧ e.k ≠ 7 ∧ findE t.K (keyE e) = some x ∧ x.p = e.p ∧ marked x e.k = false ∧ lateE x e.k = false ∧ foldT t e = (⟨setE t.K (keyE e) (markE x e), t.C⟩, 0)) := by
  unfold foldT
  by_cases hm : mayE e = false
  · rw [if_pos hm]; exact .inl ⟨1, rfl, by decide⟩
  rw [if_neg hm]
  have hm' : mayE e = true := by simpa using hm
  by_cases h7 : e.k = 7
  · rw [if_pos h7]; exact .inr (.inl ⟨h7, rfl⟩)
  rw [if_neg h7]
  by_cases h6 : e.k = 6
  · rw [if_pos h6]
    split
    · exact .inl ⟨8, rfl, by decide⟩
    · rename_i hc
      exact .inr (.inr (.inl ⟨hm', h6, hc, rfl⟩))
  rw [if_neg h6]
  cases hf : findE t.K (keyE e) with
  | none => exact .inr (.inr (.inr (.inl ⟨hm', h6, h7, rfl, rfl⟩)))
  | some x =>
    simp only
    by_cases h1 : ¬ x.p = e.p
    · rw [if_pos h1]; exact .inl ⟨3, rfl, by decide⟩
    rw [if_neg h1]
    by_cases h2 : marked x e.k = true
    · rw [if_pos h2]; exact .inl ⟨8, rfl, by decide⟩
    rw [if_neg h2]
    by_cases h3 : lateE x e.k = true
    · rw [if_pos h3]; exact .inl ⟨16, rfl, by decide⟩
    rw [if_neg h3]
    exact .inr (.inr (.inr (.inr ⟨x, hm', h6, h7, rfl, by simpa using h1, by simpa using h2, by simpa using h3, rfl⟩)))
theorem nodup_snoc {α : Type} {l : List α} {x : α} (h : l.Nodup) (hn : x ∉ l) : (l ++ [x]).Nodup :=
  List.nodup_append.2 ⟨h, by simp, fun a ha b hb => by simp at hb; subst hb; intro e; subst e; exact hn ha⟩
theorem fold_good {n : Nat} {t : Tb} (h : Tgood n t) (e : EvC) : Tgood (n + 1) (foldT t e).1 := by
  have h' := h.mono (Nat.le_succ n)
  rcases foldT_cases t e with ⟨m, g, _⟩ | ⟨_, g⟩ | ⟨_, _, hc, g⟩ | ⟨_, _, _, hf, g⟩ | ⟨x, _, _, _, _, _, _, _, g⟩ <;> rw [g]
  · exact h'
  · exact h'
  · exact ⟨h.k, nodup_snoc h.c hc, h'.lk, by simp; exact h.lc⟩
  · refine ⟨?_, h.c, by simp; exact h.lk, h'.lc⟩
    simp only [List.map_append, List.map_cons, List.map_nil]
    refine nodup_snoc h.k fun hm => ?_
    obtain ⟨y, hy, e1⟩ := List.mem_map.1 hm
    exact findE_none hf y hy e1
  · exact ⟨by simp only [setE_keys]; exact h.k, h.c, by simp only [setE, List.length_map]; exact h'.lk, h'.lc⟩
theorem foldL_good {n : Nat} {t : Tb} (h : Tgood n t) : ∀ l : List EvC, Tgood (n + l.length) (foldL t l) := by
  intro l
  induction l generalizing n t with
  | nil => exact h
  | cons e l ih =>
    have := ih (fold_good h e)
    rw [List.length_cons, show n + (l.length + 1) = n + 1 + l.length by omega]
    exact this
/-! ends of a table -/
def EndsIn (p : EndP → Prop) (t : Tb) : Prop := (∀ x ∈ t.K, p x.1.en) ∧ ∀ c ∈ t.C, p c
theorem key_en (e : EvC) : (keyE e).en = ownP e := rfl
theorem own_of {e : EvC} (hm : mayE e = true) (h7 : e.k ≠ 7) (hr : 1 ≤ e.k ∧ e.k ≤ 7) : ownOk e = true := by
  unfold ownOk ownE
  rw [if_pos hm]
  split
  · rfl
  · split
    · rfl
    · split
      · rfl
      · omega
theorem mayE_range {e : EvC} (h : mayE e = true) : 1 ≤ e.k ∧ e.k ≤ 7 := by
  simp only [mayE, Bool.and_eq_true, decide_eq_true_eq] at h; exact h.1.1
theorem own_6 {e : EvC} (hm : mayE e = true) (h6 : e.k = 6) : ownP e = (e.e, e.ec) := by
  unfold ownP ownE; rw [if_pos hm, if_neg (by omega), if_neg (by omega), if_pos h6]
theorem ends_fold {p : EndP → Prop} {t : Tb} (h : EndsIn p t) {e : EvC} (he : ownOk e = true → p (ownP e)) : EndsIn p (foldT t e).1 := by
  rcases foldT_cases t e with ⟨m, g, _⟩ | ⟨_, g⟩ | ⟨hm, h6, hc, g⟩ | ⟨hm, h6, h7, hf, g⟩ | ⟨x, hm, h6, h7, hf, _, _, _, g⟩ <;> rw [g]
  · exact h
  · exact h
  · refine ⟨h.1, fun c hc => ?_⟩
    rcases List.mem_append.1 hc with hc | hc
    · exact h.2 c hc
    · simp at hc; subst hc
      rw [← own_6 hm h6]; exact he (own_of hm (by omega) (mayE_range hm))
  · refine ⟨fun x hx => ?_, h.2⟩
    rcases List.mem_append.1 hx with hx | hx
    · exact h.1 x hx
    · simp at hx; subst hx
      exact he (own_of hm h7 (mayE_range hm))
  · refine ⟨fun y hy => ?_, h.2⟩
    simp only [setE, List.mem_map] at hy
    obtain ⟨z, hz, rfl⟩ := hy
    split
    · exact he (own_of hm h7 (mayE_range hm))
    · exact h.1 z hz
theorem ends_foldL {p : EndP → Prop} : ∀ {l : List EvC} {t : Tb}, EndsIn p t → (∀ e ∈ l, ownOk e = true → p (ownP e)) → EndsIn p (foldL t l)
  | [], _, h, _ => h
  | e :: l, t, h, he => ends_foldL (l := l) (ends_fold h (he e (by simp))) fun x hx => he x (by simp [hx])
/-! parts that are apart -/
def Tb.app (a b : Tb) : Tb := ⟨a.K ++ b.K, a.C ++ b.C⟩
theorem find_app {A B : List (KeyC × EntC)} {k : KeyC} (h : ∀ x ∈ A, x.1 ≠ k) : findE (A ++ B) k = findE B k := by
  unfold findE
  rw [List.find?_append, List.find?_eq_none.2 (fun x hx => by simp [h x hx])]
  rfl
theorem set_app {A B : List (KeyC × EntC)} {k : KeyC} {y : EntC} (h : ∀ x ∈ A, x.1 ≠ k) : setE (A ++ B) k y = A ++ setE B k y := by
  simp only [setE, List.map_append]
  congr 1
  refine (List.map_congr_left fun x hx => ?_).trans (List.map_id A)
  rw [if_neg (h x hx)]; rfl
theorem fold_app {a b : Tb} {e : EvC} (h : ownOk e = true → EndsIn (· ≠ ownP e) a) : foldT (a.app b) e = (a.app (foldT b e).1, (foldT b e).2) := by
  unfold foldT
  by_cases hm : mayE e = false
  · rw [if_pos hm, if_pos hm]
  rw [if_neg hm, if_neg hm]
  have hm' : mayE e = true := by simpa using hm
  by_cases h7 : e.k = 7
  · rw [if_pos h7, if_pos h7]
  rw [if_neg h7, if_neg h7]
  have hE := h (own_of hm' h7 (mayE_range hm'))
  by_cases h6 : e.k = 6
  · rw [if_pos h6, if_pos h6]
    have hc : ((e.e, e.ec) : EndP) ∈ (a.app b).C ↔ ((e.e, e.ec) : EndP) ∈ b.C := by
      simp only [Tb.app, List.mem_append]
      refine ⟨fun h => h.resolve_left fun h1 => ?_, .inr⟩
      exact hE.2 _ h1 (own_6 hm' h6).symm
    by_cases hc' : ((e.e, e.ec) : EndP) ∈ b.C
    · rw [if_pos (hc.2 hc'), if_pos hc']
    · rw [if_neg (fun h => hc' (hc.1 h)), if_neg hc']
      simp [Tb.app]
  rw [if_neg h6, if_neg h6]
  have hk : ∀ x ∈ a.K, x.1 ≠ keyE e := fun x hx e1 => hE.1 x hx (by rw [e1]; rfl)
  have hf : findE (a.app b).K (keyE e) = findE b.K (keyE e) := find_app hk
  rw [hf]
  cases hx : findE b.K (keyE e) with
  | none => simp [Tb.app]
  | some x =>
    simp only
    split
    · rfl
    · split
      · rfl
      · split
        · rfl
        · simp only [Tb.app]; rw [set_app hk]
theorem foldL_app {a : Tb} : ∀ {l : List EvC} {b : Tb}, (∀ e ∈ l, ownOk e = true → EndsIn (· ≠ ownP e) a) → foldL (a.app b) l = a.app (foldL b l)
  | [], _, _ => rfl
  | e :: l, b, h => by
    show foldL (foldT (a.app b) e).1 l = a.app (foldL (foldT b e).1 l)
    rw [fold_app (h e (by simp))]
    exact foldL_app fun x hx => h x (by simp [hx])
theorem app_nil (a : Tb) : a.app ⟨[], []⟩ = a := by simp [Tb.app]
theorem find_mem {l : List (KeyC × EntC)} (hN : (l.map (·.1)).Nodup) {k : KeyC} {x : EntC} : findE l k = some x ↔ (k, x) ∈ l := by
  induction l with
  | nil => simp [findE]
  | cons y l ih =>
    obtain ⟨h1, h2⟩ := List.nodup_cons.1 hN
    by_cases hy : y.1 = k
    · subst hy
      have : findE (y :: l) y.1 = some y.2 := by simp [findE]
      rw [this]
      constructor
      · intro e; cases e; exact List.mem_cons_self ..
      · intro e
        rcases List.mem_cons.1 e with e | e
        · rw [← e]
        · exact absurd (List.mem_map.2 ⟨_, e, rfl⟩) h1
    · have : findE (y :: l) k = findE l k := by simp [findE, hy]
      rw [this, ih h2, List.mem_cons]
      refine ⟨.inr, fun h => h.resolve_left fun e => hy (by rw [← e])⟩
theorem find_perm {A B : List (KeyC × EntC)} (hp : A.Perm B) (hN : (A.map (·.1)).Nodup) (k : KeyC) : findE A k = findE B k := by
  have hB : (B.map (·.1)).Nodup := (hp.map _).nodup_iff.1 hN
  cases h : findE B k with
  | none =>
    cases h2 : findE A k with
    | none => rfl
    | some x =>
      have := (find_mem hB).2 (hp.mem_iff.1 ((find_mem hN).1 h2))
      rw [h] at this; cases this
  | some x => exact (find_mem hN).2 (hp.mem_iff.2 ((find_mem hB).1 h))
theorem app_perm (a b : Tb) : (a.app b).K.Perm (b.app a).K := List.perm_append_comm
end Go.Proofs.Ytobopbjedojebaa

/- chapter 22: LifeSides -/
namespace Go.Proofs.Ytobopbjedojebaa
set_option linter.all false
open Go.RowKit Classical
set_option maxRecDepth 100000
theorem two_i : ((2 : Nat) : Int) = 2 := rfl
def swapP (p : PktC) : PktC := ⟨p.d, p.dc, p.s, p.sc, p.q, p.x, p.th, p.ta⟩
def sendE (p : PktC) : EvC := ⟨1, p, [], [], 0, 0⟩
def writeE (p : PktC) (a : List UInt8) : EvC := ⟨3, swapP p, a, [], 0, 0⟩
def ky (p : PktC) (o : Bool) : KeyC := ⟨p.s, p.sc, o, p.q⟩
def tS1 (p : PktC) : Tb := ⟨[(ky p true, { ent0 p with s := true })], []⟩
def tS2 (p : PktC) (a : List UInt8) : Tb := ⟨[(ky p true, { ent0 p with s := true }), (ky p false, { ent0 (swapP p) with w := true, a := a })], []⟩
theorem mayK_swap (p : PktC) : mayK (swapP p) = mayK p := by
  unfold mayK swapP
  simp only
  rw [Bool.and_comm (mayP p.d p.dc)]
theorem may_write {p : PktC} {a : List UInt8} (h : mayE (writeE p a) = true) : mayK p = true ∧ 1 ≤ a.length ∧ a.length ≤ 32 := by
  rw [may_3 (e := writeE p a) rfl] at h
  simp only [Bool.and_eq_true, decide_eq_true_eq] at h
  obtain ⟨_, h1, h2⟩ := h
  rw [show (writeE p a).p = swapP p from rfl, mayK_swap] at h1
  exact ⟨h1, h2⟩
theorem may_send {p : PktC} (h : mayK p = true) : mayE (sendE p) = true := by
  rw [may_pk (e := sendE p) (by simp [sendE, writeE]) (by simp [sendE, writeE]) (by simp [sendE, writeE]) (by simp [sendE, writeE])]
  rw [show (sendE p).p = p from rfl, h]
  simp [plainE, sendE]
theorem fold_s1 {p : PktC} (h : mayK p = true) : foldT ⟨[], []⟩ (sendE p) = (tS1 p, 0) := by
  have hm := may_send h
  have hk : keyE (sendE p) = ky p true := by unfold keyE; rw [own_src hm (by simp [sendE, writeE])]; rfl
  rw [fold_new hm (by simp [sendE, writeE]) rfl, hk]; rfl
theorem fold_s2 {p : PktC} {a : List UInt8} (h : mayE (writeE p a) = true) : foldT (tS1 p) (writeE p a) = (tS2 p a, 0) := by
  have hk : keyE (writeE p a) = ky p false := by unfold keyE; rw [own_dst h (by simp [sendE, writeE])]; rfl
  have hf : findE (tS1 p).K (keyE (writeE p a)) = none := by rw [hk]; simp [findE, tS1, ky]
  rw [fold_new h (by simp [sendE, writeE]) hf, hk]; rfl
theorem keys_s2 (p : PktC) (a : List UInt8) : keysS (tS2 p a) = [ky p false, ky p true] := by
  have h1 : keyLt (ky p false) (ky p true) = true := by rw [keyLt_iff]; exact .inr ⟨rfl, .inl ⟨rfl, rfl⟩⟩
  refine rise_unique keySTO (srtL_rise keySTO ?_) ?_ ((srtL_perm _ _).trans (.swap _ _ _))
  · simp [tS2, ky]
  · exact List.pairwise_cons.2 ⟨fun z hz => by simp at hz; subst hz; exact h1, List.pairwise_singleton _ _⟩
theorem find_s2a (p : PktC) (a : List UInt8) : stageE (findE (tS2 p a).K (ky p true)) true = 1 := by
  simp [findE, tS2, ky, stageE, ent0]
theorem find_s2b (p : PktC) (a : List UInt8) : stageE (findE (tS2 p a).K (ky p false)) false = 5 := by
  simp [findE, tS2, ky, stageE, ent0]
theorem wr_cs (p : PktC) (a : List UInt8) : (writeE p a).cs = [.int .i64 3, .str p.d, .int .i64 p.dc, .str p.s, .int .i64 p.sc, .int .i64 p.q, .str p.x, .int .i64 p.th, .int .i64 p.ta, .str a, .str [], .int .i64 0, .int .i64 0] := rfl
theorem se_cs (p : PktC) : (sendE p).cs = [.int .i64 1, .str p.s, .int .i64 p.sc, .str p.d, .int .i64 p.dc, .int .i64 p.q, .str p.x, .int .i64 p.th, .int .i64 p.ta, .str [], .str [], .int .i64 0, .int .i64 0] := rfl
theorem ky_cs (p : PktC) (o : Bool) : (ky p o).cs = [.str p.s, .int .i64 p.sc, .bool o, .int .i64 p.q] := rfl
set_option maxHeartbeats 16000000 in
theorem p_LifeSides (p : PktC) (a : List UInt8) : CP Try.prog 3 [.agg p.cs, .str a] (.bool true) := by
  refine ok_liglaw22_LifeSides _ _ (by simp) ?_
  have hL := p_LightEs (.sl none 13 (evl [writeE p a])) [writeE p a] rfl (by simp [maxLen])
  by_cases h1 : lightEs [writeE p a]
  rotate_left
  · rw [decide_eq_false h1] at hL
    simp only [evl, List.map_cons, List.map_nil, wr_cs] at hL
    clear h1
    simp only [c_liglaw22_LifeSides, ↓Ed, Eu, ↓reduceIte, reduceCtorEq, Nat.reduceAdd, Nat.reduceEqDiff, Nat.reduceLT, Nat.reduceLeDiff, Int.reduceToNat, Int.reduceEq, Int.reduceLT, Int.reduceLE, w64, List.length_append, List.length_map, Nat.mul_one, beq_self_eq_true, PktC.cs, EvC.cs, EntC.cs, KeyC.cs, st_nil, Int.reduceAdd, List.getD_cons_zero, List.getD_cons_succ, two_i]
    repeat' ((first | refine CallO_pure (p_first) ?_ | refine CallO_pure (hL) ?_ | refine NewB_intro0 (fun b => ?_) | (refine NewB_intro (fun b hb => ?_); simp only [ln_cons2, ln_nil, and_true] at hb) | (with_reducible apply wA; focus exact OM_a) | ((first | refine gW_sp ?_ | refine condW_sp ?_ | refine pickW_sp ?_); (try refine Sp_n ?_); (first | refine wT ?_ | refine wF ?_ | refine wL (fun h h' => ?_) (fun h h' => ?_) | refine wE (fun h h' => ?_) (fun h h' => ?_) | refine Sp_split (fun h => ?_) (fun h => ?_)) <;> (try (exfalso; omega))) | refine TreeW_intro (by rfl) ?_ | refine TreeW_all ?_ | refine upQ_intro ?_ | refine Two_intro ?_ ?_ | exact wK | exact wD | (simp only [Fact, Bool.not_eq_true', Bool.not_eq_false', decide_eq_true_eq, decide_eq_false_iff_not] at *; exact wD) | (show (_ : Nat) ≤ _; omega)) <;> (try simp (disch := omega) only [*, ↓Ed, Eu, ↓reduceIte, reduceCtorEq, Nat.reduceAdd, Nat.reduceEqDiff, Nat.reduceLT, Nat.reduceLeDiff, Int.reduceToNat, Int.reduceEq, Int.reduceLT, Int.reduceLE, w64, List.length_append, List.length_map, Nat.mul_one, beq_self_eq_true, PktC.cs, EvC.cs, EntC.cs, KeyC.cs, st_nil, Int.reduceAdd, List.getD_cons_zero, List.getD_cons_succ, two_i]))
  rw [decide_eq_true h1] at hL
  obtain ⟨⟨l1, l2, l3⟩, l4, l5⟩ := h1.2 0 (by simp)
  simp only [List.getD_cons_zero] at l1 l2 l3 l4 l5
  have l1' : p.d.length ≤ 60 := l1
  have l2' : p.s.length ≤ 60 := l2
  have l3' : p.x.length ≤ 600 := l3
  have l4' : a.length ≤ 100 := l4
  have hM := p_rMayE (writeE p a) (by show p.d.length ≤ _; omega) (by show p.s.length ≤ _; omega) (by show p.x.length ≤ _; omega) (by show ([] : List UInt8).length ≤ _; simp) (by show a.length ≤ _; omega)
  simp only [evl, List.map_cons, List.map_nil, wr_cs] at hL
  by_cases hm : mayE (writeE p a) = true
  rotate_left
  · rw [show mayE (writeE p a) = false by simpa using hm] at hM
    rw [wr_cs] at hM
    clear hm h1 l1 l2 l3 l4 l5
    simp only [c_liglaw22_LifeSides, ↓Ed, Eu, ↓reduceIte, reduceCtorEq, Nat.reduceAdd, Nat.reduceEqDiff, Nat.reduceLT, Nat.reduceLeDiff, Int.reduceToNat, Int.reduceEq, Int.reduceLT, Int.reduceLE, w64, List.length_append, List.length_map, Nat.mul_one, beq_self_eq_true, PktC.cs, EvC.cs, EntC.cs, KeyC.cs, st_nil, Int.reduceAdd, List.getD_cons_zero, List.getD_cons_succ, two_i]
    repeat' ((first | refine CallO_pure (p_first) ?_ | refine CallO_pure (hL) ?_ | refine CallO_pure (hM) ?_ | refine NewB_intro0 (fun b => ?_) | (refine NewB_intro (fun b hb => ?_); simp only [ln_cons2, ln_nil, and_true] at hb) | (with_reducible apply wA; focus exact OM_a) | ((first | refine gW_sp ?_ | refine condW_sp ?_ | refine pickW_sp ?_); (try refine Sp_n ?_); (first | refine wT ?_ | refine wF ?_ | refine wL (fun h h' => ?_) (fun h h' => ?_) | refine wE (fun h h' => ?_) (fun h h' => ?_) | refine Sp_split (fun h => ?_) (fun h => ?_)) <;> (try (exfalso; omega))) | refine TreeW_intro (by rfl) ?_ | refine TreeW_all ?_ | refine upQ_intro ?_ | refine Two_intro ?_ ?_ | exact wK | exact wD | (simp only [Fact, Bool.not_eq_true', Bool.not_eq_false', decide_eq_true_eq, decide_eq_false_iff_not] at *; exact wD) | (show (_ : Nat) ≤ _; omega)) <;> (try simp (disch := omega) only [*, ↓Ed, Eu, ↓reduceIte, reduceCtorEq, Nat.reduceAdd, Nat.reduceEqDiff, Nat.reduceLT, Nat.reduceLeDiff, Int.reduceToNat, Int.reduceEq, Int.reduceLT, Int.reduceLE, w64, List.length_append, List.length_map, Nat.mul_one, beq_self_eq_true, PktC.cs, EvC.cs, EntC.cs, KeyC.cs, st_nil, Int.reduceAdd, List.getD_cons_zero, List.getD_cons_succ, two_i]))
  rw [hm] at hM
  rw [wr_cs] at hM
  obtain ⟨hk, _⟩ := may_write hm
  have hF1 := fun c m n hh => t_Fold c m n hh ⟨[], []⟩ (sendE p) List.nodup_nil (by show p.s.length ≤ _; omega) (by show p.d.length ≤ _; omega) (by show p.x.length ≤ _; omega) (by show ([] : List UInt8).length ≤ _; simp) (by show ([] : List UInt8).length ≤ _; simp)
  have hF2 := fun c m n hh => t_Fold c m n hh (tS1 p) (writeE p a) (by simp [tS1]) (by show p.d.length ≤ _; omega) (by show p.s.length ≤ _; omega) (by show p.x.length ≤ _; omega) (by show ([] : List UInt8).length ≤ _; simp) (by show a.length ≤ _; omega)
  rw [fold_s1 hk] at hF1
  rw [fold_s2 hm] at hF2
  have hK := fun c m n hh => t_Keys c m n hh (tS2 p a) (by simp [tS2, ky]) (by simp [tS2])
  rw [keys_s2] at hK
  have hS1 := fun c m n hh => t_Stage c m n hh (tS2 p a) (ky p true)
  have hS2 := fun c m n hh => t_Stage c m n hh (tS2 p a) (ky p false)
  rw [show (ky p true).o = true from rfl, find_s2a] at hS1
  rw [show (ky p false).o = false from rfl, find_s2b] at hS2
  rw [se_cs] at hF1
  rw [wr_cs] at hF2
  simp only [ky_cs, List.map_cons, List.map_nil] at hK hS1 hS2
  clear hk hm h1 l1 l2 l3 l4 l5 l1' l2' l3' l4'
  generalize tS1 p = T1 at *
  generalize tS2 p a = T2 at *
  simp only [c_liglaw22_LifeSides, ↓Ed, Eu, ↓reduceIte, reduceCtorEq, Nat.reduceAdd, Nat.reduceEqDiff, Nat.reduceLT, Nat.reduceLeDiff, Int.reduceToNat, Int.reduceEq, Int.reduceLT, Int.reduceLE, w64, List.length_append, List.length_map, Nat.mul_one, beq_self_eq_true, PktC.cs, EvC.cs, EntC.cs, KeyC.cs, st_nil, Int.reduceAdd, List.getD_cons_zero, List.getD_cons_succ, two_i]
  repeat' ((first | refine CallO_pure (p_first) ?_ | refine CallO_pure (hL) ?_ | refine CallO_pure (hM) ?_ | (refine CallO_new3 (t_New3) (NewB3_intro (fun c m n hc hm hn hcmn => ?_)); simp only [ln_cons2, ln_nil, and_true] at hc hm hn) | refine c3 (hF1 _ _ _ (by assumption)) ?_ | refine c3 (hF2 _ _ _ (by assumption)) ?_ | refine c3 (hK _ _ _ (by assumption)) ?_ | refine r3 (hS1 _ _ _ (by assumption)) ?_ | refine r3 (hS2 _ _ _ (by assumption)) ?_ | refine NewB_intro0 (fun b => ?_) | (refine NewB_intro (fun b hb => ?_); simp only [ln_cons2, ln_nil, and_true] at hb) | (with_reducible apply wA; focus exact OM_a) | ((first | refine gW_sp ?_ | refine condW_sp ?_ | refine pickW_sp ?_); (try refine Sp_n ?_); (first | refine wT ?_ | refine wF ?_ | refine wL (fun h h' => ?_) (fun h h' => ?_) | refine wE (fun h h' => ?_) (fun h h' => ?_) | refine Sp_split (fun h => ?_) (fun h => ?_)) <;> (try (exfalso; omega))) | refine TreeW_intro (by rfl) ?_ | refine TreeW_all ?_ | refine upQ_intro ?_ | refine Two_intro ?_ ?_ | exact wK | exact wD | (simp only [Fact, Bool.not_eq_true', Bool.not_eq_false', decide_eq_true_eq, decide_eq_false_iff_not] at *; exact wD) | (show (_ : Nat) ≤ _; omega)) <;> (try simp (disch := omega) only [*, ↓Ed, Eu, ↓reduceIte, reduceCtorEq, Nat.reduceAdd, Nat.reduceEqDiff, Nat.reduceLT, Nat.reduceLeDiff, Int.reduceToNat, Int.reduceEq, Int.reduceLT, Int.reduceLE, w64, List.length_append, List.length_map, Nat.mul_one, beq_self_eq_true, PktC.cs, EvC.cs, EntC.cs, KeyC.cs, st_nil, Int.reduceAdd, List.getD_cons_zero, List.getD_cons_succ, two_i]))
end Go.Proofs.Ytobopbjedojebaa

/- The abstract machine, part 15: arguments opened to abstract values; a law's row closed. -/
namespace Go.Proofs.Ytobopbjedojebaa
set_option linter.all false
open Go.RowKit Go.WideShapes Go.ChangeShapes

/-! ### types whose values have no pointers of their own -/
def chainB (P : Program) : Nat → List Field → Option Nat
  | a, [] => some a
  | a, f :: fs => if f.offset = a then chainB P (a + P.cellsOf f.type) fs else none
def flatB (P : Program) : Nat → TypeId → Bool
  | 0, _ => false
  | n + 1, t => match P.underlying t with
    | some .bool => true
    | some (.int _) => true
    | some .string => true
    | some (.struct fs) => decide (chainB P 0 fs.toList = some (P.cellsOf t)) && fs.toList.all fun f => flatB P n f.type
    | some (.slice e) => decide (0 < P.cellsOf e) && flatB P n e
    | some (.array m e) => decide (P.cellsOf t = m * P.cellsOf e) && flatB P n e
    | _ => false
/-- What is known of the cells of a value of a type. -/
def TVF (R : TypeId → List AV → Prop) : List Field → List AV → Prop
  | [], l => l = []
  | f :: fs, l => ∃ p q, R f.type p ∧ TVF R fs q ∧ l = p ++ q
def TV (P : Program) : Nat → TypeId → List AV → Prop
  | 0, _, _ => False
  | n + 1, t, l => match P.underlying t with
    | some .bool => ∃ b, l = [.bool b]
    | some (.int k) => ∃ m, l = [.int k m] ∧ (Lit.int k m).wf = true
    | some .string => ∃ s, l = [.str s] ∧ s.length ≤ maxLen
    | some (.struct fs) => TVF (TV P n) fs.toList l
    | some (.slice e) => ∃ els, l = [.sl none (P.cellsOf e) els] ∧ els.length ≤ maxLen ∧ ∀ c ∈ els, TV P n e c
    | some (.array m e) => ∃ els : List (List AV), l = els.flatten ∧ els.length = m ∧ ∀ c ∈ els, TV P n e c
    | _ => False
/-- .. of an argument. -/
def TA (P : Program) (n : Nat) (t : TypeId) (a : AV) : Prop := match P.underlying t with
  | some (.struct _) => ∃ l, a = .agg l ∧ TV P n t l
  | some (.array _ _) => ∃ l, a = .agg l ∧ TV P n t l
  | _ => TV P n t [a]
def TAs (P : Program) (n : Nat) : List TypeId → List AV → Prop
  | [], l => l = []
  | t :: ts, l => ∃ a q, TA P n t a ∧ TAs P n ts q ∧ l = a :: q

/-- Cells read as abstract values. -/
structure VRs (W : World) (U : Nat → Nat → Prop) (cs : List Value) (l : List AV) : Prop where
  len : cs.length = l.length
  vr : ∀ (i : Nat) (v : Value) (c : AV), cs[i]? = some v → l[i]? = some c → VR W U v c
  one : ∀ v ∈ cs, v.oneCell' = true
section
variable {W : World} {U : Nat → Nat → Prop}
theorem VRs.nil : VRs W U [] [] := ⟨rfl, fun i v c h => by simp at h, fun v h => by simp at h⟩
theorem VRs.one1 {v : Value} {c : AV} (h : VR W U v c) (h1 : v.oneCell' = true) : VRs W U [v] [c] :=
  ⟨rfl, fun i v' c' hv hc => by
    cases i with
    | zero => simp at hv hc; subst hv; subst hc; exact h
    | succ i => simp at hv, fun v' hv => by simp at hv; subst hv; exact h1⟩
theorem VRs.append {a b : List Value} {l m : List AV} (h : VRs W U a l) (g : VRs W U b m) : VRs W U (a ++ b) (l ++ m) := by
  refine ⟨by simp [h.len, g.len], fun i v c hv hc => ?_, fun v hv => ?_⟩
  · by_cases hi : i < a.length
    · rw [List.getElem?_append_left hi] at hv
      rw [List.getElem?_append_left (by have := h.len; omega)] at hc
      exact h.vr i v c hv hc
    · rw [List.getElem?_append_right (by omega)] at hv
      rw [List.getElem?_append_right (by have := h.len; omega), ← h.len] at hc
      exact g.vr _ v c hv hc
  · rcases List.mem_append.1 hv with hv | hv
    · exact h.one v hv
    · exact g.one v hv
end

theorem list_of {α : Type} {R : Nat → α → Prop} : ∀ (n : Nat), (∀ i, i < n → ∃ a, R i a) → ∃ l : List α, l.length = n ∧ ∀ i a, l[i]? = some a → R i a
  | 0, _ => ⟨[], rfl, fun i a h => by simp at h⟩
  | n + 1, h => by
    obtain ⟨l, hl, hr⟩ := list_of n (fun i hi => h i (by omega))
    obtain ⟨a, ha⟩ := h n (by omega)
    refine ⟨l ++ [a], by simp [hl], fun i b hb => ?_⟩
    by_cases hi : i < n
    · rw [List.getElem?_append_left (by omega)] at hb; exact hr i b hb
    · rw [List.getElem?_append_right (by omega)] at hb
      have hin : i = n := by
        by_cases h0 : i - l.length = 0
        · omega
        · have : (i - l.length) = (i - l.length - 1) + 1 := by omega
          rw [this] at hb; simp at hb
      subst hin
      simp [hl] at hb
      exact hb ▸ ha

section
variable {H : Type} {enc : TypeId × Value → H} {P : Program} {W : World} {base : Nat} {spare : Nat → Bool} {held : Bool} {U : Nat → Nat → Prop}

theorem open_fields {R : TypeId → List AV → Prop} (cs : List Value) :
    ∀ (fs : List Field) (a tot : Nat), chainB P a fs = some tot → cs.length = tot → (∀ f ∈ fs, ∃ p, R f.type p ∧ VRs W U ((cs.drop f.offset).take (P.cellsOf f.type)) p ) →
      ∃ l, TVF R fs l ∧ VRs W U (cs.drop a) l
  | [], a, tot, h, hl, _ => by
    simp only [chainB, Option.some.injEq] at h
    subst h
    exact ⟨[], rfl, by rw [List.drop_eq_nil_of_le (by omega)]; exact VRs.nil⟩
  | f :: fs, a, tot, h, hl, hf => by
    simp only [chainB] at h
    split at h
    · rename_i ha
      obtain ⟨p, h1, h2⟩ := hf f (by simp)
      obtain ⟨q, g1, g2⟩ := open_fields cs fs _ tot h hl (fun g hg => hf g (by simp [hg]))
      refine ⟨p ++ q, ⟨p, q, h1, g1, rfl⟩, ?_⟩
      have e : cs.drop a = (cs.drop a).take (P.cellsOf f.type) ++ cs.drop (a + P.cellsOf f.type) := by
        rw [← List.drop_drop, List.take_append_drop]
      rw [e]
      rw [ha] at h2
      exact h2.append g2
    · cases h

theorem open_elems {ce : Nat} : ∀ (els : List (List AV)) (cs : List Value), cs.length = els.length * ce → (∀ (i : Nat) (l : List AV), els[i]? = some l → VRs W U ((cs.drop (i * ce)).take ce) l) → VRs W U cs els.flatten
  | [], cs, hl, _ => by
    have : cs = [] := List.length_eq_zero_iff.1 (by simpa using hl)
    subst this; exact VRs.nil
  | e :: els, cs, hl, h => by
    have h0 := h 0 e rfl
    simp only [Nat.zero_mul, List.drop_zero] at h0
    have hr := open_elems (ce := ce) els (cs.drop ce) (by simp only [List.length_cons, Nat.add_mul] at hl; simp; omega) fun i l hi => by
      have := h (i + 1) l (by simpa using hi)
      rw [Nat.add_mul, Nat.one_mul, Nat.add_comm, ← List.drop_drop] at this
      exact this
    have := h0.append hr
    rwa [List.take_append_drop] at this

theorem open_flat (hU : ∀ b o, ¬ U b o) : ∀ (n : Nat) (t : TypeId) (cs : List Value) (fuel : Nat) (x : DataW H × List MemPlace), flatB P n t = true → DataW.trod enc P W base spare held fuel t cs = some x →
    ∃ l, TV P n t l ∧ VRs W U cs l
  | 0, t, cs, fuel, x, hf, h => by simp [flatB] at hf
  | n + 1, t, cs, fuel, x, hf, h => by
    unfold flatB at hf
    unfold TV
    split at hf
    · rename_i ht
      obtain ⟨b, rfl, _⟩ := DataW.trod_bool ht h
      exact ⟨_, ⟨b, rfl⟩, VRs.one1 (.bool b) rfl⟩
    · rename_i k ht
      obtain ⟨m, rfl, _, hw⟩ := DataW.trod_int ht h
      exact ⟨_, ⟨m, rfl, hw⟩, VRs.one1 (.int k m) rfl⟩
    · rename_i ht
      obtain ⟨s, rfl, _, hs⟩ := DataW.trod_string ht h
      obtain ⟨⟨l⟩⟩ := s
      exact ⟨_, ⟨l, rfl, hs⟩, VRs.one1 (.str l) rfl⟩
    · rename_i fs ht
      simp only [Bool.and_eq_true, decide_eq_true_eq, List.all_eq_true] at hf
      obtain ⟨hch, hall⟩ := hf
      obtain ⟨xs, m, _, _, hlen, hxl, hfi⟩ := DataW.trod_struct ht h
      have := open_fields (W := W) (U := U) (R := TV P n) cs fs.toList 0 _ hch hlen (fun f hfm => ?_)
      · simpa using this
      obtain ⟨i, hi, hfe⟩ := List.getElem_of_mem hfm
      have hfi' := hfi i f (by rw [← hfe]; simp at hi; simp [hi])
      have hxi : xs[i]? = some (xs[i]'(by simp at hi; omega)) := List.getElem?_eq_getElem _
      rw [hxi] at hfi'
      obtain ⟨p, h1, h2⟩ := open_flat hU n f.type _ _ _ (hall f hfm) hfi'
      exact ⟨p, h1, h2⟩
    · rename_i e ht
      simp only [Bool.and_eq_true, decide_eq_true_eq] at hf
      obtain ⟨hpos, hfe⟩ := hf
      rcases Go.Deep.open_slice ht h with ⟨rfl, _⟩ | ⟨a, len, cap, m, n', D, Pl, rfl, _, hl, hm, hmm, _, hi⟩
      · refine ⟨_, ⟨[], rfl, by simp, by simp⟩, VRs.one1 ?_ rfl⟩
        exact .sl none 0 none [] 0 0 (P.cellsOf e) (fun _ _ => undef) (by simp) (by simp) (by simp) (by simp) (by simp) (by simp)
      · have hlm : len ≤ m := by rw [hmm]; split <;> omega
        obtain ⟨els, hel, hr⟩ := list_of (R := fun i l => TV P n e l ∧ ∃ cs', W.cells? base (a.add (i * P.cellsOf e)) (P.cellsOf e) = some cs' ∧ VRs W U cs' l) len (fun i hil => by
          obtain ⟨cs', hc, ht'⟩ := hi i (by omega)
          obtain ⟨l, h1, h2⟩ := open_flat hU n e _ _ _ hfe ht'
          exact ⟨l, h1, cs', hc, h2⟩)
        refine ⟨_, ⟨els, rfl, by omega, fun c hc => ?_⟩, VRs.one1 ?_ rfl⟩
        · obtain ⟨i, hi', rfl⟩ := List.getElem_of_mem hc
          exact (hr i _ (List.getElem?_eq_getElem hi')).1
        · obtain ⟨b, o, spot⟩ := a
          have hcell : ∀ i j, i < els.length → j < P.cellsOf e → ∃ v, W.cell? ⟨b, o + i * P.cellsOf e + j, none⟩ = some v ∧ v.oneCell' = true ∧ (∀ c, (els[i]?.bind (·[j]?)) = some c → VR W U v c) ∧ (0 < len → spot = none) := by
            intro i j hi' hj
            obtain ⟨_, cs', hc, hv⟩ := hr i _ (List.getElem?_eq_getElem hi')
            obtain ⟨_, hcl, hat⟩ := World.cells?_some hc
            have hcj := hat j hj
            have hjl : cs'[j]? = some (cs'[j]'(by omega)) := List.getElem?_eq_getElem _
            rw [hjl] at hcj
            have hsp : 0 < len → spot = none := fun h0 => by
              obtain ⟨cs0, hc0, _⟩ := hi 0 (by omega)
              obtain ⟨_, hcl0, hat0⟩ := World.cells?_some hc0
              have := hat0 0 hpos
              rw [show cs0[0]? = some (cs0[0]'(by omega)) from List.getElem?_eq_getElem _] at this
              have := World.cell?_spot this
              simpa [Addr.add] using this
            have hs0 := hsp (by omega)
            subst hs0
            have ea : ((⟨b, o, none⟩ : Addr).add (i * P.cellsOf e)).add j = ⟨b, o + i * P.cellsOf e + j, none⟩ := by
              rw [Go.Deep.add_add]
              unfold Addr.add
              split
              · rename_i h0; first | (simp; done) | (simp; omega)
              · simp [Nat.add_assoc]
            rw [ea] at hcj
            refine ⟨_, hcj, hv.one _ (List.getElem_mem _), fun c hc' => ?_, hsp⟩
            rw [List.getElem?_eq_getElem hi'] at hc'
            exact hv.vr j _ c hjl hc'
          rw [← hel] at hl ⊢
          have hsz : ∀ l ∈ els, l.length = P.cellsOf e := fun l hl' => by
            obtain ⟨i, hi', rfl⟩ := List.getElem_of_mem hl'
            obtain ⟨_, cs', hc, hv⟩ := hr i _ (List.getElem?_eq_getElem hi')
            rw [← hv.len]
            exact (World.cells?_some hc).2.1
          refine .sl _ cap none els b o (P.cellsOf e) (fun i j => (W.cell? ⟨b, o + i * P.cellsOf e + j, none⟩).getD undef) hl hm (fun h0 => ?_) hsz (fun i j hi' hj => ?_) (fun i l j c hl' hc => ?_)
          · obtain ⟨v, _, _, _, hs⟩ := hcell 0 0 h0 hpos
            rw [hs (by omega)]
          · obtain ⟨v, h1, h2, _⟩ := hcell i j hi' hj
            rw [h1]
            exact ⟨rfl, h2, hU _ _⟩
          · have hi' : i < els.length := (List.getElem?_eq_some_iff.1 hl').1
            have hj : j < P.cellsOf e := by rw [← hsz l (List.mem_of_getElem? hl')]; exact (List.getElem?_eq_some_iff.1 hc).1
            obtain ⟨v, h1, _, h3, _⟩ := hcell i j hi' hj
            rw [h1]
            exact h3 c (by rw [hl']; exact hc)
    · rename_i m e ht
      simp only [Bool.and_eq_true, decide_eq_true_eq] at hf
      obtain ⟨hsz, hfe⟩ := hf
      obtain ⟨xs, m', _, _, hlen, hxl, hfi⟩ := DataW.trod_array ht h
      obtain ⟨els, hel, hr⟩ := list_of (R := fun i l => TV P n e l ∧ VRs W U ((cs.drop (i * P.cellsOf e)).take (P.cellsOf e)) l) m (fun i hi => by
        have h1 := hfi i hi
        rw [show xs[i]? = some (xs[i]'(by omega)) from List.getElem?_eq_getElem _] at h1
        exact open_flat hU n e _ _ _ hfe h1)
      refine ⟨_, ⟨els, rfl, hel, fun c hc => ?_⟩, open_elems els cs (by rw [hlen, hsz, hel]) fun i l hi => (hr i l hi).2⟩
      obtain ⟨i, hi', rfl⟩ := List.getElem_of_mem hc
      exact (hr i _ (List.getElem?_eq_getElem hi')).1
    · cases hf

theorem okWide_array {r : Reach} {b0 m : Nat} {t e : TypeId} {v : Value} (ht : P.underlying t = some (.array m e)) (h : Value.okWide P W r b0 t v) : ∃ cs, v = .agg cs ∧ cs.size = P.cellsOf t := by
  unfold Value.okWide at h
  rw [ht] at h
  obtain ⟨cs, h1, h2, _⟩ := h
  exact ⟨cs, h1, h2⟩
theorem open_arg (hU : ∀ b o, ¬ U b o) {r : Reach} {b0 n : Nat} {t : TypeId} {v : Value} {d : DataW H} {ps : List MemPlace} (hf : flatB P n t = true) (hval : Value.okWide P W r b0 t v) (hd : DataW.Trod enc P W base spare held t v d ps) :
    ∃ a, TA P n t a ∧ VR W U v a := by
  obtain ⟨fuel, hd⟩ := hd
  obtain ⟨l, h1, h2⟩ := open_flat (U := U) hU n t _ _ _ hf hd
  cases n with
  | zero => simp [flatB] at hf
  | succ n =>
    have key : ∀ w : Value, w.cells.toList = [w] → v = w → ∀ a, l = [a] → VR W U v a := fun w hw hv a ha => by
      subst hv; subst ha
      exact h2.vr 0 v a (by rw [hw]; rfl) rfl
    unfold TA
    unfold flatB at hf
    have h1' := h1
    unfold TV at h1
    split at hf
    · rename_i ht
      rw [ht] at h1 ⊢
      obtain ⟨b, rfl⟩ := h1
      obtain ⟨b', rfl⟩ : ∃ b', v = .bool b' := by
        simp only [Value.okWide, ht, Cell.okWide] at hval
        cases v <;> simp_all [Cell.ok]
      exact ⟨_, h1', key _ rfl rfl _ rfl⟩
    · rename_i k ht
      rw [ht] at h1 ⊢
      obtain ⟨m, rfl, _⟩ := h1
      obtain ⟨m', rfl⟩ := okWide_int ht hval
      exact ⟨_, h1', key _ rfl rfl _ rfl⟩
    · rename_i ht
      rw [ht] at h1 ⊢
      obtain ⟨s, rfl, _⟩ := h1
      obtain ⟨s', rfl⟩ := okWide_string ht hval
      exact ⟨_, h1', key _ rfl rfl _ rfl⟩
    · rename_i fs ht
      rw [ht]
      obtain ⟨cs, rfl, _⟩ := okWide_struct ht hval
      refine ⟨_, ⟨l, rfl, h1'⟩, ?_⟩
      obtain ⟨cs⟩ := cs
      exact .agg cs l h2.len h2.vr h2.one
    · rename_i e ht
      rw [ht] at h1 ⊢
      obtain ⟨els, rfl, _⟩ := h1
      obtain ⟨a, len, cap, rfl⟩ := okWide_slice ht hval
      exact ⟨_, h1', key _ rfl rfl _ rfl⟩
    · rename_i m e ht
      rw [ht]
      obtain ⟨cs, rfl, _⟩ := okWide_array ht hval
      refine ⟨_, ⟨l, rfl, h1'⟩, ?_⟩
      obtain ⟨cs⟩ := cs
      exact .agg cs l h2.len h2.vr h2.one
    · cases hf

theorem open_args (hU : ∀ b o, ¬ U b o) {r : Reach} {b0 n : Nat} : ∀ {ts : List TypeId} {vs : List Value} {ds : List (DataW H)} {ps : List MemPlace}, (∀ t ∈ ts, flatB P n t = true) →
    (∀ (j : Nat) t v, ts[j]? = some t → vs[j]? = some v → Value.okWide P W r b0 t v) → DataW.TrodAll enc P W base spare held ts vs ds ps →
    ∃ l, TAs P n ts l ∧ vs.length = l.length ∧ ∀ (i : Nat) (v : Value) (c : AV), vs[i]? = some v → l[i]? = some c → VR W U v c
  | [], vs, ds, ps, _, _, h => by
    cases vs with
    | nil => exact ⟨[], rfl, rfl, fun i v c h => by simp at h⟩
    | cons v vs => cases ds <;> exact h.elim
  | t :: ts, vs, ds, ps, hf, hval, h => by
    cases vs with
    | nil => cases ds <;> exact h.elim
    | cons v vs =>
      cases ds with
      | nil => exact h.elim
      | cons d ds =>
        obtain ⟨p, q, h1, h2, _⟩ := h
        obtain ⟨a, ha, hv⟩ := open_arg (U := U) hU (hf t (by simp)) (hval 0 t v rfl rfl) h1
        obtain ⟨l, hl, hlen, hvr⟩ := open_args hU (fun t' ht' => hf t' (by simp [ht'])) (fun j t' v' h3 h4 => hval (j + 1) t' v' h3 h4) h2
        refine ⟨a :: l, ⟨a, l, ha, hl, rfl⟩, by simp [hlen], fun i w c h3 h4 => ?_⟩
        cases i with
        | zero => simp at h3 h4; subst h3; subst h4; exact hv
        | succ i => exact hvr i w c h3 h4

theorem args_stay (hl : laidOutB P = true) {W' : World} (hb : Below W.heap.size W W') {sp' : Nat → Bool} : ∀ {ts : List TypeId} {vs : List Value} {ds : List (DataW H)} {ps : List MemPlace}, (∀ t ∈ ts, P.readableRec t = true ∧ t < P.types.size) →
    DataW.TrodAll enc P W 0 (fun _ => true) true ts vs ds ps → (∀ x ∈ ps, x.block < W.heap.size) → (∀ x ∈ ps, sp' x.block = true) → DataW.TrodAll enc P W' 0 sp' true ts vs ds ps
  | [], vs, ds, ps, _, h, _, _ => by cases vs <;> cases ds <;> exact h
  | t :: ts, vs, ds, ps, ht, h, hlt, hsp => by
    cases vs with
    | nil => cases ds <;> exact h.elim
    | cons v vs =>
      cases ds with
      | nil => exact h.elim
      | cons d ds =>
        obtain ⟨p, q, h1, h2, rfl⟩ := h
        refine ⟨p, q, ?_, args_stay hl hb (fun t' ht' => ht t' (by simp [ht'])) h2 (fun x hx => hlt x (by simp [hx])) (fun x hx => hsp x (by simp [hx])), rfl⟩
        exact WideElems.Trod_stays hl (ht t (by simp)).1 (ht t (by simp)).2 h1 (fun x hx => hb.same (hlt x (by simp [hx]))) (fun x hx => hsp x (by simp [hx]))

theorem post_of_below {f : Func} {s : ChangeSpec} {apart fresh handsOn again : Bool} {W W' : World} {args : Array Value} {v : Value} {ds gs : List (DataW H)} {before pa pv : List MemPlace}
    (hW : DataW.Whole enc P f.params.toList s.vars apart W args.toList ds gs before)
    (hres : ∀ (b : Nat) (sp : Nat → Bool) (hd : Bool), DataW.TrodAll enc P W' b sp hd f.resultTypes.toList (v.resultList f.resultTypes.size) (s.fn H (ds ++ gs)).results [])
    (hargs : ∀ sp : Nat → Bool, (∀ p ∈ before, sp p.block = true) → DataW.TrodAll enc P W' 0 sp true f.params.toList args.toList (s.fn H (ds ++ gs)).args pa)
    (hvars : ∀ sp : Nat → Bool, (∀ p ∈ before, sp p.block = true) → DataW.TrodVars enc P W' sp s.vars (s.fn H (ds ++ gs)).vars pv)
    (hps : before = pa ++ pv) (hb : Below W.heap.size W W')
    (hok : ∀ (j : Nat) (t : TypeId) (r : Value), f.resultTypes[j]? = some t → (v.resultList f.resultTypes.size)[j]? = some r → Value.okWide P W' .any 0 t r) :
    s.post enc P f apart fresh handsOn again W args v W' := by
  have hlt : ∀ p ∈ before, p.block < W.heap.size := fun p hp => hW.lt p hp
  have hold : ∀ p ∈ before, (fun b => decide (b < W.heap.size)) p.block = true := fun p hp => by simpa using hlt p hp
  refine ⟨ds, gs, before, [], pa, pv, hW, hres _ _ _, hargs _ hold, hvars _ hold, World.keptBut_mono (fun p hp => ⟨hp, ?_⟩) (hb.frame (· ∈ before)), fun _ => ?_⟩
  · rw [hps, List.mem_append] at hp
    exact Or.inr hp
  · obtain ⟨_, _, _, _, _, hz, hn⟩ := hW
    refine ⟨hok, _, _, ([] ++ pa) ++ pv, ⟨[] ++ pa, pv, trodAll_append (hargs _ (fun _ _ => rfl)) (hres _ _ _), hvars _ (fun _ _ => rfl), rfl, ?_, ?_⟩, ?_⟩
    · intro b off hp
      have hin : MemPlace.cell b off ∈ before := by rw [hps]; simpa using hp
      rw [hb.frozen (hlt _ hin)]
      exact hz b off hin
    · intro ha
      have := hn ha
      rw [hps] at this
      simpa using this
    · intro p hp _
      rw [hps]
      simpa using hp
/-- A LAW'S ROW: the law's function returns true on all abstract values of its parameters' types. -/
theorem row_of_CP {f : Func} {N n tb : Nat} {s : ChangeSpec} {args : Array Value} {ds gs : List (DataW H)} {before : List MemPlace} (hl : laidOutB P = true)
    (hread : f.params.toList.all (fun t => P.readableRec t && decide (t < P.types.size) && flatB P n t) = true) (hrt : f.resultTypes = #[tb]) (htb : P.underlying tb = some .bool) (hvars : s.vars = [])
    (hfn : gs = [] → ds.length = f.params.size → (s.fn H (ds ++ gs)).results = [.lit (.bool true)] ∧ (s.fn H (ds ++ gs)).args = ds ∧ (s.fn H (ds ++ gs)).vars = [])
    (hval : ∀ (j : Nat) t v, f.params[j]? = some t → args[j]? = some v → Value.okWide P W .any base t v)
    (hW : DataW.Whole enc P f.params.toList s.vars false W args.toList ds gs before)
    (hG : Glob W fun _ _ => False) (hCP : ∀ l, TAs P n f.params.toList l → CP P N l (.bool true)) :
    Calls P N args W fun e W' => ∃ v, e = .returned v ∧ s.post enc P f false true false false W args v W' := by
  have hW' := hW
  obtain ⟨p, q, hA, hV, rfl, hfz, hnd⟩ := hW
  simp only [List.all_eq_true, Bool.and_eq_true, decide_eq_true_eq] at hread
  have hgs : gs = [] ∧ q = [] := by
    rw [hvars] at hV
    cases gs with
    | nil => exact ⟨rfl, hV⟩
    | cons g gs => exact hV.elim
  obtain ⟨rfl, rfl⟩ := hgs
  obtain ⟨l, hl1, hl2, hl3⟩ := open_args (U := fun _ _ => False) (fun _ _ h => h) (fun t ht => (hread t ht).2) (fun j t v h1 h2 => hval j t v (by simpa using h1) (by simpa using h2)) hA
  have hds : ds.length = f.params.size := by
    have : ∀ {ts : List TypeId} {vs : List Value} {ds : List (DataW H)} {ps : List MemPlace}, DataW.TrodAll enc P W 0 (fun _ => true) true ts vs ds ps → ds.length = ts.length := by
      intro ts
      induction ts with
      | nil => intro vs ds ps h; cases vs <;> cases ds <;> first | rfl | exact h.elim
      | cons t ts ih =>
        intro vs ds ps h
        cases vs <;> cases ds <;> first | exact h.elim | skip
        obtain ⟨p, q, _, h2, _⟩ := h
        simp [ih h2]
    simpa using this hA
  obtain ⟨f1, f2, f3⟩ := hfn rfl hds
  have hc := hCP l hl1 W (fun _ _ => False) args.toList hG hl2 hl3
  have ea : args.toList.toArray = args := by simp
  rw [ea] at hc
  refine Calls.mono hc fun e W' => ?_
  rintro ⟨v, U', rfl, hv, _, hx⟩
  cases hv
  refine ⟨_, rfl, post_of_below hW' (pa := p) (pv := []) (fun _ _ _ => ?_) (fun sp hsp => ?_) (fun _ _ => ?_) rfl hx.b ?_⟩
  · rw [hrt, f1]
    exact trodAll_mk1 (shut_bool htb true)
  · rw [f2]
    exact args_stay hl hx.b (fun t ht => (hread t ht).1) hA (fun x hx => hW'.lt x (by simpa using hx)) (fun x hx => hsp x (by simpa using hx))
  · rw [hvars, f3]; rfl
  · exact ok_one hrt rfl (okWide_bool_mk htb _)
end
end Go.Proofs.Ytobopbjedojebaa
