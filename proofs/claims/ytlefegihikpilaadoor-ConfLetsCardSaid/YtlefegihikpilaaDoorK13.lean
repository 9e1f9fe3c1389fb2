import Derived.Test.YtlefegihikpilaaDoorK12
import Derived.Test.YtlefegihikpilaaDoorK9
import Derived.Test.YtlefegihikpilaaDoorK10
import Derived.Test.YtlefegihikpilaaDoorK11
import Derived.Shelf.Strings.OnBuilder
import Derived.Lib.Join
import Derived.Test.YtlefegihikpilaaDoorK8
import Derived.Lib.SplitLaws
import Derived.Lib.IndexMore
import Derived.WalkSmall
/- plain laws: names of what is kept: unlike of unlike things; their pieces -/
namespace Go.Proofs.YtlefegihikpilaaDoor
set_option linter.all false
open Go
set_option maxRecDepth 100000
theorem cut_inj : ∀ {a b x y : List UInt8}, 47 ∉ a → 47 ∉ b → a ++ 47 :: x = b ++ 47 :: y → a = b ∧ x = y
  | [], [], _, _, _, _, h => ⟨rfl, by simpa using h⟩
  | [], d :: b, _, _, _, hb, h => by simp at h; exact absurd h.1 (fun e => hb (by simp [e]))
  | c :: a, [], _, _, ha, _, h => by simp at h; exact absurd h.1 (fun e => ha (by simp [e]))
  | c :: a, d :: b, x, y, ha, hb, h => by
    simp only [List.cons_append, List.cons.injEq] at h
    obtain ⟨rfl, h⟩ := h
    obtain ⟨e1, e2⟩ := cut_inj (fun g => ha (by simp [g])) (fun g => hb (by simp [g])) h
    exact ⟨by rw [e1], e2⟩
theorem cut_none_inj {a b y : List UInt8} (ha : 47 ∉ a) (h : a = b ++ 47 :: y) : False := ha (by rw [h]; simp)
theorem name_no {p : List UInt8} (h : nameQ p) : 47 ∉ p := by
  intro hm
  obtain ⟨i, hi, e⟩ := List.getElem_of_mem hm
  have := h.2.2 i hi
  unfold okAt at this
  have e2 : p.getD i 0 = 47 := by rw [List.getD, List.getElem?_eq_getElem hi]; exact e
  rw [e2] at this
  have h47 : (47 : UInt8).toNat = 47 := rfl
  omega
theorem dig_no (n : Nat) : 47 ∉ dig n := fun h => by
  have := dig_all n 47 h
  unfold isDig at this
  have h47 : (47 : UInt8).toNat = 47 := rfl
  omega
theorem itoa_no {n : Int} (h : 0 ≤ n) : 47 ∉ Lib.itoa n := by rw [itoa_dig h]; exact dig_no _
theorem itoa_inj {n m : Int} (h : 0 ≤ n) (g : 0 ≤ m) (e : Lib.itoa n = Lib.itoa m) : n = m := by
  rw [itoa_dig h, itoa_dig g] at e
  have := dig_inj e
  omega
theorem chan_no {n : Int} (h : 0 ≤ n) : 47 ∉ chn ++ Lib.itoa n := by
  intro hm
  rcases List.mem_append.1 hm with hm | hm
  · revert hm; decide
  · exact itoa_no h hm
/-- A kept thing's name that is not empty: its parts. -/
inductive OfQ : List UInt8 → Int → List UInt8 → Int → Int → Prop
  | num {k p c q} (hk : 1 ≤ k ∧ k ≤ 3) (hp : nameQ p) (hc : 0 ≤ c ∧ c ≤ 999) (hq : 1 ≤ q ∧ q ≤ 1099511627776) :
      OfQ (wordP k ++ 47 :: (prts ++ 47 :: (p ++ 47 :: (chns ++ 47 :: ((chn ++ Lib.itoa c) ++ 47 :: (seqs ++ 47 :: Lib.itoa q)))))) k p c q
  | base {k p c} (hk : 4 ≤ k ∧ k ≤ 7) (hp : nameQ p) (hc : 0 ≤ c ∧ c ≤ 999) : OfQ (wordP k ++ 47 :: (prts ++ 47 :: (p ++ 47 :: (chns ++ 47 :: (chn ++ Lib.itoa c))))) k p c 0
theorem ofP_q {k : Int} {p : List UInt8} {c q : Int} : ofP k p c q = [] ∨ OfQ (ofP k p c q) k p c q := by
  unfold ofP
  split
  · exact .inl rfl
  rename_i h
  simp only [not_or, Decidable.not_not] at h
  obtain ⟨hw, hm⟩ := h
  have hm := mayP_t hm
  have hk : 1 ≤ k ∧ k ≤ 7 := by
    by_cases g : 1 ≤ k ∧ k ≤ 7
    · exact g
    · exact absurd (wordP_out (by omega)) hw
  split
  · split
    · right
      have := OfQ.num (k := k) (p := p) (c := c) (q := q) (by omega) hm.2.2.2 ⟨hm.2.1, hm.2.2.1⟩ (by assumption)
      simpa [baseP] using this
    · exact .inl rfl
  · split
    · subst_vars
      right
      have := OfQ.base (k := k) (p := p) (c := c) (by omega) hm.2.2.2 ⟨hm.2.1, hm.2.2.1⟩
      simpa [baseP] using this
    · exact .inl rfl
theorem OfQ.ne {s k p c q} (h : OfQ s k p c q) : s ≠ [] := by cases h <;> simp
theorem OfQ.inj {s k p c q k' p' c' q'} (h : OfQ s k p c q) (g : OfQ s k' p' c' q') : k = k' ∧ p = p' ∧ c = c' ∧ q = q' := by
  have main : ∀ {x y : List UInt8} {k k' : Int} {p p' : List UInt8}, (1 ≤ k ∧ k ≤ 7) → (1 ≤ k' ∧ k' ≤ 7) → nameQ p → nameQ p' →
      wordP k ++ 47 :: (prts ++ 47 :: (p ++ 47 :: (chns ++ 47 :: x))) = wordP k' ++ 47 :: (prts ++ 47 :: (p' ++ 47 :: (chns ++ 47 :: y))) → k = k' ∧ p = p' ∧ x = y := by
    intro x y k k' p p' h1 h2 h3 h4 e
    obtain ⟨e1, e⟩ := cut_inj (wordP_no k) (wordP_no k') e
    obtain ⟨_, e⟩ := cut_inj (by decide) (by decide) e
    obtain ⟨e2, e⟩ := cut_inj (name_no h3) (name_no h4) e
    obtain ⟨_, e⟩ := cut_inj (by decide) (by decide) e
    exact ⟨wordP_inj h1 h2 e1, e2, e⟩
  generalize hs : s = t at h g
  cases h with
  | num hk hp hc hq =>
    generalize hs : wordP k ++ 47 :: (prts ++ 47 :: (p ++ 47 :: (chns ++ 47 :: ((chn ++ Lib.itoa c) ++ 47 :: (seqs ++ 47 :: Lib.itoa q))))) = t at g
    cases g with
    | num hk' hp' hc' hq' =>
      obtain ⟨e1, e2, e⟩ := main (by omega) (by omega) hp hp' hs
      obtain ⟨e3, e⟩ := cut_inj (chan_no hc.1) (chan_no hc'.1) e
      obtain ⟨_, e⟩ := cut_inj (by decide) (by decide) e
      exact ⟨e1, e2, itoa_inj hc.1 hc'.1 (List.append_cancel_left e3), itoa_inj (by omega) (by omega) e⟩
    | base hk' hp' hc' =>
      obtain ⟨e1, e2, e⟩ := main (by omega) (by omega) hp hp' hs
      omega
  | base hk hp hc =>
    generalize hs : wordP k ++ 47 :: (prts ++ 47 :: (p ++ 47 :: (chns ++ 47 :: (chn ++ Lib.itoa c)))) = t at g
    cases g with
    | num hk' hp' hc' hq' =>
      obtain ⟨e1, e2, e⟩ := main (by omega) (by omega) hp hp' hs
      omega
    | base hk' hp' hc' =>
      obtain ⟨e1, e2, e⟩ := main (by omega) (by omega) hp hp' hs
      exact ⟨e1, e2, itoa_inj hc.1 hc'.1 (List.append_cancel_left e), rfl⟩
/-- The pieces between slashes, in plain words. -/
def sp : List UInt8 → List (List UInt8)
  | [] => [[]]
  | c :: t => if c = 47 then [] :: sp t else match sp t with | [] => [[c]] | x :: xs => (c :: x) :: xs
theorem sp_none : ∀ {a : List UInt8}, 47 ∉ a → sp a = [a]
  | [], _ => rfl
  | c :: t, h => by
    simp only [List.mem_cons, not_or] at h
    rw [sp, if_neg (fun e => h.1 e.symm), sp_none h.2]
theorem sp_cut : ∀ {a x : List UInt8}, 47 ∉ a → sp (a ++ 47 :: x) = a :: sp x
  | [], x, _ => by simp [sp]
  | c :: t, x, h => by
    simp only [List.mem_cons, not_or] at h
    rw [List.cons_append, sp, if_neg (fun e => h.1 e.symm), sp_cut h.2]
theorem OfQ.sp {s k p c q} (h : OfQ s k p c q) : sp s = if k ≤ 3 then [wordP k, prts, p, chns, chn ++ Lib.itoa c, seqs, Lib.itoa q] else [wordP k, prts, p, chns, chn ++ Lib.itoa c] := by
  cases h with
  | num hk hp hc hq =>
    rw [if_pos hk.2, sp_cut (wordP_no k), sp_cut (by decide), sp_cut (name_no hp), sp_cut (by decide), sp_cut (chan_no hc.1), sp_cut (by decide), sp_none (itoa_no (by omega))]
  | base hk hp hc =>
    rw [if_neg (by omega), sp_cut (wordP_no k), sp_cut (by decide), sp_cut (name_no hp), sp_cut (by decide), sp_none (chan_no hc.1)]
end Go.Proofs.YtlefegihikpilaaDoor

/- chapter 3: the document's ParseEnd -/
namespace Go.Proofs.YtlefegihikpilaaDoor
set_option linter.all false
open Go.RowKit
set_option maxRecDepth 100000
theorem c9 : ((9 : Nat) : Int) = 9 := rfl
theorem tk9 (k : Nat) : ((k : Int) + 9).toNat = k + 9 := by omega
theorem dt9 (s : List UInt8) (k : Nat) : List.drop k (List.take (k + 9) s) = List.take 9 (List.drop k s) := by rw [List.drop_take, Nat.add_sub_cancel_left]
theorem occ1 {s : List UInt8} {i : Nat} : Lib.occAt s [47] i = true ↔ i < s.length ∧ s.getD i 0 = 47 := by
  unfold Lib.occAt
  by_cases h : i < s.length
  · rw [List.drop_eq_getElem_cons h, List.getD, List.getElem?_eq_getElem h]
    simp only [List.isPrefixOf_cons₂, List.isPrefixOf_nil_left, Bool.and_true, beq_iff_eq, Option.getD_some]
    exact ⟨fun e => ⟨h, e.symm⟩, fun e => e.2.symm⟩
  · rw [List.drop_eq_nil_of_le (by omega)]
    simp [List.isPrefixOf, h]
theorem occ1f {s : List UInt8} {i : Nat} (h : ¬ (i < s.length ∧ s.getD i 0 = 47)) : Lib.occAt s [47] i = false := by
  rw [← Bool.not_eq_true, occ1]; exact h
theorem cut_at {s : List UInt8} {k : Nat} (hk : k < s.length) (h : s.getD k 0 = 47) (hn : ∀ j, j < k → ¬ s.getD j 0 = 47) : Lib.cut s [47] = (s.take k, s.drop (k + 1), true) := by
  have : Lib.index s [47] = k := Lib.index_first (by omega) (occ1.2 ⟨hk, h⟩) fun j hj => occ1f fun g => hn j hj g.2
  unfold Lib.cut
  rw [this, if_pos (by omega)]
  simp
theorem cut_no {s : List UInt8} (hn : ∀ j, j < s.length → ¬ s.getD j 0 = 47) : Lib.cut s [47] = (s, [], false) := by
  have : Lib.index s [47] = -1 := Lib.index_none fun j _ => occ1f fun g => hn j g.1 g.2
  unfold Lib.cut
  rw [this, if_neg (by omega)]
theorem pre_iff {s : List UInt8} : Lib.hasPrefix s chn = true ↔ s.take 8 = chn := by
  unfold Lib.hasPrefix
  rw [List.isPrefixOf_iff_prefix, List.prefix_iff_eq_take]
  exact eq_comm
theorem front_at {s : List UInt8} {k : Nat} (hk : k < s.length) (h : s.getD k 0 = 47) : (s.drop k).take 9 = [47, 99, 104, 97, 110, 110, 101, 108, 45] ↔ Lib.hasPrefix (s.drop (k + 1)) chn = true := by
  rw [pre_iff, List.drop_eq_getElem_cons hk]
  have : s[k] = 47 := by rw [List.getD, List.getElem?_eq_getElem hk] at h; exact h
  simp [this, chn]
theorem parse_no {s : List UInt8} {k : Nat} (hk : s.length ≤ k) (hn : ∀ j, j < k → ¬ s.getD j 0 = 47) : parseP s = ([], 0, 3) := by
  unfold parseP
  rw [cut_no (fun j hj => hn j (by omega))]
  simp [endP, endOk, Lib.hasPrefix, List.isPrefixOf]
theorem parse_at {s : List UInt8} {k : Nat} (hk : k < s.length) (h : s.getD k 0 = 47) (hn : ∀ j, j < k → ¬ s.getD j 0 = 47) :
    parseP s = if ¬ (s.length - k ≤ 9) ∧ (s.drop k).take 9 = [47, 99, 104, 97, 110, 110, 101, 108, 45] ∧ (numP (s.drop (k + 9))).2 = 0 ∧ mayP (s.take k) (numP (s.drop (k + 9))).1 = true then (s.take k, (numP (s.drop (k + 9))).1, 0) else ([], 0, 3) := by
  unfold parseP
  rw [cut_at hk h hn]
  simp only [endP, endOk, endN]
  simp only [front_at hk h]
  by_cases hp : Lib.hasPrefix (s.drop (k + 1)) chn = true
  · have e : Lib.trimPrefix (s.drop (k + 1)) chn = s.drop (k + 9) := by
      unfold Lib.trimPrefix
      rw [if_pos hp, List.drop_drop]
      rfl
    simp only [e, hp]
    by_cases h9 : s.length - k ≤ 9
    · have : s.drop (k + 9) = [] := List.drop_eq_nil_of_le (by omega)
      rw [this]
      simp [h9, numP]
    · simp [h9]
  · simp [hp]
end Go.Proofs.YtlefegihikpilaaDoor

/- strings.Builder, strings.Join -/
namespace Go.Proofs.YtlefegihikpilaaDoor
set_option linter.all false
open Go.RowKit Go.Shelf
set_option maxRecDepth 100000
variable {P : Program} {ρ : Ren}
/-! String, the world told whole -/
set_option maxHeartbeats 1000000 in
theorem xString_row (L : Lays.n169 P ρ) (X : Builder.Extra P ρ) (T : TypeId) (b g cap : Nat) (p : Value) (cur : Array Value) (l : List UInt8) (w : World) (h0 : l ≠ []) (hbk : w.heap[b]? = some (.cells #[p, .slice (some ⟨g, 0, none⟩) l.length cap] T (0, 0)))
    (hg : w.heap[g]? = some (.cells cur (ρ.t 5) (0, 0))) (hle : l.length ≤ cur.size) (hcap : l.length ≤ cap) (hcm : cap ≤ maxLen) (hcell : ∀ j x, l[j]? = some x → w.cell? ((⟨g, 0, none⟩ : Addr).add j) = some (.int .u8 x.toNat)) :
    Calls P (ρ.f 169) #[.pointer (some ⟨b, 0, none⟩)] w fun e w' => e = .returned (.string ⟨l.toArray⟩) ∧ w' = w.drew.freeze ⟨g, 0, none⟩ l.length := by
  have hl0 : l.length ≠ 0 := by simpa using h0
  have c1 : w.drew.cell? ⟨b, 1, none⟩ = some (.slice (some ⟨g, 0, none⟩) l.length cap) := by
    have : w.drew.heap[b]? = some (.cells #[p, .slice (some ⟨g, 0, none⟩) l.length cap] T (0, 0)) := hbk
    rw [Lib.cell_of_heap this]; rfl
  have hSD : (Builtin.unsafeSliceData_ #[(ρ.t 37)] (ρ.t 127) #[.slice (some ⟨g, 0, none⟩) l.length cap]).run P w.drew = .ok (.pointer (some ⟨g, 0, none⟩)) w.drew :=
    Lib.run_unsafeSliceData_row _ _ _ _ _ _ (by omega)
  have hUS : (Builtin.unsafeString_ #[(ρ.t 127), (ρ.t 3)] (ρ.t 9) #[.pointer (some ⟨g, 0, none⟩), .int .i64 l.length]).run P w.drew = .ok (.string ⟨l.toArray⟩) (w.drew.freeze ⟨g, 0, none⟩ l.length) := by
    refine Lib.run_unsafeString_row w.drew (ρ.t 127) (ρ.t 3) (ρ.t 9) (ρ.t 5) L.t127 X.cellsByte g cur.size (by have hg' : w.drew.heap[g]? = some (.cells cur (ρ.t 5) (0, 0)) := hg; simp [World.shape?, hg']) l h0 hle (by unfold maxLen at hcm; omega) hcell
  clear hcell hle hcap hcm hg
  have mixed := L.mixed
  have t72 := L.t72; have a72 := L.a72; have z72 := L.z72; have v72 := L.v72; have u72 := run_underlying L.t72
  have t70 := L.t70; have a70 := L.a70; have z70 := L.z70; have v70 := L.v70; have u70 := run_underlying L.t70
  have t37 := L.t37; have a37 := L.a37; have z37 := L.z37; have v37 := L.v37; have u37 := run_underlying L.t37
  have t127 := L.t127; have a127 := L.a127; have z127 := L.z127; have v127 := L.v127; have u127 := run_underlying L.t127
  have t3 := L.t3; have a3 := L.a3; have z3 := L.z3; have v3 := L.v3; have u3 := run_underlying L.t3
  have t9 := L.t9; have a9 := L.a9; have z9 := L.z9; have v9 := L.v9; have u9 := run_underlying L.t9
  have t5 := X.t5; have a5 := X.a5; have z5 := X.z5; have v5 := X.v5; have u5 := run_underlying X.t5
  go_enter L.f169, Body.n169_ntmps ρ
  go_wp2
  go_region_o
  all_goals (go_wp2; go_ret; exact ⟨rfl, rfl⟩)
set_option maxHeartbeats 2000000 in
theorem xString_nil (L : Lays.n169 P ρ) (X : Builder.Extra P ρ) (T : TypeId) (b : Nat) (p : Value) (w : World) (hbk : w.heap[b]? = some (.cells #[p, .slice none 0 0] T (0, 0))) :
    Calls P (ρ.f 169) #[.pointer (some ⟨b, 0, none⟩)] w fun e w' => e = .returned (.string ⟨#[]⟩) ∧ w' = w.drew := by
  have hUS := Any.unsafeString_none L X
  have c1 : w.drew.cell? ⟨b, 1, none⟩ = some (.slice none 0 0) := by
    have : w.drew.heap[b]? = some (.cells #[p, .slice none 0 0] T (0, 0)) := hbk
    rw [Lib.cell_of_heap this]; rfl
  have hSD : (Builtin.unsafeSliceData_ #[(ρ.t 37)] (ρ.t 127) #[.slice none 0 0]).run P w.drew = .ok (.pointer none) w.drew := rfl
  have mixed := L.mixed
  have t72 := L.t72; have a72 := L.a72; have z72 := L.z72; have v72 := L.v72; have u72 := run_underlying L.t72
  have t70 := L.t70; have a70 := L.a70; have z70 := L.z70; have v70 := L.v70; have u70 := run_underlying L.t70
  have t37 := L.t37; have a37 := L.a37; have z37 := L.z37; have v37 := L.v37; have u37 := run_underlying L.t37
  have t127 := L.t127; have a127 := L.a127; have z127 := L.z127; have v127 := L.v127; have u127 := run_underlying L.t127
  have t3 := L.t3; have a3 := L.a3; have z3 := L.z3; have v3 := L.v3; have u3 := run_underlying L.t3
  have t9 := L.t9; have a9 := L.a9; have z9 := L.z9; have v9 := L.v9; have u9 := run_underlying L.t9
  have t5 := X.t5; have a5 := X.a5; have z5 := X.z5; have v5 := X.v5; have u5 := run_underlying X.t5
  go_enter L.f169, Body.n169_ntmps ρ
  go_wp2
  go_region_o
  all_goals (go_wp2; go_ret; exact ⟨rfl, rfl⟩)
set_option maxHeartbeats 2000000 in
theorem xString_room (L : Lays.n169 P ρ) (X : Builder.Extra P ρ) (T : TypeId) (b g cap : Nat) (p : Value) (w : World) (hc0 : cap ≠ 0) (hbk : w.heap[b]? = some (.cells #[p, .slice (some ⟨g, 0, none⟩) 0 cap] T (0, 0))) :
    Calls P (ρ.f 169) #[.pointer (some ⟨b, 0, none⟩)] w fun e w' => e = .returned (.string ⟨#[]⟩) ∧ w' = w.drew := by
  have hUS := Any.unsafeString_none L X
  have c1 : w.drew.cell? ⟨b, 1, none⟩ = some (.slice (some ⟨g, 0, none⟩) 0 cap) := by
    have : w.drew.heap[b]? = some (.cells #[p, .slice (some ⟨g, 0, none⟩) 0 cap] T (0, 0)) := hbk
    rw [Lib.cell_of_heap this]; rfl
  have hSD : (Builtin.unsafeSliceData_ #[(ρ.t 37)] (ρ.t 127) #[.slice (some ⟨g, 0, none⟩) 0 cap]).run P w.drew = .ok (.pointer (some ⟨g, 0, none⟩)) w.drew :=
    Lib.run_unsafeSliceData_row _ _ _ _ _ _ hc0
  clear hc0
  have mixed := L.mixed
  have t72 := L.t72; have a72 := L.a72; have z72 := L.z72; have v72 := L.v72; have u72 := run_underlying L.t72
  have t70 := L.t70; have a70 := L.a70; have z70 := L.z70; have v70 := L.v70; have u70 := run_underlying L.t70
  have t37 := L.t37; have a37 := L.a37; have z37 := L.z37; have v37 := L.v37; have u37 := run_underlying L.t37
  have t127 := L.t127; have a127 := L.a127; have z127 := L.z127; have v127 := L.v127; have u127 := run_underlying L.t127
  have t3 := L.t3; have a3 := L.a3; have z3 := L.z3; have v3 := L.v3; have u3 := run_underlying L.t3
  have t9 := L.t9; have a9 := L.a9; have z9 := L.z9; have v9 := L.v9; have u9 := run_underlying L.t9
  have t5 := X.t5; have a5 := X.a5; have z5 := X.z5; have v5 := X.v5; have u5 := run_underlying X.t5
  go_enter L.f169, Body.n169_ntmps ρ
  go_wp2
  go_region_o
  all_goals (go_wp2; go_ret; exact ⟨rfl, rfl⟩)
set_option maxHeartbeats 2000000 in
theorem xString_noroom (L : Lays.n169 P ρ) (X : Builder.Extra P ρ) (T : TypeId) (b g : Nat) (p : Value) (cur : Array Value) (w : World) (hbk : w.heap[b]? = some (.cells #[p, .slice (some ⟨g, 0, none⟩) 0 0] T (0, 0))) (hg : w.heap[g]? = some (.cells cur (ρ.t 5) (0, 0))) :
    Calls P (ρ.f 169) #[.pointer (some ⟨b, 0, none⟩)] w fun e w' => e = .returned (.string ⟨#[]⟩) ∧ w' = w.drew.alloc (.view ⟨g, 0, none⟩ (ρ.t 5)) := by
  have hUS := Any.unsafeString_none L X
  have hlt : b < w.heap.size := by
    rcases Nat.lt_or_ge b w.heap.size with h' | h'
    · exact h'
    · simp [Array.getElem?_eq_none h'] at hbk
  have c1 : w.drew.cell? ⟨b, 1, none⟩ = some (.slice (some ⟨g, 0, none⟩) 0 0) := by
    have : w.drew.heap[b]? = some (.cells #[p, .slice (some ⟨g, 0, none⟩) 0 0] T (0, 0)) := hbk
    rw [Lib.cell_of_heap this]; rfl
  have hSD : (Builtin.unsafeSliceData_ #[(ρ.t 37)] (ρ.t 127) #[.slice (some ⟨g, 0, none⟩) 0 0]).run P w.drew = .ok (.pointer (some ⟨w.drew.heap.size, 0, none⟩)) (w.drew.alloc (.view ⟨g, 0, none⟩ (ρ.t 5))) :=
    Lib.run_unsafeSliceData_zero w.drew _ _ (ρ.t 5) L.t127 ⟨g, 0, none⟩ 0 ((ρ.t 5), cur.size) (by have hg' : w.drew.heap[g]? = some (.cells cur (ρ.t 5) (0, 0)) := hg; simp [World.shape?, hg'])
  have c2 : (w.drew.alloc (.view ⟨g, 0, none⟩ (ρ.t 5))).cell? ⟨b, 1, none⟩ = some (.slice (some ⟨g, 0, none⟩) 0 0) := by
    have : (w.drew.alloc (.view ⟨g, 0, none⟩ (ρ.t 5))).heap[b]? = _ := (Lib.alloc_old w.drew _ b hlt).trans hbk
    rw [Lib.cell_of_heap this]; rfl
  have c3 : (w.alloc (.view ⟨g, 0, none⟩ (ρ.t 5))).drew.cell? ⟨b, 1, none⟩ = some (.slice (some ⟨g, 0, none⟩) 0 0) := c2
  have c0 : w.cell? ⟨b, 1, none⟩ = some (.slice (some ⟨g, 0, none⟩) 0 0) := c1
  have mixed := L.mixed
  have t72 := L.t72; have a72 := L.a72; have z72 := L.z72; have v72 := L.v72; have u72 := run_underlying L.t72
  have t70 := L.t70; have a70 := L.a70; have z70 := L.z70; have v70 := L.v70; have u70 := run_underlying L.t70
  have t37 := L.t37; have a37 := L.a37; have z37 := L.z37; have v37 := L.v37; have u37 := run_underlying L.t37
  have t127 := L.t127; have a127 := L.a127; have z127 := L.z127; have v127 := L.v127; have u127 := run_underlying L.t127
  have t3 := L.t3; have a3 := L.a3; have z3 := L.z3; have v3 := L.v3; have u3 := run_underlying L.t3
  have t9 := L.t9; have a9 := L.a9; have z9 := L.z9; have v9 := L.v9; have u9 := run_underlying L.t9
  have t5 := X.t5; have a5 := X.a5; have z5 := X.z5; have v5 := X.v5; have u5 := run_underlying X.t5
  go_enter L.f169, Body.n169_ntmps ρ
  go_wp2
  go_region_o
  all_goals (go_wp2; go_ret; exact ⟨rfl, rfl⟩)
end Go.Proofs.YtlefegihikpilaaDoor

/- strings.Builder: copyCheck laid at this program -/
namespace Go.Proofs.YtlefegihikpilaaDoor
set_option linter.all false
open Go.RowKit Go.Shelf
set_option maxRecDepth 100000
def ren240 : Go.Shelf.Ren := ⟨fun | 240 => 49 | 276 => 71 | n => n, fun | 0 => 0 | 4 => 4 | 9 => 9 | 20 => 20 | 37 => 86 | 70 => 85 | 72 => 88 | 164 => 129 | n => n, fun | n => n⟩
theorem lays240 : Go.Proofs.Lays.n240 Tryd.prog ren240 := {
  mixed := by kernel_rfl
  f240 := Tryd.func49.trans (congrArg some (by kernel_rfl))
  f276 := Tryd.func71.trans (congrArg some (by kernel_rfl))
  t0 := Tryd.underlying0
  a0 := Tryd.isAgg0
  z0 := Tryd.sizeOf0
  v0 := Tryd.zeroValue0
  t4 := Tryd.underlying4
  a4 := Tryd.isAgg4
  z4 := Tryd.sizeOf4
  v4 := Tryd.zeroValue4
  t9 := Tryd.underlying9
  a9 := Tryd.isAgg9
  z9 := Tryd.sizeOf9
  v9 := Tryd.zeroValue9
  t20 := Tryd.underlying20
  a20 := Tryd.isAgg20
  z20 := Tryd.sizeOf20
  v20 := Tryd.zeroValue20
  t70 := Tryd.underlying85
  a70 := Tryd.isAgg85
  z70 := Tryd.sizeOf85
  v70 := Tryd.zeroValue85
  t72 := Tryd.underlying88
  a72 := Tryd.isAgg88
  z72 := Tryd.sizeOf88
  v72 := Tryd.zeroValue88
  t164 := Tryd.underlying129
  a164 := Tryd.isAgg129
  z164 := Tryd.sizeOf129
  v164 := Tryd.zeroValue129 }
theorem x72 : Builder.X72 Tryd.prog ren240 := {
  sizeBuilder := by kernel_rfl
  liesBuilder := by kernel_rfl }
end Go.Proofs.YtlefegihikpilaaDoor

/- strings.Builder: its contracts over objects -/
namespace Go.Proofs.YtlefegihikpilaaDoor
set_option linter.all false
open Go.RowKit Go.Shelf
set_option maxRecDepth 100000
section
variable {W0 : World} {U0 : Nat → Nat → Prop} {M : Nat → Prop} {W : World} {U : Nat → Nat → Prop}
/-- A plain result is put down. -/
theorem Inv.plainRes {o : Nat → Option (List AV)} {r : AV} {v : Value} (h : Inv 0 W0 U0 M { tmps := #[], defers := [] } W U ⟨fun _ => none, o⟩) (hv : VR W U v r) (hr : ∀ e sz els, r ≠ .sl (some e) sz els) :
    Inv 1 W0 U0 M { tmps := #[v], defers := [] } W U ⟨upd (fun _ => none) 0 (some r), o⟩ := by
  have hat : ∀ {ℓ : Loc} {e sz : Nat} {els : List (List AV)}, St.at ⟨upd (fun _ => none) 0 (some r), o⟩ ℓ = some (.sl (some e) sz els) → St.at ⟨fun _ => none, o⟩ ℓ = some (.sl (some e) sz els) ∧ cat { tmps := #[v], defers := [] } W ℓ = cat { tmps := #[], defers := [] } W ℓ := by
    intro ℓ e sz els hl
    cases ℓ with
    | t i =>
      simp only [St.at, upd] at hl
      split at hl
      · simp only [Option.some.injEq] at hl; exact absurd hl (hr _ _ _)
      · cases hl
    | o b j => exact ⟨hl, rfl⟩
  refine ⟨rfl, rfl, h.fr, fun i x hx => ?_, h.ob, fun ℓ x hx => ?_, fun ℓ ℓ' e sz els e' sz' els' hne h1 h2 => ?_, fun ℓ e sz els h1 => ?_⟩
  · simp only [upd] at hx
    split at hx
    · rename_i hi; subst hi; cases hx; exact hv
    · cases hx
  · unfold Own1
    split
    · rename_i e sz els
      obtain ⟨g1, g2⟩ := hat hx
      rw [g2]
      have := h.ow ℓ _ g1
      simpa only [Own1] using this
    · trivial
  · obtain ⟨g1, g2⟩ := hat h1
    obtain ⟨g3, g4⟩ := hat h2
    rw [g2, g4]
    exact h.ap ℓ ℓ' _ _ _ _ _ _ hne g1 g3
  · obtain ⟨g1, g2⟩ := hat h1
    rw [g2]
    exact h.no ℓ _ _ _ g1
end
theorem one_arg {W : World} {U : Nat → Nat → Prop} {vs : List Value} {b : Nat} (hl : vs.length = [AV.ptr b 0].length) (hv : ∀ (i : Nat) (v : Value) (c : AV), vs[i]? = some v → [AV.ptr b 0][i]? = some c → VR W U v c) : vs = [.pointer (some ⟨b, 0, none⟩)] := by
  match vs, hl with
  | [v], _ =>
    have := hv 0 v _ rfl rfl
    cases this
    rfl
theorem lk1 (b : Nat) (cs : List AV) : lk [(b, cs)] b = some cs := by simp [lk]
theorem upd1 (b : Nat) (cs cs' : List AV) : upd (lk [(b, cs)]) b (some cs') = lk [(b, cs')] := by
  rw [upd_lk]; simp [pt]
theorem domB {b : Nat} {cs cs' : List AV} : ∀ b' c, lk [(b, cs)] b' = some c → ∃ c', lk [(b, cs')] b' = some c' := by
  intro b' c h
  simp only [lk] at h ⊢
  split at h
  · rename_i e; simp [e]
  · cases h
theorem t_copy1 (b : Nat) (v : AV) : CT Tryd.prog 49 [.ptr b 0] (lk [(b, [.ptr b 0, v])]) (fun r o => r = .tup [] ∧ o = lk [(b, [.ptr b 0, v])]) := by
  intro W U vs hl hv hI
  obtain rfl := one_arg hl hv
  obtain ⟨cs, ty, q1, q2, q3, q4, q5⟩ := hI.obs (j := 0) (lk1 b _) rfl (by simp) (by simp)
  have h0 : W.cell? ⟨b, 0, none⟩ = some (.pointer (some ⟨b, 0, none⟩)) := by
    have hv0 := (q3 0 _ rfl).1
    have hs : 0 < cs.size := by simp at q2; omega
    rw [cell_of_row W b 0 cs ty.1 (0, 0) q1]
    generalize hx : cs.getD 0 undef = x at hv0
    cases hv0
    simpa [hs] using hx
  refine (Any.Builder_copyCheck_used lays240 x72 b W h0).mono ?_
  rintro e W' ⟨rfl, rfl⟩
  exact ⟨.tuple #[], U, .tup [], _, rfl, ⟨rfl, rfl⟩, domB, hI.plainRes (.tup [] [] rfl (by simp)) (by simp)⟩
theorem t_copy0 (b : Nat) (v : AV) : CT Tryd.prog 49 [.ptr b 0] (lk [(b, [.nilT 88, v])]) (fun r o => r = .tup [] ∧ o = lk [(b, [.ptr b 0, v])]) := by
  intro W U vs hl hv hI
  obtain rfl := one_arg hl hv
  obtain ⟨cs, ty, q1, q2, q3, q4, q5⟩ := hI.obs (j := 0) (lk1 b _) rfl (by simp) (by simp)
  have hty : ty.1 = 88 := ty.2 _ rfl
  have hs : cs.size = 2 := by simpa using q2
  have h0 : W.cell? ⟨b, 0, none⟩ = some (.pointer none) := by
    have hv0 := (q3 0 _ rfl).1
    rw [cell_of_row W b 0 cs ty.1 (0, 0) q1]
    generalize hx : cs.getD 0 undef = x at hv0
    cases hv0
    simpa [hs] using hx
  have hsh : W.shape? b = some (88, 2) := by
    simp [World.shape?, q1, hs, hty]
  have hfz : W.frozen? ⟨b, 0, none⟩ = false := by
    simp [World.frozen?, q1]
  refine (Any.Builder_copyCheck_fresh lays240 x72 b W h0 hsh hfz).mono ?_
  rintro e W' ⟨rfl, rfl⟩
  have hrow : W.setCell ⟨b, 0, none⟩ (.pointer (some ⟨b, 0, none⟩)) = W.setRow b (cs.setIfInBounds 0 (.pointer (some ⟨b, 0, none⟩))) := setCell_eq_setRow W b 0 cs ty.1 (0, 0) _ q1
  rw [hrow]
  have h2 := hI.seto (cs' := [.ptr b 0, v]) (vs' := cs.setIfInBounds 0 (.pointer (some ⟨b, 0, none⟩))) (lk1 b _) q1 rfl (by simp) (fun j c hj => ?_) (fun u hu => by cases hu) (fun j e sz els hj => ?_)
  · refine ⟨.tuple #[], U, .tup [], _, rfl, ⟨rfl, rfl⟩, domB, ?_⟩
    have h3 : Inv 0 W U (ownedBy W (lk [(b, [AV.nilT 88, v])])) { tmps := #[], defers := [] } (W.setRow b (cs.setIfInBounds 0 (.pointer (some ⟨b, 0, none⟩)))) U ⟨fun _ => none, lk [(b, [.ptr b 0, v])]⟩ := by
      have e := upd1 b [AV.nilT 88, v] [.ptr b 0, v]
      rw [← e]; exact h2
    exact h3.plainRes (.tup [] [] rfl (by simp)) (by simp)
  · match j, hj with
    | 0, hj =>
      cases hj
      have : (cs.setIfInBounds 0 (Value.pointer (some ⟨b, 0, none⟩))).getD 0 undef = .pointer (some ⟨b, 0, none⟩) := by simp [hs]
      rw [this]
      exact ⟨.ptr b 0 ⟨_, _, _, q1⟩, rfl⟩
    | 1, hj =>
      cases hj
      have : (cs.setIfInBounds 0 (Value.pointer (some ⟨b, 0, none⟩))).getD 1 undef = cs.getD 1 undef := by simp [hs]
      rw [this]
      exact q3 1 _ rfl
  · match j, hj with
    | 0, hj => cases hj
    | 1, hj =>
      refine ⟨hj, ?_⟩
      simp [hs]
/-- String: the text; the bytes are the builder's no longer. -/
theorem t_String (b : Nat) (l : List UInt8) (p : AV) (hp : headT [p] = none ∨ True) : CT Tryd.prog 30 [.ptr b 0] (lk [(b, [p, .sl (some 5) 1 (l.map byteEl)])]) (fun r o => r = .str l ∧ o = lk [(b, [p, .sl none 1 (l.map byteEl)])]) := by
  intro W U vs hl hv hI
  obtain rfl := one_arg hl hv
  obtain ⟨cs, ty, q1, q2, q3, q4, q5⟩ := hI.obs (j := 1) (lk1 b _) rfl (by simp) (by simp)
  have hs : cs.size = 2 := by simpa using q2
  have hat : St.at ⟨fun _ => none, lk [(b, [p, AV.sl (some 5) 1 (l.map byteEl)])]⟩ (.o b 1) = some (.sl (some 5) 1 (l.map byteEl)) := by simp [St.at, lk]
  have hcat : cat { tmps := #[], defers := [] } W (.o b 1) = cs.getD 1 undef := by simp only [cat, q1]
  have hown := hI.own hat
  rw [hcat] at hown
  have hvr := (q3 1 _ rfl).1
  have hI1 := hI.strip (lk1 b _) (off := 1) rfl
  have e1 : splice [p, AV.sl (some 5) 1 (l.map byteEl)] 1 [.sl none 1 (l.map byteEl)] = [p, .sl none 1 (l.map byteEl)] := rfl
  rw [e1] at hI1
  have hI2 : Inv 0 W U (ownedBy W (lk [(b, [p, AV.sl (some 5) 1 (l.map byteEl)])])) { tmps := #[], defers := [] } W U ⟨fun _ => none, lk [(b, [p, .sl none 1 (l.map byteEl)])]⟩ := by
    have e := upd1 b [p, AV.sl (some 5) 1 (l.map byteEl)] [p, .sl none 1 (l.map byteEl)]
    rw [← e]; exact hI1
  have hbk : ∀ v, cs.getD 1 undef = v → W.heap[b]? = some (.cells #[cs.getD 0 undef, v] ty.1 (0, 0)) := by
    rintro v rfl
    rw [q1]
    congr 2
    apply Array.ext
    · simp [hs]
    · intro i h1 h2
      match i, h1 with
      | 0, _ => simp [hs]
      | 1, _ => simp [hs]
      | i + 2, h1 => omega
  have fin : ∀ (e : Ending) (W' : World) (U' : Nat → Nat → Prop), e = .returned (.string ⟨l.toArray⟩) → Inv 0 W U (ownedBy W (lk [(b, [p, AV.sl (some 5) 1 (l.map byteEl)])])) { tmps := #[], defers := [] } W' U' ⟨fun _ => none, lk [(b, [p, .sl none 1 (l.map byteEl)])]⟩ →
      ∃ v U' r o', e = .returned v ∧ (r = .str l ∧ o' = lk [(b, [p, .sl none 1 (l.map byteEl)])]) ∧ (∀ b' c, lk [(b, [p, AV.sl (some 5) 1 (l.map byteEl)])] b' = some c → ∃ c', o' b' = some c') ∧
        Inv 1 W U (ownedBy W (lk [(b, [p, AV.sl (some 5) 1 (l.map byteEl)])])) { tmps := #[v], defers := [] } W' U' ⟨upd (fun _ => none) 0 (some r), o'⟩ := fun e W' U' he h => ⟨_, U', _, _, he, ⟨rfl, rfl⟩, domB, h.plainRes (.str l) (by simp)⟩
  rcases hown with ⟨e0, hn⟩ | ⟨g, cap, cur, e0, hB, hg, hcap, hcm, hcs, hu1, hu2⟩
  · have hl0 : l = [] := by simpa using hn
    subst hl0
    refine (xString_nil Tryd.lays169 Tryd.Builder_Extra_169 ty.1 b _ W (hbk _ e0)).mono ?_
    rintro e W' ⟨rfl, rfl⟩
    exact fin _ _ U rfl (hI2.ext (Ext.refl W U).drew)
  · simp only [List.length_map, Nat.mul_one] at e0 hcap hcs hu1 hu2
    by_cases hl0 : l = []
    · subst hl0
      by_cases hc0 : cap = 0
      · subst hc0
        refine (xString_noroom Tryd.lays169 Tryd.Builder_Extra_169 ty.1 b g _ cur W (hbk _ e0) hg).mono ?_
        rintro e W' ⟨rfl, rfl⟩
        exact fin _ _ _ rfl (hI2.ext ((Ext.refl W U).drew.trans (Ext.alloc W.drew U _ (fun _ => False))))
      · refine (xString_room Tryd.lays169 Tryd.Builder_Extra_169 ty.1 b g cap _ W hc0 (hbk _ e0)).mono ?_
        rintro e W' ⟨rfl, rfl⟩
        exact fin _ _ U rfl (hI2.ext (Ext.refl W U).drew)
    · have hcell : ∀ j x, l[j]? = some x → W.cell? ((⟨g, 0, none⟩ : Addr).add j) = some (.int .u8 x.toNat) := by
        intro j x hx
        have hj : j < l.length := (List.getElem?_eq_some_iff.1 hx).1
        rw [e0] at hvr
        generalize hval : Value.slice (some ⟨g, 0, none⟩) l.length cap = val at hvr
        cases hvr with
        | sl A cap' _ _ b' o' _ f h1 h2 hA h3 hc hvv =>
          simp only [Value.slice.injEq] at hval
          obtain ⟨hA', _, _⟩ := hval
          have := hA (by simp; omega)
          rw [← hA'] at this
          simp only [Option.some.injEq, Addr.mk.injEq] at this
          obtain ⟨rfl, rfl, _⟩ := this
          have hc1 := (hc j 0 (by simpa using hj) (by omega)).1
          have hv1 := hvv j (byteEl x) 0 (.int .u8 x.toNat) (by simp [hx]) rfl
          rw [add_mk]
          have e2 : 0 + j * 1 + 0 = 0 + j := by omega
          rw [e2] at hc1
          rw [hc1]
          generalize f j 0 = y at hv1
          cases hv1
          rfl
      refine (xString_row Tryd.lays169 Tryd.Builder_Extra_169 ty.1 b g cap _ cur l W hl0 (hbk _ e0) hg (by omega) hcap hcm hcell).mono ?_
      rintro e W' ⟨rfl, rfl⟩
      refine fin _ _ U rfl ?_
      have hno : St.o ⟨fun _ => none, lk [(b, [p, AV.sl none 1 (l.map byteEl)])]⟩ g = none := by
        have := hI.no _ _ _ _ hat g (by rw [hcat, e0]; rfl)
        simp only [lk] at this ⊢
        split at this
        · cases this
        · rename_i hne; simp [hne]
      have hgb : W.drew.heap[g]? = some (.cells cur 5 (0, 0)) := hg
      have hfz : ∀ k, k ≠ g → (W.drew.freeze ⟨g, 0, none⟩ l.length).heap[k]? = W.heap[k]? := by
        intro k hk
        unfold World.freeze
        split
        · rfl
        · simp only [Array.getElem?_modify]
          rw [if_neg (Ne.symm hk)]; rfl
      refine hI2.turn (g := g) hB hno (fun ℓ e sz els hl' => ?_) ?_ ?_ ?_ ?_ ?_ (fun k _ hk => hfz k hk) (fun _ _ _ _ => Iff.rfl)
      · cases ℓ with
        | t i => cases hl'
        | o b' j =>
          simp only [St.at, lk] at hl'
          split at hl'
          · rename_i hbb
            subst hbb
            match j, hl' with
            | 0, hl' =>
              have hp0 : St.at ⟨fun _ => none, lk [(b', [p, AV.sl (some 5) 1 (l.map byteEl)])]⟩ (.o b' 0) = some (.sl (some e) sz els) := by simpa [St.at, lk] using hl'
              exact fun hh => hI.ap (.o b' 0) (.o b' 1) _ _ _ _ _ _ (by simp) hp0 hat g hh (by rw [hcat, e0]; rfl)
            | 1, hl' => simp at hl'
            | j + 2, hl' => simp at hl'
          · simp at hl'
      · refine ⟨fun b' o' x hx hu => ?_, fun b' hb' => ?_⟩
        · refine ⟨?_, hu⟩
          rw [← hx]
          by_cases hk : b' = g
          · subst hk
            unfold World.freeze
            split
            · rfl
            · simp only [World.cell?, Array.getElem?_modify, if_true, hgb, hg, Option.map_some]
          · exact World.cell?_of_block (w := W) (a := ⟨b', o', none⟩) (hfz b' hk)
        · obtain ⟨c', t', p', hb'⟩ := hb'
          by_cases hk : b' = g
          · subst hk
            unfold World.freeze
            split
            · exact ⟨_, _, _, hgb⟩
            · simp only [CellsAt, Array.getElem?_modify, if_true, hgb, Option.map_some]
              exact ⟨_, _, _, rfl⟩
          · exact ⟨_, _, _, (hfz b' hk).trans hb'⟩
      · unfold World.freeze; split <;> rfl
      · unfold World.freeze; split <;> rfl
      · unfold World.freeze; split <;> rfl
      · unfold World.freeze
        split
        · exact Nat.le_refl _
        · simp only [Array.size_modify]; exact Nat.le_refl _
end Go.Proofs.YtlefegihikpilaaDoor

/- plain laws: acts and their lines -/
namespace Go.Proofs.YtlefegihikpilaaDoor
set_option linter.all false
open Go
set_option maxRecDepth 100000
/-! pieces between single signs -/
def spx (z : UInt8) : List UInt8 → List (List UInt8)
  | [] => [[]]
  | c :: t => if c = z then [] :: spx z t else match spx z t with | [] => [[c]] | x :: xs => (c :: x) :: xs
theorem spx_none {z : UInt8} : ∀ {a : List UInt8}, z ∉ a → spx z a = [a]
  | [], _ => rfl
  | c :: t, h => by
    simp only [List.mem_cons, not_or] at h
    rw [spx, if_neg (fun e => h.1 e.symm), spx_none h.2]
theorem spx_cut {z : UInt8} : ∀ {a x : List UInt8}, z ∉ a → spx z (a ++ z :: x) = a :: spx z x
  | [], x, _ => by simp [spx]
  | c :: t, x, h => by
    simp only [List.mem_cons, not_or] at h
    rw [List.cons_append, spx, if_neg (fun e => h.1 e.symm), spx_cut h.2]
theorem spx_ne (z : UInt8) (s : List UInt8) : spx z s ≠ [] := by
  cases s with
  | nil => simp [spx]
  | cons c t =>
    rw [spx]
    split
    · simp
    · split <;> simp
theorem spx_join {z : UInt8} : ∀ {l : List (List UInt8)}, l ≠ [] → (∀ a ∈ l, z ∉ a) → spx z (Lib.join l [z]) = l
  | [], h, _ => absurd rfl h
  | [a], _, h => by rw [Lib.join_one, spx_none (h a (by simp))]
  | a :: b :: r, _, h => by
    have e : Lib.join (a :: b :: r) [z] = a ++ z :: Lib.join (b :: r) [z] := by
      rw [Lib.join_cons, Lib.join_cons]
      simp [Lib.joinTail]
    rw [e, spx_cut (h a (by simp)), spx_join (by simp) (fun x hx => h x (by simp [hx]))]
theorem join_no {z : UInt8} {y : UInt8} (hz : y ≠ z) : ∀ {l : List (List UInt8)}, (∀ a ∈ l, y ∉ a) → y ∉ Lib.join l [z]
  | [], _ => by simp [Lib.join_nil]
  | [a], h => by rw [Lib.join_one]; exact h a (by simp)
  | a :: b :: r, h => by
    have e : Lib.join (a :: b :: r) [z] = a ++ z :: Lib.join (b :: r) [z] := by
      rw [Lib.join_cons, Lib.join_cons]
      simp [Lib.joinTail]
    rw [e]
    simp only [List.mem_append, List.mem_cons, not_or]
    exact ⟨h a (by simp), hz, join_no hz (fun x hx => h x (by simp [hx]))⟩
/-! digits to sixteen -/
def hexd (n : Nat) : UInt8 := if n < 10 then UInt8.ofNat (48 + n) else UInt8.ofNat (87 + n)
abbrev dgs : List UInt8 := [48, 49, 50, 51, 52, 53, 54, 55, 56, 57, 97, 98, 99, 100, 101, 102]
def hxb (c : UInt8) : List UInt8 := [hexd (c.toNat / 16), hexd (c.toNat % 16)]
def hexL (d : List UInt8) : List UInt8 := d.flatMap hxb
def hexA (d : List UInt8) : List UInt8 := if d = [] then [45] else hexL d
def hv (c : UInt8) : Int := Lib.indexByte dgs c
theorem hv_hexd : ∀ n : Fin 16, hv (hexd n.val) = n.val := by decide
theorem hexd_hv : ∀ n : Fin 256, 0 ≤ hv (UInt8.ofNat n.val) → hexd (hv (UInt8.ofNat n.val)).toNat = UInt8.ofNat n.val ∧ hv (UInt8.ofNat n.val) < 16 := by decide
theorem u8_ofNat_toNat (c : UInt8) : UInt8.ofNat c.toNat = c := by simp
theorem hexd_hv' {c : UInt8} (h : 0 ≤ hv c) : hexd (hv c).toNat = c ∧ hv c < 16 := by
  have := hexd_hv ⟨c.toNat, c.toNat_lt⟩
  simp only [u8_ofNat_toNat] at this
  exact this h
theorem hexd_rng : ∀ n : Fin 16, hexd n.val ≠ 32 ∧ hexd n.val ≠ 10 ∧ hexd n.val ≠ 45 := by decide
def unh : List UInt8 → Option (List UInt8)
  | a :: b :: r => if 0 ≤ hv a ∧ 0 ≤ hv b then (unh r).map (UInt8.ofNat (16 * (hv a).toNat + (hv b).toNat) :: ·) else none
  | [_] => some []
  | [] => some []
theorem unh_hexL : ∀ d : List UInt8, unh (hexL d) = some d
  | [] => rfl
  | c :: d => by
    have h1 : c.toNat / 16 < 16 := by have := c.toNat_lt; omega
    have h2 : c.toNat % 16 < 16 := by omega
    have e1 := hv_hexd ⟨_, h1⟩
    have e2 := hv_hexd ⟨_, h2⟩
    simp only at e1 e2
    have : hexL (c :: d) = hexd (c.toNat / 16) :: hexd (c.toNat % 16) :: hexL d := by simp [hexL, hxb]
    rw [this, unh, e1, e2, if_pos (by omega), unh_hexL d]
    simp only [Option.map_some, Int.toNat_natCast]
    rw [show 16 * (c.toNat / 16) + c.toNat % 16 = c.toNat by omega, u8_ofNat_toNat]
theorem hexL_len (d : List UInt8) : (hexL d).length = 2 * d.length := by
  induction d with
  | nil => rfl
  | cons c d ih => simp only [hexL, List.flatMap_cons, List.length_append] at ih ⊢; rw [ih]; simp [hxb]; omega
theorem hexL_no {y : UInt8} (hy : y = 32 ∨ y = 10 ∨ y = 45) (d : List UInt8) : y ∉ hexL d := by
  intro h
  simp only [hexL, List.mem_flatMap, hxb, List.mem_cons, List.not_mem_nil, or_false] at h
  obtain ⟨c, _, h⟩ := h
  have h1 := hexd_rng ⟨c.toNat / 16, by have := c.toNat_lt; omega⟩
  have h2 := hexd_rng ⟨c.toNat % 16, by omega⟩
  simp only at h1 h2
  rcases h with h | h <;> rcases hy with hy | hy | hy <;> subst hy <;> simp [← h] at h1 h2
def unhexA (s : List UInt8) : List UInt8 := if s = [45] then [] else (unh s).getD []
theorem unhex_hex (d : List UInt8) : unhexA (hexA d) = d := by
  unfold unhexA hexA
  by_cases h : d = []
  · simp [h]
  · rw [if_neg h, if_neg, unh_hexL]; rfl
    intro e
    have := congrArg List.length e
    rw [hexL_len] at this
    simp at this
    omega
theorem hexA_no {y : UInt8} (hy : y = 32 ∨ y = 10) (d : List UInt8) : y ∉ hexA d := by
  unfold hexA
  split
  · rcases hy with rfl | rfl <;> decide
  · exact hexL_no (by rcases hy with h | h <;> simp [h]) d
/-! acts -/
structure Act where
  k : Int
  s : Int
  c : Int
  n : Int
  m : Int
  d : List UInt8
  deriving DecidableEq, Inhabited
def Act.zero : Act := ⟨0, 0, 0, 0, 0, []⟩
abbrev Act.cs (x : Act) : List AV := [.int .i64 x.k, .int .i64 x.s, .int .i64 x.c, .int .i64 x.n, .int .i64 x.m, .str x.d]
def plainA (x : Act) : Act :=
  if x.k = 1 then x else ⟨x.k, if x.k = 5 ∨ x.k = 6 then 0 else x.s, 0, if x.k = 2 then x.n else 0, 0, if x.k = 4 then x.d else []⟩
def rngN (n : Int) : Prop := 0 ≤ n ∧ n ≤ 72057594037927935
instance (n : Int) : Decidable (rngN n) := by unfold rngN; exact inferInstance
def mayQ (x : Act) : Prop := 1 ≤ x.k ∧ x.k ≤ 6 ∧ x = plainA x ∧ 0 ≤ x.s ∧ x.s ≤ 1 ∧ rngN x.c ∧ rngN x.n ∧ rngN x.m
instance (x : Act) : Decidable (mayQ x) := by unfold mayQ; exact inferInstance
def mayA (x : Act) : Bool := decide (mayQ x)
def wd (k : Int) : List UInt8 :=
  if k = 1 then [115, 101, 110, 100] else if k = 2 then [116, 105, 99, 107] else if k = 3 then [99, 111, 109, 109, 105, 116] else if k = 4 then [114, 97, 119] else if k = 5 then [114, 111, 117, 110, 100] else [116, 117, 114, 110]
def sideW (s : Int) : List UInt8 := if s = 0 then [97] else [98]
def wordsA (x : Act) : List (List UInt8) :=
  wd x.k :: (if x.k = 5 ∨ x.k = 6 then [] else [sideW x.s]) ++
    (if x.k = 1 then [Lib.itoa x.c, Lib.itoa x.n, Lib.itoa x.m, hexA x.d] else if x.k = 2 then [Lib.itoa x.n] else if x.k = 4 then [hexA x.d] else [])
def bodyA (x : Act) : List UInt8 := Lib.join (wordsA x) [32]
def lineA (x : Act) : List UInt8 := bodyA x ++ [10]
def kindA (t : List UInt8) : Int :=
  if t = wd 1 then 1 else if t = wd 2 then 2 else if t = wd 3 then 3 else if t = wd 4 then 4 else if t = wd 5 then 5 else if t = wd 6 then 6 else 0
def readA (w : List (List UInt8)) : Act :=
  let k := kindA (w.getD 0 [])
  let last := w.getD (w.length - 1) []
  let full := k = 1 ∧ w.length = 6
  ⟨k, if 1 < w.length ∧ w.getD 1 [] = [98] then 1 else 0,
    if full then (numP (w.getD 2 [])).1 else 0,
    if full then (numP (w.getD 3 [])).1 else if k = 2 then (numP last).1 else 0,
    if full then (numP (w.getD 4 [])).1 else 0,
    if full ∨ k = 4 then unhexA last else []⟩
theorem kind_wd {k : Int} (h : 1 ≤ k ∧ k ≤ 6) : kindA (wd k) = k := by
  have : k = 1 ∨ k = 2 ∨ k = 3 ∨ k = 4 ∨ k = 5 ∨ k = 6 := by omega
  rcases this with rfl | rfl | rfl | rfl | rfl | rfl <;> decide
theorem num_it {n : Int} (h : rngN n) : (numP (Lib.itoa n)).1 = n := by
  rw [itoa_dig h.1, num_dig (by unfold rngN at h; omega)]
  have := h.1
  simp only; omega
theorem itoa_no' {y : UInt8} (hy : y = 32 ∨ y = 10) {n : Int} (h : 0 ≤ n) : y ∉ Lib.itoa n := by
  rw [itoa_dig h]
  intro hm
  have := dig_all _ _ hm
  unfold isDig at this
  rcases hy with rfl | rfl <;> revert this <;> decide
theorem wd_no {y : UInt8} (hy : y = 32 ∨ y = 10) (k : Int) : y ∉ wd k := by
  unfold wd
  rcases hy with rfl | rfl
  · split; decide; split; decide; split; decide; split; decide; split <;> decide
  · split; decide; split; decide; split; decide; split; decide; split <;> decide
theorem side_no {y : UInt8} (hy : y = 32 ∨ y = 10) (s : Int) : y ∉ sideW s := by
  unfold sideW
  rcases hy with rfl | rfl <;> split <;> decide
theorem words_no {x : Act} (h : mayQ x) {y : UInt8} (hy : y = 32 ∨ y = 10) : ∀ a ∈ wordsA x, y ∉ a := by
  obtain ⟨_, _, _, _, _, hc, hn, hm⟩ := h
  intro a ha
  simp only [wordsA, List.mem_cons, List.cons_append, List.mem_append] at ha
  rcases ha with rfl | ha | ha
  · exact wd_no hy _
  · split at ha
    · simp at ha
    · simp at ha; subst ha; exact side_no hy _
  · split at ha
    · simp only [List.mem_cons, List.not_mem_nil, or_false] at ha
      rcases ha with rfl | rfl | rfl | rfl
      · exact itoa_no' hy hc.1
      · exact itoa_no' hy hn.1
      · exact itoa_no' hy hm.1
      · exact hexA_no hy _
    · split at ha
      · simp at ha; subst ha; exact itoa_no' hy hn.1
      · split at ha
        · simp at ha; subst ha; exact hexA_no hy _
        · simp at ha
theorem words_ne (x : Act) : wordsA x ≠ [] := by simp [wordsA]
theorem body_sp {x : Act} (h : mayQ x) : spx 32 (bodyA x) = wordsA x := spx_join (words_ne x) (words_no h (.inl rfl))
theorem body_no {x : Act} (h : mayQ x) : 10 ∉ bodyA x := join_no (by decide) (words_no h (.inr rfl))
/-- A line's words tell the act. -/
theorem read_words {x : Act} (h : mayQ x) : readA (wordsA x) = x := by
  obtain ⟨h1, h2, h3, h4, h5, hc, hn, hm⟩ := h
  obtain ⟨k, s, c, n, m, d⟩ := x
  simp only at h1 h2 h3 h4 h5 hc hn hm
  have hs : s = 0 ∨ s = 1 := by omega
  have hk : k = 1 ∨ k = 2 ∨ k = 3 ∨ k = 4 ∨ k = 5 ∨ k = 6 := by omega
  have e1 : ∀ j : Int, 1 ≤ j → j ≤ 6 → kindA (wd j) = j := fun j a b => kind_wd ⟨a, b⟩
  rcases hk with rfl | rfl | rfl | rfl | rfl | rfl
  all_goals
    simp only [plainA, Act.mk.injEq] at h3
    rcases hs with rfl | rfl
    all_goals simp [readA, wordsA, e1, num_it, hc, hn, hm, unhex_hex, sideW] at h3 ⊢
    all_goals simp_all
/-- What a line without its end tells. -/
def lnA (t : List UInt8) : Option Act := if mayA (readA (spx 32 t)) = true ∧ bodyA (readA (spx 32 t)) = t then some (readA (spx 32 t)) else none
theorem lnA_some {t : List UInt8} {x : Act} : lnA t = some x ↔ mayQ x ∧ bodyA x = t := by
  unfold lnA mayA
  constructor
  · intro h
    split at h
    · rename_i g
      cases h
      exact ⟨of_decide_eq_true g.1, g.2⟩
    · cases h
  · rintro ⟨h, rfl⟩
    rw [body_sp h, read_words h, if_pos ⟨decide_eq_true h, rfl⟩]
theorem lnA_none {t : List UInt8} (h : ∀ x, mayQ x → bodyA x ≠ t) : lnA t = none := by
  cases e : lnA t with
  | none => rfl
  | some x => exact absurd (lnA_some.1 e).2 (h x (lnA_some.1 e).1)
/-- The text up to a sign that it holds. -/
def cutL : List UInt8 → Option (List UInt8 × List UInt8)
  | [] => none
  | c :: t => if c = 10 then some ([], t) else (cutL t).map fun p => (c :: p.1, p.2)
theorem cutL_some : ∀ {s t r : List UInt8}, cutL s = some (t, r) ↔ s = t ++ 10 :: r ∧ 10 ∉ t
  | [], t, r => by simp [cutL]
  | c :: s, t, r => by
    rw [cutL]
    by_cases h : c = 10
    · subst h
      rw [if_pos rfl]
      constructor
      · intro e; cases e; simp
      · rintro ⟨e, hn⟩
        cases t with
        | nil => simp at e; simp [e]
        | cons a t => simp at e hn; exact absurd e.1 hn.1
    · rw [if_neg h]
      constructor
      · intro e
        simp only [Option.map_eq_some_iff, Prod.exists] at e
        obtain ⟨a, b, h1, h2⟩ := e
        cases h2
        obtain ⟨g1, g2⟩ := cutL_some.1 h1
        exact ⟨by rw [g1]; rfl, by simp only [List.mem_cons, not_or]; exact ⟨fun e => h e.symm, g2⟩⟩
      · rintro ⟨e, hn⟩
        cases t with
        | nil => simp at e; exact absurd e.1 h
        | cons a t =>
          simp only [List.cons_append, List.cons.injEq] at e
          simp only [List.mem_cons, not_or] at hn
          rw [cutL_some.2 ⟨e.2, hn.2⟩, e.1]; rfl
theorem cutL_none : ∀ {s : List UInt8}, cutL s = none ↔ 10 ∉ s
  | [] => by simp [cutL]
  | c :: s => by
    rw [cutL]
    by_cases h : c = 10
    · subst h; simp
    · rw [if_neg h, Option.map_eq_none_iff, cutL_none, List.mem_cons, not_or]
      exact ⟨fun g => ⟨fun e => h e.symm, g⟩, fun g => g.2⟩
/-- A text's acts: those told so far, the text that is left. -/
def parseG : Nat → List Act → List UInt8 → List Act × Int × Int
  | 0, out, _ => (out, 0, 0)
  | f + 1, out, s =>
    if s = [] then (out, 0, 0) else if out.length = 400 then ([], 401, 22) else
      match cutL s with
      | none => ([], (out.length : Int) + 1, 3)
      | some (t, r) => match lnA t with
        | none => ([], (out.length : Int) + 1, 3)
        | some x => parseG f (out ++ [x]) r
def parseA (s : List UInt8) : List Act × Int × Int := parseG s.length [] s
theorem cutL_len {s t r : List UInt8} (h : cutL s = some (t, r)) : r.length < s.length := by
  rw [(cutL_some.1 h).1]; simp; omega
theorem parseG_more : ∀ (f g : Nat) (out : List Act) (s : List UInt8), s.length ≤ f → s.length ≤ g → parseG f out s = parseG g out s
  | 0, 0, _, _, _, _ => rfl
  | 0, g + 1, out, s, h, _ => by
    have : s = [] := List.length_eq_zero_iff.1 (by omega)
    subst this; simp [parseG]
  | f + 1, 0, out, s, _, h => by
    have : s = [] := List.length_eq_zero_iff.1 (by omega)
    subst this; simp [parseG]
  | f + 1, g + 1, out, s, h1, h2 => by
    rw [parseG, parseG]
    split
    · rfl
    · split
      · rfl
      · split
        · rfl
        · rename_i t r hc
          have := cutL_len hc
          split
          · rfl
          · exact parseG_more f g _ _ (by omega) (by omega)
/-- What is left to tell. -/
def restA (out : List Act) (s : List UInt8) : List Act × Int × Int := parseG s.length out s
theorem rest_nil (out : List Act) : restA out [] = (out, 0, 0) := rfl
theorem rest_full {out : List Act} {s : List UInt8} (h : s ≠ []) (ho : out.length = 400) : restA out s = ([], 401, 22) := by
  cases s with
  | nil => exact absurd rfl h
  | cons c s => simp [restA, parseG, ho]
theorem rest_bad {out : List Act} {s : List UInt8} (h : s ≠ []) (ho : out.length ≠ 400) (hb : ∀ t r, cutL s = some (t, r) → lnA t = none) : restA out s = ([], (out.length : Int) + 1, 3) := by
  cases s with
  | nil => exact absurd rfl h
  | cons c s =>
    rw [restA, List.length_cons, parseG, if_neg h, if_neg ho]
    cases hc : cutL (c :: s) with
    | none => rfl
    | some p =>
      obtain ⟨t, r⟩ := p
      simp only [hb t r hc]
theorem rest_step {out : List Act} {s t r : List UInt8} {x : Act} (ho : out.length ≠ 400) (hc : cutL s = some (t, r)) (hx : lnA t = some x) : restA out s = restA (out ++ [x]) r := by
  cases s with
  | nil => simp [cutL] at hc
  | cons c s =>
    have := cutL_len hc
    rw [restA, List.length_cons, parseG, if_neg (by simp), if_neg ho, hc]
    simp only [hx]
    exact parseG_more _ _ _ _ (by simp at this; omega) (Nat.le_refl _)
theorem parse_rest (s : List UInt8) : parseA s = restA [] s := rfl
/-! printing -/
def printA (l : List Act) : List UInt8 × Int := if 400 < l.length then ([], 22) else if l.all mayA then (l.flatMap lineA, 0) else ([], 1)
theorem rest_lines : ∀ (l out : List Act) (s : List UInt8), (∀ x ∈ l, mayQ x) → out.length + l.length ≤ 400 → restA out (l.flatMap lineA ++ s) = restA (out ++ l) s
  | [], out, s, _, _ => by simp
  | x :: l, out, s, h, hl => by
    have hx := h x (by simp)
    simp only [List.length_cons] at hl
    have hc : cutL ((x :: l).flatMap lineA ++ s) = some (bodyA x, l.flatMap lineA ++ s) := by
      rw [cutL_some]
      exact ⟨by simp [lineA], body_no hx⟩
    rw [rest_step (by omega) hc (lnA_some.2 ⟨hx, rfl⟩), rest_lines l _ s (fun y hy => h y (by simp [hy])) (by simp; omega)]
    simp
theorem parse_ok : ∀ (f : Nat) (out : List Act) (s : List UInt8) (y : List Act) (n : Int), parseG f out s = (y, n, 0) → s.length ≤ f → out.length ≤ 400 → n = 0 ∧ ∃ l, y = out ++ l ∧ (∀ x ∈ l, mayQ x) ∧ s = l.flatMap lineA ∧ y.length ≤ 400
  | 0, out, s, y, n, h, hs, ho => by
    have : s = [] := List.length_eq_zero_iff.1 (by omega)
    subst this
    simp only [parseG, Prod.mk.injEq] at h
    exact ⟨h.2.1.symm, [], by simp [h.1], by simp, by simp, by rw [← h.1]; exact ho⟩
  | f + 1, out, s, y, n, h, hs, ho => by
    rw [parseG] at h
    split at h
    · rename_i he
      simp only [Prod.mk.injEq] at h
      exact ⟨h.2.1.symm, [], by simp [h.1], by simp, by simp [he], by rw [← h.1]; exact ho⟩
    · split at h
      · simp at h
      · split at h
        · simp at h
        · rename_i t r hc
          split at h
          · simp at h
          · rename_i x hx
            have hlen := cutL_len hc
            obtain ⟨e1, l, e2, e3, e4, e5⟩ := parse_ok f _ r y n h (by omega) (by simp; omega)
            obtain ⟨g1, g2⟩ := lnA_some.1 hx
            refine ⟨e1, x :: l, by rw [e2]; simp, fun z hz => ?_, ?_, e5⟩
            · rcases List.mem_cons.1 hz with rfl | hz
              · exact g1
              · exact e3 z hz
            · rw [(cutL_some.1 hc).1, ← g2, e4]; simp [lineA]
theorem parse_bad (f : Nat) : ∀ (out : List Act) (s : List UInt8), (parseG f out s).2.2 ≠ 0 → (parseG f out s).1 = [] ∧ 1 ≤ (parseG f out s).2.1 := by
  induction f with
  | zero => intro out s h; simp [parseG] at h
  | succ f ih =>
    intro out s
    rw [parseG]
    split
    · simp
    · split
      · simp
      · split
        · simp; omega
        · split
          · simp; omega
          · exact ih _ _
end Go.Proofs.YtlefegihikpilaaDoor

/- plain laws: the library's pieces and cuts at one sign -/
namespace Go.Proofs.YtlefegihikpilaaDoor
set_option linter.all false
open Go
set_option maxRecDepth 100000
theorem occz {z : UInt8} {s : List UInt8} {i : Nat} : Lib.occAt s [z] i = true ↔ i < s.length ∧ s.getD i 0 = z := by
  unfold Lib.occAt
  by_cases h : i < s.length
  · rw [List.drop_eq_getElem_cons h, List.getD, List.getElem?_eq_getElem h]
    simp only [List.isPrefixOf_cons₂, List.isPrefixOf_nil_left, Bool.and_true, beq_iff_eq, Option.getD_some]
    exact ⟨fun e => ⟨h, e.symm⟩, fun e => e.2.symm⟩
  · rw [List.drop_eq_nil_of_le (by omega)]
    simp [List.isPrefixOf, h]
theorem splitK_spx {z : UInt8} : ∀ (n : Nat) (s : List UInt8), s.length ≤ n → ∀ k, s.count z ≤ k → Lib.splitK [z] 0 k s = spx z s := by
  intro n
  induction n with
  | zero =>
    intro s hs k hk
    obtain rfl := List.eq_nil_of_length_eq_zero (by omega : s.length = 0)
    cases k <;> rfl
  | succ n ih =>
    intro s hs k hk
    rcases Lib.index_spec s [z] with ⟨h1, h2⟩ | ⟨i, h1, h2, h3, h4⟩
    · have hn : z ∉ s := by
        intro hm
        obtain ⟨j, hj, e⟩ := List.getElem_of_mem hm
        have := h2 j (by omega)
        rw [occz.2 ⟨hj, by rw [List.getD, List.getElem?_eq_getElem hj]; exact e⟩] at this
        cases this
      rw [spx_none hn]
      cases k with
      | zero => rfl
      | succ k => rw [Lib.splitK, h1]; rfl
    · obtain ⟨hi, hz⟩ := occz.1 h3
      have hn : z ∉ s.take i := by
        intro hm
        obtain ⟨j, hj, e⟩ := List.getElem_of_mem hm
        rw [List.length_take] at hj
        have hj' : j < s.length := by omega
        have hf := h4 j (by omega)
        rw [occz.2 ⟨hj', by rw [List.getD, List.getElem?_eq_getElem hj']; simpa using e⟩] at hf
        cases hf
      have he : s = s.take i ++ z :: s.drop (i + 1) := by
        have := List.take_append_drop i s
        rw [List.drop_eq_getElem_cons hi] at this
        rw [List.getD, List.getElem?_eq_getElem hi] at hz
        simp only [Option.getD_some] at hz
        rw [hz] at this
        exact this.symm
      have hc : s.count z = 1 + (s.drop (i + 1)).count z := by
        conv => lhs; rw [he]
        rw [List.count_append, List.count_eq_zero.2 hn, List.count_cons_self]; omega
      cases k with
      | zero => omega
      | succ k =>
        rw [Lib.splitK, h1, if_neg (by simp)]
        have := ih (s.drop (i + 1)) (by rw [List.length_drop]; omega) k (by omega)
        conv => rhs; rw [he, spx_cut hn]
        simp [this]
theorem split_spx (z : UInt8) (s : List UInt8) : Lib.splitK [z] 0 (Lib.countB ⟨s.toArray⟩ ⟨#[z]⟩) s = spx z s :=
  splitK_spx s.length s (by omega) _ (by rw [← Lib.count_one]; exact Nat.le_refl _)
theorem cut_of_no {s : List UInt8} (h : 10 ∉ s) : Lib.cut s [10] = (s, [], false) := by
  have : Lib.index s [10] = -1 := Lib.index_none fun j _ => by
    rw [← Bool.not_eq_true, occz]
    rintro ⟨g1, g2⟩
    rw [List.getD, List.getElem?_eq_getElem g1] at g2
    exact h (by rw [← g2]; exact List.getElem_mem g1)
  unfold Lib.cut
  rw [this, if_neg (by omega)]
theorem cut_of_nl {t r : List UInt8} (h : 10 ∉ t) : Lib.cut (t ++ 10 :: r) [10] = (t, r, true) := by
  have : Lib.index (t ++ 10 :: r) [10] = t.length := Lib.index_first (by simp) (occz.2 ⟨by simp, by simp [List.getD]⟩) fun j hj => by
    rw [← Bool.not_eq_true, occz]
    rintro ⟨_, g2⟩
    rw [List.getD, List.getElem?_append_left hj, List.getElem?_eq_getElem hj] at g2
    exact h (by rw [← g2]; exact List.getElem_mem hj)
  unfold Lib.cut
  rw [this, if_pos (by omega)]
  simp
theorem spx_len {z : UInt8} : ∀ {s x : List UInt8}, x ∈ spx z s → x.length ≤ s.length
  | [], x, h => by simp [spx] at h; subst h; simp
  | c :: t, x, h => by
    rw [spx] at h
    split at h
    · rcases List.mem_cons.1 h with rfl | h
      · simp
      · have := spx_len h; simp only [List.length_cons]; omega
    · split at h
      · simp at h; subst h; simp
      · rename_i y ys e
        rcases List.mem_cons.1 h with rfl | h
        · have := spx_len (s := t) (x := y) (by rw [e]; simp)
          simp only [List.length_cons]; omega
        · have := spx_len (s := t) (x := x) (by rw [e]; simp [h])
          simp only [List.length_cons]; omega
theorem spx_getlen (z : UInt8) (s : List UInt8) (i : Nat) : ((spx z s).getD i []).length ≤ s.length := by
  by_cases h : i < (spx z s).length
  · rw [List.getD, List.getElem?_eq_getElem h]; exact spx_len (List.getElem_mem h)
  · rw [List.getD, List.getElem?_eq_none (by omega)]; simp
/-- What the program asks of a line: that it is the front of what is left. -/
theorem pre_line {x : Act} (hx : mayQ x) {s t r : List UInt8} (hs : s = t ++ 10 :: r) (hn : 10 ∉ t) : Lib.hasPrefix s (lineA x) = true ↔ bodyA x = t := by
  unfold Lib.hasPrefix lineA
  rw [List.isPrefixOf_iff_prefix]
  constructor
  · rintro ⟨q, hq⟩
    rw [hs] at hq
    have h1 : cutL (t ++ 10 :: r) = some (t, r) := cutL_some.2 ⟨rfl, hn⟩
    have h2 : cutL (bodyA x ++ 10 :: q) = some (bodyA x, q) := cutL_some.2 ⟨rfl, body_no hx⟩
    have : bodyA x ++ 10 :: q = t ++ 10 :: r := by rw [← hq]; simp
    rw [this, h1] at h2
    simp only [Option.some.injEq, Prod.mk.injEq] at h2
    exact h2.1.symm
  · intro h
    exact ⟨r, by rw [hs, h]; simp⟩
theorem pre_none {x : Act} {s : List UInt8} (hn : 10 ∉ s) : Lib.hasPrefix s (lineA x) = false := by
  rw [Bool.eq_false_iff]
  intro h
  unfold Lib.hasPrefix lineA at h
  rw [List.isPrefixOf_iff_prefix] at h
  obtain ⟨q, hq⟩ := h
  exact hn (by rw [← hq]; simp)
end Go.Proofs.YtlefegihikpilaaDoor

/- library functions that chapter 32 calls; strings.Builder's WriteString, WriteByte -/
namespace Go.Proofs.YtlefegihikpilaaDoor
set_option linter.all false
open Go.RowKit
set_option maxRecDepth 100000
theorem p_Cut8 (s p : List UInt8) (hs : s.length ≤ 8000000) : CP Tryd.prog 60 [.str s, .str p] (.tup [.str (Lib.cut s p).1, .str (Lib.cut s p).2.1, .bool (Lib.cut s p).2.2]) :=
  CP_libG (vs := [.string ⟨s.toArray⟩, .string ⟨p.toArray⟩]) (v := .tuple #[.string ⟨(Lib.cut s p).1.toArray⟩, .string ⟨(Lib.cut s p).2.1.toArray⟩, .bool (Lib.cut s p).2.2]) rfl (by simp) rfl fun W U hG => by
    obtain ⟨m, hm⟩ := maxLen_cell hG
    exact (Tryd.strings_Cut ⟨s.toArray⟩ ⟨p.toArray⟩ m W (by rw [sz_str]; omega) hm).mono fun e w' ⟨h1, n, h2⟩ => ⟨h1, h2 ▸ below_drewN (Below.refl _ _) n⟩
theorem p_IdxB (s : List UInt8) (c : UInt8) : CP Tryd.prog 84 [.str s, .int .u8 (c.toNat : Int)] (.int .i64 (Lib.indexByte s c)) :=
  CP_lib (vs := [.string ⟨s.toArray⟩, .int .u8 (c.toNat : Int)]) (v := .int .i64 (Lib.indexByte s c)) rfl (by simp) rfl fun W =>
    (Tryd.strings_IndexByte ⟨s.toArray⟩ (c.toNat : Int) W).mono fun e w' ⟨h1, h2⟩ => ⟨by rw [h1]; simp, h2 ▸ Below.refl _ _⟩
abbrev strs (l : List (List UInt8)) : List (List AV) := l.map fun p => [AV.str p]
theorem p_SplitZ (z : UInt8) (s : List UInt8) (hs : s.length ≤ 8000000) : CP Tryd.prog 33 [.str s, .str [z]] (.sl none 1 (strs (spx z s))) := by
  intro W U us hG hl hu
  obtain ⟨m, hm⟩ := maxLen_cell hG
  have he : us = [.string ⟨s.toArray⟩, .string ⟨#[z]⟩] := by
    match us, hl with
    | [a, b], _ =>
      have h1 := (hu 0 a _ rfl rfl).str_inv
      have h2 := (hu 1 b _ rfl rfl).str_inv
      rw [h1, h2]
  subst he
  refine (Tryd.strings_Split ⟨s.toArray⟩ ⟨#[z]⟩ m W (by rw [sz_str]; omega) hm (by simp [ByteArray.size])).mono ?_
  rintro e W' ⟨rfl, rfl⟩
  have hsz : 1 ≤ (⟨#[z]⟩ : ByteArray).size := by simp [ByteArray.size]
  have hd := Lib.splitB_data ⟨#[z]⟩ 0 (Lib.countB ⟨s.toArray⟩ ⟨#[z]⟩) ⟨s.toArray⟩
  have hn := Lib.splitB_all ⟨#[z]⟩ hsz 0 (Lib.countB ⟨s.toArray⟩ ⟨#[z]⟩) ⟨s.toArray⟩ rfl
  have hle := Lib.countB_le ⟨#[z]⟩ hsz s.length ⟨s.toArray⟩ (by rw [sz_str]; exact Nat.le_refl _)
  rw [sz_str] at hle
  have hp : spx z s = (Lib.splitB ⟨#[z]⟩ 0 (Lib.countB ⟨s.toArray⟩ ⟨#[z]⟩) ⟨s.toArray⟩).map (·.data.toList) := by rw [← split_spx]; exact hd.symm
  generalize hB : Lib.splitB ⟨#[z]⟩ 0 (Lib.countB ⟨s.toArray⟩ ⟨#[z]⟩) ⟨s.toArray⟩ = B at hn hp
  generalize hc : Lib.countB ⟨s.toArray⟩ ⟨#[z]⟩ = c at hn hle
  have hE := Ext.alloc W U (.cells (B.map Value.string).toArray 9) (fun _ => False)
  refine ⟨_, _, rfl, ?_, trivial, hE⟩
  rw [hp]
  have hlen : c + 1 = (strs (B.map (·.data.toList))).length := by simp [hn]
  rw [hlen]
  refine .sl _ _ none _ W.heap.size 0 1 (fun i _ => (B.map Value.string).getD i undef) (Nat.le_refl _) ?_ (fun _ => rfl) (fun e he => ?_) (fun i j hi hj => ?_) (fun i e j x he hx => ?_)
  · rw [← hlen]; unfold maxLen; omega
  · simp only [List.map_map, List.mem_map, Function.comp] at he
    obtain ⟨a, _, rfl⟩ := he
    rfl
  · have hi' : i < B.length := by simpa using hi
    obtain rfl : j = 0 := by omega
    refine ⟨?_, ?_, by simp⟩
    · have e : (W.alloc (.cells (B.map Value.string).toArray 9)).heap[W.heap.size]? = some (.cells (B.map Value.string).toArray 9) := by simp only [World.alloc, Array.getElem?_push_size]
      have e2 : 0 + i * 1 + 0 = i := by omega
      rw [e2]
      simp only [World.cell?, e]
      simp [hi']
    · simp [hi', Value.oneCell']
  · simp only [List.map_map, List.getElem?_map, Option.map_eq_some_iff, Function.comp] at he
    obtain ⟨a, ha, rfl⟩ := he
    cases j with
    | zero =>
      simp only [List.getElem?_cons_zero, Option.some.injEq] at hx
      subst hx
      have : (B.map Value.string).getD i undef = .string a := by simp [ha]
      show VR _ _ ((B.map Value.string).getD i undef) _
      rw [this]
      exact .str _
    | succ j => simp at hx
theorem p_Join (own : Option Nat) (z : UInt8) (l : List (List UInt8)) (hn : l.length ≤ 140737488355328) (hl : (Lib.join l [z]).length ≤ 140737488355328) : CP Tryd.prog 17 [.sl own 1 (strs l), .str [z]] (.str (Lib.join l [z])) := by
  intro W U us hG hlen hu
  match us, hlen with
  | [v, w], _ =>
    have hw := (hu 1 w _ rfl rfl).str_inv
    subst hw
    have hv := hu 0 v _ rfl rfl
    generalize hels : strs l = els at hv
    cases hv with
    | sl A cap _ _ b o _ f hcap hmax hA hs hc hvv =>
      by_cases h0 : l = []
      · subst h0
        simp at hels
        subst hels
        refine (Tryd.strings_Join_none A cap ⟨#[z]⟩ W).mono ?_
        rintro e W' ⟨rfl, rfl⟩
        exact ⟨_, U, rfl, .str [], trivial, Ext.refl _ _⟩
      · have hll : els.length = l.length := by simp [← hels]
        have hlt : 0 < els.length := by rw [hll]; exact List.length_pos_iff.2 h0
        obtain rfl := hA hlt
        have hx : els.length = (l.map fun p => (⟨p.toArray⟩ : ByteArray)).length := by simp [hll]
        have hj : ((l.map fun p => (⟨p.toArray⟩ : ByteArray)).map (·.data.toList)) = l := by simp [List.map_map, Function.comp_def]
        have hbk : b < W.heap.size := World.block_lt_of_cell? W ⟨b, o + 0 * 1 + 0, none⟩ (hc 0 0 hlt (by omega)).1
        have := Tryd.strings_Join b o cap (l.map fun p => (⟨p.toArray⟩ : ByteArray)) ⟨#[z]⟩ W (fun j x hx => by
          simp only [List.getElem?_map, Option.map_eq_some_iff] at hx
          obtain ⟨p, hp, rfl⟩ := hx
          have hjl : j < els.length := by rw [hll]; exact (List.getElem?_eq_some_iff.1 hp).1
          have h1 := (hc j 0 hjl (by omega)).1
          have h2 := hvv j [AV.str p] 0 (.str p) (by rw [← hels]; simp [hp]) rfl
          rw [show o + j * 1 + 0 = o + j by omega] at h1
          rw [h1]
          generalize f j 0 = y at h2
          cases h2
          rfl) hbk (by rw [← hx, hll]; exact hn) (by rw [← hx]; exact hcap) (by rw [hj]; exact hl)
        rw [hj, ← hx] at this
        refine this.mono ?_
        rintro e W' ⟨rfl, hB⟩
        exact ⟨_, U, rfl, .str _, trivial, ⟨hB, fun _ _ _ => Iff.rfl⟩⟩
/-! the builder's writers -/
abbrev bld (b : Nat) (l : List UInt8) : List AV := [.ptr b 0, .sl (some 5) 1 (bts l)]
abbrev bld0 : List AV := [.nilT 88, .sl (some 5) 1 []]
/-- the builder on its way: new, or written -/
abbrev bl (b : Nat) (k : Nat) (s : List UInt8) : List AV := [if k = 0 then .nilT 88 else .ptr b 0, .sl (some 5) 1 (bts s)]
theorem t_Write (b : Nat) (l s : List UInt8) (h : l.length + s.length ≤ 100000000) : CT Tryd.prog 28 [.ptr b 0, .str s] (lk [(b, bld b l)]) (fun r o => r = .tup [.int .i64 s.length, .nili] ∧ o = lk [(b, bld b (l ++ s))]) := by
  have hm : maxLen = 9223372036854775807 := rfl
  refine okt_strings_Builder_WriteString _ _ _ (by simp) ?_
  simp only [c_strings_Builder_WriteString, ↓Ed, Eu, ↓reduceIte, reduceCtorEq, Nat.reduceAdd, Nat.reduceEqDiff, Nat.reduceLT, Nat.reduceLeDiff, Int.reduceToNat, Int.reduceEq, Int.reduceLT, Int.reduceLE, w64, List.length_append, List.length_map]
  repeat' ((first | (refine' CallO_det (t_copy1 b (.sl (some 5) 1 (bts l))) (lk_sub1 ?_) ?_; rotate_right 2; (focus ((repeat (first | exact lk_hd _ _ _ | (refine lk_tl ?_ ?_; (focus (first | assumption | (simp only [*, not_false_eq_true]; done)))))); done))) | refine NewB_intro0 (fun b => ?_) | (refine NewB_intro (fun b hb => ?_); simp only [ln_cons2, ln_nil, and_true] at hb) | (with_reducible apply And.intro; (focus (first | omega | (simp only [Fact, Bool.not_eq_true', Bool.not_eq_false', decide_eq_true_eq, decide_eq_false_iff_not] at *; omega)))) | ((first | refine gW_sp ?_ | refine condW_sp ?_ | refine pickW_sp ?_); (try refine Sp_n ?_); (first | refine Sp_t (by assumption) ?_ | refine Sp_f (by assumption) ?_ | refine Sp_split (fun h => ?_) (fun h => ?_)) <;> (first | have h' := Fact_lt h | have h' := Fact_nlt h | have h' := Fact_le h | have h' := Fact_nle h | skip) <;> (try (exfalso; omega))) | refine TreeW_intro (by rfl) ?_ | refine TreeW_all ?_ | refine upQ_intro ?_ | refine Two_intro ?_ ?_ | (refine leK_lit ?_; (simp [-List.getD_eq_getElem?_getD, LeL, lk, *]; done)) | (refine leK_dd ?_; (simp [-List.getD_eq_getElem?_getD, LeS, LeL, lk, *]; done)) | (simp only [Fact, Bool.not_eq_true', Bool.not_eq_false', decide_eq_true_eq, decide_eq_false_iff_not] at *; refine leK_dd ?_; (simp [-List.getD_eq_getElem?_getD, LeS, LeL, lk, *]; done)) | (show (_ : Nat) ≤ _; omega)) <;> (try simp (disch := omega) only [*, ↓Ed, Eu, ↓reduceIte, reduceCtorEq, Nat.reduceAdd, Nat.reduceEqDiff, Nat.reduceLT, Nat.reduceLeDiff, Int.reduceToNat, Int.reduceEq, Int.reduceLT, Int.reduceLE, w64, List.length_append, List.length_map]))
  exact ro_mk (by simp [LeL, lk, r_two, rl_nil, rl_cons, ar_tmp, al_int, al_nili, bts]) domB
theorem t_Write0 (b : Nat) (s : List UInt8) (h : s.length ≤ 100000000) : CT Tryd.prog 28 [.ptr b 0, .str s] (lk [(b, bld0)]) (fun r o => r = .tup [.int .i64 s.length, .nili] ∧ o = lk [(b, bld b s)]) := by
  have hm : maxLen = 9223372036854775807 := rfl
  refine okt_strings_Builder_WriteString _ _ _ (by simp) ?_
  simp only [c_strings_Builder_WriteString, ↓Ed, Eu, ↓reduceIte, reduceCtorEq, Nat.reduceAdd, Nat.reduceEqDiff, Nat.reduceLT, Nat.reduceLeDiff, Int.reduceToNat, Int.reduceEq, Int.reduceLT, Int.reduceLE, w64, List.length_append, List.length_map]
  repeat' ((first | (refine' CallO_det (t_copy0 b (.sl (some 5) 1 [])) (lk_sub1 ?_) ?_; rotate_right 2; (focus ((repeat (first | exact lk_hd _ _ _ | (refine lk_tl ?_ ?_; (focus (first | assumption | (simp only [*, not_false_eq_true]; done)))))); done))) | refine NewB_intro0 (fun b => ?_) | (refine NewB_intro (fun b hb => ?_); simp only [ln_cons2, ln_nil, and_true] at hb) | (with_reducible apply And.intro; (focus (first | omega | (simp only [Fact, Bool.not_eq_true', Bool.not_eq_false', decide_eq_true_eq, decide_eq_false_iff_not] at *; omega)))) | ((first | refine gW_sp ?_ | refine condW_sp ?_ | refine pickW_sp ?_); (try refine Sp_n ?_); (first | refine Sp_t (by assumption) ?_ | refine Sp_f (by assumption) ?_ | refine Sp_split (fun h => ?_) (fun h => ?_)) <;> (first | have h' := Fact_lt h | have h' := Fact_nlt h | have h' := Fact_le h | have h' := Fact_nle h | skip) <;> (try (exfalso; omega))) | refine TreeW_intro (by rfl) ?_ | refine TreeW_all ?_ | refine upQ_intro ?_ | refine Two_intro ?_ ?_ | (refine leK_lit ?_; (simp [-List.getD_eq_getElem?_getD, LeL, lk, *]; done)) | (refine leK_dd ?_; (simp [-List.getD_eq_getElem?_getD, LeS, LeL, lk, *]; done)) | (simp only [Fact, Bool.not_eq_true', Bool.not_eq_false', decide_eq_true_eq, decide_eq_false_iff_not] at *; refine leK_dd ?_; (simp [-List.getD_eq_getElem?_getD, LeS, LeL, lk, *]; done)) | (show (_ : Nat) ≤ _; omega)) <;> (try simp (disch := omega) only [*, ↓Ed, Eu, ↓reduceIte, reduceCtorEq, Nat.reduceAdd, Nat.reduceEqDiff, Nat.reduceLT, Nat.reduceLeDiff, Int.reduceToNat, Int.reduceEq, Int.reduceLT, Int.reduceLE, w64, List.length_append, List.length_map]))
  exact ro_mk (by simp [LeL, lk, r_two, rl_nil, rl_cons, ar_tmp, al_int, al_nili, bts]) domB
end Go.Proofs.YtlefegihikpilaaDoor
