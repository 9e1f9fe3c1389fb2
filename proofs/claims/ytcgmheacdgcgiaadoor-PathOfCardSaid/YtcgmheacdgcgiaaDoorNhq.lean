/- plain laws: names of what is kept: unlike of unlike things; their pieces -/
import Derived.Test.YtcgmheacdgcgiaaDoorNhp
namespace Go.Proofs.YtcgmheacdgcgiaaDoor
set_option linter.all false
open Go
set_option maxRecDepth 100000
theorem cut_inj : ∀ {a b x y : List UInt8}, 47 ∉ a → 47 ∉ b → a ++ 47 :: x = b ++ 47 :: y → a = b ∧ x = y
  | [], [], _, _, _, _, h => ⟨rfl, by simpa using h⟩
  | [], d :: b, _, _, _, hb, h => by simp at h; exact absurd h.1 (fun e => hb (by simp [e]))
  | c :: a, [], _, _, ha, _, h => by simp at h; exact absurd h.1 (fun e => ha (by simp [e]))
  | c :: a, d :: b, x, y, ha, hb, h => by
    simp only [List.cons_append, List.cons.injEq] at h
    obtain ⟨rfl, h⟩ := h
    obtain ⟨e1, e2⟩ := cut_inj (fun g => ha (by simp [g])) (fun g => hb (by simp [g])) h
    exact ⟨by rw [e1], e2⟩
theorem cut_none_inj {a b y : List UInt8} (ha : 47 ∉ a) (h : a = b ++ 47 :: y) : False := ha (by rw [h]; simp)
theorem name_no {p : List UInt8} (h : nameQ p) : 47 ∉ p := by
  intro hm
  obtain ⟨i, hi, e⟩ := List.getElem_of_mem hm
  have := h.2.2 i hi
  unfold okAt at this
  have e2 : p.getD i 0 = 47 := by rw [List.getD, List.getElem?_eq_getElem hi]; exact e
  rw [e2] at this
  have h47 : (47 : UInt8).toNat = 47 := rfl
  omega
theorem dig_no (n : Nat) : 47 ∉ dig n := fun h => by
  have := dig_all n 47 h
  unfold isDig at this
  have h47 : (47 : UInt8).toNat = 47 := rfl
  omega
theorem itoa_no {n : Int} (h : 0 ≤ n) : 47 ∉ Lib.itoa n := by rw [itoa_dig h]; exact dig_no _
theorem itoa_inj {n m : Int} (h : 0 ≤ n) (g : 0 ≤ m) (e : Lib.itoa n = Lib.itoa m) : n = m := by
  rw [itoa_dig h, itoa_dig g] at e
  have := dig_inj e
  omega
theorem chan_no {n : Int} (h : 0 ≤ n) : 47 ∉ chn ++ Lib.itoa n := by
  intro hm
  rcases List.mem_append.1 hm with hm | hm
  · revert hm; decide
  · exact itoa_no h hm
/-- A kept thing's name that is not empty: its parts. -/
inductive OfQ : List UInt8 → Int → List UInt8 → Int → Int → Prop
  | num {k p c q} (hk : 1 ≤ k ∧ k ≤ 3) (hp : nameQ p) (hc : 0 ≤ c ∧ c ≤ 999) (hq : 1 ≤ q ∧ q ≤ 1099511627776) :
      OfQ (wordP k ++ 47 :: (prts ++ 47 :: (p ++ 47 :: (chns ++ 47 :: ((chn ++ Lib.itoa c) ++ 47 :: (seqs ++ 47 :: Lib.itoa q)))))) k p c q
  | base {k p c} (hk : 4 ≤ k ∧ k ≤ 7) (hp : nameQ p) (hc : 0 ≤ c ∧ c ≤ 999) : OfQ (wordP k ++ 47 :: (prts ++ 47 :: (p ++ 47 :: (chns ++ 47 :: (chn ++ Lib.itoa c))))) k p c 0
theorem ofP_q {k : Int} {p : List UInt8} {c q : Int} : ofP k p c q = [] ∨ OfQ (ofP k p c q) k p c q := by
  unfold ofP
  split
  · exact .inl rfl
  rename_i h
  simp only [not_or, Decidable.not_not] at h
  obtain ⟨hw, hm⟩ := h
  have hm := mayP_t hm
  have hk : 1 ≤ k ∧ k ≤ 7 := by
    by_cases g : 1 ≤ k ∧ k ≤ 7
    · exact g
    · exact absurd (wordP_out (by omega)) hw
  split
  · split
    · right
      have := OfQ.num (k := k) (p := p) (c := c) (q := q) (by omega) hm.2.2.2 ⟨hm.2.1, hm.2.2.1⟩ (by assumption)
      simpa [baseP] using this
    · exact .inl rfl
  · split
    · subst_vars
      right
      have := OfQ.base (k := k) (p := p) (c := c) (by omega) hm.2.2.2 ⟨hm.2.1, hm.2.2.1⟩
      simpa [baseP] using this
    · exact .inl rfl
theorem OfQ.ne {s k p c q} (h : OfQ s k p c q) : s ≠ [] := by cases h <;> simp
theorem OfQ.inj {s k p c q k' p' c' q'} (h : OfQ s k p c q) (g : OfQ s k' p' c' q') : k = k' ∧ p = p' ∧ c = c' ∧ q = q' := by
  have main : ∀ {x y : List UInt8} {k k' : Int} {p p' : List UInt8}, (1 ≤ k ∧ k ≤ 7) → (1 ≤ k' ∧ k' ≤ 7) → nameQ p → nameQ p' →
      wordP k ++ 47 :: (prts ++ 47 :: (p ++ 47 :: (chns ++ 47 :: x))) = wordP k' ++ 47 :: (prts ++ 47 :: (p' ++ 47 :: (chns ++ 47 :: y))) → k = k' ∧ p = p' ∧ x = y := by
    intro x y k k' p p' h1 h2 h3 h4 e
    obtain ⟨e1, e⟩ := cut_inj (wordP_no k) (wordP_no k') e
    obtain ⟨_, e⟩ := cut_inj (by decide) (by decide) e
    obtain ⟨e2, e⟩ := cut_inj (name_no h3) (name_no h4) e
    obtain ⟨_, e⟩ := cut_inj (by decide) (by decide) e
    exact ⟨wordP_inj h1 h2 e1, e2, e⟩
  generalize hs : s = t at h g
  cases h with
  | num hk hp hc hq =>
    generalize hs : wordP k ++ 47 :: (prts ++ 47 :: (p ++ 47 :: (chns ++ 47 :: ((chn ++ Lib.itoa c) ++ 47 :: (seqs ++ 47 :: Lib.itoa q))))) = t at g
    cases g with
    | num hk' hp' hc' hq' =>
      obtain ⟨e1, e2, e⟩ := main (by omega) (by omega) hp hp' hs
      obtain ⟨e3, e⟩ := cut_inj (chan_no hc.1) (chan_no hc'.1) e
      obtain ⟨_, e⟩ := cut_inj (by decide) (by decide) e
      exact ⟨e1, e2, itoa_inj hc.1 hc'.1 (List.append_cancel_left e3), itoa_inj (by omega) (by omega) e⟩
    | base hk' hp' hc' =>
      obtain ⟨e1, e2, e⟩ := main (by omega) (by omega) hp hp' hs
      omega
  | base hk hp hc =>
    generalize hs : wordP k ++ 47 :: (prts ++ 47 :: (p ++ 47 :: (chns ++ 47 :: (chn ++ Lib.itoa c)))) = t at g
    cases g with
    | num hk' hp' hc' hq' =>
      obtain ⟨e1, e2, e⟩ := main (by omega) (by omega) hp hp' hs
      omega
    | base hk' hp' hc' =>
      obtain ⟨e1, e2, e⟩ := main (by omega) (by omega) hp hp' hs
      exact ⟨e1, e2, itoa_inj hc.1 hc'.1 (List.append_cancel_left e), rfl⟩
/-- The pieces between slashes, in plain words. -/
def sp : List UInt8 → List (List UInt8)
  | [] => [[]]
  | c :: t => if c = 47 then [] :: sp t else match sp t with | [] => [[c]] | x :: xs => (c :: x) :: xs
theorem sp_none : ∀ {a : List UInt8}, 47 ∉ a → sp a = [a]
  | [], _ => rfl
  | c :: t, h => by
    simp only [List.mem_cons, not_or] at h
    rw [sp, if_neg (fun e => h.1 e.symm), sp_none h.2]
theorem sp_cut : ∀ {a x : List UInt8}, 47 ∉ a → sp (a ++ 47 :: x) = a :: sp x
  | [], x, _ => by simp [sp]
  | c :: t, x, h => by
    simp only [List.mem_cons, not_or] at h
    rw [List.cons_append, sp, if_neg (fun e => h.1 e.symm), sp_cut h.2]
theorem OfQ.sp {s k p c q} (h : OfQ s k p c q) : sp s = if k ≤ 3 then [wordP k, prts, p, chns, chn ++ Lib.itoa c, seqs, Lib.itoa q] else [wordP k, prts, p, chns, chn ++ Lib.itoa c] := by
  cases h with
  | num hk hp hc hq =>
    rw [if_pos hk.2, sp_cut (wordP_no k), sp_cut (by decide), sp_cut (name_no hp), sp_cut (by decide), sp_cut (chan_no hc.1), sp_cut (by decide), sp_none (itoa_no (by omega))]
  | base hk hp hc =>
    rw [if_neg (by omega), sp_cut (wordP_no k), sp_cut (by decide), sp_cut (name_no hp), sp_cut (by decide), sp_none (chan_no hc.1)]
end Go.Proofs.YtcgmheacdgcgiaaDoor
