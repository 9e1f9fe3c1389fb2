/- plain laws: the library's pieces are the pieces -/
import Derived.Test.YtcgmheacdgcgiaaDoorLpa
import Derived.Test.YtcgmheacdgcgiaaDoorPaf
import Derived.Lib.SplitLaws
namespace Go.Proofs.YtcgmheacdgcgiaaDoor
set_option linter.all false
open Go
set_option maxRecDepth 100000
theorem splitK_sp : ∀ (n : Nat) (s : List UInt8), s.length ≤ n → ∀ k, s.count 47 ≤ k → Lib.splitK [47] 0 k s = sp s := by
  intro n
  induction n with
  | zero =>
    intro s hs k hk
    obtain rfl := List.eq_nil_of_length_eq_zero (by omega : s.length = 0)
    cases k <;> rfl
  | succ n ih =>
    intro s hs k hk
    rcases Lib.index_spec s [47] with ⟨h1, h2⟩ | ⟨i, h1, h2, h3, h4⟩
    · have hn : 47 ∉ s := by
        intro hm
        obtain ⟨j, hj, e⟩ := List.getElem_of_mem hm
        have := h2 j (by omega)
        rw [occ1.2 ⟨hj, by rw [List.getD, List.getElem?_eq_getElem hj]; exact e⟩] at this
        cases this
      rw [sp_none hn]
      cases k with
      | zero => rfl
      | succ k => rw [Lib.splitK, h1]; rfl
    · obtain ⟨hi, h47⟩ := occ1.1 h3
      have hn : 47 ∉ s.take i := by
        intro hm
        obtain ⟨j, hj, e⟩ := List.getElem_of_mem hm
        rw [List.length_take] at hj
        have hj' : j < s.length := by omega
        have hf := h4 j (by omega)
        rw [occ1.2 ⟨hj', by rw [List.getD, List.getElem?_eq_getElem hj']; simpa using e⟩] at hf
        cases hf
      have he : s = s.take i ++ 47 :: s.drop (i + 1) := by
        have := List.take_append_drop i s
        rw [List.drop_eq_getElem_cons hi] at this
        rw [List.getD, List.getElem?_eq_getElem hi] at h47
        simp only [Option.getD_some] at h47
        rw [h47] at this
        exact this.symm
      have hc : s.count 47 = 1 + (s.drop (i + 1)).count 47 := by
        conv => lhs; rw [he]
        rw [List.count_append, List.count_eq_zero.2 hn, List.count_cons_self]; omega
      cases k with
      | zero => omega
      | succ k =>
        rw [Lib.splitK, h1, if_neg (by simp)]
        have := ih (s.drop (i + 1)) (by rw [List.length_drop]; omega) k (by omega)
        conv => rhs; rw [he, sp_cut hn]
        simp [this]
theorem pieces_sp (s : List UInt8) : pieces s = sp s := by
  unfold pieces
  exact splitK_sp s.length s (by omega) _ (by rw [← Lib.count_one]; exact Nat.le_refl _)
open Classical in
/-- What a text is the name of: unlike texts' names are unlike, so it is one or none. -/
noncomputable def readP (s : List UInt8) : Int × List UInt8 × Int × Int × Int :=
  if h : ∃ x : Int × List UInt8 × Int × Int, OfQ s x.1 x.2.1 x.2.2.1 x.2.2.2 then (h.choose.1, h.choose.2.1, h.choose.2.2.1, h.choose.2.2.2, 0) else (0, [], 0, 0, 3)
theorem readP_of {s k p c q} (h : OfQ s k p c q) : readP s = (k, p, c, q, 0) := by
  have hx : ∃ x : Int × List UInt8 × Int × Int, OfQ s x.1 x.2.1 x.2.2.1 x.2.2.2 := ⟨(k, p, c, q), h⟩
  unfold readP
  rw [dif_pos hx]
  obtain ⟨e1, e2, e3, e4⟩ := hx.choose_spec.inj h
  rw [e1, e2, e3, e4]
theorem readP_no {s} (h : ∀ k p c q, ¬ OfQ s k p c q) : readP s = (0, [], 0, 0, 3) := by
  unfold readP
  rw [dif_neg (fun ⟨x, hx⟩ => h _ _ _ _ hx)]
theorem OfQ.eq {s k p c q} (h : OfQ s k p c q) : ofP k p c q = s := by
  have hm : ∀ {p : List UInt8} {c : Int}, nameQ p → (0 ≤ c ∧ c ≤ 999) → mayP p c = true := fun hp hc => by simp [mayP, nameP_iff.2 hp, hc.1, hc.2]
  cases h with
  | num hk hp hc hq =>
    unfold ofP
    rw [if_neg (by simp [hm hp hc, wordP_in (show 1 ≤ k ∧ k ≤ 7 by omega)]), if_pos hk, if_pos hq]
    simp [baseP]
  | base hk hp hc =>
    unfold ofP
    rw [if_neg (by simp [hm hp hc, wordP_in (show 1 ≤ k ∧ k ≤ 7 by omega)]), if_neg (by omega), if_pos rfl]
    simp [baseP]
theorem chn_pre (x : List UInt8) : Lib.hasPrefix (chn ++ x) chn = true ∧ Lib.trimPrefix (chn ++ x) chn = x := by
  have h : Lib.hasPrefix (chn ++ x) chn = true := by rw [pre_iff]; simp [chn]
  refine ⟨h, ?_⟩
  unfold Lib.trimPrefix
  rw [if_pos h]
  simp [chn]
theorem end_of {p : List UInt8} {c : Int} (hp : nameQ p) (hc : 0 ≤ c ∧ c ≤ 999) : endN (chn ++ Lib.itoa c) = c ∧ endP p (chn ++ Lib.itoa c) = true := by
  have h1 := chn_pre (Lib.itoa c)
  have e : numP (Lib.itoa c) = (c, 0) := by
    rw [itoa_dig hc.1, num_dig (by omega)]
    simp; omega
  have hn : endN (chn ++ Lib.itoa c) = c := by unfold endN; rw [h1.2, e]
  refine ⟨hn, ?_⟩
  unfold endP endOk
  rw [hn, h1.1, h1.2, e]
  simp [mayP, nameP_iff.2 hp, hc.1, hc.2]
theorem num_itoa {q : Int} (h : 0 ≤ q ∧ q ≤ 72057594037927935) : numP (Lib.itoa q) = (q, 0) := by
  rw [itoa_dig h.1, num_dig (by omega)]
  simp; omega
end Go.Proofs.YtcgmheacdgcgiaaDoor
