/- plain laws: decimal numbers; names of what is kept -/
import Derived.Test.YtcgmheacdgcgiaaDoorNb
import Derived.Lib.ItoaNum
import Derived.Lib.IndexMore
import Derived.Lib.Strings
namespace Go.Proofs.YtcgmheacdgcgiaaDoor
set_option linter.all false
open Go
theorem getD_app (a b : List UInt8) (i : Nat) (d : UInt8) (h : i < a.length) : (a ++ b).getD i d = a.getD i d := by simp [List.getD, List.getElem?_append_left h]
def isDig (c : UInt8) : Prop := 48 ≤ c.toNat ∧ c.toNat ≤ 57
instance (c : UInt8) : Decidable (isDig c) := by unfold isDig; exact inferInstance
def valD (s : List UInt8) : Nat := s.foldl (fun v c => 10 * v + (c.toNat - 48)) 0
def numQ (s : List UInt8) : Prop := (∀ c ∈ s, isDig c) ∧ ¬ (1 < s.length ∧ s.getD 0 0 = 48)
instance (s : List UInt8) : Decidable (numQ s) := by unfold numQ; exact inferInstance
/-- a text as a number, and the error -/
def numP (s : List UInt8) : Int × Int :=
  if s = [] then (0, 2) else if ¬ numQ s then (0, 3) else if 17 < s.length then (0, 4) else if 72057594037927935 < valD s then (0, 4) else ((valD s : Int), 0)
abbrev dig (n : Nat) : List UInt8 := Lib.decDigits n
theorem dig_lo {n : Nat} (h : n < 10) : dig n = [UInt8.ofNat (48 + n)] := by rw [dig, Lib.decDigits, dif_pos h]
theorem dig_hi {n : Nat} (h : ¬ n < 10) : dig n = dig (n / 10) ++ [UInt8.ofNat (48 + n % 10)] := by rw [dig, Lib.decDigits, dif_neg h]
theorem u8n {n : Nat} (h : n < 256) : (UInt8.ofNat n).toNat = n := by rw [UInt8.toNat_ofNat']; omega
theorem dig_all : ∀ (n : Nat), ∀ c ∈ dig n, isDig c := by
  intro n
  induction n using Nat.strongRecOn with
  | _ n ih =>
    intro c hc
    by_cases h : n < 10
    · rw [dig_lo h] at hc
      simp only [List.mem_singleton] at hc
      subst hc
      unfold isDig
      rw [u8n (by omega)]; omega
    · rw [dig_hi h] at hc
      rcases List.mem_append.1 hc with hc | hc
      · exact ih (n / 10) (by omega) c hc
      · simp only [List.mem_singleton] at hc
        subst hc
        unfold isDig
        rw [u8n (by omega)]; omega
theorem valD_snoc (s : List UInt8) (c : UInt8) : valD (s ++ [c]) = 10 * valD s + (c.toNat - 48) := by simp [valD, List.foldl_append]
theorem dig_val (n : Nat) : valD (dig n) = n := by
  induction n using Nat.strongRecOn with
  | _ n ih =>
    by_cases h : n < 10
    · rw [dig_lo h]
      simp only [valD, List.foldl_cons, List.foldl_nil]
      rw [u8n (by omega)]; omega
    · rw [dig_hi h, valD_snoc, ih (n / 10) (by omega), u8n (by omega)]; omega
theorem dig_ne (n : Nat) : dig n ≠ [] := by
  by_cases h : n < 10
  · rw [dig_lo h]; simp
  · rw [dig_hi h]; simp
theorem dig_len : ∀ (k n : Nat), n < 10 ^ (k + 1) → (dig n).length ≤ k + 1
  | 0, n, h => by rw [dig_lo (by omega)]; simp
  | k + 1, n, h => by
    by_cases hn : n < 10
    · rw [dig_lo hn]; simp
    · rw [dig_hi hn]
      have := dig_len k (n / 10) (by rw [Nat.pow_succ] at h; omega)
      simp only [List.length_append, List.length_cons, List.length_nil]; omega
theorem dig_head (n : Nat) (h : 0 < n) : (dig n).getD 0 0 ≠ 48 := by
  induction n using Nat.strongRecOn with
  | _ n ih =>
    by_cases hn : n < 10
    · rw [dig_lo hn]
      intro e
      have := congrArg UInt8.toNat e
      simp only [List.getD_cons_zero] at this
      rw [u8n (by omega)] at this
      have h48 : (48 : UInt8).toNat = 48 := rfl
      omega
    · rw [dig_hi hn]
      have h1 := List.length_pos_iff.2 (dig_ne (n / 10))
      have := ih (n / 10) (by omega) (by omega)
      rwa [getD_app _ _ _ _ h1]
theorem num_dig {n : Nat} (h : n ≤ 72057594037927935) : numP (dig n) = ((n : Int), 0) := by
  have h17 := dig_len 16 n (by omega)
  have hq : numQ (dig n) := by
    refine ⟨dig_all n, fun ⟨h1, h2⟩ => ?_⟩
    by_cases h0 : n = 0
    · subst h0; rw [dig_lo (by omega)] at h1; simp at h1
    · exact dig_head n (by omega) h2
  unfold numP
  rw [if_neg (dig_ne n), if_neg (by simpa using hq), if_neg (by omega), dig_val, if_neg (by omega)]
theorem dig_inj {a b : Nat} (h : dig a = dig b) : a = b := by rw [← dig_val a, ← dig_val b, h]
/-- A number's text is its digits. -/
theorem dig_of : ∀ (s : List UInt8), s ≠ [] → (∀ c ∈ s, isDig c) → s.getD 0 0 ≠ 48 → dig (valD s) = s ∧ 0 < valD s := by
  intro s
  induction h : s.length using Nat.strongRecOn generalizing s with
  | _ k ih =>
    intro hn hd h0
    obtain ⟨t, c, rfl⟩ : ∃ t c, s = t ++ [c] := ⟨s.dropLast, s.getLast hn, (List.dropLast_concat_getLast hn).symm⟩
    have hc : isDig c := hd c (by simp)
    unfold isDig at hc
    by_cases ht : t = []
    · subst ht
      simp only [List.nil_append, List.getD_cons_zero] at h0
      have : c.toNat ≠ 48 := fun e => h0 (UInt8.toNat_inj.1 e)
      have hv : valD ([] ++ [c]) = c.toNat - 48 := by simp [valD]
      rw [hv, dig_lo (by omega)]
      refine ⟨?_, by omega⟩
      simp only [List.nil_append, List.cons.injEq, and_true]
      apply UInt8.toNat_inj.1
      rw [u8n (by omega)]; omega
    · have h1 := List.length_pos_iff.2 ht
      obtain ⟨e1, e2⟩ := ih t.length (by rw [← h]; simp) t rfl ht (fun d hd' => hd d (by simp [hd'])) (by rwa [getD_app _ _ _ _ h1] at h0)
      rw [valD_snoc]
      refine ⟨?_, by omega⟩
      rw [dig_hi (by omega), show (10 * valD t + (c.toNat - 48)) / 10 = valD t by omega, e1]
      congr 2
      apply UInt8.toNat_inj.1
      rw [u8n (by omega)]; omega
theorem num_back {s : List UInt8} {n : Int} (h : numP s = (n, 0)) : ∃ m : Nat, n = m ∧ s = dig m ∧ m ≤ 72057594037927935 := by
  unfold numP at h
  split at h
  · simp at h
  split at h
  · simp at h
  split at h
  · simp at h
  split at h
  · simp at h
  rename_i h1 h2 h3 h4
  simp only [Prod.mk.injEq, and_true] at h
  refine ⟨valD s, h.symm, ?_, by omega⟩
  have hq : numQ s := by simpa using h2
  by_cases h0 : s.getD 0 0 = 48
  · match s, h1, hq, h0 with
    | [c], _, hq, h0 =>
      simp only [List.getD_cons_zero] at h0
      subst h0
      have : valD [48] = 0 := rfl
      rw [this, dig_lo (by omega)]
      rfl
    | c :: d :: t, _, hq, h0 => exact absurd ⟨by simp, h0⟩ hq.2
  · exact (dig_of s h1 hq.1 h0).1.symm
end Go.Proofs.YtcgmheacdgcgiaaDoor
