/- plain laws: words, texts of ends, names of what is kept -/
import Derived.Test.YtcgmheacdgcgiaaDoorNh
namespace Go.Proofs.YtcgmheacdgcgiaaDoor
set_option linter.all false
open Go
abbrev chn : List UInt8 := [99, 104, 97, 110, 110, 101, 108, 45]
abbrev prts : List UInt8 := [112, 111, 114, 116, 115]
abbrev chns : List UInt8 := [99, 104, 97, 110, 110, 101, 108, 115]
abbrev seqs : List UInt8 := [115, 101, 113, 117, 101, 110, 99, 101, 115]
def wordP (k : Int) : List UInt8 :=
  if k = 1 then [99, 111, 109, 109, 105, 116, 109, 101, 110, 116, 115] else if k = 2 then [114, 101, 99, 101, 105, 112, 116, 115] else if k = 3 then [97, 99, 107, 115] else if k = 4 then [110, 101, 120, 116, 83, 101, 113, 117, 101, 110, 99, 101, 83, 101, 110, 100] else if k = 5 then [110, 101, 120, 116, 83, 101, 113, 117, 101, 110, 99, 101, 82, 101, 99, 118] else if k = 6 then [110, 101, 120, 116, 83, 101, 113, 117, 101, 110, 99, 101, 65, 99, 107] else if k = 7 then [99, 104, 97, 110, 110, 101, 108, 69, 110, 100, 115] else []
theorem wordP_out {k : Int} (h : k < 1 ∨ 7 < k) : wordP k = [] := by
  unfold wordP
  repeat rw [if_neg (by omega)]
theorem wordP_in {k : Int} (h : 1 ≤ k ∧ k ≤ 7) : wordP k ≠ [] := by
  obtain rfl | rfl | rfl | rfl | rfl | rfl | rfl : k = 1 ∨ k = 2 ∨ k = 3 ∨ k = 4 ∨ k = 5 ∨ k = 6 ∨ k = 7 := by omega
  all_goals simp [wordP]
theorem wordP_inj {k j : Int} (h : 1 ≤ k ∧ k ≤ 7) (g : 1 ≤ j ∧ j ≤ 7) (e : wordP k = wordP j) : k = j := by
  obtain rfl | rfl | rfl | rfl | rfl | rfl | rfl : k = 1 ∨ k = 2 ∨ k = 3 ∨ k = 4 ∨ k = 5 ∨ k = 6 ∨ k = 7 := by omega
  all_goals
    obtain rfl | rfl | rfl | rfl | rfl | rfl | rfl : j = 1 ∨ j = 2 ∨ j = 3 ∨ j = 4 ∨ j = 5 ∨ j = 6 ∨ j = 7 := by omega
    all_goals first | rfl | (simp [wordP] at e)
theorem wordP_len (k : Int) : (wordP k).length ≤ 16 := by
  unfold wordP
  repeat' split
  all_goals decide
theorem wordP_no (k : Int) : 47 ∉ wordP k := by
  unfold wordP
  repeat' split
  all_goals decide
theorem itoa_dig {n : Int} (h : 0 ≤ n) : Lib.itoa n = dig n.toNat := by unfold Lib.itoa; rw [if_neg (by omega)]
noncomputable def textP (p : List UInt8) (c : Int) : List UInt8 := if mayP p c = true then p ++ [47] ++ chn ++ Lib.itoa c else []
def endOk (s : List UInt8) : Bool := Lib.hasPrefix s chn && decide ((numP (Lib.trimPrefix s chn)).2 = 0)
def endN (s : List UInt8) : Int := (numP (Lib.trimPrefix s chn)).1
noncomputable def endP (p s : List UInt8) : Bool := endOk s && mayP p (endN s)
noncomputable def parseP (s : List UInt8) : List UInt8 × Int × Int :=
  if endP (Lib.cut s [47]).1 (Lib.cut s [47]).2.1 = true then ((Lib.cut s [47]).1, endN (Lib.cut s [47]).2.1, 0) else ([], 0, 3)
def baseP (k : Int) (p : List UInt8) (c : Int) : List UInt8 := wordP k ++ [47] ++ prts ++ [47] ++ p ++ [47] ++ chns ++ [47] ++ chn ++ Lib.itoa c
noncomputable def ofP (k : Int) (p : List UInt8) (c q : Int) : List UInt8 :=
  if wordP k = [] ∨ ¬ mayP p c = true then [] else if 1 ≤ k ∧ k ≤ 3 then if 1 ≤ q ∧ q ≤ 1099511627776 then baseP k p c ++ [47] ++ seqs ++ [47] ++ Lib.itoa q else [] else if q = 0 then baseP k p c else []
theorem cut_le (s sep : List UInt8) : (Lib.cut s sep).1.length ≤ s.length ∧ (Lib.cut s sep).2.1.length ≤ s.length := by
  unfold Lib.cut; split <;> simp <;> omega
theorem mayP_t {p : List UInt8} {c : Int} (h : mayP p c = true) : p.length ≤ 12 ∧ 0 ≤ c ∧ c ≤ 999 ∧ nameQ p := by
  simp only [mayP, Bool.and_eq_true, decide_eq_true_eq, nameP_iff] at h
  exact ⟨h.1.1.2.1, h.1.2, h.2, h.1.1⟩
theorem dig_len3 {c : Int} (h : 0 ≤ c ∧ c ≤ 999) : (Lib.itoa c).length ≤ 3 := by rw [itoa_dig h.1]; exact dig_len 2 _ (by omega)
theorem dig_len13 {c : Int} (h : 0 ≤ c ∧ c ≤ 1099511627776) : (Lib.itoa c).length ≤ 13 := by rw [itoa_dig h.1]; exact dig_len 12 _ (by omega)
end Go.Proofs.YtcgmheacdgcgiaaDoor
