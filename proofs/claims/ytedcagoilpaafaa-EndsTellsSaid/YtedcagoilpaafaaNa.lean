/- plain laws: numbers in groups of seven bits -/
import Derived.Test.YtedcagoilpaafaaMr
import Derived.Laws.BitsAllLaws
namespace Go.Proofs.Ytedcagoilpaafaa
set_option linter.all false
def put7 (n : Nat) : List UInt8 := if n < 128 then [UInt8.ofNat n] else UInt8.ofNat (n % 128 + 128) :: put7 (n / 128)
termination_by n
decreasing_by omega
abbrev maxNum : Int := 72057594037927935
def pn (v : Int) : List UInt8 := if 0 ≤ v ∧ v ≤ 72057594037927935 then put7 v.toNat else []
theorem put7_lo {n : Nat} (h : n < 128) : put7 n = [UInt8.ofNat n] := by rw [put7, if_pos h]
theorem put7_hi {n : Nat} (h : 128 ≤ n) : put7 n = UInt8.ofNat (n % 128 + 128) :: put7 (n / 128) := by rw [put7, if_neg (by omega)]
theorem put7_len : ∀ (k n : Nat), n < 128 ^ (k + 1) → (put7 n).length ≤ k + 1
  | 0, n, h => by rw [put7_lo (by omega)]; simp
  | k + 1, n, h => by
    by_cases hn : n < 128
    · rw [put7_lo hn]; simp
    · rw [put7_hi (by omega)]
      have := put7_len k (n / 128) (by rw [Nat.pow_succ] at h; omega)
      simp only [List.length_cons]; omega
theorem pn_len (v : Int) : (pn v).length ≤ 8 := by
  unfold pn
  split
  · exact put7_len 7 _ (by simp; omega)
  · simp
theorem put7_ne (n : Nat) : put7 n ≠ [] := by
  by_cases hn : n < 128
  · rw [put7_lo hn]; simp
  · rw [put7_hi (by omega)]; simp
theorem pn_nil (v : Int) : pn v = [] ↔ ¬ (0 ≤ v ∧ v ≤ 72057594037927935) := by
  unfold pn
  split
  · simp [put7_ne, *]
  · simp [*]
/-- The number at the head of bytes: value, bytes taken, error. -/
def get7 : Nat → List UInt8 → Bool → Int × Nat × Int
  | 0, _, _ => (0, 0, 4)
  | _ + 1, [], _ => (0, 0, 2)
  | f + 1, c :: r, fst =>
    if c.toNat < 128 then (if c.toNat = 0 ∧ fst = false then (0, 0, 3) else ((c.toNat : Int), 1, 0))
    else match get7 f r false with
      | (v, n, e) => if e = 0 then (((c.toNat % 128 : Nat) : Int) + 128 * v, n + 1, 0) else (0, 0, e)
def nx (s : List UInt8) (at' : Int) : Int × Int × Int :=
  if 0 ≤ at' ∧ at' ≤ s.length then
    match get7 8 (s.drop at'.toNat) true with
    | (v, n, e) => if e = 0 then (v, at' + n, 0) else (0, 0, e)
  else (0, 0, 1)
/-- What was read so far (u, of k bytes) with what the rest gives. -/
def comb (u k : Nat) : Int × Nat × Int → Int × Nat × Int
  | (v, n, e) => if e = 0 then ((u : Int) + 128 ^ k * v, n + k, 0) else (0, 0, e)
theorem comb_step (u k f : Nat) (c : UInt8) (r : List UInt8) (b : Bool) (h : 128 ≤ c.toNat) :
    comb u k (get7 (f + 1) (c :: r) b) = comb (u + c.toNat % 128 * 128 ^ k) (k + 1) (get7 f r false) := by
  rw [get7, if_neg (by omega)]
  obtain ⟨v, n, e⟩ := get7 f r false
  by_cases he : e = 0
  · simp only [comb, he, if_true, Prod.mk.injEq, and_true]
    refine ⟨?_, by omega⟩
    rw [Int.mul_add, Int.pow_succ, Int.mul_assoc, ← Int.add_assoc, Int.natCast_add, Int.natCast_mul, Int.natCast_pow, Int.mul_comm (128 ^ k : Int)]
    rfl
  · simp [comb, he]
theorem get7_big : ∀ (f : Nat) (r : List UInt8) (b : Bool), 0 ≤ (get7 f r b).1 ∧ (get7 f r b).1 < 128 ^ f ∧ (get7 f r b).2.1 ≤ r.length
  | 0, _, _ => by simp [get7]
  | f + 1, [], _ => by simp [get7]; exact Int.pow_pos (by omega)
  | f + 1, c :: r, b => by
    have hp : (0 : Int) < 128 ^ f := Int.pow_pos (by omega)
    have hp' : (128 : Int) ^ (f + 1) = 128 ^ f * 128 := Int.pow_succ _ _
    rw [get7]
    split
    · split
      · refine ⟨by simp, by simp; omega, by simp⟩
      · refine ⟨by simp, ?_, by simp⟩
        simp only
        omega
    · have ih := get7_big f r false
      generalize get7 f r false = g at ih ⊢
      obtain ⟨v, n, e⟩ := g
      simp only at ih ⊢
      split
      · refine ⟨by omega, by omega, by simp; omega⟩
      · refine ⟨by simp, by simp; omega, by simp⟩
theorem get7_err : ∀ (f : Nat) (r : List UInt8) (b : Bool), (get7 f r b).2.2 ≠ 0 → (get7 f r b).1 = 0 ∧ (get7 f r b).2.1 = 0
  | 0, _, _, _ => by simp [get7]
  | f + 1, [], _, _ => by simp [get7]
  | f + 1, c :: r, b, h => by
    rw [get7] at h ⊢
    split at h
    · rename_i hc
      rw [if_pos hc]
      split at h
      · rename_i hd; rw [if_pos hd]; simp
      · simp at h
    · rename_i hc
      rw [if_neg hc]
      generalize get7 f r false = g at h ⊢
      obtain ⟨v, n, e⟩ := g
      simp only at h ⊢
      split at h
      · simp at h
      · rename_i he; rw [if_neg he]; simp
theorem comb_zero (g : Int × Nat × Int) (h : g.2.2 ≠ 0 → g.1 = 0 ∧ g.2.1 = 0) : comb 0 0 g = g := by
  obtain ⟨v, n, e⟩ := g
  by_cases he : e = 0
  · simp [comb, he]
  · have := h he
    simp only at this
    simp [comb, he, this]
/-- The answer, with what was read so far. -/
def fin7 (i : Nat) : Int × Nat × Int → Int × Int × Int
  | (v, n, e) => if e = 0 then (v, (i : Int) + n, 0) else (0, 0, e)
theorem nx_in {s : List UInt8} {i : Nat} (h : i ≤ s.length) : nx s i = fin7 i (get7 8 (s.drop i) true) := by
  simp only [nx, if_pos (show (0 ≤ (i : Int) ∧ (i : Int) ≤ s.length) by omega), Int.toNat_natCast]
  rfl
theorem nx_out {s : List UInt8} {i : Int} (h : ¬ (0 ≤ i ∧ i ≤ s.length)) : nx s i = (0, 0, 1) := by simp only [nx, if_neg h]
theorem tn2 (i k : Nat) : ((i : Int) + (k : Int)).toNat = i + k := by omega
theorem drop_get {s : List UInt8} {i : Nat} (h : i < s.length) : s.drop i = s.getD i 0 :: s.drop (i + 1) := by
  rw [List.drop_eq_getElem_cons h]; simp [h]
theorem inv7 {s : List UInt8} {i k u : Nat} (h1 : k < 8) (h2 : get7 8 (s.drop i) true = comb u k (get7 (8 - k) (s.drop (i + k)) (decide (k = 0)))) :
    (s.length ≤ i + k → get7 8 (s.drop i) true = (0, 0, 2)) ∧
    (i + k < s.length → 128 ≤ (s.getD (i + k) 0).toNat → get7 8 (s.drop i) true = comb (u + (s.getD (i + k) 0).toNat % 128 * 128 ^ k) (k + 1) (get7 (8 - (k + 1)) (s.drop (i + (k + 1))) (decide (k + 1 = 0)))) ∧
    (i + k < s.length → (s.getD (i + k) 0).toNat = 0 → 0 < k → get7 8 (s.drop i) true = (0, 0, 3)) ∧
    (i + k < s.length → (s.getD (i + k) 0).toNat < 128 → ¬ ((s.getD (i + k) 0).toNat = 0 ∧ 0 < k) → get7 8 (s.drop i) true = (((u + (s.getD (i + k) 0).toNat % 128 * 128 ^ k : Nat) : Int), k + 1, 0)) := by
  have e : 8 - k = (8 - (k + 1)) + 1 := by omega
  rw [h2]
  refine ⟨fun h => ?_, fun h g => ?_, fun h g g' => ?_, fun h g g' => ?_⟩
  · rw [List.drop_eq_nil_of_le h, e, get7]; rfl
  · rw [e, drop_get h, comb_step _ _ _ _ _ _ g]
    rfl
  · rw [e, drop_get h, get7, if_pos (by omega), if_pos ⟨g, by simp; omega⟩]; rfl
  · rw [e, drop_get h, get7, if_pos (by omega), if_neg (by rintro ⟨a, b⟩; simp at b; exact g' ⟨a, by omega⟩)]
    simp only [comb, if_true]
    rw [Nat.mod_eq_of_lt g, Int.natCast_add, Int.natCast_mul, Int.natCast_pow, Int.mul_comm, Nat.add_comm 1 k]
    rfl
/-! bits -/
theorem or128 (n : Nat) : IntKind.u8.wrap ((BitVec.ofInt IntKind.u8.bits (IntKind.u8.wrap (n : Int)) ||| BitVec.ofInt IntKind.u8.bits 128).toNat : Int) = ((n % 128 + 128 : Nat) : Int) := by
  have h : ∀ x : BitVec 8, (x ||| 128#8).toNat = x.toNat % 128 + 128 := by decide
  have e : (BitVec.ofInt 8 ((n : Int) % 256)).toNat = n % 256 := by
    rw [BitVec.toNat_ofInt]; omega
  have := h (BitVec.ofInt 8 ((n : Int) % 256))
  rw [IntKind.wrap_u8, IntKind.wrap_u8]
  show ((BitVec.ofInt 8 ((n : Int) % 256) ||| 128#8).toNat : Int) % 256 = _
  rw [this, e]
  omega
theorem andn128 (c : UInt8) : IntKind.u8.wrap ((BitVec.ofInt IntKind.u8.bits (c.toNat : Int) &&& ~~~BitVec.ofInt IntKind.u8.bits 128).toNat : Int) = ((c.toNat % 128 : Nat) : Int) := by
  have h : ∀ x : BitVec 8, (x &&& ~~~128#8).toNat = x.toNat % 128 := by decide
  have hc : c.toNat < 256 := c.toNat_lt
  have e : (BitVec.ofInt 8 (c.toNat : Int)).toNat = c.toNat := by
    rw [BitVec.toNat_ofInt]; omega
  have := h (BitVec.ofInt 8 (c.toNat : Int))
  rw [IntKind.wrap_u8]
  show ((BitVec.ofInt 8 (c.toNat : Int) &&& ~~~128#8).toNat : Int) % 256 = _
  rw [this, e]
  omega
theorem shr7 (n : Nat) : (n : Int).fdiv (2 ^ (min 7 IntKind.u64.bits)) = ((n / 128 : Nat) : Int) := by
  have : (2 : Int) ^ (min 7 IntKind.u64.bits) = 128 := by decide
  rw [this, Int.fdiv_eq_ediv_of_nonneg _ (by omega)]
  omega
theorem or_add (u c m : Nat) (hu : u < 2 ^ m) (hs : u + c * 2 ^ m < 2 ^ 64) : IntKind.u64.wrap ((BitVec.ofInt IntKind.u64.bits (u : Int) ||| BitVec.ofInt IntKind.u64.bits ((c * 2 ^ m : Nat) : Int)).toNat : Int) = ((u + c * 2 ^ m : Nat) : Int) := by
  have h1 : (BitVec.ofInt 64 (u : Int)).toNat = u := by rw [BitVec.toNat_ofInt]; omega
  have h2 : (BitVec.ofInt 64 ((c * 2 ^ m : Nat) : Int)).toNat = c * 2 ^ m := by rw [BitVec.toNat_ofInt]; omega
  rw [IntKind.wrap_u64]
  show ((BitVec.ofInt 64 (u : Int) ||| BitVec.ofInt 64 ((c * 2 ^ m : Nat) : Int)).toNat : Int) % 18446744073709551616 = _
  rw [BitVec.toNat_or, h1, h2]
  have : u ||| c * 2 ^ m = u + c * 2 ^ m := by
    have := Nat.shiftLeft_add_eq_or_of_lt hu c
    rw [Nat.shiftLeft_eq] at this
    rw [Nat.or_comm, ← this, Nat.add_comm]
  rw [this]
  omega
theorem pow7 (k : Nat) : 2 ^ (7 * k) = 128 ^ k := by rw [Nat.pow_mul]
theorem shor (u k : Nat) (c : UInt8) (hu : u < 128 ^ k) (hk : k ≤ 7) :
    IntKind.u64.wrap ((BitVec.ofInt IntKind.u64.bits (u : Int) ||| BitVec.ofInt IntKind.u64.bits (IntKind.u64.wrap (IntKind.u64.wrap (IntKind.u8.wrap ((BitVec.ofInt IntKind.u8.bits (c.toNat : Int) &&& ~~~BitVec.ofInt IntKind.u8.bits 128).toNat : Int)) * 2 ^ min (7 * (k : Int)).toNat IntKind.u64.bits))).toNat : Int) = ((u + c.toNat % 128 * 128 ^ k : Nat) : Int) := by
  rw [andn128]
  have hd : c.toNat % 128 < 128 := by omega
  generalize c.toNat % 128 = d at hd
  have e : min (7 * (k : Int)).toNat IntKind.u64.bits = 7 * k := by
    have : IntKind.u64.bits = 64 := rfl
    omega
  have h2 : u + d * 2 ^ (7 * k) < 2 ^ 64 := by
    have h3 : 2 ^ (7 * k) ≤ 2 ^ 49 := Nat.pow_le_pow_right (by omega) (by omega)
    have := Nat.mul_le_mul (show d ≤ 127 by omega) h3
    rw [← pow7] at hu
    omega
  have h3 : ((d : Int) * 2 ^ (7 * k)) = ((d * 2 ^ (7 * k) : Nat) : Int) := by rw [Int.natCast_mul, Int.natCast_pow]; rfl
  have h4 : IntKind.u64.wrap (d : Int) = d := by rw [IntKind.wrap_u64]; omega
  have h5 : IntKind.u64.wrap ((d * 2 ^ (7 * k) : Nat) : Int) = ((d * 2 ^ (7 * k) : Nat) : Int) := by rw [IntKind.wrap_u64]; omega
  rw [e, h4, h3, h5, ← pow7]
  exact or_add u d (7 * k) (by rw [pow7]; exact hu) h2
end Go.Proofs.Ytedcagoilpaafaa
