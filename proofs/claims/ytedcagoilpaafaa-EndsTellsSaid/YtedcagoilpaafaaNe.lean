/- plain laws: what was written is read, what is read is written so -/
import Derived.Test.YtedcagoilpaafaaNd
namespace Go.Proofs.Ytedcagoilpaafaa
set_option linter.all false
theorem get7_put7 : ∀ (f v : Nat) (r : List UInt8) (b : Bool), v < 128 ^ (f + 1) → (b = true ∨ 0 < v) → get7 (f + 1) (put7 v ++ r) b = ((v : Int), (put7 v).length, 0)
  | f, v, r, b, hv, hb => by
    by_cases hl : v < 128
    · have e : (UInt8.ofNat v).toNat = v := by rw [UInt8.toNat_ofNat']; omega
      rw [put7_lo hl, List.cons_append, get7, e, if_pos hl, if_neg (by rintro ⟨h1, h2⟩; subst h2; simp at hb; omega)]
      simp
    · have e : (UInt8.ofNat (v % 128 + 128)).toNat = v % 128 + 128 := by rw [UInt8.toNat_ofNat']; omega
      cases f with
      | zero => simp at hv; omega
      | succ f =>
        rw [put7_hi (by omega), List.cons_append, get7, e, if_neg (by omega), get7_put7 f (v / 128) r false (by rw [Nat.pow_succ] at hv; omega) (.inr (by omega))]
        simp
        omega
theorem put7_get7 : ∀ (f : Nat) (r : List UInt8) (b : Bool) (v : Int) (n : Nat), get7 f r b = (v, n, 0) → ∃ m : Nat, v = m ∧ n ≤ r.length ∧ r.take n = put7 m ∧ (b = false → 0 < m)
  | 0, r, b, v, n, h => by simp [get7] at h
  | f + 1, [], b, v, n, h => by simp [get7] at h
  | f + 1, c :: r, b, v, n, h => by
    rw [get7] at h
    split at h
    · rename_i hc
      split at h
      · simp at h
      · rename_i hd
        simp only [Prod.mk.injEq, and_true] at h
        refine ⟨c.toNat, h.1.symm, by rw [← h.2]; simp, ?_, fun e => by have : ¬ c.toNat = 0 := fun e' => hd ⟨e', e⟩; omega⟩
        rw [← h.2, put7_lo hc]; simp
    · rename_i hc
      generalize hg : get7 f r false = g at h
      obtain ⟨v', n', e'⟩ := g
      simp only at h
      split at h
      · rename_i he
        subst he
        obtain ⟨m, h1, h2, h3, h4⟩ := put7_get7 f r false v' n' hg
        simp only [Prod.mk.injEq, and_true] at h
        have hm := h4 rfl
        have hc' := c.toNat_lt
        refine ⟨c.toNat % 128 + 128 * m, by rw [← h.1, h1]; simp, by rw [← h.2]; simp; omega, ?_, fun _ => by omega⟩
        rw [← h.2, List.take_succ_cons, h3, put7_hi (n := c.toNat % 128 + 128 * m) (by omega)]
        congr 1
        · apply UInt8.toNat_inj.1
          rw [UInt8.toNat_ofNat']; omega
        · congr 1; omega
      · rename_i he
        simp only [Prod.mk.injEq] at h
        exact absurd h.2.2 he
theorem nx_put (a r : List UInt8) (v : Int) (h : 0 ≤ v ∧ v ≤ 72057594037927935) : nx (a ++ (pn v ++ r)) a.length = (v, ((a ++ pn v).length : Int), 0) := by
  rw [nx_in (by simp)]
  have : pn v = put7 v.toNat := by simp only [pn, if_pos h]
  rw [List.drop_left, this, get7_put7 7 v.toNat r true (by omega) (.inl rfl)]
  simp [fin7]; omega
theorem nx_get {s : List UInt8} {n v k : Int} (h : nx s n = (v, k, 0)) : 0 ≤ n ∧ n ≤ k ∧ k ≤ s.length ∧ s.take k.toNat = s.take n.toNat ++ pn v ∧ 0 ≤ v ∧ v ≤ 72057594037927935 := by
  have hb := nx_in2 s n
  by_cases hn : 0 ≤ n ∧ n ≤ s.length
  · obtain ⟨i, rfl, hi⟩ : ∃ i : Nat, n = i ∧ i ≤ s.length := ⟨n.toNat, by omega, by omega⟩
    rw [h] at hb
    rw [nx_in hi] at h
    generalize hg : get7 8 (s.drop i) true = g at h
    obtain ⟨v', k', e'⟩ := g
    simp only [fin7] at h
    split at h
    · rename_i he
      subst he
      simp only [Prod.mk.injEq, and_true] at h
      obtain ⟨m, h1, h2, h3, _⟩ := put7_get7 _ _ _ _ _ hg
      rw [List.length_drop] at h2
      have hv : 0 ≤ v ∧ v ≤ 72057594037927935 := by simp only at hb; omega
      refine ⟨by omega, by omega, by omega, ?_, hv.1, hv.2⟩
      have : pn v = put7 m := by simp only [pn, if_pos hv]; congr 1; omega
      rw [this, ← h3, ← h.2]
      have e : ((i : Int) + (k' : Int)).toNat = i + k' := by omega
      rw [e, Int.toNat_natCast, List.take_add]
    · rename_i he
      simp only [Prod.mk.injEq] at h
      exact absurd h.2.2 he
  · rw [nx_out hn] at h; simp at h
theorem rnum_put (a r : List UInt8) (v least most : Int) (h : 0 ≤ v ∧ v ≤ 72057594037927935) (g : least ≤ v ∧ v ≤ most) : rnum (a ++ (pn v ++ r)) least most ((a.length : Int), 0) = (v, ((a ++ pn v).length : Int), 0) := by
  simp only [rnum, nx_put a r v h, ne_eq, not_true_eq_false, if_false]
  rw [if_neg (by omega)]
theorem rtext_put (a t r : List UInt8) (most : Int) (h : t.length ≤ 100000) (g : (t.length : Int) ≤ most) : rtext (a ++ ((pn t.length ++ t) ++ r)) most ((a.length : Int), 0) = (t, ((a ++ (pn t.length ++ t)).length : Int), 0) := by
  have e : a ++ ((pn t.length ++ t) ++ r) = a ++ (pn t.length ++ (t ++ r)) := by simp
  have hn := nx_put a (t ++ r) t.length ⟨by omega, by omega⟩
  simp only [rtext, e, hn, ne_eq, not_true_eq_false, if_false]
  rw [if_neg (by omega), if_neg (by simp; omega)]
  refine Prod.ext ?_ (Prod.ext ?_ rfl)
  · simp only
    have e1 : (((a ++ pn t.length).length : Int) + t.length).toNat = (a ++ pn t.length).length + t.length := by omega
    have e2 : (((a ++ pn t.length).length : Int)).toNat = (a ++ pn t.length).length := by omega
    rw [e1, e2, ← List.append_assoc, List.take_append, List.take_of_length_le (by omega)]
    rw [List.drop_left]
    simp
  · simp; omega
theorem rnum_get {s : List UInt8} {least most : Int} {x : Int × Int} (h : (rnum s least most x).2.2 = 0) : x.2 = 0 ∧ 0 ≤ x.1 ∧ x.1 ≤ (rnum s least most x).2.1 ∧ (rnum s least most x).2.1 ≤ s.length ∧
    s.take (rnum s least most x).2.1.toNat = s.take x.1.toNat ++ pn (rnum s least most x).1 ∧ least ≤ (rnum s least most x).1 ∧ (rnum s least most x).1 ≤ most := by
  unfold rnum at h ⊢
  split at h
  · rename_i h1; exact absurd h h1
  · rename_i h1
    rw [if_neg h1]
    split at h
    · rename_i h2; exact absurd h h2
    · rename_i h2
      rw [if_neg h2]
      split at h
      · simp at h
      · rename_i h3
        rw [if_neg h3]
        have e : nx s x.1 = ((nx s x.1).1, (nx s x.1).2.1, 0) := Prod.ext rfl (Prod.ext rfl (by simpa using h2))
        have := nx_get e
        refine ⟨by simpa using h1, this.1, this.2.1, this.2.2.1, this.2.2.2.1, by simp only; omega, by simp only; omega⟩
theorem rtext_get {s : List UInt8} {most : Int} {x : Int × Int} (h : (rtext s most x).2.2 = 0) : x.2 = 0 ∧ 0 ≤ x.1 ∧ x.1 ≤ (rtext s most x).2.1 ∧ (rtext s most x).2.1 ≤ s.length ∧
    s.take (rtext s most x).2.1.toNat = s.take x.1.toNat ++ (pn (rtext s most x).1.length ++ (rtext s most x).1) ∧ ((rtext s most x).1.length : Int) ≤ most := by
  unfold rtext at h ⊢
  split at h
  · rename_i h1; exact absurd h h1
  · rename_i h1
    rw [if_neg h1]
    split at h
    · rename_i h2; exact absurd h h2
    · rename_i h2
      rw [if_neg h2]
      split at h
      · simp at h
      · rename_i h3
        rw [if_neg h3]
        split at h
        · simp at h
        · rename_i h4
          rw [if_neg h4]
          have e : nx s x.1 = ((nx s x.1).1, (nx s x.1).2.1, 0) := Prod.ext rfl (Prod.ext rfl (by simpa using h2))
          have g := nx_get e
          generalize nx s x.1 = y at *
          obtain ⟨v, k, e'⟩ := y
          simp only at *
          have hl : (((s.take (k + v).toNat).drop k.toNat).length : Int) = v := by simp; omega
          refine ⟨by simpa using h1, g.1, by omega, by omega, ?_, by omega⟩
          rw [hl, ← List.append_assoc, ← g.2.2.2.1]
          have : (k + v).toNat = k.toNat + v.toNat := by omega
          rw [this, List.take_add, List.drop_left' (by simp; omega)]
theorem bit_eq (b : Bool) : decide (bitP b = 1) = b := by cases b <;> simp [bitP]
theorem eq_bit {n : Int} (h : 0 ≤ n ∧ n ≤ 1) : bitP (decide (n = 1)) = n := by
  by_cases e : n = 1
  · simp [bitP, e]
  · have : n = 0 := by omega
    subst this; simp [bitP]
theorem bit_in (b : Bool) : 0 ≤ bitP b ∧ bitP b ≤ 1 := by cases b <;> decide
theorem may_in {x : Es} (h : x.may = true) : x.p.length ≤ 12 ∧ 0 ≤ x.c ∧ x.c ≤ 999 ∧ 0 ≤ x.st ∧ x.st ≤ 1099511627777 := by
  simp only [Es.may, mayP, Bool.and_eq_true, decide_eq_true_eq] at h
  obtain ⟨⟨⟨h1, h2⟩, h3⟩, h4⟩ := h
  refine ⟨(nameP_iff.1 h1).2.1, h2, h3, ?_⟩
  split at h4
  · simp only [Bool.and_eq_true, decide_eq_true_eq] at h4; omega
  · simp only [decide_eq_true_eq] at h4; omega
theorem dec_enc {x : Es} (h : x.may = true) (r : List UInt8) : Es.of (x.enc ++ r) = x ∧ (dst (x.enc ++ r)).2 = ((x.enc.length : Int), 0) := by
  have hi := may_in h
  have b1 := bit_in x.cl
  have b2 := bit_in x.o
  let a1 := pn (bitP x.cl)
  let a2 := a1 ++ pn (bitP x.o)
  let a3 := a2 ++ (pn x.p.length ++ x.p)
  let a4 := a3 ++ pn x.c
  have e0 : x.enc ++ r = [] ++ (pn (bitP x.cl) ++ (pn (bitP x.o) ++ (pn x.p.length ++ x.p) ++ pn x.c ++ pn x.st ++ r)) := by simp [Es.enc]
  have e1 : x.enc ++ r = a1 ++ (pn (bitP x.o) ++ ((pn x.p.length ++ x.p) ++ pn x.c ++ pn x.st ++ r)) := by simp [Es.enc, a1]
  have e2 : x.enc ++ r = a2 ++ ((pn x.p.length ++ x.p) ++ (pn x.c ++ pn x.st ++ r)) := by simp [Es.enc, a1, a2]
  have e3 : x.enc ++ r = a3 ++ (pn x.c ++ (pn x.st ++ r)) := by simp [Es.enc, a1, a2, a3]
  have e4 : x.enc ++ r = a4 ++ (pn x.st ++ r) := by simp [Es.enc, a1, a2, a3, a4]
  have d1 : dcl (x.enc ++ r) = (bitP x.cl, (a1.length : Int), 0) := by
    have := rnum_put [] (pn (bitP x.o) ++ (pn x.p.length ++ x.p) ++ pn x.c ++ pn x.st ++ r) (bitP x.cl) 0 1 (by omega) (by omega)
    rw [← e0] at this
    exact this
  have d2 : dor (x.enc ++ r) = (bitP x.o, (a2.length : Int), 0) := by
    have := rnum_put a1 ((pn x.p.length ++ x.p) ++ pn x.c ++ pn x.st ++ r) (bitP x.o) 0 1 (by omega) (by omega)
    rw [← e1] at this
    rw [dor, d1]; exact this
  have d3 : dpo (x.enc ++ r) = (x.p, (a3.length : Int), 0) := by
    have := rtext_put a2 x.p (pn x.c ++ pn x.st ++ r) 12 (by omega) (by omega)
    rw [← e2] at this
    rw [dpo, d2]; exact this
  have d4 : dch (x.enc ++ r) = (x.c, (a4.length : Int), 0) := by
    have := rnum_put a3 (pn x.st ++ r) x.c 0 999 (by omega) (by omega)
    rw [← e3] at this
    rw [dch, d3]; exact this
  have d5 : dst (x.enc ++ r) = (x.st, (x.enc.length : Int), 0) := by
    have := rnum_put a4 r x.st 0 1099511627777 (by omega) (by omega)
    rw [← e4] at this
    rw [dst, d4]; exact this
  refine ⟨?_, by rw [d5]⟩
  rw [Es.of, d1, d2, d3, d4, d5]
  simp only [bit_eq]
theorem dec_back {x : Es} (h : x.may = true) : decP x.enc = (x, 0) := by
  have := dec_enc h []
  rw [List.append_nil] at this
  simp only [decP, this.2, this.1, rend, h]
  simp
theorem dec_more {x : Es} (h : x.may = true) (c : UInt8) : decP (x.enc ++ [c]) = (Es.zero, 3) := by
  have := dec_enc h [c]
  simp only [decP, this.2, this.1, rend]
  simp [show ((x.enc.length : Int) < x.enc.length + 1) by omega]
theorem enc_dec {v : List UInt8} (h : (decP v).2 = 0) : (decP v).1.may = true ∧ (decP v).1.enc = v := by
  unfold decP at h ⊢
  split at h
  · rename_i h1; exact absurd h h1
  rename_i h1
  rw [if_neg h1]
  split at h
  · rename_i h2
    rw [if_pos h2]
    refine ⟨h2, ?_⟩
    have hr : rend v (dst v).2 = 0 := by simpa using h1
    have h5z : (dst v).2.2 = 0 ∧ ¬ (dst v).2.1 < v.length := by
      unfold rend at hr
      split at hr
      · simp at hr
      · rename_i h3; exact ⟨hr, fun g => h3 ⟨hr, g⟩⟩
    have h5 := rnum_get (s := v) (x := (dch v).2) h5z.1
    have h4 := rnum_get (s := v) (x := (dpo v).2) h5.1
    have h3 := rtext_get (s := v) (x := (dor v).2) h4.1
    have h2 := rnum_get (s := v) (x := (dcl v).2) h3.1
    have h1 := rnum_get (s := v) (x := (0, 0)) h2.1
    have f1 : v.take (dcl v).2.1.toNat = pn (dcl v).1 := h1.2.2.2.2.1
    have f2 : v.take (dor v).2.1.toNat = v.take (dcl v).2.1.toNat ++ pn (dor v).1 := h2.2.2.2.2.1
    have f3 : v.take (dpo v).2.1.toNat = v.take (dor v).2.1.toNat ++ (pn (dpo v).1.length ++ (dpo v).1) := h3.2.2.2.2.1
    have f4 : v.take (dch v).2.1.toNat = v.take (dpo v).2.1.toNat ++ pn (dch v).1 := h4.2.2.2.2.1
    have f5 : v.take (dst v).2.1.toNat = v.take (dch v).2.1.toNat ++ pn (dst v).1 := h5.2.2.2.2.1
    have b1 : bitP (decide ((dcl v).1 = 1)) = (dcl v).1 := eq_bit h1.2.2.2.2.2
    have b2 : bitP (decide ((dor v).1 = 1)) = (dor v).1 := eq_bit h2.2.2.2.2.2
    have hl : v.take (dst v).2.1.toNat = v := List.take_of_length_le (by omega)
    rw [hl, f4, f3, f2, f1] at f5
    simp only [Es.of, Es.enc, b1, b2]
    exact f5.symm
  · simp at h
theorem enc_len {x : Es} (h : x.may = true) : x.enc.length ≤ 64 := by
  have h1 := pn_len (bitP x.cl); have h2 := pn_len (bitP x.o); have h3 := pn_len x.p.length; have h4 := pn_len x.c; have h5 := pn_len x.st
  have := may_in h
  simp [Es.enc]; omega
end Go.Proofs.Ytedcagoilpaafaa
