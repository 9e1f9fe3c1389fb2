import Derived.Test.YtmmmbmljompamaaGreatDoorK7
import Derived.Laws.BitsAllLaws
import Derived.Test.YtmmmbmljompamaaGreatDoorK8
namespace Go.Proofs.YtmmmbmljompamaaGreatDoor
set_option linter.all false
def put7 (n : Nat) : List UInt8 := if n < 128 then [UInt8.ofNat n] else UInt8.ofNat (n % 128 + 128) :: put7 (n / 128)
termination_by n
decreasing_by omega
def pn (v : Int) : List UInt8 := if 0 ≤ v ∧ v ≤ 72057594037927935 then put7 v.toNat else []
theorem put7_lo {n : Nat} (h : n < 128) : put7 n = [UInt8.ofNat n] := by rw [put7, if_pos h]
theorem put7_hi {n : Nat} (h : 128 ≤ n) : put7 n = UInt8.ofNat (n % 128 + 128) :: put7 (n / 128) := by rw [put7, if_neg (by omega)]
theorem put7_len : ∀ (k n : Nat), n < 128 ^ (k + 1) → (put7 n).length ≤ k + 1
  | 0, n, h => by rw [put7_lo (by omega)]; simp
  | k + 1, n, h => by
    by_cases hn : n < 128
    · rw [put7_lo hn]; simp
    · rw [put7_hi (by omega)]
      have := put7_len k (n / 128) (by rw [Nat.pow_succ] at h; omega)
      simp only [List.length_cons]; omega
theorem pn_len (v : Int) : (pn v).length ≤ 8 := by
  unfold pn
  split
  · exact put7_len 7 _ (by simp; omega)
  · simp
theorem put7_ne (n : Nat) : put7 n ≠ [] := by
  by_cases hn : n < 128
  · rw [put7_lo hn]; simp
  · rw [put7_hi (by omega)]; simp
theorem pn_nil (v : Int) : pn v = [] ↔ ¬ (0 ≤ v ∧ v ≤ 72057594037927935) := by
  unfold pn
  split
  · simp [put7_ne, *]
  · simp [*]
def get7 : Nat → List UInt8 → Bool → Int × Nat × Int
  | 0, _, _ => (0, 0, 4)
  | _ + 1, [], _ => (0, 0, 2)
  | f + 1, c :: r, fst =>
    if c.toNat < 128 then (if c.toNat = 0 ∧ fst = false then (0, 0, 3) else ((c.toNat : Int), 1, 0))
    else match get7 f r false with
      | (v, n, e) => if e = 0 then (((c.toNat % 128 : Nat) : Int) + 128 * v, n + 1, 0) else (0, 0, e)
def nx (s : List UInt8) (at' : Int) : Int × Int × Int :=
  if 0 ≤ at' ∧ at' ≤ s.length then
    match get7 8 (s.drop at'.toNat) true with
    | (v, n, e) => if e = 0 then (v, at' + n, 0) else (0, 0, e)
  else (0, 0, 1)
theorem or128 (n : Nat) : IntKind.u8.wrap ((BitVec.ofInt IntKind.u8.bits (IntKind.u8.wrap (n : Int)) ||| BitVec.ofInt IntKind.u8.bits 128).toNat : Int) = ((n % 128 + 128 : Nat) : Int) := by
  have h : ∀ x : BitVec 8, (x ||| 128#8).toNat = x.toNat % 128 + 128 := by decide
  have e : (BitVec.ofInt 8 ((n : Int) % 256)).toNat = n % 256 := by
    rw [BitVec.toNat_ofInt]; omega
  have := h (BitVec.ofInt 8 ((n : Int) % 256))
  rw [IntKind.wrap_u8, IntKind.wrap_u8]
  show ((BitVec.ofInt 8 ((n : Int) % 256) ||| 128#8).toNat : Int) % 256 = _
  rw [this, e]
  omega
theorem shr7 (n : Nat) : (n : Int).fdiv (2 ^ (min 7 IntKind.u64.bits)) = ((n / 128 : Nat) : Int) := by
  have : (2 : Int) ^ (min 7 IntKind.u64.bits) = 128 := by decide
  rw [this, Int.fdiv_eq_ediv_of_nonneg _ (by omega)]
  omega
end Go.Proofs.YtmmmbmljompamaaGreatDoor

namespace Go.Proofs.YtmmmbmljompamaaGreatDoor
set_option linter.all false
set_option maxRecDepth 100000
theorem max_bigL : 1000000 ≤ maxLen := by unfold maxLen; decide
abbrev btl (l : List UInt8) : List (List AV) := l.map byteEl
theorem sxLeb {A B : Prop} (h : B) (e : A = B := by (simp (disch := omega) only [*, ↓Ed, Eu, ↓reduceIte, reduceCtorEq, Nat.reduceAdd, Nat.reduceEqDiff, Nat.reduceLT, Nat.reduceLeDiff, Int.reduceToNat, Int.reduceEq, Int.reduceLT, Int.reduceLE, w64, or128, shr7, List.length_map, List.length_append]; first | done | rfl)) : A := e ▸ h
theorem p_may (v : Int) : CP Tryz.prog 64 [.int .i64 v] (.bool (decide (0 ≤ v ∧ v ≤ 72057594037927935))) := by
  refine ok_leb_may _ _ (by simp) ?_
  simp only [c_leb_may, ↓Ed, Eu, ↓reduceIte, reduceCtorEq, Nat.reduceAdd, Nat.reduceEqDiff, Nat.reduceLT, Nat.reduceLeDiff, Int.reduceToNat, Int.reduceEq, Int.reduceLT, Int.reduceLE, w64, or128, shr7, List.length_map, List.length_append]
  repeat' ((first | refine NewB_intro0 (fun b => ?_) | (refine NewB_intro (fun b hb => ?_); simp only [ln_cons2, ln_nil, and_true] at hb) | (with_reducible apply wA; focus exact OM_a) | ((first | refine gW_sp ?_ | refine condW_sp ?_ | refine pickW_sp ?_); (try refine Sp_n ?_); (first | refine wT ?_ | refine wF ?_ | refine wL (fun h h' => ?_) (fun h h' => ?_) | refine wE (fun h h' => ?_) (fun h h' => ?_) | refine Sp_split (fun h => ?_) (fun h => ?_)) <;> (try (exfalso; omega))) | refine TreeW_intro (by rfl) ?_ | refine TreeW_all ?_ | refine upQ_intro ?_ | refine Two_intro ?_ ?_ | exact wZ | fail) <;> (try refine sxLeb ?_) <;> (try exact True.intro))
  all_goals (try simp only [Fact, Bool.not_eq_true', Bool.not_eq_false', decide_eq_true_eq, decide_eq_false_iff_not] at *)
  all_goals simp [*]
  all_goals omega
theorem el_hi (u : Nat) : [[AV.int .u8 ((u % 128 + 128 : Nat) : Int)]] = btl [UInt8.ofNat (u % 128 + 128)] := by
  have : (UInt8.ofNat (u % 128 + 128)).toNat = u % 128 + 128 := by rw [UInt8.toNat_ofNat']; omega
  show [[AV.int .u8 _]] = [[AV.int .u8 (((UInt8.ofNat (u % 128 + 128)).toNat : Nat) : Int)]]
  rw [this]
theorem el_lo (u : Nat) (h : u < 128) : [[AV.int .u8 (IntKind.u8.wrap (u : Int))]] = btl [UInt8.ofNat u] := by
  have : (UInt8.ofNat u).toNat = u := by rw [UInt8.toNat_ofNat']; omega
  simp only [List.map_cons, List.map_nil, byteEl, this, IntKind.wrap_u8, List.cons.injEq, AV.int.injEq, and_true, true_and]
  omega
theorem p_Put (v : Int) : CP Tryz.prog 46 [.int .i64 v] (.str (pn v)) := by
  have hm := max_bigL
  refine ok_leb_Put _ _ (by simp) ?_
  simp only [c_leb_Put, ↓Ed, Eu, ↓reduceIte, reduceCtorEq, Nat.reduceAdd, Nat.reduceEqDiff, Nat.reduceLT, Nat.reduceLeDiff, Int.reduceToNat, Int.reduceEq, Int.reduceLT, Int.reduceLE, w64, or128, shr7, List.length_map, List.length_append]
  repeat' ((first | refine CallO_pure (p_may _) ?_ | refine NewB_intro0 (fun b => ?_) | (refine NewB_intro (fun b hb => ?_); simp only [ln_cons2, ln_nil, and_true] at hb) | (with_reducible apply wA; focus exact OM_a) | ((first | refine gW_sp ?_ | refine condW_sp ?_ | refine pickW_sp ?_); (try refine Sp_n ?_); (first | refine wT ?_ | refine wF ?_ | refine wL (fun h h' => ?_) (fun h h' => ?_) | refine wE (fun h h' => ?_) (fun h h' => ?_) | refine Sp_split (fun h => ?_) (fun h => ?_)) <;> (try (exfalso; omega))) | refine TreeW_intro (by rfl) ?_ | refine TreeW_all ?_ | refine upQ_intro ?_ | refine Two_intro ?_ ?_ | exact wZ | fail) <;> (try refine sxLeb ?_) <;> (try exact True.intro))
  · have hv := of_decide_eq_true h
    have hp : pn v = put7 v.toNat := by simp only [pn, if_pos hv]
    have h8 := pn_len v
    rw [hp] at h8 ⊢
    refine wpx_loop (fun x : List UInt8 × Nat => ⟨lk [(3, .sl (some 5) 1 (btl x.1)), (4, .int .u64 (x.2 : Int))], lk []⟩) (fun x => x.1 ++ put7 x.2 = put7 v.toNat ∧ x.1.length ≤ 8) (fun x => x.2) ([], v.toNat) (by simp) (Le_lit (by simp [LeL, lk, IntKind.wrap_u64]; omega)) ?_
    rintro ⟨out, u⟩ ⟨h1, h2⟩
    simp only at h1 h2
    simp only [↓Ed, Eu, ↓reduceIte, reduceCtorEq, Nat.reduceAdd, Nat.reduceEqDiff, Nat.reduceLT, Nat.reduceLeDiff, Int.reduceToNat, Int.reduceEq, Int.reduceLT, Int.reduceLE, w64, or128, shr7, List.length_map, List.length_append]
    repeat' ((first | refine NewB_intro0 (fun b => ?_) | (refine NewB_intro (fun b hb => ?_); simp only [ln_cons2, ln_nil, and_true] at hb) | (with_reducible apply wA; focus exact OM_a) | ((first | refine gW_sp ?_ | refine condW_sp ?_ | refine pickW_sp ?_); (try refine Sp_n ?_); (first | refine wT ?_ | refine wF ?_ | refine wL (fun h h' => ?_) (fun h h' => ?_) | refine wE (fun h h' => ?_) (fun h h' => ?_) | refine Sp_split (fun h => ?_) (fun h => ?_)) <;> (try (exfalso; omega))) | refine TreeW_intro (by rfl) ?_ | refine TreeW_all ?_ | refine upQ_intro ?_ | refine Two_intro ?_ ?_ | exact wZ | fail) <;> (try refine sxLeb ?_) <;> (try exact True.intro))
    · rw [el_hi, ← List.map_append]
      rw [put7_hi (by omega), List.append_cons] at h1
      refine Round_lit (out ++ [UInt8.ofNat (u % 128 + 128)], u / 128) ⟨Le_lit (by simp [LeL, lk]), ⟨h1, ?_⟩, by simp only; omega⟩
      rw [← h1] at h8
      simp only [List.length_append] at h8 ⊢
      omega
    · rw [put7_lo (by omega)] at h1
      rw [el_lo u (by omega), ← List.map_append, h1, BytesW_map]
      simp only [↓Ed, Eu, ↓reduceIte, reduceCtorEq, Nat.reduceAdd, Nat.reduceEqDiff, Nat.reduceLT, Nat.reduceLeDiff, Int.reduceToNat, Int.reduceEq, Int.reduceLT, Int.reduceLE, w64, or128, shr7, List.length_map, List.length_append]
  · have hv := of_decide_eq_false h
    simp only [pn, if_neg hv]
end Go.Proofs.YtmmmbmljompamaaGreatDoor

namespace Go.Proofs.YtmmmbmljompamaaGreatDoor
set_option linter.all false
set_option maxRecDepth 100000
end Go.Proofs.YtmmmbmljompamaaGreatDoor

namespace Go.Proofs.YtmmmbmljompamaaGreatDoor
set_option linter.all false
open Go.RowKit
mutual
def conc : AV → Option Value
  | .int k n => some (.int k n)
  | .bool b => some (.bool b)
  | .str l => some (.string ⟨l.toArray⟩)
  | .tup cs => (concs cs).map fun vs => .tuple vs.toArray
  | _ => none
def concs : List AV → Option (List Value)
  | [] => some []
  | c :: cs => match conc c, concs cs with
    | some v, some vs => some (v :: vs)
    | _, _ => none
end
theorem conc_unique {W : World} {U : Nat → Nat → Prop} {a : AV} {v u : Value} (h : VR W U u a) (hc : conc a = some v) (hp : ∀ cs, a ≠ .tup cs) : u = v := by
  cases h <;> simp [conc] at hc <;> first | exact hc | exact absurd rfl (hp _)
theorem concs_get : ∀ {cs : List AV} {vs : List Value}, concs cs = some vs → vs.length = cs.length ∧ ∀ (i : Nat) (v : Value) (c : AV), vs[i]? = some v → cs[i]? = some c → conc c = some v
  | [], vs, h => by
    simp only [concs, Option.some.injEq] at h
    subst h; simp
  | c :: cs, vs, h => by
    rw [concs] at h
    split at h
    · rename_i v ws h1 h2
      cases h
      have ih := concs_get h2
      refine ⟨by simp [ih.1], fun i u d hu hd => ?_⟩
      cases i with
      | zero => simp at hu hd; subst hu; subst hd; exact h1
      | succ i => exact ih.2 i u d (by simpa using hu) (by simpa using hd)
    · cases h
theorem conc_reads (W : World) (U : Nat → Nat → Prop) : ∀ (n : Nat) (a : AV) (v : Value), SizeOf.sizeOf a ≤ n → conc a = some v → VR W U v a
  | 0, a, v, hn, h => by cases a <;> simp at hn
  | n + 1, a, v, hn, h => by
    cases a <;> simp only [conc, Option.some.injEq, reduceCtorEq] at h
    · subst h; exact .int _ _
    · subst h; exact .bool _
    · subst h; exact .str _
    · rename_i cs
      cases hc : concs cs with
      | none => rw [hc] at h; cases h
      | some vs =>
        rw [hc] at h
        cases h
        have hg := concs_get hc
        refine .tup vs cs hg.1 fun i v c hv hc => conc_reads W U n c v ?_ (hg.2 i v c hv hc)
        have := List.sizeOf_lt_of_mem (List.mem_of_getElem? hc)
        simp at hn
        omega
theorem CP_libG {P : Program} {f : Nat} {av : List AV} {vs : List Value} {r : AV} {v : Value} (ha : concs av = some vs) (hp : ∀ a ∈ av, ∀ cs, a ≠ .tup cs) (hr : conc r = some v)
    (h : ∀ W U, Glob W U → Calls P f vs.toArray W fun e W' => e = .returned v ∧ Below W.heap.size W W') : CP P f av r := by
  intro W U us hG hl hu
  have hg := concs_get ha
  have he : us = vs := by
    apply List.ext_getElem?
    intro i
    by_cases hi : i < us.length
    · have h1 : i < vs.length := by omega
      have h2 : i < av.length := by omega
      rw [List.getElem?_eq_getElem hi, List.getElem?_eq_getElem h1]
      refine congrArg some (conc_unique (hu i _ av[i] (List.getElem?_eq_getElem hi) (List.getElem?_eq_getElem h2)) (hg.2 i _ _ (List.getElem?_eq_getElem h1) (List.getElem?_eq_getElem h2)) (hp _ (List.getElem_mem h2)))
    · rw [List.getElem?_eq_none (by omega), List.getElem?_eq_none (by omega)]
  subst he
  refine (h W U hG).mono ?_
  rintro e W' ⟨rfl, hb⟩
  refine ⟨v, fun k o => if k < W.heap.size then U k o else False, rfl, conc_reads _ _ _ r v (Nat.le_refl _) hr, ?_, hb, fun k hk o => by simp [hk]⟩
  cases r <;> first | trivial | simp [conc] at hr
theorem CP_lib {P : Program} {f : Nat} {av : List AV} {vs : List Value} {r : AV} {v : Value} (ha : concs av = some vs) (hp : ∀ a ∈ av, ∀ cs, a ≠ .tup cs) (hr : conc r = some v)
    (h : ∀ W, Calls P f vs.toArray W fun e W' => e = .returned v ∧ Below W.heap.size W W') : CP P f av r := CP_libG ha hp hr fun W _ _ => h W
end Go.Proofs.YtmmmbmljompamaaGreatDoor
