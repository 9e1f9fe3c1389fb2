import Derived.Test.YtlefegihikpilaaDoorK8
/- The abstract machine: contracts of library functions over plain values, taken from the kit's shelf. -/
namespace Go.Proofs.YtlefegihikpilaaDoor
set_option linter.all false
open Go.RowKit
mutual
/-- The one value that reads as this. -/
def conc : AV → Option Value
  | .int k n => some (.int k n)
  | .bool b => some (.bool b)
  | .str l => some (.string ⟨l.toArray⟩)
  | .tup cs => (concs cs).map fun vs => .tuple vs.toArray
  | _ => none
def concs : List AV → Option (List Value)
  | [] => some []
  | c :: cs => match conc c, concs cs with
    | some v, some vs => some (v :: vs)
    | _, _ => none
end
theorem conc_unique {W : World} {U : Nat → Nat → Prop} {a : AV} {v u : Value} (h : VR W U u a) (hc : conc a = some v) (hp : ∀ cs, a ≠ .tup cs) : u = v := by
  cases h <;> simp [conc] at hc <;> first | exact hc | exact absurd rfl (hp _)
theorem concs_get : ∀ {cs : List AV} {vs : List Value}, concs cs = some vs → vs.length = cs.length ∧ ∀ (i : Nat) (v : Value) (c : AV), vs[i]? = some v → cs[i]? = some c → conc c = some v
  | [], vs, h => by
    simp only [concs, Option.some.injEq] at h
    subst h; simp
  | c :: cs, vs, h => by
    rw [concs] at h
    split at h
    · rename_i v ws h1 h2
      cases h
      have ih := concs_get h2
      refine ⟨by simp [ih.1], fun i u d hu hd => ?_⟩
      cases i with
      | zero => simp at hu hd; subst hu; subst hd; exact h1
      | succ i => exact ih.2 i u d (by simpa using hu) (by simpa using hd)
    · cases h
theorem conc_reads (W : World) (U : Nat → Nat → Prop) : ∀ (n : Nat) (a : AV) (v : Value), SizeOf.sizeOf a ≤ n → conc a = some v → VR W U v a
  | 0, a, v, hn, h => by cases a <;> simp at hn
  | n + 1, a, v, hn, h => by
    cases a <;> simp only [conc, Option.some.injEq, reduceCtorEq] at h
    · subst h; exact .int _ _
    · subst h; exact .bool _
    · subst h; exact .str _
    · rename_i cs
      cases hc : concs cs with
      | none => rw [hc] at h; cases h
      | some vs =>
        rw [hc] at h
        cases h
        have hg := concs_get hc
        refine .tup vs cs hg.1 fun i v c hv hc => conc_reads W U n c v ?_ (hg.2 i v c hv hc)
        have := List.sizeOf_lt_of_mem (List.mem_of_getElem? hc)
        simp at hn
        omega
/-- A library function over plain values: what it returns, and that nothing of what was there has turned. -/
theorem CP_libG {P : Program} {f : Nat} {as : List AV} {vs : List Value} {r : AV} {v : Value} (ha : concs as = some vs) (hp : ∀ a ∈ as, ∀ cs, a ≠ .tup cs) (hr : conc r = some v)
    (h : ∀ W U, Glob W U → Calls P f vs.toArray W fun e W' => e = .returned v ∧ Below W.heap.size W W') : CP P f as r := by
  intro W U us hG hl hu
  have hg := concs_get ha
  have he : us = vs := by
    apply List.ext_getElem?
    intro i
    by_cases hi : i < us.length
    · have h1 : i < vs.length := by omega
      have h2 : i < as.length := by omega
      rw [List.getElem?_eq_getElem hi, List.getElem?_eq_getElem h1]
      refine congrArg some (conc_unique (hu i _ as[i] (List.getElem?_eq_getElem hi) (List.getElem?_eq_getElem h2)) (hg.2 i _ _ (List.getElem?_eq_getElem h1) (List.getElem?_eq_getElem h2)) (hp _ (List.getElem_mem h2)))
    · rw [List.getElem?_eq_none (by omega), List.getElem?_eq_none (by omega)]
  subst he
  refine (h W U hG).mono ?_
  rintro e W' ⟨rfl, hb⟩
  refine ⟨v, fun k o => if k < W.heap.size then U k o else False, rfl, conc_reads _ _ _ r v (Nat.le_refl _) hr, ?_, hb, fun k hk o => by simp [hk]⟩
  cases r <;> first | trivial | simp [conc] at hr
/-- .. that reads no listed variable. -/
theorem CP_lib {P : Program} {f : Nat} {as : List AV} {vs : List Value} {r : AV} {v : Value} (ha : concs as = some vs) (hp : ∀ a ∈ as, ∀ cs, a ≠ .tup cs) (hr : conc r = some v)
    (h : ∀ W, Calls P f vs.toArray W fun e W' => e = .returned v ∧ Below W.heap.size W W') : CP P f as r := CP_libG ha hp hr fun W _ _ => h W
end Go.Proofs.YtlefegihikpilaaDoor
