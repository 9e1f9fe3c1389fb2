/- The abstract machine, part 6: slices, strings, appends, calls, stores, new blocks. -/
import Derived.Test.YtedcagoilpaafaaDoorMe
import Derived.Great.BuildSlice
namespace Go.Proofs.YtedcagoilpaafaaDoor
set_option linter.all false
open Go.RowKit

section
variable {P : Program} {N : Nat} {W0 : World} {U0 : Nat → Nat → Prop} {M : Nat → Prop} {a : Act} {W : World} {U : Nat → Nat → Prop} {s : St} {o : Oper} {r : AV}

theorem run_sliceBound {k : IntKind} {i : Int} {y : Nat} (h0 : 0 ≤ i) (h1 : i.toNat ≤ y) (c : BoundsCode) : (Instr.sliceBound (.int k i) y c).run P W = .ok i.toNat W := by
  have h2 : i ≤ (y : Int) := by omega
  simp [Instr.sliceBound, asIntOf, h0, h2]

/-- The bounds of a slice expression. -/
theorem run_bounds (h : Inv N W0 U0 M a W U s) {lo hi : Option Operand} {LO HI : Option Opd} (hlo : cOptOpd lo = some LO) (hhi : cOptOpd hi = some HI) {len cap x y : Nat} (hx : boundR s 0 LO x) (hy : boundR s len HI y) (hxy : x ≤ y) (hyl : y ≤ len)
    (hlc : len ≤ cap) (sl : Bool) : (Instr.sliceBounds sl len cap (lo.map a.eval) (hi.map a.eval) none).run P W = .ok (x, y, cap) W := by
  have hb : ∀ {z : Option Operand} {Z : Option Opd} {d r : Nat}, cOptOpd z = some Z → boundR s d Z r → (z = none ∧ r = d) ∨ ∃ z' k n, z = some z' ∧ a.eval z' = .int k n ∧ 0 ≤ n ∧ r = n.toNat := by
    intro z Z d r hz hr
    cases z with
    | none =>
      simp only [cOptOpd, Option.some.injEq] at hz
      subst hz
      exact .inl ⟨rfl, hr⟩
    | some z' =>
      cases hc : cOpd z' with
      | none => simp [cOptOpd, hc] at hz
      | some Z' =>
        simp only [cOptOpd, hc, Option.map_some, Option.some.injEq] at hz
        subst hz
        obtain ⟨k, n, h1, h2, h3⟩ := hr
        exact .inr ⟨z', k, n, rfl, (cOpd_sound h hc h1).int_inv, h2, h3⟩
  rcases hb hlo hx with ⟨rfl, rfl⟩ | ⟨z1, k1, n1, rfl, e1, p1, rfl⟩
  · rcases hb hhi hy with ⟨rfl, rfl⟩ | ⟨z2, k2, n2, rfl, e2, p2, rfl⟩
    · simp [Instr.sliceBounds]
    · simp [Instr.sliceBounds, e2, run_sliceBound p2 (Nat.le_trans hyl hlc)]
  · rcases hb hhi hy with ⟨rfl, rfl⟩ | ⟨z2, k2, n2, rfl, e2, p2, rfl⟩
    · simp [Instr.sliceBounds, e1, run_sliceBound p1 hxy]
    · simp [Instr.sliceBounds, e1, e2, run_sliceBound p1 hxy, run_sliceBound p2 (Nat.le_trans hyl hlc)]

theorem extract_str (l : List UInt8) (x y : Nat) : (⟨l.toArray⟩ : ByteArray).extract x y = ⟨((l.take y).drop x).toArray⟩ := by
  apply ByteArray.ext
  rw [ByteArray.data_extract]
  apply Array.ext'
  simp [List.drop_take]

theorem s_slc (h : Inv N W0 U0 M a W U s) {t : TypeId} {x : Operand} {lo hi : Option Operand} {X : Opd} {LO HI : Option Opd} (ho : o.op = .slice t x lo hi none) (ht : P.underlying t = some .string) (hx : cOpd x = some X) (hlo : cOptOpd lo = some LO) (hhi : cOptOpd hi = some HI)
    (hr : opR P s (.slc none X LO HI) r) : VOK P a o W U r := by
  obtain ⟨l, x1, y1, hp, h1, h2, ⟨h3, h4⟩, rfl⟩ := hr
  have hv := (cOpd_sound h hx hp).str_inv
  refine VOK.same (v := .string ⟨((l.take y1).drop x1).toArray⟩) ?_ (.str _) (by simp)
  have hb := run_bounds (P := P) (a := a) (W := W) h hlo hhi (cap := l.length) h1 h2 h3 h4 (Nat.le_refl _) false
  simp [execOp, ho, Instr.sliceAt, run_underlying ht, Instr.slice, hv, size_str, hb, extract_str]

theorem s_slcs (h : Inv N W0 U0 M a W U s) {t : TypeId} {e : Nat} {i : TypeInfo} {x : Operand} {lo hi : Option Operand} {X : Opd} {LO HI : Option Opd} (ho : o.op = .slice t x lo hi none) (ht : P.underlying t = some (.slice e)) (hi' : P.info? e = some i)
    (hx : cOpd x = some X) (hlo : cOptOpd lo = some LO) (hhi : cOptOpd hi = some HI) (hr : opR P s (.slc (some i.size) X LO HI) r) : VOK P a o W U r := by
  obtain ⟨own, l, x1, y1, hp, h1, h2, ⟨h3, h4⟩, rfl⟩ := hr
  have hv := cOpd_sound h hx hp
  generalize hval : a.eval x = val at hv
  cases hv with
  | sl A cap _ _ b off _ f hcap hmax hA hs hc hvv =>
    have hb := run_bounds (P := P) (a := a) (W := W) h hlo hhi (cap := cap) h1 h2 h3 h4 hcap true
    refine VOK.same (v := .slice (if cap = x1 then A else A.map (·.add (x1 * i.size))) (y1 - x1) (cap - x1)) ?_ ?_ (by simp)
    · simp [execOp, ho, Instr.sliceAt, run_underlying ht, Instr.slice, hval, hb, sizeOf, typeInfo, hi']
    · have hlen : ((l.take y1).drop x1).length = y1 - x1 := by simp; omega
      rw [← hlen]
      refine .sl _ (cap - x1) none _ b (off + x1 * i.size) i.size (fun i j => f (x1 + i) j) (by omega) (by omega) (fun hpos => ?_) (fun e he => hs e (List.mem_of_mem_take (List.mem_of_mem_drop he))) (fun j k hj hk => ?_) (fun j e' k c he hcc => ?_)
      · obtain rfl := hA (by omega)
        rw [if_neg (by omega)]
        simp [add_mk]
      · have := hc (x1 + j) k (by omega) hk
        rw [Nat.add_mul, ← Nat.add_assoc] at this
        exact this
      · rw [List.getElem?_drop, List.getElem?_take] at he
        split at he
        · exact hvv _ e' k c he hcc
        · cases he

theorem s_b2s (h : Inv N W0 U0 M a W U s) {src dst e : TypeId} {x : Operand} {X : Opd} (ho : o.op = .convert src dst x) (hs : P.underlying src = some (.slice e)) (hd : P.underlying dst = some .string) (he : P.underlying e = some (.int .u8)) (hx : cOpd x = some X)
    (hr : opR P s (.b2s X) r) : VOK P a o W U r := by
  obtain ⟨own, l, hp, rfl⟩ := hr
  have hv := cOpd_sound h hx hp
  generalize hval : a.eval x = val at hv
  cases hv with
  | sl A cap _ _ b off _ f hcap hmax hA hsz hc hvv =>
    have hbyte : ∀ j (hj : j < l.length), f j 0 = .int .u8 (l[j].toNat : Int) := fun j hj => (hvv j (byteEl l[j]) 0 (.int .u8 (l[j].toNat : Int)) (by simp [hj]) rfl).int_inv
    refine VOK.same (v := .string ⟨l.toArray⟩) ?_ (.str _) (by simp)
    cases A with
    | none =>
      have hl0 : l = [] := by
        cases l with
        | nil => rfl
        | cons c l => have := hA (by simp); cases this
      subst hl0
      simp [execOp, ho, hval, convert, run_underlying hs, run_underlying hd, run_underlying he, Conv.bytesToString]
      rfl
    | some A =>
      have hload : (loadCells A (l.map byteEl).length).run P W = .ok ((l.map fun c => (c.toNat : Int)).map (Value.int .u8)).toArray W := by
        have hh := run_loadCells_list (P := P) (w := W) A ((l.map fun c => (c.toNat : Int)).map (Value.int .u8)) (fun j v hj => by
          have hjl : j < l.length := by
            rcases Nat.lt_or_ge j l.length with hj' | hj'
            · exact hj'
            · rw [List.getElem?_eq_none (by simp; omega)] at hj; cases hj
          have hA' := hA (by simp; omega)
          cases hA'
          have hcell := (hc j 0 (by simpa using hjl) (by omega)).1
          simp only [Nat.mul_one, Nat.add_zero] at hcell
          rw [add_mk, hcell, hbyte j hjl]
          simpa [hjl] using hj)
        simpa using hh
      have hrun := run_bytesToString (P := P) W A (l.map byteEl).length cap _ hload
      have hfold : ∀ (m : List UInt8) (acc : ByteArray), (m.map fun c => (c.toNat : Int)).foldl (fun (r : ByteArray) (n : Int) => r.push (UInt8.ofNat n.toNat)) acc = ⟨(acc.data.toList ++ m).toArray⟩ := by
        intro m
        induction m with
        | nil => intro acc; simp
        | cons c m ih =>
          intro acc
          simp only [List.map_cons, List.foldl_cons, ih]
          simp
      rw [hfold] at hrun
      have hem : (ByteArray.empty.data.toList ++ l) = l := by simp
      rw [hem] at hrun
      simp only [execOp, ho, hval, convert, run_underlying hs, run_underlying hd, run_underlying he, Sem.run_bind, Result.andThen_ok, hrun]
      rfl
end
end Go.Proofs.YtedcagoilpaafaaDoor
