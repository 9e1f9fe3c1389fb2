/- The abstract machine, part 8: slice and struct literals, calls, stores, new blocks, handing a row on. -/
import Derived.Test.YtedcagoilpaafaaDoorMg
namespace Go.Proofs.YtedcagoilpaafaaDoor
set_option linter.all false
open Go.RowKit

section
variable {P : Program} {N : Nat} {W0 : World} {U0 : Nat → Nat → Prop} {M : Nat → Prop} {a : Act} {W W' : World} {U U' : Nat → Nat → Prop} {s : St} {o : Oper} {r : AV}

/-- The cells of a value. -/
theorem cells_VR {v : Value} {c : AV} (h : VR W U v c) (hp : 0 < c.cells.length ∨ ∃ cs, c = .agg cs) : v.cells.size = c.cells.length ∧
    ∀ (j : Nat) (u : Value), v.cells[j]? = some u → u.oneCell' = true ∧ ∀ x, c.cells[j]? = some x → VR W U u x ∧ ∀ e sz els, x ≠ .sl (some e) sz els := by
  have one : v.cells = #[v] → v.oneCell' = true → c.cells = [c.alias] → (v.cells.size = c.cells.length ∧
    ∀ (j : Nat) (u : Value), v.cells[j]? = some u → u.oneCell' = true ∧ ∀ x, c.cells[j]? = some x → VR W U u x ∧ ∀ e sz els, x ≠ .sl (some e) sz els) := by
    intro h1 h2 h3
    refine ⟨by simp [h1, h3], fun j u hu => ?_⟩
    rw [h1] at hu
    have hj : j = 0 := by
      rcases Nat.eq_zero_or_pos j with h0 | h0
      · exact h0
      · rw [Array.getElem?_eq_none (by simp; omega)] at hu; cases hu
    subst hj
    obtain rfl : v = u := by simpa using hu
    refine ⟨h2, fun x hx => ?_⟩
    rw [h3] at hx
    obtain rfl : c.alias = x := by simpa using hx
    exact ⟨h.alias, alias_plain c⟩
  cases h with
  | agg vs cs hl hv h1 =>
    refine ⟨by simp [Value.cells, AV.cells, hl], fun j u hu => ?_⟩
    have hu' : vs[j]? = some u := by simpa [Value.cells] using hu
    refine ⟨h1 u (List.mem_of_getElem? hu'), fun x hx => ?_⟩
    simp only [AV.cells, List.getElem?_map, Option.map_eq_some_iff] at hx
    obtain ⟨y, hy, rfl⟩ := hx
    exact ⟨(hv j u y hu' hy).store, store_plain y⟩
  | tup => simp [AV.cells] at hp
  | undef => simp [AV.cells] at hp
  | _ => exact one rfl rfl rfl

theorem evs_len {xs : List Opd} {vs : List AV} (h : evs s xs = some vs) : vs.length = xs.length ∧ ∀ (i : Nat) (x : Opd), xs[i]? = some x → ∃ v, vs[i]? = some v ∧ x.ev s = some v := by
  induction xs generalizing vs with
  | nil =>
    simp only [evs, Option.some.injEq] at h
    subst h
    exact ⟨rfl, fun i x hx => by simp at hx⟩
  | cons x r ih =>
    simp only [evs] at h
    split at h
    · rename_i v vs' h1 h2
      simp only [Option.some.injEq] at h
      subst h
      obtain ⟨e1, e2⟩ := ih h2
      refine ⟨by simp [e1], fun i y hy => ?_⟩
      cases i with
      | zero => simp at hy; subst hy; exact ⟨v, rfl, h1⟩
      | succ i => simpa using e2 i y (by simpa using hy)
    · cases h

theorem cParts_spec {l : List (Nat × Operand)} {n : Nat} {ps : List Opd} (h : cParts l n = some ps) : ∃ xs : List Operand, l = (xs.zipIdx n).map (fun x => (x.2, x.1)) ∧ xs.length = ps.length ∧ ∀ (i : Nat) (x : Operand), xs[i]? = some x → ∃ p, ps[i]? = some p ∧ cOpd x = some p := by
  induction l generalizing n ps with
  | nil =>
    simp only [cParts, Option.some.injEq] at h
    subst h
    exact ⟨[], rfl, rfl, fun i x hx => by simp at hx⟩
  | cons y r ih =>
    obtain ⟨i, x⟩ := y
    simp only [cParts] at h
    split at h
    · rename_i hi
      subst hi
      split at h
      · rename_i p ps' h1 h2
        simp only [Option.some.injEq] at h
        subst h
        obtain ⟨xs, e1, e2, e3⟩ := ih h2
        refine ⟨x :: xs, by simp [List.zipIdx_cons, e1], by simp [e2], fun j z hz => ?_⟩
        cases j with
        | zero => simp at hz; subst hz; exact ⟨p, rfl, h1⟩
        | succ j => simpa using e3 j z (by simpa using hz)
      · cases h
    · cases h

theorem s_bs (h : Inv N W0 U0 M a W U s) {t e sz n : Nat} {parts : Array (Nat × Operand)} {ps : List Opd} (ho : o.op = .buildSlice t n parts) (ht : isSlice P t = some (e, sz)) (hp : cParts parts.toList 0 = some ps) (hl : ps.length = n) (hm : n * sz ≤ 16777216) (hpos : 0 < n * sz)
    (hz : zeroSize P e = some sz) (hr : opR P s (.bs e sz ps) r) : VOK P a o W U r := by
  obtain ⟨vs, hvs, hall, rfl⟩ := hr
  obtain ⟨i, hu, hi, rfl⟩ := isSlice_cases ht
  obtain ⟨z, hz1, hz2⟩ : ∃ z, i.zero = some z ∧ z.cells.size = i.size := by
    simp only [zeroSize, hi, Option.bind_some, Option.map_eq_some_iff] at hz
    exact hz
  obtain ⟨xs, hx1, hx2, hx3⟩ := cParts_spec hp
  obtain ⟨he1, he2⟩ := evs_len hvs
  have hsz : 0 < i.size := by
    rcases Nat.eq_zero_or_pos i.size with h0 | h0
    · rw [h0] at hpos; simp at hpos
    · exact h0
  have hVR : ∀ (k : Nat) (x : Operand), xs[k]? = some x → ∃ v, vs[k]? = some v ∧ VR W U (a.eval x) v := by
    intro k x hk
    obtain ⟨p, hp1, hp2⟩ := hx3 k x hk
    obtain ⟨v, hv1, hv2⟩ := he2 k p hp1
    exact ⟨v, hv1, cOpd_sound h hp2 hv2⟩
  have hcz : ∀ (k : Nat) (x : Operand), xs[k]? = some x → ∃ v, vs[k]? = some v ∧ v.cells.length = i.size ∧ (a.eval x).cells.size = i.size ∧ ∀ (j : Nat) (u : Value), (a.eval x).cells[j]? = some u → u.oneCell' = true ∧ ∀ y, v.cells[j]? = some y → VR W U u y := by
    intro k x hk
    obtain ⟨v, hv1, hv2⟩ := hVR k x hk
    have hc := hall v (List.mem_of_getElem? hv1)
    obtain ⟨q1, q2⟩ := cells_VR hv2 (.inl (by omega))
    exact ⟨v, hv1, hc, by omega, fun j u hu' => ⟨(q2 j u hu').1, fun y hy => ((q2 j u hu').2 y hy).1⟩⟩
  have hcells : ∀ v ∈ xs.map a.eval, v.cells.size = i.size := by
    intro v hv
    obtain ⟨x, hx, rfl⟩ := List.mem_map.1 hv
    obtain ⟨k, hk⟩ := List.mem_iff_getElem?.1 hx
    obtain ⟨_, _, _, hh, _⟩ := hcz k x hk
    exact hh
  have hlist : (parts.map fun (i, x) => (i, a.eval x)).toList = ((xs.map a.eval).zipIdx 0).map fun x => (x.2, x.1) := by
    rw [Array.toList_map, hx1, List.zipIdx_map, List.map_map, List.map_map]
    rfl
  have hnl : (xs.map a.eval).length = n := by simp [hx2, hl]
  have hf := Go.Great.fill_whole hsz (xs.map a.eval) ((Array.range (n * i.size)).map (z.cells[· % z.cells.size]!)) hcells (by rw [hnl]; simp)
  rw [← hlist] at hf
  have hrun := run_buildSlice (P := P) W t e n _ _ i z hu hi hz1 (by omega) (by omega) hf
  have hE := Ext.alloc W U (.cells ((xs.map a.eval).flatMap fun v => v.cells.toList).toArray e) (fun j => n * i.size ≤ j)
  have hnew := heap_alloc_new W (.cells ((xs.map a.eval).flatMap fun v => v.cells.toList).toArray e)
  have hvn : vs.length = n := by omega
  have hget : ∀ k j, k < n → j < i.size → ∃ x v u, xs[k]? = some x ∧ vs[k]? = some v ∧ (a.eval x).cells[j]? = some u ∧ u.oneCell' = true ∧ (∀ y, v.cells[j]? = some y → VR W U u y) ∧
      (((xs.map a.eval).flatMap fun v => v.cells.toList).toArray)[k * i.size + j]? = some u := by
    intro k j hk hj
    have hxk : k < xs.length := by omega
    obtain ⟨v, q1, q2, q3, q4⟩ := hcz k xs[k] (List.getElem?_eq_getElem hxk)
    have hjs : j < (a.eval xs[k]).cells.size := by omega
    have hu' := Array.getElem?_eq_getElem hjs
    refine ⟨xs[k], v, _, List.getElem?_eq_getElem hxk, q1, hu', (q4 j _ hu').1, (q4 j _ hu').2, ?_⟩
    rw [List.getElem?_toArray, Go.Great.flat_get hsz _ hcells]
    have e1 : (k * i.size + j) / i.size = k := by
      rw [Nat.mul_comm, Nat.mul_add_div hsz, Nat.div_eq_of_lt hj]; omega
    have e2 : (k * i.size + j) % i.size = j := by
      rw [Nat.mul_comm, Nat.mul_add_mod, Nat.mod_eq_of_lt hj]
    rw [e1, e2]
    simp [hxk, hjs]
  have hmax : n ≤ maxLen := by
    have : n * 1 ≤ n * i.size := Nat.mul_le_mul_left _ hsz
    simp only [maxLen]
    omega
  refine ⟨_, _, _, by simp only [execOp, ho, Sem.run_bind, hrun, Result.andThen_ok]; rfl, hE, ?_, ?_⟩
  · refine VR_row' (f := fun k j => ((((xs[k]?).map fun x => (a.eval x).cells[j]?).join).getD undef)) (by simp [hvn]) hnew (Nat.le_refl _) hmax (fun c hc => ?_) (fun k j hk hj => ?_) (fun q hq hu' => ?_) (fun k c j y hc hy => ?_)
    · obtain ⟨v, hv, rfl⟩ := List.mem_map.1 hc
      exact hall v hv
    · obtain ⟨x, v, u, q1, _, q3, q4, _, q6⟩ := hget k j hk hj
      rw [q6]
      simp only [q1, Option.map_some, Option.join_some, q3, Option.getD_some]
      exact ⟨trivial, q4⟩
    · have : n * i.size ≤ q := by simpa using hu'
      omega
    · simp only [List.getElem?_map, Option.map_eq_some_iff] at hc
      obtain ⟨v', hv', rfl⟩ := hc
      have hk : k < n := by have := (List.getElem?_eq_some_iff.1 hv').1; omega
      have hj : j < i.size := by
        have h1 := (List.getElem?_eq_some_iff.1 hy).1
        have h2 := hall v' (List.mem_of_getElem? hv')
        omega
      obtain ⟨x, v, u, q1, q2, q3, _, q5, _⟩ := hget k j hk hj
      rw [q2] at hv'
      cases hv'
      simp only [q1, Option.map_some, Option.join_some, q3, Option.getD_some]
      exact (q5 y hy).keep hE.keeps
  · refine .inr ⟨W.heap.size, n, _, by simp [hvn], Nat.le_refl _, hnew, by simp [hvn], hmax, ?_, fun q hq hu' => ?_, fun q hq => ?_⟩
    · have hfl : ((xs.map a.eval).flatMap fun v => v.cells.toList).length = n * i.size := by
        have : ∀ l : List Value, (∀ v ∈ l, v.cells.size = i.size) → (l.flatMap fun v => v.cells.toList).length = l.length * i.size := by
          intro l
          induction l with
          | nil => intro _; simp
          | cons v l ih =>
            intro hh
            have h1 := ih (fun v hv => hh v (by simp [hv]))
            have h2 := hh v (by simp)
            rw [List.flatMap_cons, List.length_append, h1, Array.length_toList, h2, List.length_cons, Nat.add_mul]
            omega
        rw [this _ hcells, hnl]
      simpa using hfl
    · have : n * i.size ≤ q := by simpa using hu'
      simp [hvn] at hq
      omega
    · simp [hvn] at hq
      simpa using hq

theorem zVRs_get {vs : List Value} {cs : List AV} (h : zVRs vs cs = true) : vs.length = cs.length ∧ ∀ (j : Nat) (v : Value) (c : AV), vs[j]? = some v → cs[j]? = some c → zVR v c = true := by
  induction vs generalizing cs with
  | nil => cases cs with
    | nil => exact ⟨rfl, fun j v c hv => by simp at hv⟩
    | cons => simp [zVRs] at h
  | cons v vs ih => cases cs with
    | nil => simp [zVRs] at h
    | cons c cs =>
      simp only [zVRs, Bool.and_eq_true] at h
      obtain ⟨h1, h2⟩ := ih h.2
      refine ⟨by simp [h1], fun j u x hu hx => ?_⟩
      cases j with
      | zero => simp at hu hx; subst hu hx; exact h.1
      | succ j => exact h2 j u x (by simpa using hu) (by simpa using hx)
theorem zeroOf_spec {t : TypeId} {z : List AV} (h : zeroOf P t = some z) : ∃ i zv, P.info? t = some i ∧ i.zero = some zv ∧ zVRs zv.cells.toList z = true := by
  unfold zeroOf at h
  split at h
  · rename_i cs zv h1 h2
    split at h
    · rename_i h3
      simp only [Option.some.injEq] at h
      subst h
      cases hi : P.info? t with
      | none => simp [hi] at h2
      | some i => exact ⟨i, zv, rfl, by simpa [hi] using h2, h3⟩
    · cases h
  · cases h

theorem splice_get (cs : List AV) (off : Nat) (vs : List AV) (h : off + vs.length ≤ cs.length) (k : Nat) : (splice cs off vs)[k]? = if off ≤ k ∧ k < off + vs.length then vs[k - off]? else cs[k]? := by
  fun_induction splice cs off vs generalizing k with
  | case1 cs => simp
  | case2 v vs => simp at h
  | case3 v vs c r ih =>
    have h' : 0 + vs.length ≤ r.length := by simp at h; omega
    cases k with
    | zero => simp
    | succ k =>
      simp only [List.getElem?_cons_succ, ih h' k, List.length_cons, Nat.zero_le, true_and, Nat.zero_add, Nat.sub_zero]
      by_cases hk : k < vs.length
      · rw [if_pos hk, if_pos (by omega)]
      · rw [if_neg hk, if_neg (by omega)]
  | case4 n vs => simp at h
  | case5 n vs c r ih =>
    have h' : n + vs.length ≤ r.length := by simp at h; omega
    cases k with
    | zero => simp
    | succ k =>
      simp only [List.getElem?_cons_succ, ih h' k]
      by_cases hk : n ≤ k ∧ k < n + vs.length
      · rw [if_pos hk, if_pos (by omega)]
        congr 1
        omega
      · rw [if_neg hk, if_neg (by omega)]
theorem splice_length (cs : List AV) (off : Nat) (vs : List AV) (h : off + vs.length ≤ cs.length) : (splice cs off vs).length = cs.length := by
  fun_induction splice cs off vs with
  | case1 cs => rfl
  | case2 v vs => rfl
  | case3 v vs c r ih => simp [ih (by simp at h; omega)]
  | case4 n vs => rfl
  | case5 n vs c r ih => simp [ih (by simp at h; omega)]

/-- Cells that read as these. -/
def VCs (W : World) (U : Nat → Nat → Prop) (vs : Array Value) (cs : List AV) : Prop :=
  vs.size = cs.length ∧ ∀ (j : Nat) (u : Value), vs[j]? = some u → u.oneCell' = true ∧ ∀ x, cs[j]? = some x → VR W U u x

theorem VCs.fold {vs : Array Value} {cs : List AV} (h : VCs W U vs cs) {v : Value} {c : AV} (hv : VCs W U v.cells c.cells) {off : Nat} (hl : off + c.cells.length ≤ cs.length) :
    VCs W U (v.cells.zipIdx.foldl (fun cs (x : Value × Nat) => cs.setIfInBounds (off + x.2) x.1) vs) (splice cs off c.cells) := by
  have hz : v.cells.zipIdx.foldl (fun cs (x : Value × Nat) => cs.setIfInBounds (off + x.2) x.1) vs = (v.cells.toList.zipIdx 0).foldl (fun cs (x : Value × Nat) => cs.setIfInBounds (off + x.2) x.1) vs := by
    rw [← Array.foldl_toList]
    simp
  obtain ⟨h1, h2⟩ := Go.Great.foldl_set off v.cells.toList 0 vs
  rw [hz]
  refine ⟨by rw [h1, splice_length _ _ _ hl]; exact h.1, fun j u hu => ?_⟩
  rw [h2] at hu
  have hvl : v.cells.toList.length = c.cells.length := by simpa using hv.1
  rw [splice_get _ _ _ hl]
  by_cases hj : off + 0 ≤ j ∧ j < off + 0 + v.cells.toList.length ∧ j < vs.size
  · rw [if_pos hj] at hu
    rw [if_pos (by omega)]
    exact hv.2 (j - off) u (by simpa using hu)
  · rw [if_neg hj] at hu
    have hjs : j < vs.size := (Array.getElem?_eq_some_iff.1 hu).1
    rw [if_neg (by omega)]
    exact h.2 j u hu

theorem mapM_places {fs : List Field} (h : fs.all (fun f => (P.info? f.type).isSome) = true) : ∃ places, fs.mapM (fun f => (P.info? f.type).map fun i => (f.offset, i.size)) = some places ∧ ∀ (j : Nat) (f : Field), fs[j]? = some f → places[j]? = (P.info? f.type).map fun i => (f.offset, i.size) := by
  induction fs with
  | nil => exact ⟨[], rfl, fun j f hf => by simp at hf⟩
  | cons f fs ih =>
    simp only [List.all_cons, Bool.and_eq_true] at h
    obtain ⟨pl, h1, h2⟩ := ih h.2
    obtain ⟨i, hi⟩ := Option.isSome_iff_exists.1 h.1
    refine ⟨(f.offset, i.size) :: pl, by simp [List.mapM_cons, hi, h1], fun j g hg => ?_⟩
    cases j with
    | zero => simp at hg; subst hg; simp [hi]
    | succ j => simpa using h2 j g (by simpa using hg)

theorem s_bld (h : Inv N W0 U0 M a W U s) {t : TypeId} {fs : Array Field} {parts : Array (Nat × Operand)} {z : List AV} {ps : List (Nat × Nat × Opd)} (ho : o.op = .build t parts) (ht : P.underlying t = some (.struct fs)) (hz : zeroOf P t = some z)
    (hall : (fs.toList.all fun f => (P.info? f.type).isSome) = true) (hp : cFields P fs parts.toList = some ps) (hr : opR P s (.bld (z.map toNil) ps) r) : VOK P a o W U r := by
  obtain ⟨vs, cs, hvs, hfill, rfl⟩ := hr
  obtain ⟨i, zv, hi, hzv, hzc⟩ := zeroOf_spec hz
  obtain ⟨hz1, hz2⟩ := zVRs_get hzc
  obtain ⟨pl, hpl1, hpl2⟩ := mapM_places hall
  have hzero : VCs W U zv.cells (z.map toNil) := by
    refine ⟨by simpa using hz1, fun j u hu => ?_⟩
    have hj : j < z.length := by
      have := (Array.getElem?_eq_some_iff.1 hu).1
      simp at hz1
      omega
    have := hz2 j u z[j] (by simpa using hu) (List.getElem?_eq_getElem hj)
    obtain ⟨q1, q2, q3⟩ := zVR_sound this W U
    refine ⟨q2, fun x hx => ?_⟩
    simp only [List.getElem?_map, List.getElem?_eq_getElem hj, Option.map_some, Option.some.injEq] at hx
    subst hx
    unfold toNil
    split
    · rename_i hz'
      obtain ⟨rfl, _⟩ := q3 _ _ _ hz'
      exact .nils _ _
    · exact q1.alias
  have key : ∀ (l : List (Nat × Operand)) (ps : List (Nat × Nat × Opd)) (vs : List (Nat × Nat × AV)) (cells : Array Value) (cs0 cs : List AV), cFields P fs l = some ps → evp s ps = some vs → VCs W U cells cs0 → fillR cs0 vs cs →
      ∃ cells', Instr.fill (pl.toArray[·]?) cells (l.map fun x => (x.1, a.eval x.2)) = some cells' ∧ VCs W U cells' cs := by
    intro l
    induction l with
    | nil =>
      intro ps vs cells cs0 cs h1 h2 h3 h4
      simp only [cFields, Option.some.injEq] at h1
      subst h1
      simp only [evp, Option.some.injEq] at h2
      subst h2
      simp only [fillR] at h4
      subst h4
      exact ⟨cells, rfl, h3⟩
    | cons x l ih =>
      intro ps vs cells cs0 cs h1 h2 h3 h4
      obtain ⟨k, x⟩ := x
      simp only [cFields] at h1
      split at h1
      · rename_i f hf
        split at h1
        · rename_i n y ys g1 g2 g3
          simp only [Option.some.injEq] at h1
          subst h1
          simp only [evp] at h2
          split at h2
          · rename_i v vs' e1 e2
            simp only [Option.some.injEq] at h2
            subst h2
            simp only [fillR] at h4
            obtain ⟨⟨f1, f0, f2⟩, f3⟩ := h4
            have hv := cOpdT_sound h g2 e1
            obtain ⟨w1, w2⟩ := cells_VR hv (.inl (by omega))
            have hc : VCs W U (a.eval x).cells v.cells := ⟨w1, fun j u hu => ⟨(w2 j u hu).1, fun y hy => ((w2 j u hu).2 y hy).1⟩⟩
            obtain ⟨cells', q1, q2⟩ := ih ys vs' _ _ cs g3 e2 (h3.fold hc (off := f.offset) (by omega)) f3
            refine ⟨cells', ?_, q2⟩
            cases hif : P.info? f.type with
            | none => simp [hif] at g1
            | some fi =>
              have hn : fi.size = n := by simpa [hif] using g1
              have hplk : pl.toArray[k]? = some (f.offset, n) := by
                have := hpl2 k f (by simpa using hf)
                rw [hif] at this
                simpa [hn] using this
              simp only [List.map_cons, Instr.fill, hplk]
              rw [if_neg]
              · exact q1
              · have := hc.1
                have := h3.1
                simp
                omega
          · cases h2
        · cases h1
      · cases h1
  obtain ⟨cells', q1, q2⟩ := key parts.toList ps vs zv.cells _ cs hp hvs hzero hfill
  have hb : P.built t (parts.map fun (i, x) => (i, a.eval x)).toList = some cells' := by
    simp only [Program.built, hi, ht, hzv, hpl1, Array.toList_map]
    exact q1
  refine VOK.same (v := .agg cells') (by simp only [execOp, ho, Sem.run_bind, run_build W t _ cells' hb, Result.andThen_ok]; rfl) ?_ (by simp)
  have hlst : cells' = cells'.toList.toArray := by simp
  rw [hlst]
  refine .agg _ _ (by simpa using q2.1) (fun j v c hv hc => (q2.2 j v (by simpa using hv)).2 c hc) (fun v hv => ?_)
  obtain ⟨k, hk⟩ := List.mem_iff_getElem?.1 hv
  exact (q2.2 k v (by simpa using hk)).1


theorem s_blda (h : Inv N W0 U0 M a W U s) {t : TypeId} {n e : Nat} {inf : TypeInfo} {parts : Array (Nat × Operand)} {z : List AV} {ps : List (Nat × Nat × Opd)} (ho : o.op = .build t parts) (ht : P.underlying t = some (.array n e)) (hz : zeroOf P t = some z)
    (hinf : P.info? e = some inf) (hp : cElems P e inf.size parts.toList = some ps) (hr : opR P s (.bld (z.map toNil) ps) r) : VOK P a o W U r := by
  obtain ⟨vs, cs, hvs, hfill, rfl⟩ := hr
  obtain ⟨i, zv, hi, hzv, hzc⟩ := zeroOf_spec hz
  obtain ⟨hz1, hz2⟩ := zVRs_get hzc
  have hzero : VCs W U zv.cells (z.map toNil) := by
    refine ⟨by simpa using hz1, fun j u hu => ?_⟩
    have hj : j < z.length := by
      have := (Array.getElem?_eq_some_iff.1 hu).1
      simp at hz1
      omega
    have := hz2 j u z[j] (by simpa using hu) (List.getElem?_eq_getElem hj)
    obtain ⟨q1, q2, q3⟩ := zVR_sound this W U
    refine ⟨q2, fun x hx => ?_⟩
    simp only [List.getElem?_map, List.getElem?_eq_getElem hj, Option.map_some, Option.some.injEq] at hx
    subst hx
    unfold toNil
    split
    · rename_i hz'
      obtain ⟨rfl, _⟩ := q3 _ _ _ hz'
      exact .nils _ _
    · exact q1.alias
  have key : ∀ (l : List (Nat × Operand)) (ps : List (Nat × Nat × Opd)) (vs : List (Nat × Nat × AV)) (cells : Array Value) (cs0 cs : List AV), cElems P e inf.size l = some ps → evp s ps = some vs → VCs W U cells cs0 → fillR cs0 vs cs →
      ∃ cells', Instr.fill (fun i => some (i * inf.size, inf.size)) cells (l.map fun x => (x.1, a.eval x.2)) = some cells' ∧ VCs W U cells' cs := by
    intro l
    induction l with
    | nil =>
      intro ps vs cells cs0 cs h1 h2 h3 h4
      simp only [cElems, Option.some.injEq] at h1
      subst h1
      simp only [evp, Option.some.injEq] at h2
      subst h2
      simp only [fillR] at h4
      subst h4
      exact ⟨cells, rfl, h3⟩
    | cons x l ih =>
      intro ps vs cells cs0 cs h1 h2 h3 h4
      obtain ⟨k, x⟩ := x
      simp only [cElems] at h1
      split at h1
      · rename_i y ys g2 g3
        simp only [Option.some.injEq] at h1
        subst h1
        simp only [evp] at h2
        split at h2
        · rename_i v vs' e1 e2
          simp only [Option.some.injEq] at h2
          subst h2
          simp only [fillR] at h4
          obtain ⟨⟨f1, f0, f2⟩, f3⟩ := h4
          have hv := cOpdT_sound h g2 e1
          obtain ⟨w1, w2⟩ := cells_VR hv (.inl (by omega))
          have hc : VCs W U (a.eval x).cells v.cells := ⟨w1, fun j u hu => ⟨(w2 j u hu).1, fun y hy => ((w2 j u hu).2 y hy).1⟩⟩
          obtain ⟨cells', q1, q2⟩ := ih ys vs' _ _ cs g3 e2 (h3.fold hc (off := k * inf.size) (by omega)) f3
          refine ⟨cells', ?_, q2⟩
          simp only [List.map_cons, Instr.fill]
          rw [if_neg]
          · exact q1
          · have := hc.1
            have := h3.1
            simp
            omega
        · cases h2
      · cases h1
  obtain ⟨cells', q1, q2⟩ := key parts.toList ps vs zv.cells _ cs hp hvs hzero hfill
  have hb : P.built t (parts.map fun (i, x) => (i, a.eval x)).toList = some cells' := by
    simp only [Program.built, hi, ht, hzv, hinf, Option.map_some, Array.toList_map]
    exact q1
  refine VOK.same (v := .agg cells') (by simp only [execOp, ho, Sem.run_bind, run_build W t _ cells' hb, Result.andThen_ok]; rfl) ?_ (by simp)
  have hlst : cells' = cells'.toList.toArray := by simp
  rw [hlst]
  refine .agg _ _ (by simpa using q2.1) (fun j v c hv hc => (q2.2 j v (by simpa using hv)).2 c hc) (fun v hv => ?_)
  obtain ⟨k, hk⟩ := List.mem_iff_getElem?.1 hv
  exact (q2.2 k v (by simpa using hk)).1


theorem cArgs_spec {ts : List TypeId} {xs : List Operand} {ps : List Opd} (h : cArgs P ts xs = some ps) : xs.length = ps.length ∧ ∀ (i : Nat) (x : Operand), xs[i]? = some x → ∃ p t, ps[i]? = some p ∧ cOpdT P t x = some p := by
  induction ts generalizing xs ps with
  | nil => cases xs with
    | nil =>
      simp only [cArgs, Option.some.injEq] at h
      subst h
      exact ⟨rfl, fun i x hx => by simp at hx⟩
    | cons => simp [cArgs] at h
  | cons t ts ih => cases xs with
    | nil => simp [cArgs] at h
    | cons x xs =>
      simp only [cArgs] at h
      split at h
      · rename_i y ys h1 h2
        simp only [Option.some.injEq] at h
        subst h
        obtain ⟨e1, e2⟩ := ih h2
        refine ⟨by simp [e1], fun i z hz => ?_⟩
        cases i with
        | zero => simp at hz; subst hz; exact ⟨y, t, rfl, h1⟩
        | succ i => simpa using e2 i z (by simpa using hz)
      · cases h

/-- A call of a pure function. -/
theorem s_call (h : Inv N W0 U0 M a W U s) {f : Nat} {fn : Func} {args : Array Operand} {argTypes : Array TypeId} {ps : List Opd} {d : Option Nat} (ho : o.op = .call { callee := .value (.func f), args, argTypes }) (hod : o.dst = d) (hd : ∀ j, d = some j → j < N)
    (hf : P.funcs[f]? = some fn) (hb : fn.body.isSome = true) (hnm : (fn.name == "runtime.NumGoroutine") = false) (hp : cArgs P argTypes.toList args.toList = some ps) (hr : opR P s (.call f ps) r) {next : Act → World → Prop} {Q : Exit → Act → World → Prop}
    (hn : ∀ a' W' U', Inv N W0 U0 M a' W' U' (s.put d r) → next a' W') : o.wp P a W next Q := by
  obtain ⟨vs, hvs, hcp⟩ := hr
  obtain ⟨e1, e2⟩ := cArgs_spec hp
  obtain ⟨g1, g2⟩ := evs_len hvs
  have hC := hcp W U (args.toList.map a.eval) h.fr.glob (by simp only [List.length_map]; omega) (fun i v c hv hc => by
    simp only [List.getElem?_map, Option.map_eq_some_iff] at hv hc
    obtain ⟨x, hx, rfl⟩ := hv
    obtain ⟨y, hy, rfl⟩ := hc
    obtain ⟨p, t, q1, q2⟩ := e2 i x hx
    obtain ⟨y', q3, q4⟩ := g2 i p q1
    rw [hy] at q3
    cases q3
    exact (cOpdT_sound h q2 q4).alias)
  have hbn : fn.body.isNone = false := by
    cases hbb : fn.body with
    | none => simp [hbb] at hb
    | some c => rfl
  have hrun : (execOp a.eval o).run P W = .ok (.enter f (args.toList.map a.eval).toArray) W := by
    have hargs : args.map a.eval = (args.toList.map a.eval).toArray := by
      apply Array.ext'
      simp
    simp only [execOp, ho, resolve, Act.eval, Deferred.ofValue, Sem.run_bind, Sem.run_pure, Result.andThen_ok, invoke, callFunc, run_program, hf, hnm, Bool.false_eq_true, if_false, hbn]
    simp [hargs]
  unfold Oper.wp
  rw [hrun, Oper.upon_enter]
  refine hC.mono ?_
  rintro e W' ⟨v, U', rfl, hv, hown, hE⟩
  rw [hod]
  exact hn _ _ _ ((h.ext hE).putO hd hv fun j _ => Sole.fresh h hE hown)

/-- A value's row is handed on. -/
theorem s_tk (h : Inv N W0 U0 M a W U s) {i : Nat} {d : Option Nat} (ho : o.op = .move (.tmp i) ∨ o.op = .assign (.tmp i)) (hod : o.dst = d) (hd : ∀ j, d = some j → j < N) (hdi : d ≠ some i) (hr : opR P s (.tk i) r) {next : Act → World → Prop} {Q : Exit → Act → World → Prop}
    (hn : ∀ a' W' U', Inv N W0 U0 M a' W' U' (eff d (.tk i) r s) → next a' W') : o.wp P a W next Q := by
  have hr' : s.t i = some r := hr
  have hv := h.tv i r hr'
  have hrun : (execOp a.eval o).run P W = .ok (.value (a.eval (.tmp i))) W := by
    rcases ho with ho | ho <;> simp [execOp, ho]
  unfold Oper.wp
  rw [hrun, Oper.upon_value, hod]
  have hval : a.eval (.tmp i) = a.tmps.getD i undef := rfl
  rw [hval]
  by_cases hs : ∃ e sz els, r = .sl (some e) sz els
  · obtain ⟨e, sz, els, rfl⟩ := hs
    refine hn _ _ U ?_
    simp only [eff]
    -- the source is left with the right to read
    have hle : Le { s with t := upd s.t i none } s := ⟨fun j v hj => by
      by_cases hji : j = i
      · subst hji; simp [upd] at hj
      · simpa [upd, hji] using hj, fun _ _ hj => hj⟩
    have h1 := h.le hle
    have hiN : i < N := by
      rcases Nat.lt_or_ge i N with hlt | hge
      · exact hlt
      · exfalso
        have : a.tmps.getD i undef = undef := by simp [Array.getD, show ¬ i < a.tmps.size by rw [h.sz]; omega]
        rw [this] at hv
        cases hv
    have h2 := h1.put (d := i) hiN (v := a.tmps.getD i undef) (r := .sl none sz els) hv.reown (Sole.plain (by simp))
    have hput : a.put (some i) (a.tmps.getD i undef) = a := by
      unfold Act.put
      cases a with
      | mk tmps df =>
        simp only [Act.mk.injEq, and_true]
        apply Array.ext'
        apply List.ext_getElem?
        intro k
        have hi' : i < tmps.size := by have := h.sz; simp at this; omega
        simp only [Array.toList_setIfInBounds, List.getElem?_set]
        by_cases hk : i = k
        · subst hk
          simp [hi']
        · simp [hk]
    rw [hput] at h2
    have hs' : (St.put { s with t := upd s.t i none } (some i) (.sl none sz els)) = { s with t := upd s.t i (some (.sl none sz els)) } := by
      simp only [St.put]
      congr 1
      funext k
      simp only [upd]
      by_cases hk : k = i <;> simp [hk]
    rw [hs'] at h2
    refine h2.putO hd hv (fun j hj e' sz' els' he => ?_)
    cases he
    refine ⟨?_, fun g hg => ⟨h.no (.t i) _ _ _ hr' g hg, fun ℓ hlj ⟨e2, sz2, els2, hl⟩ => ?_⟩⟩
    · have := h.ow (.t i) _ hr'
      exact this
    · have hli : ℓ ≠ .t i := by
        rintro rfl
        simp [St.at, upd] at hl
      have hl' : s.at ℓ = some (.sl (some e2) sz2 els2) := by
        cases ℓ with
        | t k =>
          have hk : k ≠ i := fun e => hli (by rw [e])
          simpa [St.at, upd, hk] using hl
        | o b k => exact hl
      exact h.ap (.t i) ℓ _ _ _ _ _ _ (Ne.symm hli) hr' hl' g hg
  · have he : eff d (.tk i) r s = s.put d r.alias := by
      unfold eff
      cases r with
      | sl own sz els => cases own with
        | none => rfl
        | some e => exact absurd ⟨e, sz, els, rfl⟩ hs
      | _ => rfl
    refine hn _ _ U ?_
    rw [he]
    exact h.putO hd hv.alias fun j _ => Sole.plain (alias_plain r)

end
end Go.Proofs.YtedcagoilpaafaaDoor
