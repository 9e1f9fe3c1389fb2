/- The abstract machine, part 9: stores and new blocks. -/
import Derived.Test.YtedcagoilpaafaaDoorMh
namespace Go.Proofs.YtedcagoilpaafaaDoor
set_option linter.all false
open Go.RowKit

theorem headT_cells (a : AV) : headT a.cells = none := by
  cases a <;> try rfl
  rename_i cs
  cases cs with
  | nil => rfl
  | cons c cs => cases c <;> rfl
theorem headT_splice {cs vs : List AV} {off u : Nat} (hv : headT vs = none) (h : headT (splice cs off vs) = some u) : headT cs = some u := by
  cases off with
  | zero =>
    cases vs with
    | nil => cases cs <;> exact h
    | cons v vs =>
      cases cs with
      | nil => exact h
      | cons c cs =>
        rw [splice] at h
        cases v <;> first | (simp [headT] at h; done) | (simp [headT] at hv; done)
  | succ n =>
    cases cs with
    | nil => exact h
    | cons c cs =>
      rw [splice] at h
      cases c <;> first | exact h | (simp [headT] at h; done)
section
variable {P : Program} {N : Nat} {W0 : World} {U0 : Nat → Nat → Prop} {M : Nat → Prop} {a : Act} {W W' : World} {U U' : Nat → Nat → Prop} {s : St} {o : Oper} {r : AV}

/-- A known block is written. -/
theorem Inv.seto (h : Inv N W0 U0 M a W U s) {b : Nat} {cs cs' : List AV} {vs vs' : Array Value} {ty : TypeId} (hb : s.o b = some cs) (hh : W.heap[b]? = some (.cells vs ty (0, 0))) (hl : cs'.length = cs.length) (hl' : vs'.size = vs.size)
    (hv : ∀ (j : Nat) (c : AV), cs'[j]? = some c → VR W U (vs'.getD j undef) c ∧ (vs'.getD j undef).oneCell' = true)
    (hty : ∀ u, headT cs' = some u → headT cs = some u)
    (hown : ∀ (j e sz : Nat) (els : List (List AV)), cs'[j]? = some (.sl (some e) sz els) → cs[j]? = some (.sl (some e) sz els) ∧ vs'.getD j undef = vs.getD j undef) :
    Inv N W0 U0 M a (W.setRow b vs') U { s with o := upd s.o b (some cs') } := by
  obtain ⟨vs0, ty0, q1, q2, q3, q4, q5⟩ := h.ob b cs hb
  rw [hh] at q1
  cases q1
  have hnew := setRow_heap W b vs vs' _ (0, 0) hh
  have hK : Keeps W U (W.setRow b vs') U := by
    intro b' o' v hc hu
    have hne : b' ≠ b := by rintro rfl; exact hu (q4 o')
    refine ⟨?_, hu⟩
    rw [World.cell?_of_block (w := W) (a := ⟨b', o', none⟩) (setRow_other W b b' _ hne)]
    exact hc
  have hcat : ∀ {ℓ : Loc} {e sz : Nat} {els : List (List AV)}, St.at { s with o := upd s.o b (some cs') } ℓ = some (.sl (some e) sz els) → s.at ℓ = some (.sl (some e) sz els) ∧ cat a (W.setRow b vs') ℓ = cat a W ℓ := by
    intro ℓ e sz els hl0
    cases ℓ with
    | t i => exact ⟨hl0, rfl⟩
    | o b' j =>
      simp only [St.at, upd] at hl0
      by_cases hbb : b' = b
      · subst hbb
        simp only [if_true, Option.bind_some] at hl0
        obtain ⟨g1, g2⟩ := hown j e sz els hl0
        refine ⟨by simp [St.at, hb, g1], ?_⟩
        simp only [cat, hnew, hh]
        exact g2
      · rw [if_neg hbb] at hl0
        refine ⟨hl0, ?_⟩
        simp only [cat, setRow_other W b b' _ hbb]
  refine ⟨h.sz, h.df, ?_, fun i v hv' => (h.tv i v hv').keep hK, ?_, ?_, ?_, ?_⟩
  · exact {
      os := h.fr.os
      tape := h.fr.tape
      output := h.fr.output
      size := by simpa using h.fr.size
      block := fun k hk hm => by
        have hne : k ≠ b := by rintro rfl; rcases q5 with q5 | q5; omega; exact hm q5
        rw [setRow_other W b k _ hne]
        exact h.fr.block k hk hm
      u := h.fr.u
      keeps := h.fr.keeps.trans hK
      g0 := h.fr.g0
      gm := h.fr.gm }
  · intro b' cs0 hb'
    simp only [upd] at hb'
    by_cases hbb : b' = b
    · subst hbb
      simp only [if_true, Option.some.injEq] at hb'
      subst hb'
      exact ⟨vs', ⟨ty0.1, fun u hu => ty0.2 u (hty u hu)⟩, hnew, by omega, fun j c hc => ⟨(hv j c hc).1.keep hK, (hv j c hc).2⟩, q4, q5⟩
    · rw [if_neg hbb] at hb'
      obtain ⟨vs1, ty1, g1, g2, g3, g4, g5⟩ := h.ob b' cs0 hb'
      exact ⟨vs1, ty1, by rw [setRow_other W b b' _ hbb]; exact g1, g2, fun j c hc => ⟨(g3 j c hc).1.keep hK, (g3 j c hc).2⟩, g4, g5⟩
  · intro ℓ v hv'
    unfold Own1
    split
    · rename_i e sz els
      obtain ⟨g1, g2⟩ := hcat hv'
      rw [g2]
      have := h.ow ℓ _ g1
      simp only [Own1] at this
      rcases this with this | ⟨g, cap, cur, p1, p2, p3, p4⟩
      · exact .inl this
      · have hne : g ≠ b := by
          rintro rfl
          have := h.no ℓ e sz els g1 g (by rw [p1]; rfl)
          rw [hb] at this
          cases this
        exact .inr ⟨g, cap, cur, p1, p2, by rw [setRow_other W b g _ hne]; exact p3, p4⟩
    · trivial
  · intro ℓ ℓ' e sz els e' sz' els' hne h1 h2
    obtain ⟨g1, g2⟩ := hcat h1
    obtain ⟨g3, g4⟩ := hcat h2
    rw [g2, g4]
    exact h.ap ℓ ℓ' _ _ _ _ _ _ hne g1 g3
  · intro ℓ e sz els h1 g hg
    obtain ⟨g1, g2⟩ := hcat h1
    rw [g2] at hg
    have h3 := h.no ℓ e sz els g1 g hg
    simp only [upd]
    by_cases hgb : g = b
    · subst hgb
      rw [hb] at h3
      cases h3
    · rw [if_neg hgb]
      exact h3

theorem s_sto (h : Inv N W0 U0 M a W U s) {t : TypeId} {n : Nat} {x v : Operand} {X V : Opd} {no : Option Nat} (ho : o.op = .store t x v) (hod : o.dst = none) (hsz : (P.info? t).map (·.size) = some n) (hno : no.getD 1 = n) (hn0 : 0 < n) (hx : cOpd x = some X) (hv : cOpdT P t v = some V)
    (hr : opR P s (.sto no X V) r) {next : Act → World → Prop} {Q : Exit → Act → World → Prop}
    (hn : ∀ a' W' U', Inv N W0 U0 M a' W' U' (eff none (.sto no X V) r s) → next a' W') : o.wp P a W next Q := by
  obtain ⟨b, off, c, cs, h1, h2, h3, h4, h5, rfl⟩ := hr
  have hpx := cOpd_sound h hx h1
  have hpv := cOpdT_sound h hv h2
  obtain ⟨vs, ty, q1, q2, q3, q4, q5⟩ := h.ob b cs h3
  obtain ⟨w1, w2⟩ := cells_VR hpv (.inl (by omega))
  have hadr : a.eval x = .pointer (some ⟨b, off, none⟩) := by
    generalize a.eval x = val at hpx
    cases hpx
    rfl
  have hone : ∀ u ∈ (a.eval v).cells.toList, u.oneCell' = true := by
    intro u hu
    obtain ⟨k, hk⟩ := List.mem_iff_getElem?.1 hu
    exact (w2 k u (by simpa using hk)).1
  have hst := run_storeCells_at P b off ty (a.eval v).cells.toList 0 vs W q1 (by rw [Array.length_toList]; omega) hone
  have hrun : (execOp a.eval o).run P W = .ok .skip (W.setRow b (vs.toList.take (off + 0) ++ (a.eval v).cells.toList ++ vs.toList.drop (off + 0 + (a.eval v).cells.toList.length)).toArray) := by
    cases hi : P.info? t with
    | none => simp [hi] at hsz
    | some i =>
      have hin : i.size = n := by simpa [hi] using hsz
      have hcs : ¬ (a.eval v).cells.size ≠ i.size := by omega
      simp only [execOp, ho, Instr.storeAt, hadr, Instr.sureAddr, Sem.run_bind, Sem.run_pure, Result.andThen_ok, storeVar, sizeOf, typeInfo, run_program, hi, Sem.run_ite, hcs, if_false, hst]
  unfold Oper.wp
  rw [hrun, Oper.upon_skip, hod]
  refine hn _ _ U ?_
  have heff : eff none (.sto no X V) .undef s = { s with o := upd s.o b (some (splice cs off c.cells)) } := by
    simp only [eff, h1, h2, h3, Option.map_some]
  rw [heff]
  have hcl : c.cells.length = (a.eval v).cells.size := by omega
  have hgetv : ∀ j, (vs.toList.take (off + 0) ++ (a.eval v).cells.toList ++ vs.toList.drop (off + 0 + (a.eval v).cells.toList.length)).toArray.getD j undef =
      if off ≤ j ∧ j < off + (a.eval v).cells.size then (a.eval v).cells.getD (j - off) undef else vs.getD j undef := by
    intro j
    have hoff : off ≤ vs.size := by omega
    simp only [Nat.add_zero, Array.length_toList, Array.getD_eq_getD_getElem?, List.getElem?_toArray]
    by_cases hj1 : j < off
    · rw [if_neg (by omega), List.append_assoc, List.getElem?_append_left (by simp; omega), List.getElem?_take, if_pos hj1]
      simp
    · by_cases hj2 : j < off + (a.eval v).cells.size
      · rw [if_pos (by omega), List.append_assoc, List.getElem?_append_right (by simp; omega), List.getElem?_append_left (by simp; omega)]
        congr 1
        simp
        congr 1
        omega
      · rw [if_neg (by omega), List.getElem?_append_right (by simp; omega), List.getElem?_drop]
        congr 1
        simp
        congr 1
        omega
  refine h.seto h3 q1 (splice_length _ _ _ h5) ?_ (fun j y hy => ?_) (fun u hu => headT_splice (headT_cells _) hu) (fun j e sz els hj => ?_)
  · simp
    omega
  · rw [splice_get _ _ _ h5] at hy
    rw [hgetv]
    by_cases hj : off ≤ j ∧ j < off + c.cells.length
    · rw [if_pos hj] at hy
      rw [if_pos (by omega)]
      have hk : j - off < (a.eval v).cells.size := by omega
      have hg : (a.eval v).cells[j - off]? = some ((a.eval v).cells.getD (j - off) undef) := by simp [hk]
      exact ⟨((w2 _ _ hg).2 y hy).1, (w2 _ _ hg).1⟩
    · rw [if_neg hj] at hy
      rw [if_neg (by omega)]
      exact q3 j y hy
  · rw [splice_get _ _ _ h5] at hj
    by_cases hjj : off ≤ j ∧ j < off + c.cells.length
    · rw [if_pos hjj] at hj
      exfalso
      have hk : j - off < (a.eval v).cells.size := by omega
      have hg : (a.eval v).cells[j - off]? = some ((a.eval v).cells.getD (j - off) undef) := by simp [hk]
      exact ((w2 _ _ hg).2 _ hj).2 _ _ _ rfl
    · rw [if_neg hjj] at hj
      rw [hgetv, if_neg (by omega)]
      exact ⟨hj, rfl⟩

/-- A new block. -/
theorem Inv.newo (h : Inv N W0 U0 M a W U s) {vs : Array Value} {cs : List AV} {ty : TypeId} (hl : vs.size = cs.length) (hty : ∀ u, headT cs = some u → ty = u) (hv : ∀ (j : Nat) (u : Value), vs[j]? = some u → u.oneCell' = true ∧ ∀ x, cs[j]? = some x → VR W U u x ∧ ∀ e sz els, x = .sl (some e) sz els → u = .slice none 0 0 ∧ els = []) :
    Inv N W0 U0 M a (W.alloc (.cells vs ty)) (fun k i => if k = W.heap.size then True else U k i) { s with o := upd s.o W.heap.size (some cs) } := by
  have hE := Ext.alloc W U (.cells vs ty) (fun _ => True)
  have h1 := h.ext hE
  have hnone : s.o W.heap.size = none := by
    cases hs : s.o W.heap.size with
    | none => rfl
    | some c => have := h.ob_lt _ _ hs; omega
  have hnew := heap_alloc_new W (.cells vs ty)
  have hat : ∀ {ℓ : Loc} {v : AV}, St.at { s with o := upd s.o W.heap.size (some cs) } ℓ = some v → s.at ℓ = some v ∨ ∃ j, ℓ = .o W.heap.size j ∧ cs[j]? = some v := by
    intro ℓ v hl'
    cases ℓ with
    | t i => exact .inl hl'
    | o b j =>
      simp only [St.at, upd] at hl'
      by_cases hb : b = W.heap.size
      · subst hb
        exact .inr ⟨j, rfl, by simpa using hl'⟩
      · rw [if_neg hb] at hl'
        exact .inl hl'
  have hget : ∀ j c, cs[j]? = some c → vs[j]? = some (vs.getD j undef) := by
    intro j c hc
    have : j < cs.length := (List.getElem?_eq_some_iff.1 hc).1
    have : j < vs.size := by omega
    simp [this]
  have hcatn : ∀ j, cat a (W.alloc (.cells vs ty)) (.o W.heap.size j) = vs.getD j undef := by
    intro j
    simp only [cat, hnew]
  refine ⟨h1.sz, h1.df, h1.fr, h1.tv, ?_, ?_, ?_, ?_⟩
  · intro b cs0 hb
    simp only [upd] at hb
    by_cases hbb : b = W.heap.size
    · subst hbb
      simp only [if_true, Option.some.injEq] at hb
      subst hb
      refine ⟨vs, ⟨ty, hty⟩, hnew, hl, fun j c hc => ?_, fun o => by simp, .inl h.fr.size⟩
      have := hv j _ (hget j c hc)
      exact ⟨(this.2 c hc).1.keep hE.keeps, this.1⟩
    · rw [if_neg hbb] at hb
      exact h1.ob b cs0 hb
  · intro ℓ v hv'
    rcases hat hv' with hs | ⟨j, rfl, hc⟩
    · exact h1.ow ℓ v hs
    · rw [hcatn]
      unfold Own1
      split
      · rename_i e sz els
        obtain ⟨g1, g2⟩ := ((hv j _ (hget j _ hc)).2 _ hc).2 e sz els rfl
        exact .inl ⟨g1, by simp [g2]⟩
      · trivial
  · intro ℓ ℓ' e sz els e' sz' els' hne h2 h3 g hg
    rcases hat h2 with hs | ⟨j, rfl, hc⟩
    · rcases hat h3 with hs' | ⟨j', rfl, hc'⟩
      · exact h1.ap ℓ ℓ' _ _ _ _ _ _ hne hs hs' g hg
      · rw [hcatn, ((hv j' _ (hget j' _ hc')).2 _ hc').2 _ _ _ rfl |>.1]
        simp [Value.ownBlock]
    · rw [hcatn, ((hv j _ (hget j _ hc)).2 _ hc).2 _ _ _ rfl |>.1] at hg
      simp [Value.ownBlock] at hg
  · intro ℓ e sz els h2 g hg
    rcases hat h2 with hs | ⟨j, rfl, hc⟩
    · have := h1.no ℓ e sz els hs g hg
      simp only [upd]
      by_cases hgb : g = W.heap.size
      · exfalso
        rw [cat_ext hE.b h.ob_lt hs] at hg
        have h5 := h.ow ℓ _ hs
        simp only [Own1] at h5
        have := h5.lt hg
        omega
      · rw [if_neg hgb]
        exact this
    · rw [hcatn, ((hv j _ (hget j _ hc)).2 _ hc).2 _ _ _ rfl |>.1] at hg
      simp [Value.ownBlock] at hg

theorem s_newrow (h : Inv N W0 U0 M a W U s) {d : Option Nat} (hd : ∀ j, d = some j → j < N) (hod : o.dst = d) {vs : Array Value} {cs : List AV} {ty : TypeId} (hl : vs.size = cs.length) (hty : ∀ u, headT cs = some u → ty = u)
    (hv : ∀ (j : Nat) (u : Value), vs[j]? = some u → u.oneCell' = true ∧ ∀ x, cs[j]? = some x → VR W U u x ∧ ∀ e sz els, x = .sl (some e) sz els → u = .slice none 0 0 ∧ els = [])
    (hrun : (execOp a.eval o).run P W = .ok (.value (.pointer (some ⟨W.heap.size, 0, none⟩))) (W.alloc (.cells vs ty))) {K : St → Prop} (hK : newW s d cs K) {next : Act → World → Prop} {Q : Exit → Act → World → Prop}
    (hn : ∀ a' W' U' s', Inv N W0 U0 M a' W' U' s' → K s' → next a' W') : o.wp P a W next Q := by
  have hnone : s.o W.heap.size = none := by
    cases hs : s.o W.heap.size with
    | none => rfl
    | some c => have := h.ob_lt _ _ hs; omega
  unfold Oper.wp
  rw [hrun, Oper.upon_value, hod]
  exact hn _ _ _ _ ((h.newo hl hty hv).putO hd (.ptr _ _) fun j _ => Sole.plain (by simp)) (hK _ hnone)

theorem s_newv (h : Inv N W0 U0 M a W U s) {d : Option Nat} {t : TypeId} {z : List AV} (ho : o.op = .alloc t) (hd : ∀ j, d = some j → j < N) (hod : o.dst = d) (hz : zeroOf P t = some z) (hh : (headT z).isNone = true) {K : St → Prop} (hK : newW s d (tagT t z) K) {next : Act → World → Prop} {Q : Exit → Act → World → Prop}
    (hn : ∀ a' W' U' s', Inv N W0 U0 M a' W' U' s' → K s' → next a' W') : o.wp P a W next Q := by
  obtain ⟨i, zv, hi, hzv, hzc⟩ := zeroOf_spec hz
  obtain ⟨hz1, hz2⟩ := zVRs_get hzc
  refine s_newrow h hd hod (vs := zv.cells) (cs := tagT t z) (ty := t) (by rw [tagT_len]; simpa using hz1) (tagT_head hh) (fun j u hu => ?_) ?_ hK hn
  · have hj : j < z.length := by
      have := (Array.getElem?_eq_some_iff.1 hu).1
      simp at hz1
      omega
    have := hz2 j u z[j] (by simpa using hu) (List.getElem?_eq_getElem hj)
    obtain ⟨q1, q2, q3⟩ := zVR_sound this W U
    refine ⟨q2, fun x hx => ?_⟩
    rcases tagT_get hx with hx' | ⟨hx', rfl⟩
    · rw [List.getElem?_eq_getElem hj] at hx'
      cases hx'
      exact ⟨q1, q3⟩
    · rw [List.getElem?_eq_getElem hj, Option.some.injEq] at hx'
      rw [hx'] at q1
      refine ⟨?_, fun _ _ _ e => by cases e⟩
      cases q1
      exact .nilT t
  · simp [execOp, ho, Instr.alloc, zeroValue, typeInfo, hi, hzv, newVar, newRow]

theorem rep_get {α : Type} (z : List α) : ∀ (m j : Nat), j < m * z.length → (List.replicate m z).flatten[j]? = z[j % z.length]?
  | 0, j, h => by simp at h
  | m + 1, j, h => by
    rw [List.replicate_succ, List.flatten_cons]
    by_cases hj : j < z.length
    · rw [List.getElem?_append_left hj, Nat.mod_eq_of_lt hj]
    · have hj' : z.length ≤ j := by omega
      rw [List.getElem?_append_right hj', rep_get z m (j - z.length) (by rw [Nat.succ_mul] at h; omega), Nat.mod_eq_sub_mod hj']
theorem s_mk (h : Inv N W0 U0 M a W U s) {d : Option Nat} {t e sz : Nat} {x : Operand} {X : Opd} {z : List AV} {i : TypeInfo} (ho : o.op = .makeSlice t x x) (hd : ∀ j, d = some j → j < N) (hod : o.dst = d) (ht : isSlice P t = some (e, sz)) (hx : cOpd x = some X)
    (hz : zeroOf P e = some z) (hi : P.info? e = some i) (hzl : z.length = sz) (hpos : 0 < sz) (hh : (headT z).isNone = true) {K : St → Prop} (hK : ∃ p, X.ev s = some p ∧ mkW s d z i.bytes p K) {next : Act → World → Prop} {Q : Exit → Act → World → Prop}
    (hn : ∀ a' W' U' s', Inv N W0 U0 M a' W' U' s' → K s' → next a' W') : o.wp P a W next Q := by
  obtain ⟨p, hp, hK⟩ := hK
  cases p <;> try exact hK.elim
  rename_i k m
  obtain ⟨⟨hm0, hmx, hmb⟩, hK⟩ := hK
  obtain ⟨n, rfl⟩ := Int.eq_ofNat_of_zero_le hm0
  obtain ⟨i', hu, hi', hsz⟩ := isSlice_cases ht
  rw [hi] at hi'
  cases hi'
  obtain ⟨i', zv, hi', hzv, hzc⟩ := zeroOf_spec hz
  rw [hi] at hi'
  cases hi'
  obtain ⟨hz1, hz2⟩ := zVRs_get hzc
  have hxv := (cOpd_sound h hx hp).int_inv
  have hbytes : (i.bytes : Int) * (n : Int) ≤ 281474976710656 := by
    rw [Int.mul_comm]; omega
  have hrun0 := run_make (P := P) W t e i zv hu hi hzv k k n n (by omega) (Int.le_refl _) hbytes (by omega)
  simp only [Int.toNat_natCast] at hrun0
  have hzs : zv.cells.size = z.length := by simpa using hz1
  have hl : (madeCells zv.cells (n * i.size)).size = ((List.replicate n z).flatten).length := by
    rw [size_madeCells, hsz, ← hzl]
    simp [List.length_flatten]
  have hv : ∀ (j : Nat) (u : Value), (madeCells zv.cells (n * i.size))[j]? = some u → u.oneCell' = true ∧ ∀ x, ((List.replicate n z).flatten)[j]? = some x → VR W U u x ∧ ∀ e sz els, x = .sl (some e) sz els → u = .slice none 0 0 ∧ els = [] := by
    intro j u hu'
    have hj : j < n * i.size := by
      have := (Array.getElem?_eq_some_iff.1 hu').1
      rwa [size_madeCells] at this
    have hjz : j % z.length < z.length := Nat.mod_lt _ (by omega)
    have hu2 : zv.cells.toList[j % z.length]? = some u := by
      have : u = zv.cells[j % zv.cells.size]! := by
        simp [madeCells, hj] at hu'
        exact hu'.symm
      rw [this, hzs]
      simp [hzs, hjz]
    have hq := hz2 _ u z[j % z.length] hu2 (List.getElem?_eq_getElem hjz)
    obtain ⟨q1, q2, q3⟩ := zVR_sound hq W U
    refine ⟨q2, fun y hy => ?_⟩
    rw [rep_get z n j (by rw [hzl, ← hsz]; exact hj), List.getElem?_eq_getElem hjz] at hy
    cases hy
    exact ⟨q1, q3⟩
  have hnone : s.o W.heap.size = none := by
    cases hs : s.o W.heap.size with
    | none => rfl
    | some c => have := h.ob_lt _ _ hs; omega
  have hrun : (execOp a.eval o).run P W = .ok (.value (.slice (some ⟨W.heap.size, 0, none⟩) n n)) (W.alloc (.cells (madeCells zv.cells (n * i.size)) e)) := by
    simp [execOp, ho, hxv, hrun0]
  unfold Oper.wp
  rw [hrun, Oper.upon_value, hod]
  have hmax : n ≤ maxLen := by simp only [maxLen]; omega
  have hty : ∀ u, headT (List.replicate n z).flatten = some u → e = u := by
    intro u hu
    cases n with
    | zero => cases hu
    | succ n =>
      rw [List.replicate_succ, List.flatten_cons] at hu
      cases z with
      | nil => simp at hzl; omega
      | cons c z => cases c <;> first | (simp [headT] at hu; done) | (simp [headT] at hh; done)
  exact hn _ _ _ _ ((h.newo hl hty hv).putO hd (.osl W.heap.size 0 n n (Nat.le_refl _) hmax) fun j _ => Sole.plain (by simp)) (by simpa using hK _ hnone)

theorem s_box (h : Inv N W0 U0 M a W U s) {d : Option Nat} {t : TypeId} {x : Operand} {X : Opd} (ho : o.op = .box t x) (hd : ∀ j, d = some j → j < N) (hod : o.dst = d) (hx : cOpd x = some X) {K : St → Prop}
    (hK : ∃ v, X.ev s = some v ∧ (0 < v.cells.length) ∧ newW s d v.cells K) {next : Act → World → Prop} {Q : Exit → Act → World → Prop}
    (hn : ∀ a' W' U' s', Inv N W0 U0 M a' W' U' s' → K s' → next a' W') : o.wp P a W next Q := by
  obtain ⟨v, hv, hp, hK⟩ := hK
  have hvr := cOpd_sound h hx hv
  obtain ⟨q1, q2⟩ := cells_VR hvr (.inl hp)
  refine s_newrow h hd hod (vs := (a.eval x).cells) (cs := v.cells) (ty := t) q1 (fun u hu => by rw [headT_cells] at hu; cases hu) (fun j u hu => ⟨(q2 j u hu).1, fun y hy => ⟨((q2 j u hu).2 y hy).1, fun e sz els he => absurd he (((q2 j u hu).2 y hy).2 e sz els)⟩⟩) ?_ hK hn
  simp [execOp, ho, Instr.box, newVar, newRow]
end
end Go.Proofs.YtedcagoilpaafaaDoor
