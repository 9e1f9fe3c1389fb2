/- The abstract machine, part 7: appends, slice literals, stores, new blocks. -/
import Derived.Test.YtedcagoilpaafaaDoorMf
namespace Go.Proofs.YtedcagoilpaafaaDoor
set_option linter.all false
open Go.RowKit

section
variable {P : Program} {N : Nat} {W0 : World} {U0 : Nat → Nat → Prop} {M : Nat → Prop} {a : Act} {W W' : World} {U U' : Nat → Nat → Prop} {s : St} {o : Oper} {r : AV}

/-- One block that is nobody's has turned, what was done with changing is as it was. -/
theorem Inv.turn (h : Inv N W0 U0 M a W U s) {g : Nat} (hg : W0.heap.size ≤ g ∨ M g) (hno : s.o g = none) (how : ∀ ℓ e sz els, s.at ℓ = some (.sl (some e) sz els) → (cat a W ℓ).ownBlock ≠ some g)
    (hk : Keeps W U W' U') (h1 : W'.os = W.os) (h2 : W'.tape = W.tape) (h3 : W'.output = W.output) (h4 : W.heap.size ≤ W'.heap.size) (hb : ∀ k, k < W.heap.size → k ≠ g → W'.heap[k]? = W.heap[k]?)
    (hu : ∀ k, k < W.heap.size → k ≠ g → ∀ o, U' k o ↔ U k o) : Inv N W0 U0 M a W' U' s where
  sz := h.sz
  df := h.df
  fr := {
    os := h1.trans h.fr.os
    tape := h2.trans h.fr.tape
    output := h3.trans h.fr.output
    size := Nat.le_trans h.fr.size h4
    block := fun k hk' hm => by
      have hne : k ≠ g := by rintro rfl; rcases hg with hg | hg; omega; exact hm hg
      exact (hb k (Nat.lt_of_lt_of_le hk' h.fr.size) hne).trans (h.fr.block k hk' hm)
    u := fun k hk' hm o => by
      have hne : k ≠ g := by rintro rfl; rcases hg with hg | hg; omega; exact hm hg
      exact (hu k (Nat.lt_of_lt_of_le hk' h.fr.size) hne o).trans (h.fr.u k hk' hm o)
    keeps := h.fr.keeps.trans hk
    g0 := h.fr.g0
    gm := h.fr.gm }
  tv := fun i v hv => (h.tv i v hv).keep hk
  ob := fun b cs hbc => by
    obtain ⟨vs, ty, e1, e2, e3, e4, e5⟩ := h.ob b cs hbc
    have hlt := (Array.getElem?_eq_some_iff.1 e1).1
    have hne : b ≠ g := by rintro rfl; rw [hno] at hbc; cases hbc
    exact ⟨vs, ty, (hb b hlt hne).trans e1, e2, fun j c hc => ⟨(e3 j c hc).1.keep hk, (e3 j c hc).2⟩, fun o => (hu b hlt hne o).2 (e4 o), e5⟩
  ow := fun ℓ v hv => by
    have hcat : cat a W' ℓ = cat a W ℓ := by
      cases ℓ with
      | t i => rfl
      | o b j =>
        have hv' := hv
        simp only [St.at, Option.bind_eq_some_iff] at hv'
        obtain ⟨cs, e1, _⟩ := hv'
        have hne : b ≠ g := by rintro rfl; rw [hno] at e1; cases e1
        simp only [cat, hb b (h.ob_lt b cs e1) hne]
    rw [hcat]
    have hh := h.ow ℓ v hv
    unfold Own1 at *
    split at hh
    · rename_i e sz els
      rcases hh with hh | ⟨g', cap, cur, q1, q2, q3, q4, q5, q6, q7, q8⟩
      · exact .inl hh
      · have hne : g' ≠ g := fun e' => how ℓ e sz els hv (by rw [q1]; simp [Value.ownBlock, e'])
        have hlt := (Array.getElem?_eq_some_iff.1 q3).1
        exact .inr ⟨g', cap, cur, q1, q2, (hb g' hlt hne).trans q3, q4, q5, q6, fun o ho hu' => q7 o ho ((hu g' hlt hne o).1 hu'), fun o ho => (hu g' hlt hne o).2 (q8 o ho)⟩
    · trivial
  ap := fun ℓ ℓ' e sz els e' sz' els' hne e1 e2 => by
    have hcat : ∀ {ℓ : Loc} {v : AV}, s.at ℓ = some v → cat a W' ℓ = cat a W ℓ := by
      intro ℓ v hv
      cases ℓ with
      | t i => rfl
      | o b j =>
        simp only [St.at, Option.bind_eq_some_iff] at hv
        obtain ⟨cs, e1, _⟩ := hv
        have hne : b ≠ g := by rintro rfl; rw [hno] at e1; cases e1
        simp only [cat, hb b (h.ob_lt b cs e1) hne]
    rw [hcat e1, hcat e2]
    exact h.ap ℓ ℓ' e sz els e' sz' els' hne e1 e2
  no := fun ℓ e sz els e1 => by
    have hcat : cat a W' ℓ = cat a W ℓ := by
      cases ℓ with
      | t i => rfl
      | o b j =>
        have e2 := e1
        simp only [St.at, Option.bind_eq_some_iff] at e2
        obtain ⟨cs, e3, _⟩ := e2
        have hne : b ≠ g := by rintro rfl; rw [hno] at e3; cases e3
        simp only [cat, hb b (h.ob_lt b cs e3) hne]
    rw [hcat]
    exact h.no ℓ e sz els e1

def flatV (f : Nat → Nat → Value) (m sz : Nat) : List Value := (List.range (m * sz)).map fun p => f (p / sz) (p % sz)
theorem flatV_length (f : Nat → Nat → Value) (m sz : Nat) : (flatV f m sz).length = m * sz := by simp [flatV]
theorem flatV_get {f : Nat → Nat → Value} {m sz i j : Nat} (hi : i < m) (hj : j < sz) : (flatV f m sz)[i * sz + j]? = some (f i j) := by
  have hlt : i * sz + j < m * sz := by
    have : (i + 1) * sz ≤ m * sz := Nat.mul_le_mul_right _ hi
    rw [Nat.add_mul] at this
    omega
  simp only [flatV, List.getElem?_map, List.getElem?_range hlt, Option.map_some]
  have e1 : (i * sz + j) / sz = i := by
    rw [Nat.mul_comm, Nat.mul_add_div (by omega), Nat.div_eq_of_lt hj]; omega
  have e2 : (i * sz + j) % sz = j := by
    rw [Nat.mul_comm, Nat.mul_add_mod, Nat.mod_eq_of_lt hj]
  rw [e1, e2]
theorem flatV_some {f : Nat → Nat → Value} {m sz p : Nat} {v : Value} (h : (flatV f m sz)[p]? = some v) : p / sz < m ∧ p % sz < sz ∧ v = f (p / sz) (p % sz) ∧ p = p / sz * sz + p % sz := by
  obtain ⟨hlt, rfl⟩ := range_map_get (f := fun p => f (p / sz) (p % sz)) h
  have hsz : 0 < sz := by
    rcases Nat.eq_zero_or_pos sz with h0 | h0
    · subst h0; simp at hlt
    · exact h0
  refine ⟨(Nat.div_lt_iff_lt_mul hsz).2 hlt, Nat.mod_lt _ hsz, rfl, ?_⟩
  have := Nat.div_add_mod p sz
  rw [Nat.mul_comm] at this
  omega
theorem flat_mem {f : Nat → Nat → Value} {m sz : Nat} (h : ∀ i j, i < m → j < sz → (f i j).oneCell' = true) : ∀ u ∈ flatV f m sz, u.oneCell' = true := by
  intro u hu
  obtain ⟨p, hp⟩ := List.mem_iff_getElem?.1 hu
  obtain ⟨h1, h2, rfl, _⟩ := flatV_some hp
  exact h _ _ h1 h2

/-- A row of cells in one block reads as a slice. -/
theorem VR_row {g cap e : Nat} {cells : Array Value} {els : List (List AV)} {sz : Nat} {own : Option Nat} {f : Nat → Nat → Value} (hh : W.heap[g]? = some (.cells cells e (0, 0))) (hcap : els.length ≤ cap) (hmax : cap ≤ maxLen)
    (hs : ∀ e ∈ els, e.length = sz) (hcell : ∀ i j, i < els.length → j < sz → cells[i * sz + j]? = some (f i j) ∧ (f i j).oneCell' = true) (hU : ∀ o, o < els.length * sz → ¬ U g o)
    (hv : ∀ (i : Nat) (e : List AV) (j : Nat) (c : AV), els[i]? = some e → e[j]? = some c → VR W U (f i j) c) : VR W U (.slice (some ⟨g, 0, none⟩) els.length cap) (.sl own sz els) := by
  refine .sl _ cap own els g 0 sz f hcap hmax (fun _ => rfl) hs (fun i j hi hj => ?_) hv
  obtain ⟨h1, h2⟩ := hcell i j hi hj
  rw [Nat.zero_add]
  refine ⟨by rw [cell_of_row W g (i * sz + j) cells e (0, 0) hh]; exact h1, h2, hU _ ?_⟩
  have : (i + 1) * sz ≤ els.length * sz := Nat.mul_le_mul_right _ hi
  rw [Nat.add_mul] at this
  omega

theorem VR_row' {g cap e n : Nat} {cells : Array Value} {els : List (List AV)} {sz : Nat} {own : Option Nat} {f : Nat → Nat → Value} (hn : els.length = n) (hh : W.heap[g]? = some (.cells cells e (0, 0))) (hcap : n ≤ cap) (hmax : cap ≤ maxLen)
    (hs : ∀ e ∈ els, e.length = sz) (hcell : ∀ i j, i < n → j < sz → cells[i * sz + j]? = some (f i j) ∧ (f i j).oneCell' = true) (hU : ∀ o, o < n * sz → ¬ U g o)
    (hv : ∀ (i : Nat) (e : List AV) (j : Nat) (c : AV), els[i]? = some e → e[j]? = some c → VR W U (f i j) c) : VR W U (.slice (some ⟨g, 0, none⟩) n cap) (.sl own sz els) := by
  subst hn
  exact VR_row hh hcap hmax hs hcell hU hv

/-- The values of two slices one behind the other. -/
def joinF (n : Nat) (f g : Nat → Nat → Value) : Nat → Nat → Value := fun i j => if i < n then f i j else g (i - n) j
theorem join_get {n m sz i j : Nat} {f g : Nat → Nat → Value} (hi : i < n + m) (hj : j < sz) : (flatV f n sz ++ flatV g m sz)[i * sz + j]? = some (joinF n f g i j) := by
  unfold joinF
  by_cases h : i < n
  · rw [if_pos h, List.getElem?_append_left, flatV_get h hj]
    have : (i + 1) * sz ≤ n * sz := Nat.mul_le_mul_right _ h
    rw [Nat.add_mul] at this
    rw [flatV_length]
    omega
  · rw [if_neg h]
    have e : i * sz + j = n * sz + ((i - n) * sz + j) := by
      have : i = n + (i - n) := by omega
      rw [this, Nat.add_mul]
      simp only [Nat.add_sub_cancel_left]
      omega
    rw [List.getElem?_append_right (by rw [flatV_length]; omega), flatV_length, e, Nat.add_sub_cancel_left, flatV_get (by omega) hj]
theorem join_VR {els news : List (List AV)} {f g : Nat → Nat → Value} (h1 : ∀ (i : Nat) (e : List AV) (j : Nat) (c : AV), els[i]? = some e → e[j]? = some c → VR W U (f i j) c)
    (h2 : ∀ (i : Nat) (e : List AV) (j : Nat) (c : AV), news[i]? = some e → e[j]? = some c → VR W U (g i j) c) : ∀ (i : Nat) (e : List AV) (j : Nat) (c : AV), (els ++ news)[i]? = some e → e[j]? = some c → VR W U (joinF els.length f g i j) c := by
  intro i e j c he hc
  unfold joinF
  by_cases h : i < els.length
  · rw [if_pos h]
    rw [List.getElem?_append_left h] at he
    exact h1 i e j c he hc
  · rw [if_neg h]
    rw [List.getElem?_append_right (by omega)] at he
    exact h2 _ e j c he hc

/-- **append onto an own row.** -/
theorem s_app (h : Inv N W0 U0 M a W U s) {t e sz i : Nat} {inf : TypeInfo} {x : Operand} {X : Opd} {d : Option Nat} (ho : o.op = .call { callee := .builtin .append, args := ⟨[.tmp i, x]⟩, argTypes := ⟨[t, t]⟩ }) (hod : o.dst = d) (hd : ∀ j, d = some j → j < N)
    (ht : P.underlying t = some (.slice e)) (hi : P.info? e = some inf) (hisz : inf.size = sz) (hsz : 0 < sz) (hz : zeroSize P e = some sz) (hx : cOpd x = some X) (hr : opR P s (.app e sz inf.bytes i X) r) {next : Act → World → Prop} {Q : Exit → Act → World → Prop}
    (hn : ∀ a' W' U', Inv N W0 U0 M a' W' U' (eff d (.app e sz inf.bytes i X) r s) → next a' W') : o.wp P a W next Q := by
  obtain ⟨els, own, news, hs0, hxv, hb, hmx, rfl⟩ := hr
  have hv := h.tv i _ hs0
  have hw := cOpd_sound h hx hxv
  have hown := h.ow (.t i) _ hs0
  simp only [Own1, cat] at hown
  obtain ⟨z, hz1, hz2⟩ : ∃ z, inf.zero = some z ∧ z.cells.size = sz := by
    simp only [zeroSize, hi, Option.bind_some, Option.map_eq_some_iff] at hz
    exact hz
  -- it is enough to know what the append gives
  have key : ∀ v' W' U', (Builtin.append_ #[t, t] o.type #[a.eval (.tmp i), a.eval x]).run P W = .ok v' W' → Inv N W0 U0 M a W' U' { s with t := upd s.t i none } → VR W' U' v' (.sl (some e) sz (els ++ news)) →
      (∀ j, d = some j → Sole W0 M a W' U' { s with t := upd s.t i none } j v' (.sl (some e) sz (els ++ news))) → o.wp P a W next Q := by
    intro v' W' U' hrun hinv hvr hso
    unfold Oper.wp execOp
    simp only [ho, resolve, invoke, builtin, Sem.run_bind, Sem.run_pure, Result.andThen_ok, List.map_toArray, List.map_cons, List.map_nil]
    rw [show (#[a.eval (.tmp i), a.eval x] : Array Value) = ⟨[a.eval (.tmp i), a.eval x]⟩ from rfl] at hrun
    rw [show (#[t, t] : Array Nat) = ⟨[t, t]⟩ from rfl] at hrun
    rw [hrun]
    simp only [Result.andThen_ok, Oper.upon, hod]
    exact hn _ _ _ (hinv.putO hd hvr hso)
  have hle : Le { s with t := upd s.t i none } s := ⟨fun j v hj => by
    by_cases hji : j = i
    · subst hji; simp [upd] at hj
    · simpa [upd, hji] using hj, fun _ _ hj => hj⟩
  have h' := h.le hle
  have hother : ∀ ℓ e' sz' els', St.at { s with t := upd s.t i none } ℓ = some (.sl (some e') sz' els') → ℓ ≠ .t i ∧ s.at ℓ = some (.sl (some e') sz' els') := by
    intro ℓ e' sz' els' hl
    refine ⟨fun he => ?_, hle.at_ hl⟩
    subst he
    simp [St.at, upd] at hl
  generalize hval : a.eval (.tmp i) = val at *
  have hval' : a.tmps.getD i undef = val := hval
  rw [hval'] at hv hown
  generalize hxval : a.eval x = xval at *
  cases hw with
  | sl A cap _ _ b2 o2 _ f2 hcap2 hmax2 hA2 hs2 hc2 hv2 =>
    cases hv with
    | sl A1 cap1 _ _ b1 o1 _ f1 hcap1 hmax1 hA1 hs1 hc1 hv1 =>
      have hsall : ∀ e ∈ els ++ news, e.length = sz := by
        intro e' he'
        rcases List.mem_append.1 he' with he' | he'
        · exact hs1 e' he'
        · exact hs2 e' he'
      have hlen : (els ++ news).length = els.length + news.length := List.length_append
      have hnews : ∀ ad, A = some ad → ∀ p v, (flatV f2 news.length sz)[p]? = some v → W.cell? (ad.add p) = some v := by
        intro ad hAd p v hp
        obtain ⟨q1, q2, rfl, q4⟩ := flatV_some hp
        have := hA2 (Nat.lt_of_le_of_lt (Nat.zero_le _) q1)
        rw [hAd] at this
        cases this
        rw [add_mk, q4, ← Nat.add_assoc]
        have e1 : (p / sz * sz + p % sz) / sz = p / sz := by rw [← q4]
        have e2 : (p / sz * sz + p % sz) % sz = p % sz := by rw [← q4]
        rw [e1, e2]
        exact (hc2 _ _ q1 q2).1
      have h1new : ∀ u ∈ flatV f2 news.length sz, u.oneCell' = true := flat_mem fun i j hi hj => (hc2 i j hi hj).2.1
      cases hAc : A with
      | none =>
        -- nothing is appended
        subst hAc
        have hn0 : news = [] := by
          cases news with
          | nil => rfl
          | cons c l => have := hA2 (by simp); cases this
        subst hn0
        simp only [List.append_nil] at key hn ⊢
        refine key (.slice A1 els.length cap1) W U ?_ h' (.sl A1 cap1 _ _ b1 o1 _ f1 hcap1 hmax1 hA1 hs1 hc1 hv1) (fun j hj e' sz' els' he' => ?_)
        · simp [Builtin.append_, run_underlying ht, sizeOf, typeInfo, hi, Builtin.lenOf, hcap1, Builtin.firstCells]
          cases A1 <;> simp [storeCells]
        · cases he'
          refine ⟨hown, fun g hg => ⟨h.no (.t i) _ _ _ hs0 g (by simp only [cat, hval']; exact hg), fun ℓ hlj ⟨e2, sz2, els2, hl⟩ => ?_⟩⟩
          obtain ⟨hne, hl'⟩ := hother ℓ _ _ _ hl
          exact h.ap (.t i) ℓ _ _ _ _ _ _ (Ne.symm hne) hs0 hl' g (by simp only [cat, hval']; exact hg)
      | some ad =>
        subst hAc
        have hnews' := hnews ad rfl
        rcases hown with ⟨hnil, hn0⟩ | ⟨g, capg, cur, hsl, hB, hgh, hgc, hgm, hgs, hgU1, hgU2⟩
        · -- the row is nil
          have he0 : els = [] := List.eq_nil_of_length_eq_zero hn0
          subst he0
          simp only [List.nil_append, List.length_nil, Nat.zero_add] at key hn hmx hb hlen hnil ⊢
          injection hnil with q1 q2 q3
          subst q1 q3
          by_cases hm : news.length = 0
          · have hn1 : news = [] := List.eq_nil_of_length_eq_zero hm
            subst hn1
            refine key (.slice none 0 0) W U ?_ h' (zVR_sound (v := .slice none 0 0) (c := .sl (some e) sz []) rfl W U).1 (fun j hj e' sz' els' he' => ?_)
            · simp [Builtin.append_, run_underlying ht, sizeOf, typeInfo, hi, Builtin.lenOf, Builtin.firstCells, loadCells, loadCellsFrom]
            · cases he'
              exact ⟨.inl ⟨rfl, rfl⟩, fun g hg => by simp [Value.ownBlock] at hg⟩
          · have hrun := run_append_nil (P := P) W t o.type e inf z ht hi hz1 ad news.length cap (flatV f2 news.length sz) (by rw [flatV_length, hisz]) hnews' (by omega) (by simp only [maxLen] at hmx; omega) (by omega)
            have hE : Ext W U (W.drew.alloc (.cells ((flatV f2 news.length sz).toArray ++ Builtin.zeroCells z.cells (grownCap W news.length 0 e - news.length)) e)) (fun k i => if k = W.heap.size then news.length * sz ≤ i else U k i) := by
              have := Ext.alloc W.drew U (.cells ((flatV f2 news.length sz).toArray ++ Builtin.zeroCells z.cells (grownCap W news.length 0 e - news.length)) e) (fun i => news.length * sz ≤ i)
              exact ⟨(Below.refl _ _).drew.alloc (Nat.le_refl _) _, this.u⟩
            have hge := grownCap_ge W news.length 0 e
            have hcm := grownCap_le_maxLen W news.length 0 e hmx
            have hnew := heap_alloc_new W.drew (.cells ((flatV f2 news.length sz).toArray ++ Builtin.zeroCells z.cells (grownCap W news.length 0 e - news.length)) e)
            have hcsz : ((flatV f2 news.length sz).toArray ++ Builtin.zeroCells z.cells (grownCap W news.length 0 e - news.length)).size = grownCap W news.length 0 e * sz := by
              simp only [Array.size_append, List.size_toArray, size_zeroCells, hz2, flatV_length, ← Nat.add_mul]
              congr 1
              omega
            refine key _ _ _ hrun (h'.ext hE) ?_ (fun j hj => Sole.fresh h' hE ?_)
            · refine VR_row (f := f2) hnew hge hcm hs2 (fun i j hi hj => ?_) (fun o ho hu => ?_) (fun i e' j c he hc => (hv2 i e' j c he hc).keep hE.keeps)
              · refine ⟨?_, (hc2 i j hi hj).2.1⟩
                have := flatV_get (f := f2) hi hj
                rw [Array.getElem?_append_left (by rw [List.size_toArray]; exact (List.getElem?_eq_some_iff.1 this).1)]
                simpa using this
              · have hu' : news.length * sz ≤ o := by simpa using hu
                omega
            · refine .inr ⟨W.heap.size, _, _, rfl, Nat.le_refl _, hnew, hge, hcm, hcsz, fun o ho hu => ?_, fun o ho => ?_⟩
              · have hu' : news.length * sz ≤ o := by simpa using hu
                omega
              · simpa using ho
        · -- a row of its own
          have hb1 : 0 < els.length → b1 = g ∧ o1 = 0 := fun hp => by
            have := hA1 hp
            rw [this] at hsl
            injection hsl with h1 h2 h3
            injection h1 with h1
            injection h1 with h1 h2
            exact ⟨h1, h2⟩
          have hcur : ∀ i j, i < els.length → j < sz → cur[i * sz + j]? = some (f1 i j) := by
            intro i j hi hj
            obtain ⟨rfl, rfl⟩ := hb1 (by omega)
            have := (hc1 i j hi hj).1
            rw [Nat.zero_add] at this
            rw [← this, cell_of_row W b1 _ cur e (0, 0) hgh]
          have hold : ∀ p v, (flatV f1 els.length sz)[p]? = some v → W.cell? ((⟨g, 0, none⟩ : Addr).add p) = some v := by
            intro p v hp
            obtain ⟨q1, q2, rfl, q4⟩ := flatV_some hp
            rw [add_mk, Nat.zero_add, cell_of_row W g p cur e (0, 0) hgh]
            have := hcur _ _ q1 q2
            rw [← q4] at this
            exact this
          injection hsl with hA1' hlen1 hcap1'
          subst hA1' hcap1'
          have hnog : s.o g = none := h.no (.t i) _ _ _ hs0 g (by simp only [cat, hval']; rfl)
          have hapg : ∀ ℓ e' sz' els', St.at { s with t := upd s.t i none } ℓ = some (.sl (some e') sz' els') → (cat a W ℓ).ownBlock ≠ some g := fun ℓ e' sz' els' hl => by
            obtain ⟨hne, hl'⟩ := hother ℓ _ _ _ hl
            exact h.ap (.t i) ℓ _ _ _ _ _ _ (Ne.symm hne) hs0 hl' g (by simp only [cat, hval']; rfl)
          by_cases hroom : els.length + news.length ≤ cap1
          · -- in place
            have hfit : els.length * inf.size + (flatV f2 news.length sz).length ≤ cur.size := by
              rw [flatV_length, hgs, hisz, ← Nat.add_mul]
              exact Nat.mul_le_mul_right _ hroom
            have hrun := run_append_room (P := P) W t o.type e inf ht hi g els.length cap1 cur hgh ad news.length cap (flatV f2 news.length sz) (by rw [flatV_length, hisz]) hnews' h1new hroom hfit
            rw [hisz] at hrun hfit
            have hnew := setRow_heap W g cur (cur.toList.take (els.length * sz) ++ flatV f2 news.length sz ++ cur.toList.drop (els.length * sz + (flatV f2 news.length sz).length)).toArray e (0, 0) hgh
            have htk : (cur.toList.take (els.length * sz)) = flatV f1 els.length sz := by
              apply List.ext_getElem?
              intro p
              rcases Nat.lt_or_ge p (els.length * sz) with hp | hp
              · have hp' : p / sz < els.length := (Nat.div_lt_iff_lt_mul hsz).2 hp
                have e4 : p = p / sz * sz + p % sz := by have := Nat.div_add_mod p sz; rw [Nat.mul_comm] at this; omega
                rw [List.getElem?_take, if_pos hp, e4, flatV_get hp' (Nat.mod_lt _ hsz)]
                simpa using hcur _ _ hp' (Nat.mod_lt _ hsz)
              · rw [List.getElem?_eq_none (by simp; omega), List.getElem?_eq_none (by rw [flatV_length]; exact hp)]
            rw [htk] at hrun hnew
            have hcell : ∀ i j, i < els.length + news.length → j < sz → (flatV f1 els.length sz ++ flatV f2 news.length sz ++ cur.toList.drop (els.length * sz + (flatV f2 news.length sz).length)).toArray[i * sz + j]? = some (joinF els.length f1 f2 i j) := by
              intro i j hi hj
              have := join_get (f := f1) (g := f2) hi hj
              rw [List.getElem?_toArray, List.getElem?_append_left (List.getElem?_eq_some_iff.1 this).1]
              exact this
            have hK : Keeps W U (W.setRow g (flatV f1 els.length sz ++ flatV f2 news.length sz ++ cur.toList.drop (els.length * sz + (flatV f2 news.length sz).length)).toArray) (fun k i => if k = g then (els.length + news.length) * sz ≤ i else U k i) := by
              intro b' o' v hc hu
              by_cases hbg : b' = g
              · subst hbg
                have hlt : o' < els.length * sz := by
                  rcases Nat.lt_or_ge o' (els.length * sz) with hl | hl
                  · exact hl
                  · exact absurd (hgU2 o' hl) hu
                have e4 : o' = o' / sz * sz + o' % sz := by have := Nat.div_add_mod o' sz; rw [Nat.mul_comm] at this; omega
                have hp' : o' / sz < els.length := (Nat.div_lt_iff_lt_mul hsz).2 hlt
                refine ⟨?_, ?_⟩
                · rw [cell_of_row _ b' o' _ e (0, 0) hnew]
                  rw [cell_of_row W b' o' cur e (0, 0) hgh] at hc
                  have h5 := hcell (o' / sz) (o' % sz) (by omega) (Nat.mod_lt _ hsz)
                  have h6 := hcur _ _ hp' (Nat.mod_lt o' hsz)
                  rw [← e4] at h5 h6
                  rw [h5, ← hc, h6]
                  simp [joinF, hp']
                · simp only [if_true]
                  rw [Nat.add_mul]
                  omega
              · refine ⟨?_, by simpa [hbg] using hu⟩
                rw [World.cell?_of_block (w := W) (a := ⟨b', o', none⟩) (setRow_other W g b' _ hbg)]
                exact hc
            refine key _ _ (fun k i => if k = g then (els.length + news.length) * sz ≤ i else U k i) hrun
              (h'.turn hB hnog hapg hK rfl rfl rfl (by simp) (fun k _ hk => setRow_other W g k _ hk) (fun k _ hk o => by simp [hk])) ?_ (fun j hj e' sz' els' he' => ?_)
            · refine VR_row' (f := joinF els.length f1 f2) hlen hnew hroom hgm hsall (fun i j hi hj => ⟨hcell i j hi hj, ?_⟩) (fun o ho hu => ?_) (join_VR (fun i e' j c he hc => (hv1 i e' j c he hc).keep hK) (fun i e' j c he hc => (hv2 i e' j c he hc).keep hK))
              · unfold joinF
                by_cases hil : i < els.length
                · rw [if_pos hil]; exact (hc1 i j hil hj).2.1
                · rw [if_neg hil]; exact (hc2 (i - els.length) j (by omega) hj).2.1
              · simp only [if_true] at hu
                omega
            · cases he'
              refine ⟨.inr ⟨g, cap1, _, by rw [hlen], hB, hnew, by omega, hgm, ?_, fun o ho hu => ?_, fun o ho => ?_⟩, fun g' hg' => ?_⟩
              · simp only [List.size_toArray, List.length_append, List.length_drop, Array.length_toList, flatV_length] at hfit ⊢
                omega
              · simp only [if_true] at hu
                rw [hlen] at ho
                omega
              · simp only [if_true]
                rw [hlen] at ho
                exact ho
              · obtain rfl : g = g' := by simpa [Value.ownBlock] using hg'
                refine ⟨hnog, fun ℓ _ ⟨e2, sz2, els2, hl⟩ => ?_⟩
                have hcat : cat a (W.setRow g (flatV f1 els.length sz ++ flatV f2 news.length sz ++ cur.toList.drop (els.length * sz + (flatV f2 news.length sz).length)).toArray) ℓ = cat a W ℓ := by
                  cases ℓ with
                  | t i => rfl
                  | o b j =>
                    have hl2 := hl
                    simp only [St.at, Option.bind_eq_some_iff] at hl2
                    obtain ⟨cs, e1, _⟩ := hl2
                    have hne : b ≠ g := by rintro rfl; rw [hnog] at e1; cases e1
                    simp only [cat, setRow_other W g b _ hne]
                rw [hcat]
                exact hapg ℓ _ _ _ hl
          · -- a new row
            have hrun := run_append_grow (P := P) W t o.type e inf z ht hi hz1 ⟨g, 0, none⟩ els.length cap1 (flatV f1 els.length sz) (by rw [flatV_length, hisz]) hold ad news.length cap (flatV f2 news.length sz) (by rw [flatV_length, hisz]) hnews' (by omega)
              (by simp only [maxLen] at hmx; omega) (growslice_fits (by omega) hb)
            have hge := grownCap_ge W (els.length + news.length) cap1 e
            have hcm := grownCap_le_maxLen W (els.length + news.length) cap1 e hmx
            have hnew := heap_alloc_new W.drew (.cells ((flatV f1 els.length sz).toArray ++ (flatV f2 news.length sz).toArray ++ Builtin.zeroCells z.cells (grownCap W (els.length + news.length) cap1 e - (els.length + news.length))) e)
            have hE : Ext W U (W.drew.alloc (.cells ((flatV f1 els.length sz).toArray ++ (flatV f2 news.length sz).toArray ++ Builtin.zeroCells z.cells (grownCap W (els.length + news.length) cap1 e - (els.length + news.length))) e)) (fun k i => if k = W.heap.size then (els.length + news.length) * sz ≤ i else U k i) := by
              have := Ext.alloc W.drew U (.cells ((flatV f1 els.length sz).toArray ++ (flatV f2 news.length sz).toArray ++ Builtin.zeroCells z.cells (grownCap W (els.length + news.length) cap1 e - (els.length + news.length))) e) (fun i => (els.length + news.length) * sz ≤ i)
              exact ⟨(Below.refl _ _).drew.alloc (Nat.le_refl _) _, this.u⟩
            refine key _ _ _ hrun (h'.ext hE) ?_ (fun j hj => Sole.fresh h' hE ?_)
            · refine VR_row' (f := joinF els.length f1 f2) hlen hnew hge hcm hsall (fun i j hi hj => ⟨?_, ?_⟩) (fun o ho hu => ?_) (join_VR (fun i e' j c he hc => (hv1 i e' j c he hc).keep hE.keeps) (fun i e' j c he hc => (hv2 i e' j c he hc).keep hE.keeps))
              · have := join_get (f := f1) (g := f2) (by omega : i < els.length + news.length) hj
                rw [Array.getElem?_append_left (by have h9 := (List.getElem?_eq_some_iff.1 this).1; simpa using h9)]
                simpa using this
              · unfold joinF
                by_cases hil : i < els.length
                · rw [if_pos hil]; exact (hc1 i j hil hj).2.1
                · rw [if_neg hil]; exact (hc2 (i - els.length) j (by omega) hj).2.1
              · have hu' : (els.length + news.length) * sz ≤ o := by simpa using hu
                omega
            · refine .inr ⟨W.heap.size, _, _, by rw [hlen], Nat.le_refl _, hnew, by omega, hcm, ?_, fun o ho hu => ?_, fun o ho => ?_⟩
              · simp only [Array.size_append, List.size_toArray, size_zeroCells, hz2, flatV_length, ← Nat.add_mul]
                congr 1
                omega
              · have hu' : (els.length + news.length) * sz ≤ o := by simpa using hu
                rw [hlen] at ho
                omega
              · rw [hlen] at ho
                simpa using ho
end
end Go.Proofs.YtedcagoilpaafaaDoor
