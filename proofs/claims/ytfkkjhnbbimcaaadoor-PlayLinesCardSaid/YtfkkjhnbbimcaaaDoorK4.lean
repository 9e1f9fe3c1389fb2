import Derived.Test.YtfkkjhnbbimcaaaDoorK3
/- The abstract machine, part 10: one operation, whatever it is; its guard. -/
namespace Go.Proofs.YtfkkjhnbbimcaaaDoor
set_option linter.all false
open Go.RowKit

section
variable {P : Program} {N : Nat} {W0 : World} {U0 : Nat → Nat → Prop} {M : Nat → Prop} {a : Act} {W : World} {U : Nat → Nat → Prop} {s : St} {o : Oper} {r : AV} {R : Bool}

theorem wp_of_VOK (h : Inv N W0 U0 M a W U s) (hV : VOK P a o W U r) {d : Option Nat} (hod : o.dst = d) (hd : ∀ j, d = some j → j < N) {next : Act → World → Prop} {Q : Exit → Act → World → Prop}
    (hn : ∀ a' W' U', Inv N W0 U0 M a' W' U' (s.put d r) → next a' W') : o.wp P a W next Q := by
  obtain ⟨v, W', U', hrun, hE, hv, ho⟩ := hV
  unfold Oper.wp
  rw [hrun, Oper.upon_value, hod]
  exact hn _ _ _ ((h.ext hE).putO hd hv fun j _ => Sole.fresh h hE ho)

theorem cMove_sound (h : Inv N W0 U0 M a W U s) {ops : List Oper} {take : Bool} {x : Operand} {k : AK} (ho : o.op = .move x ∨ o.op = .assign x) (hk : cMove P ops o take x = some k) (hd : ∀ j, o.dst = some j → j < N) {K : St → Prop} (hK : kW P o.dst k s K)
    {next : Act → World → Prop} {Q : Exit → Act → World → Prop} (hn : ∀ a' W' U' s', Inv N W0 U0 M a' W' U' s' → K s' → next a' W') : o.wp P a W next Q := by
  unfold cMove at hk
  split at hk
  · cases hk
    obtain ⟨r, hr, hK⟩ := hK
    exact wp_of_VOK h (s_nil ho rfl hr) rfl hd fun a' W' U' hi => hn _ _ _ _ hi hK
  · split at hk
    · split at hk
      · cases hk
      · rename_i hne
        cases hk
        obtain ⟨r, hr, hK⟩ := hK
        exact s_tk h ho rfl hd hne hr fun a' W' U' hi => hn _ _ _ _ hi hK
    · cases hk
      obtain ⟨r, hr, hK⟩ := hK
      exact wp_of_VOK h (s_mv h ho (x := .tmp _) rfl hr) rfl hd fun a' W' U' hi => hn _ _ _ _ hi hK
  · obtain ⟨X, hx, rfl⟩ := Option.map_eq_some_iff.1 hk
    obtain ⟨r, hr, hK⟩ := hK
    exact wp_of_VOK h (s_mv h ho hx hr) rfl hd fun a' W' U' hi => hn _ _ _ _ hi hK

theorem cOpdT_tmp {t : TypeId} {x : Operand} {i : Nat} (hx : cOpdT P t x = some (.t i)) : x = .tmp i := by
  unfold cOpdT at hx
  split at hx
  · split at hx
    · simp at hx
    · cases hx
  · cases x <;> simp [cOpd] at hx
    rw [hx]
theorem kind_sound (h : Inv N W0 U0 M a W U s) {ops : List Oper} {k : AK} (hk : cKind P R ops o = some k) (hd : ∀ j, o.dst = some j → j < N) {K : St → Prop} (hK : kW P o.dst k s K)
    {next : Act → World → Prop} {Q : Exit → Act → World → Prop} (hn : ∀ a' W' U' s', Inv N W0 U0 M a' W' U' s' → K s' → next a' W') : o.wp P a W next Q := by
  have val : ∀ {r : AV}, VOK P a o W U r → K (s.put o.dst r) → o.wp P a W next Q := fun hV hK => wp_of_VOK h hV rfl hd fun a' W' U' hi => hn _ _ _ _ hi hK
  unfold cKind at hk
  split at hk
  case h_1 x ho => exact cMove_sound h (.inl ho) hk hd hK hn
  case h_2 x ho => exact cMove_sound h (.inr ho) hk hd hK hn
  case h_3 t ho =>
    cases hz : zeroOf P t with
    | none => simp [hz] at hk
    | some z =>
      simp only [hz] at hk
      split at hk
      · rename_i hh
        cases hk
        exact s_newv h ho hd rfl hz hh hK hn
      · cases hk
  case h_4 t x ho =>
    cases hx : cOpd x with
    | none => simp [hx] at hk
    | some X =>
      simp only [hx, Option.map_some, Option.some.injEq] at hk
      subst hk
      exact s_box h ho hd rfl hx hK hn
  case h_5 t x ho =>
    split at hk
    · rename_i n X h1 h2
      cases ht : takes P R ops o t n with
      | false =>
        simp only [ht, Bool.false_eq_true, if_false, Option.some.injEq] at hk
        subst hk
        obtain ⟨r, hr, hK⟩ := hK
        exact val (s_ld h ho h1 h2 hr) hK
      | true =>
        simp only [ht, if_true, Option.some.injEq] at hk
        subst hk
        have hnn : n = none := by
          simp only [takes, Bool.and_eq_true] at ht
          exact Option.isNone_iff_eq_none.1 ht.2
        subst hnn
        obtain ⟨p, hp, hK⟩ := hK
        cases p <;> try exact hK.elim
        · rename_i cs
          cases cs with
          | nil => exact hK.elim
          | cons c rest => exact val (s_ld h ho h1 h2 (r := c.alias) ⟨_, _, hp, rfl, rfl⟩) hK
        · rename_i b off
          obtain ⟨cs, hb, c, hc, hK⟩ := hK
          by_cases hown : ∃ e sz els, c = .sl (some e) sz els
          · obtain ⟨e, sz, els, rfl⟩ := hown
            exact s_ldt h ho rfl hd h1 h2 hp hb hc fun a' W' U' hi => hn _ _ _ _ hi hK
          · by_cases hnil : ∃ e sz, c = .nils e sz
            · obtain ⟨e, sz, rfl⟩ := hnil
              obtain ⟨vs, ty, q1, q2, q3, q4, q5⟩ := h.ob b cs hb
              have hlt : off < cs.length := (List.getElem?_eq_some_iff.1 hc).1
              have hv := (q3 off _ hc).1
              have hv0 : vs.getD off undef = .slice none 0 0 := by generalize vs.getD off undef = val at hv; cases hv; rfl
              have hcell : W.cell? ⟨b, off, none⟩ = some (.slice none 0 0) := by
                rw [cell_of_row W b off vs ty (0, 0) q1, ← hv0]
                have : off < vs.size := by omega
                simp [this]
              have hpx := cOpd_sound h h2 hp
              have hadr : a.eval x = .pointer (some ⟨b, off, none⟩) := by
                generalize a.eval x = val at hpx
                cases hpx
                rfl
              exact wp_of_VOK h ⟨.slice none 0 0, W, U, by simp [execOp, ho, hadr, run_load_one h1 hcell], Ext.refl _ _, VR.nil (some e) sz, .inl ⟨rfl, rfl⟩⟩ rfl hd fun a' W' U' hi => hn _ _ _ _ hi hK
            have he : ldE s o.dst b off cs c = s.put o.dst c.alias := by
              cases c <;> try rfl
              rename_i own sz els
              cases own with
              | none => rfl
              | some e => exact absurd ⟨e, sz, els, rfl⟩ hown
              exact absurd ⟨_, _, rfl⟩ hnil
            rw [he] at hK
            have hlt : off < cs.length := (List.getElem?_eq_some_iff.1 hc).1
            refine val (s_ld h ho h1 h2 (r := c.alias) ⟨_, cs.drop off, hp, by simp only [view, hb, Option.map_some], ?_⟩) hK
            rw [List.drop_eq_getElem_cons hlt, (List.getElem?_eq_some_iff.1 hc).2]
            rfl
    · cases hk
  case h_6 t x v ho =>
    split at hk
    · rename_i n X V h1 h2 h3 h4
      split at hk
      · rename_i hc
        have plain : K (eff o.dst (.sto n X V) .undef s) → opR P s (.sto n X V) .undef → o.wp P a W next Q := fun hK hr => by
          rw [h4] at hK
          exact s_sto h ho h4 hc.1 rfl hc.2 h2 h3 hr fun a' W' U' hi => hn _ _ _ _ hi hK
        cases V with
        | c w =>
          simp only [Option.some.injEq] at hk
          subst hk
          obtain ⟨r, hr, hK⟩ := hK
          obtain rfl : r = .undef := by obtain ⟨_, _, _, _, _, _, _, _, _, e⟩ := hr; exact e
          exact plain hK hr
        | t i =>
          simp only [Option.some.injEq] at hk
          subst hk
          cases hg : gives P R t n with
          | false =>
            simp only [hg, Bool.false_eq_true, if_false] at hK
            obtain ⟨r, hr, hK⟩ := hK
            obtain rfl : r = .undef := by obtain ⟨_, _, _, _, _, _, _, _, _, e⟩ := hr; exact e
            exact plain hK hr
          | true =>
            simp only [hg, if_true] at hK
            have hnn : n = none := by
              simp only [gives, Bool.and_eq_true] at hg
              exact Option.isNone_iff_eq_none.1 hg.2
            subst hnn
            obtain ⟨p, hp, w, hi, hK⟩ := hK
            cases p <;> try exact hK.elim
            rename_i b off
            obtain ⟨cs, hb, ⟨hlt, hl1⟩, hK⟩ := hK
            by_cases hown : ∃ e sz els, w = .sl (some e) sz els
            · obtain ⟨e, sz, els, rfl⟩ := hown
              obtain rfl := cOpdT_tmp h3
              exact s_stt h ho h4 hc.1 h2 hp hb hlt hi fun a' W' U' hv => hn _ _ _ _ hv hK
            · have he : stE s i b off cs w = eff o.dst (.sto none X (.t i)) .undef s := by
                have e2 : eff o.dst (.sto none X (.t i)) .undef s = { s with o := upd s.o b (some (splice cs off w.cells)) } := by
                  simp only [eff, hp, show (Opd.t i).ev s = some w from hi, hb, Option.map_some]
                rw [e2]
                cases w <;> try rfl
                rename_i own sz els
                cases own with
                | none => rfl
                | some e => exact absurd ⟨e, sz, els, rfl⟩ hown
              rw [he] at hK
              exact plain hK ⟨b, off, w, cs, hp, hi, hb, by rw [hl1]; rfl, by omega, rfl⟩
      · cases hk
    · cases hk
  case h_7 t x f ho =>
    split at hk
    · rename_i fs X h1 h2
      split at hk
      · rename_i fd hf
        split at hk
        · rename_i n hz
          cases hk
          obtain ⟨r, hr, hK⟩ := hK
          exact val (s_fld h ho h1 hf hz h2 hr) hK
        · cases hk
      · cases hk
    · cases hk
  case h_8 t x f ho =>
    split at hk
    · rename_i fs X h1 h2
      split at hk
      · rename_i fd hf
        cases hn' : aggN P fd.type with
        | none => simp [hn'] at hk
        | some n =>
          simp only [hn', Option.map_some, Option.some.injEq] at hk
          subst hk
          obtain ⟨r, hr, hK⟩ := hK
          exact val (s_fldv h ho h1 hf hn' h2 hr) hK
      · cases hk
    · cases hk
  case h_9 t x i ho =>
    split at hk
    · rename_i e sz X I h1 h2 h3
      cases hk
      obtain ⟨r, hr, hK⟩ := hK
      exact val (s_idx h ho h1 h2 h3 hr) hK
    · rename_i X I h1 h2 h3
      split at hk
      · rename_i n e hu
        split at hk
        · rename_i hi
          cases hk
          obtain ⟨r, hr, hK⟩ := hK
          exact val (s_aidx h ho hu hi h2 h3 hr) hK
        · cases hk
      · cases hk
    · cases hk
  case h_10 t x i ho =>
    split at hk
    · rename_i X I h1 h2 h3
      cases hk
      obtain ⟨r, hr, hK⟩ := hK
      exact val (s_sidx h ho h1 h2 h3 hr) hK
    · rename_i n e X I h1 h2 h3
      obtain ⟨q, h4, rfl⟩ := Option.map_eq_some_iff.1 hk
      obtain ⟨r, hr, hK⟩ := hK
      exact val (s_vidx h ho h1 h4 h2 h3 hr) hK
    · cases hk
  case h_11 op t x y ty ho =>
    split at hk
    · split at hk
      · rename_i X Y h1 h2
        cases hk
        obtain ⟨r, hr, hK⟩ := hK
        exact val (s_bin h ho h1 h2 hr) hK
      · cases hk
    · rename_i hpl
      split at hk
      · rename_i X Y h1 h2 h3
        cases hk
        obtain ⟨r, hr, hK⟩ := hK
        refine val (s_beq h ho ?_ h1 h2 h3 hr) hK
        cases op <;> simp [plainBin] at hpl <;> simp
      · rename_i fs X Y h1 h2 h3
        split at hk
        · rename_i hg
          obtain ⟨ks, hks, rfl⟩ := Option.map_eq_some_iff.1 hk
          obtain ⟨r, hr, hK⟩ := hK
          refine val (s_aeq h ho ?_ h1 hg hks h2 h3 hr) hK
          cases op <;> simp [plainBin] at hpl <;> simp
        · cases hk
      · cases hk
  case h_12 op t x ho =>
    cases hx : cOpd x with
    | none => simp [hx] at hk
    | some X =>
      simp only [hx, Option.map_some, Option.some.injEq] at hk
      subst hk
      obtain ⟨r, hr, hK⟩ := hK
      exact val (s_un h ho hx hr) hK
  case h_13 src dst x ho =>
    split at hk
    · rename_i k1 k2 X h1 h2 h3
      cases hk
      obtain ⟨r, hr, hK⟩ := hK
      exact val (s_conv h ho h1 h2 h3 hr) hK
    · rename_i e X h1 h2 h3
      split at hk
      · rename_i h4
        cases hk
        obtain ⟨r, hr, hK⟩ := hK
        exact val (s_b2s h ho h1 h2 h4 h3 hr) hK
      · cases hk
    · rename_i X h1 h2 h3
      cases hk
      obtain ⟨r, hr, hK⟩ := hK
      exact val (s_s2s h ho h1 h2 h3 hr) hK
    · cases hk
  case h_14 t x lo hi ho =>
    split at hk
    · rename_i X LO HI h1 h2 h3 h4
      cases hk
      obtain ⟨r, hr, hK⟩ := hK
      exact val (s_slc h ho h1 h2 h3 h4 hr) hK
    · rename_i e X LO HI h1 h2 h3 h4
      cases hi' : P.info? e with
      | none => simp [hi'] at hk
      | some i =>
        simp only [hi', Option.map_some, Option.some.injEq] at hk
        subst hk
        obtain ⟨r, hr, hK⟩ := hK
        exact val (s_slcs h ho h1 hi' h2 h3 h4 hr) hK
    · cases hk
  case h_15 x j ho =>
    cases hx : cOpd x with
    | none => simp [hx] at hk
    | some X =>
      simp only [hx, Option.map_some, Option.some.injEq] at hk
      subst hk
      obtain ⟨r, hr, hK⟩ := hK
      exact val (s_ext h ho hx hr) hK
  case h_16 x ho =>
    cases hx : cOpd x with
    | none => simp [hx] at hk
    | some X =>
      simp only [hx, Option.map_some, Option.some.injEq] at hk
      subst hk
      obtain ⟨r, hr, hK⟩ := hK
      exact val (s_nilc h ho hx hr) hK
  case h_17 c x y ho =>
    split at hk
    · rename_i C X Y h1 h2 h3
      cases hk
      obtain ⟨r, hr, hK⟩ := hK
      exact val (s_pick h ho h1 h2 h3 hr) hK
    · cases hk
  case h_18 t parts ho =>
    split at hk
    · rename_i fs z h1 h2
      split at hk
      · rename_i h3
        cases hp : cFields P fs parts.toList with
        | none => simp [hp] at hk
        | some ps =>
          simp only [hp, Option.map_some, Option.some.injEq] at hk
          subst hk
          obtain ⟨r, hr, hK⟩ := hK
          exact val (s_bld h ho h1 h2 h3 hp hr) hK
      · cases hk
    · rename_i n e z h1 h2
      split at hk
      · rename_i inf hinf
        cases hp : cElems P e inf.size parts.toList with
        | none => simp [hp] at hk
        | some ps =>
          simp only [hp, Option.map_some, Option.some.injEq] at hk
          subst hk
          obtain ⟨r, hr, hK⟩ := hK
          exact val (s_blda h ho h1 h2 hinf hp hr) hK
      · cases hk
    · cases hk
  case h_19 t n parts ho =>
    split at hk
    · rename_i e sz ps h1 h2
      split at hk
      · rename_i h3
        cases hk
        obtain ⟨r, hr, hK⟩ := hK
        exact val (s_bs h ho h1 h2 h3.1 h3.2.1 h3.2.2.1 h3.2.2.2 hr) hK
      · cases hk
    · cases hk
  case h_20 f args argTypes ho =>
    split at hk
    · rename_i hf
      cases hfn : P.funcs[f]? with
      | none => simp [hfn] at hf
      | some fn =>
        simp only [hfn, Option.map_some, Option.getD_some, Bool.and_eq_true, Bool.not_eq_true'] at hf
        cases hp : cArgs P argTypes.toList args.toList with
        | none => simp [hp] at hk
        | some ps =>
          cases R with
          | true =>
            simp only [hp, Option.map_some, Option.some.injEq, if_true] at hk
            subst hk
            exact s_callo h ho rfl hd hfn hf.1 hf.2 hp hK hn
          | false =>
            simp only [hp, Option.map_some, Option.some.injEq, Bool.false_eq_true, if_false] at hk
            subst hk
            obtain ⟨r, hr, hK⟩ := hK
            exact s_call h ho rfl hd hfn hf.1 hf.2 hp hr fun a' W' U' hi => hn _ _ _ _ hi hK
    · cases hk
  case h_21 x t ho =>
    split at hk
    · rename_i X h1 h2
      cases hk
      obtain ⟨r, hr, hK⟩ := hK
      exact val (s_lens h ho h1 h2 hr) hK
    · rename_i e X h1 h2
      cases hk
      obtain ⟨r, hr, hK⟩ := hK
      exact val (s_lenl h ho h1 h2 hr) hK
    · cases hk
  case h_22 i x t t' ho =>
    split at hk
    · rename_i e sz X h1 h2
      split at hk
      · rename_i h3
        obtain ⟨rfl, h4, h5⟩ := h3
        obtain ⟨inf, g1, g2, g3⟩ := isSlice_cases h1
        simp only [g2, Option.map_some, Option.some.injEq] at hk
        subst hk
        obtain ⟨r, hr, hK⟩ := hK
        exact s_app h ho rfl hd g1 g2 g3 h4 h5 h2 hr fun a' W' U' hi => hn _ _ _ _ hi hK
      · split at hk
        · rename_i h3
          obtain ⟨h4, rfl, h5⟩ := h3
          obtain ⟨inf, g1, g2, g3⟩ := isSlice_cases h1
          simp only [g2, Option.map_some, Option.some.injEq] at hk
          subst hk
          obtain ⟨r, hr, hK⟩ := hK
          exact s_apps h ho rfl hd g1 g2 (isStr_spec h4) g3 h5 h2 hr fun a' W' U' hi => hn _ _ _ _ hi hK
        · cases hk
    · cases hk
  case h_23 x y ts ho =>
    split at hk
    · rename_i X Y h1 h2
      cases hk
      obtain ⟨r, hr, hK⟩ := hK
      exact val (s_mn h ho h1 h2 hr) hK
    · cases hk
  case h_24 t x y ho =>
    split at hk
    · rename_i e sz X h1 h2
      split at hk
      · rename_i z i h3 h4
        split at hk
        · rename_i h5
          obtain ⟨h6, h7, h8⟩ := h5
          obtain rfl := sameOpd_eq h6
          split at hk
          · rename_i h9
            cases hk
            exact s_mk h ho hd rfl h1 h2 h3 h4 h7 h8 h9 hK hn
          · cases hk
        · cases hk
      · cases hk
    · cases hk
  case h_25 => cases hk

def cOp (P : Program) (R : Bool) (ops : List Oper) (o : Oper) : Option AOp :=
  match o.guard with
  | none => (cKind P R ops o).map fun k => ⟨none, o.dst, k⟩
  | some (j, want) => match (ops[j]?).bind (·.dst), cKind P R ops o with
    | some t, some k => some ⟨some (t, want), o.dst, k⟩
    | _, _ => none

/-- An operation of a region, its guard looked at. -/
theorem op_sound (h : Inv N W0 U0 M a W U s) {ops : List Oper} {A : AOp} (hc : cOp P R ops o = some A) (hd : ∀ j, o.dst = some j → j < N) {K : St → Prop} (hK : opW P A s K)
    {next : Act → World → Prop} {Q : Exit → Act → World → Prop} (hn : ∀ a' W' U' s', Inv N W0 U0 M a' W' U' s' → K s' → next a' W') :
    if Region.wanted o (yielded ops.toArray a.tmps) then o.wp P a W next Q ∨ (o.asks P a W ∧ LetsOut Q) else next (a.put o.dst Go.undef) W := by
  unfold cOp at hc
  split at hc
  · rename_i hg
    cases hk : cKind P R ops o with
    | none => simp [hk] at hc
    | some k =>
      simp only [hk, Option.map_some, Option.some.injEq] at hc
      subst hc
      rw [if_pos (by simp [Region.wanted, hg])]
      exact .inl (kind_sound h hk hd hK hn)
  · rename_i j want hg
    split at hc
    · rename_i t k h1 h2
      simp only [Option.some.injEq] at hc
      subst hc
      have hskip : K (s.put o.dst .undef) → next (a.put o.dst Go.undef) W := fun hK => hn _ _ U _ (h.putO hd .undef fun _ _ => Sole.plain (by simp)) hK
      have hy : yielded ops.toArray a.tmps j = match a.tmps[t]? with | some (.bool b) => some b | _ => none := by
        simp only [yielded, List.getElem?_toArray, h1, Option.bind_some]
        rfl
      simp only [opW] at hK
      split at hK
      · rename_i b hb
        have hv := h.tv t _ hb
        have hbv : a.tmps.getD t Go.undef = .bool b := by generalize a.tmps.getD t Go.undef = val at hv; cases hv; rfl
        have hbt : a.tmps[t]? = some (.bool b) := by
          rw [Array.getD_eq_getD_getElem?] at hbv
          cases hx : a.tmps[t]? with
          | none => rw [hx] at hbv; simp [Go.undef] at hbv
          | some y => rw [hx] at hbv; simpa using hbv
        rw [hbt] at hy
        have hw : Region.wanted o (yielded ops.toArray a.tmps) = (b == want) := by simp [Region.wanted, hg, hy]
        rw [hw]
        by_cases hbw : b = want
        · subst hbw
          rw [if_pos (by simp)]
          exact .inl (kind_sound h h2 hd (hK.1 rfl) hn)
        · rw [if_neg (by simpa using hbw)]
          exact hskip (hK.2 (by cases b <;> cases want <;> simp_all))
      · rename_i hb
        have hv := h.tv t _ hb
        have hbv : a.tmps.getD t Go.undef = Go.undef := by generalize a.tmps.getD t Go.undef = val at hv; cases hv; rfl
        have hnb : ∀ b, a.tmps[t]? ≠ some (.bool b) := by
          intro b hb
          rw [Array.getD_eq_getD_getElem?, hb] at hbv
          simp [Go.undef] at hbv
        have hyn : yielded ops.toArray a.tmps j = none := by
          rw [hy]
          split
          · rename_i b hb; exact absurd hb (hnb b)
          · rfl
        have hw : Region.wanted o (yielded ops.toArray a.tmps) = false := by simp [Region.wanted, hg, hyn]
        rw [hw]
        exact hskip hK
      · exact hK.elim
    · cases hc
end
end Go.Proofs.YtfkkjhnbbimcaaaDoor

/- The abstract machine, part 10b: what an operation gives in a state, it gives in every state that has more. -/
namespace Go.Proofs.YtfkkjhnbbimcaaaDoor
set_option linter.all false
open Go.RowKit

theorem le_refl (s : St) : Le s s := ⟨fun _ _ h => h, fun _ _ h => h⟩
theorem le_trans {a b c : St} (h : Le a b) (g : Le b c) : Le a c := ⟨fun i v e => g.1 i v (h.1 i v e), fun i v e => g.2 i v (h.2 i v e)⟩
section
variable {P : Program} {s s' : St} (h : Le s s')
include h
theorem ev_le {x : Opd} {v : AV} (e : x.ev s = some v) : x.ev s' = some v := by
  cases x with
  | t i => exact h.1 i v e
  | c w => exact e
theorem evs_le : ∀ {l : List Opd} {vs : List AV}, evs s l = some vs → evs s' l = some vs
  | [], _, e => e
  | x :: r, vs, e => by
    unfold evs at e ⊢
    split at e
    · rename_i v ws h1 h2
      rw [ev_le h h1, evs_le h2]; exact e
    · cases e
theorem evp_le : ∀ {l : List (Nat × Nat × Opd)} {vs : List (Nat × Nat × AV)}, evp s l = some vs → evp s' l = some vs
  | [], _, e => e
  | (a, b, x) :: r, vs, e => by
    unfold evp at e ⊢
    split at e
    · rename_i v ws h1 h2
      rw [ev_le h h1, evp_le h2]; exact e
    · cases e
theorem view_le {p : AV} {cs : List AV} (e : view s.o p = some cs) : view s'.o p = some cs := by
  cases p <;> first | exact e | skip
  rename_i b off
  simp only [view, Option.map_eq_some_iff] at e ⊢
  obtain ⟨l, h1, h2⟩ := e
  exact ⟨l, h.2 b l h1, h2⟩
theorem boundR_le {d : Nat} {x : Option Opd} {r : Nat} (e : boundR s d x r) : boundR s' d x r := by
  cases x with
  | none => exact e
  | some x => obtain ⟨k, n, h1, h2⟩ := e; exact ⟨k, n, ev_le h h1, h2⟩
theorem put_le {d : Option Nat} {v : AV} : Le (s.put d v) (s'.put d v) := by
  cases d with
  | none => exact h
  | some d =>
    refine ⟨fun i w e => ?_, h.2⟩
    simp only [St.put, upd] at e ⊢
    split
    · rename_i hi; rw [if_pos hi] at e; exact e
    · rename_i hi; rw [if_neg hi] at e; exact h.1 i w e
theorem updt_le {i : Nat} {v : Option AV} : Le { s with t := upd s.t i v } { s' with t := upd s'.t i v } := by
  refine ⟨fun j w e => ?_, h.2⟩
  simp only [upd] at e ⊢
  split
  · rename_i hi; rw [if_pos hi] at e; exact e
  · rename_i hi; rw [if_neg hi] at e; exact h.1 j w e
theorem updo_le {i : Nat} {v : Option (List AV)} : Le { s with o := upd s.o i v } { s' with o := upd s'.o i v } := by
  refine ⟨h.1, fun j w e => ?_⟩
  simp only [upd] at e ⊢
  split
  · rename_i hi; rw [if_pos hi] at e; exact e
  · rename_i hi; rw [if_neg hi] at e; exact h.2 j w e
theorem opR_le {k : AK} {r : AV} (e : opR P s k r) : opR P s' k r := by
  cases k with
  | mv x => obtain ⟨v, h1, h2⟩ := e; exact ⟨v, ev_le h h1, h2⟩
  | nil _ _ => exact e
  | tk i => exact h.1 i r e
  | newv _ => exact e
  | box _ => exact e
  | callo _ _ => exact e
  | ldt _ => exact e
  | stt _ _ => exact e
  | mk _ _ _ => exact e
  | vidx n size q x i => obtain ⟨a, b, h1, h2, h3⟩ := e; exact ⟨a, b, ev_le h h1, ev_le h h2, h3⟩
  | mn x y => obtain ⟨a, b, h1, h2, h3⟩ := e; exact ⟨a, b, ev_le h h1, ev_le h h2, h3⟩
  | ld n x => obtain ⟨p, cs, h1, h2, h3⟩ := e; exact ⟨p, cs, ev_le h h1, view_le h h2, h3⟩
  | sto n x v => obtain ⟨b, off, a, cs, h1, h2, h3, h4⟩ := e; exact ⟨b, off, a, cs, ev_le h h1, ev_le h h2, h.2 _ _ h3, h4⟩
  | fld off x => obtain ⟨p, h1, h2⟩ := e; exact ⟨p, ev_le h h1, h2⟩
  | idx size x i => obtain ⟨p, q, h1, h2, h3⟩ := e; exact ⟨p, q, ev_le h h1, ev_le h h2, h3⟩
  | bin op x y => obtain ⟨a, b, h1, h2, h3⟩ := e; exact ⟨a, b, ev_le h h1, ev_le h h2, h3⟩
  | aidx n size x i => obtain ⟨p, k, m, h1, h2, h3⟩ := e; exact ⟨p, k, m, ev_le h h1, ev_le h h2, h3⟩
  | un op x => obtain ⟨a, h1, h2⟩ := e; exact ⟨a, ev_le h h1, h2⟩
  | len b x => obtain ⟨a, h1, h2⟩ := e; exact ⟨a, ev_le h h1, h2⟩
  | app e' size bytes i x => obtain ⟨els, own, news, h1, h2, h3⟩ := e; exact ⟨els, own, news, h.1 _ _ h1, ev_le h h2, h3⟩
  | apps e' bytes i x => obtain ⟨els, l, h1, h2, h3⟩ := e; exact ⟨els, l, h.1 _ _ h1, ev_le h h2, h3⟩
  | bs e' size ps => obtain ⟨vs, h1, h2⟩ := e; exact ⟨vs, evs_le h h1, h2⟩
  | bld z ps => obtain ⟨vs, cs, h1, h2⟩ := e; exact ⟨vs, cs, evp_le h h1, h2⟩
  | fldv off n x => obtain ⟨cs, h1, h2⟩ := e; exact ⟨cs, ev_le h h1, h2⟩
  | call f as' => obtain ⟨vs, h1, h2⟩ := e; exact ⟨vs, evs_le h h1, h2⟩
  | ext j x => obtain ⟨cs, c, h1, h2⟩ := e; exact ⟨cs, c, ev_le h h1, h2⟩
  | nilc x =>
    rcases e with ⟨cs, h1, h2⟩ | ⟨b, off, h1, h2⟩
    · exact .inl ⟨cs, ev_le h h1, h2⟩
    · exact .inr ⟨b, off, ev_le h h1, h2⟩
  | pick c a b => obtain ⟨cv, av, bv, h1, h2, h3, h4⟩ := e; exact ⟨cv, av, bv, ev_le h h1, ev_le h h2, ev_le h h3, h4⟩
  | slc size x lo hi =>
    cases size with
    | none => obtain ⟨l, a, b, h1, h2, h3, h4⟩ := e; exact ⟨l, a, b, ev_le h h1, boundR_le h h2, boundR_le h h3, h4⟩
    | some size => obtain ⟨own, l, a, b, h1, h2, h3, h4⟩ := e; exact ⟨own, l, a, b, ev_le h h1, boundR_le h h2, boundR_le h h3, h4⟩
  | conv k x => obtain ⟨k', n, h1, h2⟩ := e; exact ⟨k', n, ev_le h h1, h2⟩
  | b2s x => obtain ⟨own, l, h1, h2⟩ := e; exact ⟨own, l, ev_le h h1, h2⟩
  | sidx x i => obtain ⟨l, k, n, h1, h2, h3⟩ := e; exact ⟨l, k, n, ev_le h h1, ev_le h h2, h3⟩
  | beq neg x y => obtain ⟨a, b, h1, h2, h3⟩ := e; exact ⟨a, b, ev_le h h1, ev_le h h2, h3⟩
  | aeq neg ks x y => obtain ⟨a, b, c, h1, h2, h3⟩ := e; exact ⟨a, b, c, ev_le h h1, ev_le h h2, h3⟩
  | s2s x => obtain ⟨l, h1, h2⟩ := e; exact ⟨l, ev_le h h1, h2⟩
end
end Go.Proofs.YtfkkjhnbbimcaaaDoor

/- The abstract machine, part 11: regions, in the text's order and in any order that the model may draw. -/
namespace Go.Proofs.YtfkkjhnbbimcaaaDoor
set_option linter.all false
open Go.RowKit

def cOpsL (P : Program) (R : Bool) (all : List Oper) : List Oper → Option (List AOp)
  | [] => some []
  | o :: r => match cOp P R all o, cOpsL P R all r with
    | some x, some xs => some (x :: xs)
    | _, _ => none
theorem cOpsL_get {P : Program} {R : Bool} {all l : List Oper} {As : List AOp} (h : cOpsL P R all l = some As) : As.length = l.length ∧ ∀ (i : Nat) (o : Oper), l[i]? = some o → ∃ A, As[i]? = some A ∧ cOp P R all o = some A := by
  induction l generalizing As with
  | nil =>
    simp only [cOpsL, Option.some.injEq] at h
    subst h
    exact ⟨rfl, fun i o ho => by simp at ho⟩
  | cons o l ih =>
    simp only [cOpsL] at h
    split at h
    · rename_i x xs h1 h2
      simp only [Option.some.injEq] at h
      subst h
      obtain ⟨e1, e2⟩ := ih h2
      refine ⟨by simp [e1], fun i p hp => ?_⟩
      cases i with
      | zero => simp at hp; subst hp; exact ⟨x, rfl, h1⟩
      | succ i => simpa using e2 i p (by simpa using hp)
    · cases h
def dstOk (N : Nat) (o : Oper) : Bool := match o.dst with
  | some d => decide (d < N)
  | none => true
theorem dstOk_spec {N : Nat} {o : Oper} (h : dstOk N o = true) : ∀ j, o.dst = some j → j < N := by
  intro j hj
  simpa [dstOk, hj] using h

section
variable {P : Program} {N : Nat} {W0 : World} {U0 : Nat → Nat → Prop} {M : Nat → Prop} {a : Act} {W : World} {U : Nat → Nat → Prop} {s : St} {R : Bool}

/-- The text's order. -/
theorem seq_sound {all : List Oper} (hd : ∀ o ∈ all, dstOk N o = true) {K : St → Prop} {Q : Exit → Act → World → Prop} (hn : ∀ a' W' U' s', Inv N W0 U0 M a' W' U' s' → K s' → Q .normal a' W') :
    ∀ (l : List Oper) (As : List AOp) (k : Nat) (a : Act) (W : World) (U : Nat → Nat → Prop) (s : St), (∀ j, l[j]? = all[k + j]?) → cOpsL P R all l = some As → Inv N W0 U0 M a W U s → opsW P As s K → wpOps P all.toArray Q (List.range' k l.length) a W
  | [], As, k, a, W, U, s, _, hc, h, hK => by
    simp only [cOpsL, Option.some.injEq] at hc
    subst hc
    exact hn _ _ _ _ h hK
  | o :: l, As, k, a, W, U, s, hl, hc, h, hK => by
    simp only [cOpsL] at hc
    split at hc
    · rename_i x xs h1 h2
      simp only [Option.some.injEq] at hc
      subst hc
      have hk : all[k]? = some o := by simpa using (hl 0).symm
      rw [List.length_cons, List.range'_succ, wpOps_cons]
      unfold wpOp
      have hk' : all.toArray[k]? = some o := by simpa using hk
      rw [hk']
      have hmem : o ∈ all := List.mem_of_getElem? hk
      refine op_sound h h1 (dstOk_spec (hd o hmem)) hK fun a' W' U' s' hi hK' => ?_
      exact seq_sound hd hn l xs (k + 1) a' W' U' s' (fun j => by have := hl (j + 1); simpa [Nat.add_assoc, Nat.add_comm 1 j] using this) h2 hi hK'
    · cases hc

/-! ### any order -/
structure Wr where
  t : List (Nat × Option AV)
  o : Option (Nat → Option (List AV))
def putL (d : Option Nat) (r : AV) : List (Nat × Option AV) :=
  match d with
  | some d => [(d, some r)]
  | none => []
def Wr.app (w : Wr) (s : St) : St := { t := w.t.foldl (fun f x => upd f x.1 x.2) s.t, o := w.o.getD s.o }
def wrOf (d : Option Nat) (k : AK) (r : AV) (s : St) : Wr :=
  match k with
  | .tk i => match r with
    | .sl (some _) sz els => ⟨(i, some (.sl none sz els)) :: putL d r, none⟩
    | _ => ⟨putL d r.alias, none⟩
  | .app _ _ _ i _ => ⟨(i, none) :: putL d r, none⟩
  | .apps _ _ i _ => ⟨(i, none) :: putL d r, none⟩
  | .sto _ x v => match x.ev s, v.ev s with
    | some (.ptr b off), some a => ⟨[], some (upd s.o b ((s.o b).map (splice · off a.cells)))⟩
    | _, _ => ⟨[], none⟩
  | _ => ⟨putL d r, none⟩
theorem putL_app (d : Option Nat) (r : AV) (s : St) : (Wr.mk (putL d r) none).app s = s.put d r := by
  cases d <;> rfl
theorem wrOf_app (d : Option Nat) (k : AK) (r : AV) (s : St) : (wrOf d k r s).app s = eff d k r s := by
  cases k <;> try exact putL_app d r s
  case tk i =>
    cases r <;> try exact putL_app d _ s
    rename_i own sz els
    cases own with
    | none => exact putL_app d _ s
    | some e => cases d <;> rfl
  case app e size bytes i x => cases d <;> rfl
  case apps e bytes i x => cases d <;> rfl
  case sto n x v =>
    simp only [wrOf, eff]
    split <;> simp [Wr.app, *]

def AK.det : AK → Bool
  | .newv _ => false
  | .box _ => false
  | .callo _ _ => false
  | .ldt _ => false
  | .stt _ _ => false
  | .mk _ _ _ => false
  | _ => true
def slots? : Option Opd → List Nat
  | some x => x.slots
  | none => []
def AK.rd : AK → List Nat
  | .mv x | .ld _ x | .fld _ x | .un _ x | .len _ x | .fldv _ _ x | .ext _ x | .nilc x | .conv _ x | .b2s x | .s2s x | .box x => x.slots
  | .nil _ _ | .newv _ | .callo _ _ | .ldt _ | .stt _ _ | .mk _ _ _ => []
  | .tk i => [i]
  | .vidx _ _ _ x v | .mn x v | .sto _ x v | .idx _ x v | .aidx _ _ x v | .bin _ x v | .sidx x v | .beq _ x v | .aeq _ _ x v => x.slots ++ v.slots
  | .app _ _ _ i x => i :: x.slots
  | .apps _ _ i x => i :: x.slots
  | .bs _ _ ps => ps.flatMap Opd.slots
  | .bld _ ps => ps.flatMap fun x => x.2.2.slots
  | .call _ as => as.flatMap Opd.slots
  | .pick c a b => c.slots ++ a.slots ++ b.slots
  | .slc _ x lo hi => x.slots ++ slots? lo ++ slots? hi
def AK.rh : AK → Bool
  | .ld _ _ | .sto _ _ _ => true
  | _ => false
def AK.wh : AK → Bool
  | .sto _ _ _ => true
  | _ => false
def AK.wt : AK → List Nat
  | .tk i => [i]
  | .app _ _ _ i _ => [i]
  | .apps _ _ i _ => [i]
  | _ => []
def AOp.rd (A : AOp) : List Nat := (match A.g with | some (j, _) => [j] | none => []) ++ A.k.rd
def AOp.wt (A : AOp) : List Nat := A.k.wt ++ A.d.toList
def apartA (x y : AOp) : Bool :=
  x.wt.all (fun i => !y.rd.contains i && !y.wt.contains i) && y.wt.all (fun i => !x.rd.contains i) && !(x.k.wh && (y.k.rh || y.k.wh)) && !(y.k.wh && x.k.rh)

def stepA (P : Program) (A : AOp) (s : St) (w : Wr) : Prop :=
  match A.g with
  | none => ∃ r, opR P s A.k r ∧ w = wrOf A.d A.k r s
  | some (j, want) => match s.t j with
    | some (.bool b) => if b = want then ∃ r, opR P s A.k r ∧ w = wrOf A.d A.k r s else w = ⟨putL A.d .undef, none⟩
    | some .undef => w = ⟨putL A.d .undef, none⟩
    | _ => False

theorem kW_det {d : Option Nat} {k : AK} (hk : k.det = true) {K : St → Prop} : kW P d k s K ↔ ∃ r, opR P s k r ∧ K (eff d k r s) := by
  cases k <;> first | exact Iff.rfl | simp [AK.det] at hk
theorem step_of_opW {A : AOp} (hk : A.k.det = true) {K : St → Prop} (h : opW P A s K) : ∃ w, stepA P A s w ∧ K (w.app s) := by
  unfold opW at h
  unfold stepA
  split at h
  · rename_i hg
    rw [hg]
    obtain ⟨r, h1, h2⟩ := (kW_det hk).1 h
    exact ⟨_, ⟨r, h1, rfl⟩, by rw [wrOf_app]; exact h2⟩
  · rename_i j want hg
    rw [hg]
    simp only
    split at h
    · rename_i b hb
      rw [hb]
      by_cases hbw : b = want
      · obtain ⟨r, h1, h2⟩ := (kW_det hk).1 (h.1 hbw)
        exact ⟨_, by simp only []; rw [if_pos hbw]; exact ⟨r, h1, rfl⟩, by rw [wrOf_app]; exact h2⟩
      · exact ⟨⟨putL A.d .undef, none⟩, by simp [hbw], by rw [putL_app]; exact h.2 (by cases b <;> cases want <;> simp_all)⟩
    · rename_i hb
      rw [hb]
      exact ⟨⟨putL A.d .undef, none⟩, rfl, by rw [putL_app]; exact h⟩
    · exact h.elim
theorem opW_of_step {A : AOp} (hk : A.k.det = true) {w : Wr} (h : stepA P A s w) : opW P A s (fun s' => s' = w.app s) := by
  unfold stepA at h
  unfold opW
  split at h
  · rename_i hg
    rw [hg]
    obtain ⟨r, h1, rfl⟩ := h
    exact (kW_det hk).2 ⟨r, h1, by rw [wrOf_app]⟩
  · rename_i j want hg
    rw [hg]
    simp only
    split at h
    · rename_i b hb
      rw [hb]
      by_cases hbw : b = want
      · rw [if_pos hbw] at h
        obtain ⟨r, h1, rfl⟩ := h
        refine ⟨fun _ => (kW_det hk).2 ⟨r, h1, by rw [wrOf_app]⟩, fun hb' => ?_⟩
        subst hbw
        cases b <;> simp at hb'
      · rw [if_neg hbw] at h
        subst h
        exact ⟨fun hb' => absurd hb' hbw, fun _ => by rw [putL_app]⟩
    · rename_i hb
      rw [hb]
      subst h
      rw [putL_app]
    · exact h.elim

theorem evs_congr {s s' : St} {xs : List Opd} (h : ∀ i ∈ xs.flatMap Opd.slots, s.t i = s'.t i) : evs s xs = evs s' xs := by
  induction xs with
  | nil => rfl
  | cons x xs ih =>
    simp only [List.flatMap_cons, List.mem_append] at h
    simp only [evs, Opd.ev_congr (s := s) (s' := s') (x := x) fun i hi => h i (.inl hi), ih fun i hi => h i (.inr hi)]
theorem evp_congr {s s' : St} {xs : List (Nat × Nat × Opd)} (h : ∀ i ∈ xs.flatMap (fun x => x.2.2.slots), s.t i = s'.t i) : evp s xs = evp s' xs := by
  induction xs with
  | nil => rfl
  | cons x xs ih =>
    obtain ⟨p, q, x⟩ := x
    simp only [List.flatMap_cons, List.mem_append] at h
    simp only [evp, Opd.ev_congr (s := s) (s' := s') (x := x) fun i hi => h i (.inl hi), ih fun i hi => h i (.inr hi)]
theorem boundR_congr {s s' : St} {d r : Nat} {x : Option Opd} (h : ∀ i ∈ slots? x, s.t i = s'.t i) (hb : boundR s d x r) : boundR s' d x r := by
  cases x with
  | none => exact hb
  | some x =>
    obtain ⟨k, n, h1, h2⟩ := hb
    exact ⟨k, n, by rw [← Opd.ev_congr (s := s) (s' := s') (x := x) h]; exact h1, h2⟩

theorem opR_congr {s s' : St} {k : AK} {r : AV} (h : ∀ i ∈ k.rd, s.t i = s'.t i) (hh : k.rh = true → s.o = s'.o) (hr : opR P s k r) : opR P s' k r ∧ ∀ d, wrOf d k r s' = wrOf d k r s := by
  have e1 : ∀ x : Opd, (∀ i ∈ x.slots, i ∈ k.rd) → x.ev s' = x.ev s := fun x hx => (Opd.ev_congr fun i hi => h i (hx i hi)).symm
  cases k
  case sto n x v =>
    have hx := e1 x (by simp [AK.rd]; intro i hi; exact .inl hi)
    have hv := e1 v (by simp [AK.rd]; intro i hi; exact .inr hi)
    have ho := hh rfl
    refine ⟨?_, fun d => by simp only [wrOf, hx, hv, ← ho]⟩
    simp only [opR, hx, hv, ← ho] at hr ⊢
    exact hr
  case tk i =>
    refine ⟨?_, fun d => rfl⟩
    simp only [opR] at hr ⊢
    rw [← h i (by simp [AK.rd])]
    exact hr
  case app e size bytes i x =>
    refine ⟨?_, fun d => rfl⟩
    have hx := e1 x (by simp only [AK.rd, List.mem_cons]; intro j hj; exact .inr hj)
    simp only [opR, hx] at hr ⊢
    rw [← h i (by simp [AK.rd])]
    exact hr
  case apps e bytes i x =>
    refine ⟨?_, fun d => rfl⟩
    have hx := e1 x (by simp only [AK.rd, List.mem_cons]; intro j hj; exact .inr hj)
    simp only [opR, hx] at hr ⊢
    rw [← h i (by simp [AK.rd])]
    exact hr
  case ld n x =>
    refine ⟨?_, fun d => rfl⟩
    simp only [opR, e1 x (by simp [AK.rd]), ← hh rfl] at hr ⊢
    exact hr
  case bs e size ps =>
    refine ⟨?_, fun d => rfl⟩
    simp only [opR] at hr ⊢
    rw [← evs_congr (s := s) (s' := s') h]
    exact hr
  case call f ps =>
    refine ⟨?_, fun d => rfl⟩
    simp only [opR] at hr ⊢
    rw [← evs_congr (s := s) (s' := s') h]
    exact hr
  case bld z ps =>
    refine ⟨?_, fun d => rfl⟩
    simp only [opR] at hr ⊢
    rw [← evp_congr (s := s) (s' := s') h]
    exact hr
  case slc size x lo hi =>
    refine ⟨?_, fun d => rfl⟩
    have hx := e1 x (by simp only [AK.rd, List.mem_append]; intro j hj; exact .inl (.inl hj))
    have hlo : ∀ i ∈ slots? lo, s.t i = s'.t i := fun i hi => h i (by simp only [AK.rd, List.mem_append]; exact .inl (.inr hi))
    have hhi : ∀ i ∈ slots? hi, s.t i = s'.t i := fun i hi => h i (by simp only [AK.rd, List.mem_append]; exact .inr hi)
    cases size with
    | none =>
      obtain ⟨l, p, q, h1, h2, h3, h4⟩ := hr
      exact ⟨l, p, q, by rw [hx]; exact h1, boundR_congr hlo h2, boundR_congr hhi h3, h4⟩
    | some size =>
      obtain ⟨own, l, p, q, h1, h2, h3, h4⟩ := hr
      exact ⟨own, l, p, q, by rw [hx]; exact h1, boundR_congr hlo h2, boundR_congr hhi h3, h4⟩
  case nil e sz => exact ⟨hr, fun d => rfl⟩
  case newv => exact hr.elim
  case callo => exact hr.elim
  case ldt => exact hr.elim
  case stt => exact hr.elim
  case box => exact hr.elim
  case mk => exact hr.elim
  case pick c x y =>
    refine ⟨?_, fun d => rfl⟩
    simp only [opR, e1 c (by simp only [AK.rd, List.mem_append]; intro j hj; exact .inl (.inl hj)), e1 x (by simp only [AK.rd, List.mem_append]; intro j hj; exact .inl (.inr hj)), e1 y (by simp only [AK.rd, List.mem_append]; intro j hj; exact .inr hj)] at hr ⊢
    exact hr
  all_goals first
    | (rename_i x y
       refine ⟨?_, fun d => rfl⟩
       have hx := e1 x (by simp only [AK.rd, List.mem_append]; intro j hj; exact .inl hj)
       have hy := e1 y (by simp only [AK.rd, List.mem_append]; intro j hj; exact .inr hj)
       simp only [opR, hx, hy] at hr ⊢
       exact hr)
    | (rename_i x
       refine ⟨?_, fun d => rfl⟩
       have hx := e1 x (fun j hj => hj)
       simp only [opR, hx] at hr ⊢
       exact hr)
    | skip

theorem stepA_congr {s s' : St} {A : AOp} {w : Wr} (h : ∀ i ∈ A.rd, s.t i = s'.t i) (hh : A.k.rh = true → s.o = s'.o) (hs : stepA P A s w) : stepA P A s' w := by
  have hk : ∀ i ∈ A.k.rd, s.t i = s'.t i := fun i hi => h i (by simp [AOp.rd, hi])
  have go : (∃ r, opR P s A.k r ∧ w = wrOf A.d A.k r s) → ∃ r, opR P s' A.k r ∧ w = wrOf A.d A.k r s' := by
    rintro ⟨r, h1, rfl⟩
    obtain ⟨h2, h3⟩ := opR_congr hk hh h1
    exact ⟨r, h2, (h3 A.d).symm⟩
  unfold stepA at *
  split at hs
  · exact go hs
  · rename_i j want hg
    rw [← h j (by simp [AOp.rd, hg])]
    split at hs
    · split at hs
      · rename_i hb; rw [if_pos hb]; exact go hs
      · rename_i hb; rw [if_neg hb]; exact hs
    · exact hs
    · exact hs.elim

theorem foldl_upd_not {l : List (Nat × Option AV)} {f : Nat → Option AV} {j : Nat} (h : ∀ x ∈ l, x.1 ≠ j) : (l.foldl (fun f x => upd f x.1 x.2) f) j = f j := by
  induction l generalizing f with
  | nil => rfl
  | cons x l ih =>
    simp only [List.foldl_cons]
    rw [ih fun y hy => h y (by simp [hy]), upd_ne _ _ (Ne.symm (h x (by simp)))]
theorem foldl_upd_in {l : List (Nat × Option AV)} {f g : Nat → Option AV} {j : Nat} (h : ∃ x ∈ l, x.1 = j) : (l.foldl (fun f x => upd f x.1 x.2) f) j = (l.foldl (fun f x => upd f x.1 x.2) g) j := by
  induction l generalizing f g with
  | nil => obtain ⟨x, hx, _⟩ := h; cases hx
  | cons x l ih =>
    simp only [List.foldl_cons]
    by_cases hl : ∃ y ∈ l, y.1 = j
    · exact ih hl
    · have hl' : ∀ y ∈ l, y.1 ≠ j := fun y hy e => hl ⟨y, hy, e⟩
      rw [foldl_upd_not hl', foldl_upd_not hl']
      obtain ⟨y, hy, hyj⟩ := h
      rcases List.mem_cons.1 hy with rfl | hy
      · rw [hyj, upd_same, upd_same]
      · exact absurd hyj (hl' y hy)
theorem Wr.app_comm {w1 w2 : Wr} (h : ∀ x ∈ w1.t, ∀ y ∈ w2.t, x.1 ≠ y.1) (ho : w1.o = none ∨ w2.o = none) (s : St) : w2.app (w1.app s) = w1.app (w2.app s) := by
  unfold Wr.app
  congr 1
  · funext j
    simp only
    by_cases h1 : ∃ x ∈ w1.t, x.1 = j
    · have h2 : ∀ y ∈ w2.t, y.1 ≠ j := fun y hy e => by
        obtain ⟨x, hx, hxj⟩ := h1
        exact h x hx y hy (hxj.trans e.symm)
      rw [foldl_upd_not h2]
      exact foldl_upd_in h1
    · have h1' : ∀ x ∈ w1.t, x.1 ≠ j := fun x hx e => h1 ⟨x, hx, e⟩
      rw [foldl_upd_not (l := w1.t) h1']
      by_cases h2 : ∃ y ∈ w2.t, y.1 = j
      · exact foldl_upd_in h2
      · have h2' : ∀ y ∈ w2.t, y.1 ≠ j := fun y hy e => h2 ⟨y, hy, e⟩
        rw [foldl_upd_not h2', foldl_upd_not h2', foldl_upd_not h1']
  · rcases ho with ho | ho <;> simp [ho]

theorem putL_mem {d : Option Nat} {r : AV} {x : Nat × Option AV} (h : x ∈ putL d r) : x.1 ∈ d.toList := by
  cases d with
  | none => simp [putL] at h
  | some d => simp [putL] at h; subst h; simp
theorem wrOf_slots {d : Option Nat} {k : AK} {r : AV} : (∀ x ∈ (wrOf d k r s).t, x.1 ∈ k.wt ++ d.toList) ∧ (k.wh = false → (wrOf d k r s).o = none) := by
  have base : ∀ r' : AV, (∀ x ∈ putL d r', x.1 ∈ k.wt ++ d.toList) := fun r' x hx => List.mem_append_right _ (putL_mem hx)
  cases k <;> try exact ⟨base r, fun _ => rfl⟩
  case tk i =>
    simp only [wrOf]
    split
    · refine ⟨fun x hx => ?_, fun _ => rfl⟩
      rcases List.mem_cons.1 hx with rfl | hx
      · simp [AK.wt]
      · exact base _ x hx
    · exact ⟨base _, fun _ => rfl⟩
  case app e size bytes i x =>
    refine ⟨fun x hx => ?_, fun _ => rfl⟩
    simp only [wrOf] at hx
    rcases List.mem_cons.1 hx with rfl | hx
    · simp [AK.wt]
    · exact base _ x hx
  case apps e bytes i x =>
    refine ⟨fun x hx => ?_, fun _ => rfl⟩
    simp only [wrOf] at hx
    rcases List.mem_cons.1 hx with rfl | hx
    · simp [AK.wt]
    · exact base _ x hx
  case sto n x v =>
    simp only [wrOf]
    split
    · exact ⟨fun x hx => by simp at hx, fun h => by simp [AK.wh] at h⟩
    · exact ⟨fun x hx => by simp at hx, fun h => by simp [AK.wh] at h⟩
theorem stepA_slots {A : AOp} {w : Wr} (h : stepA P A s w) : (∀ x ∈ w.t, x.1 ∈ A.wt) ∧ (A.k.wh = false → w.o = none) := by
  have sk : (∀ x ∈ (Wr.mk (putL A.d .undef) none).t, x.1 ∈ A.wt) ∧ (A.k.wh = false → (Wr.mk (putL A.d .undef) none).o = none) := ⟨fun x hx => List.mem_append_right _ (putL_mem hx), fun _ => rfl⟩
  unfold stepA at h
  split at h
  · obtain ⟨r, _, rfl⟩ := h
    exact wrOf_slots
  · split at h
    · split at h
      · obtain ⟨r, _, rfl⟩ := h
        exact wrOf_slots
      · subst h; exact sk
    · subst h; exact sk
    · exact h.elim

/-- Two operations that are apart may change places. -/
theorem diamond {x y : AOp} (hap : apartA x y = true) {w1 w2 : Wr} (h1 : stepA P x s w1) (h2 : stepA P y (w1.app s) w2) : stepA P y s w2 ∧ stepA P x (w2.app s) w1 ∧ w2.app (w1.app s) = w1.app (w2.app s) := by
  simp only [apartA, Bool.and_eq_true, List.all_eq_true, Bool.not_eq_true', List.contains_eq_mem, decide_eq_false_iff_not] at hap
  obtain ⟨⟨⟨a1, a2⟩, a3⟩, a4⟩ := hap
  obtain ⟨s1, o1⟩ := stepA_slots h1
  have hy : stepA P y s w2 := by
    refine stepA_congr (fun i hi => ?_) (fun hr => ?_) h2
    · exact foldl_upd_not fun z hz e => (a1 z.1 (s1 z hz)).1 (e ▸ hi)
    · have : x.k.wh = false := by
        cases hw : x.k.wh with
        | false => rfl
        | true => simp [hw, hr] at a3
      simp [Wr.app, o1 this]
  obtain ⟨s2, o2⟩ := stepA_slots hy
  refine ⟨hy, ?_, ?_⟩
  · refine stepA_congr (fun i hi => ?_) (fun hr => ?_) h1
    · exact (foldl_upd_not fun z hz e => (a2 z.1 (s2 z hz)) (e ▸ hi)).symm
    · have : y.k.wh = false := by
        cases hw : y.k.wh with
        | false => rfl
        | true => simp [hw, hr] at a4
      simp [Wr.app, o2 this]
  · refine Wr.app_comm (fun z hz q hq e => (a1 z.1 (s1 z hz)).2 (e ▸ s2 q hq)) ?_ s
    cases hw : x.k.wh with
    | false => exact .inl (o1 hw)
    | true =>
      refine .inr (o2 ?_)
      cases hw2 : y.k.wh with
      | false => rfl
      | true => simp [hw, hw2] at a3

/-- An operation that makes a new block. -/
def AOp.alc (A : AOp) : Bool := A.g.isNone && (match A.k with | .newv _ => true | _ => false)
theorem alc_spec {A : AOp} (h : A.alc = true) : ∃ d cells, A = ⟨none, d, .newv cells⟩ := by
  obtain ⟨g, d, k⟩ := A
  simp only [AOp.alc, Bool.and_eq_true] at h
  cases g with
  | some _ => simp at h
  | none => cases k <;> first | exact ⟨d, _, rfl⟩ | simp at h
def stepN (P : Program) (A : AOp) (s : St) (K : St → Prop) : Prop := if A.alc = true then opW P A s K else ∃ w, stepA P A s w ∧ K (w.app s)
theorem stepN_mono {A : AOp} {K K' : St → Prop} (h : ∀ s', K s' → K' s') (H : stepN P A s K) : stepN P A s K' := by
  unfold stepN at H ⊢
  split
  · rename_i ha
    rw [if_pos ha] at H
    obtain ⟨d, cells, rfl⟩ := alc_spec ha
    exact fun b hb => h _ (H b hb)
  · rename_i ha
    rw [if_neg ha] at H
    obtain ⟨w, h1, h2⟩ := H
    exact ⟨w, h1, h _ h2⟩
theorem stepN_of_opW {A : AOp} {K : St → Prop} (hd : (A.k.det || A.alc) = true) (h : opW P A s K) : stepN P A s K := by
  unfold stepN
  split
  · exact h
  · rename_i ha
    rw [Bool.or_eq_true] at hd
    exact step_of_opW (hd.resolve_right ha) h
/-- What a new block does to a state. -/
def aw (b : Nat) (d : Option Nat) (cells : List AV) (o : Nat → Option (List AV)) : Wr := ⟨putL d (.ptr b 0), some (upd o b (some cells))⟩
theorem aw_app (b : Nat) (d : Option Nat) (cells : List AV) (s : St) : (aw b d cells s.o).app s = St.put { s with o := upd s.o b (some cells) } d (.ptr b 0) := by
  cases d <;> rfl
theorem opR_more {s s' : St} {k : AK} {r : AV} (hw : k.wh = false) (h : ∀ i ∈ k.rd, s.t i = s'.t i) (ho : ∀ b cs, s.o b = some cs → s'.o b = some cs) (hr : opR P s k r) : opR P s' k r ∧ ∀ d, wrOf d k r s' = wrOf d k r s := by
  have h1 : opR P ⟨s.t, s'.o⟩ k r := opR_le (s := s) (s' := ⟨s.t, s'.o⟩) ⟨fun _ _ e => e, ho⟩ hr
  have h2 := opR_congr (s := ⟨s.t, s'.o⟩) (s' := s') h (fun _ => rfl) h1
  refine ⟨h2.1, fun d => (h2.2 d).trans ?_⟩
  cases k <;> first | rfl | simp [AK.wh] at hw
theorem stepA_more {s s' : St} {A : AOp} {w : Wr} (hw : A.k.wh = false) (h : ∀ i ∈ A.rd, s.t i = s'.t i) (ho : ∀ b cs, s.o b = some cs → s'.o b = some cs) (hs : stepA P A s w) : stepA P A s' w := by
  obtain ⟨g, d, k⟩ := A
  simp only [stepA] at hs ⊢
  have hk : ∀ i ∈ k.rd, s.t i = s'.t i := fun i hi => h i (by simp [AOp.rd, hi])
  cases g with
  | none =>
    obtain ⟨r, h1, rfl⟩ := hs
    obtain ⟨q1, q2⟩ := opR_more hw hk ho h1
    exact ⟨r, q1, (q2 d).symm⟩
  | some jw =>
    obtain ⟨j, want⟩ := jw
    have hj : s.t j = s'.t j := h j (by simp [AOp.rd])
    simp only [← hj]
    simp only at hs
    split at hs
    · rename_i b hb
      split at hs
      · rename_i hb'
        rw [if_pos hb']
        obtain ⟨r, h1, rfl⟩ := hs
        obtain ⟨q1, q2⟩ := opR_more hw hk ho h1
        exact ⟨r, q1, (q2 d).symm⟩
      · rename_i hb'
        rw [if_neg hb']
        exact hs
    · exact hs
    · exact hs.elim
def apartN (x y : AOp) : Bool := apartA x y && (!x.alc || y.alc) && (!y.alc || !x.k.wh)
theorem swapN {x y : AOp} (hap : apartN x y = true) {K : St → Prop} (h : stepN P x s fun s1 => stepN P y s1 K) : stepN P y s fun s2 => stepN P x s2 K := by
  simp only [apartN, Bool.and_eq_true, Bool.or_eq_true, Bool.not_eq_true'] at hap
  obtain ⟨⟨hap, hxy⟩, hyx⟩ := hap
  have hap' := hap
  simp only [apartA, Bool.and_eq_true, List.all_eq_true, Bool.not_eq_true', List.contains_eq_mem, decide_eq_false_iff_not] at hap'
  obtain ⟨⟨⟨a1, a2⟩, _⟩, _⟩ := hap'
  unfold stepN at h ⊢
  by_cases hx : x.alc = true
  · have hy : y.alc = true := hxy.resolve_left (by simp [hx])
    rw [if_pos hx] at h
    rw [if_pos hy]
    obtain ⟨d1, c1, rfl⟩ := alc_spec hx
    obtain ⟨d2, c2, rfl⟩ := alc_spec hy
    simp only [if_true, hx, hy] at h ⊢
    intro b2 hb2 b1 hb1
    have hne : b1 ≠ b2 := by
      rintro rfl
      cases d2 <;> simp [St.put, upd] at hb1
    have hb1' : s.o b1 = none := by
      cases d2 <;> simpa [St.put, upd, hne] using hb1
    have h3 := h b1 hb1' b2 (by cases d1 <;> simpa [St.put, upd, Ne.symm hne] using hb2)
    have e : St.put { St.put { s with o := upd s.o b1 (some c1) } d1 (.ptr b1 0) with o := upd (St.put { s with o := upd s.o b1 (some c1) } d1 (.ptr b1 0)).o b2 (some c2) } d2 (.ptr b2 0) =
        St.put { St.put { s with o := upd s.o b2 (some c2) } d2 (.ptr b2 0) with o := upd (St.put { s with o := upd s.o b2 (some c2) } d2 (.ptr b2 0)).o b1 (some c1) } d1 (.ptr b1 0) := by
      cases d1 with
      | none => cases d2 <;> simp only [St.put, upd_comm s.o (some c1) (some c2) hne]
      | some i1 => cases d2 with
        | none => simp only [St.put, upd_comm s.o (some c1) (some c2) hne]
        | some i2 =>
          have hi : i1 ≠ i2 := fun e => by
            have := (a1 i1 (by simp [AOp.wt, AK.wt])).2
            apply this; simp [AOp.wt, AK.wt, e]
          simp only [St.put, upd_comm s.o (some c1) (some c2) hne, upd_comm s.t (some (AV.ptr b1 0)) (some (AV.ptr b2 0)) hi]
    rw [← e]; exact h3
  · rw [if_neg hx] at h
    obtain ⟨w, hst, h⟩ := h
    by_cases hy : y.alc = true
    · rw [if_pos hy] at h ⊢
      have hwh : x.k.wh = false := hyx.resolve_left (by simp [hy])
      obtain ⟨d2, c2, rfl⟩ := alc_spec hy
      obtain ⟨sl, so⟩ := stepA_slots hst
      have hwo := so hwh
      have happ : (w.app s).o = s.o := by simp [Wr.app, hwo]
      intro b hb
      have h3 := h b (by rw [happ]; exact hb)
      rw [if_neg hx]
      refine ⟨w, stepA_more (s := s) hwh (fun i hi => ?_) (fun b' cs e => ?_) hst, ?_⟩
      · cases d2 with
        | none => rfl
        | some i2 =>
          have : i ≠ i2 := fun e => a2 i2 (by simp [AOp.wt, AK.wt]) (e ▸ hi)
          simp [St.put, upd, this]
      · have : b' ≠ b := by rintro rfl; rw [hb] at e; cases e
        cases d2 <;> simpa [St.put, upd, this] using e
      · rw [← aw_app b d2 c2 s, Wr.app_comm (w1 := aw b d2 c2 s.o) (w2 := w) (fun z hz q hq e => ?_) (.inr hwo) s]
        · have := aw_app b d2 c2 (w.app s)
          rw [happ] at this
          rw [this]
          rw [happ] at h3
          exact h3
        · have h4 := putL_mem (show z ∈ putL d2 (.ptr b 0) from hz)
          exact (a1 q.1 (sl q hq)).2 (e ▸ (by simpa [AOp.wt, AK.wt] using h4))
    · rw [if_neg hy] at h ⊢
      obtain ⟨w2, h2, hK⟩ := h
      obtain ⟨q1, q2, q3⟩ := diamond hap hst h2
      exact ⟨w2, q1, (if_neg hx).mpr ⟨w, q2, by rw [← q3]; exact hK⟩⟩

/-! orders -/
def depT (ops : Array Oper) : Nat → Nat → Nat → Bool
  | 0, _, _ => false
  | f + 1, j, i => match ops[j]? with
    | some o => o.after.any fun e => Region.binds .any e && (e.on == i || depT ops f e.on i)
    | none => false
def ClosedL (ops : Array Oper) (listed : Array Bool) : Prop := ∀ (m : Nat) (om : Oper), ops[m]? = some om → listed.getD m false = true → ∀ e ∈ om.after, Region.binds .any e = true → listed.getD e.on false = true
theorem dep_listed {ops : Array Oper} {listed : Array Bool} (hc : ClosedL ops listed) {i : Nat} : ∀ (f m : Nat), listed.getD m false = true → depT ops f m i = true → listed.getD i false = true
  | 0, _, _, h => by simp [depT] at h
  | f + 1, m, hm, h => by
    rw [depT] at h
    split at h
    · rename_i o ho
      rw [Array.any_eq_true] at h
      obtain ⟨k, hk, h⟩ := h
      simp only [Bool.and_eq_true, Bool.or_eq_true, beq_iff_eq] at h
      have hl := hc m o ho hm _ (Array.getElem_mem hk) h.1
      rcases h.2 with e | e
      · rw [← e]; exact hl
      · exact dep_listed hc f _ hl e
    · cases h
theorem dep_ready {ops : Array Oper} {listed : Array Bool} (hc : ClosedL ops listed) {i j : Nat} (hi : listed.getD i false = false) (hj : j ∈ Region.ready .any ops listed) (f : Nat) : depT ops f j i = false := by
  obtain ⟨_, o, ho, hall⟩ := mem_ready.1 hj
  cases f with
  | zero => rfl
  | succ f =>
    rw [depT, ho]
    apply Bool.eq_false_iff.2
    intro h
    simp only [Array.any_eq_true, Bool.and_eq_true, Bool.or_eq_true, beq_iff_eq] at h
    obtain ⟨k, hk, h1, h2⟩ := h
    have hl := hall _ (Array.getElem_mem hk) h1
    rcases h2 with e | e
    · rw [e, hi] at hl; cases hl
    · have := dep_listed hc f _ hl e
      rw [hi] at this; cases this
theorem closed_set {ops : Array Oper} {listed : Array Bool} (hc : ClosedL ops listed) {j : Nat} (hj : j ∈ Region.ready .any ops listed) : ClosedL ops (listed.setIfInBounds j true) := by
  intro m om hm hl e he hb
  by_cases hmj : j = m
  · subst hmj
    obtain ⟨_, o, ho, hall⟩ := mem_ready.1 hj
    rw [hm] at ho; cases ho
    exact getD_set_true (hall e he hb)
  · rw [getD_set_ne false hmj] at hl
    exact getD_set_true (hc m om hm hl e he hb)
/-- How many are still to come. -/
def cntL (ops : Array Oper) (listed : Array Bool) : Nat := (List.range ops.size).countP fun j => !listed.getD j true
theorem countP_less {p q : Nat → Bool} : ∀ {l : List Nat} {i : Nat}, i ∈ l → (∀ j, q j = true → p j = true) → p i = true → q i = false → l.countP q + 1 ≤ l.countP p
  | x :: l, i, hi, h, h1, h2 => by
    have hle : ∀ l : List Nat, l.countP q ≤ l.countP p := fun l => List.countP_mono_left fun x _ => h x
    by_cases e : x = i
    · subst e
      rw [List.countP_cons, List.countP_cons, if_pos h1, if_neg (by simp [h2])]
      have := hle l
      omega
    · have := countP_less (l := l) (i := i) (by simpa [Ne.symm e] using hi) h h1 h2
      rw [List.countP_cons, List.countP_cons]
      by_cases hq : q x = true
      · rw [if_pos hq, if_pos (h x hq)]; omega
      · rw [if_neg hq]; split <;> omega
theorem cnt_set {ops : Array Oper} {listed : Array Bool} {i : Nat} (hi : i < ops.size) (hu : listed.getD i true = false) : cntL ops (listed.setIfInBounds i true) + 1 ≤ cntL ops listed := by
  refine countP_less (i := i) (List.mem_range.2 hi) (fun j hj => ?_) (by simp only [hu, Bool.not_false]) ?_
  · by_cases hij : i = j
    · subst hij; simp only [hu, Bool.not_false]
    · rw [getD_set_ne true hij] at hj; exact hj
  · have hlt : i < listed.size := by
      rcases Nat.lt_or_ge i listed.size with h' | h'
      · exact h'
      · simp [Array.getElem?_eq_none h'] at hu
    simp [hlt]
theorem ready_lt {ops : Array Oper} {listed : Array Bool} {i : Nat} (h : i ∈ Region.ready .any ops listed) : i < ops.size ∧ listed.getD i true = false ∧ listed.getD i false = false := by
  obtain ⟨h0, o, ho, _⟩ := mem_ready.1 h
  refine ⟨(Array.getElem?_eq_some_iff.1 ho).1, h0, ?_⟩
  rcases Nat.lt_or_ge i listed.size with h' | h'
  · simpa [h'] using h0
  · simp [Array.getElem?_eq_none h']
theorem closed0 (ops : Array Oper) (n : Nat) : ClosedL ops (Array.replicate n false) := fun m om _ h => by
  exfalso
  rcases Nat.lt_or_ge m n with h' | h'
  · simp [h'] at h
  · simp [h'] at h
theorem cnt0 (ops : Array Oper) (listed : Array Bool) : cntL ops listed ≤ ops.size := by
  have := List.countP_le_length (p := fun j => !listed.getD j true) (l := List.range ops.size)
  simpa [cntL] using this
def anyA (P : Program) (ops : Array Oper) (As : List AOp) (K : St → Prop) : Nat → Array Bool → St → Prop
  | 0, _, s => K s
  | fuel + 1, listed, s => (Region.ready .any ops listed = [] → K s) ∧
    ∀ i ∈ Region.ready .any ops listed, ∃ A, As[i]? = some A ∧ stepN P A s (anyA P ops As K fuel (listed.setIfInBounds i true))

theorem anyA_first {ops : Array Oper} {As : List AOp} {K : St → Prop} {i : Nat} {Ai : AOp} (hi : As[i]? = some Ai) (hlen : As.length = ops.size) :
    ∀ (fuel : Nat) (listed : Array Bool) (s : St), ClosedL ops listed → cntL ops listed ≤ fuel + 1 →
      (∀ j Aj, As[j]? = some Aj → j ≠ i → listed.getD j true = false → depT ops 4 j i = false → apartN Ai Aj = true) →
      i ∈ Region.ready .any ops listed → stepN P Ai s (anyA P ops As K fuel (listed.setIfInBounds i true)) → anyA P ops As K (fuel + 1) listed s := by
  intro fuel
  induction fuel with
  | zero =>
    intro listed s hcl hcn _ hr H
    refine ⟨fun h => (by rw [h] at hr; cases hr), fun j hj => ?_⟩
    by_cases hji : j = i
    · subst hji; exact ⟨Ai, hi, H⟩
    · have h1 := cnt_set (ready_lt hr).1 (ready_lt hr).2.1
      have hj' := ready_lt (ready_mono hj hji)
      have h2 := cnt_set hj'.1 hj'.2.1
      omega
  | succ fuel ih =>
    intro listed s hcl hcn hfree hr H
    refine ⟨fun h => (by rw [h] at hr; cases hr), fun j hj => ?_⟩
    by_cases hji : j = i
    · subst hji; exact ⟨Ai, hi, H⟩
    · have hjl := ready_lt hj
      have hAj : ∃ Aj, As[j]? = some Aj := ⟨As[j]'(by omega), List.getElem?_eq_getElem (by omega)⟩
      obtain ⟨Aj, hAj⟩ := hAj
      have hap := hfree j Aj hAj hji hjl.2.1 (dep_ready hcl (ready_lt hr).2.2 hj 4)
      have H2 : stepN P Ai s fun s1 => stepN P Aj s1 (anyA P ops As K fuel ((listed.setIfInBounds i true).setIfInBounds j true)) :=
        stepN_mono (fun s1 h1 => by
          obtain ⟨A, hA, hs⟩ := h1.2 j (ready_mono hj hji)
          rw [hAj] at hA
          cases hA
          exact hs) H
      refine ⟨Aj, hAj, stepN_mono (fun s2 h2 => ?_) (swapN hap H2)⟩
      have hcn' := cnt_set hjl.1 hjl.2.1
      refine ih (listed.setIfInBounds j true) s2 (closed_set hcl hj) (by omega) (fun k Ak hAk hki hun hno => ?_) (ready_mono hr (Ne.symm hji)) ?_
      · by_cases hjk : j = k
        · subst hjk
          have hlt : j < listed.size := by
            rcases Nat.lt_or_ge j listed.size with h' | h'
            · exact h'
            · have := hjl.2.1; simp [Array.getElem?_eq_none h'] at this
          simp [hlt] at hun
        · rw [getD_set_ne true hjk] at hun
          exact hfree k Ak hAk hki hun hno
      · rw [Array.setIfInBounds_comm _ _ hji]
        exact h2

/-- No operation that is still to come and does not wait for this one meets it. -/
def freeA (ops : Array Oper) (As : List AOp) (listed : Array Bool) (i : Nat) : Bool :=
  match As[i]? with
  | some Ai => (List.range As.length).all fun j => j == i || listed.getD j true ||
      (match As[j]? with
       | some Aj => apartN Ai Aj || depT ops 4 j i
       | none => true)
  | none => false
def lexA (ops : Array Oper) (As : List AOp) : Nat → Nat → Array Bool → Bool
  | 0, _, _ => true
  | fuel + 1, k, listed => (Region.ready .any ops listed).contains k && freeA ops As listed k && lexA ops As fuel (k + 1) (listed.setIfInBounds k true)

theorem freeA_spec {ops : Array Oper} {As : List AOp} {listed : Array Bool} {i : Nat} {Ai : AOp} (hi : As[i]? = some Ai) (h : freeA ops As listed i = true) :
    ∀ j Aj, As[j]? = some Aj → j ≠ i → listed.getD j true = false → depT ops 4 j i = false → apartN Ai Aj = true := by
  intro j Aj hAj hji hun hno
  simp only [freeA, hi, List.all_eq_true, List.mem_range] at h
  have hj : j < As.length := (List.getElem?_eq_some_iff.1 hAj).1
  have := h j hj
  rw [hAj, hun] at this
  simpa [beq_eq_false_iff_ne.2 hji, hno] using this

theorem lexA_sound {ops : List Oper} {As : List AOp} {K : St → Prop} (hlen : As.length = ops.length) (hdet : ∀ A ∈ As, (A.k.det || A.alc) = true) : ∀ (l : List Oper) (Al : List AOp) (k : Nat) (listed : Array Bool) (s : St), l.length = Al.length → (∀ j, Al[j]? = As[k + j]?) →
    ClosedL ops.toArray listed → cntL ops.toArray listed ≤ l.length →
    lexA ops.toArray As l.length k listed = true → opsW P Al s K → anyA P ops.toArray As K l.length listed s
  | [], [], _, _, _, _, _, _, _, _, h => h
  | [], _ :: _, _, _, _, hl, _, _, _, _, _ => by simp at hl
  | _ :: _, [], _, _, _, hl, _, _, _, _, _ => by simp at hl
  | o :: l, A :: Al, k, listed, s, hl, h2, hcl, hcn, hB, h => by
    have hA : As[k]? = some A := by simpa using (h2 0).symm
    simp only [List.length_cons, lexA, Bool.and_eq_true] at hB
    obtain ⟨⟨hr, hf⟩, hB'⟩ := hB
    have hr' : k ∈ Region.ready .any ops.toArray listed := by simpa using hr
    have hc1 := cnt_set (ready_lt hr').1 (ready_lt hr').2.1
    refine anyA_first hA (by simpa using hlen) l.length listed s hcl hcn (freeA_spec hA hf) hr' ?_
    refine stepN_mono (fun s' h' => ?_) (stepN_of_opW (hdet A (List.mem_of_getElem? hA)) h)
    exact lexA_sound hlen hdet l Al (k + 1) _ _ (by simpa using hl) (fun j => by have := h2 (j + 1); simpa [Nat.add_assoc, Nat.add_comm 1 j] using this) (closed_set hcl hr') (by simp only [List.length_cons] at hcn; omega) hB' h'

/-- The orders told apart: one branch where an operation meets nothing that is still to come, else all that are ready. -/
def treeT (ops : Array Oper) (As : List AOp) : Nat → Array Bool → OT
  | 0, _ => .nil
  | fuel + 1, listed =>
    match Region.ready .any ops listed with
    | [] => .nil
    | r :: rs => match (r :: rs).find? fun i => freeA ops As listed i with
      | some i => .op (As[i]?.getD default) (treeT ops As fuel (listed.setIfInBounds i true))
      | none => rs.foldl (fun t i => .two t (.op (As[i]?.getD default) (treeT ops As fuel (listed.setIfInBounds i true)))) (.op (As[r]?.getD default) (treeT ops As fuel (listed.setIfInBounds r true)))
theorem otW_foldl {s : St} {K : St → Prop} (f : Nat → OT) : ∀ (rs : List Nat) (t : OT), otW P (rs.foldl (fun t i => .two t (f i)) t) s K → otW P t s K ∧ ∀ i ∈ rs, otW P (f i) s K
  | [], t, h => ⟨h, fun i hi => by cases hi⟩
  | r :: rs, t, h => by
    obtain ⟨h1, h2⟩ := otW_foldl f rs (.two t (f r)) h
    refine ⟨h1.1, fun i hi => ?_⟩
    rcases List.mem_cons.1 hi with rfl | hi
    · exact h1.2
    · exact h2 i hi
theorem treeT_sound {ops : Array Oper} {As : List AOp} {K : St → Prop} (hlen : As.length = ops.size) (hdet : ∀ A ∈ As, (A.k.det || A.alc) = true) : ∀ (fuel : Nat) (listed : Array Bool) (s : St), ClosedL ops listed → cntL ops listed ≤ fuel →
    otW P (treeT ops As fuel listed) s K → anyA P ops As K fuel listed s
  | 0, _, _, _, _, h => h
  | fuel + 1, listed, s, hcl, hcn, h => by
    have step : ∀ i, i ∈ Region.ready .any ops listed → otW P (.op (As[i]?.getD default) (treeT ops As fuel (listed.setIfInBounds i true))) s K →
        ∃ A, As[i]? = some A ∧ stepN P A s (anyA P ops As K fuel (listed.setIfInBounds i true)) := by
      intro i hi hw
      have hil := ready_lt hi
      have hA : As[i]? = some (As[i]'(by omega)) := List.getElem?_eq_getElem (by omega)
      rw [hA] at hw
      refine ⟨_, hA, stepN_mono (fun s' h' => ?_) (stepN_of_opW (hdet _ (List.getElem_mem _)) hw)⟩
      have hc1 := cnt_set hil.1 hil.2.1
      exact treeT_sound hlen hdet fuel _ s' (closed_set hcl hi) (by omega) h'
    rw [treeT] at h
    split at h
    · rename_i h0
      exact ⟨fun _ => h, fun i hi => by rw [h0] at hi; cases hi⟩
    · rename_i r rs h0
      split at h
      · rename_i i hf
        have hi : i ∈ Region.ready .any ops listed := by rw [h0]; exact List.mem_of_find?_eq_some hf
        have hfr : freeA ops As listed i = true := List.find?_some (p := fun i => freeA ops As listed i) hf
        obtain ⟨A, hA, hst⟩ := step i hi h
        exact anyA_first hA hlen fuel listed s hcl hcn (freeA_spec hA hfr) hi hst
      · obtain ⟨h1, h2⟩ := otW_foldl (P := P) (s := s) (K := K) (fun i => .op (As[i]?.getD default) (treeT ops As fuel (listed.setIfInBounds i true))) rs _ h
        refine ⟨fun e => (by rw [h0] at e; cases e), fun i hi => ?_⟩
        rw [h0] at hi
        rcases List.mem_cons.1 hi with rfl | hi'
        · exact step i (by rw [h0]; simp) h1
        · exact step i (by rw [h0]; exact hi) (h2 i hi')

theorem any_sound {all : List Oper} {As : List AOp} (hc : cOpsL P R all all = some As) (hdet : ∀ A ∈ As, (A.k.det || A.alc) = true) (hd : ∀ o ∈ all, dstOk N o = true) {K : St → Prop} {Q : Exit → Act → World → Prop} (hn : ∀ a' W' U' s', Inv N W0 U0 M a' W' U' s' → K s' → Q .normal a' W') :
    ∀ (fuel : Nat) (listed : Array Bool) (a : Act) (W : World) (U : Nat → Nat → Prop) (s : St), Inv N W0 U0 M a W U s → cntL all.toArray listed ≤ fuel → anyA P all.toArray As K fuel listed s → wpAny P .any all.toArray Q fuel listed a W
  | 0, listed, _, _, _, _, hi, hcn, h => ⟨by
      apply List.eq_nil_iff_forall_not_mem.2
      intro j hj
      have := cnt_set (ready_lt hj).1 (ready_lt hj).2.1
      omega, hn _ _ _ _ hi h⟩
  | fuel + 1, listed, a, W, U, s, hi, hcn, h => by
    refine ⟨fun h0 => hn _ _ _ _ hi (h.1 h0), fun i hr => ?_⟩
    obtain ⟨A, hA, hst⟩ := h.2 i hr
    obtain ⟨_, oi, hoi, _⟩ := mem_ready.1 hr
    have hoi' : all[i]? = some oi := by simpa using hoi
    obtain ⟨_, hg⟩ := cOpsL_get hc
    obtain ⟨A', hA', hcA⟩ := hg i oi hoi'
    rw [hA] at hA'
    cases hA'
    have hc1 := cnt_set (ready_lt hr).1 (ready_lt hr).2.1
    unfold wpOp
    rw [hoi]
    unfold stepN at hst
    split at hst
    · exact op_sound hi hcA (dstOk_spec (hd oi (List.mem_of_getElem? hoi'))) hst fun a' W' U' s' hi' hs' => any_sound hc hdet hd hn fuel _ _ _ _ _ hi' (by omega) hs'
    · rename_i hna
      obtain ⟨w, hst, hrest⟩ := hst
      have hdA : A.k.det = true := by
        have := hdet A (List.mem_of_getElem? hA)
        rw [Bool.or_eq_true] at this
        exact this.resolve_right hna
      refine op_sound hi hcA (dstOk_spec (hd oi (List.mem_of_getElem? hoi'))) (opW_of_step hdA hst) fun a' W' U' s' hi' hs' => ?_
      subst hs'
      exact any_sound hc hdet hd hn fuel _ _ _ _ _ hi' (by omega) hrest
end
end Go.Proofs.YtfkkjhnbbimcaaaDoor
