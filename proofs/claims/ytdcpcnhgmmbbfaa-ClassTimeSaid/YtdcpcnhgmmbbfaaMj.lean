/- The abstract machine, part 10: one operation, whatever it is; its guard. -/
import Derived.Test.YtdcpcnhgmmbbfaaMi
namespace Go.Proofs.Ytdcpcnhgmmbbfaa
set_option linter.all false
open Go.RowKit

section
variable {P : Program} {N : Nat} {W0 : World} {U0 : Nat → Nat → Prop} {M : Nat → Prop} {a : Act} {W : World} {U : Nat → Nat → Prop} {s : St} {o : Oper} {r : AV}

theorem wp_of_VOK (h : Inv N W0 U0 M a W U s) (hV : VOK P a o W U r) {d : Option Nat} (hod : o.dst = d) (hd : ∀ j, d = some j → j < N) {next : Act → World → Prop} {Q : Exit → Act → World → Prop}
    (hn : ∀ a' W' U', Inv N W0 U0 M a' W' U' (s.put d r) → next a' W') : o.wp P a W next Q := by
  obtain ⟨v, W', U', hrun, hE, hv, ho⟩ := hV
  unfold Oper.wp
  rw [hrun, Oper.upon_value, hod]
  exact hn _ _ _ ((h.ext hE).putO hd hv fun j _ => Sole.fresh h hE ho)

theorem cMove_sound (h : Inv N W0 U0 M a W U s) {ops : List Oper} {take : Bool} {x : Operand} {k : AK} (ho : o.op = .move x ∨ o.op = .assign x) (hk : cMove P ops o take x = some k) (hd : ∀ j, o.dst = some j → j < N) {K : St → Prop} (hK : kW P o.dst k s K)
    {next : Act → World → Prop} {Q : Exit → Act → World → Prop} (hn : ∀ a' W' U' s', Inv N W0 U0 M a' W' U' s' → K s' → next a' W') : o.wp P a W next Q := by
  unfold cMove at hk
  split at hk
  · cases hk
    obtain ⟨r, hr, hK⟩ := hK
    exact wp_of_VOK h (s_nil ho rfl hr) rfl hd fun a' W' U' hi => hn _ _ _ _ hi hK
  · split at hk
    · split at hk
      · cases hk
      · rename_i hne
        cases hk
        obtain ⟨r, hr, hK⟩ := hK
        exact s_tk h ho rfl hd hne hr fun a' W' U' hi => hn _ _ _ _ hi hK
    · cases hk
      obtain ⟨r, hr, hK⟩ := hK
      exact wp_of_VOK h (s_mv h ho (x := .tmp _) rfl hr) rfl hd fun a' W' U' hi => hn _ _ _ _ hi hK
  · obtain ⟨X, hx, rfl⟩ := Option.map_eq_some_iff.1 hk
    obtain ⟨r, hr, hK⟩ := hK
    exact wp_of_VOK h (s_mv h ho hx hr) rfl hd fun a' W' U' hi => hn _ _ _ _ hi hK

theorem kind_sound (h : Inv N W0 U0 M a W U s) {ops : List Oper} {k : AK} (hk : cKind P ops o = some k) (hd : ∀ j, o.dst = some j → j < N) {K : St → Prop} (hK : kW P o.dst k s K)
    {next : Act → World → Prop} {Q : Exit → Act → World → Prop} (hn : ∀ a' W' U' s', Inv N W0 U0 M a' W' U' s' → K s' → next a' W') : o.wp P a W next Q := by
  have val : ∀ {r : AV}, VOK P a o W U r → K (s.put o.dst r) → o.wp P a W next Q := fun hV hK => wp_of_VOK h hV rfl hd fun a' W' U' hi => hn _ _ _ _ hi hK
  unfold cKind at hk
  split at hk
  case h_1 x ho => exact cMove_sound h (.inl ho) hk hd hK hn
  case h_2 x ho => exact cMove_sound h (.inr ho) hk hd hK hn
  case h_3 t ho =>
    cases hz : zeroOf P t with
    | none => simp [hz] at hk
    | some z =>
      simp only [hz, Option.map_some, Option.some.injEq] at hk
      subst hk
      exact s_newv h ho hd rfl hz hK hn
  case h_4 t x ho =>
    cases hx : cOpd x with
    | none => simp [hx] at hk
    | some X =>
      simp only [hx, Option.map_some, Option.some.injEq] at hk
      subst hk
      exact s_box h ho hd rfl hx hK hn
  case h_5 t x ho =>
    split at hk
    · rename_i n X h1 h2
      cases hk
      obtain ⟨r, hr, hK⟩ := hK
      exact val (s_ld h ho h1 h2 hr) hK
    · cases hk
  case h_6 t x v ho =>
    split at hk
    · rename_i n X V h1 h2 h3 h4
      split at hk
      · rename_i hc
        cases hk
        obtain ⟨r, hr, hK⟩ := hK
        rw [h4] at hK
        exact s_sto h ho h4 hc.1 rfl hc.2 h2 h3 hr fun a' W' U' hi => hn _ _ _ _ hi hK
      · cases hk
    · cases hk
  case h_7 t x f ho =>
    split at hk
    · rename_i fs X h1 h2
      split at hk
      · rename_i fd hf
        split at hk
        · rename_i n hz
          cases hk
          obtain ⟨r, hr, hK⟩ := hK
          exact val (s_fld h ho h1 hf hz h2 hr) hK
        · cases hk
      · cases hk
    · cases hk
  case h_8 t x f ho =>
    split at hk
    · rename_i fs X h1 h2
      split at hk
      · rename_i fd hf
        cases hn' : aggN P fd.type with
        | none => simp [hn'] at hk
        | some n =>
          simp only [hn', Option.map_some, Option.some.injEq] at hk
          subst hk
          obtain ⟨r, hr, hK⟩ := hK
          exact val (s_fldv h ho h1 hf hn' h2 hr) hK
      · cases hk
    · cases hk
  case h_9 t x i ho =>
    split at hk
    · rename_i e sz X I h1 h2 h3
      cases hk
      obtain ⟨r, hr, hK⟩ := hK
      exact val (s_idx h ho h1 h2 h3 hr) hK
    · cases hk
  case h_10 t x i ho =>
    split at hk
    · rename_i X I h1 h2 h3
      cases hk
      obtain ⟨r, hr, hK⟩ := hK
      exact val (s_sidx h ho h1 h2 h3 hr) hK
    · cases hk
  case h_11 op t x y ty ho =>
    split at hk
    · split at hk
      · rename_i X Y h1 h2
        cases hk
        obtain ⟨r, hr, hK⟩ := hK
        exact val (s_bin h ho h1 h2 hr) hK
      · cases hk
    · rename_i hpl
      split at hk
      · rename_i X Y h1 h2 h3
        cases hk
        obtain ⟨r, hr, hK⟩ := hK
        refine val (s_beq h ho ?_ h1 h2 h3 hr) hK
        cases op <;> simp [plainBin] at hpl <;> simp
      · cases hk
  case h_12 op t x ho =>
    cases hx : cOpd x with
    | none => simp [hx] at hk
    | some X =>
      simp only [hx, Option.map_some, Option.some.injEq] at hk
      subst hk
      obtain ⟨r, hr, hK⟩ := hK
      exact val (s_un h ho hx hr) hK
  case h_13 src dst x ho =>
    split at hk
    · rename_i k1 k2 X h1 h2 h3
      cases hk
      obtain ⟨r, hr, hK⟩ := hK
      exact val (s_conv h ho h1 h2 h3 hr) hK
    · rename_i e X h1 h2 h3
      split at hk
      · rename_i h4
        cases hk
        obtain ⟨r, hr, hK⟩ := hK
        exact val (s_b2s h ho h1 h2 h4 h3 hr) hK
      · cases hk
    · rename_i X h1 h2 h3
      cases hk
      obtain ⟨r, hr, hK⟩ := hK
      exact val (s_s2s h ho h1 h2 h3 hr) hK
    · cases hk
  case h_14 t x lo hi ho =>
    split at hk
    · rename_i X LO HI h1 h2 h3 h4
      cases hk
      obtain ⟨r, hr, hK⟩ := hK
      exact val (s_slc h ho h1 h2 h3 h4 hr) hK
    · rename_i e X LO HI h1 h2 h3 h4
      cases hi' : P.info? e with
      | none => simp [hi'] at hk
      | some i =>
        simp only [hi', Option.map_some, Option.some.injEq] at hk
        subst hk
        obtain ⟨r, hr, hK⟩ := hK
        exact val (s_slcs h ho h1 hi' h2 h3 h4 hr) hK
    · cases hk
  case h_15 x j ho =>
    cases hx : cOpd x with
    | none => simp [hx] at hk
    | some X =>
      simp only [hx, Option.map_some, Option.some.injEq] at hk
      subst hk
      obtain ⟨r, hr, hK⟩ := hK
      exact val (s_ext h ho hx hr) hK
  case h_16 x ho =>
    cases hx : cOpd x with
    | none => simp [hx] at hk
    | some X =>
      simp only [hx, Option.map_some, Option.some.injEq] at hk
      subst hk
      obtain ⟨r, hr, hK⟩ := hK
      exact val (s_nilc h ho hx hr) hK
  case h_17 c x y ho =>
    split at hk
    · rename_i C X Y h1 h2 h3
      cases hk
      obtain ⟨r, hr, hK⟩ := hK
      exact val (s_pick h ho h1 h2 h3 hr) hK
    · cases hk
  case h_18 t parts ho =>
    split at hk
    · rename_i fs z h1 h2
      split at hk
      · rename_i h3
        cases hp : cFields P fs parts.toList with
        | none => simp [hp] at hk
        | some ps =>
          simp only [hp, Option.map_some, Option.some.injEq] at hk
          subst hk
          obtain ⟨r, hr, hK⟩ := hK
          exact val (s_bld h ho h1 h2 h3 hp hr) hK
      · cases hk
    · cases hk
  case h_19 t n parts ho =>
    split at hk
    · rename_i e sz ps h1 h2
      split at hk
      · rename_i h3
        cases hk
        obtain ⟨r, hr, hK⟩ := hK
        exact val (s_bs h ho h1 h2 h3.1 h3.2.1 h3.2.2.1 h3.2.2.2 hr) hK
      · cases hk
    · cases hk
  case h_20 f args argTypes ho =>
    split at hk
    · rename_i hf
      cases hfn : P.funcs[f]? with
      | none => simp [hfn] at hf
      | some fn =>
        simp only [hfn, Option.map_some, Option.getD_some, Bool.and_eq_true, Bool.not_eq_true'] at hf
        cases hp : cArgs P argTypes.toList args.toList with
        | none => simp [hp] at hk
        | some ps =>
          simp only [hp, Option.map_some, Option.some.injEq] at hk
          subst hk
          obtain ⟨r, hr, hK⟩ := hK
          exact s_call h ho rfl hd hfn hf.1 hf.2 hp hr fun a' W' U' hi => hn _ _ _ _ hi hK
    · cases hk
  case h_21 x t ho =>
    split at hk
    · rename_i X h1 h2
      cases hk
      obtain ⟨r, hr, hK⟩ := hK
      exact val (s_lens h ho h1 h2 hr) hK
    · rename_i e X h1 h2
      cases hk
      obtain ⟨r, hr, hK⟩ := hK
      exact val (s_lenl h ho h1 h2 hr) hK
    · cases hk
  case h_22 i x t t' ho =>
    split at hk
    · rename_i e sz X h1 h2
      split at hk
      · rename_i h3
        obtain ⟨rfl, h4, h5⟩ := h3
        obtain ⟨inf, g1, g2, g3⟩ := isSlice_cases h1
        simp only [g2, Option.map_some, Option.some.injEq] at hk
        subst hk
        obtain ⟨r, hr, hK⟩ := hK
        exact s_app h ho rfl hd g1 g2 g3 h4 h5 h2 hr fun a' W' U' hi => hn _ _ _ _ hi hK
      · cases hk
    · cases hk
  case h_23 => cases hk

def cOp (P : Program) (ops : List Oper) (o : Oper) : Option AOp :=
  match o.guard with
  | none => (cKind P ops o).map fun k => ⟨none, o.dst, k⟩
  | some (j, want) => match (ops[j]?).bind (·.dst), cKind P ops o with
    | some t, some k => some ⟨some (t, want), o.dst, k⟩
    | _, _ => none

/-- An operation of a region, its guard looked at. -/
theorem op_sound (h : Inv N W0 U0 M a W U s) {ops : List Oper} {A : AOp} (hc : cOp P ops o = some A) (hd : ∀ j, o.dst = some j → j < N) {K : St → Prop} (hK : opW P A s K)
    {next : Act → World → Prop} {Q : Exit → Act → World → Prop} (hn : ∀ a' W' U' s', Inv N W0 U0 M a' W' U' s' → K s' → next a' W') :
    if Region.wanted o (yielded ops.toArray a.tmps) then o.wp P a W next Q ∨ (o.asks P a W ∧ LetsOut Q) else next (a.put o.dst Go.undef) W := by
  unfold cOp at hc
  split at hc
  · rename_i hg
    cases hk : cKind P ops o with
    | none => simp [hk] at hc
    | some k =>
      simp only [hk, Option.map_some, Option.some.injEq] at hc
      subst hc
      rw [if_pos (by simp [Region.wanted, hg])]
      exact .inl (kind_sound h hk hd hK hn)
  · rename_i j want hg
    split at hc
    · rename_i t k h1 h2
      simp only [Option.some.injEq] at hc
      subst hc
      have hskip : K (s.put o.dst .undef) → next (a.put o.dst Go.undef) W := fun hK => hn _ _ U _ (h.putO hd .undef fun _ _ => Sole.plain (by simp)) hK
      have hy : yielded ops.toArray a.tmps j = match a.tmps[t]? with | some (.bool b) => some b | _ => none := by
        simp only [yielded, List.getElem?_toArray, h1, Option.bind_some]
        rfl
      simp only [opW] at hK
      split at hK
      · rename_i b hb
        have hv := h.tv t _ hb
        have hbv : a.tmps.getD t Go.undef = .bool b := by generalize a.tmps.getD t Go.undef = val at hv; cases hv; rfl
        have hbt : a.tmps[t]? = some (.bool b) := by
          rw [Array.getD_eq_getD_getElem?] at hbv
          cases hx : a.tmps[t]? with
          | none => rw [hx] at hbv; simp [Go.undef] at hbv
          | some y => rw [hx] at hbv; simpa using hbv
        rw [hbt] at hy
        have hw : Region.wanted o (yielded ops.toArray a.tmps) = (b == want) := by simp [Region.wanted, hg, hy]
        rw [hw]
        by_cases hbw : b = want
        · subst hbw
          rw [if_pos (by simp)]
          exact .inl (kind_sound h h2 hd (hK.1 rfl) hn)
        · rw [if_neg (by simpa using hbw)]
          exact hskip (hK.2 (by cases b <;> cases want <;> simp_all))
      · rename_i hb
        have hv := h.tv t _ hb
        have hbv : a.tmps.getD t Go.undef = Go.undef := by generalize a.tmps.getD t Go.undef = val at hv; cases hv; rfl
        have hnb : ∀ b, a.tmps[t]? ≠ some (.bool b) := by
          intro b hb
          rw [Array.getD_eq_getD_getElem?, hb] at hbv
          simp [Go.undef] at hbv
        have hyn : yielded ops.toArray a.tmps j = none := by
          rw [hy]
          split
          · rename_i b hb; exact absurd hb (hnb b)
          · rfl
        have hw : Region.wanted o (yielded ops.toArray a.tmps) = false := by simp [Region.wanted, hg, hyn]
        rw [hw]
        exact hskip hK
      · exact hK.elim
    · cases hc
end
end Go.Proofs.Ytdcpcnhgmmbbfaa
