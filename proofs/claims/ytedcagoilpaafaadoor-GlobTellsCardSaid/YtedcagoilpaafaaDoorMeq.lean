/- The abstract machine, beside part 5: == of structs, cell by cell. -/
import Derived.Test.YtedcagoilpaafaaDoorMe
import Derived.Laws.StructEq
namespace Go.Proofs.YtedcagoilpaafaaDoor
set_option linter.all false
open Go.RowKit

theorem eqC_split : ∀ {k l : List Kd} {a b c d : List AV} {r : Bool}, a.length = k.length → b.length = k.length → eqC (k ++ l) (a ++ c) (b ++ d) = some r → ∃ x y, eqC k a b = some x ∧ eqC l c d = some y ∧ r = (x && y)
  | [], l, a, b, c, d, r, h1, h2, h => by
    obtain rfl := List.eq_nil_of_length_eq_zero h1
    obtain rfl := List.eq_nil_of_length_eq_zero h2
    exact ⟨true, r, rfl, h, by simp⟩
  | k :: ks, l, a, b, c, d, r, h1, h2, h => by
    match a, b, h1, h2 with
    | x :: a, y :: b, h1, h2 =>
      simp only [List.cons_append, eqC] at h ⊢
      split at h
      · rename_i u v g1 g2
        obtain ⟨p, q, h3, h4, rfl⟩ := eqC_split (by simpa using h1) (by simpa using h2) g2
        simp only [Option.some.injEq] at h
        subst h
        exact ⟨u && p, q, by rw [g1, h3], h4, by rw [Bool.and_assoc]⟩
      · cases h
/-- A value's cells. -/
structure CellsR (P : Program) (W : World) (U : Nat → Nat → Prop) (t : TypeId) (x : Value) (cs : List AV) : Prop where
  len : cs.length = sizeT P t
  size : x.cells.size = cs.length
  vr : ∀ (j : Nat) (v : Value) (c : AV), x.cells[j]? = some v → cs[j]? = some c → VR W U v c ∧ v.oneCell' = true
  form : (∃ xs, x = .agg xs) ↔ ∃ fs, P.underlying t = some (.struct fs)
section
variable {P : Program} {W : World} {U : Nat → Nat → Prop}
theorem kinds_len : ∀ (n : Nat) (t : TypeId) (ks : List Kd), kindsT P n t = some ks → ks.length = sizeT P t
  | 0, t, ks, h => by simp [kindsT] at h
  | n + 1, t, ks, h => by
    unfold kindsT at h
    have hch : ∀ (fs : List Field) (a tot : Nat) (ks : List Kd), chainS P a fs = some tot → kindsF (kindsT P n) fs = some ks → a + ks.length = tot := by
      intro fs
      induction fs with
      | nil => intro a tot ks h1 h2; simp [chainS] at h1; simp [kindsF] at h2; subst h2; simpa using h1
      | cons f fs ih =>
        intro a tot ks h1 h2
        simp only [chainS] at h1
        split at h1
        · simp only [kindsF] at h2
          split at h2
          · rename_i k1 k2 e1 e2
            simp only [Option.some.injEq] at h2
            subst h2
            have := ih _ _ _ h1 e2
            have := kinds_len n _ _ e1
            simp only [List.length_append]; omega
          · cases h2
        · cases h1
    split at h
    · split at h
      · cases h; simp_all
      · cases h
    · split at h
      · cases h; simp_all
      · cases h
    · split at h
      · cases h; simp_all
      · cases h
    · split at h
      · rename_i hc
        have := hch _ _ _ _ hc.2 h
        omega
      · cases h
    · cases h
theorem equalIn_fields {n d : Nat} (ih : ∀ (t : TypeId) (x y : Value) (ks : List Kd) (cs ds : List AV) (r : Bool), kindsT P n t = some ks → CellsR P W U t x cs → CellsR P W U t y ds → eqC ks cs ds = some r → (Op.equalIn d t x y).run P W = .ok r W)
    (xs ys : Array Value) (cs ds : List AV) (h1 : xs.size = cs.length) (h2 : ys.size = ds.length) (h3 : ∀ (j : Nat) (v : Value) (c : AV), xs[j]? = some v → cs[j]? = some c → VR W U v c ∧ v.oneCell' = true)
    (h4 : ∀ (j : Nat) (v : Value) (c : AV), ys[j]? = some v → ds[j]? = some c → VR W U v c ∧ v.oneCell' = true) :
    ∀ (fs : List Field) (a tot : Nat) (ks : List Kd) (r : Bool), chainS P a fs = some tot → cs.length = tot → ds.length = tot → kindsF (kindsT P n) fs = some ks → eqC ks (cs.drop a) (ds.drop a) = some r → (Op.eqFields d xs ys fs).run P W = .ok r W
  | [], a, tot, ks, r, hc, hl1, hl2, hf, he => by
    simp only [kindsF, Option.some.injEq] at hf
    subst hf
    simp only [chainS, Option.some.injEq] at hc
    subst hc
    rw [List.drop_eq_nil_of_le (by omega), List.drop_eq_nil_of_le (by omega)] at he
    simp only [eqC, Option.some.injEq] at he
    subst he
    simp [Op.eqFields]
  | f :: fs, a, tot, ks, r, hc, hl1, hl2, hf, he => by
    obtain ⟨kf, kr, hkf, hkr, rfl⟩ : ∃ kf kr, kindsT P n f.type = some kf ∧ kindsF (kindsT P n) fs = some kr ∧ ks = kf ++ kr := by
      simp only [kindsF] at hf
      split at hf
      · rename_i a b e1 e2; exact ⟨a, b, e1, e2, by simpa using hf.symm⟩
      · cases hf
    have hkl := kinds_len n _ _ hkf
    simp only [chainS] at hc
    split at hc
    · rename_i hcond
      obtain ⟨ho, hn, hi⟩ := hcond
      have hge : a + sizeT P f.type ≤ tot := by
        have : ∀ (l : List Field) (a t : Nat), chainS P a l = some t → a ≤ t := by
          intro l
          induction l with
          | nil => intro a t h; simp [chainS] at h; omega
          | cons g l ih2 =>
            intro a t h
            simp only [chainS] at h
            split at h
            · have := ih2 _ _ h; omega
            · cases h
        exact this _ _ _ hc
      have e1 : cs.drop a = (cs.drop a).take (sizeT P f.type) ++ cs.drop (a + sizeT P f.type) := by rw [← List.drop_drop, List.take_append_drop]
      have e2 : ds.drop a = (ds.drop a).take (sizeT P f.type) ++ ds.drop (a + sizeT P f.type) := by rw [← List.drop_drop, List.take_append_drop]
      rw [e1, e2] at he
      obtain ⟨x, y, q1, q2, rfl⟩ := eqC_split (by simp; omega) (by simp; omega) he
      have part1 : ∀ (zs : Array Value) (es : List AV), zs.size = es.length → es.length = tot → (∀ (j : Nat) (v : Value) (c : AV), zs[j]? = some v → es[j]? = some c → VR W U v c ∧ v.oneCell' = true) →
          ∃ v, (part f.type zs f.offset).run P W = .ok v W ∧ CellsR P W U f.type v ((es.drop a).take (sizeT P f.type)) := by
        intro zs es g1 g2 g3
        have ht := hkf
        cases hinf : P.info? f.type with
        | none => simp [hinf] at hi
        | some inf =>
          have hsz : inf.size = sizeT P f.type := by simp [sizeT, hinf]
          have single : (∃ dd, P.underlying f.type = some dd ∧ isAggD dd = false ∧ (∀ fs, dd ≠ .struct fs)) → sizeT P f.type = 1 → ∃ v, (part f.type zs f.offset).run P W = .ok v W ∧ CellsR P W U f.type v ((es.drop a).take (sizeT P f.type)) := by
            rintro ⟨dd, hu, hag, hns⟩ h1
            have hlt : a < zs.size := by omega
            have hz : zs[a]? = some zs[a] := Array.getElem?_eq_getElem hlt
            have hes : es[a]? = some (es[a]'(by omega)) := List.getElem?_eq_getElem (by omega)
            obtain ⟨k1, k2⟩ := g3 a _ _ hz hes
            have hc1 : (zs[a]).cells = #[zs[a]] := by
              revert k2
              cases zs[a] <;> simp [Value.oneCell', Value.cells]
            have htk : (es.drop a).take (sizeT P f.type) = [es[a]'(by omega)] := by
              rw [h1, List.drop_eq_getElem_cons (by omega)]; rfl
            refine ⟨zs[a], ?_, ?_⟩
            · simp [part, run_isAgg hu, hag, ho, hz]
            · rw [htk]
              refine ⟨by simp [h1], by rw [hc1]; rfl, fun j v c hv hc => ?_, ?_⟩
              · rw [hc1] at hv
                cases j with
                | zero => simp at hv hc; subst hv; subst hc; exact ⟨k1, k2⟩
                | succ j => simp at hv
              · constructor
                · rintro ⟨xs', hx⟩
                  rw [hx] at k2; simp [Value.oneCell'] at k2
                · rintro ⟨fs', hx⟩
                  rw [hu] at hx
                  exact absurd (Option.some.inj hx) (hns fs')
          cases n with
          | zero => simp [kindsT] at ht
          | succ n =>
            unfold kindsT at ht
            split at ht
            · rename_i hu; split at ht
              · rename_i h1; exact single ⟨_, hu, rfl, by simp⟩ h1
              · cases ht
            · rename_i k hu; split at ht
              · rename_i h1; exact single ⟨_, hu, rfl, by simp⟩ h1
              · cases ht
            · rename_i hu; split at ht
              · rename_i h1; exact single ⟨_, hu, rfl, by simp⟩ h1
              · cases ht
            · rename_i gs hu
              refine ⟨.agg (zs.extract f.offset (f.offset + inf.size)), by simp [part, run_isAgg hu, isAggD, sizeOf, typeInfo, hinf], ?_⟩
              refine ⟨by simp; omega, by simp [Value.cells, ho, hsz]; omega, fun j v c hv hc => ?_, ⟨fun _ => ⟨gs, hu⟩, fun _ => ⟨_, rfl⟩⟩⟩
              simp only [Value.cells, Array.getElem?_extract, ho] at hv
              rw [List.getElem?_take, List.getElem?_drop] at hc
              split at hv
              · split at hc
                · exact g3 (a + j) v c hv hc
                · cases hc
              · cases hv
            · cases ht
      obtain ⟨v1, r1, c1⟩ := part1 xs cs h1 hl1 h3
      obtain ⟨v2, r2, c2⟩ := part1 ys ds h2 hl2 h4
      have hr := ih f.type v1 v2 _ _ _ x hkf c1 c2 q1
      have hrest := equalIn_fields ih xs ys cs ds h1 h2 h3 h4 fs _ tot _ y hc hl1 hl2 hkr q2
      simp only [Op.eqFields, if_pos hn, Sem.run_bind, r1, Result.andThen_ok, r2, hr, Sem.run_ite]
      cases x
      · simp
      · simpa using hrest
    · cases hc

theorem equalIn_sound : ∀ (n d : Nat), n ≤ d → ∀ (t : TypeId) (x y : Value) (ks : List Kd) (cs ds : List AV) (r : Bool), kindsT P n t = some ks → CellsR P W U t x cs → CellsR P W U t y ds → eqC ks cs ds = some r → (Op.equalIn d t x y).run P W = .ok r W
  | 0, d, _, t, x, y, ks, cs, ds, r, ht, _, _, _ => by simp [kindsT] at ht
  | n + 1, 0, hd, t, x, y, ks, cs, ds, r, ht, hx, hy, he => by omega
  | n + 1, d + 1, hd, t, x, y, ks, cs, ds, r, ht, hx, hy, he => by
    have ih := fun t x y ks cs ds r => equalIn_sound n d (by omega) t x y ks cs ds r
    have single : ∀ k, ks = [k] → sizeT P t = 1 → (∀ fs, P.underlying t ≠ some (.struct fs)) → ∃ c c', VR W U x c ∧ VR W U y c' ∧ eq1 k c c' = some r := by
      intro k hk h1 hns
      subst hk
      have one : ∀ (z : Value) (es : List AV), CellsR P W U t z es → ∃ c, es = [c] ∧ VR W U z c := by
        intro z es hz
        have hl : es.length = 1 := by rw [hz.len, h1]
        match es, hl with
        | [c], _ =>
          refine ⟨c, rfl, ?_⟩
          have hna : ¬ ∃ xs, z = .agg xs := fun h => by
            obtain ⟨fs, hfs⟩ := hz.form.1 h
            exact hns fs hfs
          have hc : z.cells = #[z] := by
            cases z <;> first | rfl | exact absurd ⟨_, rfl⟩ hna
          exact (hz.vr 0 z c (by rw [hc]; rfl) rfl).1
      obtain ⟨c, rfl, k1⟩ := one x cs hx
      obtain ⟨c', rfl, k2⟩ := one y ds hy
      refine ⟨c, c', k1, k2, ?_⟩
      simp only [eqC] at he
      split at he
      · rename_i u v q1 q2
        simp only [Option.some.injEq] at q2 he
        subst q2 he
        rw [q1]; simp
      · cases he
    unfold kindsT at ht
    split at ht
    · rename_i hu
      split at ht
      · rename_i h1
        obtain ⟨c, c', k1, k2, k3⟩ := single .b (by simpa using ht.symm) h1 (by simp [hu])
        unfold eq1 at k3
        split at k3 <;> simp_all
        rw [k1.bool_inv, k2.bool_inv, run_equal_bool hu]
        simp [k3]
      · cases ht
    · rename_i kk hu
      split at ht
      · rename_i h1
        obtain ⟨c, c', k1, k2, k3⟩ := single .i (by simpa using ht.symm) h1 (by simp [hu])
        unfold eq1 at k3
        split at k3 <;> simp_all
        obtain ⟨rfl, rfl⟩ := k3
        rw [k1.int_inv, k2.int_inv, run_equalIn_int W d t _ kk _ _ hu]
        rfl
      · cases ht
    · rename_i hu
      split at ht
      · rename_i h1
        obtain ⟨c, c', k1, k2, k3⟩ := single .s (by simpa using ht.symm) h1 (by simp [hu])
        unfold eq1 at k3
        split at k3 <;> simp_all
        rw [k1.str_inv, k2.str_inv, run_equalIn_string W d t _ _ hu, toList_str, toList_str, beq_str]
        simp [k3]
      · cases ht
    · rename_i fs hu
      split at ht
      · rename_i hc
        obtain ⟨hs, hch⟩ := hc
        obtain ⟨xs, rfl⟩ := hx.form.2 ⟨fs, hu⟩
        obtain ⟨ys, rfl⟩ := hy.form.2 ⟨fs, hu⟩
        have hfo : P.fieldsOf t = fs := by simp [Program.fieldsOf, hu]
        rw [run_equalIn_struct W d t xs ys (by rw [hfo]; exact hu) hs, hfo]
        exact equalIn_fields ih xs ys cs ds hx.size hy.size hx.vr hy.vr fs.toList 0 _ _ r hch hx.len hy.len ht (by simpa using he)
      · cases ht
    · cases ht

theorem eqC_len : ∀ {ks : List Kd} {cs ds : List AV} {b : Bool}, eqC ks cs ds = some b → cs.length = ks.length ∧ ds.length = ks.length
  | [], [], [], _, _ => ⟨rfl, rfl⟩
  | k :: ks, c :: cs, d :: ds, b, h => by
    simp only [eqC] at h
    split at h
    · rename_i x y h1 h2
      have := eqC_len h2
      simp [this]
    · cases h
  | [], _ :: _, _, _, h => by simp [eqC] at h
  | [], [], _ :: _, _, h => by simp [eqC] at h
  | _ :: _, [], _, _, h => by simp [eqC] at h
  | _ :: _, _ :: _, [], _, h => by simp [eqC] at h
theorem s_aeq {N : Nat} {W0 : World} {U0 : Nat → Nat → Prop} {M : Nat → Prop} {a : Act} {s : St} {o : Oper} {r : AV} (h : Inv N W0 U0 M a W U s) {op : BinOp} {t ty : TypeId} {fs : Array Field} {x y : Operand} {X Y : Opd} {ks : List Kd} (ho : o.op = .binOp op t x y ty) (hop : op = .eql ∨ op = .neq)
    (ht : P.underlying t = some (.struct fs)) (hg : P.eqGuardType P.depth t = false) (hk : kindsT P 8 t = some ks) (hx : cOpd x = some X) (hy : cOpd y = some Y) (hr : opR P s (.aeq (isNeq op) ks X Y) r) : VOK P a o W U r := by
  obtain ⟨cs, ds, b, hv, hu, he, rfl⟩ := hr
  obtain ⟨l1, l2⟩ := eqC_len he
  have kl := kinds_len 8 t ks hk
  have cell : ∀ {z : Value} {es : List AV}, VR W U z (.agg es) → es.length = ks.length → ∃ vs : List Value, z = .agg vs.toArray ∧ CellsR P W U t z es := by
    intro z es hz hl
    cases hz with
    | agg vs _ hvl hvr h1 =>
      refine ⟨vs, rfl, by omega, by simp [Value.cells, hvl], fun j v c hv hc => ?_, ⟨fun _ => ⟨fs, ht⟩, fun _ => ⟨_, rfl⟩⟩⟩
      have hv' : vs[j]? = some v := by simpa [Value.cells] using hv
      exact ⟨hvr j v c hv' hc, h1 v (List.mem_of_getElem? hv')⟩
  obtain ⟨vs, e1, c1⟩ := cell (cOpd_sound h hx hv) l1
  obtain ⟨us, e2, c2⟩ := cell (cOpd_sound h hy hu) l2
  have hrun := equalIn_sound 8 10000 (by omega) t _ _ ks cs ds b hk c1 c2 he
  rw [e1, e2] at hrun
  rcases hop with rfl | rfl
  · refine VOK.same (v := .bool b) ?_ (.bool _) (by simp [isNeq])
    simp only [execOp, ho, e1, e2, Sem.run_bind, run_eqGuard_agg W _ t x y _ _ hg, Result.andThen_ok, run_eql_struct, hrun]
    simp
  · refine VOK.same (v := .bool (!b)) ?_ (.bool _) (by simp [isNeq])
    simp only [execOp, ho, e1, e2, Sem.run_bind, run_eqGuard_agg W _ t x y _ _ hg, Result.andThen_ok, run_neq_struct, hrun]
    simp
end
end Go.Proofs.YtedcagoilpaafaaDoor
