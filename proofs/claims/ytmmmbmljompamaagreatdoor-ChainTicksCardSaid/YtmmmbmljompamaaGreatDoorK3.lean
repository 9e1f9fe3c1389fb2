import Derived.Test.YtmmmbmljompamaaGreatDoorK1
import Derived.Laws.StructEq
import Derived.ChangeKeysEq
import Derived.Test.YtmmmbmljompamaaGreatDoorK2
import Derived.MapKept
import Derived.Maps.RangeRun
namespace Go.Proofs.YtmmmbmljompamaaGreatDoor
set_option linter.all false
open Go.RowKit

theorem eqC_split : ∀ {k l : List Kd} {a b c d : List AV} {r : Bool}, a.length = k.length → b.length = k.length → eqC (k ++ l) (a ++ c) (b ++ d) = some r → ∃ x y, eqC k a b = some x ∧ eqC l c d = some y ∧ r = (x && y)
  | [], l, a, b, c, d, r, h1, h2, h => by
    obtain rfl := List.eq_nil_of_length_eq_zero h1
    obtain rfl := List.eq_nil_of_length_eq_zero h2
    exact ⟨true, r, rfl, h, by simp⟩
  | k :: ks, l, a, b, c, d, r, h1, h2, h => by
    match a, b, h1, h2 with
    | x :: a, y :: b, h1, h2 =>
      simp only [List.cons_append, eqC] at h ⊢
      split at h
      · rename_i u v g1 g2
        obtain ⟨p, q, h3, h4, rfl⟩ := eqC_split (by simpa using h1) (by simpa using h2) g2
        simp only [Option.some.injEq] at h
        subst h
        exact ⟨u && p, q, by rw [g1, h3], h4, by rw [Bool.and_assoc]⟩
      · cases h
structure CellsR (P : Program) (W : World) (U : Nat → Nat → Prop) (t : TypeId) (x : Value) (cs : List AV) : Prop where
  len : cs.length = sizeT P t
  size : x.cells.size = cs.length
  vr : ∀ (j : Nat) (v : Value) (c : AV), x.cells[j]? = some v → cs[j]? = some c → VR W U v c ∧ v.oneCell' = true
  form : (∃ xs, x = .agg xs) ↔ ∃ d, P.underlying t = some d ∧ isAggD d = true
section
variable {P : Program} {W : World} {U : Nat → Nat → Prop}
theorem kinds_len : ∀ (n : Nat) (t : TypeId) (ks : List Kd), kindsT P n t = some ks → ks.length = sizeT P t
  | 0, t, ks, h => by simp [kindsT] at h
  | n + 1, t, ks, h => by
    unfold kindsT at h
    have hch : ∀ (fs : List Field) (a tot : Nat) (ks : List Kd), chainS P a fs = some tot → kindsF (kindsT P n) fs = some ks → a + ks.length = tot := by
      intro fs
      induction fs with
      | nil => intro a tot ks h1 h2; simp [chainS] at h1; simp [kindsF] at h2; subst h2; simpa using h1
      | cons f fs ih =>
        intro a tot ks h1 h2
        simp only [chainS] at h1
        split at h1
        · simp only [kindsF] at h2
          split at h2
          · rename_i k1 k2 e1 e2
            simp only [Option.some.injEq] at h2
            subst h2
            have := ih _ _ _ h1 e2
            have := kinds_len n _ _ e1
            simp only [List.length_append]; omega
          · cases h2
        · cases h1
    split at h
    · split at h
      · cases h; simp_all
      · cases h
    · split at h
      · cases h; simp_all
      · cases h
    · split at h
      · cases h; simp_all
      · cases h
    · split at h
      · rename_i hc
        have := hch _ _ _ _ hc.2 h
        omega
      · cases h
    · split at h
      · rename_i hc
        simp only [Option.map_eq_some_iff] at h
        obtain ⟨k, hk, rfl⟩ := h
        have := kinds_len n _ _ hk
        rw [hc.1, List.length_flatten, List.map_replicate, List.sum_replicate_nat, this]
      · cases h
    · cases h
theorem part_sound {n : Nat} {t : TypeId} {ks : List Kd} (hk : kindsT P n t = some ks) (hi : (P.info? t).isSome = true) {zs : Array Value} {es : List AV} {off : Nat} (hle : off + sizeT P t ≤ es.length) (g1 : zs.size = es.length)
    (g3 : ∀ (j : Nat) (v : Value) (c : AV), zs[j]? = some v → es[j]? = some c → VR W U v c ∧ v.oneCell' = true) :
    ∃ v, (part t zs off).run P W = .ok v W ∧ CellsR P W U t v ((es.drop off).take (sizeT P t)) := by
  cases hinf : P.info? t with
  | none => simp [hinf] at hi
  | some inf =>
    have hsz : inf.size = sizeT P t := by simp [sizeT, hinf]
    have single : (∃ dd, P.underlying t = some dd ∧ isAggD dd = false) → sizeT P t = 1 → ∃ v, (part t zs off).run P W = .ok v W ∧ CellsR P W U t v ((es.drop off).take (sizeT P t)) := by
      rintro ⟨dd, hu, hag⟩ h1
      have hlt : off < zs.size := by omega
      have hz : zs[off]? = some zs[off] := Array.getElem?_eq_getElem hlt
      have hes : es[off]? = some (es[off]'(by omega)) := List.getElem?_eq_getElem (by omega)
      obtain ⟨k1, k2⟩ := g3 off _ _ hz hes
      have hc1 : (zs[off]).cells = #[zs[off]] := by
        revert k2
        cases zs[off] <;> simp [Value.oneCell', Value.cells]
      have htk : (es.drop off).take (sizeT P t) = [es[off]'(by omega)] := by
        rw [h1, List.drop_eq_getElem_cons (by omega)]; rfl
      refine ⟨zs[off], ?_, ?_⟩
      · simp [part, run_isAgg hu, hag, hz]
      · rw [htk]
        refine ⟨by simp [h1], by rw [hc1]; rfl, fun j v c hv hc => ?_, ?_⟩
        · rw [hc1] at hv
          cases j with
          | zero => simp at hv hc; subst hv; subst hc; exact ⟨k1, k2⟩
          | succ j => simp at hv
        · constructor
          · rintro ⟨xs', hx⟩
            rw [hx] at k2; simp [Value.oneCell'] at k2
          · rintro ⟨d', hx, hd'⟩
            rw [hu] at hx
            cases hx
            rw [hag] at hd'; cases hd'
    have whole : (∃ dd, P.underlying t = some dd ∧ isAggD dd = true) → ∃ v, (part t zs off).run P W = .ok v W ∧ CellsR P W U t v ((es.drop off).take (sizeT P t)) := by
      rintro ⟨dd, hu, hag⟩
      refine ⟨.agg (zs.extract off (off + inf.size)), by simp [part, run_isAgg hu, hag, sizeOf, typeInfo, hinf], ?_⟩
      refine ⟨by simp; omega, by simp [Value.cells, hsz]; omega, fun j v c hv hc => ?_, ⟨fun _ => ⟨dd, hu, hag⟩, fun _ => ⟨_, rfl⟩⟩⟩
      simp only [Value.cells, Array.getElem?_extract] at hv
      rw [List.getElem?_take, List.getElem?_drop] at hc
      split at hv
      · split at hc
        · exact g3 (off + j) v c hv hc
        · cases hc
      · cases hv
    cases n with
    | zero => simp [kindsT] at hk
    | succ n =>
      unfold kindsT at hk
      split at hk
      · rename_i hu; split at hk
        · rename_i h1; exact single ⟨_, hu, rfl⟩ h1
        · cases hk
      · rename_i k hu; split at hk
        · rename_i h1; exact single ⟨_, hu, rfl⟩ h1
        · cases hk
      · rename_i hu; split at hk
        · rename_i h1; exact single ⟨_, hu, rfl⟩ h1
        · cases hk
      · rename_i gs hu; exact whole ⟨_, hu, rfl⟩
      · rename_i m e hu; exact whole ⟨_, hu, rfl⟩
      · cases hk
theorem equalIn_items {n d : Nat} {e : TypeId} {k : List Kd} (hk : kindsT P n e = some k) (hi : (P.info? e).isSome = true)
    (ih : ∀ (x y : Value) (cs ds : List AV) (r : Bool), CellsR P W U e x cs → CellsR P W U e y ds → eqC k cs ds = some r → (Op.equalIn d e x y).run P W = .ok r W)
    (xs ys : Array Value) (cs ds : List AV) (h1 : xs.size = cs.length) (h2 : ys.size = ds.length) (h3 : ∀ (j : Nat) (v : Value) (c : AV), xs[j]? = some v → cs[j]? = some c → VR W U v c ∧ v.oneCell' = true)
    (h4 : ∀ (j : Nat) (v : Value) (c : AV), ys[j]? = some v → ds[j]? = some c → VR W U v c ∧ v.oneCell' = true) :
    ∀ (m i : Nat) (r : Bool), cs.length = (i + m) * sizeT P e → ds.length = (i + m) * sizeT P e → eqC (List.replicate m k).flatten (cs.drop (i * sizeT P e)) (ds.drop (i * sizeT P e)) = some r →
      (Op.eqItems d e (P.cellsOf e) xs ys (List.range' i m)).run P W = .ok r W
  | 0, i, r, hl1, hl2, he => by
    rw [List.drop_eq_nil_of_le (by simp at hl1; omega), List.drop_eq_nil_of_le (by simp at hl2; omega)] at he
    simp only [List.replicate_zero, List.flatten_nil, eqC, Option.some.injEq] at he
    subst he
    simp [Op.eqItems]
  | m + 1, i, r, hl1, hl2, he => by
    have hkl := kinds_len n _ _ hk
    have hle : i * sizeT P e + sizeT P e ≤ (i + (m + 1)) * sizeT P e := by
      have : (i + 1) * sizeT P e ≤ (i + (m + 1)) * sizeT P e := Nat.mul_le_mul_right _ (by omega)
      rw [Nat.add_mul, Nat.one_mul] at this; exact this
    have hnx : i * sizeT P e + sizeT P e = (i + 1) * sizeT P e := by rw [Nat.add_mul, Nat.one_mul]
    have e1 : cs.drop (i * sizeT P e) = (cs.drop (i * sizeT P e)).take (sizeT P e) ++ cs.drop ((i + 1) * sizeT P e) := by rw [← hnx, ← List.drop_drop, List.take_append_drop]
    have e2 : ds.drop (i * sizeT P e) = (ds.drop (i * sizeT P e)).take (sizeT P e) ++ ds.drop ((i + 1) * sizeT P e) := by rw [← hnx, ← List.drop_drop, List.take_append_drop]
    rw [List.replicate_succ, List.flatten_cons, e1, e2] at he
    obtain ⟨x, y, q1, q2, rfl⟩ := eqC_split (by simp; omega) (by simp; omega) he
    obtain ⟨v1, r1, c1⟩ := part_sound hk hi (off := i * sizeT P e) (by omega) h1 h3
    obtain ⟨v2, r2, c2⟩ := part_sound hk hi (off := i * sizeT P e) (by omega) h2 h4
    have hr := ih v1 v2 _ _ x c1 c2 q1
    have hrest := equalIn_items hk hi ih xs ys cs ds h1 h2 h3 h4 m (i + 1) y (by rw [hl1]; congr 1; omega) (by rw [hl2]; congr 1; omega) q2
    have hce : P.cellsOf e = sizeT P e := rfl
    rw [List.range'_succ]
    simp only [Op.eqItems, hce, Sem.run_bind, r1, Result.andThen_ok, r2, hr, Sem.run_ite]
    cases x
    · simp
    · simpa [hce] using hrest
theorem equalIn_fields {n d : Nat} (ih : ∀ (t : TypeId) (x y : Value) (ks : List Kd) (cs ds : List AV) (r : Bool), kindsT P n t = some ks → CellsR P W U t x cs → CellsR P W U t y ds → eqC ks cs ds = some r → (Op.equalIn d t x y).run P W = .ok r W)
    (xs ys : Array Value) (cs ds : List AV) (h1 : xs.size = cs.length) (h2 : ys.size = ds.length) (h3 : ∀ (j : Nat) (v : Value) (c : AV), xs[j]? = some v → cs[j]? = some c → VR W U v c ∧ v.oneCell' = true)
    (h4 : ∀ (j : Nat) (v : Value) (c : AV), ys[j]? = some v → ds[j]? = some c → VR W U v c ∧ v.oneCell' = true) :
    ∀ (fs : List Field) (a tot : Nat) (ks : List Kd) (r : Bool), chainS P a fs = some tot → cs.length = tot → ds.length = tot → kindsF (kindsT P n) fs = some ks → eqC ks (cs.drop a) (ds.drop a) = some r → (Op.eqFields d xs ys fs).run P W = .ok r W
  | [], a, tot, ks, r, hc, hl1, hl2, hf, he => by
    simp only [kindsF, Option.some.injEq] at hf
    subst hf
    simp only [chainS, Option.some.injEq] at hc
    subst hc
    rw [List.drop_eq_nil_of_le (by omega), List.drop_eq_nil_of_le (by omega)] at he
    simp only [eqC, Option.some.injEq] at he
    subst he
    simp [Op.eqFields]
  | f :: fs, a, tot, ks, r, hc, hl1, hl2, hf, he => by
    obtain ⟨kf, kr, hkf, hkr, rfl⟩ : ∃ kf kr, kindsT P n f.type = some kf ∧ kindsF (kindsT P n) fs = some kr ∧ ks = kf ++ kr := by
      simp only [kindsF] at hf
      split at hf
      · rename_i a b e1 e2; exact ⟨a, b, e1, e2, by simpa using hf.symm⟩
      · cases hf
    have hkl := kinds_len n _ _ hkf
    simp only [chainS] at hc
    split at hc
    · rename_i hcond
      obtain ⟨ho, hn, hi⟩ := hcond
      have hge : a + sizeT P f.type ≤ tot := by
        have : ∀ (l : List Field) (a t : Nat), chainS P a l = some t → a ≤ t := by
          intro l
          induction l with
          | nil => intro a t h; simp [chainS] at h; omega
          | cons g l ih2 =>
            intro a t h
            simp only [chainS] at h
            split at h
            · have := ih2 _ _ h; omega
            · cases h
        exact this _ _ _ hc
      have e1 : cs.drop a = (cs.drop a).take (sizeT P f.type) ++ cs.drop (a + sizeT P f.type) := by rw [← List.drop_drop, List.take_append_drop]
      have e2 : ds.drop a = (ds.drop a).take (sizeT P f.type) ++ ds.drop (a + sizeT P f.type) := by rw [← List.drop_drop, List.take_append_drop]
      rw [e1, e2] at he
      obtain ⟨x, y, q1, q2, rfl⟩ := eqC_split (by simp; omega) (by simp; omega) he
      have part1 : ∀ (zs : Array Value) (es : List AV), zs.size = es.length → es.length = tot → (∀ (j : Nat) (v : Value) (c : AV), zs[j]? = some v → es[j]? = some c → VR W U v c ∧ v.oneCell' = true) →
          ∃ v, (part f.type zs f.offset).run P W = .ok v W ∧ CellsR P W U f.type v ((es.drop a).take (sizeT P f.type)) := fun zs es g1 g2 g3 => by
        have := part_sound hkf hi (off := a) (by omega) g1 g3
        rwa [ho]
      obtain ⟨v1, r1, c1⟩ := part1 xs cs h1 hl1 h3
      obtain ⟨v2, r2, c2⟩ := part1 ys ds h2 hl2 h4
      have hr := ih f.type v1 v2 _ _ _ x hkf c1 c2 q1
      have hrest := equalIn_fields ih xs ys cs ds h1 h2 h3 h4 fs _ tot _ y hc hl1 hl2 hkr q2
      simp only [Op.eqFields, if_pos hn, Sem.run_bind, r1, Result.andThen_ok, r2, hr, Sem.run_ite]
      cases x
      · simp
      · simpa using hrest
    · cases hc

theorem equalIn_sound : ∀ (n d : Nat), n ≤ d → ∀ (t : TypeId) (x y : Value) (ks : List Kd) (cs ds : List AV) (r : Bool), kindsT P n t = some ks → CellsR P W U t x cs → CellsR P W U t y ds → eqC ks cs ds = some r → (Op.equalIn d t x y).run P W = .ok r W
  | 0, d, _, t, x, y, ks, cs, ds, r, ht, _, _, _ => by simp [kindsT] at ht
  | n + 1, 0, hd, t, x, y, ks, cs, ds, r, ht, hx, hy, he => by omega
  | n + 1, d + 1, hd, t, x, y, ks, cs, ds, r, ht, hx, hy, he => by
    have ih := fun t x y ks cs ds r => equalIn_sound n d (by omega) t x y ks cs ds r
    have single : ∀ k, ks = [k] → sizeT P t = 1 → (∀ d, P.underlying t = some d → isAggD d = false) → ∃ c c', VR W U x c ∧ VR W U y c' ∧ eq1 k c c' = some r := by
      intro k hk h1 hns
      subst hk
      have one : ∀ (z : Value) (es : List AV), CellsR P W U t z es → ∃ c, es = [c] ∧ VR W U z c := by
        intro z es hz
        have hl : es.length = 1 := by rw [hz.len, h1]
        match es, hl with
        | [c], _ =>
          refine ⟨c, rfl, ?_⟩
          have hna : ¬ ∃ xs, z = .agg xs := fun h => by
            obtain ⟨dd, hd1, hd2⟩ := hz.form.1 h
            rw [hns dd hd1] at hd2; cases hd2
          have hc : z.cells = #[z] := by
            cases z <;> first | rfl | exact absurd ⟨_, rfl⟩ hna
          exact (hz.vr 0 z c (by rw [hc]; rfl) rfl).1
      obtain ⟨c, rfl, k1⟩ := one x cs hx
      obtain ⟨c', rfl, k2⟩ := one y ds hy
      refine ⟨c, c', k1, k2, ?_⟩
      simp only [eqC] at he
      split at he
      · rename_i u v q1 q2
        simp only [Option.some.injEq] at q2 he
        subst q2 he
        rw [q1]; simp
      · cases he
    unfold kindsT at ht
    split at ht
    · rename_i hu
      split at ht
      · rename_i h1
        obtain ⟨c, c', k1, k2, k3⟩ := single .b (by simpa using ht.symm) h1 (by intro d hd; rw [hu] at hd; cases hd; rfl)
        unfold eq1 at k3
        split at k3 <;> simp_all
        rw [k1.bool_inv, k2.bool_inv, run_equal_bool hu]
        simp [k3]
      · cases ht
    · rename_i kk hu
      split at ht
      · rename_i h1
        obtain ⟨c, c', k1, k2, k3⟩ := single .i (by simpa using ht.symm) h1 (by intro d hd; rw [hu] at hd; cases hd; rfl)
        unfold eq1 at k3
        split at k3 <;> simp_all
        obtain ⟨rfl, rfl⟩ := k3
        rw [k1.int_inv, k2.int_inv, run_equalIn_int W d t _ kk _ _ hu]
        rfl
      · cases ht
    · rename_i hu
      split at ht
      · rename_i h1
        obtain ⟨c, c', k1, k2, k3⟩ := single .s (by simpa using ht.symm) h1 (by intro d hd; rw [hu] at hd; cases hd; rfl)
        unfold eq1 at k3
        split at k3 <;> simp_all
        rw [k1.str_inv, k2.str_inv, run_equalIn_string W d t _ _ hu, toList_str, toList_str, beq_str]
        simp [k3]
      · cases ht
    · rename_i fs hu
      split at ht
      · rename_i hc
        obtain ⟨hs, hch⟩ := hc
        obtain ⟨xs, rfl⟩ := hx.form.2 ⟨_, hu, rfl⟩
        obtain ⟨ys, rfl⟩ := hy.form.2 ⟨_, hu, rfl⟩
        have hfo : P.fieldsOf t = fs := by simp [Program.fieldsOf, hu]
        rw [run_equalIn_struct W d t xs ys (by rw [hfo]; exact hu) hs, hfo]
        exact equalIn_fields ih xs ys cs ds hx.size hy.size hx.vr hy.vr fs.toList 0 _ _ r hch hx.len hy.len ht (by simpa using he)
      · cases ht
    · rename_i m e hu
      split at ht
      · rename_i hc
        simp only [Option.map_eq_some_iff] at ht
        obtain ⟨k, hk, rfl⟩ := ht
        obtain ⟨xs, rfl⟩ := hx.form.2 ⟨_, hu, rfl⟩
        obtain ⟨ys, rfl⟩ := hy.form.2 ⟨_, hu, rfl⟩
        obtain ⟨inf, hinf⟩ := Option.isSome_iff_exists.1 hc.2
        rw [run_equalIn_array (w := W) d xs ys hu hinf, List.range_eq_range']
        exact equalIn_items hk hc.2 (fun x y cs ds r => ih e x y k cs ds r hk) xs ys cs ds hx.size hy.size hx.vr hy.vr m 0 r (by rw [hx.len, hc.1, Nat.zero_add]) (by rw [hy.len, hc.1, Nat.zero_add]) (by simpa using he)
      · cases ht
    · cases ht

theorem eqC_len : ∀ {ks : List Kd} {cs ds : List AV} {b : Bool}, eqC ks cs ds = some b → cs.length = ks.length ∧ ds.length = ks.length
  | [], [], [], _, _ => ⟨rfl, rfl⟩
  | k :: ks, c :: cs, d :: ds, b, h => by
    simp only [eqC] at h
    split at h
    · rename_i x y h1 h2
      have := eqC_len h2
      simp [this]
    · cases h
  | [], _ :: _, _, _, h => by simp [eqC] at h
  | [], [], _ :: _, _, h => by simp [eqC] at h
  | _ :: _, [], _, _, h => by simp [eqC] at h
  | _ :: _, _ :: _, [], _, h => by simp [eqC] at h
theorem s_aeq {N : Nat} {W0 : World} {U0 : Nat → Nat → Prop} {M : Nat → Prop} {a : Act} {s : St} {o : Oper} {r : AV} (h : Inv N W0 U0 M a W U s) {op : BinOp} {t ty : TypeId} {td : TypeDesc} {x y : Operand} {X Y : Opd} {ks : List Kd} (ho : o.op = .binOp op t x y ty) (hop : op = .eql ∨ op = .neq)
    (ht : P.underlying t = some td) (htd : isAggD td = true) (hg : P.eqGuardType P.depth t = false) (hk : kindsT P 8 t = some ks) (hx : cOpd x = some X) (hy : cOpd y = some Y) (hr : opR P s (.aeq (isNeq op) ks X Y) r) : VOK P a o W U r := by
  obtain ⟨cs, ds, b, hv, hu, he, rfl⟩ := hr
  obtain ⟨l1, l2⟩ := eqC_len he
  have kl := kinds_len 8 t ks hk
  have cell : ∀ {z : Value} {es : List AV}, VR W U z (.agg es) → es.length = ks.length → ∃ vs : List Value, z = .agg vs.toArray ∧ CellsR P W U t z es := by
    intro z es hz hl
    cases hz with
    | agg vs _ hvl hvr h1 =>
      refine ⟨vs, rfl, by omega, by simp [Value.cells, hvl], fun j v c hv hc => ?_, ⟨fun _ => ⟨_, ht, htd⟩, fun _ => ⟨_, rfl⟩⟩⟩
      have hv' : vs[j]? = some v := by simpa [Value.cells] using hv
      exact ⟨hvr j v c hv' hc, h1 v (List.mem_of_getElem? hv')⟩
  obtain ⟨vs, e1, c1⟩ := cell (cOpd_sound h hx hv) l1
  obtain ⟨us, e2, c2⟩ := cell (cOpd_sound h hy hu) l2
  have hrun := equalIn_sound 8 10000 (by omega) t _ _ ks cs ds b hk c1 c2 he
  rw [e1, e2] at hrun
  rcases hop with rfl | rfl
  · refine VOK.same (v := .bool b) ?_ (.bool _) (by simp [isNeq])
    simp only [execOp, ho, e1, e2, Sem.run_bind, run_eqGuard_agg W _ t x y _ _ hg, Result.andThen_ok, run_eql_struct, hrun]
    simp
  · refine VOK.same (v := .bool (!b)) ?_ (.bool _) (by simp [isNeq])
    simp only [execOp, ho, e1, e2, Sem.run_bind, run_eqGuard_agg W _ t x y _ _ hg, Result.andThen_ok, run_neq_struct, hrun]
    simp
end
end Go.Proofs.YtmmmbmljompamaaGreatDoor

namespace Go.Proofs.YtmmmbmljompamaaGreatDoor
set_option linter.all false
open Go.RowKit

section
variable {P : Program} {W : World} {U : Nat → Nat → Prop}
theorem eq1_same {k : Kd} {c d : AV} {v u : Value} (h : eq1 k c d = some true) (hv : VR W U v c) (hu : VR W U u d) : v = u := by
  unfold eq1 at h
  split at h
  · rw [hv.int_inv, hu.int_inv]
    split at h
    · rename_i e; subst e
      have := of_decide_eq_true (Option.some.inj h)
      rw [this]
    · cases h
  · rw [hv.bool_inv, hu.bool_inv]
    rw [of_decide_eq_true (Option.some.inj h)]
  · rw [hv.str_inv, hu.str_inv]
    rw [of_decide_eq_true (Option.some.inj h)]
  · cases h
theorem eq1_bits {k : Kd} {c d : AV} {v : Value} {b : Bool} (h : eq1 k c d = some b) (hv : VR W U v c) (n : Nat) : Instr.sameBits n v v = true ∧ (v.cells = #[v] ∧ ∀ xs, v ≠ .agg xs) := by
  unfold eq1 at h
  split at h
  · rw [hv.int_inv]; cases n <;> simp [Instr.sameBits, Value.cells]
  · rw [hv.bool_inv]; cases n <;> simp [Instr.sameBits, Value.cells]
  · rw [hv.str_inv]; cases n <;> (refine ⟨?_, rfl, fun _ e => by cases e⟩; simp only [Instr.sameBits, beq_toListBytes, beq_self_eq_true])
  · cases h
theorem eqC_same : ∀ {ks : List Kd} {cs ds : List AV} {vs us : List Value}, eqC ks cs ds = some true → vs.length = cs.length → us.length = ds.length → (∀ (i : Nat) (v : Value) (c : AV), vs[i]? = some v → cs[i]? = some c → VR W U v c) →
    (∀ (i : Nat) (v : Value) (c : AV), us[i]? = some v → ds[i]? = some c → VR W U v c) → vs = us
  | [], [], [], vs, us, _, h1, h2, _, _ => by
    obtain rfl := List.eq_nil_of_length_eq_zero (l := vs) (by simpa using h1)
    obtain rfl := List.eq_nil_of_length_eq_zero (l := us) (by simpa using h2)
    rfl
  | k :: ks, c :: cs, d :: ds, v :: vs, u :: us, h, h1, h2, h3, h4 => by
    simp only [eqC] at h
    split at h
    · rename_i x y g1 g2
      simp only [Option.some.injEq, Bool.and_eq_true] at h
      obtain ⟨rfl, rfl⟩ := h
      have e1 := eq1_same g1 (h3 0 v c rfl rfl) (h4 0 u d rfl rfl)
      have e2 := eqC_same (vs := vs) (us := us) g2 (by simpa using h1) (by simpa using h2) (fun i v c hv hc => h3 (i + 1) v c (by simpa using hv) (by simpa using hc)) (fun i v c hv hc => h4 (i + 1) v c (by simpa using hv) (by simpa using hc))
      rw [e1, e2]
    · cases h
  | k :: ks, c :: cs, d :: ds, [], us, h, h1, h2, h3, h4 => by simp at h1
  | k :: ks, c :: cs, d :: ds, v :: vs, [], h, h1, h2, h3, h4 => by simp at h2
  | [], _ :: _, _, _, _, h, _, _, _, _ => by simp [eqC] at h
  | [], [], _ :: _, _, _, h, _, _, _, _ => by simp [eqC] at h
  | _ :: _, [], _, _, _, h, _, _, _, _ => by simp [eqC] at h
  | _ :: _, _ :: _, [], _, _, h, _, _, _, _ => by simp [eqC] at h
theorem eqC_bits : ∀ {ks : List Kd} {cs ds : List AV} {vs : List Value} {b : Bool}, eqC ks cs ds = some b → vs.length = cs.length → (∀ (i : Nat) (v : Value) (c : AV), vs[i]? = some v → cs[i]? = some c → VR W U v c) → ∀ n, ∀ v ∈ vs, Instr.sameBits n v v = true
  | [], [], [], vs, _, _, h1, _, n => by
    obtain rfl := List.eq_nil_of_length_eq_zero (l := vs) (by simpa using h1)
    simp
  | k :: ks, c :: cs, d :: ds, v :: vs, b, h, h1, h3, n => by
    simp only [eqC] at h
    split at h
    · rename_i x y g1 g2
      intro w hw
      rcases List.mem_cons.1 hw with rfl | hw
      · exact (eq1_bits g1 (h3 0 _ c rfl rfl) n).1
      · exact eqC_bits g2 (by simpa using h1) (fun i v c hv hc => h3 (i + 1) v c (by simpa using hv) (by simpa using hc)) n w hw
    · cases h
  | k :: ks, c :: cs, d :: ds, [], b, h, h1, h3, n => by simp
  | [], _ :: _, _, _, _, h, _, _, _ => by simp [eqC] at h
  | [], [], _ :: _, _, _, h, _, _, _ => by simp [eqC] at h
  | _ :: _, [], _, _, _, h, _, _, _ => by simp [eqC] at h
  | _ :: _, _ :: _, [], _, _, h, _, _, _ => by simp [eqC] at h
theorem keyB_cases {kt : TypeId} {ks : List Kd} {ag : Bool} (hk : keyB P kt = some (ks, ag)) : ∃ d, P.underlying kt = some d ∧ isAggD d = ag ∧ kindsT P 8 kt = some ks := by
  unfold keyB at hk
  split at hk
  · rename_i d ks' h1 h2
    simp only [Option.some.injEq, Prod.mk.injEq] at hk
    obtain ⟨rfl, rfl⟩ := hk
    exact ⟨d, h1, rfl, h2⟩
  · cases hk
theorem key_cells {kt : TypeId} {ks : List Kd} {ag : Bool} {x y : Value} {a b : AV} {r : Bool} (hk : keyB P kt = some (ks, ag)) (hx : VR W U x a) (hy : VR W U y b) (he : keyEq ks ag a b = some r) :
    (∃ cs ds, CellsR P W U kt x cs ∧ CellsR P W U kt y ds ∧ eqC ks cs ds = some r) ∧ (r = true → x = y) ∧ Instr.sameBits 10000 x x = true := by
  obtain ⟨d, hd, hag, hks⟩ := keyB_cases hk
  have kl := kinds_len 8 kt ks hks
  unfold keyEq at he
  split at he
  · rename_i cs ds
    obtain ⟨l1, l2⟩ := eqC_len he
    have cell : ∀ {z : Value} {es : List AV}, VR W U z (.agg es) → es.length = ks.length → ∃ vs : List Value, z = .agg vs.toArray ∧ vs.length = es.length ∧ (∀ (i : Nat) (v : Value) (c : AV), vs[i]? = some v → es[i]? = some c → VR W U v c) ∧ CellsR P W U kt z es := by
      intro z es hz hl
      cases hz with
      | agg vs _ hvl hvr h1 =>
        refine ⟨vs, rfl, hvl, hvr, by omega, by simp [Value.cells, hvl], fun j v c hv hc => ?_, ⟨fun _ => ⟨d, hd, hag⟩, fun _ => ⟨_, rfl⟩⟩⟩
        have hv' : vs[j]? = some v := by simpa [Value.cells] using hv
        exact ⟨hvr j v c hv' hc, h1 v (List.mem_of_getElem? hv')⟩
    obtain ⟨vs, rfl, n1, v1, c1⟩ := cell hx l1
    obtain ⟨us, rfl, n2, v2, c2⟩ := cell hy l2
    refine ⟨⟨cs, ds, c1, c2, he⟩, fun hr => ?_, ?_⟩
    · subst hr
      rw [eqC_same he n1 n2 v1 v2]
    · have := eqC_bits he n1 v1 9999
      simp only [Instr.sameBits, beq_self_eq_true, Bool.true_and, List.all_eq_true, List.toList_toArray]
      rintro ⟨p, q⟩ hpq
      obtain ⟨i, hi, e⟩ := List.getElem_of_mem hpq
      simp only [List.getElem_zip, Prod.mk.injEq] at e
      obtain ⟨rfl, rfl⟩ := e
      exact this _ (List.getElem_mem _)
  · obtain ⟨l1, l2⟩ := eqC_len he
    have l1 : ks.length = 1 := by simpa using l1.symm
    match ks, l1 with
    | [k], _ =>
      have he1 : eq1 k a b = some r := by
        simp only [eqC] at he
        split at he
        · rename_i u v q1 q2
          simp only [Option.some.injEq] at q2 he
          subst q2 he
          rw [q1]; simp
        · cases he
      have he2 : ∃ r', eq1 k b a = some r' := by
        unfold eq1 at he1
        split at he1
        · split at he1
          · rename_i e; subst e; exact ⟨_, by simp [eq1]; rfl⟩
          · cases he1
        · exact ⟨_, rfl⟩
        · exact ⟨_, rfl⟩
        · cases he1
      obtain ⟨r', he2⟩ := he2
      obtain ⟨b1, b2, b3⟩ := eq1_bits he1 hx 10000
      obtain ⟨d1, d2, d3⟩ := eq1_bits he2 hy 10000
      have form : ∀ {z : Value}, (∀ xs, z ≠ .agg xs) → ((∃ xs, z = .agg xs) ↔ ∃ d, P.underlying kt = some d ∧ isAggD d = true) := by
        intro z hz
        constructor
        · rintro ⟨xs, rfl⟩; exact absurd rfl (hz xs)
        · rintro ⟨d', e1, e2⟩
          rw [hd] at e1; cases e1
          rw [hag] at e2; cases e2
      have one : ∀ {z : Value} {c : AV} {k : Kd} {c' : AV} {t : Bool}, VR W U z c → eq1 k c c' = some t → z.cells = #[z] → (∀ xs, z ≠ .agg xs) → CellsR P W U kt z [c] := by
        intro z c k c' t hz ht hc hna
        refine ⟨by simpa using kl, by rw [hc]; rfl, fun j v u hv hu => ?_, form hna⟩
        rw [hc] at hv
        cases j with
        | zero =>
          simp at hv hu
          subst hv hu
          refine ⟨hz, ?_⟩
          unfold eq1 at ht
          split at ht
          · rw [hz.int_inv]; rfl
          · rw [hz.bool_inv]; rfl
          · rw [hz.str_inv]; rfl
          · cases ht
        | succ j => simp at hv
      refine ⟨⟨[a], [b], one hx he1 b2 b3, one hy he2 d2 d3, he⟩, fun hr => ?_, b1⟩
      subst hr
      exact eq1_same he1 hx hy
  · cases he
theorem chain_each {n : Nat} : ∀ (fs : List Field) (a tot : Nat) (ks : List Kd), chainS P a fs = some tot → kindsF (kindsT P n) fs = some ks → ∀ f ∈ fs, f.name ≠ "_" ∧ (P.info? f.type).isSome = true ∧ f.offset + sizeT P f.type ≤ tot ∧ ∃ kf, kindsT P n f.type = some kf
  | [], _, _, _, _, _, f, hf => by cases hf
  | g :: fs, a, tot, ks, hc, hk, f, hf => by
    have hge : ∀ (l : List Field) (a t : Nat), chainS P a l = some t → a ≤ t := by
      intro l
      induction l with
      | nil => intro a t h; simp [chainS] at h; omega
      | cons g l ih2 =>
        intro a t h
        simp only [chainS] at h
        split at h
        · have := ih2 _ _ h; omega
        · cases h
    simp only [chainS] at hc
    split at hc
    · rename_i hcond
      obtain ⟨h1, h2, h3⟩ := hcond
      simp only [kindsF] at hk
      split at hk
      · rename_i k1 k2 e1 e2
        rcases List.mem_cons.1 hf with rfl | hf
        · exact ⟨h2, h3, by have := hge _ _ _ hc; omega, _, e1⟩
        · exact chain_each fs _ tot _ hc e2 f hf
      · cases hk
    · cases hc
theorem checkKey_sound (em : Bool) : ∀ (n d : Nat), n ≤ d → ∀ (t : TypeId) (x : Value) (ks : List Kd) (cs : List AV), kindsT P n t = some ks → CellsR P W U t x cs → (Instr.checkKey em d t x).run P W = .ok () W
  | 0, d, _, t, x, ks, cs, ht, _ => by simp [kindsT] at ht
  | n + 1, 0, hd, t, x, ks, cs, ht, hx => by omega
  | n + 1, d + 1, hd, t, x, ks, cs, ht, hx => by
    have ih := fun t x ks cs => checkKey_sound em n d (by omega) t x ks cs
    unfold kindsT at ht
    unfold Instr.checkKey
    split at ht
    · rename_i hu; simp [run_underlying hu]
    · rename_i kk hu; simp [run_underlying hu]
    · rename_i hu; simp [run_underlying hu]
    · rename_i fs hu
      split at ht
      · rename_i hc
        obtain ⟨xs, rfl⟩ := hx.form.2 ⟨_, hu, rfl⟩
        have each := chain_each fs.toList 0 _ ks hc.2 ht
        simp only [Sem.run_bind, run_underlying hu, Result.andThen_ok]
        rw [← Array.forIn_toList]
        generalize fs.toList = L at each
        induction L with
        | nil => simp
        | cons f L ihL =>
          obtain ⟨e1, e2, e3, kf, e4⟩ := each f (by simp)
          obtain ⟨v, p1, p2⟩ := part_sound (zs := xs) e4 e2 (off := f.offset) (by rw [hx.len]; exact e3) hx.size hx.vr
          have p3 := ih f.type v kf _ e4 p2
          simp only [List.forIn_cons, Sem.run_bind, e1, ne_eq, not_false_eq_true, if_true, Result.andThen_ok, p1, p3, Sem.run_pure]
          simpa using ihL (fun y hy => each y (by simp [hy]))
      · cases ht
    · rename_i m e hu
      split at ht
      · rename_i hc
        simp only [Option.map_eq_some_iff] at ht
        obtain ⟨k, hk, rfl⟩ := ht
        obtain ⟨xs, rfl⟩ := hx.form.2 ⟨_, hu, rfl⟩
        obtain ⟨inf, hinf⟩ := Option.isSome_iff_exists.1 hc.2
        simp only [Sem.run_bind, run_underlying hu, Result.andThen_ok]
        simp only [Std.Legacy.Range.forIn_eq_forIn_range', Std.Legacy.Range.size, Nat.sub_zero, Nat.add_one_sub_one, Nat.div_one]
        have each : ∀ j ∈ List.range' 0 m, (j + 1) * sizeT P e ≤ cs.length := fun j hj => by
          rw [List.mem_range'_1] at hj
          rw [hx.len, hc.1]
          exact Nat.mul_le_mul_right _ (by omega)
        generalize List.range' 0 m = L at each
        induction L with
        | nil => simp
        | cons j L ihL =>
          have hj := each j (by simp)
          obtain ⟨v, p1, p2⟩ := part_sound (zs := xs) hk hc.2 (off := j * sizeT P e) (by rw [Nat.add_mul, Nat.one_mul] at hj; exact hj) hx.size hx.vr
          have p3 := ih e v k _ hk p2
          have hce : P.cellsOf e = sizeT P e := rfl
          simp only [List.forIn_cons, Sem.run_bind, run_sizeOf W hinf, hce, Result.andThen_ok, p1, p3, Sem.run_pure]
          simpa using ihL (fun y hy => each y (by simp [hy]))
      · cases ht
    · cases ht
theorem same_now {kt : TypeId} {ks : List Kd} {ag : Bool} {x y : Value} {a b : AV} {r : Bool} {d : TypeDesc} (hk : keyB P kt = some (ks, ag)) (hd : P.underlying kt = some d) (hx : VR W U x a) (hy : VR W U y b) (he : keyEq ks ag a b = some r) :
    Instr.sameNow d x y = none ∨ Instr.sameNow d x y = some r := by
  obtain ⟨d', hd', hag, hks⟩ := keyB_cases hk
  rw [hd] at hd'; cases hd'
  unfold keyEq at he
  split at he
  · cases hx
    left
    cases d <;> simp [Instr.sameNow]
  · obtain ⟨l1, _⟩ := eqC_len he
    have l1 : ks.length = 1 := by simpa using l1.symm
    match ks, l1 with
    | [k], _ =>
      have he1 : eq1 k a b = some r := by
        simp only [eqC] at he
        split at he
        · rename_i u v q1 q2
          simp only [Option.some.injEq] at q2 he
          subst q2 he
          rw [q1]; simp
        · cases he
      unfold eq1 at he1
      split at he1
      · rw [hx.int_inv, hy.int_inv]
        cases d <;> first | (left; rfl) | skip
        right
        split at he1
        · rename_i e
          simp only [Instr.sameNow, if_pos e]
          rw [← he1]; rfl
        · cases he1
      · rw [hx.bool_inv, hy.bool_inv]
        cases d <;> first | (left; rfl) | skip
        right
        simp only [Instr.sameNow]
        rw [← he1, beq_bool]
      · rw [hx.str_inv, hy.str_inv]
        cases d <;> first | (left; rfl) | skip
        right
        simp only [Instr.sameNow]
        rw [← he1]
        congr 1
        rw [beq_toListBytes, toList_str, toList_str, beq_str]
      · cases he1
  · cases he
theorem find_sound {kt : TypeId} {ks : List Kd} {ag : Bool} (hk : keyB P kt = some (ks, ag)) {d : TypeDesc} (hd : P.underlying kt = some d) {x : Value} {a : AV} (hx : VR W U x a) : ∀ (es : List MapEntry) (kl : List AV) (i : Nat) (f : Option Nat), es.length = kl.length →
    (∀ (j : Nat) (e : MapEntry) (c : AV), es[j]? = some e → kl[j]? = some c → VR W U e.key c) → findK ks ag a kl i = some f →
    (Instr.findNow d x es i = none ∨ Instr.findNow d x es i = some (f.map fun j => (j, (es.getD (j - i) default).val))) ∧ (Instr.findAsking kt x es i).run P W = .ok (f.map fun j => (j, (es.getD (j - i) default).val)) W ∧
      ∀ j, f = some j → i ≤ j ∧ j - i < es.length ∧ (es.getD (j - i) default).key = x ∧ Instr.sameBits 10000 x x = true
  | [], [], i, f, _, _, hf => by
    simp only [findK, Option.some.injEq] at hf
    subst hf
    exact ⟨.inr rfl, by simp [Instr.findAsking], fun j hj => by cases hj⟩
  | e :: es, c :: kl, i, f, hl, hv, hf => by
    have hc := hv 0 e c rfl rfl
    simp only [findK] at hf
    split at hf
    · rename_i he
      simp only [Option.some.injEq] at hf
      subst hf
      obtain ⟨⟨cs, ds, c1, c2, c3⟩, hsame, hb⟩ := key_cells hk hx hc he
      obtain ⟨_, _, _, hks⟩ := keyB_cases hk
      have hrun := equalIn_sound 8 10000 (by omega) kt _ _ ks cs ds true hks c1 c2 c3
      refine ⟨?_, ?_, fun j hj => ?_⟩
      · rcases same_now hk hd hx hc he with h1 | h1
        · exact .inl (by simp only [Instr.findNow, h1])
        · exact .inr (by simp only [Instr.findNow, h1]; simp)
      · simp only [Instr.findAsking, show Op.equal kt x e.key = Op.equalIn 10000 kt x e.key from rfl, Sem.run_bind, hrun]
        simp
      · cases hj
        exact ⟨Nat.le_refl _, by simp, by simpa using (hsame rfl).symm, hb⟩
    · rename_i he
      obtain ⟨⟨cs, ds, c1, c2, c3⟩, hsame, hb⟩ := key_cells hk hx hc he
      obtain ⟨_, _, _, hks⟩ := keyB_cases hk
      have hrun := equalIn_sound 8 10000 (by omega) kt _ _ ks cs ds false hks c1 c2 c3
      obtain ⟨g1, g2, g3⟩ := find_sound hk hd hx es kl (i + 1) f (by simpa using hl) (fun j e c h1 h2 => hv (j + 1) e c (by simpa using h1) (by simpa using h2)) hf
      have hres : (f.map fun j => (j, ((e :: es).getD (j - i) default).val)) = f.map fun j => (j, (es.getD (j - (i + 1)) default).val) := by
        cases f with
        | none => rfl
        | some j =>
          have := (g3 j rfl).1
          have e1 : j - i = (j - (i + 1)) + 1 := by omega
          simp only [Option.map_some, e1, List.getD_cons_succ]
      rw [hres]
      refine ⟨?_, ?_, fun j hj => ?_⟩
      · rcases same_now hk hd hx hc he with h1 | h1
        · exact .inl (by simp only [Instr.findNow, h1])
        · simp only [Instr.findNow, h1]
          exact g1
      · simp only [Instr.findAsking, show Op.equal kt x e.key = Op.equalIn 10000 kt x e.key from rfl, Sem.run_bind, hrun]
        simpa using g2
      · obtain ⟨q1, q2, q3, q4⟩ := g3 j hj
        have e1 : j - i = (j - (i + 1)) + 1 := by omega
        refine ⟨by omega, by simp; omega, ?_, q4⟩
        rw [e1, List.getD_cons_succ]; exact q3
    · cases hf
  | [], _ :: _, _, _, h, _, _ => by simp at h
  | _ :: _, [], _, _, h, _, _ => by simp at h
theorem findKey_sound {kt : TypeId} {ks : List Kd} {ag : Bool} (hk : keyB P kt = some (ks, ag)) {x : Value} {a : AV} (hx : VR W U x a) {es : List MapEntry} {kl : List AV} {f : Option Nat} (hl : es.length = kl.length)
    (hv : ∀ (j : Nat) (e : MapEntry) (c : AV), es[j]? = some e → kl[j]? = some c → VR W U e.key c) (hf : findK ks ag a kl 0 = some f) :
    (Instr.findKey kt x es).run P W = .ok (f.map fun j => (j, (es.getD j default).val)) W ∧ ∀ j, f = some j → j < es.length ∧ (es.getD j default).key = x ∧ (Instr.keyThatStays (es.getD j default).key x).run P W = .ok x W := by
  obtain ⟨d, hd, _, _⟩ := keyB_cases hk
  obtain ⟨h1, h2, h3⟩ := find_sound hk hd hx es kl 0 f hl hv hf
  simp only [Nat.sub_zero] at h1 h2 h3
  refine ⟨?_, fun j hj => ?_⟩
  · simp only [Instr.findKey, Sem.run_bind, run_underlying hd, Result.andThen_ok]
    rcases h1 with h1 | h1
    · rw [h1]; exact h2
    · rw [h1]; simp
  · obtain ⟨_, q2, q3, q4⟩ := h3 j hj
    refine ⟨q2, q3, ?_⟩
    rw [q3]
    simp [Instr.keyThatStays, q4]
end
end Go.Proofs.YtmmmbmljompamaaGreatDoor

namespace Go.Proofs.YtmmmbmljompamaaGreatDoor
set_option linter.all false
open Go.RowKit

def setB (W : World) (b : Nat) (x : Obj) : World := { W with heap := W.heap.setIfInBounds b x }
theorem setB_same {W : World} {b : Nat} (x : Obj) (h : b < W.heap.size) : (setB W b x).heap[b]? = some x := by simp [setB, h]
theorem setB_other {W : World} {b b' : Nat} (x : Obj) (h : b' ≠ b) : (setB W b x).heap[b']? = W.heap[b']? := by simp [setB, Array.getElem?_setIfInBounds, Ne.symm h]
theorem cellsAt_of_cell {W : World} {b o : Nat} {v : Value} (h : W.cell? ⟨b, o, none⟩ = some v) : CellsAt W b := by
  unfold World.cell? at h
  split at h
  · rename_i cs ty fr e; exact ⟨cs, ty, fr, e⟩
  · cases h
section
variable {P : Program} {N : Nat} {W0 : World} {U0 : Nat → Nat → Prop} {M : Nat → Prop} {a : Act} {W : World} {U : Nat → Nat → Prop} {s : St} {o : Oper} {r : AV}
theorem setB_keeps {b : Nat} (x : Obj) (hm : ¬ CellsAt W b) (hU : U b 0) : Keeps W U (setB W b x) U := by
  refine ⟨fun b' o' v hc hu => ?_, fun b' ty' hb' => ?_, fun b' es clk e hu => ⟨(setB_other x (by rintro rfl; exact hu hU)).trans e, hu⟩⟩
  · have hne : b' ≠ b := by rintro rfl; exact hm (cellsAt_of_cell hc)
    refine ⟨?_, hu⟩
    rw [World.cell?_of_block (w := W) (a := ⟨b', o', none⟩) (setB_other x hne)]
    exact hc
  · obtain ⟨c1, c3, c4⟩ := hb'
    have hne : b' ≠ b := by rintro rfl; exact hm ⟨_, _, _, c4⟩
    exact ⟨c1, c3, (setB_other x hne).trans c4⟩
theorem Inv.setm (h : Inv N W0 U0 M a W U s) {b : Nat} {cs cs' : List AV} (hb : s.o b = some cs) (hnc : ¬ CellsAt W b) {x : Obj} (hR : ObR (setB W b x) U b cs') (hno : ∀ (j e sz : Nat) (els : List (List AV)), cs'[j]? ≠ some (.sl (some e) sz els)) :
    Inv N W0 U0 M a (setB W b x) U { s with o := upd s.o b (some cs') } := by
  obtain ⟨q1, q4, q5⟩ := h.ob b cs hb
  have hK : Keeps W U (setB W b x) U := setB_keeps x hnc (q4 0)
  have hcat : ∀ {ℓ : Loc} {e sz : Nat} {els : List (List AV)}, St.at { s with o := upd s.o b (some cs') } ℓ = some (.sl (some e) sz els) → s.at ℓ = some (.sl (some e) sz els) ∧ cat a (setB W b x) ℓ = cat a W ℓ := by
    intro ℓ e sz els hl0
    cases ℓ with
    | t i => exact ⟨hl0, rfl⟩
    | o b' j =>
      simp only [St.at, upd] at hl0
      by_cases hbb : b' = b
      · subst hbb
        simp only [if_true, Option.bind_some] at hl0
        exact absurd hl0 (hno j e sz els)
      · rw [if_neg hbb] at hl0
        refine ⟨hl0, ?_⟩
        simp only [cat, setB_other x hbb]
  refine ⟨h.sz, h.df, ?_, fun i v hv' => (h.tv i v hv').keep hK, ?_, ?_, ?_, ?_⟩
  · exact {
      os := h.fr.os
      tape := h.fr.tape
      output := h.fr.output
      size := by simpa [setB] using h.fr.size
      block := fun k hk hm => by
        have hne : k ≠ b := by rintro rfl; rcases q5 with q5 | q5; omega; exact hm q5
        rw [setB_other x hne]
        exact h.fr.block k hk hm
      u := h.fr.u
      keeps := h.fr.keeps.trans hK
      g0 := h.fr.g0
      gm := h.fr.gm }
  · intro b' cs0 hb'
    simp only [upd] at hb'
    by_cases hbb : b' = b
    · subst hbb
      simp only [if_true, Option.some.injEq] at hb'
      subst hb'
      exact ⟨hR, q4, q5⟩
    · rw [if_neg hbb] at hb'
      obtain ⟨g1, g4, g5⟩ := h.ob b' cs0 hb'
      exact ⟨g1.move hK (setB_other x hbb), g4, g5⟩
  · intro ℓ v hv'
    unfold Own1
    split
    · rename_i e sz els
      obtain ⟨g1, g2⟩ := hcat hv'
      rw [g2]
      have := h.ow ℓ _ g1
      simp only [Own1] at this
      rcases this with this | ⟨g, cap, cur, p1, p2, p3, p4⟩
      · exact .inl this
      · have hne : g ≠ b := by
          rintro rfl
          have := h.no ℓ e sz els g1 g (by rw [p1]; rfl)
          rw [hb] at this
          cases this
        exact .inr ⟨g, cap, cur, p1, p2, p3.move (setB_other x hne), p4⟩
    · trivial
  · intro ℓ ℓ' e sz els e' sz' els' hne h1 h2
    obtain ⟨g1, g2⟩ := hcat h1
    obtain ⟨g3, g4⟩ := hcat h2
    rw [g2, g4]
    exact h.ap ℓ ℓ' _ _ _ _ _ _ hne g1 g3
  · intro ℓ e sz els h1 g hg
    obtain ⟨g1, g2⟩ := hcat h1
    rw [g2] at hg
    have h3 := h.no ℓ e sz els g1 g hg
    simp only [upd]
    by_cases hgb : g = b
    · subst hgb
      rw [hb] at h3
      cases h3
    · rw [if_neg hgb]
      exact h3
theorem Inv.newm (h : Inv N W0 U0 M a W U s) {x : Obj} {cs : List AV} (hR : ObR (W.alloc x) (fun k i => if k = W.heap.size then True else U k i) W.heap.size cs) (hno : ∀ (j e sz : Nat) (els : List (List AV)), cs[j]? ≠ some (.sl (some e) sz els)) :
    Inv N W0 U0 M a (W.alloc x) (fun k i => if k = W.heap.size then True else U k i) { s with o := upd s.o W.heap.size (some cs) } := by
  have hE := Ext.alloc W U x (fun _ => True)
  have h1 := h.ext hE
  have hnone : s.o W.heap.size = none := by
    cases hs : s.o W.heap.size with
    | none => rfl
    | some c => have := h.ob_lt _ _ hs; omega
  have hat : ∀ {ℓ : Loc} {e sz : Nat} {els : List (List AV)}, St.at { s with o := upd s.o W.heap.size (some cs) } ℓ = some (.sl (some e) sz els) → s.at ℓ = some (.sl (some e) sz els) := by
    intro ℓ e sz els hl'
    cases ℓ with
    | t i => exact hl'
    | o b j =>
      simp only [St.at, upd] at hl'
      by_cases hb : b = W.heap.size
      · subst hb
        simp only [if_true, Option.bind_some] at hl'
        exact absurd hl' (hno j e sz els)
      · rw [if_neg hb] at hl'
        exact hl'
  refine ⟨h1.sz, h1.df, h1.fr, h1.tv, ?_, ?_, ?_, ?_⟩
  · intro b cs0 hb
    simp only [upd] at hb
    by_cases hbb : b = W.heap.size
    · subst hbb
      simp only [if_true, Option.some.injEq] at hb
      subst hb
      exact ⟨hR, fun o => by simp, .inl h.fr.size⟩
    · rw [if_neg hbb] at hb
      exact h1.ob b cs0 hb
  · intro ℓ v hv'
    unfold Own1
    split
    · exact h1.ow ℓ _ (hat hv')
    · trivial
  · intro ℓ ℓ' e sz els e' sz' els' hne h2 h3
    exact h1.ap ℓ ℓ' _ _ _ _ _ _ hne (hat h2) (hat h3)
  · intro ℓ e sz els h2 g hg
    have hs := hat h2
    have := h1.no ℓ e sz els hs g hg
    simp only [upd]
    by_cases hgb : g = W.heap.size
    · exfalso
      rw [cat_ext hE.b h.ob_lt hs] at hg
      have h5 := h.ow ℓ _ hs
      simp only [Own1] at h5
      have := h5.lt hg
      omega
    · rw [if_neg hgb]
      exact this
theorem Inv.mapR (h : Inv N W0 U0 M a W U s) {b : Nat} {kl vl : List AV} {bs : List Nat} {clk : Nat} (hb : s.o b = some [.mp kl vl bs clk]) :
    (∃ es : Array MapEntry, W.heap[b]? = some (.map es clk) ∧ es.size = kl.length ∧ vl.length = kl.length ∧ bs.length = kl.length ∧ bs.Pairwise (· < ·) ∧ (∀ x ∈ bs, x < clk) ∧
      ∀ (i : Nat) (e : MapEntry), es[i]? = some e → (∀ k, kl[i]? = some k → VR W U e.key k) ∧ (∀ v, vl[i]? = some v → VR W U e.val v) ∧ ∀ n, bs[i]? = some n → e.born = n) ∧ ¬ CellsAt W b := by
  obtain ⟨h1, _, _⟩ := h.ob b _ hb
  obtain ⟨es, h2, h3⟩ := h1
  refine ⟨⟨es, h2, h3⟩, ?_⟩
  rintro ⟨c1, c2, c3, c4⟩
  rw [h2] at c4; cases c4
theorem Inv.mapv (h : Inv N W0 U0 M a W U s) {m : Operand} {X : Opd} {b : Nat} (hm : cOpd m = some X) (hx : X.ev s = some (.mapv b)) : a.eval m = .map (some b) := by
  have := cOpd_sound h hm hx
  generalize a.eval m = v at this
  cases this; rfl
theorem zeroAV_sound {e : TypeId} {z : AV} (hz : zeroAV P e = some z) : ∃ zv, (zeroValue e).run P W = .ok zv W ∧ VR W U zv z ∧ z.alias = z := by
  unfold zeroAV at hz
  have run : ∀ {v : Value}, (P.info? e).bind (·.zero) = some v → (zeroValue e).run P W = .ok v W := by
    intro v hv
    simp only [Option.bind_eq_some_iff] at hv
    obtain ⟨i, h1, h2⟩ := hv
    simp [zeroValue, typeInfo, h1, h2]
  split at hz
  · rename_i xs z' h1 h2
    simp only [Option.some.injEq] at hz
    subst hz
    obtain ⟨i, zv, g1, g2, g3⟩ := zeroOf_spec h2
    rw [g1, Option.bind_some, g2] at h1
    cases h1
    obtain ⟨q1, q2⟩ := zVRs_get g3
    refine ⟨_, run (by rw [g1, Option.bind_some, g2]), ?_, rfl⟩
    have : (Value.agg xs) = .agg xs.toList.toArray := by simp
    rw [this]
    refine .agg _ _ (by simpa [Value.cells] using q1) (fun j v c hv hc => ?_) (fun v hv => ?_)
    · rw [List.getElem?_map, Option.map_eq_some_iff] at hc
      obtain ⟨c', hc, rfl⟩ := hc
      exact (zVR_sound (q2 j v c' (by simpa [Value.cells] using hv) hc) W U).1.alias
    · obtain ⟨j, hj⟩ := List.mem_iff_getElem?.1 hv
      have hlt : j < z'.length := by
        have := (List.getElem?_eq_some_iff.1 hj).1
        simp [Value.cells] at q1
        simp at this; omega
      exact (zVR_sound (q2 j v _ (by simpa [Value.cells] using hj) (List.getElem?_eq_getElem hlt)) W U).2.1
  · rename_i v c _ h1 h2
    split at hz
    · rename_i ho
      simp only [Option.some.injEq] at hz
      subst hz
      obtain ⟨i, zv, g1, g2, g3⟩ := zeroOf_spec h2
      rw [g1, Option.bind_some, g2] at h1
      cases h1
      have hc : v.cells = #[v] := by
        revert ho
        cases v <;> simp [Value.oneCell', Value.cells]
      obtain ⟨q1, q2⟩ := zVRs_get g3
      rw [hc] at q2
      refine ⟨v, run (by rw [g1, Option.bind_some, g2]), (zVR_sound (q2 0 v c rfl rfl) W U).1.alias, ?_⟩
      cases c <;> rfl
    · cases hz
  · cases hz
theorem getD_get {α : Type} {l : List α} {i : Nat} {d : α} (h : i < l.length) : l[i]? = some (l.getD i d) := by
  rw [List.getElem?_eq_getElem h, List.getD, List.getElem?_eq_getElem h]; rfl
theorem arr_getD {es : Array MapEntry} {i : Nat} (h : i < es.size) : es[i]? = some (es.toList.getD i default) := by
  rw [← Array.getElem?_toList]; exact getD_get (by simpa using h)
theorem VR.tup2 {v u : Value} {c d : AV} (h1 : VR W U v c) (h2 : VR W U u d) : VR W U (.tuple #[v, u]) (.tup [c, d]) := by
  have : (Value.tuple #[v, u]) = .tuple [v, u].toArray := rfl
  rw [this]
  refine .tup _ _ rfl fun i x y hx hy => ?_
  match i with
  | 0 => simp at hx hy; subst hx hy; exact h1
  | 1 => simp at hx hy; subst hx hy; exact h2
  | i + 2 => simp at hx
theorem findM_sound {kt : TypeId} {ks : List Kd} {ag : Bool} (hk : keyB P kt = some (ks, ag)) {x : Value} {a : AV} (hx : VR W U x a) {es : List MapEntry} {kl : List AV} {f : Option Nat} (hl : es.length = kl.length)
    (hv : ∀ (j : Nat) (e : MapEntry) (c : AV), es[j]? = some e → kl[j]? = some c → VR W U e.key c) (hf : findM ks ag a kl = some f) :
    (∀ em, (Instr.checkKey em 10000 kt x).run P W = .ok () W) ∧ (Instr.findKey kt x es).run P W = .ok (f.map fun j => (j, (es.getD j default).val)) W ∧ ∀ j, f = some j → j < es.length ∧ (es.getD j default).key = x ∧ (Instr.keyThatStays (es.getD j default).key x).run P W = .ok x W := by
  simp only [findM, Option.bind_eq_some_iff] at hf
  obtain ⟨r, h1, h2⟩ := hf
  obtain ⟨⟨cs, ds, c1, _⟩, _⟩ := key_cells hk hx hx h1
  obtain ⟨_, _, _, hks⟩ := keyB_cases hk
  exact ⟨fun em => checkKey_sound em 8 10000 (by omega) kt x ks cs hks c1, findKey_sound hk hx hl hv h2⟩
theorem s_mq (h : Inv N W0 U0 M a W U s) {t k e : TypeId} {m x : Operand} {ok ag : Bool} {ks : List Kd} {z : AV} {X Y : Opd} (ho : o.op = .lookup t m x ok) (ht : P.underlying t = some (.map k e)) (hm : cOpd m = some X) (hx : cOpd x = some Y) (hk : keyB P k = some (ks, ag)) (hz : zeroAV P e = some z)
    (hr : opR P s (.mq z ok ks ag X Y) r) : VOK P a o W U r := by
  obtain ⟨p, q, hp, hq, hr⟩ := hr
  have hkx := cOpd_sound h hx hq
  obtain ⟨zv, z1, z2, z3⟩ := zeroAV_sound (W := W) (U := U) hz
  obtain ⟨b, es, clk, kl, vl, f, hmv, g1, g2, g3, hkey, hval, hf, rfl⟩ | ⟨hmv, hf, rfl⟩ : (∃ (b : Nat) (es : Array MapEntry) (clk : Nat) (kl vl : List AV) (f : Option Nat), a.eval m = .map (some b) ∧ W.heap[b]? = some (.map es clk) ∧ es.size = kl.length ∧ vl.length = kl.length ∧
      (∀ (j : Nat) (en : MapEntry) (c : AV), es.toList[j]? = some en → kl[j]? = some c → VR W U en.key c) ∧ (∀ (j : Nat) (en : MapEntry) (c : AV), es[j]? = some en → vl[j]? = some c → VR W U en.val c) ∧ findM ks ag q kl = some f ∧
      r = (match f with
        | some i => if ok then .tup [vl.getD i .undef, .bool true] else (vl.getD i .undef).alias
        | none => if ok then .tup [z, .bool false] else z.alias)) ∨ (a.eval m = .map none ∧ findM ks ag q [] = some none ∧ r = (if ok then .tup [z, .bool false] else z.alias)) := by
    cases p <;> try exact hr.elim
    · obtain ⟨kl, vl, bs, clk, f, hb, hf, rfl⟩ := hr
      obtain ⟨⟨es, g1, g2, g3, g4, g5, g6, g7⟩, hnc⟩ := h.mapR hb
      exact .inl ⟨_, es, clk, kl, vl, f, h.mapv hm hp, g1, g2, g3, fun j en c h1 h2 => (g7 j en (by rw [← Array.getElem?_toList]; exact h1)).1 c h2, fun j en c h1 h2 => (g7 j en h1).2.1 c h2, hf, rfl⟩
    · obtain ⟨hf, rfl⟩ := hr
      refine .inr ⟨?_, hf, rfl⟩
      have := cOpd_sound h hm hp
      generalize a.eval m = v at this
      cases this; rfl
    · obtain ⟨f, hf, rfl⟩ := hr
      have := cOpd_sound h hm hp
      generalize a.eval m = v at this
      cases this with
      | rom b es clk _ _ hh hu h1 h2 hk hv => exact .inl ⟨b, es, clk, _, _, f, rfl, hh, h1, h2, fun j en c e1 e2 => hk j en c (by rw [← Array.getElem?_toList]; exact e1) e2, hv, hf, rfl⟩
  rotate_left
  · obtain ⟨hchk, r1, r2⟩ := findM_sound hk hkx (es := []) (kl := []) rfl (fun j en c h1 => by simp at h1) hf
    have hchk := hchk true
    have hrun : (execOp a.eval o).run P W = .ok (.value (if ok then .tuple #[zv, .bool false] else zv)) W := by
      simp only [execOp, ho, hmv]
      simp only [Option.map_none] at r1
      cases ok <;> simp [Instr.lookup, run_underlying ht, hchk, r1, z1, Result.andThen]
    cases ok with
    | true => exact VOK.same hrun (z2.tup2 (.bool false)) (by simp)
    | false => exact VOK.same hrun (by simpa [z3] using z2) (by intro e' sz els; rw [if_neg (by decide)]; exact alias_plain z e' sz els)
  obtain ⟨hchk, r1, r2⟩ := findM_sound hk hkx (es := es.toList) (by simpa using g2) hkey hf
  have hchk := hchk es.isEmpty
  have hrun : (execOp a.eval o).run P W = .ok (.value (match f with
      | some j => if ok then .tuple #[(es.toList.getD j default).val, .bool true] else (es.toList.getD j default).val
      | none => if ok then .tuple #[zv, .bool false] else zv)) W := by
    simp only [execOp, ho, hmv]
    cases f with
    | none => cases ok <;> simp [Instr.lookup, run_underlying ht, MapKept.run_getObj_map g1, hchk, r1, z1, Result.andThen]
    | some j => cases ok <;> simp [Instr.lookup, run_underlying ht, MapKept.run_getObj_map g1, hchk, r1, Result.andThen]
  cases f with
  | none =>
    cases ok with
    | true => exact VOK.same hrun (z2.tup2 (.bool false)) (by simp)
    | false => exact VOK.same hrun (by simpa [z3] using z2) (by intro e' sz els; rw [if_neg (by decide)]; exact alias_plain z e' sz els)
  | some j =>
    obtain ⟨q1, q2, _⟩ := r2 j rfl
    have hjl : j < vl.length := by simp at q1; omega
    have hv := hval j _ _ (arr_getD (by simpa using q1)) (getD_get (d := .undef) hjl)
    cases ok with
    | true => exact VOK.same hrun (hv.tup2 (.bool true)) (by simp)
    | false => exact VOK.same hrun hv.alias (fun e' sz els => alias_plain _ e' sz els)
end
end Go.Proofs.YtmmmbmljompamaaGreatDoor

namespace Go.Proofs.YtmmmbmljompamaaGreatDoor
set_option linter.all false
open Go.RowKit

section
variable {P : Program} {N : Nat} {W0 : World} {U0 : Nat → Nat → Prop} {M : Nat → Prop} {a : Act} {W W' : World} {U : Nat → Nat → Prop} {s : St} {o : Oper} {r : AV}
theorem muS_some {q : Nat} {z : AV} {ks : List Kd} {ag : Bool} {m k v : Opd} {b : Nat} {cs : List AV} (h : muS s q z ks ag m k v = some (b, r, cs)) :
    ∃ kv vv kl vl bs clk, m.ev s = some (.mapv b) ∧ k.ev s = some kv ∧ v.ev s = some vv ∧ s.o b = some [.mp kl vl bs clk] ∧ muF q z ks ag kv vv [.mp kl vl bs clk] = some (r, cs) := by
  unfold muS at h
  split at h
  · rename_i b' kv vv h1 h2 h3
    simp only [Option.bind_eq_some_iff, Option.map_eq_some_iff, Prod.mk.injEq] at h
    obtain ⟨cs0, h4, x, h5, rfl, rfl, rfl⟩ := h
    have : ∃ kl vl bs clk, cs0 = [.mp kl vl bs clk] := by
      unfold muF at h5
      split at h5
      · exact ⟨_, _, _, _, rfl⟩
      · cases h5
    obtain ⟨kl, vl, bs, clk, rfl⟩ := this
    exact ⟨kv, vv, kl, vl, bs, clk, h1, h2, h3, h4, h5⟩
  · cases h
structure MpR (W : World) (U : Nat → Nat → Prop) (es : Array MapEntry) (kl vl : List AV) (bs : List Nat) (clk : Nat) : Prop where
  g2 : es.size = kl.length
  g3 : vl.length = kl.length
  g4 : bs.length = kl.length
  g5 : bs.Pairwise (· < ·)
  g6 : ∀ x ∈ bs, x < clk
  g7 : ∀ (i : Nat) (e : MapEntry), es[i]? = some e → (∀ k, kl[i]? = some k → VR W U e.key k) ∧ (∀ v, vl[i]? = some v → VR W U e.val v) ∧ ∀ n, bs[i]? = some n → e.born = n
theorem MpR.ob {es : Array MapEntry} {kl vl : List AV} {bs : List Nat} {clk b : Nat} (h : MpR W U es kl vl bs clk) (hk : Keeps W U W' U) (hb : W'.heap[b]? = some (.map es clk)) : ObR W' U b [.mp kl vl bs clk] :=
  ⟨es, hb, h.g2, h.g3, h.g4, h.g5, h.g6, fun i e hi => let ⟨a, b, c⟩ := h.g7 i e hi; ⟨fun k hx => (a k hx).keep hk, fun v hx => (b v hx).keep hk, c⟩⟩
theorem MpR.push {es : Array MapEntry} {kl vl : List AV} {bs : List Nat} {clk : Nat} (h : MpR W U es kl vl bs clk) {x v : Value} {kv vv : AV} (hx : VR W U x kv) (hv : VR W U v vv) :
    MpR W U (es.push ⟨x, v, clk⟩) (kl ++ [kv]) (vl ++ [vv]) (bs ++ [clk]) (clk + 1) where
  g2 := by simp [h.g2]
  g3 := by simp [h.g3]
  g4 := by simp [h.g4]
  g5 := by
    rw [List.pairwise_append]
    exact ⟨h.g5, by simp, fun a ha b hb => by simp at hb; subst hb; exact h.g6 a ha⟩
  g6 := fun x hx => by
    rw [List.mem_append] at hx
    rcases hx with hx | hx
    · have := h.g6 x hx; omega
    · simp at hx; omega
  g7 := fun i e hi => by
    rw [Array.getElem?_push] at hi
    have e2 := h.g2
    have e3 := h.g3
    have e4 := h.g4
    split at hi
    · rename_i hi'
      cases hi
      refine ⟨fun k hk => ?_, fun w hw => ?_, fun n hn => ?_⟩
      · rw [hi', e2, List.getElem?_append_right (Nat.le_refl _)] at hk
        simp at hk; subst hk; exact hx
      · rw [hi', e2, ← e3, List.getElem?_append_right (Nat.le_refl _)] at hw
        simp at hw; subst hw; exact hv
      · rw [hi', e2, ← e4, List.getElem?_append_right (Nat.le_refl _)] at hn
        simp at hn; exact hn
    · have hlt : i < es.size := (Array.getElem?_eq_some_iff.1 hi).1
      obtain ⟨a1, a2, a3⟩ := h.g7 i e hi
      refine ⟨fun k hk => a1 k ?_, fun w hw => a2 w ?_, fun n hn => a3 n ?_⟩
      · rwa [List.getElem?_append_left (by omega)] at hk
      · rwa [List.getElem?_append_left (by omega)] at hw
      · rwa [List.getElem?_append_left (by omega)] at hn
theorem MpR.set {es es' : Array MapEntry} {kl vl : List AV} {bs : List Nat} {clk : Nat} (h : MpR W U es kl vl bs clk) {j : Nat} {v : Value} {vv : AV} (hv : VR W U v vv) (hsz : es'.size = es.size)
    (he : ∀ (i : Nat) (e' : MapEntry), es'[i]? = some e' → ∃ e, es[i]? = some e ∧ e'.key = e.key ∧ e'.born = e.born ∧ e'.val = if i = j then v else e.val) : MpR W U es' kl (vl.set j vv) bs clk where
  g2 := hsz.trans h.g2
  g3 := by simp [h.g3]
  g4 := h.g4
  g5 := h.g5
  g6 := h.g6
  g7 := fun i e' hi => by
    obtain ⟨e, h1, h2, h3, h4⟩ := he i e' hi
    obtain ⟨a1, a2, a3⟩ := h.g7 i e h1
    refine ⟨fun k hk => h2 ▸ a1 k hk, fun w hw => ?_, fun n hn => h3.trans (a3 n hn)⟩
    rw [List.getElem?_set] at hw
    by_cases hij : j = i
    · rw [if_pos hij] at hw
      split at hw
      · cases hw
        rw [h4, if_pos hij.symm]; exact hv
      · cases hw
    · rw [if_neg hij] at hw
      rw [h4, if_neg (Ne.symm hij)]; exact a2 w hw
theorem MpR.erase {es : Array MapEntry} {kl vl : List AV} {bs : List Nat} {clk : Nat} (h : MpR W U es kl vl bs clk) {j : Nat} (hj : j < es.size) : MpR W U (es.eraseIdxIfInBounds j) (kl.eraseIdx j) (vl.eraseIdx j) (bs.eraseIdx j) clk where
  g2 := by
    have := h.g2
    rw [Array.eraseIdxIfInBounds, dif_pos hj, Array.size_eraseIdx, List.length_eraseIdx, if_pos (by omega), this]
  g3 := by
    have := h.g2; have := h.g3
    rw [List.length_eraseIdx, if_pos (by omega), List.length_eraseIdx, if_pos (by omega)]; omega
  g4 := by
    have := h.g2; have := h.g4
    rw [List.length_eraseIdx, if_pos (by omega), List.length_eraseIdx, if_pos (by omega)]; omega
  g5 := h.g5.sublist (List.eraseIdx_sublist _ _)
  g6 := fun x hx => h.g6 x (List.mem_of_mem_eraseIdx hx)
  g7 := fun i e hi => by
    have hi' : (es.toList.eraseIdx j)[i]? = some e := by
      have : (es.eraseIdxIfInBounds j).toList = es.toList.eraseIdx j := by
        rw [Array.eraseIdxIfInBounds, dif_pos hj]; simp
      rw [← this, Array.getElem?_toList]; exact hi
    rw [List.getElem?_eraseIdx] at hi'
    simp only [List.getElem?_eraseIdx]
    split at hi'
    · rename_i hlt
      simp only [hlt, if_true]
      exact h.g7 i e (by rw [← Array.getElem?_toList]; exact hi')
    · rename_i hlt
      simp only [hlt, if_false]
      exact h.g7 (i + 1) e (by rw [← Array.getElem?_toList]; exact hi')
theorem Inv.mpR (h : Inv N W0 U0 M a W U s) {b : Nat} {kl vl : List AV} {bs : List Nat} {clk : Nat} (hb : s.o b = some [.mp kl vl bs clk]) : (∃ es : Array MapEntry, W.heap[b]? = some (.map es clk) ∧ MpR W U es kl vl bs clk) ∧ ¬ CellsAt W b := by
  obtain ⟨⟨es, g1, g2, g3, g4, g5, g6, g7⟩, hn⟩ := h.mapR hb
  exact ⟨⟨es, g1, g2, g3, g4, g5, g6, g7⟩, hn⟩
theorem no_own {x : AV} (hx : ∀ e sz els, x ≠ .sl (some e) sz els) : ∀ (j e sz : Nat) (els : List (List AV)), [x][j]? ≠ some (.sl (some e) sz els) := by
  intro j e sz els hj
  cases j with
  | zero => simp at hj; exact hx _ _ _ hj
  | succ j => simp at hj
theorem s_mu0 (h : Inv N W0 U0 M a W U s) {t k e : TypeId} {m x v : Operand} {ag : Bool} {ks : List Kd} {z : AV} {X Y V : Opd} (ho : o.op = .mapUpdate t m x v) (hod : o.dst = none) (ht : P.underlying t = some (.map k e)) (hm : cOpd m = some X) (hx : cOpd x = some Y) (hv : cOpd v = some V)
    (hk : keyB P k = some (ks, ag)) {b : Nat} {cs : List AV} (hr : muS s 0 z ks ag X Y V = some (b, r, cs)) {next : Act → World → Prop} {Q : Exit → Act → World → Prop}
    (hn : ∀ a' W' U', Inv N W0 U0 M a' W' U' { s with o := upd s.o b (some cs) } → next a' W') : o.wp P a W next Q := by
  obtain ⟨kv, vv, kl, vl, bs, clk, e1, e2, e3, e4, e5⟩ := muS_some hr
  obtain ⟨⟨es, g1, G⟩, hnc⟩ := h.mpR e4
  have hkx := cOpd_sound h hx e2
  have hvv := cOpd_sound h hv e3
  have hmv := h.mapv hm e1
  have hkey : ∀ (j : Nat) (en : MapEntry) (c : AV), es.toList[j]? = some en → kl[j]? = some c → VR W U en.key c := fun j en c h1 h2 => (G.g7 j en (by rw [← Array.getElem?_toList]; exact h1)).1 c h2
  simp only [muF, Option.map_eq_some_iff] at e5
  obtain ⟨f, hf, e6⟩ := e5
  obtain ⟨hchk, r1, r2⟩ := findM_sound hk hkx (es := es.toList) (by simpa using G.g2) hkey hf
  have hlt : b < W.heap.size := (Array.getElem?_eq_some_iff.1 g1).1
  cases f with
  | none =>
    simp only [Prod.mk.injEq] at e6
    obtain ⟨rfl, rfl⟩ := e6
    have hrun : (execOp a.eval o).run P W = .ok .skip (setB W b (.map (es.push ⟨a.eval x, a.eval v, clk⟩) (clk + 1))) := by
      simp only [execOp, ho, hmv]
      simp [Instr.mapUpdate, run_underlying ht, MapKept.run_getObj_map g1, hchk, r1, MapKept.run_setObj_map _ g1, Result.andThen, setB]
    unfold Oper.wp
    rw [hrun, Oper.upon_skip, hod]
    exact hn _ _ U (h.setm e4 hnc ((G.push hkx.alias hvv.alias).ob (setB_keeps _ hnc ((h.ob _ _ e4).2.1 0)) (setB_same _ hlt)) (no_own (by simp)))
  | some j =>
    simp only [Prod.mk.injEq] at e6
    obtain ⟨rfl, rfl⟩ := e6
    obtain ⟨q1, q2, q3⟩ := r2 j rfl
    have hj : j < es.size := by simpa using q1
    have hej := arr_getD hj
    have hrun : (execOp a.eval o).run P W = .ok .skip (setB W b (.map (es.modify j fun e => { e with key := a.eval x, val := a.eval v }) clk)) := by
      simp only [execOp, ho, hmv]
      simp [-List.getD_eq_getElem?_getD, Instr.mapUpdate, run_underlying ht, MapKept.run_getObj_map g1, hchk, r1, hej, q3, MapKept.run_setObj_map _ g1, Result.andThen, setB]
    unfold Oper.wp
    rw [hrun, Oper.upon_skip, hod]
    refine hn _ _ U (h.setm e4 hnc ((G.set (j := j) hvv.alias (by simp) (fun i e' hi => ?_)).ob (setB_keeps _ hnc ((h.ob _ _ e4).2.1 0)) (setB_same _ hlt)) (no_own (by simp)))
    rw [Array.getElem?_modify] at hi
    split at hi
    · rename_i hij
      subst hij
      rw [hej] at hi
      cases hi
      exact ⟨_, hej, q2.symm, rfl, by simp⟩
    · rename_i hij
      exact ⟨e', hi, rfl, rfl, by rw [if_neg (fun e => hij e.symm)]⟩
theorem s_mu1 (h : Inv N W0 U0 M a W U s) {t k e : TypeId} {m x : Operand} {ag : Bool} {ks : List Kd} {z : AV} {X Y V : Opd} {d : Option Nat} (ho : o.op = .mapEntry t m x) (hod : o.dst = d) (hd : ∀ j, d = some j → j < N) (ht : P.underlying t = some (.map k e)) (hm : cOpd m = some X) (hx : cOpd x = some Y)
    (hk : keyB P k = some (ks, ag)) (hz : zeroAV P e = some z) {b : Nat} {cs : List AV} (hr : muS s 1 z ks ag X Y V = some (b, r, cs)) {next : Act → World → Prop} {Q : Exit → Act → World → Prop}
    (hn : ∀ a' W' U', Inv N W0 U0 M a' W' U' (St.put { s with o := upd s.o b (some cs) } d r) → next a' W') : o.wp P a W next Q := by
  obtain ⟨kv, vv, kl, vl, bs, clk, e1, e2, e3, e4, e5⟩ := muS_some hr
  obtain ⟨⟨es, g1, G⟩, hnc⟩ := h.mpR e4
  have hkx := cOpd_sound h hx e2
  have hmv := h.mapv hm e1
  have hkey : ∀ (j : Nat) (en : MapEntry) (c : AV), es.toList[j]? = some en → kl[j]? = some c → VR W U en.key c := fun j en c h1 h2 => (G.g7 j en (by rw [← Array.getElem?_toList]; exact h1)).1 c h2
  simp only [muF, Option.map_eq_some_iff] at e5
  obtain ⟨f, hf, e6⟩ := e5
  obtain ⟨hchk, r1, r2⟩ := findM_sound hk hkx (es := es.toList) (by simpa using G.g2) hkey hf
  obtain ⟨zv, z1, z2, z3⟩ := zeroAV_sound (W := W) (U := U) hz
  have hlt : b < W.heap.size := (Array.getElem?_eq_some_iff.1 g1).1
  cases f with
  | none =>
    simp only [Prod.mk.injEq] at e6
    obtain ⟨rfl, rfl⟩ := e6
    have hrun : (execOp a.eval o).run P W = .ok (.value (.tuple #[zv, .int .i64 (clk : Nat)])) (setB W b (.map (es.push ⟨a.eval x, zv, clk⟩) (clk + 1))) := by
      simp only [execOp, ho, hmv]
      simp [Instr.mapEntry, run_underlying ht, MapKept.run_getObj_map g1, hchk, r1, z1, MapKept.run_setObj_map _ g1, Result.andThen, setB, goInt]
    unfold Oper.wp
    rw [hrun, Oper.upon_value, hod]
    have hK := setB_keeps (U := U) (.map (es.push ⟨a.eval x, zv, clk⟩) (clk + 1)) hnc ((h.ob _ _ e4).2.1 0)
    exact hn _ _ U ((h.setm e4 hnc ((G.push hkx.alias z2).ob hK (setB_same _ hlt)) (no_own (by simp))).putO hd ((z2.keep hK).tup2 (.int _ _)) fun j _ => Sole.plain (by simp))
  | some j =>
    simp only [Prod.mk.injEq] at e6
    obtain ⟨rfl, rfl⟩ := e6
    obtain ⟨q1, q2, q3⟩ := r2 j rfl
    have hj : j < es.size := by simpa using q1
    have hej := arr_getD hj
    have hjv : j < vl.length := by have := G.g2; have := G.g3; omega
    have hjb : j < bs.length := by have := G.g2; have := G.g4; omega
    obtain ⟨_, a2, a3⟩ := G.g7 j _ hej
    have hval := a2 _ (getD_get (d := .undef) hjv)
    have hborn := a3 _ (getD_get (d := 0) hjb)
    have hrun : (execOp a.eval o).run P W = .ok (.value (.tuple #[(es.toList.getD j default).val, .int .i64 (bs.getD j 0 : Nat)])) (setB W b (.map (es.modify j fun e => { e with key := a.eval x }) clk)) := by
      simp only [execOp, ho, hmv]
      simp [-List.getD_eq_getElem?_getD, Instr.mapEntry, run_underlying ht, MapKept.run_getObj_map g1, hchk, r1, hej, q3, MapKept.run_setObj_map _ g1, Result.andThen, setB, goInt, hborn]
    unfold Oper.wp
    rw [hrun, Oper.upon_value, hod]
    have hK := setB_keeps (U := U) (.map (es.modify j fun e => { e with key := a.eval x }) clk) hnc ((h.ob _ _ e4).2.1 0)
    have G' : MpR W U (es.modify j fun e => { e with key := a.eval x }) kl vl bs clk := by
      have := G.set (es' := es.modify j fun e => { e with key := a.eval x }) (j := j) (v := (es.toList.getD j default).val) (vv := vl.getD j .undef) hval (by simp) (fun i e' hi => ?_)
      · rwa [show vl.set j (vl.getD j .undef) = vl from by rw [List.getD, List.getElem?_eq_getElem hjv]; simp] at this
      · rw [Array.getElem?_modify] at hi
        split at hi
        · rename_i hij
          subst hij
          rw [hej] at hi
          cases hi
          exact ⟨_, hej, q2.symm, rfl, by simp⟩
        · rename_i hij
          exact ⟨e', hi, rfl, rfl, by rw [if_neg (fun e => hij e.symm)]⟩
    exact hn _ _ U ((h.setm e4 hnc (G'.ob hK (setB_same _ hlt)) (no_own (by simp))).putO hd ((hval.keep hK).tup2 (.int _ _)) fun j _ => Sole.plain (by simp))
theorem findB_spec {n : Int} : ∀ {bs : List Nat} {i j : Nat}, findB n bs i = some j → i ≤ j ∧ j - i < bs.length ∧ bs[j - i]? = some n.toNat ∧ (n.toNat : Int) = n
  | b :: r, i, j, h => by
    simp only [findB] at h
    split at h
    · rename_i e
      cases h
      subst e
      exact ⟨Nat.le_refl _, by simp, by simp, by simp⟩
    · obtain ⟨h1, h2, h3, h4⟩ := findB_spec h
      have e1 : j - i = (j - (i + 1)) + 1 := by omega
      exact ⟨by omega, by simp; omega, by rw [e1]; simpa using h3, h4⟩
theorem s_mu2 (h : Inv N W0 U0 M a W U s) {t : TypeId} {m x v : Operand} {X Y V : Opd} (ho : o.op = .entryStore t m x v) (hod : o.dst = none) (hm : cOpd m = some X) (hx : cOpd x = some Y) (hv : cOpd v = some V) {z : AV} {ks : List Kd} {ag : Bool}
    {b : Nat} {cs : List AV} (hr : muS s 2 z ks ag X Y V = some (b, r, cs)) {next : Act → World → Prop} {Q : Exit → Act → World → Prop}
    (hn : ∀ a' W' U', Inv N W0 U0 M a' W' U' { s with o := upd s.o b (some cs) } → next a' W') : o.wp P a W next Q := by
  obtain ⟨kv, vv, kl, vl, bs, clk, e1, e2, e3, e4, e5⟩ := muS_some hr
  obtain ⟨⟨es, g1, G⟩, hnc⟩ := h.mpR e4
  have hkx := cOpd_sound h hx e2
  have hvv := cOpd_sound h hv e3
  have hmv := h.mapv hm e1
  simp only [muF] at e5
  split at e5
  · rename_i n
    simp only [Option.map_eq_some_iff, Prod.mk.injEq] at e5
    obtain ⟨j, hf, rfl, rfl⟩ := e5
    obtain ⟨_, q1, q2, q3⟩ := findB_spec hf
    simp only [Nat.sub_zero] at q1 q2
    have hj : j < es.size := by have := G.g2; have := G.g4; omega
    have hej := arr_getD hj
    have hlt : b < W.heap.size := (Array.getElem?_eq_some_iff.1 g1).1
    have hbj := (G.g7 j _ hej).2.2 _ q2
    have hidx : es.findIdx? (fun e => (e.born : Int) == n) = some j := by
      rw [Array.findIdx?_eq_some_iff_getElem]
      refine ⟨hj, ?_, fun i hi => ?_⟩
      · have : es[j] = es.toList.getD j default := by
          have := hej; rw [Array.getElem?_eq_getElem hj] at this; exact Option.some.inj this
        rw [this, hbj, q3]; simp
      · have hie : es[i]? = some es[i] := Array.getElem?_eq_getElem (by omega)
        have hib : i < bs.length := by have := G.g2; have := G.g4; omega
        have := (G.g7 i _ hie).2.2 _ (List.getElem?_eq_getElem hib)
        rw [this]
        have hlt2 : bs[i] < bs[j] := List.pairwise_iff_getElem.1 G.g5 i j hib q1 hi
        have : bs[j] = n.toNat := by rw [List.getElem?_eq_getElem q1] at q2; exact Option.some.inj q2
        simp; omega
    have hsx : a.eval x = .int .i64 n := hkx.int_inv
    have hrun : (execOp a.eval o).run P W = .ok .skip (setB W b (.map (es.modify j fun e => { e with val := a.eval v }) clk)) := by
      simp only [execOp, ho, hmv, hsx]
      simp [Instr.entryStore, asInt, asIntOf, MapKept.run_getObj_map g1, hidx, MapKept.run_setObj_map _ g1, Result.andThen, setB]
    unfold Oper.wp
    rw [hrun, Oper.upon_skip, hod]
    refine hn _ _ U (h.setm e4 hnc ((G.set (j := j) hvv.alias (by simp) (fun i e' hi => ?_)).ob (setB_keeps _ hnc ((h.ob _ _ e4).2.1 0)) (setB_same _ hlt)) (no_own (by simp)))
    rw [Array.getElem?_modify] at hi
    split at hi
    · rename_i hij
      subst hij
      rw [hej] at hi
      cases hi
      exact ⟨_, hej, rfl, rfl, by simp⟩
    · rename_i hij
      exact ⟨e', hi, rfl, rfl, by rw [if_neg (fun e => hij e.symm)]⟩
  · cases e5
theorem s_mu3 (h : Inv N W0 U0 M a W U s) {t k e k' : TypeId} {m x : Operand} {ag : Bool} {ks : List Kd} {z : AV} {X Y V : Opd} (ho : o.op = .call { callee := .builtin .delete, args := ⟨[m, x]⟩, argTypes := ⟨[t, k']⟩ }) (hod : o.dst = none) (ht : P.underlying t = some (.map k e)) (hm : cOpd m = some X) (hx : cOpd x = some Y)
    (hk : keyB P k = some (ks, ag)) {b : Nat} {cs : List AV} (hr : muS s 3 z ks ag X Y V = some (b, r, cs)) {next : Act → World → Prop} {Q : Exit → Act → World → Prop}
    (hn : ∀ a' W' U', Inv N W0 U0 M a' W' U' { s with o := upd s.o b (some cs) } → next a' W') : o.wp P a W next Q := by
  obtain ⟨kv, vv, kl, vl, bs, clk, e1, e2, e3, e4, e5⟩ := muS_some hr
  obtain ⟨⟨es, g1, G⟩, hnc⟩ := h.mpR e4
  have hkx := cOpd_sound h hx e2
  have hmv := h.mapv hm e1
  have hkey : ∀ (j : Nat) (en : MapEntry) (c : AV), es.toList[j]? = some en → kl[j]? = some c → VR W U en.key c := fun j en c h1 h2 => (G.g7 j en (by rw [← Array.getElem?_toList]; exact h1)).1 c h2
  simp only [muF, Option.map_eq_some_iff] at e5
  obtain ⟨f, hf, e6⟩ := e5
  obtain ⟨hchk, r1, r2⟩ := findM_sound hk hkx (es := es.toList) (by simpa using G.g2) hkey hf
  have hlt : b < W.heap.size := (Array.getElem?_eq_some_iff.1 g1).1
  cases f with
  | none =>
    simp only [Prod.mk.injEq] at e6
    obtain ⟨rfl, rfl⟩ := e6
    have hrun : (execOp a.eval o).run P W = .ok (.value (.tuple #[])) (setB W b (.map es clk)) := by
      simp [execOp, ho, hmv, resolve, invoke, builtin, Builtin.delete_, run_underlying ht, MapKept.run_getObj_map g1, hchk, r1, MapKept.run_setObj_map _ g1, Result.andThen, setB]
    unfold Oper.wp
    rw [hrun, Oper.upon_value, hod]
    exact hn _ _ U (h.setm e4 hnc (G.ob (setB_keeps _ hnc ((h.ob _ _ e4).2.1 0)) (setB_same _ hlt)) (no_own (by simp)))
  | some j =>
    simp only [Prod.mk.injEq] at e6
    obtain ⟨rfl, rfl⟩ := e6
    obtain ⟨q1, q2, q3⟩ := r2 j rfl
    have hj : j < es.size := by simpa using q1
    have hrun : (execOp a.eval o).run P W = .ok (.value (.tuple #[])) (setB W b (.map (es.eraseIdxIfInBounds j) clk)) := by
      simp [execOp, ho, hmv, resolve, invoke, builtin, Builtin.delete_, run_underlying ht, MapKept.run_getObj_map g1, hchk, r1, MapKept.run_setObj_map _ g1, Result.andThen, setB]
    unfold Oper.wp
    rw [hrun, Oper.upon_value, hod]
    exact hn _ _ U (h.setm e4 hnc ((G.erase hj).ob (setB_keeps _ hnc ((h.ob _ _ e4).2.1 0)) (setB_same _ hlt)) (no_own (by simp)))
end
end Go.Proofs.YtmmmbmljompamaaGreatDoor

namespace Go.Proofs.YtmmmbmljompamaaGreatDoor
set_option linter.all false
open Go.RowKit

section
variable {P : Program} {N : Nat} {W0 : World} {U0 : Nat → Nat → Prop} {M : Nat → Prop} {a : Act} {W W' : World} {U : Nat → Nat → Prop} {s : St} {o : Oper} {r : AV}
theorem s_mx (h : Inv N W0 U0 M a W U s) {x y : Operand} {X Y : Opd} {ts : Array TypeId} (ho : o.op = .call { callee := .builtin .max, args := ⟨[x, y]⟩, argTypes := ts }) (hx : cOpd x = some X) (hy : cOpd y = some Y) (hr : opR P s (.mx X Y) r) : VOK P a o W U r := by
  obtain ⟨p, c, hp, hn, hb⟩ := hr
  cases p <;> try exact hb.elim
  all_goals cases c <;> try exact hb.elim
  rename_i k1 m k2 n
  have h1 := (cOpd_sound h hx hp).int_inv
  have h2 := (cOpd_sound h hy hn).int_inv
  obtain rfl := (hb : r = .int k1 (if m < n then n else m))
  refine VOK.same (v := .int k1 (if m < n then n else m)) ?_ (.int _ _) (by simp)
  simp [execOp, ho, h1, h2, resolve, invoke, builtin, Builtin.max_, Builtin.max2]
theorem run_newObj (x : Obj) : (newObj x).run P W = .ok W.heap.size (W.alloc x) := rfl
theorem s_app0 (h : Inv N W0 U0 M a W U s) {t e sz : Nat} {inf : TypeInfo} {x : Operand} {X : Opd} (ho : o.op = .call { callee := .builtin .append, args := ⟨[.const (.slice none 0 0), x]⟩, argTypes := ⟨[t, t]⟩ })
    (ht : P.underlying t = some (.slice e)) (hi : P.info? e = some inf) (hisz : inf.size = sz) (hsz : 0 < sz) (hz : zeroSize P e = some sz) (hx : cOpd x = some X) (hr : opR P s (.app0 e sz inf.bytes X) r) : VOK P a o W U r := by
  obtain ⟨own, news, hxv, hb, hmx, rfl⟩ := hr
  have hw := cOpd_sound h hx hxv
  obtain ⟨z, hz1, hz2⟩ : ∃ z, inf.zero = some z ∧ z.cells.size = sz := by
    simp only [zeroSize, hi, Option.bind_some, Option.map_eq_some_iff] at hz
    exact hz
  have key : ∀ v' W' U', (Builtin.append_ #[t, t] o.type #[.slice none 0 0, a.eval x]).run P W = .ok v' W' → VR W' U' v' (.sl (some e) sz news) → Own1 W' U' (W.heap.size ≤ ·) v' (.sl (some e) sz news) → Ext W U W' U' → VOK P a o W U (.sl (some e) sz news) := by
    intro v' W' U' hrun hvr hso hE
    refine ⟨v', W', U', ?_, hE, hvr, hso⟩
    unfold execOp
    simp only [ho, resolve, invoke, builtin, Sem.run_bind, Sem.run_pure, Result.andThen_ok, List.map_toArray, List.map_cons, List.map_nil]
    rw [show (#[Value.slice none 0 0, a.eval x] : Array Value) = ⟨[a.eval (.const (.slice none 0 0)), a.eval x]⟩ from rfl] at hrun
    rw [show (#[t, t] : Array Nat) = ⟨[t, t]⟩ from rfl] at hrun
    rw [hrun]
    rfl
  generalize hxval : a.eval x = xval at *
  cases hw with
  | sl A cap _ _ b2 o2 _ f2 hcap2 hmax2 hA2 hs2 hc2 hv2 =>
    by_cases hm : news.length = 0
    · have hn1 : news = [] := List.eq_nil_of_length_eq_zero hm
      subst hn1
      refine key (.slice none 0 0) W U ?_ (zVR_sound (v := .slice none 0 0) (c := .sl (some e) sz []) rfl W U).1 (.inl ⟨rfl, rfl⟩) (Ext.refl _ _)
      cases A <;> simp [Builtin.append_, run_underlying ht, sizeOf, typeInfo, hi, Builtin.lenOf, Builtin.firstCells, loadCells, loadCellsFrom, storeCells]
    · obtain rfl := hA2 (by omega)
      have hnews' : ∀ p v, (flatV f2 news.length sz)[p]? = some v → W.cell? ((⟨b2, o2, none⟩ : Addr).add p) = some v := by
        intro p v hp
        obtain ⟨q1, q2, rfl, q4⟩ := flatV_some hp
        rw [add_mk, q4, ← Nat.add_assoc]
        have e1 : (p / sz * sz + p % sz) / sz = p / sz := by rw [← q4]
        have e2 : (p / sz * sz + p % sz) % sz = p % sz := by rw [← q4]
        rw [e1, e2]
        exact (hc2 _ _ q1 q2).1
      have h1new : ∀ u ∈ flatV f2 news.length sz, u.oneCell' = true := flat_mem fun i j hi hj => (hc2 i j hi hj).2.1
      have hrun := run_append_nil (P := P) W t o.type e inf z ht hi hz1 ⟨b2, o2, none⟩ news.length cap (flatV f2 news.length sz) (by rw [flatV_length, hisz]) hnews' (by omega) (by simp only [maxLen] at hmx; omega) (by omega)
      have hE : Ext W U (W.drew.alloc (.cells ((flatV f2 news.length sz).toArray ++ Builtin.zeroCells z.cells (grownCap W news.length 0 e - news.length)) e)) (fun k i => if k = W.heap.size then news.length * sz ≤ i else U k i) := by
        have := Ext.alloc W.drew U (.cells ((flatV f2 news.length sz).toArray ++ Builtin.zeroCells z.cells (grownCap W news.length 0 e - news.length)) e) (fun i => news.length * sz ≤ i)
        exact ⟨(Below.refl _ _).drew.alloc (Nat.le_refl _) _, this.u⟩
      have hge := grownCap_ge W news.length 0 e
      have hcm := grownCap_le_maxLen W news.length 0 e hmx
      have hnew := heap_alloc_new W.drew (.cells ((flatV f2 news.length sz).toArray ++ Builtin.zeroCells z.cells (grownCap W news.length 0 e - news.length)) e)
      have hcsz : ((flatV f2 news.length sz).toArray ++ Builtin.zeroCells z.cells (grownCap W news.length 0 e - news.length)).size = grownCap W news.length 0 e * sz := by
        simp only [Array.size_append, List.size_toArray, size_zeroCells, hz2, flatV_length, ← Nat.add_mul]
        congr 1
        omega
      refine key _ _ _ hrun ?_ ?_ hE
      · refine VR_row (f := f2) hnew hge hcm hs2 (fun i j hi hj => ?_) (fun o ho hu => ?_) (fun i e' j c he hc => (hv2 i e' j c he hc).keep hE.keeps)
        · refine ⟨?_, (hc2 i j hi hj).2.1⟩
          have := flatV_get (f := f2) hi hj
          rw [Array.getElem?_append_left (by rw [List.size_toArray]; exact (List.getElem?_eq_some_iff.1 this).1)]
          simpa using this
        · have hu' : news.length * sz ≤ o := by simpa using hu
          omega
      · refine .inr ⟨W.heap.size, _, _, rfl, Nat.le_refl _, .of hnew, hge, hcm, hcsz, fun o ho hu => ?_, fun o ho => ?_⟩
        · have hu' : news.length * sz ≤ o := by simpa using hu
          omega
        · simpa using ho
theorem none_new (h : Inv N W0 U0 M a W U s) : s.o W.heap.size = none := by
  cases hs : s.o W.heap.size with
  | none => rfl
  | some c => have := h.ob_lt _ _ hs; omega
theorem s_mkm (h : Inv N W0 U0 M a W U s) {d : Option Nat} {t : TypeId} (ho : o.op = .makeMap t none) (hd : ∀ j, d = some j → j < N) (hod : o.dst = d) {K : St → Prop} (hK : mkmW s d K) {next : Act → World → Prop} {Q : Exit → Act → World → Prop}
    (hn : ∀ a' W' U' s', Inv N W0 U0 M a' W' U' s' → K s' → next a' W') : o.wp P a W next Q := by
  have hrun : (execOp a.eval o).run P W = .ok (.value (.map (some W.heap.size))) (W.alloc (.map #[] 0)) := by
    simp [execOp, ho, Instr.makeMap, run_newObj]
  unfold Oper.wp
  rw [hrun, Oper.upon_value, hod]
  refine hn _ _ _ _ ((h.newm ?_ (no_own (by simp))).putO hd (.mapv _) fun j _ => Sole.plain (by simp)) (hK _ (none_new h))
  exact ⟨#[], heap_alloc_new W _, rfl, rfl, rfl, by simp, by simp, fun i e hi => by simp at hi⟩
theorem s_rng (h : Inv N W0 U0 M a W U s) {d : Option Nat} {t k e : TypeId} {x : Operand} {X : Opd} (ho : o.op = .range t x) (ht : P.underlying t = some (.map k e)) (hd : ∀ j, d = some j → j < N) (hod : o.dst = d) (hx : cOpd x = some X) {K : St → Prop} {p : AV} (hp : X.ev s = some p) (hK : rngW s d p K)
    {next : Act → World → Prop} {Q : Exit → Act → World → Prop} (hn : ∀ a' W' U' s', Inv N W0 U0 M a' W' U' s' → K s' → next a' W') : o.wp P a W next Q := by
  cases p <;> try exact hK.elim
  rename_i m
  obtain ⟨kl, vl, bs, clk, hb, hK⟩ := hK
  obtain ⟨⟨es, g1, G⟩, hnc⟩ := h.mpR hb
  have hmv := h.mapv hx hp
  have hrun : (execOp a.eval o).run P W = .ok (.value (.pointer (some ⟨W.heap.size, 0, none⟩))) (W.alloc (.mapIter (some m) clk #[] clk)) := by
    simp [execOp, ho, hmv, Instr.range, run_underlying ht, MapKept.run_getObj_map g1, run_newObj, Result.andThen]
  unfold Oper.wp
  rw [hrun, Oper.upon_value, hod]
  exact hn _ _ _ _ ((h.newm (cs := [.mit m clk [] clk]) (heap_alloc_new W _) (no_own (by simp))).putO hd (.itp _) fun j _ => Sole.plain (by simp)) (hK _ (none_new h))
theorem Inv.itp (h : Inv N W0 U0 M a W U s) {x : Operand} {X : Opd} {b : Nat} (hm : cOpd x = some X) (hx : X.ev s = some (.itp b)) : a.eval x = .pointer (some ⟨b, 0, none⟩) := by
  have := cOpd_sound h hm hx
  generalize a.eval x = v at this
  cases this; rfl
theorem s_nxt (h : Inv N W0 U0 M a W U s) {d : Option Nat} {x : Operand} {X : Opd} (ho : o.op = .next x false) (hd : ∀ j, d = some j → j < N) (hod : o.dst = d) (hx : cOpd x = some X) {K : St → Prop} {p : AV} (hp : X.ev s = some p) (hK : nxtW s d p K)
    {next : Act → World → Prop} {Q : Exit → Act → World → Prop} (hn : ∀ a' W' U' s', Inv N W0 U0 M a' W' U' s' → K s' → next a' W') : o.wp P a W next Q := by
  cases p <;> try exact hK.elim
  rename_i b
  obtain ⟨m, since, seen, last, kl, vl, bs, clk, hb, hm, ⟨hc1, hc2⟩, hK1, hK2⟩ := hK
  subst hc1
  obtain rfl : clk = last := hc2.symm
  obtain ⟨⟨es, g1, G⟩, hnc⟩ := h.mpR hm
  have hit := h.itp hx hp
  have hbr : W.heap[b]? = some (.mapIter (some m) clk seen.toArray clk) := (h.ob b _ hb).1
  have hncb : ¬ CellsAt W b := by
    rintro ⟨c1, c2, c3, c4⟩
    rw [hbr] at c4; cases c4
  have hlt : b < W.heap.size := (Array.getElem?_eq_some_iff.1 hbr).1
  have born : ∀ (i : Nat) (e : MapEntry), es[i]? = some e → bs[i]? = some e.born ∧ i < kl.length := fun i e hi => by
    have hl : i < es.size := (Array.getElem?_eq_some_iff.1 hi).1
    have := G.g2; have := G.g4
    have hb' : bs[i]? = some (bs[i]'(by omega)) := List.getElem?_eq_getElem (by omega)
    exact ⟨by rw [hb', (G.g7 i e hi).2.2 _ hb'], by omega⟩
  have hold : ∀ e ∈ es.toList, e.born < clk := fun e he => by
    obtain ⟨i, hi⟩ := List.mem_iff_getElem?.1 he
    exact G.g6 _ (List.mem_of_getElem? (born i e (by rw [← Array.getElem?_toList]; exact hi)).1)
  have hrunx : (execOp a.eval o).run P W = ((Instr.next (.pointer (some ⟨b, 0, none⟩)) false o.type).run P W).andThen fun v w => .ok (.value v) w := by
    simp only [execOp, ho, hit]
    simp
  unfold Oper.wp
  rw [hrunx]
  rcases run_next_at (P := P) W o.type b m clk clk seen.toArray es clk hbr g1 hold (Nat.le_refl _) with ⟨h0, hrun⟩ | ⟨e, he, w1, hw1, hrun⟩
  · rw [hrun]
    simp only [Result.andThen]
    rw [Oper.upon_value, hod]
    refine hn _ _ _ _ (h.putO hd (v := .tuple #[.bool false]) (r := .tup [.bool false]) ?_ fun j _ => Sole.plain (by simp)) (hK2 fun n hnb => ?_)
    · have : (Value.tuple #[.bool false]) = .tuple [Value.bool false].toArray := rfl
      rw [this]
      refine .tup _ _ rfl fun i x y hx hy => ?_
      match i with
      | 0 => simp at hx hy; subst hx hy; exact .bool _
      | i + 1 => simp at hx
    · obtain ⟨i, hi⟩ := List.mem_iff_getElem?.1 hnb
      have hl : i < es.size := by have := (List.getElem?_eq_some_iff.1 hi).1; have := G.g2; have := G.g4; omega
      have hei := Array.getElem?_eq_getElem hl
      have hbn := (born i _ hei).1
      rw [hi] at hbn
      have hnn : n = es[i].born := Option.some.inj hbn
      have hempty : leftOf es seen.toArray = #[] := Array.eq_empty_of_size_eq_zero h0
      unfold leftOf at hempty
      rw [Array.filter_eq_empty_iff] at hempty
      have := hempty es[i] (Array.getElem_mem hl)
      simp at this
      rw [hnn]; exact this
  · rw [hrun]
    simp only [Result.andThen]
    rw [Oper.upon_value, hod]
    unfold leftOf at he
    simp only [Array.toList_filter, List.mem_filter] at he
    obtain ⟨he1, he2⟩ := he
    obtain ⟨i, hi⟩ := List.mem_iff_getElem?.1 he1
    have hei : es[i]? = some e := by rw [← Array.getElem?_toList]; exact hi
    obtain ⟨hbi, hik⟩ := born i e hei
    have hns : e.born ∉ seen := by simpa using he2
    have hwU : ∃ W1 : World, W1 = w1 ∧ Inv N W0 U0 M a W1 U s := by
      rcases hw1 with rfl | rfl
      · exact ⟨_, rfl, h⟩
      · exact ⟨_, rfl, h.ext (Ext.refl W U).drew⟩
    obtain ⟨W1, rfl, h1⟩ := hwU
    have hbr1 : W1.heap[b]? = some (.mapIter (some m) clk seen.toArray clk) := (h1.ob b _ hb).1
    have hncb1 : ¬ CellsAt W1 b := by
      rintro ⟨c1, c2, c3, c4⟩
      rw [hbr1] at c4; cases c4
    have hlt1 : b < W1.heap.size := (Array.getElem?_eq_some_iff.1 hbr1).1
    obtain ⟨⟨es1, g1', G1⟩, _⟩ := h1.mpR hm
    have hes : es1 = es := by
      have : W1.heap = W.heap := by rcases hw1 with rfl | rfl <;> rfl
      rw [this, g1] at g1'
      cases g1'; rfl
    subst hes
    have hkl := G1.g3
    have hK' := setB_keeps (U := U) (.mapIter (some m) clk (seen.toArray.push e.born) clk) hncb1 ((h1.ob _ _ hb).2.1 0)
    obtain ⟨a1, a2, _⟩ := G1.g7 i e hei
    have hkv := a1 _ (getD_get (d := .undef) hik)
    have hvv := a2 _ (getD_get (d := .undef) (by omega : i < vl.length))
    have hset : ChangeMaps.setBlock W1 b (.mapIter (some m) clk (seen.toArray.push e.born) clk) = setB W1 b (.mapIter (some m) clk (seen.toArray.push e.born) clk) := rfl
    rw [hset]
    refine hn _ _ _ _ ((h1.setm hb hncb1 (cs' := [.mit m clk (seen ++ [e.born]) clk]) ?_ (no_own (by simp))).putO hd (v := .tuple #[.bool true, e.key, e.val]) (r := .tup [.bool true, kl.getD i .undef, vl.getD i .undef]) ?_ fun j _ => Sole.plain (by simp)) (hK1 i e.born hbi hns)
    · show (setB W1 b _).heap[b]? = _
      rw [setB_same _ hlt1]; simp
    · have : (Value.tuple #[.bool true, e.key, e.val]) = .tuple [Value.bool true, e.key, e.val].toArray := rfl
      rw [this]
      refine .tup _ _ rfl fun i' x y hx hy => ?_
      match i' with
      | 0 => simp at hx hy; subst hx hy; exact .bool _
      | 1 => simp [-List.getD_eq_getElem?_getD] at hx hy; subst hx hy; exact hkv.keep hK'
      | 2 => simp [-List.getD_eq_getElem?_getD] at hx hy; subst hx hy; exact hvv.keep hK'
      | i' + 3 => simp at hx
theorem s_ent (h : Inv N W0 U0 M a W U s) {x : Operand} {X : Opd} (ho : o.op = .entry x) (hx : cOpd x = some X) (hr : opR P s (.ent X) r) : VOK P a o W U r := by
  obtain ⟨p, hp, hr⟩ := hr
  cases p <;> try exact hr.elim
  rename_i b
  obtain ⟨m, since, seen, last, kl, vl, bs, clk, i, n, hb, hm, rfl, hs, hbi, rfl⟩ := hr
  obtain ⟨⟨es, g1, G⟩, hnc⟩ := h.mpR hm
  have hit := h.itp hx hp
  have hbr : W.heap[b]? = some (.mapIter (some m) since seen.toArray clk) := (h.ob b _ hb).1
  have hil : i < es.size := by have := (List.getElem?_eq_some_iff.1 hbi).1; have := G.g2; have := G.g4; omega
  have hei := Array.getElem?_eq_getElem hil
  obtain ⟨a1, a2, a3⟩ := G.g7 i _ hei
  have hbn := a3 n hbi
  have hne : seen ≠ [] := by rintro rfl; cases hs
  have hsp : seen.toArray = (seen.dropLast.toArray).push es[i].born := by
    have : seen = seen.dropLast ++ [n] := by
      have h2 := List.dropLast_concat_getLast hne
      rw [List.getLast?_eq_some_getLast hne] at hs
      rw [Option.some.inj hs] at h2
      exact h2.symm
    rw [hbn]
    conv => lhs; rw [this]
    simp
  rw [hsp] at hbr
  have hnd : (es.toList.map (·.born)).Nodup := by
    have e1 : es.toList.map (·.born) = bs := by
      apply List.ext_getElem?
      intro j
      rw [List.getElem?_map]
      cases hj : es.toList[j]? with
      | none =>
        have : es.size ≤ j := by simpa using hj
        have := G.g2; have := G.g4
        rw [List.getElem?_eq_none (by omega)]; rfl
      | some e =>
        have hej : es[j]? = some e := by rw [← Array.getElem?_toList]; exact hj
        have hl : j < bs.length := by have := (Array.getElem?_eq_some_iff.1 hej).1; have := G.g2; have := G.g4; omega
        have := (G.g7 j e hej).2.2 _ (List.getElem?_eq_getElem hl)
        rw [List.getElem?_eq_getElem hl, Option.map_some, this]
    rw [e1]
    exact G.g5.imp fun h => Nat.ne_of_lt h
  have hrun := run_entry_at (P := P) W b m since seen.dropLast.toArray es clk es[i] hbr g1 (by simp) hnd
  have hik : i < kl.length := by have := G.g2; omega
  have hiv : i < vl.length := by have := G.g2; have := G.g3; omega
  refine VOK.same (v := .tuple #[es[i].key, es[i].val]) ?_ ((a1 _ (getD_get (d := .undef) hik)).tup2 (a2 _ (getD_get (d := .undef) hiv))) (by simp)
  simp only [execOp, ho, hit]
  simp [hrun]
end
end Go.Proofs.YtmmmbmljompamaaGreatDoor
