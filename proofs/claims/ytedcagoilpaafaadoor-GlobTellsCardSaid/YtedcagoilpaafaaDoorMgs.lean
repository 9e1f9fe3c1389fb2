/- The abstract machine, part 7b: append of a string. -/
import Derived.Test.YtedcagoilpaafaaDoorMg
import Derived.Deep.AppendSrc
namespace Go.Proofs.YtedcagoilpaafaaDoor
set_option linter.all false
open Go.RowKit

section
variable {P : Program} {N : Nat} {W0 : World} {U0 : Nat → Nat → Prop} {M : Nat → Prop} {a : Act} {W : World} {U : Nat → Nat → Prop} {s : St} {o : Oper} {r : AV}
/-- **A string's bytes onto an own row.** -/
theorem s_apps (h : Inv N W0 U0 M a W U s) {t tx e i : Nat} {inf : TypeInfo} {x : Operand} {X : Opd} {d : Option Nat} (ho : o.op = .call { callee := .builtin .append, args := ⟨[.tmp i, x]⟩, argTypes := ⟨[t, tx]⟩ }) (hod : o.dst = d) (hd : ∀ j, d = some j → j < N)
    (ht : P.underlying t = some (.slice e)) (hi : P.info? e = some inf) (htx : P.underlying tx = some .string) (hisz : inf.size = 1) (hz : zeroSize P e = some 1) (hx : cOpd x = some X) (hr : opR P s (.apps e inf.bytes i X) r) {next : Act → World → Prop} {Q : Exit → Act → World → Prop}
    (hn : ∀ a' W' U', Inv N W0 U0 M a' W' U' (eff d (.apps e inf.bytes i X) r s) → next a' W') : o.wp P a W next Q := by
  obtain ⟨els, l, hs0, hxv, hb0, hmx0, rfl⟩ := hr
  obtain ⟨sz, hsz1⟩ : ∃ sz, sz = 1 := ⟨_, rfl⟩
  have hsz : 0 < sz := by omega
  rw [← hsz1] at hz hisz hs0
  obtain ⟨news, hnews0⟩ : ∃ news, news = l.map byteEl := ⟨_, rfl⟩
  have hnl : news.length = l.length := by rw [hnews0]; simp
  rw [← hsz1, ← hnews0] at hn
  have hb : (els.length + news.length) * inf.bytes ≤ 140737488355328 := by rw [hnl]; exact hb0
  have hmx : els.length + news.length ≤ maxLen := by rw [hnl]; exact hmx0
  have hv := h.tv i _ hs0
  have hw := cOpd_sound h hx hxv
  have hown := h.ow (.t i) _ hs0
  simp only [Own1, cat] at hown
  obtain ⟨z, hz1, hz2⟩ : ∃ z, inf.zero = some z ∧ z.cells.size = sz := by
    simp only [zeroSize, hi, Option.bind_some, Option.map_eq_some_iff] at hz
    exact hz
  -- it is enough to know what the append gives
  have key : ∀ v' W' U', (Builtin.append_ #[t, tx] o.type #[a.eval (.tmp i), a.eval x]).run P W = .ok v' W' → Inv N W0 U0 M a W' U' { s with t := upd s.t i none } → VR W' U' v' (.sl (some e) sz (els ++ news)) →
      (∀ j, d = some j → Sole W0 M a W' U' { s with t := upd s.t i none } j v' (.sl (some e) sz (els ++ news))) → o.wp P a W next Q := by
    intro v' W' U' hrun hinv hvr hso
    unfold Oper.wp execOp
    simp only [ho, resolve, invoke, builtin, Sem.run_bind, Sem.run_pure, Result.andThen_ok, List.map_toArray, List.map_cons, List.map_nil]
    rw [show (#[a.eval (.tmp i), a.eval x] : Array Value) = ⟨[a.eval (.tmp i), a.eval x]⟩ from rfl] at hrun
    rw [show (#[t, tx] : Array Nat) = ⟨[t, tx]⟩ from rfl] at hrun
    rw [hrun]
    simp only [Result.andThen_ok, Oper.upon, hod]
    exact hn _ _ _ (hinv.putO hd hvr hso)
  have hle : Le { s with t := upd s.t i none } s := ⟨fun j v hj => by
    by_cases hji : j = i
    · subst hji; simp [upd] at hj
    · simpa [upd, hji] using hj, fun _ _ hj => hj⟩
  have h' := h.le hle
  have hother : ∀ ℓ e' sz' els', St.at { s with t := upd s.t i none } ℓ = some (.sl (some e') sz' els') → ℓ ≠ .t i ∧ s.at ℓ = some (.sl (some e') sz' els') := by
    intro ℓ e' sz' els' hl
    refine ⟨fun he => ?_, hle.at_ hl⟩
    subst he
    simp [St.at, upd] at hl
  generalize hval : a.eval (.tmp i) = val at *
  have hval' : a.tmps.getD i undef = val := hval
  rw [hval'] at hv hown
  have hxs : a.eval x = .string ⟨l.toArray⟩ := hw.str_inv
  rw [hxs] at key
  obtain ⟨f2, hf2⟩ : ∃ f2 : Nat → Nat → Value, f2 = fun i _ => .int .u8 ((l.getD i 0).toNat : Int) := ⟨_, rfl⟩
  have hs2 : ∀ e ∈ news, e.length = sz := by
    intro e' he'
    rw [hnews0] at he'
    obtain ⟨b, _, rfl⟩ := List.mem_map.1 he'
    simp [byteEl, hsz1]
  have hc2 : ∀ i j, i < news.length → j < sz → True ∧ (f2 i j).oneCell' = true ∧ True := fun i j _ _ => by subst hf2; exact ⟨trivial, rfl, trivial⟩
  have hv2 : ∀ (i : Nat) (e : List AV) (j : Nat) (c : AV), news[i]? = some e → e[j]? = some c → VR W U (f2 i j) c := by
    intro i e' j c he hc
    rw [hnews0, List.getElem?_map, Option.map_eq_some_iff] at he
    obtain ⟨b, hb', rfl⟩ := he
    cases j with
    | succ j => simp [byteEl] at hc
    | zero =>
      simp [byteEl] at hc
      subst hc
      rw [hf2]
      have : l.getD i 0 = b := by simp [List.getD, hb']
      simp only [this]
      exact .int _ _
  have hflat : flatV f2 news.length sz = byteCells ⟨l.toArray⟩ := by
    rw [hf2, hsz1, hnl]
    apply List.ext_getElem?
    intro p
    simp only [flatV, byteCells, Nat.mul_one, Nat.div_one, List.getElem?_map]
    by_cases hp : p < l.length
    · simp [hp, List.getD]
    · simp [hp]
  have hsrc : Src P inf.size tx (.string ⟨l.toArray⟩) news.length (flatV f2 news.length sz) W := by
    rw [hflat, hisz, hsz1]
    have := Src.ofString (P := P) W htx ⟨l.toArray⟩
    rwa [size_str, ← hnl] at this
  have h1new : ∀ u ∈ flatV f2 news.length sz, u.oneCell' = true := hsrc.one
  cases hv with
  | sl A1 cap1 _ _ b1 o1 _ f1 hcap1 hmax1 hA1 hs1 hc1 hv1 =>
      have hsall : ∀ e ∈ els ++ news, e.length = sz := by
        intro e' he'
        rcases List.mem_append.1 he' with he' | he'
        · exact hs1 e' he'
        · exact hs2 e' he'
      have hlen : (els ++ news).length = els.length + news.length := List.length_append
      ·
        rcases hown with ⟨hnil, hn0⟩ | ⟨g, capg, cur, hsl, hB, hgh, hgc, hgm, hgs, hgU1, hgU2⟩
        · -- the row is nil
          have he0 : els = [] := List.eq_nil_of_length_eq_zero hn0
          subst he0
          simp only [List.nil_append, List.length_nil, Nat.zero_add] at key hn hmx hb hlen hnil ⊢
          injection hnil with q1 q2 q3
          subst q1 q3
          by_cases hm : news.length = 0
          · have hn1 : news = [] := List.eq_nil_of_length_eq_zero hm
            subst hn1
            refine key (.slice none 0 0) W U ?_ h' (zVR_sound (v := .slice none 0 0) (c := .sl (some e) sz []) rfl W U).1 (fun j hj e' sz' els' he' => ?_)
            · have hl0 : l = [] := List.eq_nil_of_length_eq_zero (by rw [← hnl]; rfl)
              subst hl0
              simp [Builtin.append_, run_underlying ht, run_underlying htx, sizeOf, typeInfo, hi, Builtin.lenOf, Builtin.firstCells, ByteArray.size]
            · cases he'
              exact ⟨.inl ⟨rfl, rfl⟩, fun g hg => by simp [Value.ownBlock] at hg⟩
          · have hrun : (Builtin.append_ #[t, tx] o.type #[.slice none 0 0, .string ⟨l.toArray⟩]).run P W = .ok (.slice (some ⟨W.heap.size, 0, none⟩) news.length (grownCap W news.length 0 e)) (W.drew.alloc (.cells ((flatV f2 news.length sz).toArray ++ Builtin.zeroCells z.cells (grownCap W news.length 0 e - news.length)) e)) := by
              have := run_append_grow_src (P := P) W t tx o.type e inf z ht hi hz1 none 0 0 [] (by simp [Builtin.firstCells]) _ news.length (flatV f2 news.length sz) hsrc (by omega) (by simp only [maxLen] at hmx; omega) (growslice_fits (by omega) (by simpa using hb))
              simpa using this
            have hE : Ext W U (W.drew.alloc (.cells ((flatV f2 news.length sz).toArray ++ Builtin.zeroCells z.cells (grownCap W news.length 0 e - news.length)) e)) (fun k i => if k = W.heap.size then news.length * sz ≤ i else U k i) := by
              have := Ext.alloc W.drew U (.cells ((flatV f2 news.length sz).toArray ++ Builtin.zeroCells z.cells (grownCap W news.length 0 e - news.length)) e) (fun i => news.length * sz ≤ i)
              exact ⟨(Below.refl _ _).drew.alloc (Nat.le_refl _) _, this.u⟩
            have hge := grownCap_ge W news.length 0 e
            have hcm := grownCap_le_maxLen W news.length 0 e hmx
            have hnew := heap_alloc_new W.drew (.cells ((flatV f2 news.length sz).toArray ++ Builtin.zeroCells z.cells (grownCap W news.length 0 e - news.length)) e)
            have hcsz : ((flatV f2 news.length sz).toArray ++ Builtin.zeroCells z.cells (grownCap W news.length 0 e - news.length)).size = grownCap W news.length 0 e * sz := by
              simp only [Array.size_append, List.size_toArray, size_zeroCells, hz2, flatV_length, ← Nat.add_mul]
              congr 1
              omega
            refine key _ _ _ hrun (h'.ext hE) ?_ (fun j hj => Sole.fresh h' hE ?_)
            · refine VR_row (f := f2) hnew hge hcm hs2 (fun i j hi hj => ?_) (fun o ho hu => ?_) (fun i e' j c he hc => (hv2 i e' j c he hc).keep hE.keeps)
              · refine ⟨?_, (hc2 i j hi hj).2.1⟩
                have := flatV_get (f := f2) hi hj
                rw [Array.getElem?_append_left (by rw [List.size_toArray]; exact (List.getElem?_eq_some_iff.1 this).1)]
                simpa using this
              · have hu' : news.length * sz ≤ o := by simpa using hu
                omega
            · refine .inr ⟨W.heap.size, _, _, rfl, Nat.le_refl _, hnew, hge, hcm, hcsz, fun o ho hu => ?_, fun o ho => ?_⟩
              · have hu' : news.length * sz ≤ o := by simpa using hu
                omega
              · simpa using ho
        · -- a row of its own
          have hb1 : 0 < els.length → b1 = g ∧ o1 = 0 := fun hp => by
            have := hA1 hp
            rw [this] at hsl
            injection hsl with h1 h2 h3
            injection h1 with h1
            injection h1 with h1 h2
            exact ⟨h1, h2⟩
          have hcur : ∀ i j, i < els.length → j < sz → cur[i * sz + j]? = some (f1 i j) := by
            intro i j hi hj
            obtain ⟨rfl, rfl⟩ := hb1 (by omega)
            have := (hc1 i j hi hj).1
            rw [Nat.zero_add] at this
            rw [← this, cell_of_row W b1 _ cur e (0, 0) hgh]
          have hold : ∀ p v, (flatV f1 els.length sz)[p]? = some v → W.cell? ((⟨g, 0, none⟩ : Addr).add p) = some v := by
            intro p v hp
            obtain ⟨q1, q2, rfl, q4⟩ := flatV_some hp
            rw [add_mk, Nat.zero_add, cell_of_row W g p cur e (0, 0) hgh]
            have := hcur _ _ q1 q2
            rw [← q4] at this
            exact this
          injection hsl with hA1' hlen1 hcap1'
          subst hA1' hcap1'
          have hnog : s.o g = none := h.no (.t i) _ _ _ hs0 g (by simp only [cat, hval']; rfl)
          have hapg : ∀ ℓ e' sz' els', St.at { s with t := upd s.t i none } ℓ = some (.sl (some e') sz' els') → (cat a W ℓ).ownBlock ≠ some g := fun ℓ e' sz' els' hl => by
            obtain ⟨hne, hl'⟩ := hother ℓ _ _ _ hl
            exact h.ap (.t i) ℓ _ _ _ _ _ _ (Ne.symm hne) hs0 hl' g (by simp only [cat, hval']; rfl)
          by_cases hroom : els.length + news.length ≤ cap1
          · -- in place
            have hfit : els.length * inf.size + (flatV f2 news.length sz).length ≤ cur.size := by
              rw [flatV_length, hgs, hisz, ← Nat.add_mul]
              exact Nat.mul_le_mul_right _ hroom
            have hrun : (Builtin.append_ #[t, tx] o.type #[.slice (some ⟨g, 0, none⟩) els.length cap1, .string ⟨l.toArray⟩]).run P W = .ok (.slice (some ⟨g, 0, none⟩) (els.length + news.length) cap1) (W.setRow g (cur.toList.take (els.length * inf.size) ++ flatV f2 news.length sz ++ cur.toList.drop (els.length * inf.size + (flatV f2 news.length sz).length)).toArray) := by
              have hst := run_storeCells_at P g (els.length * inf.size) e (flatV f2 news.length sz) 0 cur W hgh (by simpa using hfit) h1new
              simp only [Nat.add_zero] at hst
              have hadd : (⟨g, 0, none⟩ : Addr).add (els.length * inf.size) = ⟨g, els.length * inf.size, none⟩ := by rw [add_mk, Nat.zero_add]
              have hlen' := hsrc.len
              have hcel' := hsrc.cells
              simp only [Builtin.append_, List.getElem?_toArray, List.getElem?_cons_zero, List.getElem?_cons_succ, Sem.run_bind, run_underlying ht, run_underlying htx, sizeOf, typeInfo, hi, hlen', hcel', Result.andThen_ok]
              simp [hroom, hlen', hcel', hadd, hst, hi]
            rw [hisz] at hrun hfit
            have hnew := setRow_heap W g cur (cur.toList.take (els.length * sz) ++ flatV f2 news.length sz ++ cur.toList.drop (els.length * sz + (flatV f2 news.length sz).length)).toArray e (0, 0) hgh
            have htk : (cur.toList.take (els.length * sz)) = flatV f1 els.length sz := by
              apply List.ext_getElem?
              intro p
              rcases Nat.lt_or_ge p (els.length * sz) with hp | hp
              · have hp' : p / sz < els.length := (Nat.div_lt_iff_lt_mul hsz).2 hp
                have e4 : p = p / sz * sz + p % sz := by have := Nat.div_add_mod p sz; rw [Nat.mul_comm] at this; omega
                rw [List.getElem?_take, if_pos hp, e4, flatV_get hp' (Nat.mod_lt _ hsz)]
                simpa using hcur _ _ hp' (Nat.mod_lt _ hsz)
              · rw [List.getElem?_eq_none (by simp; omega), List.getElem?_eq_none (by rw [flatV_length]; exact hp)]
            rw [htk] at hrun hnew
            have hcell : ∀ i j, i < els.length + news.length → j < sz → (flatV f1 els.length sz ++ flatV f2 news.length sz ++ cur.toList.drop (els.length * sz + (flatV f2 news.length sz).length)).toArray[i * sz + j]? = some (joinF els.length f1 f2 i j) := by
              intro i j hi hj
              have := join_get (f := f1) (g := f2) hi hj
              rw [List.getElem?_toArray, List.getElem?_append_left (List.getElem?_eq_some_iff.1 this).1]
              exact this
            have hK : Keeps W U (W.setRow g (flatV f1 els.length sz ++ flatV f2 news.length sz ++ cur.toList.drop (els.length * sz + (flatV f2 news.length sz).length)).toArray) (fun k i => if k = g then (els.length + news.length) * sz ≤ i else U k i) := by
              intro b' o' v hc hu
              by_cases hbg : b' = g
              · subst hbg
                have hlt : o' < els.length * sz := by
                  rcases Nat.lt_or_ge o' (els.length * sz) with hl | hl
                  · exact hl
                  · exact absurd (hgU2 o' hl) hu
                have e4 : o' = o' / sz * sz + o' % sz := by have := Nat.div_add_mod o' sz; rw [Nat.mul_comm] at this; omega
                have hp' : o' / sz < els.length := (Nat.div_lt_iff_lt_mul hsz).2 hlt
                refine ⟨?_, ?_⟩
                · rw [cell_of_row _ b' o' _ e (0, 0) hnew]
                  rw [cell_of_row W b' o' cur e (0, 0) hgh] at hc
                  have h5 := hcell (o' / sz) (o' % sz) (by omega) (Nat.mod_lt _ hsz)
                  have h6 := hcur _ _ hp' (Nat.mod_lt o' hsz)
                  rw [← e4] at h5 h6
                  rw [h5, ← hc, h6]
                  simp [joinF, hp']
                · simp only [if_true]
                  rw [Nat.add_mul]
                  omega
              · refine ⟨?_, by simpa [hbg] using hu⟩
                rw [World.cell?_of_block (w := W) (a := ⟨b', o', none⟩) (setRow_other W g b' _ hbg)]
                exact hc
            refine key _ _ (fun k i => if k = g then (els.length + news.length) * sz ≤ i else U k i) hrun
              (h'.turn hB hnog hapg hK rfl rfl rfl (by simp) (fun k _ hk => setRow_other W g k _ hk) (fun k _ hk o => by simp [hk])) ?_ (fun j hj e' sz' els' he' => ?_)
            · refine VR_row' (f := joinF els.length f1 f2) hlen hnew hroom hgm hsall (fun i j hi hj => ⟨hcell i j hi hj, ?_⟩) (fun o ho hu => ?_) (join_VR (fun i e' j c he hc => (hv1 i e' j c he hc).keep hK) (fun i e' j c he hc => (hv2 i e' j c he hc).keep hK))
              · unfold joinF
                by_cases hil : i < els.length
                · rw [if_pos hil]; exact (hc1 i j hil hj).2.1
                · rw [if_neg hil]; exact (hc2 (i - els.length) j (by omega) hj).2.1
              · simp only [if_true] at hu
                omega
            · cases he'
              refine ⟨.inr ⟨g, cap1, _, by rw [hlen], hB, hnew, by omega, hgm, ?_, fun o ho hu => ?_, fun o ho => ?_⟩, fun g' hg' => ?_⟩
              · simp only [List.size_toArray, List.length_append, List.length_drop, Array.length_toList, flatV_length] at hfit ⊢
                omega
              · simp only [if_true] at hu
                rw [hlen] at ho
                omega
              · simp only [if_true]
                rw [hlen] at ho
                exact ho
              · obtain rfl : g = g' := by simpa [Value.ownBlock] using hg'
                refine ⟨hnog, fun ℓ _ ⟨e2, sz2, els2, hl⟩ => ?_⟩
                have hcat : cat a (W.setRow g (flatV f1 els.length sz ++ flatV f2 news.length sz ++ cur.toList.drop (els.length * sz + (flatV f2 news.length sz).length)).toArray) ℓ = cat a W ℓ := by
                  cases ℓ with
                  | t i => rfl
                  | o b j =>
                    have hl2 := hl
                    simp only [St.at, Option.bind_eq_some_iff] at hl2
                    obtain ⟨cs, e1, _⟩ := hl2
                    have hne : b ≠ g := by rintro rfl; rw [hnog] at e1; cases e1
                    simp only [cat, setRow_other W g b _ hne]
                rw [hcat]
                exact hapg ℓ _ _ _ hl
          · -- a new row
            have hrun : (Builtin.append_ #[t, tx] o.type #[.slice (some ⟨g, 0, none⟩) els.length cap1, .string ⟨l.toArray⟩]).run P W = .ok (.slice (some ⟨W.heap.size, 0, none⟩) (els.length + news.length) (grownCap W (els.length + news.length) cap1 e)) (W.drew.alloc (.cells ((flatV f1 els.length sz).toArray ++ (flatV f2 news.length sz).toArray ++ Builtin.zeroCells z.cells (grownCap W (els.length + news.length) cap1 e - (els.length + news.length))) e)) := by
              have := run_append_grow_src (P := P) W t tx o.type e inf z ht hi hz1 (some ⟨g, 0, none⟩) els.length cap1 (flatV f1 els.length sz) (run_firstCells_some W.drew inf.size els.length ⟨g, 0, none⟩ els.length cap1 _ (by rw [flatV_length, hisz]) (by simpa using hold)) _ news.length (flatV f2 news.length sz) hsrc (by omega) (by simp only [maxLen] at hmx; omega) (growslice_fits (by omega) hb)
              simpa using this
            have hge := grownCap_ge W (els.length + news.length) cap1 e
            have hcm := grownCap_le_maxLen W (els.length + news.length) cap1 e hmx
            have hnew := heap_alloc_new W.drew (.cells ((flatV f1 els.length sz).toArray ++ (flatV f2 news.length sz).toArray ++ Builtin.zeroCells z.cells (grownCap W (els.length + news.length) cap1 e - (els.length + news.length))) e)
            have hE : Ext W U (W.drew.alloc (.cells ((flatV f1 els.length sz).toArray ++ (flatV f2 news.length sz).toArray ++ Builtin.zeroCells z.cells (grownCap W (els.length + news.length) cap1 e - (els.length + news.length))) e)) (fun k i => if k = W.heap.size then (els.length + news.length) * sz ≤ i else U k i) := by
              have := Ext.alloc W.drew U (.cells ((flatV f1 els.length sz).toArray ++ (flatV f2 news.length sz).toArray ++ Builtin.zeroCells z.cells (grownCap W (els.length + news.length) cap1 e - (els.length + news.length))) e) (fun i => (els.length + news.length) * sz ≤ i)
              exact ⟨(Below.refl _ _).drew.alloc (Nat.le_refl _) _, this.u⟩
            refine key _ _ _ hrun (h'.ext hE) ?_ (fun j hj => Sole.fresh h' hE ?_)
            · refine VR_row' (f := joinF els.length f1 f2) hlen hnew hge hcm hsall (fun i j hi hj => ⟨?_, ?_⟩) (fun o ho hu => ?_) (join_VR (fun i e' j c he hc => (hv1 i e' j c he hc).keep hE.keeps) (fun i e' j c he hc => (hv2 i e' j c he hc).keep hE.keeps))
              · have := join_get (f := f1) (g := f2) (by omega : i < els.length + news.length) hj
                rw [Array.getElem?_append_left (by have h9 := (List.getElem?_eq_some_iff.1 this).1; simpa using h9)]
                simpa using this
              · unfold joinF
                by_cases hil : i < els.length
                · rw [if_pos hil]; exact (hc1 i j hil hj).2.1
                · rw [if_neg hil]; exact (hc2 (i - els.length) j (by omega) hj).2.1
              · have hu' : (els.length + news.length) * sz ≤ o := by simpa using hu
                omega
            · refine .inr ⟨W.heap.size, _, _, by rw [hlen], Nat.le_refl _, hnew, by omega, hcm, ?_, fun o ho hu => ?_, fun o ho => ?_⟩
              · simp only [Array.size_append, List.size_toArray, size_zeroCells, hz2, flatV_length, ← Nat.add_mul]
                congr 1
                omega
              · have hu' : (els.length + news.length) * sz ≤ o := by simpa using hu
                rw [hlen] at ho
                omega
              · rw [hlen] at ho
                simpa using ho
end
end Go.Proofs.YtedcagoilpaafaaDoor
