import Derived.Test.YtobopbjedojebaaK4
import Derived.Maps.RangeRun
import Derived.Test.YtobopbjedojebaaK2
import Derived.Deep.AppendSrc
import Derived.Test.YtobopbjedojebaaK3
/- The abstract machine, beside part 9: maps made, walked. -/
namespace Go.Proofs.Ytobopbjedojebaa
set_option linter.all false
open Go.RowKit

section
variable {P : Program} {N : Nat} {W0 : World} {U0 : Nat → Nat → Prop} {M : Nat → Prop} {a : Act} {W W' : World} {U : Nat → Nat → Prop} {s : St} {o : Oper} {r : AV}
theorem s_mx (h : Inv N W0 U0 M a W U s) {x y : Operand} {X Y : Opd} {ts : Array TypeId} (ho : o.op = .call { callee := .builtin .max, args := ⟨[x, y]⟩, argTypes := ts }) (hx : cOpd x = some X) (hy : cOpd y = some Y) (hr : opR P s (.mx X Y) r) : VOK P a o W U r := by
  obtain ⟨p, c, hp, hn, hb⟩ := hr
  cases p <;> try exact hb.elim
  all_goals cases c <;> try exact hb.elim
  rename_i k1 m k2 n
  have h1 := (cOpd_sound h hx hp).int_inv
  have h2 := (cOpd_sound h hy hn).int_inv
  obtain rfl := (hb : r = .int k1 (if m < n then n else m))
  refine VOK.same (v := .int k1 (if m < n then n else m)) ?_ (.int _ _) (by simp)
  simp [execOp, ho, h1, h2, resolve, invoke, builtin, Builtin.max_, Builtin.max2]
theorem run_newObj (x : Obj) : (newObj x).run P W = .ok W.heap.size (W.alloc x) := rfl
theorem s_app0 (h : Inv N W0 U0 M a W U s) {t e sz : Nat} {inf : TypeInfo} {x : Operand} {X : Opd} (ho : o.op = .call { callee := .builtin .append, args := ⟨[.const (.slice none 0 0), x]⟩, argTypes := ⟨[t, t]⟩ })
    (ht : P.underlying t = some (.slice e)) (hi : P.info? e = some inf) (hisz : inf.size = sz) (hsz : 0 < sz) (hz : zeroSize P e = some sz) (hx : cOpd x = some X) (hr : opR P s (.app0 e sz inf.bytes X) r) : VOK P a o W U r := by
  obtain ⟨own, news, hxv, hb, hmx, rfl⟩ := hr
  have hw := cOpd_sound h hx hxv
  obtain ⟨z, hz1, hz2⟩ : ∃ z, inf.zero = some z ∧ z.cells.size = sz := by
    simp only [zeroSize, hi, Option.bind_some, Option.map_eq_some_iff] at hz
    exact hz
  have key : ∀ v' W' U', (Builtin.append_ #[t, t] o.type #[.slice none 0 0, a.eval x]).run P W = .ok v' W' → VR W' U' v' (.sl (some e) sz news) → Own1 W' U' (W.heap.size ≤ ·) v' (.sl (some e) sz news) → Ext W U W' U' → VOK P a o W U (.sl (some e) sz news) := by
    intro v' W' U' hrun hvr hso hE
    refine ⟨v', W', U', ?_, hE, hvr, hso⟩
    unfold execOp
    simp only [ho, resolve, invoke, builtin, Sem.run_bind, Sem.run_pure, Result.andThen_ok, List.map_toArray, List.map_cons, List.map_nil]
    rw [show (#[Value.slice none 0 0, a.eval x] : Array Value) = ⟨[a.eval (.const (.slice none 0 0)), a.eval x]⟩ from rfl] at hrun
    rw [show (#[t, t] : Array Nat) = ⟨[t, t]⟩ from rfl] at hrun
    rw [hrun]
    rfl
  generalize hxval : a.eval x = xval at *
  cases hw with
  | sl A cap _ _ b2 o2 _ f2 hcap2 hmax2 hA2 hs2 hc2 hv2 =>
    by_cases hm : news.length = 0
    · have hn1 : news = [] := List.eq_nil_of_length_eq_zero hm
      subst hn1
      refine key (.slice none 0 0) W U ?_ (zVR_sound (v := .slice none 0 0) (c := .sl (some e) sz []) rfl W U).1 (.inl ⟨rfl, rfl⟩) (Ext.refl _ _)
      cases A <;> simp [Builtin.append_, run_underlying ht, sizeOf, typeInfo, hi, Builtin.lenOf, Builtin.firstCells, loadCells, loadCellsFrom, storeCells]
    · obtain rfl := hA2 (by omega)
      have hnews' : ∀ p v, (flatV f2 news.length sz)[p]? = some v → W.cell? ((⟨b2, o2, none⟩ : Addr).add p) = some v := by
        intro p v hp
        obtain ⟨q1, q2, rfl, q4⟩ := flatV_some hp
        rw [add_mk, q4, ← Nat.add_assoc]
        have e1 : (p / sz * sz + p % sz) / sz = p / sz := by rw [← q4]
        have e2 : (p / sz * sz + p % sz) % sz = p % sz := by rw [← q4]
        rw [e1, e2]
        exact (hc2 _ _ q1 q2).1
      have h1new : ∀ u ∈ flatV f2 news.length sz, u.oneCell' = true := flat_mem fun i j hi hj => (hc2 i j hi hj).2.1
      have hrun := run_append_nil (P := P) W t o.type e inf z ht hi hz1 ⟨b2, o2, none⟩ news.length cap (flatV f2 news.length sz) (by rw [flatV_length, hisz]) hnews' (by omega) (by simp only [maxLen] at hmx; omega) (by omega)
      have hE : Ext W U (W.drew.alloc (.cells ((flatV f2 news.length sz).toArray ++ Builtin.zeroCells z.cells (grownCap W news.length 0 e - news.length)) e)) (fun k i => if k = W.heap.size then news.length * sz ≤ i else U k i) := by
        have := Ext.alloc W.drew U (.cells ((flatV f2 news.length sz).toArray ++ Builtin.zeroCells z.cells (grownCap W news.length 0 e - news.length)) e) (fun i => news.length * sz ≤ i)
        exact ⟨(Below.refl _ _).drew.alloc (Nat.le_refl _) _, this.u⟩
      have hge := grownCap_ge W news.length 0 e
      have hcm := grownCap_le_maxLen W news.length 0 e hmx
      have hnew := heap_alloc_new W.drew (.cells ((flatV f2 news.length sz).toArray ++ Builtin.zeroCells z.cells (grownCap W news.length 0 e - news.length)) e)
      have hcsz : ((flatV f2 news.length sz).toArray ++ Builtin.zeroCells z.cells (grownCap W news.length 0 e - news.length)).size = grownCap W news.length 0 e * sz := by
        simp only [Array.size_append, List.size_toArray, size_zeroCells, hz2, flatV_length, ← Nat.add_mul]
        congr 1
        omega
      refine key _ _ _ hrun ?_ ?_ hE
      · refine VR_row (f := f2) hnew hge hcm hs2 (fun i j hi hj => ?_) (fun o ho hu => ?_) (fun i e' j c he hc => (hv2 i e' j c he hc).keep hE.keeps)
        · refine ⟨?_, (hc2 i j hi hj).2.1⟩
          have := flatV_get (f := f2) hi hj
          rw [Array.getElem?_append_left (by rw [List.size_toArray]; exact (List.getElem?_eq_some_iff.1 this).1)]
          simpa using this
        · have hu' : news.length * sz ≤ o := by simpa using hu
          omega
      · refine .inr ⟨W.heap.size, _, _, rfl, Nat.le_refl _, hnew, hge, hcm, hcsz, fun o ho hu => ?_, fun o ho => ?_⟩
        · have hu' : news.length * sz ≤ o := by simpa using hu
          omega
        · simpa using ho
theorem none_new (h : Inv N W0 U0 M a W U s) : s.o W.heap.size = none := by
  cases hs : s.o W.heap.size with
  | none => rfl
  | some c => have := h.ob_lt _ _ hs; omega
/-- 'make(map[K]V)'. -/
theorem s_mkm (h : Inv N W0 U0 M a W U s) {d : Option Nat} {t : TypeId} (ho : o.op = .makeMap t none) (hd : ∀ j, d = some j → j < N) (hod : o.dst = d) {K : St → Prop} (hK : mkmW s d K) {next : Act → World → Prop} {Q : Exit → Act → World → Prop}
    (hn : ∀ a' W' U' s', Inv N W0 U0 M a' W' U' s' → K s' → next a' W') : o.wp P a W next Q := by
  have hrun : (execOp a.eval o).run P W = .ok (.value (.map (some W.heap.size))) (W.alloc (.map #[] 0)) := by
    simp [execOp, ho, Instr.makeMap, run_newObj]
  unfold Oper.wp
  rw [hrun, Oper.upon_value, hod]
  refine hn _ _ _ _ ((h.newm ?_ (no_own (by simp))).putO hd (.mapv _) fun j _ => Sole.plain (by simp)) (hK _ (none_new h))
  exact ⟨#[], heap_alloc_new W _, rfl, rfl, rfl, by simp, by simp, fun i e hi => by simp at hi⟩
/-- 'range m'. -/
theorem s_rng (h : Inv N W0 U0 M a W U s) {d : Option Nat} {t k e : TypeId} {x : Operand} {X : Opd} (ho : o.op = .range t x) (ht : P.underlying t = some (.map k e)) (hd : ∀ j, d = some j → j < N) (hod : o.dst = d) (hx : cOpd x = some X) {K : St → Prop} {p : AV} (hp : X.ev s = some p) (hK : rngW s d p K)
    {next : Act → World → Prop} {Q : Exit → Act → World → Prop} (hn : ∀ a' W' U' s', Inv N W0 U0 M a' W' U' s' → K s' → next a' W') : o.wp P a W next Q := by
  cases p <;> try exact hK.elim
  rename_i m
  obtain ⟨kl, vl, bs, clk, hb, hK⟩ := hK
  obtain ⟨⟨es, g1, G⟩, hnc⟩ := h.mpR hb
  have hmv := h.mapv hx hp
  have hrun : (execOp a.eval o).run P W = .ok (.value (.pointer (some ⟨W.heap.size, 0, none⟩))) (W.alloc (.mapIter (some m) clk #[] clk)) := by
    simp [execOp, ho, hmv, Instr.range, run_underlying ht, MapKept.run_getObj_map g1, run_newObj, Result.andThen]
  unfold Oper.wp
  rw [hrun, Oper.upon_value, hod]
  exact hn _ _ _ _ ((h.newm (cs := [.mit m clk [] clk]) (heap_alloc_new W _) (no_own (by simp))).putO hd (.itp _) fun j _ => Sole.plain (by simp)) (hK _ (none_new h))
theorem Inv.itp (h : Inv N W0 U0 M a W U s) {x : Operand} {X : Opd} {b : Nat} (hm : cOpd x = some X) (hx : X.ev s = some (.itp b)) : a.eval x = .pointer (some ⟨b, 0, none⟩) := by
  have := cOpd_sound h hm hx
  generalize a.eval x = v at this
  cases this; rfl
/-- An iterator's step. -/
theorem s_nxt (h : Inv N W0 U0 M a W U s) {d : Option Nat} {x : Operand} {X : Opd} (ho : o.op = .next x false) (hd : ∀ j, d = some j → j < N) (hod : o.dst = d) (hx : cOpd x = some X) {K : St → Prop} {p : AV} (hp : X.ev s = some p) (hK : nxtW s d p K)
    {next : Act → World → Prop} {Q : Exit → Act → World → Prop} (hn : ∀ a' W' U' s', Inv N W0 U0 M a' W' U' s' → K s' → next a' W') : o.wp P a W next Q := by
  cases p <;> try exact hK.elim
  rename_i b
  obtain ⟨m, since, seen, last, kl, vl, bs, clk, hb, hm, ⟨hc1, hc2⟩, hK1, hK2⟩ := hK
  subst hc1
  obtain rfl : clk = last := hc2.symm
  obtain ⟨⟨es, g1, G⟩, hnc⟩ := h.mpR hm
  have hit := h.itp hx hp
  have hbr : W.heap[b]? = some (.mapIter (some m) clk seen.toArray clk) := (h.ob b _ hb).1
  have hncb : ¬ CellsAt W b := by
    rintro ⟨c1, c2, c3, c4⟩
    rw [hbr] at c4; cases c4
  have hlt : b < W.heap.size := (Array.getElem?_eq_some_iff.1 hbr).1
  have born : ∀ (i : Nat) (e : MapEntry), es[i]? = some e → bs[i]? = some e.born ∧ i < kl.length := fun i e hi => by
    have hl : i < es.size := (Array.getElem?_eq_some_iff.1 hi).1
    have := G.g2; have := G.g4
    have hb' : bs[i]? = some (bs[i]'(by omega)) := List.getElem?_eq_getElem (by omega)
    exact ⟨by rw [hb', (G.g7 i e hi).2.2 _ hb'], by omega⟩
  have hold : ∀ e ∈ es.toList, e.born < clk := fun e he => by
    obtain ⟨i, hi⟩ := List.mem_iff_getElem?.1 he
    exact G.g6 _ (List.mem_of_getElem? (born i e (by rw [← Array.getElem?_toList]; exact hi)).1)
  have hrunx : (execOp a.eval o).run P W = ((Instr.next (.pointer (some ⟨b, 0, none⟩)) false o.type).run P W).andThen fun v w => .ok (.value v) w := by
    simp only [execOp, ho, hit]
    simp
  unfold Oper.wp
  rw [hrunx]
  rcases run_next_at (P := P) W o.type b m clk clk seen.toArray es clk hbr g1 hold (Nat.le_refl _) with ⟨h0, hrun⟩ | ⟨e, he, w1, hw1, hrun⟩
  · rw [hrun]
    simp only [Result.andThen]
    rw [Oper.upon_value, hod]
    refine hn _ _ _ _ (h.putO hd (v := .tuple #[.bool false]) (r := .tup [.bool false]) ?_ fun j _ => Sole.plain (by simp)) (hK2 fun n hnb => ?_)
    · have : (Value.tuple #[.bool false]) = .tuple [Value.bool false].toArray := rfl
      rw [this]
      refine .tup _ _ rfl fun i x y hx hy => ?_
      match i with
      | 0 => simp at hx hy; subst hx hy; exact .bool _
      | i + 1 => simp at hx
    · obtain ⟨i, hi⟩ := List.mem_iff_getElem?.1 hnb
      have hl : i < es.size := by have := (List.getElem?_eq_some_iff.1 hi).1; have := G.g2; have := G.g4; omega
      have hei := Array.getElem?_eq_getElem hl
      have hbn := (born i _ hei).1
      rw [hi] at hbn
      have hnn : n = es[i].born := Option.some.inj hbn
      have hempty : leftOf es seen.toArray = #[] := Array.eq_empty_of_size_eq_zero h0
      unfold leftOf at hempty
      rw [Array.filter_eq_empty_iff] at hempty
      have := hempty es[i] (Array.getElem_mem hl)
      simp at this
      rw [hnn]; exact this
  · rw [hrun]
    simp only [Result.andThen]
    rw [Oper.upon_value, hod]
    unfold leftOf at he
    simp only [Array.toList_filter, List.mem_filter] at he
    obtain ⟨he1, he2⟩ := he
    obtain ⟨i, hi⟩ := List.mem_iff_getElem?.1 he1
    have hei : es[i]? = some e := by rw [← Array.getElem?_toList]; exact hi
    obtain ⟨hbi, hik⟩ := born i e hei
    have hns : e.born ∉ seen := by simpa using he2
    have hwU : ∃ W1 : World, W1 = w1 ∧ Inv N W0 U0 M a W1 U s := by
      rcases hw1 with rfl | rfl
      · exact ⟨_, rfl, h⟩
      · exact ⟨_, rfl, h.ext (Ext.refl W U).drew⟩
    obtain ⟨W1, rfl, h1⟩ := hwU
    have hbr1 : W1.heap[b]? = some (.mapIter (some m) clk seen.toArray clk) := (h1.ob b _ hb).1
    have hncb1 : ¬ CellsAt W1 b := by
      rintro ⟨c1, c2, c3, c4⟩
      rw [hbr1] at c4; cases c4
    have hlt1 : b < W1.heap.size := (Array.getElem?_eq_some_iff.1 hbr1).1
    obtain ⟨⟨es1, g1', G1⟩, _⟩ := h1.mpR hm
    have hes : es1 = es := by
      have : W1.heap = W.heap := by rcases hw1 with rfl | rfl <;> rfl
      rw [this, g1] at g1'
      cases g1'; rfl
    subst hes
    have hkl := G1.g3
    have hK' := setB_keeps (U := U) (.mapIter (some m) clk (seen.toArray.push e.born) clk) hncb1
    obtain ⟨a1, a2, _⟩ := G1.g7 i e hei
    have hkv := a1 _ (getD_get (d := .undef) hik)
    have hvv := a2 _ (getD_get (d := .undef) (by omega : i < vl.length))
    have hset : ChangeMaps.setBlock W1 b (.mapIter (some m) clk (seen.toArray.push e.born) clk) = setB W1 b (.mapIter (some m) clk (seen.toArray.push e.born) clk) := rfl
    rw [hset]
    refine hn _ _ _ _ ((h1.setm hb hncb1 (cs' := [.mit m clk (seen ++ [e.born]) clk]) ?_ (no_own (by simp))).putO hd (v := .tuple #[.bool true, e.key, e.val]) (r := .tup [.bool true, kl.getD i .undef, vl.getD i .undef]) ?_ fun j _ => Sole.plain (by simp)) (hK1 i e.born hbi hns)
    · show (setB W1 b _).heap[b]? = _
      rw [setB_same _ hlt1]; simp
    · have : (Value.tuple #[.bool true, e.key, e.val]) = .tuple [Value.bool true, e.key, e.val].toArray := rfl
      rw [this]
      refine .tup _ _ rfl fun i' x y hx hy => ?_
      match i' with
      | 0 => simp at hx hy; subst hx hy; exact .bool _
      | 1 => simp [-List.getD_eq_getElem?_getD] at hx hy; subst hx hy; exact hkv.keep hK'
      | 2 => simp [-List.getD_eq_getElem?_getD] at hx hy; subst hx hy; exact hvv.keep hK'
      | i' + 3 => simp at hx
/-- The entry at which an iterator stands. -/
theorem s_ent (h : Inv N W0 U0 M a W U s) {x : Operand} {X : Opd} (ho : o.op = .entry x) (hx : cOpd x = some X) (hr : opR P s (.ent X) r) : VOK P a o W U r := by
  obtain ⟨p, hp, hr⟩ := hr
  cases p <;> try exact hr.elim
  rename_i b
  obtain ⟨m, since, seen, last, kl, vl, bs, clk, i, n, hb, hm, rfl, hs, hbi, rfl⟩ := hr
  obtain ⟨⟨es, g1, G⟩, hnc⟩ := h.mpR hm
  have hit := h.itp hx hp
  have hbr : W.heap[b]? = some (.mapIter (some m) since seen.toArray clk) := (h.ob b _ hb).1
  have hil : i < es.size := by have := (List.getElem?_eq_some_iff.1 hbi).1; have := G.g2; have := G.g4; omega
  have hei := Array.getElem?_eq_getElem hil
  obtain ⟨a1, a2, a3⟩ := G.g7 i _ hei
  have hbn := a3 n hbi
  have hne : seen ≠ [] := by rintro rfl; cases hs
  have hsp : seen.toArray = (seen.dropLast.toArray).push es[i].born := by
    have : seen = seen.dropLast ++ [n] := by
      have h2 := List.dropLast_concat_getLast hne
      rw [List.getLast?_eq_some_getLast hne] at hs
      rw [Option.some.inj hs] at h2
      exact h2.symm
    rw [hbn]
    conv => lhs; rw [this]
    simp
  rw [hsp] at hbr
  have hnd : (es.toList.map (·.born)).Nodup := by
    have e1 : es.toList.map (·.born) = bs := by
      apply List.ext_getElem?
      intro j
      rw [List.getElem?_map]
      cases hj : es.toList[j]? with
      | none =>
        have : es.size ≤ j := by simpa using hj
        have := G.g2; have := G.g4
        rw [List.getElem?_eq_none (by omega)]; rfl
      | some e =>
        have hej : es[j]? = some e := by rw [← Array.getElem?_toList]; exact hj
        have hl : j < bs.length := by have := (Array.getElem?_eq_some_iff.1 hej).1; have := G.g2; have := G.g4; omega
        have := (G.g7 j e hej).2.2 _ (List.getElem?_eq_getElem hl)
        rw [List.getElem?_eq_getElem hl, Option.map_some, this]
    rw [e1]
    exact G.g5.imp fun h => Nat.ne_of_lt h
  have hrun := run_entry_at (P := P) W b m since seen.dropLast.toArray es clk es[i] hbr g1 (by simp) hnd
  have hik : i < kl.length := by have := G.g2; omega
  have hiv : i < vl.length := by have := G.g2; have := G.g3; omega
  refine VOK.same (v := .tuple #[es[i].key, es[i].val]) ?_ ((a1 _ (getD_get (d := .undef) hik)).tup2 (a2 _ (getD_get (d := .undef) hiv))) (by simp)
  simp only [execOp, ho, hit]
  simp [hrun]
end
end Go.Proofs.Ytobopbjedojebaa

/- The abstract machine, part 7b: append of a string. -/
namespace Go.Proofs.Ytobopbjedojebaa
set_option linter.all false
open Go.RowKit

section
variable {P : Program} {N : Nat} {W0 : World} {U0 : Nat → Nat → Prop} {M : Nat → Prop} {a : Act} {W : World} {U : Nat → Nat → Prop} {s : St} {o : Oper} {r : AV}
/-- **A string's bytes onto an own row.** -/
theorem s_apps (h : Inv N W0 U0 M a W U s) {t tx e i : Nat} {inf : TypeInfo} {x : Operand} {X : Opd} {d : Option Nat} (ho : o.op = .call { callee := .builtin .append, args := ⟨[.tmp i, x]⟩, argTypes := ⟨[t, tx]⟩ }) (hod : o.dst = d) (hd : ∀ j, d = some j → j < N)
    (ht : P.underlying t = some (.slice e)) (hi : P.info? e = some inf) (htx : P.underlying tx = some .string) (hisz : inf.size = 1) (hz : zeroSize P e = some 1) (hx : cOpd x = some X) (hr : opR P s (.apps e inf.bytes i X) r) {next : Act → World → Prop} {Q : Exit → Act → World → Prop}
    (hn : ∀ a' W' U', Inv N W0 U0 M a' W' U' (eff d (.apps e inf.bytes i X) r s) → next a' W') : o.wp P a W next Q := by
  obtain ⟨els, l, hs0, hxv, hb0, hmx0, rfl⟩ := hr
  obtain ⟨sz, hsz1⟩ : ∃ sz, sz = 1 := ⟨_, rfl⟩
  have hsz : 0 < sz := by omega
  rw [← hsz1] at hz hisz hs0
  obtain ⟨news, hnews0⟩ : ∃ news, news = l.map byteEl := ⟨_, rfl⟩
  have hnl : news.length = l.length := by rw [hnews0]; simp
  rw [← hsz1, ← hnews0] at hn
  have hb : (els.length + news.length) * inf.bytes ≤ 140737488355328 := by rw [hnl]; exact hb0
  have hmx : els.length + news.length ≤ maxLen := by rw [hnl]; exact hmx0
  have hv := h.tv i _ hs0
  have hw := cOpd_sound h hx hxv
  have hown := h.ow (.t i) _ hs0
  simp only [Own1, cat] at hown
  obtain ⟨z, hz1, hz2⟩ : ∃ z, inf.zero = some z ∧ z.cells.size = sz := by
    simp only [zeroSize, hi, Option.bind_some, Option.map_eq_some_iff] at hz
    exact hz
  -- it is enough to know what the append gives
  have key : ∀ v' W' U', (Builtin.append_ #[t, tx] o.type #[a.eval (.tmp i), a.eval x]).run P W = .ok v' W' → Inv N W0 U0 M a W' U' { s with t := upd s.t i none } → VR W' U' v' (.sl (some e) sz (els ++ news)) →
      (∀ j, d = some j → Sole W0 M a W' U' { s with t := upd s.t i none } j v' (.sl (some e) sz (els ++ news))) → o.wp P a W next Q := by
    intro v' W' U' hrun hinv hvr hso
    unfold Oper.wp execOp
    simp only [ho, resolve, invoke, builtin, Sem.run_bind, Sem.run_pure, Result.andThen_ok, List.map_toArray, List.map_cons, List.map_nil]
    rw [show (#[a.eval (.tmp i), a.eval x] : Array Value) = ⟨[a.eval (.tmp i), a.eval x]⟩ from rfl] at hrun
    rw [show (#[t, tx] : Array Nat) = ⟨[t, tx]⟩ from rfl] at hrun
    rw [hrun]
    simp only [Result.andThen_ok, Oper.upon, hod]
    exact hn _ _ _ (hinv.putO hd hvr hso)
  have hle : Le { s with t := upd s.t i none } s := ⟨fun j v hj => by
    by_cases hji : j = i
    · subst hji; simp [upd] at hj
    · simpa [upd, hji] using hj, fun _ _ hj => hj⟩
  have h' := h.le hle
  have hother : ∀ ℓ e' sz' els', St.at { s with t := upd s.t i none } ℓ = some (.sl (some e') sz' els') → ℓ ≠ .t i ∧ s.at ℓ = some (.sl (some e') sz' els') := by
    intro ℓ e' sz' els' hl
    refine ⟨fun he => ?_, hle.at_ hl⟩
    subst he
    simp [St.at, upd] at hl
  generalize hval : a.eval (.tmp i) = val at *
  have hval' : a.tmps.getD i undef = val := hval
  rw [hval'] at hv hown
  have hxs : a.eval x = .string ⟨l.toArray⟩ := hw.str_inv
  rw [hxs] at key
  obtain ⟨f2, hf2⟩ : ∃ f2 : Nat → Nat → Value, f2 = fun i _ => .int .u8 ((l.getD i 0).toNat : Int) := ⟨_, rfl⟩
  have hs2 : ∀ e ∈ news, e.length = sz := by
    intro e' he'
    rw [hnews0] at he'
    obtain ⟨b, _, rfl⟩ := List.mem_map.1 he'
    simp [byteEl, hsz1]
  have hc2 : ∀ i j, i < news.length → j < sz → True ∧ (f2 i j).oneCell' = true ∧ True := fun i j _ _ => by subst hf2; exact ⟨trivial, rfl, trivial⟩
  have hv2 : ∀ (i : Nat) (e : List AV) (j : Nat) (c : AV), news[i]? = some e → e[j]? = some c → VR W U (f2 i j) c := by
    intro i e' j c he hc
    rw [hnews0, List.getElem?_map, Option.map_eq_some_iff] at he
    obtain ⟨b, hb', rfl⟩ := he
    cases j with
    | succ j => simp [byteEl] at hc
    | zero =>
      simp [byteEl] at hc
      subst hc
      rw [hf2]
      have : l.getD i 0 = b := by simp [List.getD, hb']
      simp only [this]
      exact .int _ _
  have hflat : flatV f2 news.length sz = byteCells ⟨l.toArray⟩ := by
    rw [hf2, hsz1, hnl]
    apply List.ext_getElem?
    intro p
    simp only [flatV, byteCells, Nat.mul_one, Nat.div_one, List.getElem?_map]
    by_cases hp : p < l.length
    · simp [hp, List.getD]
    · simp [hp]
  have hsrc : Src P inf.size tx (.string ⟨l.toArray⟩) news.length (flatV f2 news.length sz) W := by
    rw [hflat, hisz, hsz1]
    have := Src.ofString (P := P) W htx ⟨l.toArray⟩
    rwa [size_str, ← hnl] at this
  have h1new : ∀ u ∈ flatV f2 news.length sz, u.oneCell' = true := hsrc.one
  cases hv with
  | sl A1 cap1 _ _ b1 o1 _ f1 hcap1 hmax1 hA1 hs1 hc1 hv1 =>
      have hsall : ∀ e ∈ els ++ news, e.length = sz := by
        intro e' he'
        rcases List.mem_append.1 he' with he' | he'
        · exact hs1 e' he'
        · exact hs2 e' he'
      have hlen : (els ++ news).length = els.length + news.length := List.length_append
      ·
        rcases hown with ⟨hnil, hn0⟩ | ⟨g, capg, cur, hsl, hB, hgh, hgc, hgm, hgs, hgU1, hgU2⟩
        · -- the row is nil
          have he0 : els = [] := List.eq_nil_of_length_eq_zero hn0
          subst he0
          simp only [List.nil_append, List.length_nil, Nat.zero_add] at key hn hmx hb hlen hnil ⊢
          injection hnil with q1 q2 q3
          subst q1 q3
          by_cases hm : news.length = 0
          · have hn1 : news = [] := List.eq_nil_of_length_eq_zero hm
            subst hn1
            refine key (.slice none 0 0) W U ?_ h' (zVR_sound (v := .slice none 0 0) (c := .sl (some e) sz []) rfl W U).1 (fun j hj e' sz' els' he' => ?_)
            · have hl0 : l = [] := List.eq_nil_of_length_eq_zero (by rw [← hnl]; rfl)
              subst hl0
              simp [Builtin.append_, run_underlying ht, run_underlying htx, sizeOf, typeInfo, hi, Builtin.lenOf, Builtin.firstCells, ByteArray.size]
            · cases he'
              exact ⟨.inl ⟨rfl, rfl⟩, fun g hg => by simp [Value.ownBlock] at hg⟩
          · have hrun : (Builtin.append_ #[t, tx] o.type #[.slice none 0 0, .string ⟨l.toArray⟩]).run P W = .ok (.slice (some ⟨W.heap.size, 0, none⟩) news.length (grownCap W news.length 0 e)) (W.drew.alloc (.cells ((flatV f2 news.length sz).toArray ++ Builtin.zeroCells z.cells (grownCap W news.length 0 e - news.length)) e)) := by
              have := run_append_grow_src (P := P) W t tx o.type e inf z ht hi hz1 none 0 0 [] (by simp [Builtin.firstCells]) _ news.length (flatV f2 news.length sz) hsrc (by omega) (by simp only [maxLen] at hmx; omega) (growslice_fits (by omega) (by simpa using hb))
              simpa using this
            have hE : Ext W U (W.drew.alloc (.cells ((flatV f2 news.length sz).toArray ++ Builtin.zeroCells z.cells (grownCap W news.length 0 e - news.length)) e)) (fun k i => if k = W.heap.size then news.length * sz ≤ i else U k i) := by
              have := Ext.alloc W.drew U (.cells ((flatV f2 news.length sz).toArray ++ Builtin.zeroCells z.cells (grownCap W news.length 0 e - news.length)) e) (fun i => news.length * sz ≤ i)
              exact ⟨(Below.refl _ _).drew.alloc (Nat.le_refl _) _, this.u⟩
            have hge := grownCap_ge W news.length 0 e
            have hcm := grownCap_le_maxLen W news.length 0 e hmx
            have hnew := heap_alloc_new W.drew (.cells ((flatV f2 news.length sz).toArray ++ Builtin.zeroCells z.cells (grownCap W news.length 0 e - news.length)) e)
            have hcsz : ((flatV f2 news.length sz).toArray ++ Builtin.zeroCells z.cells (grownCap W news.length 0 e - news.length)).size = grownCap W news.length 0 e * sz := by
              simp only [Array.size_append, List.size_toArray, size_zeroCells, hz2, flatV_length, ← Nat.add_mul]
              congr 1
              omega
            refine key _ _ _ hrun (h'.ext hE) ?_ (fun j hj => Sole.fresh h' hE ?_)
            · refine VR_row (f := f2) hnew hge hcm hs2 (fun i j hi hj => ?_) (fun o ho hu => ?_) (fun i e' j c he hc => (hv2 i e' j c he hc).keep hE.keeps)
              · refine ⟨?_, (hc2 i j hi hj).2.1⟩
                have := flatV_get (f := f2) hi hj
                rw [Array.getElem?_append_left (by rw [List.size_toArray]; exact (List.getElem?_eq_some_iff.1 this).1)]
                simpa using this
              · have hu' : news.length * sz ≤ o := by simpa using hu
                omega
            · refine .inr ⟨W.heap.size, _, _, rfl, Nat.le_refl _, hnew, hge, hcm, hcsz, fun o ho hu => ?_, fun o ho => ?_⟩
              · have hu' : news.length * sz ≤ o := by simpa using hu
                omega
              · simpa using ho
        · -- a row of its own
          have hb1 : 0 < els.length → b1 = g ∧ o1 = 0 := fun hp => by
            have := hA1 hp
            rw [this] at hsl
            injection hsl with h1 h2 h3
            injection h1 with h1
            injection h1 with h1 h2
            exact ⟨h1, h2⟩
          have hcur : ∀ i j, i < els.length → j < sz → cur[i * sz + j]? = some (f1 i j) := by
            intro i j hi hj
            obtain ⟨rfl, rfl⟩ := hb1 (by omega)
            have := (hc1 i j hi hj).1
            rw [Nat.zero_add] at this
            rw [← this, cell_of_row W b1 _ cur e (0, 0) hgh]
          have hold : ∀ p v, (flatV f1 els.length sz)[p]? = some v → W.cell? ((⟨g, 0, none⟩ : Addr).add p) = some v := by
            intro p v hp
            obtain ⟨q1, q2, rfl, q4⟩ := flatV_some hp
            rw [add_mk, Nat.zero_add, cell_of_row W g p cur e (0, 0) hgh]
            have := hcur _ _ q1 q2
            rw [← q4] at this
            exact this
          injection hsl with hA1' hlen1 hcap1'
          subst hA1' hcap1'
          have hnog : s.o g = none := h.no (.t i) _ _ _ hs0 g (by simp only [cat, hval']; rfl)
          have hapg : ∀ ℓ e' sz' els', St.at { s with t := upd s.t i none } ℓ = some (.sl (some e') sz' els') → (cat a W ℓ).ownBlock ≠ some g := fun ℓ e' sz' els' hl => by
            obtain ⟨hne, hl'⟩ := hother ℓ _ _ _ hl
            exact h.ap (.t i) ℓ _ _ _ _ _ _ (Ne.symm hne) hs0 hl' g (by simp only [cat, hval']; rfl)
          by_cases hroom : els.length + news.length ≤ cap1
          · -- in place
            have hfit : els.length * inf.size + (flatV f2 news.length sz).length ≤ cur.size := by
              rw [flatV_length, hgs, hisz, ← Nat.add_mul]
              exact Nat.mul_le_mul_right _ hroom
            have hrun : (Builtin.append_ #[t, tx] o.type #[.slice (some ⟨g, 0, none⟩) els.length cap1, .string ⟨l.toArray⟩]).run P W = .ok (.slice (some ⟨g, 0, none⟩) (els.length + news.length) cap1) (W.setRow g (cur.toList.take (els.length * inf.size) ++ flatV f2 news.length sz ++ cur.toList.drop (els.length * inf.size + (flatV f2 news.length sz).length)).toArray) := by
              have hst := run_storeCells_at P g (els.length * inf.size) e (flatV f2 news.length sz) 0 cur W hgh (by simpa using hfit) h1new
              simp only [Nat.add_zero] at hst
              have hadd : (⟨g, 0, none⟩ : Addr).add (els.length * inf.size) = ⟨g, els.length * inf.size, none⟩ := by rw [add_mk, Nat.zero_add]
              have hlen' := hsrc.len
              have hcel' := hsrc.cells
              simp only [Builtin.append_, List.getElem?_toArray, List.getElem?_cons_zero, List.getElem?_cons_succ, Sem.run_bind, run_underlying ht, run_underlying htx, sizeOf, typeInfo, hi, hlen', hcel', Result.andThen_ok]
              simp [hroom, hlen', hcel', hadd, hst, hi]
            rw [hisz] at hrun hfit
            have hnew := setRow_heap W g cur (cur.toList.take (els.length * sz) ++ flatV f2 news.length sz ++ cur.toList.drop (els.length * sz + (flatV f2 news.length sz).length)).toArray e (0, 0) hgh
            have htk : (cur.toList.take (els.length * sz)) = flatV f1 els.length sz := by
              apply List.ext_getElem?
              intro p
              rcases Nat.lt_or_ge p (els.length * sz) with hp | hp
              · have hp' : p / sz < els.length := (Nat.div_lt_iff_lt_mul hsz).2 hp
                have e4 : p = p / sz * sz + p % sz := by have := Nat.div_add_mod p sz; rw [Nat.mul_comm] at this; omega
                rw [List.getElem?_take, if_pos hp, e4, flatV_get hp' (Nat.mod_lt _ hsz)]
                simpa using hcur _ _ hp' (Nat.mod_lt _ hsz)
              · rw [List.getElem?_eq_none (by simp; omega), List.getElem?_eq_none (by rw [flatV_length]; exact hp)]
            rw [htk] at hrun hnew
            have hcell : ∀ i j, i < els.length + news.length → j < sz → (flatV f1 els.length sz ++ flatV f2 news.length sz ++ cur.toList.drop (els.length * sz + (flatV f2 news.length sz).length)).toArray[i * sz + j]? = some (joinF els.length f1 f2 i j) := by
              intro i j hi hj
              have := join_get (f := f1) (g := f2) hi hj
              rw [List.getElem?_toArray, List.getElem?_append_left (List.getElem?_eq_some_iff.1 this).1]
              exact this
            have hK : Keeps W U (W.setRow g (flatV f1 els.length sz ++ flatV f2 news.length sz ++ cur.toList.drop (els.length * sz + (flatV f2 news.length sz).length)).toArray) (fun k i => if k = g then (els.length + news.length) * sz ≤ i else U k i) := by
              refine ⟨fun b' o' v hc hu => ?_, fun b' ⟨c1, c2, c3, c4⟩ => ?_⟩
              rotate_left
              · by_cases hne : b' = g
                · subst hne; exact ⟨_, _, _, hnew⟩
                · exact ⟨c1, c2, c3, (setRow_other W g b' _ hne).trans c4⟩
              by_cases hbg : b' = g
              · subst hbg
                have hlt : o' < els.length * sz := by
                  rcases Nat.lt_or_ge o' (els.length * sz) with hl | hl
                  · exact hl
                  · exact absurd (hgU2 o' hl) hu
                have e4 : o' = o' / sz * sz + o' % sz := by have := Nat.div_add_mod o' sz; rw [Nat.mul_comm] at this; omega
                have hp' : o' / sz < els.length := (Nat.div_lt_iff_lt_mul hsz).2 hlt
                refine ⟨?_, ?_⟩
                · rw [cell_of_row _ b' o' _ e (0, 0) hnew]
                  rw [cell_of_row W b' o' cur e (0, 0) hgh] at hc
                  have h5 := hcell (o' / sz) (o' % sz) (by omega) (Nat.mod_lt _ hsz)
                  have h6 := hcur _ _ hp' (Nat.mod_lt o' hsz)
                  rw [← e4] at h5 h6
                  rw [h5, ← hc, h6]
                  simp [joinF, hp']
                · simp only [if_true]
                  rw [Nat.add_mul]
                  omega
              · refine ⟨?_, by simpa [hbg] using hu⟩
                rw [World.cell?_of_block (w := W) (a := ⟨b', o', none⟩) (setRow_other W g b' _ hbg)]
                exact hc
            refine key _ _ (fun k i => if k = g then (els.length + news.length) * sz ≤ i else U k i) hrun
              (h'.turn hB hnog hapg hK rfl rfl rfl (by simp) (fun k _ hk => setRow_other W g k _ hk) (fun k _ hk o => by simp [hk])) ?_ (fun j hj e' sz' els' he' => ?_)
            · refine VR_row' (f := joinF els.length f1 f2) hlen hnew hroom hgm hsall (fun i j hi hj => ⟨hcell i j hi hj, ?_⟩) (fun o ho hu => ?_) (join_VR (fun i e' j c he hc => (hv1 i e' j c he hc).keep hK) (fun i e' j c he hc => (hv2 i e' j c he hc).keep hK))
              · unfold joinF
                by_cases hil : i < els.length
                · rw [if_pos hil]; exact (hc1 i j hil hj).2.1
                · rw [if_neg hil]; exact (hc2 (i - els.length) j (by omega) hj).2.1
              · simp only [if_true] at hu
                omega
            · cases he'
              refine ⟨.inr ⟨g, cap1, _, by rw [hlen], hB, hnew, by omega, hgm, ?_, fun o ho hu => ?_, fun o ho => ?_⟩, fun g' hg' => ?_⟩
              · simp only [List.size_toArray, List.length_append, List.length_drop, Array.length_toList, flatV_length] at hfit ⊢
                omega
              · simp only [if_true] at hu
                rw [hlen] at ho
                omega
              · simp only [if_true]
                rw [hlen] at ho
                exact ho
              · obtain rfl : g = g' := by simpa [Value.ownBlock] using hg'
                refine ⟨hnog, fun ℓ _ ⟨e2, sz2, els2, hl⟩ => ?_⟩
                have hcat : cat a (W.setRow g (flatV f1 els.length sz ++ flatV f2 news.length sz ++ cur.toList.drop (els.length * sz + (flatV f2 news.length sz).length)).toArray) ℓ = cat a W ℓ := by
                  cases ℓ with
                  | t i => rfl
                  | o b j =>
                    have hl2 := hl
                    simp only [St.at, Option.bind_eq_some_iff] at hl2
                    obtain ⟨cs, e1, _⟩ := hl2
                    have hne : b ≠ g := by rintro rfl; rw [hnog] at e1; cases e1
                    simp only [cat, setRow_other W g b _ hne]
                rw [hcat]
                exact hapg ℓ _ _ _ hl
          · -- a new row
            have hrun : (Builtin.append_ #[t, tx] o.type #[.slice (some ⟨g, 0, none⟩) els.length cap1, .string ⟨l.toArray⟩]).run P W = .ok (.slice (some ⟨W.heap.size, 0, none⟩) (els.length + news.length) (grownCap W (els.length + news.length) cap1 e)) (W.drew.alloc (.cells ((flatV f1 els.length sz).toArray ++ (flatV f2 news.length sz).toArray ++ Builtin.zeroCells z.cells (grownCap W (els.length + news.length) cap1 e - (els.length + news.length))) e)) := by
              have := run_append_grow_src (P := P) W t tx o.type e inf z ht hi hz1 (some ⟨g, 0, none⟩) els.length cap1 (flatV f1 els.length sz) (run_firstCells_some W.drew inf.size els.length ⟨g, 0, none⟩ els.length cap1 _ (by rw [flatV_length, hisz]) (by simpa using hold)) _ news.length (flatV f2 news.length sz) hsrc (by omega) (by simp only [maxLen] at hmx; omega) (growslice_fits (by omega) hb)
              simpa using this
            have hge := grownCap_ge W (els.length + news.length) cap1 e
            have hcm := grownCap_le_maxLen W (els.length + news.length) cap1 e hmx
            have hnew := heap_alloc_new W.drew (.cells ((flatV f1 els.length sz).toArray ++ (flatV f2 news.length sz).toArray ++ Builtin.zeroCells z.cells (grownCap W (els.length + news.length) cap1 e - (els.length + news.length))) e)
            have hE : Ext W U (W.drew.alloc (.cells ((flatV f1 els.length sz).toArray ++ (flatV f2 news.length sz).toArray ++ Builtin.zeroCells z.cells (grownCap W (els.length + news.length) cap1 e - (els.length + news.length))) e)) (fun k i => if k = W.heap.size then (els.length + news.length) * sz ≤ i else U k i) := by
              have := Ext.alloc W.drew U (.cells ((flatV f1 els.length sz).toArray ++ (flatV f2 news.length sz).toArray ++ Builtin.zeroCells z.cells (grownCap W (els.length + news.length) cap1 e - (els.length + news.length))) e) (fun i => (els.length + news.length) * sz ≤ i)
              exact ⟨(Below.refl _ _).drew.alloc (Nat.le_refl _) _, this.u⟩
            refine key _ _ _ hrun (h'.ext hE) ?_ (fun j hj => Sole.fresh h' hE ?_)
            · refine VR_row' (f := joinF els.length f1 f2) hlen hnew hge hcm hsall (fun i j hi hj => ⟨?_, ?_⟩) (fun o ho hu => ?_) (join_VR (fun i e' j c he hc => (hv1 i e' j c he hc).keep hE.keeps) (fun i e' j c he hc => (hv2 i e' j c he hc).keep hE.keeps))
              · have := join_get (f := f1) (g := f2) (by omega : i < els.length + news.length) hj
                rw [Array.getElem?_append_left (by have h9 := (List.getElem?_eq_some_iff.1 this).1; simpa using h9)]
                simpa using this
              · unfold joinF
                by_cases hil : i < els.length
                · rw [if_pos hil]; exact (hc1 i j hil hj).2.1
                · rw [if_neg hil]; exact (hc2 (i - els.length) j (by omega) hj).2.1
              · have hu' : (els.length + news.length) * sz ≤ o := by simpa using hu
                omega
            · refine .inr ⟨W.heap.size, _, _, by rw [hlen], Nat.le_refl _, hnew, by omega, hcm, ?_, fun o ho hu => ?_, fun o ho => ?_⟩
              · simp only [Array.size_append, List.size_toArray, size_zeroCells, hz2, flatV_length, ← Nat.add_mul]
                congr 1
                omega
              · have hu' : (els.length + news.length) * sz ≤ o := by simpa using hu
                rw [hlen] at ho
                omega
              · rw [hlen] at ho
                simpa using ho
end
end Go.Proofs.Ytobopbjedojebaa

/- The abstract machine, part 10: one operation, whatever it is; its guard. -/
namespace Go.Proofs.Ytobopbjedojebaa
set_option linter.all false
open Go.RowKit

section
variable {P : Program} {N : Nat} {W0 : World} {U0 : Nat → Nat → Prop} {M : Nat → Prop} {a : Act} {W : World} {U : Nat → Nat → Prop} {s : St} {o : Oper} {r : AV} {R : Nat}

theorem wp_of_VOK (h : Inv N W0 U0 M a W U s) (hV : VOK P a o W U r) {d : Option Nat} (hod : o.dst = d) (hd : ∀ j, d = some j → j < N) {next : Act → World → Prop} {Q : Exit → Act → World → Prop}
    (hn : ∀ a' W' U', Inv N W0 U0 M a' W' U' (s.put d r) → next a' W') : o.wp P a W next Q := by
  obtain ⟨v, W', U', hrun, hE, hv, ho⟩ := hV
  unfold Oper.wp
  rw [hrun, Oper.upon_value, hod]
  exact hn _ _ _ ((h.ext hE).putO hd hv fun j _ => Sole.fresh h hE ho)

theorem cMove_sound (h : Inv N W0 U0 M a W U s) {ops : List Oper} {take : Bool} {x : Operand} {k : AK} (ho : o.op = .move x ∨ o.op = .assign x) (hk : cMove P ops o take x = some k) (hd : ∀ j, o.dst = some j → j < N) {K : St → Prop} (hK : kW P o.dst k s K)
    {next : Act → World → Prop} {Q : Exit → Act → World → Prop} (hn : ∀ a' W' U' s', Inv N W0 U0 M a' W' U' s' → K s' → next a' W') : o.wp P a W next Q := by
  unfold cMove at hk
  split at hk
  · cases hk
    obtain ⟨r, hr, hK⟩ := hK
    exact wp_of_VOK h (s_nil ho rfl hr) rfl hd fun a' W' U' hi => hn _ _ _ _ hi hK
  · split at hk
    · split at hk
      · cases hk
      · rename_i hne
        cases hk
        obtain ⟨r, hr, hK⟩ := hK
        exact s_tk h ho rfl hd hne hr fun a' W' U' hi => hn _ _ _ _ hi hK
    · cases hk
      obtain ⟨r, hr, hK⟩ := hK
      exact wp_of_VOK h (s_mv h ho (x := .tmp _) rfl hr) rfl hd fun a' W' U' hi => hn _ _ _ _ hi hK
  · obtain ⟨X, hx, rfl⟩ := Option.map_eq_some_iff.1 hk
    obtain ⟨r, hr, hK⟩ := hK
    exact wp_of_VOK h (s_mv h ho hx hr) rfl hd fun a' W' U' hi => hn _ _ _ _ hi hK

theorem cOpdT_tmp {t : TypeId} {x : Operand} {i : Nat} (hx : cOpdT P t x = some (.t i)) : x = .tmp i := by
  unfold cOpdT at hx
  split at hx
  · split at hx
    · simp at hx
    · cases hx
  · cases x <;> simp [cOpd] at hx
    rw [hx]
theorem kind_sound (h : Inv N W0 U0 M a W U s) {ops : List Oper} {k : AK} (hk : cKind P R ops o = some k) (hd : ∀ j, o.dst = some j → j < N) {K : St → Prop} (hK : kW P o.dst k s K)
    {next : Act → World → Prop} {Q : Exit → Act → World → Prop} (hn : ∀ a' W' U' s', Inv N W0 U0 M a' W' U' s' → K s' → next a' W') : o.wp P a W next Q := by
  have val : ∀ {r : AV}, VOK P a o W U r → K (s.put o.dst r) → o.wp P a W next Q := fun hV hK => wp_of_VOK h hV rfl hd fun a' W' U' hi => hn _ _ _ _ hi hK
  unfold cKind at hk
  split at hk
  case h_1 x ho => exact cMove_sound h (.inl ho) hk hd hK hn
  case h_2 x ho => exact cMove_sound h (.inr ho) hk hd hK hn
  case h_3 t ho =>
    cases hz : zeroOf P t with
    | none => simp [hz] at hk
    | some z =>
      simp only [hz] at hk
      split at hk
      · rename_i hh
        cases hk
        exact s_newv h ho hd rfl hz hh hK hn
      · cases hk
  case h_4 t x ho =>
    cases hx : cOpd x with
    | none => simp [hx] at hk
    | some X =>
      simp only [hx, Option.map_some, Option.some.injEq] at hk
      subst hk
      exact s_box h ho hd rfl hx hK hn
  case h_5 t x ho =>
    split at hk
    · rename_i n X h1 h2
      cases ht : takes P R ops o t n with
      | false =>
        simp only [ht, Bool.false_eq_true, if_false, Option.some.injEq] at hk
        split at hk
        · subst hk
          obtain ⟨r, ⟨cs, hp, hl⟩, hK⟩ := hK
          exact val (s_ld h ho h1 h2 (r := r) ⟨_, cs, hp, rfl, hl⟩) hK
        · subst hk
          obtain ⟨r, hr, hK⟩ := hK
          exact val (s_ld h ho h1 h2 hr) hK
      | true =>
        simp only [ht, if_true, Option.some.injEq] at hk
        subst hk
        have hnn : n = none := by
          simp only [takes, Bool.and_eq_true] at ht
          exact Option.isNone_iff_eq_none.1 ht.2
        subst hnn
        obtain ⟨p, hp, hK⟩ := hK
        cases p <;> try exact hK.elim
        · rename_i cs
          cases cs with
          | nil => exact hK.elim
          | cons c rest => exact val (s_ld h ho h1 h2 (r := c.alias) ⟨_, _, hp, rfl, rfl⟩) hK
        · rename_i b off
          obtain ⟨cs, hb, c, hc, hK⟩ := hK
          by_cases hown : ∃ e sz els, c = .sl (some e) sz els
          · obtain ⟨e, sz, els, rfl⟩ := hown
            exact s_ldt h ho rfl hd h1 h2 hp hb hc fun a' W' U' hi => hn _ _ _ _ hi hK
          · by_cases hnil : ∃ e sz, c = .nils e sz
            · obtain ⟨e, sz, rfl⟩ := hnil
              obtain ⟨vs, ty, q1, q2, q3, q4, q5⟩ := h.obs hb hc (by simp) (by simp)
              have hlt : off < cs.length := (List.getElem?_eq_some_iff.1 hc).1
              have hv := (q3 off _ hc).1
              have hv0 : vs.getD off undef = .slice none 0 0 := by generalize vs.getD off undef = val at hv; cases hv; rfl
              have hcell : W.cell? ⟨b, off, none⟩ = some (.slice none 0 0) := by
                rw [cell_of_row W b off vs ty (0, 0) q1, ← hv0]
                have : off < vs.size := by omega
                simp [this]
              have hpx := cOpd_sound h h2 hp
              have hadr : a.eval x = .pointer (some ⟨b, off, none⟩) := by
                generalize a.eval x = val at hpx
                cases hpx
                rfl
              exact wp_of_VOK h ⟨.slice none 0 0, W, U, by simp [execOp, ho, hadr, run_load_one h1 hcell], Ext.refl _ _, VR.nil (some e) sz, .inl ⟨rfl, rfl⟩⟩ rfl hd fun a' W' U' hi => hn _ _ _ _ hi hK
            have he : ldE s o.dst b off cs c = s.put o.dst c.alias := by
              cases c <;> try rfl
              rename_i own sz els
              cases own with
              | none => rfl
              | some e => exact absurd ⟨e, sz, els, rfl⟩ hown
              exact absurd ⟨_, _, rfl⟩ hnil
            rw [he] at hK
            have hlt : off < cs.length := (List.getElem?_eq_some_iff.1 hc).1
            refine val (s_ld h ho h1 h2 (r := c.alias) ⟨_, cs.drop off, hp, by simp only [view, hb, Option.map_some], ?_⟩) hK
            rw [List.drop_eq_getElem_cons hlt, (List.getElem?_eq_some_iff.1 hc).2]
            rfl
    · cases hk
  case h_6 t x v ho =>
    split at hk
    · rename_i n X V h1 h2 h3 h4
      split at hk
      · rename_i hc
        have plain : K (eff o.dst (.sto n X V) .undef s) → opR P s (.sto n X V) .undef → o.wp P a W next Q := fun hK hr => by
          rw [h4] at hK
          exact s_sto h ho h4 hc.1 rfl hc.2 h2 h3 hr fun a' W' U' hi => hn _ _ _ _ hi hK
        cases V with
        | c w =>
          simp only [Option.some.injEq] at hk
          subst hk
          obtain ⟨r, hr, hK⟩ := hK
          obtain rfl : r = .undef := by obtain ⟨_, _, _, _, _, _, _, _, _, e⟩ := hr; exact e
          exact plain hK hr
        | t i =>
          simp only [Option.some.injEq] at hk
          subst hk
          cases hg : gives P R t n with
          | false =>
            simp only [hg, Bool.false_eq_true, if_false] at hK
            obtain ⟨r, hr, hK⟩ := hK
            obtain rfl : r = .undef := by obtain ⟨_, _, _, _, _, _, _, _, _, e⟩ := hr; exact e
            exact plain hK hr
          | true =>
            simp only [hg, if_true] at hK
            have hnn : n = none := by
              simp only [gives, Bool.and_eq_true] at hg
              exact Option.isNone_iff_eq_none.1 hg.2
            subst hnn
            obtain ⟨p, hp, w, hi, hK⟩ := hK
            cases p <;> try exact hK.elim
            rename_i b off
            obtain ⟨cs, hb, ⟨hlt, hl1⟩, hK⟩ := hK
            by_cases hown : ∃ e sz els, w = .sl (some e) sz els
            · obtain ⟨e, sz, els, rfl⟩ := hown
              obtain rfl := cOpdT_tmp h3
              exact s_stt h ho h4 hc.1 h2 hp hb hlt hi fun a' W' U' hv => hn _ _ _ _ hv hK
            · have he : stE s i b off cs w = eff o.dst (.sto none X (.t i)) .undef s := by
                have e2 : eff o.dst (.sto none X (.t i)) .undef s = { s with o := upd s.o b (some (splice cs off w.cells)) } := by
                  simp only [eff, hp, show (Opd.t i).ev s = some w from hi, hb, Option.map_some]
                rw [e2]
                cases w <;> try rfl
                rename_i own sz els
                cases own with
                | none => rfl
                | some e => exact absurd ⟨e, sz, els, rfl⟩ hown
              rw [he] at hK
              exact plain hK ⟨b, off, w, cs, hp, hi, hb, by rw [hl1]; rfl, by omega, rfl⟩
      · cases hk
    · cases hk
  case h_7 t x f ho =>
    split at hk
    · rename_i fs X h1 h2
      split at hk
      · rename_i fd hf
        split at hk
        · rename_i n hz
          cases hk
          obtain ⟨r, hr, hK⟩ := hK
          exact val (s_fld h ho h1 hf hz h2 hr) hK
        · cases hk
      · cases hk
    · cases hk
  case h_8 t x f ho =>
    split at hk
    · rename_i fs X h1 h2
      split at hk
      · rename_i fd hf
        cases hn' : aggN P fd.type with
        | none => simp [hn'] at hk
        | some n =>
          simp only [hn', Option.map_some, Option.some.injEq] at hk
          subst hk
          obtain ⟨r, hr, hK⟩ := hK
          exact val (s_fldv h ho h1 hf hn' h2 hr) hK
      · cases hk
    · cases hk
  case h_9 t x i ho =>
    split at hk
    · rename_i e sz X I h1 h2 h3
      cases hk
      obtain ⟨r, hr, hK⟩ := hK
      exact val (s_idx h ho h1 h2 h3 hr) hK
    · rename_i X I h1 h2 h3
      split at hk
      · rename_i n e hu
        split at hk
        · rename_i hi
          cases hk
          obtain ⟨r, hr, hK⟩ := hK
          exact val (s_aidx h ho hu hi h2 h3 hr) hK
        · cases hk
      · cases hk
    · cases hk
  case h_10 t x i ho =>
    split at hk
    · rename_i X I h1 h2 h3
      cases hk
      obtain ⟨r, hr, hK⟩ := hK
      exact val (s_sidx h ho h1 h2 h3 hr) hK
    · rename_i n e X I h1 h2 h3
      obtain ⟨q, h4, rfl⟩ := Option.map_eq_some_iff.1 hk
      obtain ⟨r, hr, hK⟩ := hK
      exact val (s_vidx h ho h1 h4 h2 h3 hr) hK
    · cases hk
  case h_11 op t x y ty ho =>
    split at hk
    · split at hk
      · rename_i X Y h1 h2
        cases hk
        obtain ⟨r, hr, hK⟩ := hK
        exact val (s_bin h ho h1 h2 hr) hK
      · cases hk
    · rename_i hpl
      split at hk
      · rename_i X Y h1 h2 h3
        cases hk
        obtain ⟨r, hr, hK⟩ := hK
        refine val (s_beq h ho ?_ h1 h2 h3 hr) hK
        cases op <;> simp [plainBin] at hpl <;> simp
      · rename_i fs X Y h1 h2 h3
        split at hk
        · rename_i hg
          obtain ⟨ks, hks, rfl⟩ := Option.map_eq_some_iff.1 hk
          obtain ⟨r, hr, hK⟩ := hK
          refine val (s_aeq h ho ?_ h1 hg hks h2 h3 hr) hK
          cases op <;> simp [plainBin] at hpl <;> simp
        · cases hk
      · rename_i e X h1 h2 h3
        cases hk
        obtain ⟨r, hr, hK⟩ := hK
        refine val (s_peq h ho ?_ h1 h2 h3 hr) hK
        cases op <;> simp [plainBin] at hpl <;> simp
      · cases hk
  case h_12 op t x ho =>
    cases hx : cOpd x with
    | none => simp [hx] at hk
    | some X =>
      simp only [hx, Option.map_some, Option.some.injEq] at hk
      subst hk
      obtain ⟨r, hr, hK⟩ := hK
      exact val (s_un h ho hx hr) hK
  case h_13 src dst x ho =>
    split at hk
    · rename_i k1 k2 X h1 h2 h3
      cases hk
      obtain ⟨r, hr, hK⟩ := hK
      exact val (s_conv h ho h1 h2 h3 hr) hK
    · rename_i e X h1 h2 h3
      split at hk
      · rename_i h4
        cases hk
        obtain ⟨r, hr, hK⟩ := hK
        exact val (s_b2s h ho h1 h2 h4 h3 hr) hK
      · cases hk
    · rename_i X h1 h2 h3
      cases hk
      obtain ⟨r, hr, hK⟩ := hK
      exact val (s_s2s h ho h1 h2 h3 hr) hK
    · cases hk
  case h_14 t x lo hi ho =>
    split at hk
    · rename_i X LO HI h1 h2 h3 h4
      cases hk
      obtain ⟨r, hr, hK⟩ := hK
      exact val (s_slc h ho h1 h2 h3 h4 hr) hK
    · rename_i e X LO HI h1 h2 h3 h4
      cases hi' : P.info? e with
      | none => simp [hi'] at hk
      | some i =>
        simp only [hi', Option.map_some, Option.some.injEq] at hk
        subst hk
        obtain ⟨r, hr, hK⟩ := hK
        exact val (s_slcs h ho h1 hi' h2 h3 h4 hr) hK
    · cases hk
  case h_15 x j ho =>
    cases hx : cOpd x with
    | none => simp [hx] at hk
    | some X =>
      simp only [hx, Option.map_some, Option.some.injEq] at hk
      subst hk
      obtain ⟨r, hr, hK⟩ := hK
      exact val (s_ext h ho hx hr) hK
  case h_16 x ho =>
    cases hx : cOpd x with
    | none => simp [hx] at hk
    | some X =>
      simp only [hx, Option.map_some, Option.some.injEq] at hk
      subst hk
      obtain ⟨r, hr, hK⟩ := hK
      exact val (s_nilc h ho hx hr) hK
  case h_17 c x y ho =>
    split at hk
    · rename_i C X Y h1 h2 h3
      cases hk
      obtain ⟨r, hr, hK⟩ := hK
      exact val (s_pick h ho h1 h2 h3 hr) hK
    · cases hk
  case h_18 t parts ho =>
    split at hk
    · rename_i fs z h1 h2
      split at hk
      · rename_i h3
        cases hp : cFields P fs parts.toList with
        | none => simp [hp] at hk
        | some ps =>
          simp only [hp, Option.map_some, Option.some.injEq] at hk
          subst hk
          obtain ⟨r, hr, hK⟩ := hK
          exact val (s_bld h ho h1 h2 h3 hp hr) hK
      · cases hk
    · rename_i n e z h1 h2
      split at hk
      · rename_i inf hinf
        cases hp : cElems P e inf.size parts.toList with
        | none => simp [hp] at hk
        | some ps =>
          simp only [hp, Option.map_some, Option.some.injEq] at hk
          subst hk
          obtain ⟨r, hr, hK⟩ := hK
          exact val (s_blda h ho h1 h2 hinf hp hr) hK
      · cases hk
    · cases hk
  case h_19 t n parts ho =>
    split at hk
    · rename_i e sz ps h1 h2
      split at hk
      · rename_i h3
        cases hk
        obtain ⟨r, hr, hK⟩ := hK
        exact val (s_bs h ho h1 h2 h3.1 h3.2.1 h3.2.2.1 h3.2.2.2 hr) hK
      · cases hk
    · cases hk
  case h_20 f args argTypes ho =>
    split at hk
    · rename_i hf
      cases hfn : P.funcs[f]? with
      | none => simp [hfn] at hf
      | some fn =>
        simp only [hfn, Option.map_some, Option.getD_some, Bool.and_eq_true, Bool.not_eq_true'] at hf
        cases hp : cArgs P argTypes.toList args.toList with
        | none => simp [hp] at hk
        | some ps =>
          by_cases hR : 0 < R
          · simp only [hp, Option.map_some, Option.some.injEq, if_pos hR] at hk
            subst hk
            exact s_callo h ho rfl hd hfn hf.1 hf.2 hp hK hn
          · simp only [hp, Option.map_some, Option.some.injEq, if_neg hR] at hk
            split at hk
            · subst hk
              obtain ⟨r, ⟨vs, h1, o1, h2, h3⟩, hK⟩ := hK
              refine s_callo h ho rfl hd hfn hf.1 hf.2 hp (K := K) ⟨vs, h1, o1, _, h2, h3, ?_⟩ hn
              intro r' o' he _
              obtain ⟨e1, e2⟩ := he
              rw [e1, e2]
              have e : (fun b => (o1 b).or (s.o b)) = s.o := by
                funext b
                cases hb : o1 b with
                | none => rfl
                | some cs => exact (h2 b cs hb).symm
              rw [e]
              exact hK
            · subst hk
              obtain ⟨r, hr, hK⟩ := hK
              exact s_call h ho rfl hd hfn hf.1 hf.2 hp hr fun a' W' U' hi => hn _ _ _ _ hi hK
    · cases hk
  case h_21 x t ho =>
    split at hk
    · rename_i X h1 h2
      cases hk
      obtain ⟨r, hr, hK⟩ := hK
      exact val (s_lens h ho h1 h2 hr) hK
    · rename_i e X h1 h2
      cases hk
      obtain ⟨r, hr, hK⟩ := hK
      exact val (s_lenl h ho h1 h2 hr) hK
    · cases hk
  case h_22 i x t t' ho =>
    split at hk
    · rename_i e sz X h1 h2
      split at hk
      · rename_i h3
        obtain ⟨rfl, h4, h5⟩ := h3
        obtain ⟨inf, g1, g2, g3⟩ := isSlice_cases h1
        simp only [g2, Option.map_some, Option.some.injEq] at hk
        subst hk
        obtain ⟨r, hr, hK⟩ := hK
        exact s_app h ho rfl hd g1 g2 g3 h4 h5 h2 hr fun a' W' U' hi => hn _ _ _ _ hi hK
      · split at hk
        · rename_i h3
          obtain ⟨h4, rfl, h5⟩ := h3
          obtain ⟨inf, g1, g2, g3⟩ := isSlice_cases h1
          simp only [g2, Option.map_some, Option.some.injEq] at hk
          subst hk
          obtain ⟨r, hr, hK⟩ := hK
          exact s_apps h ho rfl hd g1 g2 (isStr_spec h4) g3 h5 h2 hr fun a' W' U' hi => hn _ _ _ _ hi hK
        · cases hk
    · cases hk
  case h_23 x y ts ho =>
    split at hk
    · rename_i X Y h1 h2
      cases hk
      obtain ⟨r, hr, hK⟩ := hK
      exact val (s_mn h ho h1 h2 hr) hK
    · cases hk
  case h_24 t x y ho =>
    split at hk
    · rename_i e sz X h1 h2
      split at hk
      · rename_i z i h3 h4
        split at hk
        · rename_i h5
          obtain ⟨h6, h7, h8⟩ := h5
          obtain rfl := sameOpd_eq h6
          split at hk
          · rename_i h9
            cases hk
            exact s_mk h ho hd rfl h1 h2 h3 h4 h7 h8 h9 hK hn
          · cases hk
        · cases hk
      · cases hk
    · cases hk
  case h_25 x y ts ho =>
    split at hk
    · rename_i X Y h1 h2
      cases hk
      obtain ⟨r, hr, hK⟩ := hK
      exact val (s_mx h ho h1 h2 hr) hK
    · cases hk
  case h_26 t ho =>
    cases hk
    exact s_mkm h ho hd rfl hK hn
  case h_27 t m x ok ho =>
    split at hk
    · rename_i k e X Y ht h1 h2
      split at hk
      · rename_i ks ag z h3 h4
        cases hk
        obtain ⟨r, hr, hK⟩ := hK
        exact val (s_mq h ho ht h1 h2 h3 h4 hr) hK
      · cases hk
    · cases hk
  case h_28 t m x v ho =>
    split at hk
    · rename_i k e X Y V ht h1 h2 h3
      split at hk
      · rename_i ks ag h4 h5
        cases hk
        obtain ⟨r, ⟨b, cs, hr⟩, hK⟩ := hK
        simp only [eff, hr, h5, St.put] at hK
        exact s_mu0 h ho h5 ht h1 h2 h3 h4 hr fun a' W' U' hi => hn _ _ _ _ hi hK
      · cases hk
    · cases hk
  case h_29 t m x ho =>
    split at hk
    · rename_i k e X Y ht h1 h2
      split at hk
      · rename_i ks ag z h4 h5
        cases hk
        obtain ⟨r, ⟨b, cs, hr⟩, hK⟩ := hK
        simp only [eff, hr] at hK
        exact s_mu1 h ho rfl hd ht h1 h2 h4 h5 hr fun a' W' U' hi => hn _ _ _ _ hi hK
      · cases hk
    · cases hk
  case h_30 t m x v ho =>
    split at hk
    · rename_i X Y V h1 h2 h3 h5
      cases hk
      obtain ⟨r, ⟨b, cs, hr⟩, hK⟩ := hK
      simp only [eff, hr, h5, St.put] at hK
      exact s_mu2 h ho h5 h1 h2 h3 hr fun a' W' U' hi => hn _ _ _ _ hi hK
    · cases hk
  case h_31 m x t k' ho =>
    split at hk
    · rename_i k e X Y ht h1 h2
      split at hk
      · rename_i ks ag h4 h5
        cases hk
        obtain ⟨r, ⟨b, cs, hr⟩, hK⟩ := hK
        simp only [eff, hr, h5, St.put] at hK
        exact s_mu3 h ho h5 ht h1 h2 h4 hr fun a' W' U' hi => hn _ _ _ _ hi hK
      · cases hk
    · cases hk
  case h_32 t x ho =>
    split at hk
    · rename_i k e X ht h1
      cases hk
      obtain ⟨p, hp, hK⟩ := hK
      exact s_rng h ho ht hd rfl h1 hp hK hn
    · cases hk
  case h_33 x ho =>
    cases hx : cOpd x with
    | none => simp [hx] at hk
    | some X =>
      simp only [hx, Option.map_some, Option.some.injEq] at hk
      subst hk
      obtain ⟨p, hp, hK⟩ := hK
      exact s_nxt h ho hd rfl hx hp hK hn
  case h_34 x ho =>
    cases hx : cOpd x with
    | none => simp [hx] at hk
    | some X =>
      simp only [hx, Option.map_some, Option.some.injEq] at hk
      subst hk
      obtain ⟨r, hr, hK⟩ := hK
      exact val (s_ent h ho hx hr) hK
  case h_35 x t t' ho =>
    split at hk
    · rename_i e sz X h1 h2
      split at hk
      · rename_i h3
        obtain ⟨rfl, h4, h5⟩ := h3
        obtain ⟨inf, g1, g2, g3⟩ := isSlice_cases h1
        simp only [g2, Option.map_some, Option.some.injEq] at hk
        subst hk
        obtain ⟨r, hr, hK⟩ := hK
        exact val (s_app0 h ho g1 g2 g3 h4 h5 h2 hr) hK
      · cases hk
    · cases hk
  case h_36 => cases hk

def cOp (P : Program) (R : Nat) (ops : List Oper) (o : Oper) : Option AOp :=
  match o.guard with
  | none => (cKind P R ops o).map fun k => ⟨none, o.dst, k⟩
  | some (j, want) => match (ops[j]?).bind (·.dst), cKind P R ops o with
    | some t, some k => some ⟨some (t, want), o.dst, k⟩
    | _, _ => none

/-- An operation of a region, its guard looked at. -/
theorem op_sound (h : Inv N W0 U0 M a W U s) {ops : List Oper} {A : AOp} (hc : cOp P R ops o = some A) (hd : ∀ j, o.dst = some j → j < N) {K : St → Prop} (hK : opW P A s K)
    {next : Act → World → Prop} {Q : Exit → Act → World → Prop} (hn : ∀ a' W' U' s', Inv N W0 U0 M a' W' U' s' → K s' → next a' W') :
    if Region.wanted o (yielded ops.toArray a.tmps) then o.wp P a W next Q ∨ (o.asks P a W ∧ LetsOut Q) else next (a.put o.dst Go.undef) W := by
  unfold cOp at hc
  split at hc
  · rename_i hg
    cases hk : cKind P R ops o with
    | none => simp [hk] at hc
    | some k =>
      simp only [hk, Option.map_some, Option.some.injEq] at hc
      subst hc
      rw [if_pos (by simp [Region.wanted, hg])]
      exact .inl (kind_sound h hk hd hK hn)
  · rename_i j want hg
    split at hc
    · rename_i t k h1 h2
      simp only [Option.some.injEq] at hc
      subst hc
      have hskip : K (s.put o.dst .undef) → next (a.put o.dst Go.undef) W := fun hK => hn _ _ U _ (h.putO hd .undef fun _ _ => Sole.plain (by simp)) hK
      have hy : yielded ops.toArray a.tmps j = match a.tmps[t]? with | some (.bool b) => some b | _ => none := by
        simp only [yielded, List.getElem?_toArray, h1, Option.bind_some]
        rfl
      simp only [opW] at hK
      split at hK
      · rename_i b hb
        have hv := h.tv t _ hb
        have hbv : a.tmps.getD t Go.undef = .bool b := by generalize a.tmps.getD t Go.undef = val at hv; cases hv; rfl
        have hbt : a.tmps[t]? = some (.bool b) := by
          rw [Array.getD_eq_getD_getElem?] at hbv
          cases hx : a.tmps[t]? with
          | none => rw [hx] at hbv; simp [Go.undef] at hbv
          | some y => rw [hx] at hbv; simpa using hbv
        rw [hbt] at hy
        have hw : Region.wanted o (yielded ops.toArray a.tmps) = (b == want) := by simp [Region.wanted, hg, hy]
        rw [hw]
        by_cases hbw : b = want
        · subst hbw
          rw [if_pos (by simp)]
          exact .inl (kind_sound h h2 hd (hK.1 rfl) hn)
        · rw [if_neg (by simpa using hbw)]
          exact hskip (hK.2 (by cases b <;> cases want <;> simp_all))
      · rename_i hb
        have hv := h.tv t _ hb
        have hbv : a.tmps.getD t Go.undef = Go.undef := by generalize a.tmps.getD t Go.undef = val at hv; cases hv; rfl
        have hnb : ∀ b, a.tmps[t]? ≠ some (.bool b) := by
          intro b hb
          rw [Array.getD_eq_getD_getElem?, hb] at hbv
          simp [Go.undef] at hbv
        have hyn : yielded ops.toArray a.tmps j = none := by
          rw [hy]
          split
          · rename_i b hb; exact absurd hb (hnb b)
          · rfl
        have hw : Region.wanted o (yielded ops.toArray a.tmps) = false := by simp [Region.wanted, hg, hyn]
        rw [hw]
        exact hskip hK
      · exact hK.elim
    · cases hc
end
end Go.Proofs.Ytobopbjedojebaa

/- The abstract machine, part 10b: what an operation gives in a state, it gives in every state that has more. -/
namespace Go.Proofs.Ytobopbjedojebaa
set_option linter.all false
open Go.RowKit

theorem le_refl (s : St) : Le s s := ⟨fun _ _ h => h, fun _ _ h => h⟩
theorem le_trans {a b c : St} (h : Le a b) (g : Le b c) : Le a c := ⟨fun i v e => g.1 i v (h.1 i v e), fun i v e => g.2 i v (h.2 i v e)⟩
section
variable {P : Program} {s s' : St} (h : Le s s')
include h
theorem ev_le {x : Opd} {v : AV} (e : x.ev s = some v) : x.ev s' = some v := by
  cases x with
  | t i => exact h.1 i v e
  | c w => exact e
theorem evs_le : ∀ {l : List Opd} {vs : List AV}, evs s l = some vs → evs s' l = some vs
  | [], _, e => e
  | x :: r, vs, e => by
    unfold evs at e ⊢
    split at e
    · rename_i v ws h1 h2
      rw [ev_le h h1, evs_le h2]; exact e
    · cases e
theorem evp_le : ∀ {l : List (Nat × Nat × Opd)} {vs : List (Nat × Nat × AV)}, evp s l = some vs → evp s' l = some vs
  | [], _, e => e
  | (a, b, x) :: r, vs, e => by
    unfold evp at e ⊢
    split at e
    · rename_i v ws h1 h2
      rw [ev_le h h1, evp_le h2]; exact e
    · cases e
theorem view_le {p : AV} {cs : List AV} (e : view s.o p = some cs) : view s'.o p = some cs := by
  cases p <;> first | exact e | skip
  rename_i b off
  simp only [view, Option.map_eq_some_iff] at e ⊢
  obtain ⟨l, h1, h2⟩ := e
  exact ⟨l, h.2 b l h1, h2⟩
theorem boundR_le {d : Nat} {x : Option Opd} {r : Nat} (e : boundR s d x r) : boundR s' d x r := by
  cases x with
  | none => exact e
  | some x => obtain ⟨k, n, h1, h2⟩ := e; exact ⟨k, n, ev_le h h1, h2⟩
theorem put_le {d : Option Nat} {v : AV} : Le (s.put d v) (s'.put d v) := by
  cases d with
  | none => exact h
  | some d =>
    refine ⟨fun i w e => ?_, h.2⟩
    simp only [St.put, upd] at e ⊢
    split
    · rename_i hi; rw [if_pos hi] at e; exact e
    · rename_i hi; rw [if_neg hi] at e; exact h.1 i w e
theorem updt_le {i : Nat} {v : Option AV} : Le { s with t := upd s.t i v } { s' with t := upd s'.t i v } := by
  refine ⟨fun j w e => ?_, h.2⟩
  simp only [upd] at e ⊢
  split
  · rename_i hi; rw [if_pos hi] at e; exact e
  · rename_i hi; rw [if_neg hi] at e; exact h.1 j w e
theorem updo_le {i : Nat} {v : Option (List AV)} : Le { s with o := upd s.o i v } { s' with o := upd s'.o i v } := by
  refine ⟨h.1, fun j w e => ?_⟩
  simp only [upd] at e ⊢
  split
  · rename_i hi; rw [if_pos hi] at e; exact e
  · rename_i hi; rw [if_neg hi] at e; exact h.2 j w e
theorem muS_le {q : Nat} {z : AV} {ks : List Kd} {ag : Bool} {m k v : Opd} {x : Nat × AV × List AV} (e : muS s q z ks ag m k v = some x) : muS s' q z ks ag m k v = some x := by
  obtain ⟨b, r, cs⟩ := x
  obtain ⟨kv, vv, kl, vl, bs, clk, e1, e2, e3, e4, e5⟩ := muS_some e
  simp only [muS, ev_le h e1, ev_le h e2, ev_le h e3, h.2 _ _ e4, Option.bind_some, e5, Option.map_some]
theorem opR_le {k : AK} {r : AV} (e : opR P s k r) : opR P s' k r := by
  cases k with
  | mv x => obtain ⟨v, h1, h2⟩ := e; exact ⟨v, ev_le h h1, h2⟩
  | nil _ _ => exact e
  | tk i => exact h.1 i r e
  | newv _ => exact e
  | box _ => exact e
  | callo _ _ => exact e
  | cro f as' => obtain ⟨vs, h1, o1, h2, h3⟩ := e; exact ⟨vs, evs_le h h1, o1, fun b cs hb => h.2 b cs (h2 b cs hb), h3⟩
  | ldt x =>
    obtain ⟨p, h1, h2⟩ := e
    refine ⟨p, ev_le h h1, ?_⟩
    cases p <;> try exact h2.elim
    · rename_i cs
      cases cs with
      | nil => exact h2.elim
      | cons c rest => exact h2
    · obtain ⟨cs, h3, h4⟩ := h2
      exact ⟨cs, h.2 _ _ h3, h4⟩
  | stt x i => obtain ⟨b, off, v, cs, h1, h2, h3, h4⟩ := e; exact ⟨b, off, v, cs, ev_le h h1, h.1 _ _ h2, h.2 _ _ h3, h4⟩
  | mk _ _ _ => exact e
  | vidx n size q x i => obtain ⟨a, b, h1, h2, h3⟩ := e; exact ⟨a, b, ev_le h h1, ev_le h h2, h3⟩
  | mn x y => obtain ⟨a, b, h1, h2, h3⟩ := e; exact ⟨a, b, ev_le h h1, ev_le h h2, h3⟩
  | mx x y => obtain ⟨a, b, h1, h2, h3⟩ := e; exact ⟨a, b, ev_le h h1, ev_le h h2, h3⟩
  | mkm => exact e
  | peq neg x => obtain ⟨a, b, h1, h2⟩ := e; exact ⟨a, b, ev_le h h1, h2⟩
  | app0 e' size bytes x => obtain ⟨own, news, h1, h2⟩ := e; exact ⟨own, news, ev_le h h1, h2⟩
  | rng _ => exact e
  | nxt _ => exact e
  | mq z ok ks ag m k =>
    obtain ⟨a, b, h1, h2, h3⟩ := e
    refine ⟨a, b, ev_le h h1, ev_le h h2, ?_⟩
    cases a <;> try exact h3.elim
    obtain ⟨kl, vl, bs, clk, f, g1, g2⟩ := h3
    exact ⟨kl, vl, bs, clk, f, h.2 _ _ g1, g2⟩
  | mu q z ks ag m k v => obtain ⟨b, cs, h1⟩ := e; exact ⟨b, cs, muS_le h h1⟩
  | ent x =>
    obtain ⟨a, h1, h2⟩ := e
    refine ⟨a, ev_le h h1, ?_⟩
    cases a <;> try exact h2.elim
    obtain ⟨m, since, seen, last, kl, vl, bs, clk, i, n, g1, g2, g3⟩ := h2
    exact ⟨m, since, seen, last, kl, vl, bs, clk, i, n, h.2 _ _ g1, h.2 _ _ g2, g3⟩
  | ld n x => obtain ⟨p, cs, h1, h2, h3⟩ := e; exact ⟨p, cs, ev_le h h1, view_le h h2, h3⟩
  | sto n x v => obtain ⟨b, off, a, cs, h1, h2, h3, h4⟩ := e; exact ⟨b, off, a, cs, ev_le h h1, ev_le h h2, h.2 _ _ h3, h4⟩
  | fld off x => obtain ⟨p, h1, h2⟩ := e; exact ⟨p, ev_le h h1, h2⟩
  | ldr n x => obtain ⟨cs, h1, h2⟩ := e; exact ⟨cs, ev_le h h1, h2⟩
  | idx size x i => obtain ⟨p, q, h1, h2, h3⟩ := e; exact ⟨p, q, ev_le h h1, ev_le h h2, h3⟩
  | bin op x y => obtain ⟨a, b, h1, h2, h3⟩ := e; exact ⟨a, b, ev_le h h1, ev_le h h2, h3⟩
  | aidx n size x i => obtain ⟨p, k, m, h1, h2, h3⟩ := e; exact ⟨p, k, m, ev_le h h1, ev_le h h2, h3⟩
  | un op x => obtain ⟨a, h1, h2⟩ := e; exact ⟨a, ev_le h h1, h2⟩
  | len b x => obtain ⟨a, h1, h2⟩ := e; exact ⟨a, ev_le h h1, h2⟩
  | app e' size bytes i x => obtain ⟨els, own, news, h1, h2, h3⟩ := e; exact ⟨els, own, news, h.1 _ _ h1, ev_le h h2, h3⟩
  | apps e' bytes i x => obtain ⟨els, l, h1, h2, h3⟩ := e; exact ⟨els, l, h.1 _ _ h1, ev_le h h2, h3⟩
  | bs e' size ps => obtain ⟨vs, h1, h2⟩ := e; exact ⟨vs, evs_le h h1, h2⟩
  | bld z ps => obtain ⟨vs, cs, h1, h2⟩ := e; exact ⟨vs, cs, evp_le h h1, h2⟩
  | fldv off n x => obtain ⟨cs, h1, h2⟩ := e; exact ⟨cs, ev_le h h1, h2⟩
  | call f as' => obtain ⟨vs, h1, h2⟩ := e; exact ⟨vs, evs_le h h1, h2⟩
  | ext j x => obtain ⟨cs, c, h1, h2⟩ := e; exact ⟨cs, c, ev_le h h1, h2⟩
  | nilc x =>
    rcases e with ⟨cs, h1, h2⟩ | ⟨b, off, h1, h2⟩
    · exact .inl ⟨cs, ev_le h h1, h2⟩
    · exact .inr ⟨b, off, ev_le h h1, h2⟩
  | pick c a b => obtain ⟨cv, av, bv, h1, h2, h3, h4⟩ := e; exact ⟨cv, av, bv, ev_le h h1, ev_le h h2, ev_le h h3, h4⟩
  | slc size x lo hi =>
    cases size with
    | none => obtain ⟨l, a, b, h1, h2, h3, h4⟩ := e; exact ⟨l, a, b, ev_le h h1, boundR_le h h2, boundR_le h h3, h4⟩
    | some size => obtain ⟨own, l, a, b, h1, h2, h3, h4⟩ := e; exact ⟨own, l, a, b, ev_le h h1, boundR_le h h2, boundR_le h h3, h4⟩
  | conv k x => obtain ⟨k', n, h1, h2⟩ := e; exact ⟨k', n, ev_le h h1, h2⟩
  | b2s x => obtain ⟨own, l, h1, h2⟩ := e; exact ⟨own, l, ev_le h h1, h2⟩
  | sidx x i => obtain ⟨l, k, n, h1, h2, h3⟩ := e; exact ⟨l, k, n, ev_le h h1, ev_le h h2, h3⟩
  | beq neg x y => obtain ⟨a, b, h1, h2, h3⟩ := e; exact ⟨a, b, ev_le h h1, ev_le h h2, h3⟩
  | aeq neg ks x y => obtain ⟨a, b, c, h1, h2, h3⟩ := e; exact ⟨a, b, c, ev_le h h1, ev_le h h2, h3⟩
  | s2s x => obtain ⟨l, h1, h2⟩ := e; exact ⟨l, ev_le h h1, h2⟩
end
end Go.Proofs.Ytobopbjedojebaa
