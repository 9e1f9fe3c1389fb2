/- The abstract machine, part 5: each operation does what the machine's says. -/
import Derived.Test.YtedcagoilpaafaaDoorMd
namespace Go.Proofs.YtedcagoilpaafaaDoor
set_option linter.all false
open Go.RowKit

section
variable {P : Program} {N : Nat} {W0 : World} {U0 : Nat → Nat → Prop} {M : Nat → Prop} {a : Act} {W : World} {U : Nat → Nat → Prop} {s : St} {o : Oper} {r : AV}

/-- The operation yields a value that reads as r; the world grew. -/
def VOK (P : Program) (a : Act) (o : Oper) (W : World) (U : Nat → Nat → Prop) (r : AV) : Prop :=
  ∃ v W' U', (execOp a.eval o).run P W = .ok (.value v) W' ∧ Ext W U W' U' ∧ VR W' U' v r ∧ Own1 W' U' (W.heap.size ≤ ·) v r

theorem Own1.plain {B : Nat → Prop} {v : Value} {r : AV} (h : ∀ e sz els, r ≠ .sl (some e) sz els) : Own1 W U B v r := by
  unfold Own1
  split
  · exact absurd rfl (h _ _ _)
  · trivial
theorem alias_plain (r : AV) (e : Nat) (sz : Nat) (els : List (List AV)) : r.alias ≠ .sl (some e) sz els := by
  cases r <;> simp [AV.alias]
theorem store_plain (r : AV) (e : Nat) (sz : Nat) (els : List (List AV)) : r.store ≠ .sl (some e) sz els := by
  cases r <;> simp [AV.alias, AV.store]
theorem VOK.same {v : Value} (hrun : (execOp a.eval o).run P W = .ok (.value v) W) (hv : VR W U v r) (hp : ∀ e sz els, r ≠ .sl (some e) sz els) : VOK P a o W U r :=
  ⟨v, W, U, hrun, Ext.refl _ _, hv, Own1.plain hp⟩

theorem VR.int_inv {v : Value} {k : IntKind} {n : Int} (h : VR W U v (.int k n)) : v = .int k n := by cases h; rfl
theorem VR.bool_inv {v : Value} {b : Bool} (h : VR W U v (.bool b)) : v = .bool b := by cases h; rfl
theorem VR.str_inv {v : Value} {l : List UInt8} (h : VR W U v (.str l)) : v = .string ⟨l.toArray⟩ := by cases h; rfl

theorem s_mv (h : Inv N W0 U0 M a W U s) {x : Operand} {X : Opd} (ho : o.op = .move x ∨ o.op = .assign x) (hx : cOpd x = some X) (hr : opR P s (.mv X) r) : VOK P a o W U r := by
  obtain ⟨v, hv, rfl⟩ := hr
  refine VOK.same (v := a.eval x) ?_ (cOpd_sound h hx hv).alias (alias_plain _)
  rcases ho with ho | ho <;> simp [execOp, ho]

theorem s_nil {x : Operand} {e sz : Nat} (ho : o.op = .move x ∨ o.op = .assign x) (hx : x = .const (.slice none 0 0)) (hr : opR P s (.nil e sz) r) : VOK P a o W U r := by
  obtain rfl := hr
  subst hx
  refine ⟨.slice none 0 0, W, U, ?_, Ext.refl _ _, (zVR_sound (v := .slice none 0 0) (c := .sl (some e) sz []) rfl W U).1, .inl ⟨rfl, rfl⟩⟩
  rcases ho with ho | ho <;> simp [execOp, ho, Act.eval]

theorem binR_plain {op : BinOp} {x y r : AV} (h : binR op x y r) : ∀ e sz els, r ≠ .sl (some e) sz els := by
  intro e sz els hr
  subst hr
  unfold binR at h
  split at h <;> simp at h

theorem size_str (l : List UInt8) : (⟨l.toArray⟩ : ByteArray).size = l.length := by simp [ByteArray.size]
theorem toList_str (l : List UInt8) : (⟨l.toArray⟩ : ByteArray).toList = l := by rw [ByteArray.toList_eq]
theorem append_str (a b : List UInt8) : (⟨a.toArray⟩ : ByteArray) ++ ⟨b.toArray⟩ = ⟨(a ++ b).toArray⟩ := by
  apply ByteArray.ext
  simp

theorem beq_str (l m : List UInt8) : (l == m) = decide (l = m) := by
  by_cases h : l = m <;> simp [h]
theorem beq_int (m n : Int) : (m == n) = decide (m = n) := rfl
theorem beq_bool (m n : Bool) : (m == n) = decide (m = n) := by cases m <;> cases n <;> rfl

theorem s_bin (h : Inv N W0 U0 M a W U s) {op : BinOp} {t ty : TypeId} {x y : Operand} {X Y : Opd} (ho : o.op = .binOp op t x y ty) (hx : cOpd x = some X) (hy : cOpd y = some Y) (hr : opR P s (.bin op X Y) r) :
    VOK P a o W U r := by
  obtain ⟨v, u, hv, hu, hb⟩ := hr
  have h1 := cOpd_sound h hx hv
  have h2 := cOpd_sound h hy hu
  have hp := binR_plain hb
  suffices hs : ∃ w, (do eqGuard op t x y (a.eval x) (a.eval y); binOp op t (a.eval x) (a.eval y) : Sem Value).run P W = .ok w W ∧ VR W U w r by
    obtain ⟨w, hw, hvr⟩ := hs
    refine VOK.same (v := w) ?_ hvr hp
    simp only [execOp, ho]
    simp only [Sem.run_bind] at hw ⊢
    rw [hw]
    simp
  unfold binR at hb
  split at hb
  · obtain ⟨rfl, rfl⟩ := hb; rw [h1.int_inv, h2.int_inv]; exact ⟨_, by simp [eqGuard, binOp, Op.intArith], .int _ _⟩
  · obtain ⟨rfl, rfl⟩ := hb; rw [h1.int_inv, h2.int_inv]; exact ⟨_, by simp [eqGuard, binOp, Op.intArith], .int _ _⟩
  · obtain ⟨rfl, rfl⟩ := hb; rw [h1.int_inv, h2.int_inv]; exact ⟨_, by simp [eqGuard, binOp, Op.intArith], .int _ _⟩
  · obtain ⟨rfl, hn0, rfl⟩ := hb; rw [h1.int_inv, h2.int_inv]; exact ⟨_, by simp [eqGuard, binOp, Op.intDiv, hn0], .int _ _⟩
  · obtain ⟨rfl, hn0, rfl⟩ := hb; rw [h1.int_inv, h2.int_inv]; exact ⟨_, by simp [eqGuard, binOp, Op.intDiv, hn0], .int _ _⟩
  · obtain ⟨rfl, rfl⟩ := hb; rw [h1.int_inv, h2.int_inv]; exact ⟨_, by simp [eqGuard, binOp, Op.intCmp]; rfl, .bool _⟩
  · obtain ⟨rfl, rfl⟩ := hb; rw [h1.int_inv, h2.int_inv]; exact ⟨_, by simp [eqGuard, binOp, Op.intCmp]; rfl, .bool _⟩
  · obtain ⟨rfl, rfl⟩ := hb; rw [h1.int_inv, h2.int_inv]; exact ⟨_, by simp [eqGuard, binOp, Op.intCmp], .bool _⟩
  · obtain ⟨rfl, rfl⟩ := hb; rw [h1.int_inv, h2.int_inv]; exact ⟨_, by simp [eqGuard, binOp, Op.intCmp], .bool _⟩
  · obtain ⟨rfl, rfl⟩ := hb; rw [h1.int_inv, h2.int_inv]; exact ⟨_, by simp [eqGuard, binOp, Op.intCmp], .bool _⟩
  · obtain ⟨rfl, rfl⟩ := hb; rw [h1.int_inv, h2.int_inv]; exact ⟨_, by simp [eqGuard, binOp, Op.intCmp], .bool _⟩
  · obtain ⟨hl, rfl⟩ := hb; rw [h1.str_inv, h2.str_inv]
    refine ⟨_, ?_, .str _⟩
    simp [eqGuard, binOp, Op.stringOp, append_str]
    rw [size_str, size_str]
    omega
  · obtain rfl := hb; rw [h1.str_inv, h2.str_inv]; exact ⟨_, by simp [eqGuard, binOp, Op.stringOp, beq_str], .bool _⟩
  · obtain rfl := hb; rw [h1.str_inv, h2.str_inv]; exact ⟨_, by simp [eqGuard, binOp, Op.stringOp, beq_str], .bool _⟩
  · obtain rfl := hb; rw [h1.str_inv, h2.str_inv]; exact ⟨_, by simp [eqGuard, binOp, Op.stringOp], .bool _⟩
  · obtain ⟨rfl, rfl⟩ := hb; rw [h1.int_inv, h2.int_inv]; exact ⟨_, by simp [eqGuard, binOp, Op.intBits], .int _ _⟩
  · obtain ⟨rfl, rfl⟩ := hb; rw [h1.int_inv, h2.int_inv]; exact ⟨_, by simp [eqGuard, binOp, Op.intBits], .int _ _⟩
  · obtain ⟨rfl, rfl⟩ := hb; rw [h1.int_inv, h2.int_inv]; exact ⟨_, by simp [eqGuard, binOp, Op.intBits], .int _ _⟩
  · obtain ⟨rfl, rfl⟩ := hb; rw [h1.int_inv, h2.int_inv]; exact ⟨_, by simp [eqGuard, binOp, Op.intBits], .int _ _⟩
  · obtain ⟨h0, rfl⟩ := hb; rw [h1.int_inv, h2.int_inv]; exact ⟨_, by simp [eqGuard, binOp, Op.shift, show ¬ _ < (0 : Int) from Int.not_lt.2 h0], .int _ _⟩
  · obtain ⟨h0, rfl⟩ := hb; rw [h1.int_inv, h2.int_inv]; exact ⟨_, by simp [eqGuard, binOp, Op.shift, show ¬ _ < (0 : Int) from Int.not_lt.2 h0], .int _ _⟩
  · exact hb.elim

theorem run_equal_bool {t : TypeId} (ht : P.underlying t = some .bool) (d : Nat) (x y : Bool) : (Op.equalIn (d + 1) t (.bool x) (.bool y)).run P W = .ok (decide (x = y)) W := by
  simp [Op.equalIn, run_underlying ht, beq_bool]
theorem s_beq (h : Inv N W0 U0 M a W U s) {op : BinOp} {t ty : TypeId} {x y : Operand} {X Y : Opd} (ho : o.op = .binOp op t x y ty) (hop : op = .eql ∨ op = .neq) (ht : P.underlying t = some .bool) (hx : cOpd x = some X) (hy : cOpd y = some Y)
    (hr : opR P s (.beq (isNeq op) X Y) r) : VOK P a o W U r := by
  obtain ⟨v, u, hv, hu, rfl⟩ := hr
  have h1 := (cOpd_sound h hx hv).bool_inv
  have h2 := (cOpd_sound h hy hu).bool_inv
  rcases hop with rfl | rfl
  · refine VOK.same (v := .bool (decide (v = u))) ?_ (.bool _) (by simp)
    simp [execOp, ho, h1, h2, eqGuard, binOp, Op.equal, Op.maxDepth, run_equal_bool ht 9999 v u]
  · refine VOK.same (v := .bool (!decide (v = u))) ?_ (.bool _) (by simp)
    simp [execOp, ho, h1, h2, eqGuard, binOp, Op.equal, Op.maxDepth, run_equal_bool ht 9999 v u]

theorem s_un (h : Inv N W0 U0 M a W U s) {op : UnOp} {t : TypeId} {x : Operand} {X : Opd} (ho : o.op = .unOp op t x) (hx : cOpd x = some X) (hr : opR P s (.un op X) r) : VOK P a o W U r := by
  obtain ⟨v, hv, hb⟩ := hr
  have h1 := cOpd_sound h hx hv
  unfold unR at hb
  split at hb
  · obtain rfl := hb
    exact VOK.same (v := .bool _) (by simp [execOp, ho, h1.bool_inv, Op.unary]) (.bool _) (by simp)
  · obtain rfl := hb
    exact VOK.same (v := .int _ _) (by simp [execOp, ho, h1.int_inv, Op.unary, Op.intArith]) (.int _ _) (by simp)
  · exact hb.elim

theorem s_conv (h : Inv N W0 U0 M a W U s) {src dst : TypeId} {ks k : IntKind} {x : Operand} {X : Opd} (ho : o.op = .convert src dst x) (hs : P.underlying src = some (.int ks)) (hd : P.underlying dst = some (.int k)) (hx : cOpd x = some X)
    (hr : opR P s (.conv k X) r) : VOK P a o W U r := by
  obtain ⟨k', n, hv, rfl⟩ := hr
  have h1 := (cOpd_sound h hx hv).int_inv
  exact VOK.same (v := .int k (k.wrap n)) (by simp [execOp, ho, h1, convert, run_underlying hs, run_underlying hd, Conv.intToInt]) (.int _ _) (by simp)

theorem s_s2s (h : Inv N W0 U0 M a W U s) {src dst : TypeId} {x : Operand} {X : Opd} (ho : o.op = .convert src dst x) (hs : P.underlying src = some .string) (hd : P.underlying dst = some .string) (hx : cOpd x = some X)
    (hr : opR P s (.s2s X) r) : VOK P a o W U r := by
  obtain ⟨l, hl, rfl⟩ := hr
  have h1 := (cOpd_sound h hx hl).str_inv
  exact VOK.same (v := .string ⟨l.toArray⟩) (by simp [execOp, ho, h1, convert, run_underlying hs, run_underlying hd]) (.str l) (by simp)

theorem s_lens (h : Inv N W0 U0 M a W U s) {t : TypeId} {x : Operand} {X : Opd} (ho : o.op = .call { callee := .builtin .len, args := ⟨[x]⟩, argTypes := ⟨[t]⟩ }) (ht : P.underlying t = some .string)
    (hx : cOpd x = some X) (hr : opR P s (.len true X) r) : VOK P a o W U r := by
  obtain ⟨v, hv, hb⟩ := hr
  have h1 := cOpd_sound h hx hv
  cases v <;> simp only [lenR] at hb
  subst hb
  exact VOK.same (v := .int .i64 _) (by simp [execOp, ho, h1.str_inv, resolve, invoke, builtin, Builtin.len_, run_underlying ht, goInt, size_str]) (.int _ _) (by simp)

theorem s_lenl (h : Inv N W0 U0 M a W U s) {t e : TypeId} {x : Operand} {X : Opd} (ho : o.op = .call { callee := .builtin .len, args := ⟨[x]⟩, argTypes := ⟨[t]⟩ }) (ht : P.underlying t = some (.slice e))
    (hx : cOpd x = some X) (hr : opR P s (.len false X) r) : VOK P a o W U r := by
  obtain ⟨v, hv, hb⟩ := hr
  have h1 := cOpd_sound h hx hv
  cases v <;> simp only [lenR] at hb
  · rename_i own sz els
    subst hb
    refine VOK.same (v := .int .i64 els.length) ?_ (.int _ _) (by simp)
    generalize hval : a.eval x = val at h1
    cases h1
    simp [execOp, ho, hval, resolve, invoke, builtin, Builtin.len_, run_underlying ht, goInt]
  · rename_i b off n
    subst hb
    refine VOK.same (v := .int .i64 n) ?_ (.int _ _) (by simp)
    generalize hval : a.eval x = val at h1
    cases h1
    simp [execOp, ho, hval, resolve, invoke, builtin, Builtin.len_, run_underlying ht, goInt]

theorem add_mk (b o j : Nat) : (⟨b, o, none⟩ : Addr).add j = ⟨b, o + j, none⟩ := by
  unfold Addr.add
  split <;> simp_all

/-- What a pointer sees lies in the cells. -/
theorem view_sound (h : Inv N W0 U0 M a W U s) {v : Value} {p : AV} {cs : List AV} (hv : VR W U v p) (hw : view s.o p = some cs) :
    ∃ (b off : Nat) (f : Nat → Value), v = .pointer (some ⟨b, off, none⟩) ∧ (∀ j, j < cs.length → W.cell? ⟨b, off + j, none⟩ = some (f j) ∧ (f j).oneCell' = true) ∧ ∀ j c, cs[j]? = some c → VR W U (f j) c := by
  cases hv with
  | ro b o cs' f hc hvv =>
    simp only [view, Option.some.injEq] at hw
    subst hw
    exact ⟨b, o, f, rfl, fun j hj => ⟨(hc j hj).1, (hc j hj).2.1⟩, hvv⟩
  | ptr b off =>
    simp only [view, Option.map_eq_some_iff] at hw
    obtain ⟨full, hf, rfl⟩ := hw
    obtain ⟨vs, ty, h1, h2, h3, _, _⟩ := h.ob b full hf
    refine ⟨b, off, fun j => vs.getD (off + j) undef, rfl, fun j hj => ?_, fun j c hc => ?_⟩
    · have hlt : off + j < full.length := by simp at hj; omega
      have := (h3 (off + j) full[off + j] (List.getElem?_eq_getElem hlt)).2
      refine ⟨?_, this⟩
      rw [cell_of_row W b (off + j) vs ty (0, 0) h1]
      have hv : off + j < vs.size := by omega
      simp [hv]
    · rw [List.getElem?_drop] at hc
      exact (h3 (off + j) c hc).1
  | _ => simp [view] at hw

theorem run_isAgg {t : TypeId} {d : TypeDesc} (ht : P.underlying t = some d) (W : World) : (isAgg t).run P W = .ok (isAggD d) W := by
  cases d <;> simp [isAgg, run_underlying ht, isAggD]
theorem aggN_cases {t : TypeId} {n : Option Nat} (hn : aggN P t = some n) : ∃ d i, P.underlying t = some d ∧ P.info? t = some i ∧ (isAggD d = true ∧ n = some i.size ∨ isAggD d = false ∧ n = none) := by
  unfold aggN at hn
  split at hn
  · rename_i d i hu hi
    refine ⟨d, i, hu, hi, ?_⟩
    cases hd : isAggD d <;> simp [hd] at hn <;> simp [hn]
  · cases hn
theorem range_map_get {n : Nat} {f : Nat → Value} {j : Nat} {v : Value} (h : ((List.range n).map f)[j]? = some v) : j < n ∧ v = f j := by
  have hj : j < n := by
    rcases Nat.lt_or_ge j n with hj | hj
    · exact hj
    · rw [List.getElem?_eq_none (by simp; omega)] at h
      cases h
  rw [List.getElem?_map, List.getElem?_range hj] at h
  exact ⟨hj, by simpa using h.symm⟩

/-- A load of n cells, or of one, out of cells that are seen. -/
theorem run_load_cells {t : TypeId} {n : Option Nat} (hn : aggN P t = some n) {cs : List AV} {b off : Nat} {f : Nat → Value} (h1 : ∀ j, j < cs.length → W.cell? ⟨b, off + j, none⟩ = some (f j) ∧ (f j).oneCell' = true)
    (h2 : ∀ j c, cs[j]? = some c → VR W U (f j) c) (hr : ldR n cs r) : ∃ v, (Instr.loadAt t (.pointer (some ⟨b, off, none⟩))).run P W = .ok v W ∧ VR W U v r ∧ ∀ e sz els, r ≠ .sl (some e) sz els := by
  obtain ⟨d, i, hu, hi, hd⟩ := aggN_cases hn
  rcases hd with ⟨hd, rfl⟩ | ⟨hd, rfl⟩
  · obtain ⟨hle, rfl⟩ := (by simpa [ldR] using hr : i.size ≤ cs.length ∧ r = .agg (cs.take i.size))
    refine ⟨.agg ((List.range i.size).map f).toArray, ?_, .agg _ _ (by simp [hle]) (fun j v c hv hc => ?_) (fun v hv => ?_), by simp⟩
    · have hl := run_loadCells_list (P := P) (w := W) ⟨b, off, none⟩ ((List.range i.size).map f) (fun j v hj => by
        obtain ⟨hlt, rfl⟩ := range_map_get hj
        rw [add_mk]
        exact (h1 j (by omega)).1)
      simp only [List.length_map, List.length_range] at hl
      simp [Instr.loadAt, Instr.sureAddr, loadVar, run_isAgg hu, hd, sizeOf, typeInfo, hi, hl]
    · obtain ⟨hlt, rfl⟩ := range_map_get hv
      rw [List.getElem?_take, if_pos hlt] at hc
      exact h2 j c hc
    · simp only [List.mem_map, List.mem_range] at hv
      obtain ⟨j, hj, rfl⟩ := hv
      exact (h1 j (by omega)).2
  · cases cs with
    | nil => simp [ldR] at hr
    | cons c rest =>
      obtain rfl := (by simpa [ldR] using hr : r = c.alias)
      have hc := (h1 0 (by simp)).1
      refine ⟨f 0, ?_, (h2 0 c (by simp)).alias, alias_plain c⟩
      simp only [Nat.add_zero] at hc
      simp [Instr.loadAt, Instr.sureAddr, loadVar, run_isAgg hu, hd, hc]

theorem s_ld (h : Inv N W0 U0 M a W U s) {t : TypeId} {x : Operand} {X : Opd} {n : Option Nat} (ho : o.op = .load t x) (hn : aggN P t = some n) (hx : cOpd x = some X) (hr : opR P s (.ld n X) r) : VOK P a o W U r := by
  obtain ⟨p, cs, hp, hv, hl⟩ := hr
  obtain ⟨b, off, f, he, h1, h2⟩ := view_sound h (cOpd_sound h hx hp) hv
  obtain ⟨v, hrun, hvr, hpl⟩ := run_load_cells hn h1 h2 hl
  exact VOK.same (v := v) (by simp [execOp, ho, he, hrun]) hvr hpl

theorem s_fld (h : Inv N W0 U0 M a W U s) {t : TypeId} {fs : Array Field} {fi n : Nat} {fd : Field} {x : Operand} {X : Opd} (ho : o.op = .fieldAddr t x fi) (ht : P.underlying t = some (.struct fs)) (hf : fs[fi]? = some fd)
    (hz : (P.info? fd.type).map (·.size) = some (n + 1)) (hx : cOpd x = some X) (hr : opR P s (.fld fd.offset X) r) : VOK P a o W U r := by
  obtain ⟨p, hp, hb⟩ := hr
  have h1 := cOpd_sound h hx hp
  cases hi : P.info? fd.type with
  | none => simp [hi] at hz
  | some i =>
    have hsz : i.size = n + 1 := by simpa [hi] using hz
    cases p with
    | ro cs =>
      obtain rfl := (by simpa [fldR] using hb : r = .ro (cs.drop fd.offset))
      generalize hval : a.eval x = val at h1
      cases h1 with
      | ro b off _ f hc hv =>
        refine VOK.same (v := .pointer (some ⟨b, off + fd.offset, none⟩)) ?_ ?_ (by simp)
        · simp [execOp, ho, hval, Instr.fieldAt, run_underlying ht, hf, Instr.sureAddr, fieldPlace, sizeOf, typeInfo, hi, hsz, add_mk]
        · refine .ro b (off + fd.offset) _ (fun j => f (fd.offset + j)) (fun j hj => ?_) (fun j c hc' => ?_)
          · have := hc (fd.offset + j) (by simp at hj; omega)
            rw [Nat.add_assoc]
            exact this
          · rw [List.getElem?_drop] at hc'
            exact hv _ c hc'
    | ptr b off =>
      obtain rfl := (by simpa [fldR] using hb : r = .ptr b (off + fd.offset))
      generalize hval : a.eval x = val at h1
      cases h1
      exact VOK.same (v := .pointer (some ⟨b, off + fd.offset, none⟩)) (by simp [execOp, ho, hval, Instr.fieldAt, run_underlying ht, hf, Instr.sureAddr, fieldPlace, sizeOf, typeInfo, hi, hsz, add_mk]) (.ptr _ _) (by simp)
    | _ => exact hb.elim

theorem isSlice_cases {t : TypeId} {e sz : Nat} (h : isSlice P t = some (e, sz)) : ∃ i, P.underlying t = some (.slice e) ∧ P.info? e = some i ∧ i.size = sz := by
  unfold isSlice at h
  split at h
  · rename_i e' hu
    cases hi : P.info? e' with
    | none => simp [hi] at h
    | some i =>
      simp only [hi, Option.map_some, Option.some.injEq, Prod.mk.injEq] at h
      obtain ⟨rfl, rfl⟩ := h
      exact ⟨i, hu, hi, rfl⟩
  · cases h

theorem s_idx (h : Inv N W0 U0 M a W U s) {t : TypeId} {e sz : Nat} {x y : Operand} {X Y : Opd} (ho : o.op = .indexAddr t x y) (ht : isSlice P t = some (e, sz)) (hx : cOpd x = some X) (hy : cOpd y = some Y) (hr : opR P s (.idx sz X Y) r) : VOK P a o W U r := by
  obtain ⟨p, q, hp, hn, hr⟩ := hr
  obtain ⟨i, hu, hi, rfl⟩ := isSlice_cases ht
  cases p <;> try exact hr.elim
  all_goals cases q <;> try exact hr.elim
  case osl.int b off len k n =>
    obtain ⟨⟨hn0, hnl⟩, rfl⟩ := hr
    have h1 := cOpd_sound h hx hp
    have h2 := (cOpd_sound h hy hn).int_inv
    generalize hval : a.eval x = val at h1
    cases h1 with
    | osl _ _ _ cap hcap hmax =>
      refine VOK.same (v := .pointer (some ⟨b, off + n.toNat * i.size, none⟩)) ?_ (.ptr _ _) (by simp)
      simp [execOp, ho, hval, h2, Instr.indexAt, asIntOf, run_underlying hu, hn0, hnl, sizeOf, typeInfo, hi, add_mk]
  rename_i own sz els k n
  obtain ⟨rfl, ⟨hn0, hnl⟩, rfl⟩ := hr
  have h1 := cOpd_sound h hx hp
  have h2 := (cOpd_sound h hy hn).int_inv
  have hlt : n.toNat < els.length := by omega
  have hget : els.getD n.toNat [] = els[n.toNat] := by simp [hlt]
  generalize hval : a.eval x = val at h1
  cases h1 with
  | sl A cap _ _ b off _ f hcap hmax hA hs hc hv =>
    obtain rfl := hA (by omega)
    have hsz : els[n.toNat].length = i.size := hs _ (List.getElem_mem _)
    refine VOK.same (v := .pointer (some ⟨b, off + n.toNat * i.size, none⟩)) ?_ ?_ (by simp)
    · simp [execOp, ho, hval, h2, Instr.indexAt, asIntOf, run_underlying hu, hn0, hnl, sizeOf, typeInfo, hi, add_mk]
    · rw [hget]
      refine .ro b _ _ (fun j => f n.toNat j) (fun j hj => ?_) (fun j c hc' => hv n.toNat _ j c (List.getElem?_eq_getElem hlt) hc')
      exact hc n.toNat j hlt (by omega)

theorem s_aidx (h : Inv N W0 U0 M a W U s) {t : TypeId} {n e : Nat} {x y : Operand} {X Y : Opd} (ho : o.op = .indexAddr t x y) (ht : P.underlying t = some (.array n e)) (hi : (P.info? e).isSome = true) (hx : cOpd x = some X) (hy : cOpd y = some Y) (hr : opR P s (.aidx n (sizeT P e) X Y) r) : VOK P a o W U r := by
  obtain ⟨p, k, m, hp, hn, ⟨hm0, hml⟩, hb⟩ := hr
  have h1 := cOpd_sound h hx hp
  have h2 := (cOpd_sound h hy hn).int_inv
  obtain ⟨i, hi⟩ := Option.isSome_iff_exists.1 hi
  have hsz : sizeT P e = i.size := by simp [sizeT, hi]
  rw [hsz] at hb
  cases p with
  | ro cs =>
    obtain rfl := (by simpa [fldR] using hb : r = .ro (cs.drop (m.toNat * i.size)))
    generalize hval : a.eval x = val at h1
    cases h1 with
    | ro b off _ f hc hv =>
      refine VOK.same (v := .pointer (some ⟨b, off + m.toNat * i.size, none⟩)) ?_ ?_ (by simp)
      · simp [execOp, ho, hval, h2, Instr.indexAt, asIntOf, run_underlying ht, Instr.sureAddr, hm0, hml, sizeOf, typeInfo, hi, add_mk]
      · refine .ro b _ _ (fun j => f (m.toNat * i.size + j)) (fun j hj => ?_) (fun j c hc' => ?_)
        · have := hc (m.toNat * i.size + j) (by simp at hj; omega)
          rw [Nat.add_assoc]
          exact this
        · rw [List.getElem?_drop] at hc'
          exact hv _ c hc'
  | ptr b off =>
    obtain rfl := (by simpa [fldR] using hb : r = .ptr b (off + m.toNat * i.size))
    generalize hval : a.eval x = val at h1
    cases h1
    exact VOK.same (v := .pointer (some ⟨b, off + m.toNat * i.size, none⟩)) (by simp [execOp, ho, hval, h2, Instr.indexAt, asIntOf, run_underlying ht, Instr.sureAddr, hm0, hml, sizeOf, typeInfo, hi, add_mk]) (.ptr _ _) (by simp)
  | _ => exact hb.elim

theorem s_sidx (h : Inv N W0 U0 M a W U s) {t : TypeId} {x y : Operand} {X Y : Opd} (ho : o.op = .index t x y) (ht : P.underlying t = some .string) (hx : cOpd x = some X) (hy : cOpd y = some Y) (hr : opR P s (.sidx X Y) r) : VOK P a o W U r := by
  obtain ⟨l, k, n, hp, hn, ⟨hn0, hnl⟩, rfl⟩ := hr
  have h1 := (cOpd_sound h hx hp).str_inv
  have h2 := (cOpd_sound h hy hn).int_inv
  have hlt : n.toNat < l.length := by omega
  refine VOK.same (v := .int .u8 ((l.getD n.toNat 0).toNat : Int)) ?_ (.int _ _) (by simp)
  have hb : (⟨l.toArray⟩ : ByteArray)[n.toNat]? = some l[n.toNat] := by
    rw [getElem?_pos (⟨l.toArray⟩ : ByteArray) n.toNat (by rw [size_str]; exact hlt)]
    rfl
  simp [execOp, ho, h1, h2, Instr.index, asIntOf, run_underlying ht, hn0, hb, hlt]

theorem s_fldv (h : Inv N W0 U0 M a W U s) {t : TypeId} {fs : Array Field} {fi : Nat} {fd : Field} {n : Option Nat} {x : Operand} {X : Opd} (ho : o.op = .field t x fi) (ht : P.underlying t = some (.struct fs)) (hf : fs[fi]? = some fd)
    (hn : aggN P fd.type = some n) (hx : cOpd x = some X) (hr : opR P s (.fldv fd.offset n X) r) : VOK P a o W U r := by
  obtain ⟨cs, hp, hlt, hb⟩ := hr
  have h1 := cOpd_sound h hx hp
  obtain ⟨d, i, hu, hi, hd⟩ := aggN_cases hn
  generalize hval : a.eval x = val at h1
  cases h1 with
  | agg vs _ hl hv hone =>
    rcases hd with ⟨hd, rfl⟩ | ⟨hd, rfl⟩
    · obtain ⟨hle, rfl⟩ := (by simpa [ldR] using hb : i.size ≤ cs.length - fd.offset ∧ r = .agg ((cs.drop fd.offset).take i.size))
      refine VOK.same (v := .agg ((vs.drop fd.offset).take i.size).toArray) ?_ (.agg _ _ (by simp [hl]) (fun j v c h3 h4 => ?_) (fun v hv => hone v (List.mem_of_mem_drop (List.mem_of_mem_take hv)))) (by simp)
      · simp [execOp, ho, hval, Instr.field, run_underlying ht, hf, asAgg, part, run_isAgg hu, hd, sizeOf, typeInfo, hi]
      · rw [List.getElem?_take] at h3 h4
        split at h3
        · rename_i hj
          rw [if_pos hj] at h4
          rw [List.getElem?_drop] at h3 h4
          exact hv _ v c h3 h4
        · cases h3
    · have hdr : cs.drop fd.offset = cs[fd.offset] :: cs.drop (fd.offset + 1) := by rw [List.drop_eq_getElem_cons hlt]
      rw [hdr] at hb
      obtain rfl := (by simpa [ldR] using hb : r = (cs[fd.offset]).alias)
      have hlv : fd.offset < vs.length := by omega
      refine VOK.same (v := vs[fd.offset]) ?_ (hv fd.offset _ _ (List.getElem?_eq_getElem hlv) (List.getElem?_eq_getElem hlt)).alias (alias_plain _)
      simp [execOp, ho, hval, Instr.field, run_underlying ht, hf, asAgg, part, run_isAgg hu, hd, hlv]

theorem s_ext (h : Inv N W0 U0 M a W U s) {j : Nat} {x : Operand} {X : Opd} (ho : o.op = .extract x j) (hx : cOpd x = some X) (hr : opR P s (.ext j X) r) : VOK P a o W U r := by
  obtain ⟨cs, c, hp, hc, rfl⟩ := hr
  have h1 := cOpd_sound h hx hp
  generalize hval : a.eval x = val at h1
  cases h1 with
  | tup vs _ hl hv =>
    have hlt : j < cs.length := (List.getElem?_eq_some_iff.1 hc).1
    have hlv : j < vs.length := by omega
    refine VOK.same (v := vs[j]) ?_ (hv j _ _ (List.getElem?_eq_getElem hlv) hc).alias (alias_plain _)
    simp [execOp, ho, hval, Instr.extract, hlv]

theorem s_nilc (h : Inv N W0 U0 M a W U s) {x : Operand} {X : Opd} (ho : o.op = .nilCheck x) (hx : cOpd x = some X) (hr : opR P s (.nilc X) r) : VOK P a o W U r := by
  rcases hr with ⟨cs, hp, rfl⟩ | ⟨b, off, hp, rfl⟩
  · have h1 := cOpd_sound h hx hp
    refine VOK.same (v := a.eval x) ?_ h1 (by simp)
    generalize hval : a.eval x = val at h1
    cases h1
    simp [execOp, ho, hval]
  · have h1 := cOpd_sound h hx hp
    refine VOK.same (v := a.eval x) ?_ h1 (by simp)
    generalize hval : a.eval x = val at h1
    cases h1
    simp [execOp, ho, hval]

theorem s_pick (h : Inv N W0 U0 M a W U s) {c x y : Operand} {C X Y : Opd} (ho : o.op = .pick c x y) (hc : cOpd c = some C) (hx : cOpd x = some X) (hy : cOpd y = some Y) (hr : opR P s (.pick C X Y) r) : VOK P a o W U r := by
  obtain ⟨b, u, v, h1, h2, h3, rfl⟩ := hr
  have hb := (cOpd_sound h hc h1).bool_inv
  cases b with
  | true => exact VOK.same (v := a.eval x) (by simp [execOp, ho, hb, asBool]) (cOpd_sound h hx h2).alias (alias_plain _)
  | false => exact VOK.same (v := a.eval y) (by simp [execOp, ho, hb, asBool]) (cOpd_sound h hy h3).alias (alias_plain _)

end
end Go.Proofs.YtedcagoilpaafaaDoor
