import Derived.Test.YtmmmbmljompamaaGreatDoorK0
import Derived.Great.BuildSlice
import Derived.Lib.ConvBytes
namespace Go.Proofs.YtmmmbmljompamaaGreatDoor
set_option linter.all false
open Go.RowKit

section
variable {P : Program} {N : Nat} {W0 : World} {U0 : Nat → Nat → Prop} {M : Nat → Prop} {a : Act} {W : World} {U : Nat → Nat → Prop} {s : St} {o : Oper} {r : AV}

def VOK (P : Program) (a : Act) (o : Oper) (W : World) (U : Nat → Nat → Prop) (r : AV) : Prop :=
  ∃ v W' U', (execOp a.eval o).run P W = .ok (.value v) W' ∧ Ext W U W' U' ∧ VR W' U' v r ∧ Own1 W' U' (W.heap.size ≤ ·) v r

theorem Own1.plain {B : Nat → Prop} {v : Value} {r : AV} (h : ∀ e sz els, r ≠ .sl (some e) sz els) : Own1 W U B v r := by
  unfold Own1
  split
  · exact absurd rfl (h _ _ _)
  · trivial
theorem alias_plain (r : AV) (e : Nat) (sz : Nat) (els : List (List AV)) : r.alias ≠ .sl (some e) sz els := by
  cases r <;> simp [AV.alias]
theorem store_plain (r : AV) (e : Nat) (sz : Nat) (els : List (List AV)) : r.store ≠ .sl (some e) sz els := by
  cases r <;> simp [AV.alias, AV.store]
theorem VOK.same {v : Value} (hrun : (execOp a.eval o).run P W = .ok (.value v) W) (hv : VR W U v r) (hp : ∀ e sz els, r ≠ .sl (some e) sz els) : VOK P a o W U r :=
  ⟨v, W, U, hrun, Ext.refl _ _, hv, Own1.plain hp⟩

theorem VR.int_inv {v : Value} {k : IntKind} {n : Int} (h : VR W U v (.int k n)) : v = .int k n := by cases h; rfl
theorem VR.bool_inv {v : Value} {b : Bool} (h : VR W U v (.bool b)) : v = .bool b := by cases h; rfl
theorem VR.str_inv {v : Value} {l : List UInt8} (h : VR W U v (.str l)) : v = .string ⟨l.toArray⟩ := by cases h; rfl

theorem s_mv (h : Inv N W0 U0 M a W U s) {x : Operand} {X : Opd} (ho : o.op = .move x ∨ o.op = .assign x) (hx : cOpd x = some X) (hr : opR P s (.mv X) r) : VOK P a o W U r := by
  obtain ⟨v, hv, rfl⟩ := hr
  refine VOK.same (v := a.eval x) ?_ (cOpd_sound h hx hv).alias (alias_plain _)
  rcases ho with ho | ho <;> simp [execOp, ho]

theorem s_nil {x : Operand} {e sz : Nat} (ho : o.op = .move x ∨ o.op = .assign x) (hx : x = .const (.slice none 0 0)) (hr : opR P s (.nil e sz) r) : VOK P a o W U r := by
  obtain rfl := hr
  subst hx
  refine ⟨.slice none 0 0, W, U, ?_, Ext.refl _ _, (zVR_sound (v := .slice none 0 0) (c := .sl (some e) sz []) rfl W U).1, .inl ⟨rfl, rfl⟩⟩
  rcases ho with ho | ho <;> simp [execOp, ho, Act.eval]

theorem binR_plain {op : BinOp} {x y r : AV} (h : binR op x y r) : ∀ e sz els, r ≠ .sl (some e) sz els := by
  intro e sz els hr
  subst hr
  unfold binR at h
  split at h <;> simp at h

theorem size_str (l : List UInt8) : (⟨l.toArray⟩ : ByteArray).size = l.length := by simp [ByteArray.size]
theorem toList_str (l : List UInt8) : (⟨l.toArray⟩ : ByteArray).toList = l := by rw [ByteArray.toList_eq]
theorem append_str (a b : List UInt8) : (⟨a.toArray⟩ : ByteArray) ++ ⟨b.toArray⟩ = ⟨(a ++ b).toArray⟩ := by
  apply ByteArray.ext
  simp

theorem beq_str (l m : List UInt8) : (l == m) = decide (l = m) := by
  by_cases h : l = m <;> simp [h]
theorem beq_bool (m n : Bool) : (m == n) = decide (m = n) := by cases m <;> cases n <;> rfl

theorem s_bin (h : Inv N W0 U0 M a W U s) {op : BinOp} {t ty : TypeId} {x y : Operand} {X Y : Opd} (ho : o.op = .binOp op t x y ty) (hx : cOpd x = some X) (hy : cOpd y = some Y) (hr : opR P s (.bin op X Y) r) :
    VOK P a o W U r := by
  obtain ⟨v, u, hv, hu, hb⟩ := hr
  have h1 := cOpd_sound h hx hv
  have h2 := cOpd_sound h hy hu
  have hp := binR_plain hb
  suffices hs : ∃ w, (do eqGuard op t x y (a.eval x) (a.eval y); binOp op t (a.eval x) (a.eval y) : Sem Value).run P W = .ok w W ∧ VR W U w r by
    obtain ⟨w, hw, hvr⟩ := hs
    refine VOK.same (v := w) ?_ hvr hp
    simp only [execOp, ho]
    simp only [Sem.run_bind] at hw ⊢
    rw [hw]
    simp
  unfold binR at hb
  split at hb
  · obtain ⟨rfl, rfl⟩ := hb; rw [h1.int_inv, h2.int_inv]; exact ⟨_, by simp [eqGuard, binOp, Op.intArith], .int _ _⟩
  · obtain ⟨rfl, rfl⟩ := hb; rw [h1.int_inv, h2.int_inv]; exact ⟨_, by simp [eqGuard, binOp, Op.intArith], .int _ _⟩
  · obtain ⟨rfl, rfl⟩ := hb; rw [h1.int_inv, h2.int_inv]; exact ⟨_, by simp [eqGuard, binOp, Op.intArith], .int _ _⟩
  · obtain ⟨rfl, hn0, rfl⟩ := hb; rw [h1.int_inv, h2.int_inv]; exact ⟨_, by simp [eqGuard, binOp, Op.intDiv, hn0], .int _ _⟩
  · obtain ⟨rfl, hn0, rfl⟩ := hb; rw [h1.int_inv, h2.int_inv]; exact ⟨_, by simp [eqGuard, binOp, Op.intDiv, hn0], .int _ _⟩
  · obtain ⟨rfl, rfl⟩ := hb; rw [h1.int_inv, h2.int_inv]; exact ⟨_, by simp [eqGuard, binOp, Op.intCmp]; rfl, .bool _⟩
  · obtain ⟨rfl, rfl⟩ := hb; rw [h1.int_inv, h2.int_inv]; exact ⟨_, by simp [eqGuard, binOp, Op.intCmp]; rfl, .bool _⟩
  · obtain ⟨rfl, rfl⟩ := hb; rw [h1.int_inv, h2.int_inv]; exact ⟨_, by simp [eqGuard, binOp, Op.intCmp], .bool _⟩
  · obtain ⟨rfl, rfl⟩ := hb; rw [h1.int_inv, h2.int_inv]; exact ⟨_, by simp [eqGuard, binOp, Op.intCmp], .bool _⟩
  · obtain ⟨rfl, rfl⟩ := hb; rw [h1.int_inv, h2.int_inv]; exact ⟨_, by simp [eqGuard, binOp, Op.intCmp], .bool _⟩
  · obtain ⟨rfl, rfl⟩ := hb; rw [h1.int_inv, h2.int_inv]; exact ⟨_, by simp [eqGuard, binOp, Op.intCmp], .bool _⟩
  · obtain ⟨hl, rfl⟩ := hb; rw [h1.str_inv, h2.str_inv]
    refine ⟨_, ?_, .str _⟩
    simp [eqGuard, binOp, Op.stringOp, append_str]
    rw [size_str, size_str]
    omega
  · obtain rfl := hb; rw [h1.str_inv, h2.str_inv]; exact ⟨_, by simp [eqGuard, binOp, Op.stringOp, beq_str], .bool _⟩
  · obtain rfl := hb; rw [h1.str_inv, h2.str_inv]; exact ⟨_, by simp [eqGuard, binOp, Op.stringOp, beq_str], .bool _⟩
  · obtain rfl := hb; rw [h1.str_inv, h2.str_inv]; exact ⟨_, by simp [eqGuard, binOp, Op.stringOp], .bool _⟩
  · obtain ⟨rfl, rfl⟩ := hb; rw [h1.int_inv, h2.int_inv]; exact ⟨_, by simp [eqGuard, binOp, Op.intBits], .int _ _⟩
  · obtain ⟨rfl, rfl⟩ := hb; rw [h1.int_inv, h2.int_inv]; exact ⟨_, by simp [eqGuard, binOp, Op.intBits], .int _ _⟩
  · obtain ⟨rfl, rfl⟩ := hb; rw [h1.int_inv, h2.int_inv]; exact ⟨_, by simp [eqGuard, binOp, Op.intBits], .int _ _⟩
  · obtain ⟨rfl, rfl⟩ := hb; rw [h1.int_inv, h2.int_inv]; exact ⟨_, by simp [eqGuard, binOp, Op.intBits], .int _ _⟩
  · obtain ⟨h0, rfl⟩ := hb; rw [h1.int_inv, h2.int_inv]; exact ⟨_, by simp [eqGuard, binOp, Op.shift, show ¬ _ < (0 : Int) from Int.not_lt.2 h0], .int _ _⟩
  · obtain ⟨h0, rfl⟩ := hb; rw [h1.int_inv, h2.int_inv]; exact ⟨_, by simp [eqGuard, binOp, Op.shift, show ¬ _ < (0 : Int) from Int.not_lt.2 h0], .int _ _⟩
  · exact hb.elim

theorem run_equal_bool {t : TypeId} (ht : P.underlying t = some .bool) (d : Nat) (x y : Bool) : (Op.equalIn (d + 1) t (.bool x) (.bool y)).run P W = .ok (decide (x = y)) W := by
  simp [Op.equalIn, run_underlying ht, beq_bool]
theorem s_beq (h : Inv N W0 U0 M a W U s) {op : BinOp} {t ty : TypeId} {x y : Operand} {X Y : Opd} (ho : o.op = .binOp op t x y ty) (hop : op = .eql ∨ op = .neq) (ht : P.underlying t = some .bool) (hx : cOpd x = some X) (hy : cOpd y = some Y)
    (hr : opR P s (.beq (isNeq op) X Y) r) : VOK P a o W U r := by
  obtain ⟨v, u, hv, hu, rfl⟩ := hr
  have h1 := (cOpd_sound h hx hv).bool_inv
  have h2 := (cOpd_sound h hy hu).bool_inv
  rcases hop with rfl | rfl
  · refine VOK.same (v := .bool (decide (v = u))) ?_ (.bool _) (by simp)
    simp [execOp, ho, h1, h2, eqGuard, binOp, Op.equal, Op.maxDepth, run_equal_bool ht 9999 v u]
  · refine VOK.same (v := .bool (!decide (v = u))) ?_ (.bool _) (by simp)
    simp [execOp, ho, h1, h2, eqGuard, binOp, Op.equal, Op.maxDepth, run_equal_bool ht 9999 v u]

theorem s_peq (h : Inv N W0 U0 M a W U s) {op : BinOp} {t e ty : TypeId} {x y : Operand} {X : Opd} (ho : o.op = .binOp op t x y ty) (hop : op = .eql ∨ op = .neq) (ht : P.underlying t = some (.pointer e)) (hx : cOpd x = some X) (hy : cOpd y = some (.c .nilp))
    (hr : opR P s (.peq (isNeq op) X) r) : VOK P a o W U r := by
  obtain ⟨v, b, hv, hb, rfl⟩ := hr
  have h1 := cOpd_sound h hx hv
  have h2 : a.eval y = .pointer none := by
    have := cOpd_sound h hy (v := .nilp) rfl
    generalize a.eval y = w at this
    cases this; rfl
  have h3 : ∃ p, a.eval x = .pointer p ∧ b = p.isNone := by
    generalize a.eval x = w at h1
    cases h1 <;> simp only [isNilP, Option.some.injEq, reduceCtorEq] at hb <;> subst hb <;> exact ⟨_, rfl, rfl⟩
  obtain ⟨p, h3, rfl⟩ := h3
  have hrun : ∀ d, (Op.equalIn (d + 1) t (.pointer p) (.pointer none)).run P W = .ok p.isNone W := by
    intro d
    cases p <;> simp [Op.equalIn, run_underlying ht]
  rcases hop with rfl | rfl
  · refine VOK.same (v := .bool p.isNone) ?_ (.bool _) (by simp)
    simp [execOp, ho, h3, h2, eqGuard, binOp, Op.equal, Op.maxDepth, hrun 9999]
  · refine VOK.same (v := .bool (!p.isNone)) ?_ (.bool _) (by simp)
    simp [execOp, ho, h3, h2, eqGuard, binOp, Op.equal, Op.maxDepth, hrun 9999]
theorem s_un (h : Inv N W0 U0 M a W U s) {op : UnOp} {t : TypeId} {x : Operand} {X : Opd} (ho : o.op = .unOp op t x) (hx : cOpd x = some X) (hr : opR P s (.un op X) r) : VOK P a o W U r := by
  obtain ⟨v, hv, hb⟩ := hr
  have h1 := cOpd_sound h hx hv
  unfold unR at hb
  split at hb
  · obtain rfl := hb
    exact VOK.same (v := .bool _) (by simp [execOp, ho, h1.bool_inv, Op.unary]) (.bool _) (by simp)
  · obtain rfl := hb
    exact VOK.same (v := .int _ _) (by simp [execOp, ho, h1.int_inv, Op.unary, Op.intArith]) (.int _ _) (by simp)
  · obtain rfl := hb
    exact VOK.same (v := .int _ _) (by simp [execOp, ho, h1.int_inv, Op.unary, Op.intBits]) (.int _ _) (by simp)
  · exact hb.elim

theorem s_conv (h : Inv N W0 U0 M a W U s) {src dst : TypeId} {ks k : IntKind} {x : Operand} {X : Opd} (ho : o.op = .convert src dst x) (hs : P.underlying src = some (.int ks)) (hd : P.underlying dst = some (.int k)) (hx : cOpd x = some X)
    (hr : opR P s (.conv k X) r) : VOK P a o W U r := by
  obtain ⟨k', n, hv, rfl⟩ := hr
  have h1 := (cOpd_sound h hx hv).int_inv
  exact VOK.same (v := .int k (k.wrap n)) (by simp [execOp, ho, h1, convert, run_underlying hs, run_underlying hd, Conv.intToInt]) (.int _ _) (by simp)

theorem s_s2s (h : Inv N W0 U0 M a W U s) {src dst : TypeId} {x : Operand} {X : Opd} (ho : o.op = .convert src dst x) (hs : P.underlying src = some .string) (hd : P.underlying dst = some .string) (hx : cOpd x = some X)
    (hr : opR P s (.s2s X) r) : VOK P a o W U r := by
  obtain ⟨l, hl, rfl⟩ := hr
  have h1 := (cOpd_sound h hx hl).str_inv
  exact VOK.same (v := .string ⟨l.toArray⟩) (by simp [execOp, ho, h1, convert, run_underlying hs, run_underlying hd]) (.str l) (by simp)

theorem s_lens (h : Inv N W0 U0 M a W U s) {t : TypeId} {x : Operand} {X : Opd} (ho : o.op = .call { callee := .builtin .len, args := ⟨[x]⟩, argTypes := ⟨[t]⟩ }) (ht : P.underlying t = some .string)
    (hx : cOpd x = some X) (hr : opR P s (.len true X) r) : VOK P a o W U r := by
  obtain ⟨v, hv, hb⟩ := hr
  have h1 := cOpd_sound h hx hv
  cases v <;> simp only [lenR] at hb
  subst hb
  exact VOK.same (v := .int .i64 _) (by simp [execOp, ho, h1.str_inv, resolve, invoke, builtin, Builtin.len_, run_underlying ht, goInt, size_str]) (.int _ _) (by simp)

theorem s_lenl (h : Inv N W0 U0 M a W U s) {t e : TypeId} {x : Operand} {X : Opd} (ho : o.op = .call { callee := .builtin .len, args := ⟨[x]⟩, argTypes := ⟨[t]⟩ }) (ht : P.underlying t = some (.slice e))
    (hx : cOpd x = some X) (hr : opR P s (.len false X) r) : VOK P a o W U r := by
  obtain ⟨v, hv, hb⟩ := hr
  have h1 := cOpd_sound h hx hv
  cases v <;> simp only [lenR] at hb
  · rename_i own sz els
    subst hb
    refine VOK.same (v := .int .i64 els.length) ?_ (.int _ _) (by simp)
    generalize hval : a.eval x = val at h1
    cases h1
    simp [execOp, ho, hval, resolve, invoke, builtin, Builtin.len_, run_underlying ht, goInt]
  · rename_i b off n
    subst hb
    refine VOK.same (v := .int .i64 n) ?_ (.int _ _) (by simp)
    generalize hval : a.eval x = val at h1
    cases h1
    simp [execOp, ho, hval, resolve, invoke, builtin, Builtin.len_, run_underlying ht, goInt]
  · rename_i g e' sz n cap
    subst hb
    refine VOK.same (v := .int .i64 n) ?_ (.int _ _) (by simp)
    generalize hval : a.eval x = val at h1
    cases h1
    simp [execOp, ho, hval, resolve, invoke, builtin, Builtin.len_, run_underlying ht, goInt]
  · rename_i g sz a0 m
    subst hb
    refine VOK.same (v := .int .i64 m) ?_ (.int _ _) (by simp)
    generalize hval : a.eval x = val at h1
    cases h1
    simp [execOp, ho, hval, resolve, invoke, builtin, Builtin.len_, run_underlying ht, goInt]
  · subst hb
    refine VOK.same (v := .int .i64 0) ?_ (.int _ _) (by simp)
    generalize hval : a.eval x = val at h1
    cases h1
    simp [execOp, ho, hval, resolve, invoke, builtin, Builtin.len_, run_underlying ht, goInt]

theorem add_mk (b o j : Nat) : (⟨b, o, none⟩ : Addr).add j = ⟨b, o + j, none⟩ := by
  unfold Addr.add
  split <;> simp_all

theorem view_sound (h : Inv N W0 U0 M a W U s) {v : Value} {p : AV} {cs : List AV} (hv : VR W U v p) (hw : view s.o p = some cs) :
    ∃ (b off : Nat) (f : Nat → Value), v = .pointer (some ⟨b, off, none⟩) ∧ (∀ j, j < cs.length → W.cell? ⟨b, off + j, none⟩ = some (f j) ∧ (f j).oneCell' = true) ∧ ∀ j c, cs[j]? = some c → VR W U (f j) c := by
  cases hv with
  | ro b o cs' f hc hvv =>
    simp only [view, Option.some.injEq] at hw
    subst hw
    exact ⟨b, o, f, rfl, fun j hj => ⟨(hc j hj).1, (hc j hj).2.1⟩, hvv⟩
  | ptr b off hm =>
    simp only [view, Option.map_eq_some_iff] at hw
    obtain ⟨full, hf, rfl⟩ := hw
    obtain ⟨vs, ty, h1, h2, h3, _, _⟩ := h.obc hf hm
    refine ⟨b, off, fun j => vs.getD (off + j) undef, rfl, fun j hj => ?_, fun j c hc => ?_⟩
    · have hlt : off + j < full.length := by simp at hj; omega
      have := (h3 (off + j) full[off + j] (List.getElem?_eq_getElem hlt)).2
      refine ⟨?_, this⟩
      rw [cell_of_row W b (off + j) vs ty (0, 0) h1]
      have hv : off + j < vs.size := by omega
      simp [hv]
    · rw [List.getElem?_drop] at hc
      exact (h3 (off + j) c hc).1
  | _ => simp [view] at hw

theorem run_isAgg {t : TypeId} {d : TypeDesc} (ht : P.underlying t = some d) (W : World) : (isAgg t).run P W = .ok (isAggD d) W := by
  cases d <;> simp [isAgg, run_underlying ht, isAggD]
theorem aggN_cases {t : TypeId} {n : Option Nat} (hn : aggN P t = some n) : ∃ d i, P.underlying t = some d ∧ P.info? t = some i ∧ (isAggD d = true ∧ n = some i.size ∨ isAggD d = false ∧ n = none) := by
  unfold aggN at hn
  split at hn
  · rename_i d i hu hi
    refine ⟨d, i, hu, hi, ?_⟩
    cases hd : isAggD d <;> simp [hd] at hn <;> simp [hn]
  · cases hn
theorem range_map_get {n : Nat} {f : Nat → Value} {j : Nat} {v : Value} (h : ((List.range n).map f)[j]? = some v) : j < n ∧ v = f j := by
  have hj : j < n := by
    rcases Nat.lt_or_ge j n with hj | hj
    · exact hj
    · rw [List.getElem?_eq_none (by simp; omega)] at h
      cases h
  rw [List.getElem?_map, List.getElem?_range hj] at h
  exact ⟨hj, by simpa using h.symm⟩

theorem run_load_cells {t : TypeId} {n : Option Nat} (hn : aggN P t = some n) {cs : List AV} {b off : Nat} {f : Nat → Value} (h1 : ∀ j, j < cs.length → W.cell? ⟨b, off + j, none⟩ = some (f j) ∧ (f j).oneCell' = true)
    (h2 : ∀ j c, cs[j]? = some c → VR W U (f j) c) (hr : ldR n cs r) : ∃ v, (Instr.loadAt t (.pointer (some ⟨b, off, none⟩))).run P W = .ok v W ∧ VR W U v r ∧ ∀ e sz els, r ≠ .sl (some e) sz els := by
  obtain ⟨d, i, hu, hi, hd⟩ := aggN_cases hn
  rcases hd with ⟨hd, rfl⟩ | ⟨hd, rfl⟩
  · obtain ⟨hle, rfl⟩ := (by simpa [ldR] using hr : i.size ≤ cs.length ∧ r = .agg (cs.take i.size))
    refine ⟨.agg ((List.range i.size).map f).toArray, ?_, .agg _ _ (by simp [hle]) (fun j v c hv hc => ?_) (fun v hv => ?_), by simp⟩
    · have hl := run_loadCells_list (P := P) (w := W) ⟨b, off, none⟩ ((List.range i.size).map f) (fun j v hj => by
        obtain ⟨hlt, rfl⟩ := range_map_get hj
        rw [add_mk]
        exact (h1 j (by omega)).1)
      simp only [List.length_map, List.length_range] at hl
      simp [Instr.loadAt, Instr.sureAddr, loadVar, run_isAgg hu, hd, sizeOf, typeInfo, hi, hl]
    · obtain ⟨hlt, rfl⟩ := range_map_get hv
      rw [List.getElem?_take, if_pos hlt] at hc
      exact h2 j c hc
    · simp only [List.mem_map, List.mem_range] at hv
      obtain ⟨j, hj, rfl⟩ := hv
      exact (h1 j (by omega)).2
  · cases cs with
    | nil => simp [ldR] at hr
    | cons c rest =>
      obtain rfl := (by simpa [ldR] using hr : r = c.alias)
      have hc := (h1 0 (by simp)).1
      refine ⟨f 0, ?_, (h2 0 c (by simp)).alias, alias_plain c⟩
      simp only [Nat.add_zero] at hc
      simp [Instr.loadAt, Instr.sureAddr, loadVar, run_isAgg hu, hd, hc]

theorem s_ld (h : Inv N W0 U0 M a W U s) {t : TypeId} {x : Operand} {X : Opd} {n : Option Nat} (ho : o.op = .load t x) (hn : aggN P t = some n) (hx : cOpd x = some X) (hr : opR P s (.ld n X) r) : VOK P a o W U r := by
  obtain ⟨p, cs, hp, hv, hl⟩ := hr
  obtain ⟨b, off, f, he, h1, h2⟩ := view_sound h (cOpd_sound h hx hp) hv
  obtain ⟨v, hrun, hvr, hpl⟩ := run_load_cells hn h1 h2 hl
  exact VOK.same (v := v) (by simp [execOp, ho, he, hrun]) hvr hpl

theorem s_fld (h : Inv N W0 U0 M a W U s) {t : TypeId} {fs : Array Field} {fi n : Nat} {fd : Field} {x : Operand} {X : Opd} (ho : o.op = .fieldAddr t x fi) (ht : P.underlying t = some (.struct fs)) (hf : fs[fi]? = some fd)
    (hz : (P.info? fd.type).map (·.size) = some (n + 1)) (hx : cOpd x = some X) (hr : opR P s (.fld fd.offset X) r) : VOK P a o W U r := by
  obtain ⟨p, hp, hb⟩ := hr
  have h1 := cOpd_sound h hx hp
  cases hi : P.info? fd.type with
  | none => simp [hi] at hz
  | some i =>
    have hsz : i.size = n + 1 := by simpa [hi] using hz
    cases p with
    | ro cs =>
      obtain rfl := (by simpa [fldR] using hb : r = .ro (cs.drop fd.offset))
      generalize hval : a.eval x = val at h1
      cases h1 with
      | ro b off _ f hc hv =>
        refine VOK.same (v := .pointer (some ⟨b, off + fd.offset, none⟩)) ?_ ?_ (by simp)
        · simp [execOp, ho, hval, Instr.fieldAt, run_underlying ht, hf, Instr.sureAddr, fieldPlace, sizeOf, typeInfo, hi, hsz, add_mk]
        · refine .ro b (off + fd.offset) _ (fun j => f (fd.offset + j)) (fun j hj => ?_) (fun j c hc' => ?_)
          · have := hc (fd.offset + j) (by simp at hj; omega)
            rw [Nat.add_assoc]
            exact this
          · rw [List.getElem?_drop] at hc'
            exact hv _ c hc'
    | ptr b off =>
      have hm := h1.ptr_at
      obtain rfl := (by simpa [fldR] using hb : r = .ptr b (off + fd.offset))
      generalize hval : a.eval x = val at h1
      cases h1
      exact VOK.same (v := .pointer (some ⟨b, off + fd.offset, none⟩)) (by simp [execOp, ho, hval, Instr.fieldAt, run_underlying ht, hf, Instr.sureAddr, fieldPlace, sizeOf, typeInfo, hi, hsz, add_mk]) (.ptr _ _ hm) (by simp)
    | _ => exact hb.elim

theorem isSlice_cases {t : TypeId} {e sz : Nat} (h : isSlice P t = some (e, sz)) : ∃ i, P.underlying t = some (.slice e) ∧ P.info? e = some i ∧ i.size = sz := by
  unfold isSlice at h
  split at h
  · rename_i e' hu
    cases hi : P.info? e' with
    | none => simp [hi] at h
    | some i =>
      simp only [hi, Option.map_some, Option.some.injEq, Prod.mk.injEq] at h
      obtain ⟨rfl, rfl⟩ := h
      exact ⟨i, hu, hi, rfl⟩
  · cases h

theorem s_idx (h : Inv N W0 U0 M a W U s) {t : TypeId} {e sz : Nat} {x y : Operand} {X Y : Opd} (ho : o.op = .indexAddr t x y) (ht : isSlice P t = some (e, sz)) (hx : cOpd x = some X) (hy : cOpd y = some Y) (hr : opR P s (.idx sz X Y) r) : VOK P a o W U r := by
  obtain ⟨p, q, hp, hn, hr⟩ := hr
  obtain ⟨i, hu, hi, rfl⟩ := isSlice_cases ht
  cases p <;> try exact hr.elim
  all_goals cases q <;> try exact hr.elim
  case osl.int b off len k n =>
    obtain ⟨⟨hn0, hnl⟩, rfl⟩ := hr
    have h1 := cOpd_sound h hx hp
    have h2 := (cOpd_sound h hy hn).int_inv
    generalize hval : a.eval x = val at h1
    cases h1 with
    | osl _ _ _ cap hcap hmax hm =>
      refine VOK.same (v := .pointer (some ⟨b, off + n.toNat * i.size, none⟩)) ?_ (.ptr _ _ hm) (by simp)
      simp [execOp, ho, hval, h2, Instr.indexAt, asIntOf, run_underlying hu, hn0, hnl, sizeOf, typeInfo, hi, add_mk]
  case hsl.int g e' sz' len cap k n =>
    obtain ⟨rfl, ⟨hn0, hnl⟩, rfl⟩ := hr
    have h1 := cOpd_sound h hx hp
    have h2 := (cOpd_sound h hy hn).int_inv
    generalize hval : a.eval x = val at h1
    cases h1 with
    | hsl _ _ _ _ _ hcap hmax hm =>
      obtain ⟨c1, c2, c3⟩ := hm
      refine VOK.same (v := .pointer (some ⟨g, n.toNat * i.size, none⟩)) ?_ (.ptr _ _ ⟨_, _, _, c3⟩) (by simp)
      simp [execOp, ho, hval, h2, Instr.indexAt, asIntOf, run_underlying hu, hn0, hnl, sizeOf, typeInfo, hi, add_mk]
  case hss.int g sz' a0 len k n =>
    obtain ⟨rfl, ⟨hn0, hnl⟩, rfl⟩ := hr
    have h1 := cOpd_sound h hx hp
    have h2 := (cOpd_sound h hy hn).int_inv
    generalize hval : a.eval x = val at h1
    cases h1 with
    | hss A _ _ _ _ cap hcap hmax hA hm =>
      obtain rfl := hA (by omega)
      refine VOK.same (v := .pointer (some ⟨g, (a0 + n.toNat) * i.size, none⟩)) ?_ (.ptr _ _ hm) (by simp)
      simp [execOp, ho, hval, h2, Instr.indexAt, asIntOf, run_underlying hu, hn0, hnl, sizeOf, typeInfo, hi, add_mk, Nat.add_mul]
  rename_i own sz els k n
  obtain ⟨rfl, ⟨hn0, hnl⟩, rfl⟩ := hr
  have h1 := cOpd_sound h hx hp
  have h2 := (cOpd_sound h hy hn).int_inv
  have hlt : n.toNat < els.length := by omega
  have hget : els.getD n.toNat [] = els[n.toNat] := by simp [hlt]
  generalize hval : a.eval x = val at h1
  cases h1 with
  | sl A cap _ _ b off _ f hcap hmax hA hs hc hv =>
    obtain rfl := hA (by omega)
    have hsz : els[n.toNat].length = i.size := hs _ (List.getElem_mem _)
    refine VOK.same (v := .pointer (some ⟨b, off + n.toNat * i.size, none⟩)) ?_ ?_ (by simp)
    · simp [execOp, ho, hval, h2, Instr.indexAt, asIntOf, run_underlying hu, hn0, hnl, sizeOf, typeInfo, hi, add_mk]
    · rw [hget]
      refine .ro b _ _ (fun j => f n.toNat j) (fun j hj => ?_) (fun j c hc' => hv n.toNat _ j c (List.getElem?_eq_getElem hlt) hc')
      exact hc n.toNat j hlt (by omega)

theorem s_aidx (h : Inv N W0 U0 M a W U s) {t : TypeId} {n e : Nat} {x y : Operand} {X Y : Opd} (ho : o.op = .indexAddr t x y) (ht : P.underlying t = some (.array n e)) (hi : (P.info? e).isSome = true) (hx : cOpd x = some X) (hy : cOpd y = some Y) (hr : opR P s (.aidx n (sizeT P e) X Y) r) : VOK P a o W U r := by
  obtain ⟨p, k, m, hp, hn, ⟨hm0, hml⟩, hb⟩ := hr
  have h1 := cOpd_sound h hx hp
  have h2 := (cOpd_sound h hy hn).int_inv
  obtain ⟨i, hi⟩ := Option.isSome_iff_exists.1 hi
  have hsz : sizeT P e = i.size := by simp [sizeT, hi]
  rw [hsz] at hb
  cases p with
  | ro cs =>
    obtain rfl := (by simpa [fldR] using hb : r = .ro (cs.drop (m.toNat * i.size)))
    generalize hval : a.eval x = val at h1
    cases h1 with
    | ro b off _ f hc hv =>
      refine VOK.same (v := .pointer (some ⟨b, off + m.toNat * i.size, none⟩)) ?_ ?_ (by simp)
      · simp [execOp, ho, hval, h2, Instr.indexAt, asIntOf, run_underlying ht, Instr.sureAddr, hm0, hml, sizeOf, typeInfo, hi, add_mk]
      · refine .ro b _ _ (fun j => f (m.toNat * i.size + j)) (fun j hj => ?_) (fun j c hc' => ?_)
        · have := hc (m.toNat * i.size + j) (by simp at hj; omega)
          rw [Nat.add_assoc]
          exact this
        · rw [List.getElem?_drop] at hc'
          exact hv _ c hc'
  | ptr b off =>
    have hm := h1.ptr_at
    obtain rfl := (by simpa [fldR] using hb : r = .ptr b (off + m.toNat * i.size))
    generalize hval : a.eval x = val at h1
    cases h1
    exact VOK.same (v := .pointer (some ⟨b, off + m.toNat * i.size, none⟩)) (by simp [execOp, ho, hval, h2, Instr.indexAt, asIntOf, run_underlying ht, Instr.sureAddr, hm0, hml, sizeOf, typeInfo, hi, add_mk]) (.ptr _ _ hm) (by simp)
  | _ => exact hb.elim

theorem s_sidx (h : Inv N W0 U0 M a W U s) {t : TypeId} {x y : Operand} {X Y : Opd} (ho : o.op = .index t x y) (ht : P.underlying t = some .string) (hx : cOpd x = some X) (hy : cOpd y = some Y) (hr : opR P s (.sidx X Y) r) : VOK P a o W U r := by
  obtain ⟨l, k, n, hp, hn, ⟨hn0, hnl⟩, rfl⟩ := hr
  have h1 := (cOpd_sound h hx hp).str_inv
  have h2 := (cOpd_sound h hy hn).int_inv
  have hlt : n.toNat < l.length := by omega
  refine VOK.same (v := .int .u8 ((l.getD n.toNat 0).toNat : Int)) ?_ (.int _ _) (by simp)
  have hb : (⟨l.toArray⟩ : ByteArray)[n.toNat]? = some l[n.toNat] := by
    rw [getElem?_pos (⟨l.toArray⟩ : ByteArray) n.toNat (by rw [size_str]; exact hlt)]
    rfl
  simp [execOp, ho, h1, h2, Instr.index, asIntOf, run_underlying ht, hn0, hb, hlt]

theorem s_fldv (h : Inv N W0 U0 M a W U s) {t : TypeId} {fs : Array Field} {fi : Nat} {fd : Field} {n : Option Nat} {x : Operand} {X : Opd} (ho : o.op = .field t x fi) (ht : P.underlying t = some (.struct fs)) (hf : fs[fi]? = some fd)
    (hn : aggN P fd.type = some n) (hx : cOpd x = some X) (hr : opR P s (.fldv fd.offset n X) r) : VOK P a o W U r := by
  obtain ⟨cs, hp, hlt, hb⟩ := hr
  have h1 := cOpd_sound h hx hp
  obtain ⟨d, i, hu, hi, hd⟩ := aggN_cases hn
  generalize hval : a.eval x = val at h1
  cases h1 with
  | agg vs _ hl hv hone =>
    rcases hd with ⟨hd, rfl⟩ | ⟨hd, rfl⟩
    · obtain ⟨hle, rfl⟩ := (by simpa [ldR] using hb : i.size ≤ cs.length - fd.offset ∧ r = .agg ((cs.drop fd.offset).take i.size))
      refine VOK.same (v := .agg ((vs.drop fd.offset).take i.size).toArray) ?_ (.agg _ _ (by simp [hl]) (fun j v c h3 h4 => ?_) (fun v hv => hone v (List.mem_of_mem_drop (List.mem_of_mem_take hv)))) (by simp)
      · simp [execOp, ho, hval, Instr.field, run_underlying ht, hf, asAgg, part, run_isAgg hu, hd, sizeOf, typeInfo, hi]
      · rw [List.getElem?_take] at h3 h4
        split at h3
        · rename_i hj
          rw [if_pos hj] at h4
          rw [List.getElem?_drop] at h3 h4
          exact hv _ v c h3 h4
        · cases h3
    · have hdr : cs.drop fd.offset = cs[fd.offset] :: cs.drop (fd.offset + 1) := by rw [List.drop_eq_getElem_cons hlt]
      rw [hdr] at hb
      obtain rfl := (by simpa [ldR] using hb : r = (cs[fd.offset]).alias)
      have hlv : fd.offset < vs.length := by omega
      refine VOK.same (v := vs[fd.offset]) ?_ (hv fd.offset _ _ (List.getElem?_eq_getElem hlv) (List.getElem?_eq_getElem hlt)).alias (alias_plain _)
      simp [execOp, ho, hval, Instr.field, run_underlying ht, hf, asAgg, part, run_isAgg hu, hd, hlv]

theorem s_ext (h : Inv N W0 U0 M a W U s) {j : Nat} {x : Operand} {X : Opd} (ho : o.op = .extract x j) (hx : cOpd x = some X) (hr : opR P s (.ext j X) r) : VOK P a o W U r := by
  obtain ⟨cs, c, hp, hc, rfl⟩ := hr
  have h1 := cOpd_sound h hx hp
  generalize hval : a.eval x = val at h1
  cases h1 with
  | tup vs _ hl hv =>
    have hlt : j < cs.length := (List.getElem?_eq_some_iff.1 hc).1
    have hlv : j < vs.length := by omega
    refine VOK.same (v := vs[j]) ?_ (hv j _ _ (List.getElem?_eq_getElem hlv) hc).alias (alias_plain _)
    simp [execOp, ho, hval, Instr.extract, hlv]

theorem s_nilc (h : Inv N W0 U0 M a W U s) {x : Operand} {X : Opd} (ho : o.op = .nilCheck x) (hx : cOpd x = some X) (hr : opR P s (.nilc X) r) : VOK P a o W U r := by
  rcases hr with ⟨cs, hp, rfl⟩ | ⟨b, off, hp, rfl⟩
  · have h1 := cOpd_sound h hx hp
    refine VOK.same (v := a.eval x) ?_ h1 (by simp)
    generalize hval : a.eval x = val at h1
    cases h1
    simp [execOp, ho, hval]
  · have h1 := cOpd_sound h hx hp
    refine VOK.same (v := a.eval x) ?_ h1 (by simp)
    generalize hval : a.eval x = val at h1
    cases h1
    simp [execOp, ho, hval]

theorem s_pick (h : Inv N W0 U0 M a W U s) {c x y : Operand} {C X Y : Opd} (ho : o.op = .pick c x y) (hc : cOpd c = some C) (hx : cOpd x = some X) (hy : cOpd y = some Y) (hr : opR P s (.pick C X Y) r) : VOK P a o W U r := by
  obtain ⟨b, u, v, h1, h2, h3, rfl⟩ := hr
  have hb := (cOpd_sound h hc h1).bool_inv
  cases b with
  | true => exact VOK.same (v := a.eval x) (by simp [execOp, ho, hb, asBool]) (cOpd_sound h hx h2).alias (alias_plain _)
  | false => exact VOK.same (v := a.eval y) (by simp [execOp, ho, hb, asBool]) (cOpd_sound h hy h3).alias (alias_plain _)

theorem s_vidx (h : Inv N W0 U0 M a W U s) {t n e : Nat} {q : Option Nat} {x y : Operand} {X Y : Opd} (ho : o.op = .index t x y) (ht : P.underlying t = some (.array n e)) (hq : aggN P e = some q) (hx : cOpd x = some X) (hy : cOpd y = some Y) (hr : opR P s (.vidx n (sizeT P e) q X Y) r) : VOK P a o W U r := by
  obtain ⟨p, c, hp, hn, hb⟩ := hr
  cases p <;> try exact hb.elim
  all_goals cases c <;> try exact hb.elim
  rename_i cs k m
  obtain ⟨⟨hm0, hml, hlt⟩, hb⟩ := hb
  have h1 := cOpd_sound h hx hp
  have h2 := (cOpd_sound h hy hn).int_inv
  obtain ⟨d, i, hu, hi, hd⟩ := aggN_cases hq
  have hsz : sizeT P e = i.size := by simp [sizeT, hi]
  rw [hsz] at hb hlt
  generalize hoff : m.toNat * i.size = off at hb hlt
  generalize hval : a.eval x = val at h1
  cases h1 with
  | agg vs _ hl hv hone =>
    rcases hd with ⟨hd, rfl⟩ | ⟨hd, rfl⟩
    · obtain ⟨hle, rfl⟩ := (by simpa [ldR] using hb : i.size ≤ cs.length - off ∧ r = .agg ((cs.drop off).take i.size))
      refine VOK.same (v := .agg ((vs.drop off).take i.size).toArray) ?_ (.agg _ _ (by simp [hl]) (fun j v c h3 h4 => ?_) (fun v hv => hone v (List.mem_of_mem_drop (List.mem_of_mem_take hv)))) (by simp)
      · simp [execOp, ho, hval, h2, Instr.index, asIntOf, run_underlying ht, hm0, hml, part, run_isAgg hu, hd, sizeOf, typeInfo, hi, hoff]
      · rw [List.getElem?_take] at h3 h4
        split at h3
        · rename_i hj
          rw [if_pos hj] at h4
          rw [List.getElem?_drop] at h3 h4
          exact hv _ v c h3 h4
        · cases h3
    · have hdr : cs.drop off = cs[off] :: cs.drop (off + 1) := by rw [List.drop_eq_getElem_cons hlt]
      rw [hdr] at hb
      obtain rfl := (by simpa [ldR] using hb : r = (cs[off]).alias)
      have hlv : off < vs.length := by omega
      refine VOK.same (v := vs[off]) ?_ (hv off _ _ (List.getElem?_eq_getElem hlv) (List.getElem?_eq_getElem hlt)).alias (alias_plain _)
      simp [execOp, ho, hval, h2, Instr.index, asIntOf, run_underlying ht, hm0, hml, part, run_isAgg hu, hd, sizeOf, typeInfo, hi, hoff, hlv]
theorem s_mn (h : Inv N W0 U0 M a W U s) {x y : Operand} {X Y : Opd} {ts : Array TypeId} (ho : o.op = .call { callee := .builtin .min, args := ⟨[x, y]⟩, argTypes := ts }) (hx : cOpd x = some X) (hy : cOpd y = some Y) (hr : opR P s (.mn X Y) r) : VOK P a o W U r := by
  obtain ⟨p, c, hp, hn, hb⟩ := hr
  cases p <;> try exact hb.elim
  all_goals cases c <;> try exact hb.elim
  rename_i k1 m k2 n
  have h1 := (cOpd_sound h hx hp).int_inv
  have h2 := (cOpd_sound h hy hn).int_inv
  obtain rfl := (hb : r = .int k1 (if n < m then n else m))
  refine VOK.same (v := .int k1 (if n < m then n else m)) ?_ (.int _ _) (by simp)
  simp [execOp, ho, h1, h2, resolve, invoke, builtin, Builtin.min_, Builtin.min2]

end
end Go.Proofs.YtmmmbmljompamaaGreatDoor

namespace Go.Proofs.YtmmmbmljompamaaGreatDoor
set_option linter.all false
open Go.RowKit

section
variable {P : Program} {N : Nat} {W0 : World} {U0 : Nat → Nat → Prop} {M : Nat → Prop} {a : Act} {W : World} {U : Nat → Nat → Prop} {s : St} {o : Oper} {r : AV}

theorem run_sliceBound {k : IntKind} {i : Int} {y : Nat} (h0 : 0 ≤ i) (h1 : i.toNat ≤ y) (c : BoundsCode) : (Instr.sliceBound (.int k i) y c).run P W = .ok i.toNat W := by
  have h2 : i ≤ (y : Int) := by omega
  simp [Instr.sliceBound, asIntOf, h0, h2]

theorem run_bounds (h : Inv N W0 U0 M a W U s) {lo hi : Option Operand} {LO HI : Option Opd} (hlo : cOptOpd lo = some LO) (hhi : cOptOpd hi = some HI) {len cap x y : Nat} (hx : boundR s 0 LO x) (hy : boundR s len HI y) (hxy : x ≤ y) (hyl : y ≤ len)
    (hlc : len ≤ cap) (sl : Bool) : (Instr.sliceBounds sl len cap (lo.map a.eval) (hi.map a.eval) none).run P W = .ok (x, y, cap) W := by
  have hb : ∀ {z : Option Operand} {Z : Option Opd} {d r : Nat}, cOptOpd z = some Z → boundR s d Z r → (z = none ∧ r = d) ∨ ∃ z' k n, z = some z' ∧ a.eval z' = .int k n ∧ 0 ≤ n ∧ r = n.toNat := by
    intro z Z d r hz hr
    cases z with
    | none =>
      simp only [cOptOpd, Option.some.injEq] at hz
      subst hz
      exact .inl ⟨rfl, hr⟩
    | some z' =>
      cases hc : cOpd z' with
      | none => simp [cOptOpd, hc] at hz
      | some Z' =>
        simp only [cOptOpd, hc, Option.map_some, Option.some.injEq] at hz
        subst hz
        obtain ⟨k, n, h1, h2, h3⟩ := hr
        exact .inr ⟨z', k, n, rfl, (cOpd_sound h hc h1).int_inv, h2, h3⟩
  rcases hb hlo hx with ⟨rfl, rfl⟩ | ⟨z1, k1, n1, rfl, e1, p1, rfl⟩
  · rcases hb hhi hy with ⟨rfl, rfl⟩ | ⟨z2, k2, n2, rfl, e2, p2, rfl⟩
    · simp [Instr.sliceBounds]
    · simp [Instr.sliceBounds, e2, run_sliceBound p2 (Nat.le_trans hyl hlc)]
  · rcases hb hhi hy with ⟨rfl, rfl⟩ | ⟨z2, k2, n2, rfl, e2, p2, rfl⟩
    · simp [Instr.sliceBounds, e1, run_sliceBound p1 hxy]
    · simp [Instr.sliceBounds, e1, e2, run_sliceBound p1 hxy, run_sliceBound p2 (Nat.le_trans hyl hlc)]

theorem extract_str (l : List UInt8) (x y : Nat) : (⟨l.toArray⟩ : ByteArray).extract x y = ⟨((l.take y).drop x).toArray⟩ := by
  apply ByteArray.ext
  rw [ByteArray.data_extract]
  apply Array.ext'
  simp [List.drop_take]

theorem s_slc (h : Inv N W0 U0 M a W U s) {t : TypeId} {x : Operand} {lo hi : Option Operand} {X : Opd} {LO HI : Option Opd} (ho : o.op = .slice t x lo hi none) (ht : P.underlying t = some .string) (hx : cOpd x = some X) (hlo : cOptOpd lo = some LO) (hhi : cOptOpd hi = some HI)
    (hr : opR P s (.slc none X LO HI) r) : VOK P a o W U r := by
  obtain ⟨l, x1, y1, hp, h1, h2, ⟨h3, h4⟩, rfl⟩ := hr
  have hv := (cOpd_sound h hx hp).str_inv
  refine VOK.same (v := .string ⟨((l.take y1).drop x1).toArray⟩) ?_ (.str _) (by simp)
  have hb := run_bounds (P := P) (a := a) (W := W) h hlo hhi (cap := l.length) h1 h2 h3 h4 (Nat.le_refl _) false
  simp [execOp, ho, Instr.sliceAt, run_underlying ht, Instr.slice, hv, size_str, hb, extract_str]

theorem s_slcs (h : Inv N W0 U0 M a W U s) {t : TypeId} {e : Nat} {i : TypeInfo} {x : Operand} {lo hi : Option Operand} {X : Opd} {LO HI : Option Opd} (ho : o.op = .slice t x lo hi none) (ht : P.underlying t = some (.slice e)) (hi' : P.info? e = some i)
    (hx : cOpd x = some X) (hlo : cOptOpd lo = some LO) (hhi : cOptOpd hi = some HI) (hr : opR P s (.slc (some i.size) X LO HI) r) : VOK P a o W U r := by
  obtain ⟨own, l, x1, y1, hp, h1, h2, ⟨h3, h4⟩, rfl⟩ := hr
  have hv := cOpd_sound h hx hp
  generalize hval : a.eval x = val at hv
  cases hv with
  | sl A cap _ _ b off _ f hcap hmax hA hs hc hvv =>
    have hb := run_bounds (P := P) (a := a) (W := W) h hlo hhi (cap := cap) h1 h2 h3 h4 hcap true
    refine VOK.same (v := .slice (if cap = x1 then A else A.map (·.add (x1 * i.size))) (y1 - x1) (cap - x1)) ?_ ?_ (by simp)
    · simp [execOp, ho, Instr.sliceAt, run_underlying ht, Instr.slice, hval, hb, sizeOf, typeInfo, hi']
    · have hlen : ((l.take y1).drop x1).length = y1 - x1 := by simp; omega
      rw [← hlen]
      refine .sl _ (cap - x1) none _ b (off + x1 * i.size) i.size (fun i j => f (x1 + i) j) (by omega) (by omega) (fun hpos => ?_) (fun e he => hs e (List.mem_of_mem_take (List.mem_of_mem_drop he))) (fun j k hj hk => ?_) (fun j e' k c he hcc => ?_)
      · obtain rfl := hA (by omega)
        rw [if_neg (by omega)]
        simp [add_mk]
      · have := hc (x1 + j) k (by omega) hk
        rw [Nat.add_mul, ← Nat.add_assoc] at this
        exact this
      · rw [List.getElem?_drop, List.getElem?_take] at he
        split at he
        · exact hvv _ e' k c he hcc
        · cases he

theorem s_b2s (h : Inv N W0 U0 M a W U s) {src dst e : TypeId} {x : Operand} {X : Opd} (ho : o.op = .convert src dst x) (hs : P.underlying src = some (.slice e)) (hd : P.underlying dst = some .string) (he : P.underlying e = some (.int .u8)) (hx : cOpd x = some X)
    (hr : opR P s (.b2s X) r) : VOK P a o W U r := by
  obtain ⟨own, l, hp, rfl⟩ := hr
  have hv := cOpd_sound h hx hp
  generalize hval : a.eval x = val at hv
  cases hv with
  | sl A cap _ _ b off _ f hcap hmax hA hsz hc hvv =>
    have hbyte : ∀ j (hj : j < l.length), f j 0 = .int .u8 (l[j].toNat : Int) := fun j hj => (hvv j (byteEl l[j]) 0 (.int .u8 (l[j].toNat : Int)) (by simp [hj]) rfl).int_inv
    refine VOK.same (v := .string ⟨l.toArray⟩) ?_ (.str _) (by simp)
    cases A with
    | none =>
      have hl0 : l = [] := by
        cases l with
        | nil => rfl
        | cons c l => have := hA (by simp); cases this
      subst hl0
      simp [execOp, ho, hval, convert, run_underlying hs, run_underlying hd, run_underlying he, Conv.bytesToString]
      rfl
    | some A =>
      have hload : (loadCells A (l.map byteEl).length).run P W = .ok ((l.map fun c => (c.toNat : Int)).map (Value.int .u8)).toArray W := by
        have hh := run_loadCells_list (P := P) (w := W) A ((l.map fun c => (c.toNat : Int)).map (Value.int .u8)) (fun j v hj => by
          have hjl : j < l.length := by
            rcases Nat.lt_or_ge j l.length with hj' | hj'
            · exact hj'
            · rw [List.getElem?_eq_none (by simp; omega)] at hj; cases hj
          have hA' := hA (by simp; omega)
          cases hA'
          have hcell := (hc j 0 (by simpa using hjl) (by omega)).1
          simp only [Nat.mul_one, Nat.add_zero] at hcell
          rw [add_mk, hcell, hbyte j hjl]
          simpa [hjl] using hj)
        simpa using hh
      have hrun := run_bytesToString (P := P) W A (l.map byteEl).length cap _ hload
      have hfold : ∀ (m : List UInt8) (acc : ByteArray), (m.map fun c => (c.toNat : Int)).foldl (fun (r : ByteArray) (n : Int) => r.push (UInt8.ofNat n.toNat)) acc = ⟨(acc.data.toList ++ m).toArray⟩ := by
        intro m
        induction m with
        | nil => intro acc; simp
        | cons c m ih =>
          intro acc
          simp only [List.map_cons, List.foldl_cons, ih]
          simp
      rw [hfold] at hrun
      have hem : (ByteArray.empty.data.toList ++ l) = l := by simp
      rw [hem] at hrun
      simp only [execOp, ho, hval, convert, run_underlying hs, run_underlying hd, run_underlying he, Sem.run_bind, Result.andThen_ok, hrun]
      rfl
theorem s_b2o (h : Inv N W0 U0 M a W U s) {src dst e : TypeId} {x : Operand} {X : Opd} (ho : o.op = .convert src dst x) (hs : P.underlying src = some (.slice e)) (hd : P.underlying dst = some .string) (he : P.underlying e = some (.int .u8)) (hx : cOpd x = some X)
    {b off n : Nat} {cs : List AV} {l : List UInt8} (hp : X.ev s = some (.osl b off n)) (hb : s.o b = some cs) (hc : (cs.drop off).take n = l.map byC) (hl : l.length = n) : VOK P a o W U (.str l) := by
  have hv := cOpd_sound h hx hp
  generalize hval : a.eval x = val at hv
  cases hv with
  | osl _ _ _ cap h1 h2 hm =>
    obtain ⟨vs, ty, g1, g2, g3, _, _⟩ := h.obc hb hm
    refine VOK.same (v := .string ⟨l.toArray⟩) ?_ (.str _) (by simp)
    have hload : (loadCells ⟨b, off, none⟩ n).run P W = .ok ((l.map fun c => (c.toNat : Int)).map (Value.int .u8)).toArray W := by
      have hh := run_loadCells_list (P := P) (w := W) ⟨b, off, none⟩ ((l.map fun c => (c.toNat : Int)).map (Value.int .u8)) (fun j v hj => by
        have hjl : j < l.length := by
          have := (List.getElem?_eq_some_iff.1 hj).1; simpa using this
        have hcj : cs[off + j]? = some (byC l[j]) := by
          have := congrArg (·[j]?) hc
          simp only [List.getElem?_map, List.getElem?_eq_getElem hjl, Option.map_some] at this
          rw [List.getElem?_take_of_lt (by omega), List.getElem?_drop] at this
          exact this
        have hlt : off + j < cs.length := (List.getElem?_eq_some_iff.1 hcj).1
        have h3 := (g3 _ _ hcj).1.int_inv
        rw [add_mk, cell_of_row W b (off + j) vs ty (0, 0) g1]
        have hv' : off + j < vs.size := by omega
        rw [Array.getD_eq_getD_getElem?, Array.getElem?_eq_getElem hv'] at h3
        simp only [Option.getD_some] at h3
        rw [Array.getElem?_eq_getElem hv', h3]
        simpa [hjl] using hj)
      simpa [hl] using hh
    have hrun := run_bytesToString (P := P) W ⟨b, off, none⟩ n cap _ hload
    have hfold : ∀ (m : List UInt8) (acc : ByteArray), (m.map fun c => (c.toNat : Int)).foldl (fun (r : ByteArray) (n : Int) => r.push (UInt8.ofNat n.toNat)) acc = ⟨(acc.data.toList ++ m).toArray⟩ := by
      intro m
      induction m with
      | nil => intro acc; simp
      | cons c m ih =>
        intro acc
        simp only [List.map_cons, List.foldl_cons, ih]
        simp
    rw [hfold] at hrun
    have hem : (ByteArray.empty.data.toList ++ l) = l := by simp
    rw [hem] at hrun
    simp only [execOp, ho, hval, convert, run_underlying hs, run_underlying hd, run_underlying he, Sem.run_bind, Result.andThen_ok, hrun]
    rfl
theorem s_asl (h : Inv N W0 U0 M a W U s) {t e n : TypeId} {x : Operand} {X : Opd} (ho : o.op = .slice t x none none none) (ht : P.underlying t = some (.array n e)) (hi : (P.info? e).isSome = true) (hn : n ≤ maxLen) (hx : cOpd x = some X)
    (hr : opR P s (.asl n X) r) : VOK P a o W U r := by
  obtain ⟨b, off, hp, rfl⟩ := hr
  obtain ⟨i, hi⟩ := Option.isSome_iff_exists.1 hi
  have hv := cOpd_sound h hx hp
  generalize hval : a.eval x = val at hv
  cases hv with
  | ptr _ _ hm =>
    refine VOK.same (v := .slice (some ⟨b, off, none⟩) n n) ?_ (.osl b off n n (Nat.le_refl _) hn hm) (by simp)
    simp [execOp, ho, hval, Instr.sliceAt, run_underlying ht, Instr.sliceBounds, sizeOf, typeInfo, hi, Instr.sureAddr, add_mk]
theorem s_s2b (h : Inv N W0 U0 M a W U s) {src dst e : TypeId} {x : Operand} {X : Opd} (ho : o.op = .convert src dst x) (hs : P.underlying src = some .string) (hd : P.underlying dst = some (.slice e)) (he : P.underlying e = some (.int .u8)) (hx : cOpd x = some X)
    (hr : opR P s (.s2b e X) r) : VOK P a o W U r := by
  obtain ⟨l, hp, hl, rfl⟩ := hr
  have hv := (cOpd_sound h hx hp).str_inv
  have hsz : (⟨l.toArray⟩ : ByteArray).size = l.length := by simp [ByteArray.size]
  have hmx : (⟨l.toArray⟩ : ByteArray).size ≤ maxLen := by rw [hsz]; simp only [maxLen]; omega
  have hrun := Lib.run_convert_string_bytes (P := P) W src dst e ⟨l.toArray⟩ hs hd he
  have hge := grownCap_ge W (⟨l.toArray⟩ : ByteArray).size 0 e
  have hcm := grownCap_le_maxLen W (⟨l.toArray⟩ : ByteArray).size 0 e hmx
  have hnew := Lib.bytesWorld_at_new W e ⟨l.toArray⟩
  have hcs : (Lib.bytesCells W e ⟨l.toArray⟩).size = grownCap W (⟨l.toArray⟩ : ByteArray).size 0 e := by
    have h1 : (Lib.bytesCells W e ⟨l.toArray⟩).size = (⟨l.toArray⟩ : ByteArray).size + (grownCap W (⟨l.toArray⟩ : ByteArray).size 0 e - (⟨l.toArray⟩ : ByteArray).size) := by
      simp only [Lib.bytesCells, Array.size_append, Array.size_map, Array.size_replicate]; rfl
    omega
  refine ⟨.slice (some ⟨W.heap.size, 0, none⟩) (⟨l.toArray⟩ : ByteArray).size (grownCap W (⟨l.toArray⟩ : ByteArray).size 0 e), Lib.bytesWorld W e ⟨l.toArray⟩, fun k i => if k = W.heap.size then l.length ≤ i else U k i, ?_, ⟨⟨rfl, rfl, rfl, ?_, fun k hk => Lib.bytesWorld_at_old W e _ k hk⟩, fun k hk i => by rw [if_neg (by omega)]⟩, ?_, ?_⟩
  · simp only [execOp, ho, hv, Sem.run_bind, hrun, Result.andThen_ok]
    rfl
  · rw [Lib.bytesWorld_size]; omega
  · have h1 : (l.map byteEl).length = l.length := by simp
    have key : VR (Lib.bytesWorld W e ⟨l.toArray⟩) (fun k i => if k = W.heap.size then l.length ≤ i else U k i) (.slice (some ⟨W.heap.size, 0, none⟩) (l.map byteEl).length (grownCap W (⟨l.toArray⟩ : ByteArray).size 0 e)) (.sl (some e) 1 (l.map byteEl)) := by
     refine .sl _ _ _ _ W.heap.size 0 1 (fun i _ => .int .u8 ((l.getD i 0).toNat : Int)) (by rw [h1, ← hsz]; exact hge) hcm (fun _ => rfl) (fun c hc => by
       obtain ⟨u, _, rfl⟩ := List.mem_map.1 hc; rfl) (fun i j hi hj => ?_) (fun i c j x hc hx => ?_)
     · have hi' : i < l.length := by simpa using hi
       have := Lib.bytesWorld_cell W e ⟨l.toArray⟩ i (by rw [hsz]; exact hi')
       rw [show 0 + i * 1 + j = i by omega]
       refine ⟨by simpa using this, rfl, ?_⟩
       simp; omega
     · rw [List.getElem?_map, Option.map_eq_some_iff] at hc
       obtain ⟨u, h3, rfl⟩ := hc
       have hj : j = 0 := by
         have := (List.getElem?_eq_some_iff.1 hx).1; simp [byteEl] at this; omega
       subst hj
       simp only [byteEl, List.getElem?_cons_zero, Option.some.injEq] at hx
       subst hx
       simp only [List.getD, h3, Option.getD_some]
       exact .int _ _
    simpa only [h1, hsz] using key
  · refine .inr ⟨W.heap.size, _, _, by rw [hsz, List.length_map], Nat.le_refl _, ⟨_, hnew, .inr (Nat.le_refl _)⟩, by rw [List.length_map, ← hsz]; exact hge, hcm, by rw [hcs, Nat.mul_one], fun o' ho' => ?_, fun o' ho' => ?_⟩
    · simp at ho' ⊢; omega
    · simp at ho' ⊢; exact ho'
end
end Go.Proofs.YtmmmbmljompamaaGreatDoor

namespace Go.Proofs.YtmmmbmljompamaaGreatDoor
set_option linter.all false
open Go.RowKit

section
variable {P : Program} {N : Nat} {W0 : World} {U0 : Nat → Nat → Prop} {M : Nat → Prop} {a : Act} {W W' : World} {U U' : Nat → Nat → Prop} {s : St} {o : Oper} {r : AV}

theorem Inv.turn (h : Inv N W0 U0 M a W U s) {g : Nat} (hg : W0.heap.size ≤ g ∨ M g) (hno : s.o g = none) (how : ∀ ℓ e sz els, s.at ℓ = some (.sl (some e) sz els) → (cat a W ℓ).ownBlock ≠ some g)
    (hk : Keeps W U W' U') (h1 : W'.os = W.os) (h2 : W'.tape = W.tape) (h3 : W'.output = W.output) (h4 : W.heap.size ≤ W'.heap.size) (hb : ∀ k, k < W.heap.size → k ≠ g → W'.heap[k]? = W.heap[k]?)
    (hu : ∀ k, k < W.heap.size → k ≠ g → ∀ o, U' k o ↔ U k o) : Inv N W0 U0 M a W' U' s where
  sz := h.sz
  df := h.df
  fr := {
    os := h1.trans h.fr.os
    tape := h2.trans h.fr.tape
    output := h3.trans h.fr.output
    size := Nat.le_trans h.fr.size h4
    block := fun k hk' hm => by
      have hne : k ≠ g := by rintro rfl; rcases hg with hg | hg; omega; exact hm hg
      exact (hb k (Nat.lt_of_lt_of_le hk' h.fr.size) hne).trans (h.fr.block k hk' hm)
    u := fun k hk' hm o => by
      have hne : k ≠ g := by rintro rfl; rcases hg with hg | hg; omega; exact hm hg
      exact (hu k (Nat.lt_of_lt_of_le hk' h.fr.size) hne o).trans (h.fr.u k hk' hm o)
    keeps := h.fr.keeps.trans hk
    g0 := h.fr.g0
    gm := h.fr.gm }
  tv := fun i v hv => (h.tv i v hv).keep hk
  ob := fun b cs hbc => by
    obtain ⟨e1, e4, e5⟩ := h.ob b cs hbc
    have hne : b ≠ g := by rintro rfl; rw [hno] at hbc; cases hbc
    exact ⟨e1.move hk (hb b e1.lt hne), fun o => (hu b e1.lt hne o).2 (e4 o), e5⟩
  ow := fun ℓ v hv => by
    have hcat : cat a W' ℓ = cat a W ℓ := by
      cases ℓ with
      | t i => rfl
      | o b j =>
        have hv' := hv
        simp only [St.at, Option.bind_eq_some_iff] at hv'
        obtain ⟨cs, e1, _⟩ := hv'
        have hne : b ≠ g := by rintro rfl; rw [hno] at e1; cases e1
        simp only [cat, hb b (h.ob_lt b cs e1) hne]
    rw [hcat]
    have hh := h.ow ℓ v hv
    unfold Own1 at *
    split at hh
    · rename_i e sz els
      rcases hh with hh | ⟨g', cap, cur, q1, q2, q3, q4, q5, q6, q7, q8⟩
      · exact .inl hh
      · have hne : g' ≠ g := fun e' => how ℓ e sz els hv (by rw [q1]; simp [Value.ownBlock, e'])
        have hlt := q3.lt
        exact .inr ⟨g', cap, cur, q1, q2, q3.move (hb g' hlt hne), q4, q5, q6, fun o ho hu' => q7 o ho ((hu g' hlt hne o).1 hu'), fun o ho => (hu g' hlt hne o).2 (q8 o ho)⟩
    · trivial
  ap := fun ℓ ℓ' e sz els e' sz' els' hne e1 e2 => by
    have hcat : ∀ {ℓ : Loc} {v : AV}, s.at ℓ = some v → cat a W' ℓ = cat a W ℓ := by
      intro ℓ v hv
      cases ℓ with
      | t i => rfl
      | o b j =>
        simp only [St.at, Option.bind_eq_some_iff] at hv
        obtain ⟨cs, e1, _⟩ := hv
        have hne : b ≠ g := by rintro rfl; rw [hno] at e1; cases e1
        simp only [cat, hb b (h.ob_lt b cs e1) hne]
    rw [hcat e1, hcat e2]
    exact h.ap ℓ ℓ' e sz els e' sz' els' hne e1 e2
  no := fun ℓ e sz els e1 => by
    have hcat : cat a W' ℓ = cat a W ℓ := by
      cases ℓ with
      | t i => rfl
      | o b j =>
        have e2 := e1
        simp only [St.at, Option.bind_eq_some_iff] at e2
        obtain ⟨cs, e3, _⟩ := e2
        have hne : b ≠ g := by rintro rfl; rw [hno] at e3; cases e3
        simp only [cat, hb b (h.ob_lt b cs e3) hne]
    rw [hcat]
    exact h.no ℓ e sz els e1

def flatV (f : Nat → Nat → Value) (m sz : Nat) : List Value := (List.range (m * sz)).map fun p => f (p / sz) (p % sz)
theorem flatV_length (f : Nat → Nat → Value) (m sz : Nat) : (flatV f m sz).length = m * sz := by simp [flatV]
theorem flatV_get {f : Nat → Nat → Value} {m sz i j : Nat} (hi : i < m) (hj : j < sz) : (flatV f m sz)[i * sz + j]? = some (f i j) := by
  have hlt : i * sz + j < m * sz := by
    have : (i + 1) * sz ≤ m * sz := Nat.mul_le_mul_right _ hi
    rw [Nat.add_mul] at this
    omega
  simp only [flatV, List.getElem?_map, List.getElem?_range hlt, Option.map_some]
  have e1 : (i * sz + j) / sz = i := by
    rw [Nat.mul_comm, Nat.mul_add_div (by omega), Nat.div_eq_of_lt hj]; omega
  have e2 : (i * sz + j) % sz = j := by
    rw [Nat.mul_comm, Nat.mul_add_mod, Nat.mod_eq_of_lt hj]
  rw [e1, e2]
theorem flatV_some {f : Nat → Nat → Value} {m sz p : Nat} {v : Value} (h : (flatV f m sz)[p]? = some v) : p / sz < m ∧ p % sz < sz ∧ v = f (p / sz) (p % sz) ∧ p = p / sz * sz + p % sz := by
  obtain ⟨hlt, rfl⟩ := range_map_get (f := fun p => f (p / sz) (p % sz)) h
  have hsz : 0 < sz := by
    rcases Nat.eq_zero_or_pos sz with h0 | h0
    · subst h0; simp at hlt
    · exact h0
  refine ⟨(Nat.div_lt_iff_lt_mul hsz).2 hlt, Nat.mod_lt _ hsz, rfl, ?_⟩
  have := Nat.div_add_mod p sz
  rw [Nat.mul_comm] at this
  omega
theorem flat_mem {f : Nat → Nat → Value} {m sz : Nat} (h : ∀ i j, i < m → j < sz → (f i j).oneCell' = true) : ∀ u ∈ flatV f m sz, u.oneCell' = true := by
  intro u hu
  obtain ⟨p, hp⟩ := List.mem_iff_getElem?.1 hu
  obtain ⟨h1, h2, rfl, _⟩ := flatV_some hp
  exact h _ _ h1 h2

theorem setCells_row (g : Nat) (t : TypeId) (fz : Nat × Nat) : ∀ (vs : List Value) (k : Nat) (cur : Array Value) (w : World), w.heap[g]? = some (.cells cur t fz) → k + vs.length ≤ cur.size →
    w.setCells g k vs = w.setRow g (cur.toList.take k ++ vs ++ cur.toList.drop (k + vs.length)).toArray
  | [], k, cur, w, hg, _ => by
    rw [World.setCells, List.append_nil, List.length_nil, Nat.add_zero, List.take_append_drop]
    exact (setRow_self w g cur t fz hg).symm
  | v :: rest, k, cur, w, hg, hl => by
    have hl' : k + (rest.length + 1) ≤ cur.size := by simpa using hl
    rw [World.setCells, setCell_eq_setRow w g k cur t fz v hg, setCells_row g t fz rest (k + 1) _ _ (setRow_heap w g cur _ t fz hg) (by rw [Array.size_setIfInBounds]; omega), setRow_setRow]
    have e := list_seg_step cur.toList k v rest (by rw [Array.length_toList]; omega)
    have e' : (cur.toList.set k v).take (k + 1) ++ rest ++ (cur.toList.set k v).drop (k + 1 + rest.length) = cur.toList.take k ++ v :: rest ++ cur.toList.drop (k + (v :: rest).length) := by
      simpa [Nat.add_assoc, Nat.add_comm 1] using e
    rw [Array.toList_setIfInBounds, e']
theorem run_storeCells_M {P : Program} (w : World) (g k e : Nat) (cur : Array Value) {fz : Nat × Nat} (hg : w.heap[g]? = some (.cells cur e fz)) (hfz : fz.2 = 0 ∨ cur.size ≤ fz.1) (vs : List Value) (hl : k + vs.length ≤ cur.size) (h1 : ∀ u ∈ vs, u.oneCell' = true) :
    (storeCells ⟨g, k, none⟩ vs 0).run P w = .ok () (w.setRow g (cur.toList.take k ++ vs ++ cur.toList.drop (k + vs.length)).toArray) := by
  have h := run_storeCells_cells (P := P) g k vs 0 w (fun j hj => by
    rw [cell_of_row w g _ cur e fz hg]
    have : k + 0 + j < cur.size := by omega
    simp only [Array.getElem?_eq_getElem this, Option.isSome_some]) (fun j hj => by
    simp only [World.frozen?, hg]
    rw [Bool.and_eq_false_iff, decide_eq_false_iff_not, decide_eq_false_iff_not]
    rcases hfz with h | h
    · exact .inr (by omega)
    · exact .inl (by omega)) h1
  rw [h, Nat.add_zero, setCells_row g e fz vs _ cur w hg hl]
theorem run_append_roomM {P : Program} (w : World) (t ty e : TypeId) (i : TypeInfo) (ht : P.underlying t = some (.slice e)) (hi : P.info? e = some i) (g n cap : Nat) (cur : Array Value) {fz : Nat × Nat} (hg : w.heap[g]? = some (.cells cur e fz)) (hfz : fz.2 = 0 ∨ cur.size ≤ fz.1)
    (a : Addr) (m c : Nat) (news : List Value) (hl : news.length = m * i.size) (hnews : ∀ j u, news[j]? = some u → w.cell? (a.add j) = some u) (h1 : ∀ u ∈ news, u.oneCell' = true) (hroom : n + m ≤ cap) (hfit : n * i.size + news.length ≤ cur.size) :
    (Builtin.append_ #[t, t] ty #[.slice (some ⟨g, 0, none⟩) n cap, .slice (some a) m c]).run P w = .ok (.slice (some ⟨g, 0, none⟩) (n + m) cap) (w.setRow g (cur.toList.take (n * i.size) ++ news ++ cur.toList.drop (n * i.size + news.length)).toArray) := by
  have h := run_append_room_cells (P := P) w t ty e i ht hi g 0 n cap a m c news hl hnews h1 hroom (fun j hj => by
    rw [cell_of_row w g _ cur e fz hg]
    have : 0 + n * i.size + j < cur.size := by omega
    simp only [Array.getElem?_eq_getElem this, Option.isSome_some]) (fun j hj => by
    simp only [World.frozen?, hg]
    rw [Bool.and_eq_false_iff, decide_eq_false_iff_not, decide_eq_false_iff_not]
    rcases hfz with h | h
    · exact .inr (by omega)
    · exact .inl (by omega))
  rw [h, Nat.zero_add, setCells_row g e fz news _ cur w hg hfit]
theorem VR_row {g cap e : Nat} {cells : Array Value} {els : List (List AV)} {sz : Nat} {own : Option Nat} {f : Nat → Nat → Value} {fz : Nat × Nat} (hh : W.heap[g]? = some (.cells cells e fz)) (hcap : els.length ≤ cap) (hmax : cap ≤ maxLen)
    (hs : ∀ e ∈ els, e.length = sz) (hcell : ∀ i j, i < els.length → j < sz → cells[i * sz + j]? = some (f i j) ∧ (f i j).oneCell' = true) (hU : ∀ o, o < els.length * sz → ¬ U g o)
    (hv : ∀ (i : Nat) (e : List AV) (j : Nat) (c : AV), els[i]? = some e → e[j]? = some c → VR W U (f i j) c) : VR W U (.slice (some ⟨g, 0, none⟩) els.length cap) (.sl own sz els) := by
  refine .sl _ cap own els g 0 sz f hcap hmax (fun _ => rfl) hs (fun i j hi hj => ?_) hv
  obtain ⟨h1, h2⟩ := hcell i j hi hj
  rw [Nat.zero_add]
  refine ⟨by rw [cell_of_row W g (i * sz + j) cells e fz hh]; exact h1, h2, hU _ ?_⟩
  have : (i + 1) * sz ≤ els.length * sz := Nat.mul_le_mul_right _ hi
  rw [Nat.add_mul] at this
  omega

theorem VR_row' {g cap e n : Nat} {cells : Array Value} {els : List (List AV)} {sz : Nat} {own : Option Nat} {f : Nat → Nat → Value} {fz : Nat × Nat} (hn : els.length = n) (hh : W.heap[g]? = some (.cells cells e fz)) (hcap : n ≤ cap) (hmax : cap ≤ maxLen)
    (hs : ∀ e ∈ els, e.length = sz) (hcell : ∀ i j, i < n → j < sz → cells[i * sz + j]? = some (f i j) ∧ (f i j).oneCell' = true) (hU : ∀ o, o < n * sz → ¬ U g o)
    (hv : ∀ (i : Nat) (e : List AV) (j : Nat) (c : AV), els[i]? = some e → e[j]? = some c → VR W U (f i j) c) : VR W U (.slice (some ⟨g, 0, none⟩) n cap) (.sl own sz els) := by
  subst hn
  exact VR_row hh hcap hmax hs hcell hU hv

def joinF (n : Nat) (f g : Nat → Nat → Value) : Nat → Nat → Value := fun i j => if i < n then f i j else g (i - n) j
theorem join_get {n m sz i j : Nat} {f g : Nat → Nat → Value} (hi : i < n + m) (hj : j < sz) : (flatV f n sz ++ flatV g m sz)[i * sz + j]? = some (joinF n f g i j) := by
  unfold joinF
  by_cases h : i < n
  · rw [if_pos h, List.getElem?_append_left, flatV_get h hj]
    have : (i + 1) * sz ≤ n * sz := Nat.mul_le_mul_right _ h
    rw [Nat.add_mul] at this
    rw [flatV_length]
    omega
  · rw [if_neg h]
    have e : i * sz + j = n * sz + ((i - n) * sz + j) := by
      have : i = n + (i - n) := by omega
      rw [this, Nat.add_mul]
      simp only [Nat.add_sub_cancel_left]
      omega
    rw [List.getElem?_append_right (by rw [flatV_length]; omega), flatV_length, e, Nat.add_sub_cancel_left, flatV_get (by omega) hj]
theorem join_VR {els news : List (List AV)} {f g : Nat → Nat → Value} (h1 : ∀ (i : Nat) (e : List AV) (j : Nat) (c : AV), els[i]? = some e → e[j]? = some c → VR W U (f i j) c)
    (h2 : ∀ (i : Nat) (e : List AV) (j : Nat) (c : AV), news[i]? = some e → e[j]? = some c → VR W U (g i j) c) : ∀ (i : Nat) (e : List AV) (j : Nat) (c : AV), (els ++ news)[i]? = some e → e[j]? = some c → VR W U (joinF els.length f g i j) c := by
  intro i e j c he hc
  unfold joinF
  by_cases h : i < els.length
  · rw [if_pos h]
    rw [List.getElem?_append_left h] at he
    exact h1 i e j c he hc
  · rw [if_neg h]
    rw [List.getElem?_append_right (by omega)] at he
    exact h2 _ e j c he hc

theorem s_app (h : Inv N W0 U0 M a W U s) {t e sz i : Nat} {inf : TypeInfo} {x : Operand} {X : Opd} {d : Option Nat} (ho : o.op = .call { callee := .builtin .append, args := ⟨[.tmp i, x]⟩, argTypes := ⟨[t, t]⟩ }) (hod : o.dst = d) (hd : ∀ j, d = some j → j < N)
    (ht : P.underlying t = some (.slice e)) (hi : P.info? e = some inf) (hisz : inf.size = sz) (hsz : 0 < sz) (hz : zeroSize P e = some sz) (hx : cOpd x = some X) (hr : opR P s (.app e sz inf.bytes i X) r) {next : Act → World → Prop} {Q : Exit → Act → World → Prop}
    (hn : ∀ a' W' U', Inv N W0 U0 M a' W' U' (eff d (.app e sz inf.bytes i X) r s) → next a' W') : o.wp P a W next Q := by
  obtain ⟨els, own, news, hs0, hxv, hb, hmx, rfl⟩ := hr
  have hv := h.tv i _ hs0
  have hw := cOpd_sound h hx hxv
  have hown := h.ow (.t i) _ hs0
  simp only [Own1, cat] at hown
  obtain ⟨z, hz1, hz2⟩ : ∃ z, inf.zero = some z ∧ z.cells.size = sz := by
    simp only [zeroSize, hi, Option.bind_some, Option.map_eq_some_iff] at hz
    exact hz
  -- it is enough to know what the append gives
  have key : ∀ v' W' U', (Builtin.append_ #[t, t] o.type #[a.eval (.tmp i), a.eval x]).run P W = .ok v' W' → Inv N W0 U0 M a W' U' { s with t := upd s.t i none } → VR W' U' v' (.sl (some e) sz (els ++ news)) →
      (∀ j, d = some j → Sole W0 M a W' U' { s with t := upd s.t i none } j v' (.sl (some e) sz (els ++ news))) → o.wp P a W next Q := by
    intro v' W' U' hrun hinv hvr hso
    unfold Oper.wp execOp
    simp only [ho, resolve, invoke, builtin, Sem.run_bind, Sem.run_pure, Result.andThen_ok, List.map_toArray, List.map_cons, List.map_nil]
    rw [show (#[a.eval (.tmp i), a.eval x] : Array Value) = ⟨[a.eval (.tmp i), a.eval x]⟩ from rfl] at hrun
    rw [show (#[t, t] : Array Nat) = ⟨[t, t]⟩ from rfl] at hrun
    rw [hrun]
    simp only [Result.andThen_ok, Oper.upon, hod]
    exact hn _ _ _ (hinv.putO hd hvr hso)
  have hle : Le { s with t := upd s.t i none } s := ⟨fun j v hj => by
    by_cases hji : j = i
    · subst hji; simp [upd] at hj
    · simpa [upd, hji] using hj, fun _ _ hj => hj⟩
  have h' := h.le hle
  have hother : ∀ ℓ e' sz' els', St.at { s with t := upd s.t i none } ℓ = some (.sl (some e') sz' els') → ℓ ≠ .t i ∧ s.at ℓ = some (.sl (some e') sz' els') := by
    intro ℓ e' sz' els' hl
    refine ⟨fun he => ?_, hle.at_ hl⟩
    subst he
    simp [St.at, upd] at hl
  generalize hval : a.eval (.tmp i) = val at *
  have hval' : a.tmps.getD i undef = val := hval
  rw [hval'] at hv hown
  generalize hxval : a.eval x = xval at *
  cases hw with
  | sl A cap _ _ b2 o2 _ f2 hcap2 hmax2 hA2 hs2 hc2 hv2 =>
    cases hv with
    | sl A1 cap1 _ _ b1 o1 _ f1 hcap1 hmax1 hA1 hs1 hc1 hv1 =>
      have hsall : ∀ e ∈ els ++ news, e.length = sz := by
        intro e' he'
        rcases List.mem_append.1 he' with he' | he'
        · exact hs1 e' he'
        · exact hs2 e' he'
      have hlen : (els ++ news).length = els.length + news.length := List.length_append
      have hnews : ∀ ad, A = some ad → ∀ p v, (flatV f2 news.length sz)[p]? = some v → W.cell? (ad.add p) = some v := by
        intro ad hAd p v hp
        obtain ⟨q1, q2, rfl, q4⟩ := flatV_some hp
        have := hA2 (Nat.lt_of_le_of_lt (Nat.zero_le _) q1)
        rw [hAd] at this
        cases this
        rw [add_mk, q4, ← Nat.add_assoc]
        have e1 : (p / sz * sz + p % sz) / sz = p / sz := by rw [← q4]
        have e2 : (p / sz * sz + p % sz) % sz = p % sz := by rw [← q4]
        rw [e1, e2]
        exact (hc2 _ _ q1 q2).1
      have h1new : ∀ u ∈ flatV f2 news.length sz, u.oneCell' = true := flat_mem fun i j hi hj => (hc2 i j hi hj).2.1
      cases hAc : A with
      | none =>
        -- nothing is appended
        subst hAc
        have hn0 : news = [] := by
          cases news with
          | nil => rfl
          | cons c l => have := hA2 (by simp); cases this
        subst hn0
        simp only [List.append_nil] at key hn ⊢
        refine key (.slice A1 els.length cap1) W U ?_ h' (.sl A1 cap1 _ _ b1 o1 _ f1 hcap1 hmax1 hA1 hs1 hc1 hv1) (fun j hj e' sz' els' he' => ?_)
        · simp [Builtin.append_, run_underlying ht, sizeOf, typeInfo, hi, Builtin.lenOf, hcap1, Builtin.firstCells]
          cases A1 <;> simp [storeCells]
        · cases he'
          refine ⟨hown, fun g hg => ⟨h.no (.t i) _ _ _ hs0 g (by simp only [cat, hval']; exact hg), fun ℓ hlj ⟨e2, sz2, els2, hl⟩ => ?_⟩⟩
          obtain ⟨hne, hl'⟩ := hother ℓ _ _ _ hl
          exact h.ap (.t i) ℓ _ _ _ _ _ _ (Ne.symm hne) hs0 hl' g (by simp only [cat, hval']; exact hg)
      | some ad =>
        subst hAc
        have hnews' := hnews ad rfl
        rcases hown with ⟨hnil, hn0⟩ | ⟨g, capg, cur, hsl, hB, ⟨fz, hgh, hfz⟩, hgc, hgm, hgs, hgU1, hgU2⟩
        · -- the row is nil
          have he0 : els = [] := List.eq_nil_of_length_eq_zero hn0
          subst he0
          simp only [List.nil_append, List.length_nil, Nat.zero_add] at key hn hmx hb hlen hnil ⊢
          injection hnil with q1 q2 q3
          subst q1 q3
          by_cases hm : news.length = 0
          · have hn1 : news = [] := List.eq_nil_of_length_eq_zero hm
            subst hn1
            refine key (.slice none 0 0) W U ?_ h' (zVR_sound (v := .slice none 0 0) (c := .sl (some e) sz []) rfl W U).1 (fun j hj e' sz' els' he' => ?_)
            · simp [Builtin.append_, run_underlying ht, sizeOf, typeInfo, hi, Builtin.lenOf, Builtin.firstCells, loadCells, loadCellsFrom]
            · cases he'
              exact ⟨.inl ⟨rfl, rfl⟩, fun g hg => by simp [Value.ownBlock] at hg⟩
          · have hrun := run_append_nil (P := P) W t o.type e inf z ht hi hz1 ad news.length cap (flatV f2 news.length sz) (by rw [flatV_length, hisz]) hnews' (by omega) (by simp only [maxLen] at hmx; omega) (by omega)
            have hE : Ext W U (W.drew.alloc (.cells ((flatV f2 news.length sz).toArray ++ Builtin.zeroCells z.cells (grownCap W news.length 0 e - news.length)) e)) (fun k i => if k = W.heap.size then news.length * sz ≤ i else U k i) := by
              have := Ext.alloc W.drew U (.cells ((flatV f2 news.length sz).toArray ++ Builtin.zeroCells z.cells (grownCap W news.length 0 e - news.length)) e) (fun i => news.length * sz ≤ i)
              exact ⟨(Below.refl _ _).drew.alloc (Nat.le_refl _) _, this.u⟩
            have hge := grownCap_ge W news.length 0 e
            have hcm := grownCap_le_maxLen W news.length 0 e hmx
            have hnew := heap_alloc_new W.drew (.cells ((flatV f2 news.length sz).toArray ++ Builtin.zeroCells z.cells (grownCap W news.length 0 e - news.length)) e)
            have hcsz : ((flatV f2 news.length sz).toArray ++ Builtin.zeroCells z.cells (grownCap W news.length 0 e - news.length)).size = grownCap W news.length 0 e * sz := by
              simp only [Array.size_append, List.size_toArray, size_zeroCells, hz2, flatV_length, ← Nat.add_mul]
              congr 1
              omega
            refine key _ _ _ hrun (h'.ext hE) ?_ (fun j hj => Sole.fresh h' hE ?_)
            · refine VR_row (f := f2) hnew hge hcm hs2 (fun i j hi hj => ?_) (fun o ho hu => ?_) (fun i e' j c he hc => (hv2 i e' j c he hc).keep hE.keeps)
              · refine ⟨?_, (hc2 i j hi hj).2.1⟩
                have := flatV_get (f := f2) hi hj
                rw [Array.getElem?_append_left (by rw [List.size_toArray]; exact (List.getElem?_eq_some_iff.1 this).1)]
                simpa using this
              · have hu' : news.length * sz ≤ o := by simpa using hu
                omega
            · refine .inr ⟨W.heap.size, _, _, rfl, Nat.le_refl _, .of hnew, hge, hcm, hcsz, fun o ho hu => ?_, fun o ho => ?_⟩
              · have hu' : news.length * sz ≤ o := by simpa using hu
                omega
              · simpa using ho
        · -- a row of its own
          have hb1 : 0 < els.length → b1 = g ∧ o1 = 0 := fun hp => by
            have := hA1 hp
            rw [this] at hsl
            injection hsl with h1 h2 h3
            injection h1 with h1
            injection h1 with h1 h2
            exact ⟨h1, h2⟩
          have hcur : ∀ i j, i < els.length → j < sz → cur[i * sz + j]? = some (f1 i j) := by
            intro i j hi hj
            obtain ⟨rfl, rfl⟩ := hb1 (by omega)
            have := (hc1 i j hi hj).1
            rw [Nat.zero_add] at this
            rw [← this, cell_of_row W b1 _ cur e fz hgh]
          have hold : ∀ p v, (flatV f1 els.length sz)[p]? = some v → W.cell? ((⟨g, 0, none⟩ : Addr).add p) = some v := by
            intro p v hp
            obtain ⟨q1, q2, rfl, q4⟩ := flatV_some hp
            rw [add_mk, Nat.zero_add, cell_of_row W g p cur e fz hgh]
            have := hcur _ _ q1 q2
            rw [← q4] at this
            exact this
          injection hsl with hA1' hlen1 hcap1'
          subst hA1' hcap1'
          have hnog : s.o g = none := h.no (.t i) _ _ _ hs0 g (by simp only [cat, hval']; rfl)
          have hapg : ∀ ℓ e' sz' els', St.at { s with t := upd s.t i none } ℓ = some (.sl (some e') sz' els') → (cat a W ℓ).ownBlock ≠ some g := fun ℓ e' sz' els' hl => by
            obtain ⟨hne, hl'⟩ := hother ℓ _ _ _ hl
            exact h.ap (.t i) ℓ _ _ _ _ _ _ (Ne.symm hne) hs0 hl' g (by simp only [cat, hval']; rfl)
          by_cases hroom : els.length + news.length ≤ cap1
          · -- in place
            have hfit : els.length * inf.size + (flatV f2 news.length sz).length ≤ cur.size := by
              rw [flatV_length, hgs, hisz, ← Nat.add_mul]
              exact Nat.mul_le_mul_right _ hroom
            have hrun := run_append_roomM (P := P) W t o.type e inf ht hi g els.length cap1 cur hgh hfz ad news.length cap (flatV f2 news.length sz) (by rw [flatV_length, hisz]) hnews' h1new hroom hfit
            rw [hisz] at hrun hfit
            have hnew := setRow_heap W g cur (cur.toList.take (els.length * sz) ++ flatV f2 news.length sz ++ cur.toList.drop (els.length * sz + (flatV f2 news.length sz).length)).toArray e fz hgh
            have htk : (cur.toList.take (els.length * sz)) = flatV f1 els.length sz := by
              apply List.ext_getElem?
              intro p
              rcases Nat.lt_or_ge p (els.length * sz) with hp | hp
              · have hp' : p / sz < els.length := (Nat.div_lt_iff_lt_mul hsz).2 hp
                have e4 : p = p / sz * sz + p % sz := by have := Nat.div_add_mod p sz; rw [Nat.mul_comm] at this; omega
                rw [List.getElem?_take, if_pos hp, e4, flatV_get hp' (Nat.mod_lt _ hsz)]
                simpa using hcur _ _ hp' (Nat.mod_lt _ hsz)
              · rw [List.getElem?_eq_none (by simp; omega), List.getElem?_eq_none (by rw [flatV_length]; exact hp)]
            rw [htk] at hrun hnew
            have hcell : ∀ i j, i < els.length + news.length → j < sz → (flatV f1 els.length sz ++ flatV f2 news.length sz ++ cur.toList.drop (els.length * sz + (flatV f2 news.length sz).length)).toArray[i * sz + j]? = some (joinF els.length f1 f2 i j) := by
              intro i j hi hj
              have := join_get (f := f1) (g := f2) hi hj
              rw [List.getElem?_toArray, List.getElem?_append_left (List.getElem?_eq_some_iff.1 this).1]
              exact this
            have hK : Keeps W U (W.setRow g (flatV f1 els.length sz ++ flatV f2 news.length sz ++ cur.toList.drop (els.length * sz + (flatV f2 news.length sz).length)).toArray) (fun k i => if k = g then (els.length + news.length) * sz ≤ i else U k i) := by
              refine ⟨fun b' o' v hc hu => ?_, fun b' ty ⟨c1, c3, c4⟩ => ?_, fun b' es' clk' e' hu => by
                have hne : b' ≠ g := by rintro rfl; rw [hgh] at e'; cases e'
                exact ⟨(setRow_other W g b' _ hne).trans e', by simp only [if_neg hne]; exact hu⟩⟩
              rotate_left
              · by_cases hne : b' = g
                · subst hne; have e4 := hgh.symm.trans c4; cases e4; exact ⟨_, _, hnew⟩
                · exact ⟨c1, c3, (setRow_other W g b' _ hne).trans c4⟩
              by_cases hbg : b' = g
              · subst hbg
                have hlt : o' < els.length * sz := by
                  rcases Nat.lt_or_ge o' (els.length * sz) with hl | hl
                  · exact hl
                  · exact absurd (hgU2 o' hl) hu
                have e4 : o' = o' / sz * sz + o' % sz := by have := Nat.div_add_mod o' sz; rw [Nat.mul_comm] at this; omega
                have hp' : o' / sz < els.length := (Nat.div_lt_iff_lt_mul hsz).2 hlt
                refine ⟨?_, ?_⟩
                · rw [cell_of_row _ b' o' _ e fz hnew]
                  rw [cell_of_row W b' o' cur e fz hgh] at hc
                  have h5 := hcell (o' / sz) (o' % sz) (by omega) (Nat.mod_lt _ hsz)
                  have h6 := hcur _ _ hp' (Nat.mod_lt o' hsz)
                  rw [← e4] at h5 h6
                  rw [h5, ← hc, h6]
                  simp [joinF, hp']
                · simp only [if_true]
                  rw [Nat.add_mul]
                  omega
              · refine ⟨?_, by simpa [hbg] using hu⟩
                rw [World.cell?_of_block (w := W) (a := ⟨b', o', none⟩) (setRow_other W g b' _ hbg)]
                exact hc
            refine key _ _ (fun k i => if k = g then (els.length + news.length) * sz ≤ i else U k i) hrun
              (h'.turn hB hnog hapg hK rfl rfl rfl (by simp) (fun k _ hk => setRow_other W g k _ hk) (fun k _ hk o => by simp [hk])) ?_ (fun j hj e' sz' els' he' => ?_)
            · refine VR_row' (f := joinF els.length f1 f2) hlen hnew hroom hgm hsall (fun i j hi hj => ⟨hcell i j hi hj, ?_⟩) (fun o ho hu => ?_) (join_VR (fun i e' j c he hc => (hv1 i e' j c he hc).keep hK) (fun i e' j c he hc => (hv2 i e' j c he hc).keep hK))
              · unfold joinF
                by_cases hil : i < els.length
                · rw [if_pos hil]; exact (hc1 i j hil hj).2.1
                · rw [if_neg hil]; exact (hc2 (i - els.length) j (by omega) hj).2.1
              · simp only [if_true] at hu
                omega
            · cases he'
              refine ⟨.inr ⟨g, cap1, _, by rw [hlen], hB, ⟨fz, hnew, hfz.imp id fun q => by simp only [List.size_toArray, List.length_append, List.length_drop, Array.length_toList, flatV_length] at hfit ⊢; omega⟩, by omega, hgm, ?_, fun o ho hu => ?_, fun o ho => ?_⟩, fun g' hg' => ?_⟩
              · simp only [List.size_toArray, List.length_append, List.length_drop, Array.length_toList, flatV_length] at hfit ⊢
                omega
              · simp only [if_true] at hu
                rw [hlen] at ho
                omega
              · simp only [if_true]
                rw [hlen] at ho
                exact ho
              · obtain rfl : g = g' := by simpa [Value.ownBlock] using hg'
                refine ⟨hnog, fun ℓ _ ⟨e2, sz2, els2, hl⟩ => ?_⟩
                have hcat : cat a (W.setRow g (flatV f1 els.length sz ++ flatV f2 news.length sz ++ cur.toList.drop (els.length * sz + (flatV f2 news.length sz).length)).toArray) ℓ = cat a W ℓ := by
                  cases ℓ with
                  | t i => rfl
                  | o b j =>
                    have hl2 := hl
                    simp only [St.at, Option.bind_eq_some_iff] at hl2
                    obtain ⟨cs, e1, _⟩ := hl2
                    have hne : b ≠ g := by rintro rfl; rw [hnog] at e1; cases e1
                    simp only [cat, setRow_other W g b _ hne]
                rw [hcat]
                exact hapg ℓ _ _ _ hl
          · -- a new row
            have hrun := run_append_grow (P := P) W t o.type e inf z ht hi hz1 ⟨g, 0, none⟩ els.length cap1 (flatV f1 els.length sz) (by rw [flatV_length, hisz]) hold ad news.length cap (flatV f2 news.length sz) (by rw [flatV_length, hisz]) hnews' (by omega)
              (by simp only [maxLen] at hmx; omega) (growslice_fits (by omega) hb)
            have hge := grownCap_ge W (els.length + news.length) cap1 e
            have hcm := grownCap_le_maxLen W (els.length + news.length) cap1 e hmx
            have hnew := heap_alloc_new W.drew (.cells ((flatV f1 els.length sz).toArray ++ (flatV f2 news.length sz).toArray ++ Builtin.zeroCells z.cells (grownCap W (els.length + news.length) cap1 e - (els.length + news.length))) e)
            have hE : Ext W U (W.drew.alloc (.cells ((flatV f1 els.length sz).toArray ++ (flatV f2 news.length sz).toArray ++ Builtin.zeroCells z.cells (grownCap W (els.length + news.length) cap1 e - (els.length + news.length))) e)) (fun k i => if k = W.heap.size then (els.length + news.length) * sz ≤ i else U k i) := by
              have := Ext.alloc W.drew U (.cells ((flatV f1 els.length sz).toArray ++ (flatV f2 news.length sz).toArray ++ Builtin.zeroCells z.cells (grownCap W (els.length + news.length) cap1 e - (els.length + news.length))) e) (fun i => (els.length + news.length) * sz ≤ i)
              exact ⟨(Below.refl _ _).drew.alloc (Nat.le_refl _) _, this.u⟩
            refine key _ _ _ hrun (h'.ext hE) ?_ (fun j hj => Sole.fresh h' hE ?_)
            · refine VR_row' (f := joinF els.length f1 f2) hlen hnew hge hcm hsall (fun i j hi hj => ⟨?_, ?_⟩) (fun o ho hu => ?_) (join_VR (fun i e' j c he hc => (hv1 i e' j c he hc).keep hE.keeps) (fun i e' j c he hc => (hv2 i e' j c he hc).keep hE.keeps))
              · have := join_get (f := f1) (g := f2) (by omega : i < els.length + news.length) hj
                rw [Array.getElem?_append_left (by have h9 := (List.getElem?_eq_some_iff.1 this).1; simpa using h9)]
                simpa using this
              · unfold joinF
                by_cases hil : i < els.length
                · rw [if_pos hil]; exact (hc1 i j hil hj).2.1
                · rw [if_neg hil]; exact (hc2 (i - els.length) j (by omega) hj).2.1
              · have hu' : (els.length + news.length) * sz ≤ o := by simpa using hu
                omega
            · refine .inr ⟨W.heap.size, _, _, by rw [hlen], Nat.le_refl _, .of hnew, by omega, hcm, ?_, fun o ho hu => ?_, fun o ho => ?_⟩
              · simp only [Array.size_append, List.size_toArray, size_zeroCells, hz2, flatV_length, ← Nat.add_mul]
                congr 1
                omega
              · have hu' : (els.length + news.length) * sz ≤ o := by simpa using hu
                rw [hlen] at ho
                omega
              · rw [hlen] at ho
                simpa using ho
end
end Go.Proofs.YtmmmbmljompamaaGreatDoor
