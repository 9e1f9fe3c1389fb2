import Derived.Test.YtobopbjedojebaaK0
import Derived.Great.BuildSlice
/- The abstract machine, part 4: the operations of the model, read off as the machine's; each does what the machine's says. -/
namespace Go.Proofs.Ytobopbjedojebaa
set_option linter.all false
open Go.RowKit

/-- A constant, as it reads. -/
def zVR : Value → AV → Bool
  | .int k n, .int k' n' => k == k' && n == n'
  | .bool b, .bool b' => b == b'
  | .string s, .str l => s.data.toList == l
  | .slice none 0 0, .sl _ _ [] => true
  | .slice none 0 0, .nils _ _ => true
  | .pointer none, .nilp => true
  | .pointer none, .nilT _ => true
  | .map none, .nilm => true
  | _, _ => false
theorem zVR_sound {v : Value} {c : AV} (h : zVR v c = true) (W : World) (U : Nat → Nat → Prop) : VR W U v c ∧ v.oneCell' = true ∧ (∀ e sz els, c = .sl (some e) sz els → v = .slice none 0 0 ∧ els = []) := by
  unfold zVR at h
  split at h
  · simp only [Bool.and_eq_true, beq_iff_eq] at h
    obtain ⟨rfl, rfl⟩ := h
    exact ⟨.int _ _, rfl, fun _ _ _ e => by cases e⟩
  · simp only [beq_iff_eq] at h
    subst h
    exact ⟨.bool _, rfl, fun _ _ _ e => by cases e⟩
  · simp only [beq_iff_eq] at h
    subst h
    exact ⟨.str _, rfl, fun _ _ _ e => by cases e⟩
  · refine ⟨?_, rfl, fun _ _ _ e => by cases e; exact ⟨rfl, rfl⟩⟩
    exact .sl (els := []) none 0 _ 0 0 _ (fun _ _ => Go.undef) (by simp) (by simp) (by simp) (by simp) (by simp) (by simp)
  · exact ⟨.nils _ _, rfl, fun _ _ _ e => by cases e⟩
  · exact ⟨.nilp, rfl, fun _ _ _ e => by cases e⟩
  · exact ⟨.nilT _, rfl, fun _ _ _ e => by cases e⟩
  · exact ⟨.nilm, rfl, fun _ _ _ e => by cases e⟩
  · cases h

/-- A zero value's cell, in a value. -/
def toNil : AV → AV
  | .sl (some e) sz [] => .nils e sz
  | a => a.alias
def cVal : Value → Option AV
  | .int k n => some (.int k n)
  | .bool b => some (.bool b)
  | .string s => some (.str s.data.toList)
  | .pointer none => some .nilp
  | .nilIface => some .nili
  | .map none => some .nilm
  | _ => none
theorem cVal_sound {v : Value} {c : AV} (h : cVal v = some c) (W : World) (U : Nat → Nat → Prop) : VR W U v c := by
  unfold cVal at h
  split at h <;> cases h
  · exact .int _ _
  · exact .bool _
  · exact .str _
  · exact .nilp
  · exact .nili
  · exact .nilm
def cOpd : Operand → Option Opd
  | .tmp t => some (.t t)
  | .const v => (cVal v).map .c
  | .func f => some (.c (.fn f))
  | .global _ => none
/-- With its type at hand: a nil slice, too. -/
def cOpdT (P : Program) (t : TypeId) (x : Operand) : Option Opd :=
  match x with
  | .const (.slice none 0 0) => match P.underlying t with
    | some (.slice e) => (P.info? e).map fun i => .c (.sl none i.size [])
    | _ => none
  | x => cOpd x

section
variable {N : Nat} {W0 : World} {U0 : Nat → Nat → Prop} {M : Nat → Prop} {a : Act} {W : World} {U : Nat → Nat → Prop} {s : St}

theorem cOpd_sound (h : Inv N W0 U0 M a W U s) {x : Operand} {X : Opd} (hx : cOpd x = some X) {v : AV} (hv : X.ev s = some v) : VR W U (a.eval x) v := by
  unfold cOpd at hx
  split at hx
  · cases hx
    exact h.tv _ v hv
  · rename_i c
    cases hc : cVal c with
    | none => simp [hc] at hx
    | some y =>
      simp only [hc, Option.map_some, Option.some.injEq] at hx
      subst hx
      simp only [Opd.ev, Option.some.injEq] at hv
      subst hv
      exact cVal_sound hc W U
  · cases hx
    simp only [Opd.ev, Option.some.injEq] at hv
    subst hv
    exact .fn _
  · cases hx

theorem cOpdT_sound (h : Inv N W0 U0 M a W U s) {P : Program} {t : TypeId} {x : Operand} {X : Opd} (hx : cOpdT P t x = some X) {v : AV} (hv : X.ev s = some v) : VR W U (a.eval x) v := by
  unfold cOpdT at hx
  split at hx
  · split at hx
    · rename_i e _
      cases hi : P.info? e with
      | none => simp [hi] at hx
      | some i =>
        simp only [hi, Option.map_some, Option.some.injEq] at hx
        subst hx
        simp only [Opd.ev, Option.some.injEq] at hv
        subst hv
        exact (zVR_sound (v := .slice none 0 0) (c := .sl none i.size []) rfl W U).1
    · cases hx
  · exact cOpd_sound h hx hv
end

def isAggD : TypeDesc → Bool
  | .struct _ => true
  | .array _ _ => true
  | _ => false
/-- The size of a type's value, where it is a struct or an array. -/
def aggN (P : Program) (t : TypeId) : Option (Option Nat) :=
  match P.underlying t, P.info? t with
  | some d, some i => some (if isAggD d then some i.size else none)
  | _, _ => none
def zeroCs (P : Program) : Nat → TypeId → Option (List AV)
  | 0, _ => none
  | n + 1, t => match P.underlying t with
    | some (.int k) => some [.int k 0]
    | some .bool => some [.bool false]
    | some .string => some [.str []]
    | some (.slice e) => (P.info? e).map fun i => [.sl (some e) i.size []]
    | some (.pointer _) => some [.nilp]
    | some (.map _ _) => some [.nilm]
    | some (.struct fs) => fs.toList.foldr (fun f r => match zeroCs P n f.type, r with | some x, some y => some (x ++ y) | _, _ => none) (some [])
    | some (.array k e) => match zeroCs P n e with
      | some x => some (List.replicate k x).flatten
      | none => none
    | _ => none
def zVRs : List Value → List AV → Bool
  | [], [] => true
  | v :: vs, c :: cs => zVR v c && zVRs vs cs
  | _, _ => false
/-- A type's zero value as cells. -/
def zeroOf (P : Program) (t : TypeId) : Option (List AV) :=
  match zeroCs P 8 t, (P.info? t).bind (·.zero) with
  | some cs, some z => if zVRs z.cells.toList cs then some cs else none
  | _, _ => none

/-- A block's first cell tells its type, where it is a nil pointer. -/
def tagT (t : Nat) : List AV → List AV
  | .nilp :: r => .nilT t :: r
  | z => z
theorem tagT_len (t : Nat) (z : List AV) : (tagT t z).length = z.length := by
  unfold tagT; split <;> rfl
theorem tagT_head {t : Nat} {z : List AV} (h : (headT z).isNone = true) : ∀ u, headT (tagT t z) = some u → t = u := by
  intro u hu
  unfold tagT at hu
  split at hu
  · simpa [headT] using hu
  · rw [hu] at h; cases h
theorem tagT_get {t j : Nat} {z : List AV} {c : AV} (h : (tagT t z)[j]? = some c) : z[j]? = some c ∨ (z[j]? = some .nilp ∧ c = .nilT t) := by
  unfold tagT at h
  split at h
  · cases j with
    | zero => simp at h; exact .inr ⟨rfl, h.symm⟩
    | succ j => exact .inl (by simpa using h)
  · exact .inl h
/-- How many cells a type's zero value has, where it has one. -/
def zeroSize (P : Program) (t : TypeId) : Option Nat := ((P.info? t).bind (·.zero)).map fun z => z.cells.size

def usedAs (ops : List Oper) (d : Nat) : Bool :=
  ops.any fun o => match o.op with
    | .call { callee := .builtin .append, args, .. } => match (args[0]? : Option Operand) with
      | some (Operand.tmp t) => t == d
      | _ => false
    | .assign (.tmp t) => t == d
    | _ => false
def isSlice (P : Program) (t : TypeId) : Option (Nat × Nat) :=
  match P.underlying t with
  | some (.slice e) => (P.info? e).map fun i => (e, i.size)
  | _ => none
def isHot (e : Nat) : Bool := hotTys.contains e
def cMove (P : Program) (ops : List Oper) (o : Oper) (take : Bool) (x : Operand) : Option AK :=
  match x, isSlice P o.type with
  | .const (.slice none 0 0), some (e, sz) => some (if isHot e then .hnl e sz else .nil e sz)
  | .tmp t, some _ => if take || (o.dst.map (usedAs ops)).getD false then (if o.dst = some t then none else some (.tk t)) else some (.mv (.t t))
  | x, _ => (cOpd x).map .mv
def cParts (l : List (Nat × Operand)) (n : Nat) : Option (List Opd) :=
  match l with
  | [] => some []
  | (i, x) :: r => if i = n then match cOpd x, cParts r (n + 1) with
    | some y, some ys => some (y :: ys)
    | _, _ => none
    else none
def cArgs (P : Program) : List TypeId → List Operand → Option (List Opd)
  | [], [] => some []
  | t :: ts, x :: xs => match cOpdT P t x, cArgs P ts xs with
    | some y, some ys => some (y :: ys)
    | _, _ => none
  | _, _ => none
def cFields (P : Program) (fs : Array Field) : List (Nat × Operand) → Option (List (Nat × Nat × Opd))
  | [] => some []
  | (i, x) :: r => match fs[i]? with
    | some f => match (P.info? f.type).map (·.size), cOpdT P f.type x, cFields P fs r with
      | some n, some y, some ys => some ((f.offset, n, y) :: ys)
      | _, _, _ => none
    | none => none
/-- The parts of an array's literal. -/
def cElems (P : Program) (e : TypeId) (sz : Nat) : List (Nat × Operand) → Option (List (Nat × Nat × Opd))
  | [] => some []
  | (i, x) :: r => match cOpdT P e x, cElems P e sz r with
    | some y, some ys => some ((i * sz, sz, y) :: ys)
    | _, _ => none
def cOptOpd : Option Operand → Option (Option Opd)
  | none => some none
  | some x => (cOpd x).map some
def plainEq (P : Program) (t : TypeId) : Bool :=
  match P.underlying t with
  | some (.int _) | some .string => true
  | _ => false
def isNeq : BinOp → Bool
  | .eql => false
  | _ => true
def plainBin : BinOp → Bool
  | .eql | .neq => false
  | _ => true

def sizeT (P : Program) (t : TypeId) : Nat := ((P.info? t).map (·.size)).getD 0
def chainS (P : Program) : Nat → List Field → Option Nat
  | a, [] => some a
  | a, f :: fs => if f.offset = a ∧ f.name ≠ "_" ∧ (P.info? f.type).isSome then chainS P (a + sizeT P f.type) fs else none
/-- The kinds of the cells of a type that is compared cell by cell. -/
def kindsF (K : TypeId → Option (List Kd)) : List Field → Option (List Kd)
  | [] => some []
  | f :: fs => match K f.type, kindsF K fs with
    | some a, some b => some (a ++ b)
    | _, _ => none
def kindsT (P : Program) : Nat → TypeId → Option (List Kd)
  | 0, _ => none
  | n + 1, t => match P.underlying t with
    | some .bool => if sizeT P t = 1 then some [.b] else none
    | some (.int _) => if sizeT P t = 1 then some [.i] else none
    | some .string => if sizeT P t = 1 then some [.s] else none
    | some (.struct fs) => if P.stoodInHeld t = false ∧ chainS P 0 fs.toList = some (sizeT P t) then kindsF (kindsT P n) fs.toList else none
    | some (.array m e) => if sizeT P t = m * sizeT P e ∧ (P.info? e).isSome = true then (kindsT P n e).map fun k => (List.replicate m k).flatten else none
    | _ => none
/-- The kinds of a map's keys. -/
def keyB (P : Program) (k : TypeId) : Option (List Kd × Bool) := match P.underlying k, kindsT P 8 k with
  | some d, some ks => some (ks, isAggD d)
  | _, _ => none
/-- A type's zero value. -/
def zeroAV (P : Program) (e : TypeId) : Option AV := match (P.info? e).bind (·.zero), zeroOf P e with
  | some (.agg _), some z => some (.agg (z.map AV.alias))
  | some v, some [c] => if v.oneCell' then some c.alias else none
  | _, _ => none
/-- Is it what an append lays things behind? -/
def usedApp (ops : List Oper) (d : Nat) : Bool :=
  ops.any fun o => match o.op with
    | .call { callee := .builtin .append, args, .. } => match (args[0]? : Option Operand) with
      | some (Operand.tmp t) => t == d
      | _ => false
    | _ => false
def isStr (P : Program) (t : TypeId) : Bool :=
  match P.underlying t with
  | some .string => true
  | _ => false
theorem isStr_spec {P : Program} {t : TypeId} (h : isStr P t = true) : P.underlying t = some .string := by
  unfold isStr at h
  split at h
  · assumption
  · cases h
def takes (P : Program) (R : Nat) (ops : List Oper) (o : Oper) (t : TypeId) (n : Option Nat) : Bool := (isSlice P t).isSome && (o.dst.map (usedApp ops)).getD false && n.isNone
def gives (P : Program) (R : Nat) (t : TypeId) (n : Option Nat) : Bool := (isSlice P t).isSome && n.isNone

def sameOpd : Operand → Operand → Bool
  | .tmp i, .tmp j => i == j
  | .const (.int k n), .const (.int k' n') => k == k' && n == n'
  | _, _ => false
theorem sameOpd_eq {x y : Operand} (h : sameOpd x y = true) : x = y := by
  unfold sameOpd at h
  split at h
  · simp only [beq_iff_eq] at h; subst h; rfl
  · simp only [Bool.and_eq_true, beq_iff_eq] at h; obtain ⟨rfl, rfl⟩ := h; rfl
  · cases h
/-- A type whose values hold objects. -/
def objT (P : Program) (t : TypeId) : Bool := match zeroOf P t with
  | some z => z.any fun c => match c with
    | .nilp | .nilT _ | .nilm => true
    | _ => false
  | none => false
/-- An element's place in a row that no longer changes (R = 2: only such are looked for). -/
def roPtr (P : Program) (R : Nat) (ops : List Oper) (x : Operand) : Bool := R == 2 && (match x with
  | .tmp j => ops.any fun o => o.dst == some j && (match o.op with
    | .indexAddr t _ _ => (isSlice P t).isSome
    | _ => false)
  | _ => false)
/-- What an operation does. R: 1, 2: in its own place in order. -/
def cKind (P : Program) (R : Nat) (ops : List Oper) (o : Oper) : Option AK :=
  match o.op with
  | .move x => cMove P ops o false x
  | .assign x => cMove P ops o true x
  | .alloc t => match zeroOf P t with
    | some z => if (headT z).isNone then some (.newv (tagT t z)) else none
    | none => none
  | .box _ x => (cOpd x).map .box
  | .load t x => match aggN P t, cOpd x with
    | some n, some X => some (if takes P R ops o t n then .ldt X else if roPtr P R ops x then .ldr n X else .ld n X)
    | _, _ => none
  | .store t x v => match aggN P t, cOpd x, cOpdT P t v, o.dst with
    | some n, some X, some V, none => if (P.info? t).map (·.size) = some (n.getD 1) ∧ 0 < n.getD 1 then (match V with
        | .t i => some (if gives P R t n then .stt X i else .sto n X (.t i))
        | V => some (.sto n X V)) else none
    | _, _, _, _ => none
  | .fieldAddr t x f => match P.underlying t, cOpd x with
    | some (.struct fs), some x => match fs[f]? with
      | some fd => match (P.info? fd.type).map (·.size) with
        | some (_ + 1) => some (.fld fd.offset x)
        | _ => none
      | none => none
    | _, _ => none
  | .field t x f => match P.underlying t, cOpd x with
    | some (.struct fs), some x => match fs[f]? with
      | some fd => (aggN P fd.type).map fun n => .fldv fd.offset n x
      | none => none
    | _, _ => none
  | .indexAddr t x i => match isSlice P t, cOpd x, cOpd i with
    | some (_, sz), some x, some i => some (.idx sz x i)
    | none, some x, some i => match P.underlying t with
      | some (.array n e) => if (P.info? e).isSome then some (.aidx n (sizeT P e) x i) else none
      | _ => none
    | _, _, _ => none
  | .index t x i => match P.underlying t, cOpd x, cOpd i with
    | some .string, some x, some i => some (.sidx x i)
    | some (.array n e), some x, some i => (aggN P e).map fun q => .vidx n (sizeT P e) q x i
    | _, _, _ => none
  | .binOp op t x y _ => if plainBin op || plainEq P t then match cOpd x, cOpd y with
      | some x, some y => some (.bin op x y)
      | _, _ => none
    else match P.underlying t, cOpd x, cOpd y with
      | some .bool, some x, some y => some (.beq (isNeq op) x y)
      | some (.struct _), some x, some y => if P.eqGuardType P.depth t = false then (kindsT P 8 t).map fun ks => .aeq (isNeq op) ks x y else none
      | some (.pointer _), some x, some (.c .nilp) => some (.peq (isNeq op) x)
      | _, _, _ => none
  | .unOp op _ x => (cOpd x).map (.un op)
  | .convert src dst x => match P.underlying src, P.underlying dst, cOpd x with
    | some (.int _), some (.int k), some x => some (.conv k x)
    | some (.slice e), some .string, some x => match P.underlying e with
      | some (.int .u8) => some (.b2s x)
      | _ => none
    | some .string, some .string, some x => some (.s2s x)
    | _, _, _ => none
  | .slice t x lo hi none => match P.underlying t, cOpd x, cOptOpd lo, cOptOpd hi with
    | some .string, some x, some lo, some hi => some (.slc none x lo hi)
    | some (.slice e), some x, some lo, some hi => (P.info? e).map fun i => if isHot e then .hslc i.size x lo hi else .slc (some i.size) x lo hi
    | _, _, _, _ => none
  | .extract x j => (cOpd x).map (.ext j)
  | .nilCheck x => (cOpd x).map .nilc
  | .pick c x y => match cOpd c, cOpd x, cOpd y with
    | some c, some x, some y => some (.pick c x y)
    | _, _, _ => none
  | .build t parts => match P.underlying t, zeroOf P t with
    | some (.struct fs), some z => if fs.toList.all fun f => (P.info? f.type).isSome then (cFields P fs parts.toList).map (.bld (z.map toNil)) else none
    | some (.array _ e), some z => match P.info? e with
      | some i => (cElems P e i.size parts.toList).map (.bld (z.map toNil))
      | none => none
    | _, _ => none
  | .buildSlice t n parts => match isSlice P t, cParts parts.toList 0 with
    | some (e, sz), some ps => if ps.length = n ∧ n * sz ≤ 16777216 ∧ 0 < n * sz ∧ zeroSize P e = some sz then some (.bs e sz ps) else none
    | _, _ => none
  | .call { callee := .value (.func f), args, argTypes } => if ((P.funcs[f]?).map fun fn => fn.body.isSome && !(fn.name == "runtime.NumGoroutine")).getD false then (cArgs P argTypes.toList args.toList).map (if 0 < R then .callo f else if argTypes.toList.any (objT P) then .cro f else .call f) else none
  | .call { callee := .builtin .len, args := ⟨[x]⟩, argTypes := ⟨[t]⟩ } => match P.underlying t, cOpd x with
    | some .string, some x => some (.len true x)
    | some (.slice _), some x => some (.len false x)
    | _, _ => none
  | .call { callee := .builtin .append, args := ⟨[.tmp i, x]⟩, argTypes := ⟨[t, t']⟩ } => match isSlice P t, cOpd x with
    | some (e, sz), some x => if t = t' ∧ 0 < sz ∧ zeroSize P e = some sz then (P.info? e).map fun inf => if isHot e && (zeroOf P e).isSome then .hap e sz inf.bytes (some i) x else .app e sz inf.bytes i x else if isStr P t' = true ∧ sz = 1 ∧ zeroSize P e = some 1 then (P.info? e).map fun inf => .apps e inf.bytes i x else none
    | _, _ => none
  | .call { callee := .builtin .min, args := ⟨[x, y]⟩, argTypes := _ } => match cOpd x, cOpd y with
    | some x, some y => some (.mn x y)
    | _, _ => none
  | .makeSlice t x y => match isSlice P t, cOpd x with
    | some (e, sz), some X => match zeroOf P e, P.info? e with
      | some z, some i => if sameOpd x y = true ∧ z.length = sz ∧ 0 < sz  then (if (headT z).isNone then some (.mk z i.bytes X) else none) else none
      | _, _ => none
    | _, _ => none
  | .call { callee := .builtin .max, args := ⟨[x, y]⟩, argTypes := _ } => match cOpd x, cOpd y with
    | some x, some y => some (.mx x y)
    | _, _ => none
  | .makeMap _ none => some .mkm
  | .lookup t m x ok => match P.underlying t, cOpd m, cOpd x with
    | some (.map k e), some m, some x => match keyB P k, zeroAV P e with
      | some (ks, ag), some z => some (.mq z ok ks ag m x)
      | _, _ => none
    | _, _, _ => none
  | .mapUpdate t m x v => match P.underlying t, cOpd m, cOpd x, cOpd v with
    | some (.map k _), some m, some x, some v => match keyB P k, o.dst with
      | some (ks, ag), none => some (.mu 0 .undef ks ag m x v)
      | _, _ => none
    | _, _, _, _ => none
  | .mapEntry t m x => match P.underlying t, cOpd m, cOpd x with
    | some (.map k e), some m, some x => match keyB P k, zeroAV P e with
      | some (ks, ag), some z => some (.mu 1 z ks ag m x (.c .undef))
      | _, _ => none
    | _, _, _ => none
  | .entryStore _ m x v => match cOpd m, cOpd x, cOpd v, o.dst with
    | some m, some x, some v, none => some (.mu 2 .undef [] false m x v)
    | _, _, _, _ => none
  | .call { callee := .builtin .delete, args := ⟨[m, x]⟩, argTypes := ⟨[t, _]⟩ } => match P.underlying t, cOpd m, cOpd x with
    | some (.map k _), some m, some x => match keyB P k, o.dst with
      | some (ks, ag), none => some (.mu 3 .undef ks ag m x (.c .undef))
      | _, _ => none
    | _, _, _ => none
  | .range t x => match P.underlying t, cOpd x with
    | some (.map _ _), some x => some (.rng x)
    | _, _ => none
  | .next x false => (cOpd x).map .nxt
  | .entry x => (cOpd x).map .ent
  | .call { callee := .builtin .append, args := ⟨[.const (.slice none 0 0), x]⟩, argTypes := ⟨[t, t']⟩ } => match isSlice P t, cOpd x with
    | some (e, sz), some x => if t = t' ∧ 0 < sz ∧ zeroSize P e = some sz then (P.info? e).map fun inf => if isHot e && (zeroOf P e).isSome then .hap e sz inf.bytes none x else .app0 e sz inf.bytes x else none
    | _, _ => none
  | _ => none
end Go.Proofs.Ytobopbjedojebaa

/- The abstract machine, part 5: each operation does what the machine's says. -/
namespace Go.Proofs.Ytobopbjedojebaa
set_option linter.all false
open Go.RowKit

section
variable {P : Program} {N : Nat} {W0 : World} {U0 : Nat → Nat → Prop} {M : Nat → Prop} {a : Act} {W : World} {U : Nat → Nat → Prop} {s : St} {o : Oper} {r : AV}

/-- The operation yields a value that reads as r; the world grew. -/
def VOK (P : Program) (a : Act) (o : Oper) (W : World) (U : Nat → Nat → Prop) (r : AV) : Prop :=
  ∃ v W' U', (execOp a.eval o).run P W = .ok (.value v) W' ∧ Ext W U W' U' ∧ VR W' U' v r ∧ Own1 W' U' (W.heap.size ≤ ·) v r

theorem Own1.plain {B : Nat → Prop} {v : Value} {r : AV} (h : ∀ e sz els, r ≠ .sl (some e) sz els) : Own1 W U B v r := by
  unfold Own1
  split
  · exact absurd rfl (h _ _ _)
  · trivial
theorem alias_plain (r : AV) (e : Nat) (sz : Nat) (els : List (List AV)) : r.alias ≠ .sl (some e) sz els := by
  cases r <;> simp [AV.alias]
theorem store_plain (r : AV) (e : Nat) (sz : Nat) (els : List (List AV)) : r.store ≠ .sl (some e) sz els := by
  cases r <;> simp [AV.alias, AV.store]
theorem VOK.same {v : Value} (hrun : (execOp a.eval o).run P W = .ok (.value v) W) (hv : VR W U v r) (hp : ∀ e sz els, r ≠ .sl (some e) sz els) : VOK P a o W U r :=
  ⟨v, W, U, hrun, Ext.refl _ _, hv, Own1.plain hp⟩

theorem VR.int_inv {v : Value} {k : IntKind} {n : Int} (h : VR W U v (.int k n)) : v = .int k n := by cases h; rfl
theorem VR.bool_inv {v : Value} {b : Bool} (h : VR W U v (.bool b)) : v = .bool b := by cases h; rfl
theorem VR.str_inv {v : Value} {l : List UInt8} (h : VR W U v (.str l)) : v = .string ⟨l.toArray⟩ := by cases h; rfl

theorem s_mv (h : Inv N W0 U0 M a W U s) {x : Operand} {X : Opd} (ho : o.op = .move x ∨ o.op = .assign x) (hx : cOpd x = some X) (hr : opR P s (.mv X) r) : VOK P a o W U r := by
  obtain ⟨v, hv, rfl⟩ := hr
  refine VOK.same (v := a.eval x) ?_ (cOpd_sound h hx hv).alias (alias_plain _)
  rcases ho with ho | ho <;> simp [execOp, ho]

theorem s_nil {x : Operand} {e sz : Nat} (ho : o.op = .move x ∨ o.op = .assign x) (hx : x = .const (.slice none 0 0)) (hr : opR P s (.nil e sz) r) : VOK P a o W U r := by
  obtain rfl := hr
  subst hx
  refine ⟨.slice none 0 0, W, U, ?_, Ext.refl _ _, (zVR_sound (v := .slice none 0 0) (c := .sl (some e) sz []) rfl W U).1, .inl ⟨rfl, rfl⟩⟩
  rcases ho with ho | ho <;> simp [execOp, ho, Act.eval]

theorem binR_plain {op : BinOp} {x y r : AV} (h : binR op x y r) : ∀ e sz els, r ≠ .sl (some e) sz els := by
  intro e sz els hr
  subst hr
  unfold binR at h
  split at h <;> simp at h

theorem size_str (l : List UInt8) : (⟨l.toArray⟩ : ByteArray).size = l.length := by simp [ByteArray.size]
theorem toList_str (l : List UInt8) : (⟨l.toArray⟩ : ByteArray).toList = l := by rw [ByteArray.toList_eq]
theorem append_str (a b : List UInt8) : (⟨a.toArray⟩ : ByteArray) ++ ⟨b.toArray⟩ = ⟨(a ++ b).toArray⟩ := by
  apply ByteArray.ext
  simp

theorem beq_str (l m : List UInt8) : (l == m) = decide (l = m) := by
  by_cases h : l = m <;> simp [h]
theorem beq_int (m n : Int) : (m == n) = decide (m = n) := rfl
theorem beq_bool (m n : Bool) : (m == n) = decide (m = n) := by cases m <;> cases n <;> rfl

theorem s_bin (h : Inv N W0 U0 M a W U s) {op : BinOp} {t ty : TypeId} {x y : Operand} {X Y : Opd} (ho : o.op = .binOp op t x y ty) (hx : cOpd x = some X) (hy : cOpd y = some Y) (hr : opR P s (.bin op X Y) r) :
    VOK P a o W U r := by
  obtain ⟨v, u, hv, hu, hb⟩ := hr
  have h1 := cOpd_sound h hx hv
  have h2 := cOpd_sound h hy hu
  have hp := binR_plain hb
  suffices hs : ∃ w, (do eqGuard op t x y (a.eval x) (a.eval y); binOp op t (a.eval x) (a.eval y) : Sem Value).run P W = .ok w W ∧ VR W U w r by
    obtain ⟨w, hw, hvr⟩ := hs
    refine VOK.same (v := w) ?_ hvr hp
    simp only [execOp, ho]
    simp only [Sem.run_bind] at hw ⊢
    rw [hw]
    simp
  unfold binR at hb
  split at hb
  · obtain ⟨rfl, rfl⟩ := hb; rw [h1.int_inv, h2.int_inv]; exact ⟨_, by simp [eqGuard, binOp, Op.intArith], .int _ _⟩
  · obtain ⟨rfl, rfl⟩ := hb; rw [h1.int_inv, h2.int_inv]; exact ⟨_, by simp [eqGuard, binOp, Op.intArith], .int _ _⟩
  · obtain ⟨rfl, rfl⟩ := hb; rw [h1.int_inv, h2.int_inv]; exact ⟨_, by simp [eqGuard, binOp, Op.intArith], .int _ _⟩
  · obtain ⟨rfl, hn0, rfl⟩ := hb; rw [h1.int_inv, h2.int_inv]; exact ⟨_, by simp [eqGuard, binOp, Op.intDiv, hn0], .int _ _⟩
  · obtain ⟨rfl, hn0, rfl⟩ := hb; rw [h1.int_inv, h2.int_inv]; exact ⟨_, by simp [eqGuard, binOp, Op.intDiv, hn0], .int _ _⟩
  · obtain ⟨rfl, rfl⟩ := hb; rw [h1.int_inv, h2.int_inv]; exact ⟨_, by simp [eqGuard, binOp, Op.intCmp]; rfl, .bool _⟩
  · obtain ⟨rfl, rfl⟩ := hb; rw [h1.int_inv, h2.int_inv]; exact ⟨_, by simp [eqGuard, binOp, Op.intCmp]; rfl, .bool _⟩
  · obtain ⟨rfl, rfl⟩ := hb; rw [h1.int_inv, h2.int_inv]; exact ⟨_, by simp [eqGuard, binOp, Op.intCmp], .bool _⟩
  · obtain ⟨rfl, rfl⟩ := hb; rw [h1.int_inv, h2.int_inv]; exact ⟨_, by simp [eqGuard, binOp, Op.intCmp], .bool _⟩
  · obtain ⟨rfl, rfl⟩ := hb; rw [h1.int_inv, h2.int_inv]; exact ⟨_, by simp [eqGuard, binOp, Op.intCmp], .bool _⟩
  · obtain ⟨rfl, rfl⟩ := hb; rw [h1.int_inv, h2.int_inv]; exact ⟨_, by simp [eqGuard, binOp, Op.intCmp], .bool _⟩
  · obtain ⟨hl, rfl⟩ := hb; rw [h1.str_inv, h2.str_inv]
    refine ⟨_, ?_, .str _⟩
    simp [eqGuard, binOp, Op.stringOp, append_str]
    rw [size_str, size_str]
    omega
  · obtain rfl := hb; rw [h1.str_inv, h2.str_inv]; exact ⟨_, by simp [eqGuard, binOp, Op.stringOp, beq_str], .bool _⟩
  · obtain rfl := hb; rw [h1.str_inv, h2.str_inv]; exact ⟨_, by simp [eqGuard, binOp, Op.stringOp, beq_str], .bool _⟩
  · obtain rfl := hb; rw [h1.str_inv, h2.str_inv]; exact ⟨_, by simp [eqGuard, binOp, Op.stringOp], .bool _⟩
  · obtain ⟨rfl, rfl⟩ := hb; rw [h1.int_inv, h2.int_inv]; exact ⟨_, by simp [eqGuard, binOp, Op.intBits], .int _ _⟩
  · obtain ⟨rfl, rfl⟩ := hb; rw [h1.int_inv, h2.int_inv]; exact ⟨_, by simp [eqGuard, binOp, Op.intBits], .int _ _⟩
  · obtain ⟨rfl, rfl⟩ := hb; rw [h1.int_inv, h2.int_inv]; exact ⟨_, by simp [eqGuard, binOp, Op.intBits], .int _ _⟩
  · obtain ⟨rfl, rfl⟩ := hb; rw [h1.int_inv, h2.int_inv]; exact ⟨_, by simp [eqGuard, binOp, Op.intBits], .int _ _⟩
  · obtain ⟨h0, rfl⟩ := hb; rw [h1.int_inv, h2.int_inv]; exact ⟨_, by simp [eqGuard, binOp, Op.shift, show ¬ _ < (0 : Int) from Int.not_lt.2 h0], .int _ _⟩
  · obtain ⟨h0, rfl⟩ := hb; rw [h1.int_inv, h2.int_inv]; exact ⟨_, by simp [eqGuard, binOp, Op.shift, show ¬ _ < (0 : Int) from Int.not_lt.2 h0], .int _ _⟩
  · exact hb.elim

theorem run_equal_bool {t : TypeId} (ht : P.underlying t = some .bool) (d : Nat) (x y : Bool) : (Op.equalIn (d + 1) t (.bool x) (.bool y)).run P W = .ok (decide (x = y)) W := by
  simp [Op.equalIn, run_underlying ht, beq_bool]
theorem s_beq (h : Inv N W0 U0 M a W U s) {op : BinOp} {t ty : TypeId} {x y : Operand} {X Y : Opd} (ho : o.op = .binOp op t x y ty) (hop : op = .eql ∨ op = .neq) (ht : P.underlying t = some .bool) (hx : cOpd x = some X) (hy : cOpd y = some Y)
    (hr : opR P s (.beq (isNeq op) X Y) r) : VOK P a o W U r := by
  obtain ⟨v, u, hv, hu, rfl⟩ := hr
  have h1 := (cOpd_sound h hx hv).bool_inv
  have h2 := (cOpd_sound h hy hu).bool_inv
  rcases hop with rfl | rfl
  · refine VOK.same (v := .bool (decide (v = u))) ?_ (.bool _) (by simp)
    simp [execOp, ho, h1, h2, eqGuard, binOp, Op.equal, Op.maxDepth, run_equal_bool ht 9999 v u]
  · refine VOK.same (v := .bool (!decide (v = u))) ?_ (.bool _) (by simp)
    simp [execOp, ho, h1, h2, eqGuard, binOp, Op.equal, Op.maxDepth, run_equal_bool ht 9999 v u]

theorem s_peq (h : Inv N W0 U0 M a W U s) {op : BinOp} {t e ty : TypeId} {x y : Operand} {X : Opd} (ho : o.op = .binOp op t x y ty) (hop : op = .eql ∨ op = .neq) (ht : P.underlying t = some (.pointer e)) (hx : cOpd x = some X) (hy : cOpd y = some (.c .nilp))
    (hr : opR P s (.peq (isNeq op) X) r) : VOK P a o W U r := by
  obtain ⟨v, b, hv, hb, rfl⟩ := hr
  have h1 := cOpd_sound h hx hv
  have h2 : a.eval y = .pointer none := by
    have := cOpd_sound h hy (v := .nilp) rfl
    generalize a.eval y = w at this
    cases this; rfl
  have h3 : ∃ p, a.eval x = .pointer p ∧ b = p.isNone := by
    generalize a.eval x = w at h1
    cases h1 <;> simp only [isNilP, Option.some.injEq, reduceCtorEq] at hb <;> subst hb <;> exact ⟨_, rfl, rfl⟩
  obtain ⟨p, h3, rfl⟩ := h3
  have hrun : ∀ d, (Op.equalIn (d + 1) t (.pointer p) (.pointer none)).run P W = .ok p.isNone W := by
    intro d
    cases p <;> simp [Op.equalIn, run_underlying ht]
  rcases hop with rfl | rfl
  · refine VOK.same (v := .bool p.isNone) ?_ (.bool _) (by simp)
    simp [execOp, ho, h3, h2, eqGuard, binOp, Op.equal, Op.maxDepth, hrun 9999]
  · refine VOK.same (v := .bool (!p.isNone)) ?_ (.bool _) (by simp)
    simp [execOp, ho, h3, h2, eqGuard, binOp, Op.equal, Op.maxDepth, hrun 9999]
theorem s_un (h : Inv N W0 U0 M a W U s) {op : UnOp} {t : TypeId} {x : Operand} {X : Opd} (ho : o.op = .unOp op t x) (hx : cOpd x = some X) (hr : opR P s (.un op X) r) : VOK P a o W U r := by
  obtain ⟨v, hv, hb⟩ := hr
  have h1 := cOpd_sound h hx hv
  unfold unR at hb
  split at hb
  · obtain rfl := hb
    exact VOK.same (v := .bool _) (by simp [execOp, ho, h1.bool_inv, Op.unary]) (.bool _) (by simp)
  · obtain rfl := hb
    exact VOK.same (v := .int _ _) (by simp [execOp, ho, h1.int_inv, Op.unary, Op.intArith]) (.int _ _) (by simp)
  · obtain rfl := hb
    exact VOK.same (v := .int _ _) (by simp [execOp, ho, h1.int_inv, Op.unary, Op.intBits]) (.int _ _) (by simp)
  · exact hb.elim

theorem s_conv (h : Inv N W0 U0 M a W U s) {src dst : TypeId} {ks k : IntKind} {x : Operand} {X : Opd} (ho : o.op = .convert src dst x) (hs : P.underlying src = some (.int ks)) (hd : P.underlying dst = some (.int k)) (hx : cOpd x = some X)
    (hr : opR P s (.conv k X) r) : VOK P a o W U r := by
  obtain ⟨k', n, hv, rfl⟩ := hr
  have h1 := (cOpd_sound h hx hv).int_inv
  exact VOK.same (v := .int k (k.wrap n)) (by simp [execOp, ho, h1, convert, run_underlying hs, run_underlying hd, Conv.intToInt]) (.int _ _) (by simp)

theorem s_s2s (h : Inv N W0 U0 M a W U s) {src dst : TypeId} {x : Operand} {X : Opd} (ho : o.op = .convert src dst x) (hs : P.underlying src = some .string) (hd : P.underlying dst = some .string) (hx : cOpd x = some X)
    (hr : opR P s (.s2s X) r) : VOK P a o W U r := by
  obtain ⟨l, hl, rfl⟩ := hr
  have h1 := (cOpd_sound h hx hl).str_inv
  exact VOK.same (v := .string ⟨l.toArray⟩) (by simp [execOp, ho, h1, convert, run_underlying hs, run_underlying hd]) (.str l) (by simp)

theorem s_lens (h : Inv N W0 U0 M a W U s) {t : TypeId} {x : Operand} {X : Opd} (ho : o.op = .call { callee := .builtin .len, args := ⟨[x]⟩, argTypes := ⟨[t]⟩ }) (ht : P.underlying t = some .string)
    (hx : cOpd x = some X) (hr : opR P s (.len true X) r) : VOK P a o W U r := by
  obtain ⟨v, hv, hb⟩ := hr
  have h1 := cOpd_sound h hx hv
  cases v <;> simp only [lenR] at hb
  subst hb
  exact VOK.same (v := .int .i64 _) (by simp [execOp, ho, h1.str_inv, resolve, invoke, builtin, Builtin.len_, run_underlying ht, goInt, size_str]) (.int _ _) (by simp)

theorem s_lenl (h : Inv N W0 U0 M a W U s) {t e : TypeId} {x : Operand} {X : Opd} (ho : o.op = .call { callee := .builtin .len, args := ⟨[x]⟩, argTypes := ⟨[t]⟩ }) (ht : P.underlying t = some (.slice e))
    (hx : cOpd x = some X) (hr : opR P s (.len false X) r) : VOK P a o W U r := by
  obtain ⟨v, hv, hb⟩ := hr
  have h1 := cOpd_sound h hx hv
  cases v <;> simp only [lenR] at hb
  · rename_i own sz els
    subst hb
    refine VOK.same (v := .int .i64 els.length) ?_ (.int _ _) (by simp)
    generalize hval : a.eval x = val at h1
    cases h1
    simp [execOp, ho, hval, resolve, invoke, builtin, Builtin.len_, run_underlying ht, goInt]
  · rename_i b off n
    subst hb
    refine VOK.same (v := .int .i64 n) ?_ (.int _ _) (by simp)
    generalize hval : a.eval x = val at h1
    cases h1
    simp [execOp, ho, hval, resolve, invoke, builtin, Builtin.len_, run_underlying ht, goInt]
  · rename_i g e' sz n cap
    subst hb
    refine VOK.same (v := .int .i64 n) ?_ (.int _ _) (by simp)
    generalize hval : a.eval x = val at h1
    cases h1
    simp [execOp, ho, hval, resolve, invoke, builtin, Builtin.len_, run_underlying ht, goInt]
  · rename_i g sz a0 m
    subst hb
    refine VOK.same (v := .int .i64 m) ?_ (.int _ _) (by simp)
    generalize hval : a.eval x = val at h1
    cases h1
    simp [execOp, ho, hval, resolve, invoke, builtin, Builtin.len_, run_underlying ht, goInt]
  · subst hb
    refine VOK.same (v := .int .i64 0) ?_ (.int _ _) (by simp)
    generalize hval : a.eval x = val at h1
    cases h1
    simp [execOp, ho, hval, resolve, invoke, builtin, Builtin.len_, run_underlying ht, goInt]

theorem add_mk (b o j : Nat) : (⟨b, o, none⟩ : Addr).add j = ⟨b, o + j, none⟩ := by
  unfold Addr.add
  split <;> simp_all

/-- What a pointer sees lies in the cells. -/
theorem view_sound (h : Inv N W0 U0 M a W U s) {v : Value} {p : AV} {cs : List AV} (hv : VR W U v p) (hw : view s.o p = some cs) :
    ∃ (b off : Nat) (f : Nat → Value), v = .pointer (some ⟨b, off, none⟩) ∧ (∀ j, j < cs.length → W.cell? ⟨b, off + j, none⟩ = some (f j) ∧ (f j).oneCell' = true) ∧ ∀ j c, cs[j]? = some c → VR W U (f j) c := by
  cases hv with
  | ro b o cs' f hc hvv =>
    simp only [view, Option.some.injEq] at hw
    subst hw
    exact ⟨b, o, f, rfl, fun j hj => ⟨(hc j hj).1, (hc j hj).2.1⟩, hvv⟩
  | ptr b off hm =>
    simp only [view, Option.map_eq_some_iff] at hw
    obtain ⟨full, hf, rfl⟩ := hw
    obtain ⟨vs, ty, h1, h2, h3, _, _⟩ := h.obc hf hm
    refine ⟨b, off, fun j => vs.getD (off + j) undef, rfl, fun j hj => ?_, fun j c hc => ?_⟩
    · have hlt : off + j < full.length := by simp at hj; omega
      have := (h3 (off + j) full[off + j] (List.getElem?_eq_getElem hlt)).2
      refine ⟨?_, this⟩
      rw [cell_of_row W b (off + j) vs ty (0, 0) h1]
      have hv : off + j < vs.size := by omega
      simp [hv]
    · rw [List.getElem?_drop] at hc
      exact (h3 (off + j) c hc).1
  | _ => simp [view] at hw

theorem run_isAgg {t : TypeId} {d : TypeDesc} (ht : P.underlying t = some d) (W : World) : (isAgg t).run P W = .ok (isAggD d) W := by
  cases d <;> simp [isAgg, run_underlying ht, isAggD]
theorem aggN_cases {t : TypeId} {n : Option Nat} (hn : aggN P t = some n) : ∃ d i, P.underlying t = some d ∧ P.info? t = some i ∧ (isAggD d = true ∧ n = some i.size ∨ isAggD d = false ∧ n = none) := by
  unfold aggN at hn
  split at hn
  · rename_i d i hu hi
    refine ⟨d, i, hu, hi, ?_⟩
    cases hd : isAggD d <;> simp [hd] at hn <;> simp [hn]
  · cases hn
theorem range_map_get {n : Nat} {f : Nat → Value} {j : Nat} {v : Value} (h : ((List.range n).map f)[j]? = some v) : j < n ∧ v = f j := by
  have hj : j < n := by
    rcases Nat.lt_or_ge j n with hj | hj
    · exact hj
    · rw [List.getElem?_eq_none (by simp; omega)] at h
      cases h
  rw [List.getElem?_map, List.getElem?_range hj] at h
  exact ⟨hj, by simpa using h.symm⟩

/-- A load of n cells, or of one, out of cells that are seen. -/
theorem run_load_cells {t : TypeId} {n : Option Nat} (hn : aggN P t = some n) {cs : List AV} {b off : Nat} {f : Nat → Value} (h1 : ∀ j, j < cs.length → W.cell? ⟨b, off + j, none⟩ = some (f j) ∧ (f j).oneCell' = true)
    (h2 : ∀ j c, cs[j]? = some c → VR W U (f j) c) (hr : ldR n cs r) : ∃ v, (Instr.loadAt t (.pointer (some ⟨b, off, none⟩))).run P W = .ok v W ∧ VR W U v r ∧ ∀ e sz els, r ≠ .sl (some e) sz els := by
  obtain ⟨d, i, hu, hi, hd⟩ := aggN_cases hn
  rcases hd with ⟨hd, rfl⟩ | ⟨hd, rfl⟩
  · obtain ⟨hle, rfl⟩ := (by simpa [ldR] using hr : i.size ≤ cs.length ∧ r = .agg (cs.take i.size))
    refine ⟨.agg ((List.range i.size).map f).toArray, ?_, .agg _ _ (by simp [hle]) (fun j v c hv hc => ?_) (fun v hv => ?_), by simp⟩
    · have hl := run_loadCells_list (P := P) (w := W) ⟨b, off, none⟩ ((List.range i.size).map f) (fun j v hj => by
        obtain ⟨hlt, rfl⟩ := range_map_get hj
        rw [add_mk]
        exact (h1 j (by omega)).1)
      simp only [List.length_map, List.length_range] at hl
      simp [Instr.loadAt, Instr.sureAddr, loadVar, run_isAgg hu, hd, sizeOf, typeInfo, hi, hl]
    · obtain ⟨hlt, rfl⟩ := range_map_get hv
      rw [List.getElem?_take, if_pos hlt] at hc
      exact h2 j c hc
    · simp only [List.mem_map, List.mem_range] at hv
      obtain ⟨j, hj, rfl⟩ := hv
      exact (h1 j (by omega)).2
  · cases cs with
    | nil => simp [ldR] at hr
    | cons c rest =>
      obtain rfl := (by simpa [ldR] using hr : r = c.alias)
      have hc := (h1 0 (by simp)).1
      refine ⟨f 0, ?_, (h2 0 c (by simp)).alias, alias_plain c⟩
      simp only [Nat.add_zero] at hc
      simp [Instr.loadAt, Instr.sureAddr, loadVar, run_isAgg hu, hd, hc]

theorem s_ld (h : Inv N W0 U0 M a W U s) {t : TypeId} {x : Operand} {X : Opd} {n : Option Nat} (ho : o.op = .load t x) (hn : aggN P t = some n) (hx : cOpd x = some X) (hr : opR P s (.ld n X) r) : VOK P a o W U r := by
  obtain ⟨p, cs, hp, hv, hl⟩ := hr
  obtain ⟨b, off, f, he, h1, h2⟩ := view_sound h (cOpd_sound h hx hp) hv
  obtain ⟨v, hrun, hvr, hpl⟩ := run_load_cells hn h1 h2 hl
  exact VOK.same (v := v) (by simp [execOp, ho, he, hrun]) hvr hpl

theorem s_fld (h : Inv N W0 U0 M a W U s) {t : TypeId} {fs : Array Field} {fi n : Nat} {fd : Field} {x : Operand} {X : Opd} (ho : o.op = .fieldAddr t x fi) (ht : P.underlying t = some (.struct fs)) (hf : fs[fi]? = some fd)
    (hz : (P.info? fd.type).map (·.size) = some (n + 1)) (hx : cOpd x = some X) (hr : opR P s (.fld fd.offset X) r) : VOK P a o W U r := by
  obtain ⟨p, hp, hb⟩ := hr
  have h1 := cOpd_sound h hx hp
  cases hi : P.info? fd.type with
  | none => simp [hi] at hz
  | some i =>
    have hsz : i.size = n + 1 := by simpa [hi] using hz
    cases p with
    | ro cs =>
      obtain rfl := (by simpa [fldR] using hb : r = .ro (cs.drop fd.offset))
      generalize hval : a.eval x = val at h1
      cases h1 with
      | ro b off _ f hc hv =>
        refine VOK.same (v := .pointer (some ⟨b, off + fd.offset, none⟩)) ?_ ?_ (by simp)
        · simp [execOp, ho, hval, Instr.fieldAt, run_underlying ht, hf, Instr.sureAddr, fieldPlace, sizeOf, typeInfo, hi, hsz, add_mk]
        · refine .ro b (off + fd.offset) _ (fun j => f (fd.offset + j)) (fun j hj => ?_) (fun j c hc' => ?_)
          · have := hc (fd.offset + j) (by simp at hj; omega)
            rw [Nat.add_assoc]
            exact this
          · rw [List.getElem?_drop] at hc'
            exact hv _ c hc'
    | ptr b off =>
      have hm := h1.ptr_at
      obtain rfl := (by simpa [fldR] using hb : r = .ptr b (off + fd.offset))
      generalize hval : a.eval x = val at h1
      cases h1
      exact VOK.same (v := .pointer (some ⟨b, off + fd.offset, none⟩)) (by simp [execOp, ho, hval, Instr.fieldAt, run_underlying ht, hf, Instr.sureAddr, fieldPlace, sizeOf, typeInfo, hi, hsz, add_mk]) (.ptr _ _ hm) (by simp)
    | _ => exact hb.elim

theorem isSlice_cases {t : TypeId} {e sz : Nat} (h : isSlice P t = some (e, sz)) : ∃ i, P.underlying t = some (.slice e) ∧ P.info? e = some i ∧ i.size = sz := by
  unfold isSlice at h
  split at h
  · rename_i e' hu
    cases hi : P.info? e' with
    | none => simp [hi] at h
    | some i =>
      simp only [hi, Option.map_some, Option.some.injEq, Prod.mk.injEq] at h
      obtain ⟨rfl, rfl⟩ := h
      exact ⟨i, hu, hi, rfl⟩
  · cases h

theorem s_idx (h : Inv N W0 U0 M a W U s) {t : TypeId} {e sz : Nat} {x y : Operand} {X Y : Opd} (ho : o.op = .indexAddr t x y) (ht : isSlice P t = some (e, sz)) (hx : cOpd x = some X) (hy : cOpd y = some Y) (hr : opR P s (.idx sz X Y) r) : VOK P a o W U r := by
  obtain ⟨p, q, hp, hn, hr⟩ := hr
  obtain ⟨i, hu, hi, rfl⟩ := isSlice_cases ht
  cases p <;> try exact hr.elim
  all_goals cases q <;> try exact hr.elim
  case osl.int b off len k n =>
    obtain ⟨⟨hn0, hnl⟩, rfl⟩ := hr
    have h1 := cOpd_sound h hx hp
    have h2 := (cOpd_sound h hy hn).int_inv
    generalize hval : a.eval x = val at h1
    cases h1 with
    | osl _ _ _ cap hcap hmax hm =>
      refine VOK.same (v := .pointer (some ⟨b, off + n.toNat * i.size, none⟩)) ?_ (.ptr _ _ hm) (by simp)
      simp [execOp, ho, hval, h2, Instr.indexAt, asIntOf, run_underlying hu, hn0, hnl, sizeOf, typeInfo, hi, add_mk]
  case hsl.int g e' sz' len cap k n =>
    obtain ⟨rfl, ⟨hn0, hnl⟩, rfl⟩ := hr
    have h1 := cOpd_sound h hx hp
    have h2 := (cOpd_sound h hy hn).int_inv
    generalize hval : a.eval x = val at h1
    cases h1 with
    | hsl _ _ _ _ _ hcap hmax hm =>
      obtain ⟨c1, c2, c3⟩ := hm
      refine VOK.same (v := .pointer (some ⟨g, n.toNat * i.size, none⟩)) ?_ (.ptr _ _ ⟨_, _, _, c3⟩) (by simp)
      simp [execOp, ho, hval, h2, Instr.indexAt, asIntOf, run_underlying hu, hn0, hnl, sizeOf, typeInfo, hi, add_mk]
  case hss.int g sz' a0 len k n =>
    obtain ⟨rfl, ⟨hn0, hnl⟩, rfl⟩ := hr
    have h1 := cOpd_sound h hx hp
    have h2 := (cOpd_sound h hy hn).int_inv
    generalize hval : a.eval x = val at h1
    cases h1 with
    | hss A _ _ _ _ cap hcap hmax hA hm =>
      obtain rfl := hA (by omega)
      refine VOK.same (v := .pointer (some ⟨g, (a0 + n.toNat) * i.size, none⟩)) ?_ (.ptr _ _ hm) (by simp)
      simp [execOp, ho, hval, h2, Instr.indexAt, asIntOf, run_underlying hu, hn0, hnl, sizeOf, typeInfo, hi, add_mk, Nat.add_mul]
  rename_i own sz els k n
  obtain ⟨rfl, ⟨hn0, hnl⟩, rfl⟩ := hr
  have h1 := cOpd_sound h hx hp
  have h2 := (cOpd_sound h hy hn).int_inv
  have hlt : n.toNat < els.length := by omega
  have hget : els.getD n.toNat [] = els[n.toNat] := by simp [hlt]
  generalize hval : a.eval x = val at h1
  cases h1 with
  | sl A cap _ _ b off _ f hcap hmax hA hs hc hv =>
    obtain rfl := hA (by omega)
    have hsz : els[n.toNat].length = i.size := hs _ (List.getElem_mem _)
    refine VOK.same (v := .pointer (some ⟨b, off + n.toNat * i.size, none⟩)) ?_ ?_ (by simp)
    · simp [execOp, ho, hval, h2, Instr.indexAt, asIntOf, run_underlying hu, hn0, hnl, sizeOf, typeInfo, hi, add_mk]
    · rw [hget]
      refine .ro b _ _ (fun j => f n.toNat j) (fun j hj => ?_) (fun j c hc' => hv n.toNat _ j c (List.getElem?_eq_getElem hlt) hc')
      exact hc n.toNat j hlt (by omega)

theorem s_aidx (h : Inv N W0 U0 M a W U s) {t : TypeId} {n e : Nat} {x y : Operand} {X Y : Opd} (ho : o.op = .indexAddr t x y) (ht : P.underlying t = some (.array n e)) (hi : (P.info? e).isSome = true) (hx : cOpd x = some X) (hy : cOpd y = some Y) (hr : opR P s (.aidx n (sizeT P e) X Y) r) : VOK P a o W U r := by
  obtain ⟨p, k, m, hp, hn, ⟨hm0, hml⟩, hb⟩ := hr
  have h1 := cOpd_sound h hx hp
  have h2 := (cOpd_sound h hy hn).int_inv
  obtain ⟨i, hi⟩ := Option.isSome_iff_exists.1 hi
  have hsz : sizeT P e = i.size := by simp [sizeT, hi]
  rw [hsz] at hb
  cases p with
  | ro cs =>
    obtain rfl := (by simpa [fldR] using hb : r = .ro (cs.drop (m.toNat * i.size)))
    generalize hval : a.eval x = val at h1
    cases h1 with
    | ro b off _ f hc hv =>
      refine VOK.same (v := .pointer (some ⟨b, off + m.toNat * i.size, none⟩)) ?_ ?_ (by simp)
      · simp [execOp, ho, hval, h2, Instr.indexAt, asIntOf, run_underlying ht, Instr.sureAddr, hm0, hml, sizeOf, typeInfo, hi, add_mk]
      · refine .ro b _ _ (fun j => f (m.toNat * i.size + j)) (fun j hj => ?_) (fun j c hc' => ?_)
        · have := hc (m.toNat * i.size + j) (by simp at hj; omega)
          rw [Nat.add_assoc]
          exact this
        · rw [List.getElem?_drop] at hc'
          exact hv _ c hc'
  | ptr b off =>
    have hm := h1.ptr_at
    obtain rfl := (by simpa [fldR] using hb : r = .ptr b (off + m.toNat * i.size))
    generalize hval : a.eval x = val at h1
    cases h1
    exact VOK.same (v := .pointer (some ⟨b, off + m.toNat * i.size, none⟩)) (by simp [execOp, ho, hval, h2, Instr.indexAt, asIntOf, run_underlying ht, Instr.sureAddr, hm0, hml, sizeOf, typeInfo, hi, add_mk]) (.ptr _ _ hm) (by simp)
  | _ => exact hb.elim

theorem s_sidx (h : Inv N W0 U0 M a W U s) {t : TypeId} {x y : Operand} {X Y : Opd} (ho : o.op = .index t x y) (ht : P.underlying t = some .string) (hx : cOpd x = some X) (hy : cOpd y = some Y) (hr : opR P s (.sidx X Y) r) : VOK P a o W U r := by
  obtain ⟨l, k, n, hp, hn, ⟨hn0, hnl⟩, rfl⟩ := hr
  have h1 := (cOpd_sound h hx hp).str_inv
  have h2 := (cOpd_sound h hy hn).int_inv
  have hlt : n.toNat < l.length := by omega
  refine VOK.same (v := .int .u8 ((l.getD n.toNat 0).toNat : Int)) ?_ (.int _ _) (by simp)
  have hb : (⟨l.toArray⟩ : ByteArray)[n.toNat]? = some l[n.toNat] := by
    rw [getElem?_pos (⟨l.toArray⟩ : ByteArray) n.toNat (by rw [size_str]; exact hlt)]
    rfl
  simp [execOp, ho, h1, h2, Instr.index, asIntOf, run_underlying ht, hn0, hb, hlt]

theorem s_fldv (h : Inv N W0 U0 M a W U s) {t : TypeId} {fs : Array Field} {fi : Nat} {fd : Field} {n : Option Nat} {x : Operand} {X : Opd} (ho : o.op = .field t x fi) (ht : P.underlying t = some (.struct fs)) (hf : fs[fi]? = some fd)
    (hn : aggN P fd.type = some n) (hx : cOpd x = some X) (hr : opR P s (.fldv fd.offset n X) r) : VOK P a o W U r := by
  obtain ⟨cs, hp, hlt, hb⟩ := hr
  have h1 := cOpd_sound h hx hp
  obtain ⟨d, i, hu, hi, hd⟩ := aggN_cases hn
  generalize hval : a.eval x = val at h1
  cases h1 with
  | agg vs _ hl hv hone =>
    rcases hd with ⟨hd, rfl⟩ | ⟨hd, rfl⟩
    · obtain ⟨hle, rfl⟩ := (by simpa [ldR] using hb : i.size ≤ cs.length - fd.offset ∧ r = .agg ((cs.drop fd.offset).take i.size))
      refine VOK.same (v := .agg ((vs.drop fd.offset).take i.size).toArray) ?_ (.agg _ _ (by simp [hl]) (fun j v c h3 h4 => ?_) (fun v hv => hone v (List.mem_of_mem_drop (List.mem_of_mem_take hv)))) (by simp)
      · simp [execOp, ho, hval, Instr.field, run_underlying ht, hf, asAgg, part, run_isAgg hu, hd, sizeOf, typeInfo, hi]
      · rw [List.getElem?_take] at h3 h4
        split at h3
        · rename_i hj
          rw [if_pos hj] at h4
          rw [List.getElem?_drop] at h3 h4
          exact hv _ v c h3 h4
        · cases h3
    · have hdr : cs.drop fd.offset = cs[fd.offset] :: cs.drop (fd.offset + 1) := by rw [List.drop_eq_getElem_cons hlt]
      rw [hdr] at hb
      obtain rfl := (by simpa [ldR] using hb : r = (cs[fd.offset]).alias)
      have hlv : fd.offset < vs.length := by omega
      refine VOK.same (v := vs[fd.offset]) ?_ (hv fd.offset _ _ (List.getElem?_eq_getElem hlv) (List.getElem?_eq_getElem hlt)).alias (alias_plain _)
      simp [execOp, ho, hval, Instr.field, run_underlying ht, hf, asAgg, part, run_isAgg hu, hd, hlv]

theorem s_ext (h : Inv N W0 U0 M a W U s) {j : Nat} {x : Operand} {X : Opd} (ho : o.op = .extract x j) (hx : cOpd x = some X) (hr : opR P s (.ext j X) r) : VOK P a o W U r := by
  obtain ⟨cs, c, hp, hc, rfl⟩ := hr
  have h1 := cOpd_sound h hx hp
  generalize hval : a.eval x = val at h1
  cases h1 with
  | tup vs _ hl hv =>
    have hlt : j < cs.length := (List.getElem?_eq_some_iff.1 hc).1
    have hlv : j < vs.length := by omega
    refine VOK.same (v := vs[j]) ?_ (hv j _ _ (List.getElem?_eq_getElem hlv) hc).alias (alias_plain _)
    simp [execOp, ho, hval, Instr.extract, hlv]

theorem s_nilc (h : Inv N W0 U0 M a W U s) {x : Operand} {X : Opd} (ho : o.op = .nilCheck x) (hx : cOpd x = some X) (hr : opR P s (.nilc X) r) : VOK P a o W U r := by
  rcases hr with ⟨cs, hp, rfl⟩ | ⟨b, off, hp, rfl⟩
  · have h1 := cOpd_sound h hx hp
    refine VOK.same (v := a.eval x) ?_ h1 (by simp)
    generalize hval : a.eval x = val at h1
    cases h1
    simp [execOp, ho, hval]
  · have h1 := cOpd_sound h hx hp
    refine VOK.same (v := a.eval x) ?_ h1 (by simp)
    generalize hval : a.eval x = val at h1
    cases h1
    simp [execOp, ho, hval]

theorem s_pick (h : Inv N W0 U0 M a W U s) {c x y : Operand} {C X Y : Opd} (ho : o.op = .pick c x y) (hc : cOpd c = some C) (hx : cOpd x = some X) (hy : cOpd y = some Y) (hr : opR P s (.pick C X Y) r) : VOK P a o W U r := by
  obtain ⟨b, u, v, h1, h2, h3, rfl⟩ := hr
  have hb := (cOpd_sound h hc h1).bool_inv
  cases b with
  | true => exact VOK.same (v := a.eval x) (by simp [execOp, ho, hb, asBool]) (cOpd_sound h hx h2).alias (alias_plain _)
  | false => exact VOK.same (v := a.eval y) (by simp [execOp, ho, hb, asBool]) (cOpd_sound h hy h3).alias (alias_plain _)

theorem s_vidx (h : Inv N W0 U0 M a W U s) {t n e : Nat} {q : Option Nat} {x y : Operand} {X Y : Opd} (ho : o.op = .index t x y) (ht : P.underlying t = some (.array n e)) (hq : aggN P e = some q) (hx : cOpd x = some X) (hy : cOpd y = some Y) (hr : opR P s (.vidx n (sizeT P e) q X Y) r) : VOK P a o W U r := by
  obtain ⟨p, c, hp, hn, hb⟩ := hr
  cases p <;> try exact hb.elim
  all_goals cases c <;> try exact hb.elim
  rename_i cs k m
  obtain ⟨⟨hm0, hml, hlt⟩, hb⟩ := hb
  have h1 := cOpd_sound h hx hp
  have h2 := (cOpd_sound h hy hn).int_inv
  obtain ⟨d, i, hu, hi, hd⟩ := aggN_cases hq
  have hsz : sizeT P e = i.size := by simp [sizeT, hi]
  rw [hsz] at hb hlt
  generalize hoff : m.toNat * i.size = off at hb hlt
  generalize hval : a.eval x = val at h1
  cases h1 with
  | agg vs _ hl hv hone =>
    rcases hd with ⟨hd, rfl⟩ | ⟨hd, rfl⟩
    · obtain ⟨hle, rfl⟩ := (by simpa [ldR] using hb : i.size ≤ cs.length - off ∧ r = .agg ((cs.drop off).take i.size))
      refine VOK.same (v := .agg ((vs.drop off).take i.size).toArray) ?_ (.agg _ _ (by simp [hl]) (fun j v c h3 h4 => ?_) (fun v hv => hone v (List.mem_of_mem_drop (List.mem_of_mem_take hv)))) (by simp)
      · simp [execOp, ho, hval, h2, Instr.index, asIntOf, run_underlying ht, hm0, hml, part, run_isAgg hu, hd, sizeOf, typeInfo, hi, hoff]
      · rw [List.getElem?_take] at h3 h4
        split at h3
        · rename_i hj
          rw [if_pos hj] at h4
          rw [List.getElem?_drop] at h3 h4
          exact hv _ v c h3 h4
        · cases h3
    · have hdr : cs.drop off = cs[off] :: cs.drop (off + 1) := by rw [List.drop_eq_getElem_cons hlt]
      rw [hdr] at hb
      obtain rfl := (by simpa [ldR] using hb : r = (cs[off]).alias)
      have hlv : off < vs.length := by omega
      refine VOK.same (v := vs[off]) ?_ (hv off _ _ (List.getElem?_eq_getElem hlv) (List.getElem?_eq_getElem hlt)).alias (alias_plain _)
      simp [execOp, ho, hval, h2, Instr.index, asIntOf, run_underlying ht, hm0, hml, part, run_isAgg hu, hd, sizeOf, typeInfo, hi, hoff, hlv]
theorem s_mn (h : Inv N W0 U0 M a W U s) {x y : Operand} {X Y : Opd} {ts : Array TypeId} (ho : o.op = .call { callee := .builtin .min, args := ⟨[x, y]⟩, argTypes := ts }) (hx : cOpd x = some X) (hy : cOpd y = some Y) (hr : opR P s (.mn X Y) r) : VOK P a o W U r := by
  obtain ⟨p, c, hp, hn, hb⟩ := hr
  cases p <;> try exact hb.elim
  all_goals cases c <;> try exact hb.elim
  rename_i k1 m k2 n
  have h1 := (cOpd_sound h hx hp).int_inv
  have h2 := (cOpd_sound h hy hn).int_inv
  obtain rfl := (hb : r = .int k1 (if n < m then n else m))
  refine VOK.same (v := .int k1 (if n < m then n else m)) ?_ (.int _ _) (by simp)
  simp [execOp, ho, h1, h2, resolve, invoke, builtin, Builtin.min_, Builtin.min2]

end
end Go.Proofs.Ytobopbjedojebaa

/- The abstract machine, part 6: slices, strings, appends, calls, stores, new blocks. -/
namespace Go.Proofs.Ytobopbjedojebaa
set_option linter.all false
open Go.RowKit

section
variable {P : Program} {N : Nat} {W0 : World} {U0 : Nat → Nat → Prop} {M : Nat → Prop} {a : Act} {W : World} {U : Nat → Nat → Prop} {s : St} {o : Oper} {r : AV}

theorem run_sliceBound {k : IntKind} {i : Int} {y : Nat} (h0 : 0 ≤ i) (h1 : i.toNat ≤ y) (c : BoundsCode) : (Instr.sliceBound (.int k i) y c).run P W = .ok i.toNat W := by
  have h2 : i ≤ (y : Int) := by omega
  simp [Instr.sliceBound, asIntOf, h0, h2]

/-- The bounds of a slice expression. -/
theorem run_bounds (h : Inv N W0 U0 M a W U s) {lo hi : Option Operand} {LO HI : Option Opd} (hlo : cOptOpd lo = some LO) (hhi : cOptOpd hi = some HI) {len cap x y : Nat} (hx : boundR s 0 LO x) (hy : boundR s len HI y) (hxy : x ≤ y) (hyl : y ≤ len)
    (hlc : len ≤ cap) (sl : Bool) : (Instr.sliceBounds sl len cap (lo.map a.eval) (hi.map a.eval) none).run P W = .ok (x, y, cap) W := by
  have hb : ∀ {z : Option Operand} {Z : Option Opd} {d r : Nat}, cOptOpd z = some Z → boundR s d Z r → (z = none ∧ r = d) ∨ ∃ z' k n, z = some z' ∧ a.eval z' = .int k n ∧ 0 ≤ n ∧ r = n.toNat := by
    intro z Z d r hz hr
    cases z with
    | none =>
      simp only [cOptOpd, Option.some.injEq] at hz
      subst hz
      exact .inl ⟨rfl, hr⟩
    | some z' =>
      cases hc : cOpd z' with
      | none => simp [cOptOpd, hc] at hz
      | some Z' =>
        simp only [cOptOpd, hc, Option.map_some, Option.some.injEq] at hz
        subst hz
        obtain ⟨k, n, h1, h2, h3⟩ := hr
        exact .inr ⟨z', k, n, rfl, (cOpd_sound h hc h1).int_inv, h2, h3⟩
  rcases hb hlo hx with ⟨rfl, rfl⟩ | ⟨z1, k1, n1, rfl, e1, p1, rfl⟩
  · rcases hb hhi hy with ⟨rfl, rfl⟩ | ⟨z2, k2, n2, rfl, e2, p2, rfl⟩
    · simp [Instr.sliceBounds]
    · simp [Instr.sliceBounds, e2, run_sliceBound p2 (Nat.le_trans hyl hlc)]
  · rcases hb hhi hy with ⟨rfl, rfl⟩ | ⟨z2, k2, n2, rfl, e2, p2, rfl⟩
    · simp [Instr.sliceBounds, e1, run_sliceBound p1 hxy]
    · simp [Instr.sliceBounds, e1, e2, run_sliceBound p1 hxy, run_sliceBound p2 (Nat.le_trans hyl hlc)]

theorem extract_str (l : List UInt8) (x y : Nat) : (⟨l.toArray⟩ : ByteArray).extract x y = ⟨((l.take y).drop x).toArray⟩ := by
  apply ByteArray.ext
  rw [ByteArray.data_extract]
  apply Array.ext'
  simp [List.drop_take]

theorem s_slc (h : Inv N W0 U0 M a W U s) {t : TypeId} {x : Operand} {lo hi : Option Operand} {X : Opd} {LO HI : Option Opd} (ho : o.op = .slice t x lo hi none) (ht : P.underlying t = some .string) (hx : cOpd x = some X) (hlo : cOptOpd lo = some LO) (hhi : cOptOpd hi = some HI)
    (hr : opR P s (.slc none X LO HI) r) : VOK P a o W U r := by
  obtain ⟨l, x1, y1, hp, h1, h2, ⟨h3, h4⟩, rfl⟩ := hr
  have hv := (cOpd_sound h hx hp).str_inv
  refine VOK.same (v := .string ⟨((l.take y1).drop x1).toArray⟩) ?_ (.str _) (by simp)
  have hb := run_bounds (P := P) (a := a) (W := W) h hlo hhi (cap := l.length) h1 h2 h3 h4 (Nat.le_refl _) false
  simp [execOp, ho, Instr.sliceAt, run_underlying ht, Instr.slice, hv, size_str, hb, extract_str]

theorem s_slcs (h : Inv N W0 U0 M a W U s) {t : TypeId} {e : Nat} {i : TypeInfo} {x : Operand} {lo hi : Option Operand} {X : Opd} {LO HI : Option Opd} (ho : o.op = .slice t x lo hi none) (ht : P.underlying t = some (.slice e)) (hi' : P.info? e = some i)
    (hx : cOpd x = some X) (hlo : cOptOpd lo = some LO) (hhi : cOptOpd hi = some HI) (hr : opR P s (.slc (some i.size) X LO HI) r) : VOK P a o W U r := by
  obtain ⟨own, l, x1, y1, hp, h1, h2, ⟨h3, h4⟩, rfl⟩ := hr
  have hv := cOpd_sound h hx hp
  generalize hval : a.eval x = val at hv
  cases hv with
  | sl A cap _ _ b off _ f hcap hmax hA hs hc hvv =>
    have hb := run_bounds (P := P) (a := a) (W := W) h hlo hhi (cap := cap) h1 h2 h3 h4 hcap true
    refine VOK.same (v := .slice (if cap = x1 then A else A.map (·.add (x1 * i.size))) (y1 - x1) (cap - x1)) ?_ ?_ (by simp)
    · simp [execOp, ho, Instr.sliceAt, run_underlying ht, Instr.slice, hval, hb, sizeOf, typeInfo, hi']
    · have hlen : ((l.take y1).drop x1).length = y1 - x1 := by simp; omega
      rw [← hlen]
      refine .sl _ (cap - x1) none _ b (off + x1 * i.size) i.size (fun i j => f (x1 + i) j) (by omega) (by omega) (fun hpos => ?_) (fun e he => hs e (List.mem_of_mem_take (List.mem_of_mem_drop he))) (fun j k hj hk => ?_) (fun j e' k c he hcc => ?_)
      · obtain rfl := hA (by omega)
        rw [if_neg (by omega)]
        simp [add_mk]
      · have := hc (x1 + j) k (by omega) hk
        rw [Nat.add_mul, ← Nat.add_assoc] at this
        exact this
      · rw [List.getElem?_drop, List.getElem?_take] at he
        split at he
        · exact hvv _ e' k c he hcc
        · cases he

theorem s_b2s (h : Inv N W0 U0 M a W U s) {src dst e : TypeId} {x : Operand} {X : Opd} (ho : o.op = .convert src dst x) (hs : P.underlying src = some (.slice e)) (hd : P.underlying dst = some .string) (he : P.underlying e = some (.int .u8)) (hx : cOpd x = some X)
    (hr : opR P s (.b2s X) r) : VOK P a o W U r := by
  obtain ⟨own, l, hp, rfl⟩ := hr
  have hv := cOpd_sound h hx hp
  generalize hval : a.eval x = val at hv
  cases hv with
  | sl A cap _ _ b off _ f hcap hmax hA hsz hc hvv =>
    have hbyte : ∀ j (hj : j < l.length), f j 0 = .int .u8 (l[j].toNat : Int) := fun j hj => (hvv j (byteEl l[j]) 0 (.int .u8 (l[j].toNat : Int)) (by simp [hj]) rfl).int_inv
    refine VOK.same (v := .string ⟨l.toArray⟩) ?_ (.str _) (by simp)
    cases A with
    | none =>
      have hl0 : l = [] := by
        cases l with
        | nil => rfl
        | cons c l => have := hA (by simp); cases this
      subst hl0
      simp [execOp, ho, hval, convert, run_underlying hs, run_underlying hd, run_underlying he, Conv.bytesToString]
      rfl
    | some A =>
      have hload : (loadCells A (l.map byteEl).length).run P W = .ok ((l.map fun c => (c.toNat : Int)).map (Value.int .u8)).toArray W := by
        have hh := run_loadCells_list (P := P) (w := W) A ((l.map fun c => (c.toNat : Int)).map (Value.int .u8)) (fun j v hj => by
          have hjl : j < l.length := by
            rcases Nat.lt_or_ge j l.length with hj' | hj'
            · exact hj'
            · rw [List.getElem?_eq_none (by simp; omega)] at hj; cases hj
          have hA' := hA (by simp; omega)
          cases hA'
          have hcell := (hc j 0 (by simpa using hjl) (by omega)).1
          simp only [Nat.mul_one, Nat.add_zero] at hcell
          rw [add_mk, hcell, hbyte j hjl]
          simpa [hjl] using hj)
        simpa using hh
      have hrun := run_bytesToString (P := P) W A (l.map byteEl).length cap _ hload
      have hfold : ∀ (m : List UInt8) (acc : ByteArray), (m.map fun c => (c.toNat : Int)).foldl (fun (r : ByteArray) (n : Int) => r.push (UInt8.ofNat n.toNat)) acc = ⟨(acc.data.toList ++ m).toArray⟩ := by
        intro m
        induction m with
        | nil => intro acc; simp
        | cons c m ih =>
          intro acc
          simp only [List.map_cons, List.foldl_cons, ih]
          simp
      rw [hfold] at hrun
      have hem : (ByteArray.empty.data.toList ++ l) = l := by simp
      rw [hem] at hrun
      simp only [execOp, ho, hval, convert, run_underlying hs, run_underlying hd, run_underlying he, Sem.run_bind, Result.andThen_ok, hrun]
      rfl
end
end Go.Proofs.Ytobopbjedojebaa
