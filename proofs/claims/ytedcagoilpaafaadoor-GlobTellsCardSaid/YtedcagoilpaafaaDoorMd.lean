/- The abstract machine, part 4: the operations of the model, read off as the machine's; each does what the machine's says. -/
import Derived.Test.YtedcagoilpaafaaDoorMc
namespace Go.Proofs.YtedcagoilpaafaaDoor
set_option linter.all false
open Go.RowKit

/-- A constant, as it reads. -/
def zVR : Value → AV → Bool
  | .int k n, .int k' n' => k == k' && n == n'
  | .bool b, .bool b' => b == b'
  | .string s, .str l => s.data.toList == l
  | .slice none 0 0, .sl _ _ [] => true
  | .slice none 0 0, .nils _ _ => true
  | .pointer none, .nilp => true
  | .pointer none, .nilT _ => true
  | _, _ => false
theorem zVR_sound {v : Value} {c : AV} (h : zVR v c = true) (W : World) (U : Nat → Nat → Prop) : VR W U v c ∧ v.oneCell' = true ∧ (∀ e sz els, c = .sl (some e) sz els → v = .slice none 0 0 ∧ els = []) := by
  unfold zVR at h
  split at h
  · simp only [Bool.and_eq_true, beq_iff_eq] at h
    obtain ⟨rfl, rfl⟩ := h
    exact ⟨.int _ _, rfl, fun _ _ _ e => by cases e⟩
  · simp only [beq_iff_eq] at h
    subst h
    exact ⟨.bool _, rfl, fun _ _ _ e => by cases e⟩
  · simp only [beq_iff_eq] at h
    subst h
    exact ⟨.str _, rfl, fun _ _ _ e => by cases e⟩
  · refine ⟨?_, rfl, fun _ _ _ e => by cases e; exact ⟨rfl, rfl⟩⟩
    exact .sl (els := []) none 0 _ 0 0 _ (fun _ _ => Go.undef) (by simp) (by simp) (by simp) (by simp) (by simp) (by simp)
  · exact ⟨.nils _ _, rfl, fun _ _ _ e => by cases e⟩
  · exact ⟨.nilp, rfl, fun _ _ _ e => by cases e⟩
  · exact ⟨.nilT _, rfl, fun _ _ _ e => by cases e⟩
  · cases h

/-- A zero value's cell, in a value. -/
def toNil : AV → AV
  | .sl (some e) sz [] => .nils e sz
  | a => a.alias
def cVal : Value → Option AV
  | .int k n => some (.int k n)
  | .bool b => some (.bool b)
  | .string s => some (.str s.data.toList)
  | .pointer none => some .nilp
  | .nilIface => some .nili
  | _ => none
theorem cVal_sound {v : Value} {c : AV} (h : cVal v = some c) (W : World) (U : Nat → Nat → Prop) : VR W U v c := by
  unfold cVal at h
  split at h <;> cases h
  · exact .int _ _
  · exact .bool _
  · exact .str _
  · exact .nilp
  · exact .nili
def cOpd : Operand → Option Opd
  | .tmp t => some (.t t)
  | .const v => (cVal v).map .c
  | .func f => some (.c (.fn f))
  | .global _ => none
/-- With its type at hand: a nil slice, too. -/
def cOpdT (P : Program) (t : TypeId) (x : Operand) : Option Opd :=
  match x with
  | .const (.slice none 0 0) => match P.underlying t with
    | some (.slice e) => (P.info? e).map fun i => .c (.sl none i.size [])
    | _ => none
  | x => cOpd x

section
variable {N : Nat} {W0 : World} {U0 : Nat → Nat → Prop} {M : Nat → Prop} {a : Act} {W : World} {U : Nat → Nat → Prop} {s : St}

theorem cOpd_sound (h : Inv N W0 U0 M a W U s) {x : Operand} {X : Opd} (hx : cOpd x = some X) {v : AV} (hv : X.ev s = some v) : VR W U (a.eval x) v := by
  unfold cOpd at hx
  split at hx
  · cases hx
    exact h.tv _ v hv
  · rename_i c
    cases hc : cVal c with
    | none => simp [hc] at hx
    | some y =>
      simp only [hc, Option.map_some, Option.some.injEq] at hx
      subst hx
      simp only [Opd.ev, Option.some.injEq] at hv
      subst hv
      exact cVal_sound hc W U
  · cases hx
    simp only [Opd.ev, Option.some.injEq] at hv
    subst hv
    exact .fn _
  · cases hx

theorem cOpdT_sound (h : Inv N W0 U0 M a W U s) {P : Program} {t : TypeId} {x : Operand} {X : Opd} (hx : cOpdT P t x = some X) {v : AV} (hv : X.ev s = some v) : VR W U (a.eval x) v := by
  unfold cOpdT at hx
  split at hx
  · split at hx
    · rename_i e _
      cases hi : P.info? e with
      | none => simp [hi] at hx
      | some i =>
        simp only [hi, Option.map_some, Option.some.injEq] at hx
        subst hx
        simp only [Opd.ev, Option.some.injEq] at hv
        subst hv
        exact (zVR_sound (v := .slice none 0 0) (c := .sl none i.size []) rfl W U).1
    · cases hx
  · exact cOpd_sound h hx hv
end

def isAggD : TypeDesc → Bool
  | .struct _ => true
  | .array _ _ => true
  | _ => false
/-- The size of a type's value, where it is a struct or an array. -/
def aggN (P : Program) (t : TypeId) : Option (Option Nat) :=
  match P.underlying t, P.info? t with
  | some d, some i => some (if isAggD d then some i.size else none)
  | _, _ => none
def zeroCs (P : Program) : Nat → TypeId → Option (List AV)
  | 0, _ => none
  | n + 1, t => match P.underlying t with
    | some (.int k) => some [.int k 0]
    | some .bool => some [.bool false]
    | some .string => some [.str []]
    | some (.slice e) => (P.info? e).map fun i => [.sl (some e) i.size []]
    | some (.pointer _) => some [.nilp]
    | some (.struct fs) => fs.toList.foldr (fun f r => match zeroCs P n f.type, r with | some x, some y => some (x ++ y) | _, _ => none) (some [])
    | some (.array k e) => match zeroCs P n e with
      | some x => some (List.replicate k x).flatten
      | none => none
    | _ => none
def zVRs : List Value → List AV → Bool
  | [], [] => true
  | v :: vs, c :: cs => zVR v c && zVRs vs cs
  | _, _ => false
/-- A type's zero value as cells. -/
def zeroOf (P : Program) (t : TypeId) : Option (List AV) :=
  match zeroCs P 8 t, (P.info? t).bind (·.zero) with
  | some cs, some z => if zVRs z.cells.toList cs then some cs else none
  | _, _ => none

/-- A block's first cell tells its type, where it is a nil pointer. -/
def tagT (t : Nat) : List AV → List AV
  | .nilp :: r => .nilT t :: r
  | z => z
theorem tagT_len (t : Nat) (z : List AV) : (tagT t z).length = z.length := by
  unfold tagT; split <;> rfl
theorem tagT_head {t : Nat} {z : List AV} (h : (headT z).isNone = true) : ∀ u, headT (tagT t z) = some u → t = u := by
  intro u hu
  unfold tagT at hu
  split at hu
  · simpa [headT] using hu
  · rw [hu] at h; cases h
theorem tagT_get {t j : Nat} {z : List AV} {c : AV} (h : (tagT t z)[j]? = some c) : z[j]? = some c ∨ (z[j]? = some .nilp ∧ c = .nilT t) := by
  unfold tagT at h
  split at h
  · cases j with
    | zero => simp at h; exact .inr ⟨rfl, h.symm⟩
    | succ j => exact .inl (by simpa using h)
  · exact .inl h
/-- How many cells a type's zero value has, where it has one. -/
def zeroSize (P : Program) (t : TypeId) : Option Nat := ((P.info? t).bind (·.zero)).map fun z => z.cells.size

def usedAs (ops : List Oper) (d : Nat) : Bool :=
  ops.any fun o => match o.op with
    | .call { callee := .builtin .append, args, .. } => match (args[0]? : Option Operand) with
      | some (Operand.tmp t) => t == d
      | _ => false
    | .assign (.tmp t) => t == d
    | _ => false
def isSlice (P : Program) (t : TypeId) : Option (Nat × Nat) :=
  match P.underlying t with
  | some (.slice e) => (P.info? e).map fun i => (e, i.size)
  | _ => none
def cMove (P : Program) (ops : List Oper) (o : Oper) (take : Bool) (x : Operand) : Option AK :=
  match x, isSlice P o.type with
  | .const (.slice none 0 0), some (e, sz) => some (.nil e sz)
  | .tmp t, some _ => if take || (o.dst.map (usedAs ops)).getD false then (if o.dst = some t then none else some (.tk t)) else some (.mv (.t t))
  | x, _ => (cOpd x).map .mv
def cParts (l : List (Nat × Operand)) (n : Nat) : Option (List Opd) :=
  match l with
  | [] => some []
  | (i, x) :: r => if i = n then match cOpd x, cParts r (n + 1) with
    | some y, some ys => some (y :: ys)
    | _, _ => none
    else none
def cArgs (P : Program) : List TypeId → List Operand → Option (List Opd)
  | [], [] => some []
  | t :: ts, x :: xs => match cOpdT P t x, cArgs P ts xs with
    | some y, some ys => some (y :: ys)
    | _, _ => none
  | _, _ => none
def cFields (P : Program) (fs : Array Field) : List (Nat × Operand) → Option (List (Nat × Nat × Opd))
  | [] => some []
  | (i, x) :: r => match fs[i]? with
    | some f => match (P.info? f.type).map (·.size), cOpdT P f.type x, cFields P fs r with
      | some n, some y, some ys => some ((f.offset, n, y) :: ys)
      | _, _, _ => none
    | none => none
/-- The parts of an array's literal. -/
def cElems (P : Program) (e : TypeId) (sz : Nat) : List (Nat × Operand) → Option (List (Nat × Nat × Opd))
  | [] => some []
  | (i, x) :: r => match cOpdT P e x, cElems P e sz r with
    | some y, some ys => some ((i * sz, sz, y) :: ys)
    | _, _ => none
def cOptOpd : Option Operand → Option (Option Opd)
  | none => some none
  | some x => (cOpd x).map some
def plainEq (P : Program) (t : TypeId) : Bool :=
  match P.underlying t with
  | some (.int _) | some .string => true
  | _ => false
def isNeq : BinOp → Bool
  | .eql => false
  | _ => true
def plainBin : BinOp → Bool
  | .eql | .neq => false
  | _ => true

def sizeT (P : Program) (t : TypeId) : Nat := ((P.info? t).map (·.size)).getD 0
def chainS (P : Program) : Nat → List Field → Option Nat
  | a, [] => some a
  | a, f :: fs => if f.offset = a ∧ f.name ≠ "_" ∧ (P.info? f.type).isSome then chainS P (a + sizeT P f.type) fs else none
/-- The kinds of the cells of a type that is compared cell by cell. -/
def kindsF (K : TypeId → Option (List Kd)) : List Field → Option (List Kd)
  | [] => some []
  | f :: fs => match K f.type, kindsF K fs with
    | some a, some b => some (a ++ b)
    | _, _ => none
def kindsT (P : Program) : Nat → TypeId → Option (List Kd)
  | 0, _ => none
  | n + 1, t => match P.underlying t with
    | some .bool => if sizeT P t = 1 then some [.b] else none
    | some (.int _) => if sizeT P t = 1 then some [.i] else none
    | some .string => if sizeT P t = 1 then some [.s] else none
    | some (.struct fs) => if P.stoodInHeld t = false ∧ chainS P 0 fs.toList = some (sizeT P t) then kindsF (kindsT P n) fs.toList else none
    | _ => none
/-- Is it what an append lays things behind? -/
def usedApp (ops : List Oper) (d : Nat) : Bool :=
  ops.any fun o => match o.op with
    | .call { callee := .builtin .append, args, .. } => match (args[0]? : Option Operand) with
      | some (Operand.tmp t) => t == d
      | _ => false
    | _ => false
def isStr (P : Program) (t : TypeId) : Bool :=
  match P.underlying t with
  | some .string => true
  | _ => false
theorem isStr_spec {P : Program} {t : TypeId} (h : isStr P t = true) : P.underlying t = some .string := by
  unfold isStr at h
  split at h
  · assumption
  · cases h
def takes (P : Program) (R : Bool) (ops : List Oper) (o : Oper) (t : TypeId) (n : Option Nat) : Bool := R && (isSlice P t).isSome && (o.dst.map (usedApp ops)).getD false && n.isNone
def gives (P : Program) (R : Bool) (t : TypeId) (n : Option Nat) : Bool := R && (isSlice P t).isSome && n.isNone

def sameOpd : Operand → Operand → Bool
  | .tmp i, .tmp j => i == j
  | .const (.int k n), .const (.int k' n') => k == k' && n == n'
  | _, _ => false
theorem sameOpd_eq {x y : Operand} (h : sameOpd x y = true) : x = y := by
  unfold sameOpd at h
  split at h
  · simp only [beq_iff_eq] at h; subst h; rfl
  · simp only [Bool.and_eq_true, beq_iff_eq] at h; obtain ⟨rfl, rfl⟩ := h; rfl
  · cases h
/-- What an operation does. R: in its own place in order. -/
def cKind (P : Program) (R : Bool) (ops : List Oper) (o : Oper) : Option AK :=
  match o.op with
  | .move x => cMove P ops o false x
  | .assign x => cMove P ops o true x
  | .alloc t => match zeroOf P t with
    | some z => if (headT z).isNone then some (.newv (tagT t z)) else none
    | none => none
  | .box _ x => (cOpd x).map .box
  | .load t x => match aggN P t, cOpd x with
    | some n, some x => some (if takes P R ops o t n then .ldt x else .ld n x)
    | _, _ => none
  | .store t x v => match aggN P t, cOpd x, cOpdT P t v, o.dst with
    | some n, some X, some V, none => if (P.info? t).map (·.size) = some (n.getD 1) ∧ 0 < n.getD 1 then (match V with
        | .t i => some (if gives P R t n then .stt X i else .sto n X (.t i))
        | V => some (.sto n X V)) else none
    | _, _, _, _ => none
  | .fieldAddr t x f => match P.underlying t, cOpd x with
    | some (.struct fs), some x => match fs[f]? with
      | some fd => match (P.info? fd.type).map (·.size) with
        | some (_ + 1) => some (.fld fd.offset x)
        | _ => none
      | none => none
    | _, _ => none
  | .field t x f => match P.underlying t, cOpd x with
    | some (.struct fs), some x => match fs[f]? with
      | some fd => (aggN P fd.type).map fun n => .fldv fd.offset n x
      | none => none
    | _, _ => none
  | .indexAddr t x i => match isSlice P t, cOpd x, cOpd i with
    | some (_, sz), some x, some i => some (.idx sz x i)
    | none, some x, some i => match P.underlying t with
      | some (.array n e) => if (P.info? e).isSome then some (.aidx n (sizeT P e) x i) else none
      | _ => none
    | _, _, _ => none
  | .index t x i => match P.underlying t, cOpd x, cOpd i with
    | some .string, some x, some i => some (.sidx x i)
    | _, _, _ => none
  | .binOp op t x y _ => if plainBin op || plainEq P t then match cOpd x, cOpd y with
      | some x, some y => some (.bin op x y)
      | _, _ => none
    else match P.underlying t, cOpd x, cOpd y with
      | some .bool, some x, some y => some (.beq (isNeq op) x y)
      | some (.struct _), some x, some y => if P.eqGuardType P.depth t = false then (kindsT P 8 t).map fun ks => .aeq (isNeq op) ks x y else none
      | _, _, _ => none
  | .unOp op _ x => (cOpd x).map (.un op)
  | .convert src dst x => match P.underlying src, P.underlying dst, cOpd x with
    | some (.int _), some (.int k), some x => some (.conv k x)
    | some (.slice e), some .string, some x => match P.underlying e with
      | some (.int .u8) => some (.b2s x)
      | _ => none
    | some .string, some .string, some x => some (.s2s x)
    | _, _, _ => none
  | .slice t x lo hi none => match P.underlying t, cOpd x, cOptOpd lo, cOptOpd hi with
    | some .string, some x, some lo, some hi => some (.slc none x lo hi)
    | some (.slice e), some x, some lo, some hi => (P.info? e).map fun i => .slc (some i.size) x lo hi
    | _, _, _, _ => none
  | .extract x j => (cOpd x).map (.ext j)
  | .nilCheck x => (cOpd x).map .nilc
  | .pick c x y => match cOpd c, cOpd x, cOpd y with
    | some c, some x, some y => some (.pick c x y)
    | _, _, _ => none
  | .build t parts => match P.underlying t, zeroOf P t with
    | some (.struct fs), some z => if fs.toList.all fun f => (P.info? f.type).isSome then (cFields P fs parts.toList).map (.bld (z.map toNil)) else none
    | some (.array _ e), some z => match P.info? e with
      | some i => (cElems P e i.size parts.toList).map (.bld (z.map toNil))
      | none => none
    | _, _ => none
  | .buildSlice t n parts => match isSlice P t, cParts parts.toList 0 with
    | some (e, sz), some ps => if ps.length = n ∧ n * sz ≤ 16777216 ∧ 0 < n * sz ∧ zeroSize P e = some sz then some (.bs e sz ps) else none
    | _, _ => none
  | .call { callee := .value (.func f), args, argTypes } => if ((P.funcs[f]?).map fun fn => fn.body.isSome && !(fn.name == "runtime.NumGoroutine")).getD false then (cArgs P argTypes.toList args.toList).map (if R then .callo f else .call f) else none
  | .call { callee := .builtin .len, args := ⟨[x]⟩, argTypes := ⟨[t]⟩ } => match P.underlying t, cOpd x with
    | some .string, some x => some (.len true x)
    | some (.slice _), some x => some (.len false x)
    | _, _ => none
  | .call { callee := .builtin .append, args := ⟨[.tmp i, x]⟩, argTypes := ⟨[t, t']⟩ } => match isSlice P t, cOpd x with
    | some (e, sz), some x => if t = t' ∧ 0 < sz ∧ zeroSize P e = some sz then (P.info? e).map fun inf => .app e sz inf.bytes i x else if isStr P t' = true ∧ sz = 1 ∧ zeroSize P e = some 1 then (P.info? e).map fun inf => .apps e inf.bytes i x else none
    | _, _ => none
  | .makeSlice t x y => match isSlice P t, cOpd x with
    | some (e, sz), some X => match zeroOf P e, P.info? e with
      | some z, some i => if sameOpd x y = true ∧ z.length = sz ∧ 0 < sz  then (if (headT z).isNone then some (.mk z i.bytes X) else none) else none
      | _, _ => none
    | _, _ => none
  | _ => none
end Go.Proofs.YtedcagoilpaafaaDoor
