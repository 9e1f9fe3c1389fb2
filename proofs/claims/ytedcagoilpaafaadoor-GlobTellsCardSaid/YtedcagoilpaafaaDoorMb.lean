/- The abstract machine, part 2: states, operations, what an operation gives. -/
import Derived.Test.YtedcagoilpaafaaDoorMaa
namespace Go.Proofs.YtedcagoilpaafaaDoor
set_option linter.all false
open Go.RowKit

/-- An operand. -/
inductive Opd where
  | t (i : Nat)
  | c (v : AV)
  deriving Inhabited
def Opd.ev (s : St) : Opd → Option AV
  | .t i => s.t i
  | .c v => some v
def Opd.slots : Opd → List Nat
  | .t i => [i]
  | .c _ => []
theorem Opd.ev_congr {s s' : St} {x : Opd} (h : ∀ i ∈ x.slots, s.t i = s'.t i) : x.ev s = x.ev s' := by
  cases x with
  | t i => exact h i (by simp [Opd.slots])
  | c v => rfl

/-- What an operation does. -/
inductive AK where
  | mv (x : Opd)
  | nil (e sz : Nat)
  | tk (i : Nat)
  | newv (cells : List AV)
  | box (x : Opd)
  | ld (n : Option Nat) (x : Opd)
  | sto (n : Option Nat) (x v : Opd)
  | fld (off : Nat) (x : Opd)
  | idx (size : Nat) (x i : Opd)
  | aidx (n size : Nat) (x i : Opd)
  | bin (op : BinOp) (x y : Opd)
  | un (op : UnOp) (x : Opd)
  | len (str : Bool) (x : Opd)
  | app (e size bytes : Nat) (i : Nat) (x : Opd)
  | bs (e size : Nat) (parts : List Opd)
  | bld (zero : List AV) (parts : List (Nat × Nat × Opd))
  | fldv (off : Nat) (n : Option Nat) (x : Opd)
  | call (f : Nat) (args : List Opd)
  | ext (j : Nat) (x : Opd)
  | nilc (x : Opd)
  | pick (c a b : Opd)
  | slc (size : Option Nat) (x : Opd) (lo hi : Option Opd)
  | conv (k : IntKind) (x : Opd)
  | b2s (x : Opd)
  | sidx (x i : Opd)
  | beq (neg : Bool) (x y : Opd)
  | s2s (x : Opd)
  | aeq (neg : Bool) (ks : List Kd) (x y : Opd)
  | apps (e bytes : Nat) (i : Nat) (x : Opd)
  | callo (f : Nat) (args : List Opd)
  | ldt (x : Opd)
  | stt (x : Opd) (i : Nat)
  | mk (z : List AV) (bytes : Nat) (x : Opd)
  deriving Inhabited

structure AOp where
  g : Option (Nat × Bool)
  d : Option Nat
  k : AK
  deriving Inhabited

/-- Binary operations on values. -/
def binR : BinOp → AV → AV → AV → Prop
  | .add, .int k a, .int k' b, r => k = k' ∧ r = .int k (k.wrap (a + b))
  | .sub, .int k a, .int k' b, r => k = k' ∧ r = .int k (k.wrap (a - b))
  | .mul, .int k a, .int k' b, r => k = k' ∧ r = .int k (k.wrap (a * b))
  | .quo, .int k a, .int k' b, r => k = k' ∧ b ≠ 0 ∧ r = .int k (k.wrap (a.tdiv b))
  | .rem, .int k a, .int k' b, r => k = k' ∧ b ≠ 0 ∧ r = .int k (a.tmod b)
  | .eql, .int k a, .int k' b, r => k = k' ∧ r = .bool (decide (a = b))
  | .neq, .int k a, .int k' b, r => k = k' ∧ r = .bool (!decide (a = b))
  | .lss, .int k a, .int k' b, r => k = k' ∧ r = .bool (decide (a < b))
  | .leq, .int k a, .int k' b, r => k = k' ∧ r = .bool (decide (a ≤ b))
  | .gtr, .int k a, .int k' b, r => k = k' ∧ r = .bool (decide (b < a))
  | .geq, .int k a, .int k' b, r => k = k' ∧ r = .bool (decide (b ≤ a))
  | .add, .str a, .str b, r => a.length + b.length ≤ 9223372036854775807 ∧ r = .str (a ++ b)
  | .eql, .str a, .str b, r => r = .bool (decide (a = b))
  | .neq, .str a, .str b, r => r = .bool (!decide (a = b))
  | .lss, .str a, .str b, r => r = .bool (Op.bytesLess a b)
  | .or, .int k a, .int k' b, r => k = k' ∧ r = .int k (k.wrap ((BitVec.ofInt k.bits a ||| BitVec.ofInt k.bits b).toNat))
  | .and, .int k a, .int k' b, r => k = k' ∧ r = .int k (k.wrap ((BitVec.ofInt k.bits a &&& BitVec.ofInt k.bits b).toNat))
  | .xor, .int k a, .int k' b, r => k = k' ∧ r = .int k (k.wrap ((BitVec.ofInt k.bits a ^^^ BitVec.ofInt k.bits b).toNat))
  | .andNot, .int k a, .int k' b, r => k = k' ∧ r = .int k (k.wrap ((BitVec.ofInt k.bits a &&& ~~~BitVec.ofInt k.bits b).toNat))
  | .shl, .int k a, .int _ b, r => 0 ≤ b ∧ r = .int k (k.wrap (a * 2 ^ (min b.toNat k.bits)))
  | .shr, .int k a, .int _ b, r => 0 ≤ b ∧ r = .int k (a.fdiv (2 ^ (min b.toNat k.bits)))
  | _, _, _, _ => False

def unR : UnOp → AV → AV → Prop
  | .not, .bool b, r => r = .bool (!b)
  | .neg, .int k n, r => r = .int k (k.wrap (0 - n))
  | _, _, _ => False

/-- The cells that a pointer sees. -/
def view (o : Nat → Option (List AV)) : AV → Option (List AV)
  | .ro cs => some cs
  | .ptr b off => (o b).map (·.drop off)
  | _ => none
/-- What a load of n cells (none: of a single one) gives. -/
def ldR : Option Nat → List AV → AV → Prop
  | none, c :: _, r => r = c.alias
  | some n, cs, r => n ≤ cs.length ∧ r = .agg (cs.take n)
  | _, _, _ => False
def fldR (off : Nat) : AV → AV → Prop
  | .ro cs, r => r = .ro (cs.drop off)
  | .ptr b o, r => r = .ptr b (o + off)
  | _, _ => False
def lenR : Bool → AV → AV → Prop
  | true, .str l, r => r = .int .i64 l.length
  | false, .sl _ _ els, r => r = .int .i64 els.length
  | false, .osl _ _ n, r => r = .int .i64 n
  | _, _, _ => False
/-- An element's place: within the bounds, and what it sees. -/
def idxR (size : Nat) : AV → AV → AV → Prop
  | .sl _ sz els, .int _ n, r => sz = size ∧ (0 ≤ n ∧ n < els.length) ∧ r = .ro (els.getD n.toNat [])
  | .osl b off len, .int _ n, r => (0 ≤ n ∧ n < len) ∧ r = .ptr b (off + n.toNat * size)
  | _, _, _ => False
def AV.cells : AV → List AV
  | .agg cs => cs.map AV.store
  | .tup _ => []
  | .undef => []
  | a => [a.alias]

/-- The operands' values, in order. -/
def evs (s : St) : List Opd → Option (List AV)
  | [] => some []
  | x :: r => match x.ev s, evs s r with
    | some v, some vs => some (v :: vs)
    | _, _ => none
def splice (cs : List AV) : Nat → List AV → List AV
  | 0, [] => cs
  | 0, v :: vs => match cs with
    | [] => []
    | _ :: r => v :: splice r 0 vs
  | n + 1, vs => match cs with
    | [] => []
    | c :: r => c :: splice r n vs
def fillR : List AV → List (Nat × Nat × AV) → List AV → Prop
  | cs, [], r => r = cs
  | cs, (off, n, v) :: rest, r => (v.cells.length = n ∧ 0 < n ∧ off + n ≤ cs.length) ∧ fillR (splice cs off v.cells) rest r
def evp (s : St) : List (Nat × Nat × Opd) → Option (List (Nat × Nat × AV))
  | [] => some []
  | (a, b, x) :: r => match x.ev s, evp s r with
    | some v, some vs => some ((a, b, v) :: vs)
    | _, _ => none
/-- The bytes of a slice's elements. -/
def byteOf? : List AV → Option UInt8
  | [.int .u8 n] => some (UInt8.ofNat n.toNat)
  | _ => none
def byteEl (b : UInt8) : List AV := [.int .u8 (b.toNat : Int)]
/-- A bound of a slice expression. -/
def boundR (s : St) (dflt : Nat) : Option Opd → Nat → Prop
  | none, r => r = dflt
  | some x, r => ∃ k n, x.ev s = some (.int k n) ∧ 0 ≤ n ∧ r = n.toNat

/-- What an operation may give in a state. -/
def opR (P : Program) (s : St) : AK → AV → Prop
  | .mv x, r => ∃ v, x.ev s = some v ∧ r = v.alias
  | .nil e sz, r => r = .sl (some e) sz []
  | .tk i, r => s.t i = some r
  | .ld n x, r => ∃ p cs, x.ev s = some p ∧ view s.o p = some cs ∧ ldR n cs r
  | .sto n x v, r => ∃ b off a cs, x.ev s = some (.ptr b off) ∧ v.ev s = some a ∧ s.o b = some cs ∧ a.cells.length = n.getD 1 ∧ off + a.cells.length ≤ cs.length ∧ r = .undef
  | .fld off x, r => ∃ p, x.ev s = some p ∧ fldR off p r
  | .idx size x i, r => ∃ p q, x.ev s = some p ∧ i.ev s = some q ∧ idxR size p q r
  | .aidx n size x i, r => ∃ p k m, x.ev s = some p ∧ i.ev s = some (.int k m) ∧ (0 ≤ m ∧ m < (n : Int)) ∧ fldR (m.toNat * size) p r
  | .bin op x y, r => ∃ a b, x.ev s = some a ∧ y.ev s = some b ∧ binR op a b r
  | .un op x, r => ∃ a, x.ev s = some a ∧ unR op a r
  | .len b x, r => ∃ a, x.ev s = some a ∧ lenR b a r
  | .app e size bytes i x, r => ∃ els own news, s.t i = some (.sl (some e) size els) ∧ x.ev s = some (.sl own size news) ∧ (els.length + news.length) * bytes ≤ 140737488355328 ∧
      els.length + news.length ≤ maxLen ∧ r = .sl (some e) size (els ++ news)
  | .bs e size parts, r => ∃ vs, evs s parts = some vs ∧ (∀ v ∈ vs, v.cells.length = size) ∧ r = .sl (some e) size (vs.map AV.cells)
  | .bld zero parts, r => ∃ vs cs, evp s parts = some vs ∧ fillR zero vs cs ∧ r = .agg cs
  | .fldv off n x, r => ∃ cs, x.ev s = some (.agg cs) ∧ off < cs.length ∧ ldR n (cs.drop off) r
  | .call f args, r => ∃ vs, evs s args = some vs ∧ CP P f (vs.map AV.alias) r
  | .ext j x, r => ∃ cs c, x.ev s = some (.tup cs) ∧ cs[j]? = some c ∧ r = c.alias
  | .nilc x, r => (∃ cs, x.ev s = some (.ro cs) ∧ r = .ro cs) ∨ (∃ b off, x.ev s = some (.ptr b off) ∧ r = .ptr b off)
  | .pick c a b, r => ∃ cv av bv, c.ev s = some (.bool cv) ∧ a.ev s = some av ∧ b.ev s = some bv ∧ r = (if cv then av.alias else bv.alias)
  | .slc none x lo hi, r => ∃ l a b, x.ev s = some (.str l) ∧ boundR s 0 lo a ∧ boundR s l.length hi b ∧ (a ≤ b ∧ b ≤ l.length) ∧ r = .str ((l.take b).drop a)
  | .slc (some size) x lo hi, r => ∃ own l a b, x.ev s = some (.sl own size l) ∧ boundR s 0 lo a ∧ boundR s l.length hi b ∧ (a ≤ b ∧ b ≤ l.length) ∧ r = .sl none size ((l.take b).drop a)
  | .conv k x, r => ∃ k' n, x.ev s = some (.int k' n) ∧ r = .int k (k.wrap n)
  | .b2s x, r => ∃ own l, x.ev s = some (.sl own 1 (l.map byteEl)) ∧ r = .str l
  | .sidx x i, r => ∃ l k n, x.ev s = some (.str l) ∧ i.ev s = some (.int k n) ∧ (0 ≤ n ∧ n < l.length) ∧ r = .int .u8 ((l.getD n.toNat 0).toNat : Int)
  | .beq neg x y, r => ∃ a b, x.ev s = some (.bool a) ∧ y.ev s = some (.bool b) ∧ r = .bool (if neg then !decide (a = b) else decide (a = b))
  | .s2s x, r => ∃ l, x.ev s = some (.str l) ∧ r = .str l
  | .newv _, _ => False
  | .box _, _ => False
  | .aeq neg ks x y, r => ∃ cs ds b, x.ev s = some (.agg cs) ∧ y.ev s = some (.agg ds) ∧ eqC ks cs ds = some b ∧ r = .bool (if neg then !b else b)
  | .apps e bytes i x, r => ∃ els l, s.t i = some (.sl (some e) 1 els) ∧ x.ev s = some (.str l) ∧ (els.length + l.length) * bytes ≤ 140737488355328 ∧ els.length + l.length ≤ maxLen ∧ r = .sl (some e) 1 (els ++ l.map byteEl)
  | .callo _ _, _ => False
  | .ldt _, _ => False
  | .stt _ _, _ => False
  | .mk _ _ _, _ => False

/-- The state behind it. -/
def eff (d : Option Nat) (k : AK) (r : AV) (s : St) : St :=
  match k with
  | .tk i => match r with
    | .sl (some _) sz els => St.put { s with t := upd s.t i (some (.sl none sz els)) } d r
    | _ => s.put d r.alias
  | .app _ _ _ i _ => St.put { s with t := upd s.t i none } d r
  | .apps _ _ i _ => St.put { s with t := upd s.t i none } d r
  | .sto _ x v => match x.ev s, v.ev s with
    | some (.ptr b off), some a => { s with o := upd s.o b ((s.o b).map (splice · off a.cells)) }
    | _, _ => s
  | _ => s.put d r

def newW (s : St) (d : Option Nat) (cells : List AV) (K : St → Prop) : Prop := ∀ b, s.o b = none → K (St.put { s with o := upd s.o b (some cells) } d (.ptr b 0))
/-- A new row of so many elements. -/
def mkW (s : St) (d : Option Nat) (z : List AV) (bytes : Nat) : AV → (St → Prop) → Prop
  | .int _ m, K => (0 ≤ m ∧ m ≤ 140737488355328 ∧ m * bytes ≤ 140737488355328) ∧ ∀ b, s.o b = none → K (St.put { s with o := upd s.o b (some (List.replicate m.toNat z).flatten) } d (.osl b 0 m.toNat))
  | _, _ => False
/-- A call that may be handed objects. -/
def CallO (P : Program) (f : Nat) (vs : List AV) (d : Option Nat) (s : St) (K : St → Prop) : Prop :=
  ∃ (o1 : Nat → Option (List AV)) (Q : AV → (Nat → Option (List AV)) → Prop), (∀ b cs, o1 b = some cs → s.o b = some cs) ∧ CT P f vs o1 Q ∧
    ∀ r o2, Q r o2 → (∀ b cs, o2 b = some cs → o1 b = none → s.o b = none) → K (St.put ⟨s.t, fun b => (o2 b).or (s.o b)⟩ d r)
/-- A load that takes the row's right along. -/
def ldE (s : St) (d : Option Nat) (b off : Nat) (cs : List AV) : AV → St
  | .sl (some e) sz els => St.put { s with o := upd s.o b (some (splice cs off [.sl none sz els])) } d (.sl (some e) sz els)
  | .nils e sz => s.put d (.sl (some e) sz [])
  | c => s.put d c.alias
def ldtW (s : St) (d : Option Nat) : AV → (St → Prop) → Prop
  | .ptr b off, K => ∃ cs, s.o b = some cs ∧ ∃ c, cs[off]? = some c ∧ K (ldE s d b off cs c)
  | .ro (c :: _), K => K (s.put d c.alias)
  | _, _ => False
/-- A store that hands the row's right over. -/
def stE (s : St) (i b off : Nat) (cs : List AV) : AV → St
  | .sl (some e) sz els => ⟨upd s.t i (some (.sl none sz els)), upd s.o b (some (splice cs off [.sl (some e) sz els]))⟩
  | v => { s with o := upd s.o b (some (splice cs off v.cells)) }
def sttW (s : St) (i : Nat) : AV → AV → (St → Prop) → Prop
  | .ptr b off, v, K => ∃ cs, s.o b = some cs ∧ (off < cs.length ∧ v.cells.length = 1) ∧ K (stE s i b off cs v)
  | _, _, _ => False
def kW (P : Program) (d : Option Nat) (k : AK) (s : St) (K : St → Prop) : Prop :=
  match k with
  | .newv cells => newW s d cells K
  | .box x => ∃ v, x.ev s = some v ∧ 0 < v.cells.length ∧ newW s d v.cells K
  | .callo f vs => ∃ ws, evs s vs = some ws ∧ CallO P f (ws.map AV.alias) d s K
  | .ldt x => ∃ p, x.ev s = some p ∧ ldtW s d p K
  | .mk z bytes x => ∃ p, x.ev s = some p ∧ mkW s d z bytes p K
  | .stt x i => ∃ p, x.ev s = some p ∧ ∃ v, s.t i = some v ∧ sttW s i p v K
  | k => ∃ r, opR P s k r ∧ K (eff d k r s)
def opW (P : Program) (o : AOp) (s : St) (K : St → Prop) : Prop :=
  match o.g with
  | none => kW P o.d o.k s K
  | some (j, want) => match s.t j with
    | some (.bool b) => (b = want → kW P o.d o.k s K) ∧ (b = !want → K (s.put o.d .undef))
    | some .undef => K (s.put o.d .undef)
    | _ => False
def opsW (P : Program) : List AOp → St → (St → Prop) → Prop
  | [], s, K => K s
  | o :: r, s, K => opW P o s fun s' => opsW P r s' K

inductive AExit where
  | normal | exit (id : Nat) | ret
inductive ACode where
  | skip
  | reg (ops : List AOp) (draw : Bool)
  | seq (a b : ACode)
  | cond (c : Opd) (t e : ACode)
  | block (id : Nat) (b : ACode)
  | loop (b : ACode)
  | exit (id : Nat)
  | ret
  deriving Inhabited
/-- s has all that s' has. -/
def Le (s' s : St) : Prop := (∀ i v, s'.t i = some v → s.t i = some v) ∧ (∀ b cs, s'.o b = some cs → s.o b = some cs)
def thenQ (K : St → Prop) (Q : AExit → St → Prop) : AExit → St → Prop
  | .normal, s => K s
  | e, s => Q e s
def blockQ (id : Nat) (Q : AExit → St → Prop) : AExit → St → Prop
  | .exit i, s => if i = id then Q .normal s else Q (.exit i) s
  | e, s => Q e s
def wpx (P : Program) : ACode → (AExit → St → Prop) → St → Prop
  | .skip, Q, s => Q .normal s
  | .reg ops _, Q, s => opsW P ops s (Q .normal)
  | .seq a b, Q, s => wpx P a (thenQ (wpx P b Q) Q) s
  | .cond c t e, Q, s => ∃ b, c.ev s = some (.bool b) ∧ (b = true → wpx P t Q s) ∧ (b = false → wpx P e Q s)
  | .block id b, Q, s => wpx P b (blockQ id Q) s
  | .loop b, Q, s => ∃ (α : Type) (inv : α → St) (phi : α → Prop) (m : α → Nat), (∃ x0, Le (inv x0) s ∧ phi x0) ∧ ∀ x, phi x → wpx P b (thenQ (fun s1 => ∃ x', Le (inv x') s1 ∧ phi x' ∧ m x' < m x) Q) (inv x)
  | .exit id, Q, s => Q (.exit id) s
  | .ret, Q, s => Q .ret s
end Go.Proofs.YtedcagoilpaafaaDoor
