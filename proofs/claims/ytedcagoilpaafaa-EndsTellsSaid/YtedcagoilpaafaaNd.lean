/- plain laws: states of ends, in bytes -/
import Derived.Test.YtedcagoilpaafaaNb
import Derived.Test.YtedcagoilpaafaaNc
namespace Go.Proofs.Ytedcagoilpaafaa
set_option linter.all false
structure Es where
  p : List UInt8
  c : Int
  o : Bool
  cl : Bool
  st : Int
abbrev Es.cs (x : Es) : List AV := [.str x.p, .int .i64 x.c, .bool x.o, .bool x.cl, .int .i64 x.st]
noncomputable def Es.may (x : Es) : Bool := mayP x.p x.c && (if x.cl && x.o then decide (1 ≤ x.st) && decide (x.st ≤ 1099511627777) else decide (x.st = 0))
def bitP (b : Bool) : Int := if b then 1 else 0
def Es.enc (x : Es) : List UInt8 := pn (bitP x.cl) ++ pn (bitP x.o) ++ (pn x.p.length ++ x.p) ++ pn x.c ++ pn x.st
noncomputable def encP (x : Es) : List UInt8 × Int := if x.may then (x.enc, 0) else ([], 1)
def Es.zero : Es := ⟨[], 0, false, false, 0⟩
/-- the steps of Decode -/
def dcl (v : List UInt8) := rnum v 0 1 (0, 0)
def dor (v : List UInt8) := rnum v 0 1 (dcl v).2
def dpo (v : List UInt8) := rtext v 12 (dor v).2
def dch (v : List UInt8) := rnum v 0 999 (dpo v).2
def dst (v : List UInt8) := rnum v 0 1099511627777 (dch v).2
def Es.of (v : List UInt8) : Es := ⟨(dpo v).1, (dch v).1, decide ((dor v).1 = 1), decide ((dcl v).1 = 1), (dst v).1⟩
noncomputable def decP (v : List UInt8) : Es × Int :=
  if rend v (dst v).2 ≠ 0 then (Es.zero, rend v (dst v).2) else if (Es.of v).may then (Es.of v, 0) else (Es.zero, 1)
end Go.Proofs.Ytedcagoilpaafaa
