/- The abstract machine, part 10b: what an operation gives in a state, it gives in every state that has more. -/
import Derived.Test.YtedcagoilpaafaaDoorMj
namespace Go.Proofs.YtedcagoilpaafaaDoor
set_option linter.all false
open Go.RowKit

theorem le_refl (s : St) : Le s s := ⟨fun _ _ h => h, fun _ _ h => h⟩
theorem le_trans {a b c : St} (h : Le a b) (g : Le b c) : Le a c := ⟨fun i v e => g.1 i v (h.1 i v e), fun i v e => g.2 i v (h.2 i v e)⟩
section
variable {P : Program} {s s' : St} (h : Le s s')
include h
theorem ev_le {x : Opd} {v : AV} (e : x.ev s = some v) : x.ev s' = some v := by
  cases x with
  | t i => exact h.1 i v e
  | c w => exact e
theorem evs_le : ∀ {l : List Opd} {vs : List AV}, evs s l = some vs → evs s' l = some vs
  | [], _, e => e
  | x :: r, vs, e => by
    unfold evs at e ⊢
    split at e
    · rename_i v ws h1 h2
      rw [ev_le h h1, evs_le h2]; exact e
    · cases e
theorem evp_le : ∀ {l : List (Nat × Nat × Opd)} {vs : List (Nat × Nat × AV)}, evp s l = some vs → evp s' l = some vs
  | [], _, e => e
  | (a, b, x) :: r, vs, e => by
    unfold evp at e ⊢
    split at e
    · rename_i v ws h1 h2
      rw [ev_le h h1, evp_le h2]; exact e
    · cases e
theorem view_le {p : AV} {cs : List AV} (e : view s.o p = some cs) : view s'.o p = some cs := by
  cases p <;> first | exact e | skip
  rename_i b off
  simp only [view, Option.map_eq_some_iff] at e ⊢
  obtain ⟨l, h1, h2⟩ := e
  exact ⟨l, h.2 b l h1, h2⟩
theorem boundR_le {d : Nat} {x : Option Opd} {r : Nat} (e : boundR s d x r) : boundR s' d x r := by
  cases x with
  | none => exact e
  | some x => obtain ⟨k, n, h1, h2⟩ := e; exact ⟨k, n, ev_le h h1, h2⟩
theorem put_le {d : Option Nat} {v : AV} : Le (s.put d v) (s'.put d v) := by
  cases d with
  | none => exact h
  | some d =>
    refine ⟨fun i w e => ?_, h.2⟩
    simp only [St.put, upd] at e ⊢
    split
    · rename_i hi; rw [if_pos hi] at e; exact e
    · rename_i hi; rw [if_neg hi] at e; exact h.1 i w e
theorem updt_le {i : Nat} {v : Option AV} : Le { s with t := upd s.t i v } { s' with t := upd s'.t i v } := by
  refine ⟨fun j w e => ?_, h.2⟩
  simp only [upd] at e ⊢
  split
  · rename_i hi; rw [if_pos hi] at e; exact e
  · rename_i hi; rw [if_neg hi] at e; exact h.1 j w e
theorem updo_le {i : Nat} {v : Option (List AV)} : Le { s with o := upd s.o i v } { s' with o := upd s'.o i v } := by
  refine ⟨h.1, fun j w e => ?_⟩
  simp only [upd] at e ⊢
  split
  · rename_i hi; rw [if_pos hi] at e; exact e
  · rename_i hi; rw [if_neg hi] at e; exact h.2 j w e
theorem opR_le {k : AK} {r : AV} (e : opR P s k r) : opR P s' k r := by
  cases k with
  | mv x => obtain ⟨v, h1, h2⟩ := e; exact ⟨v, ev_le h h1, h2⟩
  | nil _ _ => exact e
  | tk i => exact h.1 i r e
  | newv _ => exact e
  | box _ => exact e
  | callo _ _ => exact e
  | ldt _ => exact e
  | stt _ _ => exact e
  | mk _ _ _ => exact e
  | ld n x => obtain ⟨p, cs, h1, h2, h3⟩ := e; exact ⟨p, cs, ev_le h h1, view_le h h2, h3⟩
  | sto n x v => obtain ⟨b, off, a, cs, h1, h2, h3, h4⟩ := e; exact ⟨b, off, a, cs, ev_le h h1, ev_le h h2, h.2 _ _ h3, h4⟩
  | fld off x => obtain ⟨p, h1, h2⟩ := e; exact ⟨p, ev_le h h1, h2⟩
  | idx size x i => obtain ⟨p, q, h1, h2, h3⟩ := e; exact ⟨p, q, ev_le h h1, ev_le h h2, h3⟩
  | bin op x y => obtain ⟨a, b, h1, h2, h3⟩ := e; exact ⟨a, b, ev_le h h1, ev_le h h2, h3⟩
  | aidx n size x i => obtain ⟨p, k, m, h1, h2, h3⟩ := e; exact ⟨p, k, m, ev_le h h1, ev_le h h2, h3⟩
  | un op x => obtain ⟨a, h1, h2⟩ := e; exact ⟨a, ev_le h h1, h2⟩
  | len b x => obtain ⟨a, h1, h2⟩ := e; exact ⟨a, ev_le h h1, h2⟩
  | app e' size bytes i x => obtain ⟨els, own, news, h1, h2, h3⟩ := e; exact ⟨els, own, news, h.1 _ _ h1, ev_le h h2, h3⟩
  | apps e' bytes i x => obtain ⟨els, l, h1, h2, h3⟩ := e; exact ⟨els, l, h.1 _ _ h1, ev_le h h2, h3⟩
  | bs e' size ps => obtain ⟨vs, h1, h2⟩ := e; exact ⟨vs, evs_le h h1, h2⟩
  | bld z ps => obtain ⟨vs, cs, h1, h2⟩ := e; exact ⟨vs, cs, evp_le h h1, h2⟩
  | fldv off n x => obtain ⟨cs, h1, h2⟩ := e; exact ⟨cs, ev_le h h1, h2⟩
  | call f as' => obtain ⟨vs, h1, h2⟩ := e; exact ⟨vs, evs_le h h1, h2⟩
  | ext j x => obtain ⟨cs, c, h1, h2⟩ := e; exact ⟨cs, c, ev_le h h1, h2⟩
  | nilc x =>
    rcases e with ⟨cs, h1, h2⟩ | ⟨b, off, h1, h2⟩
    · exact .inl ⟨cs, ev_le h h1, h2⟩
    · exact .inr ⟨b, off, ev_le h h1, h2⟩
  | pick c a b => obtain ⟨cv, av, bv, h1, h2, h3, h4⟩ := e; exact ⟨cv, av, bv, ev_le h h1, ev_le h h2, ev_le h h3, h4⟩
  | slc size x lo hi =>
    cases size with
    | none => obtain ⟨l, a, b, h1, h2, h3, h4⟩ := e; exact ⟨l, a, b, ev_le h h1, boundR_le h h2, boundR_le h h3, h4⟩
    | some size => obtain ⟨own, l, a, b, h1, h2, h3, h4⟩ := e; exact ⟨own, l, a, b, ev_le h h1, boundR_le h h2, boundR_le h h3, h4⟩
  | conv k x => obtain ⟨k', n, h1, h2⟩ := e; exact ⟨k', n, ev_le h h1, h2⟩
  | b2s x => obtain ⟨own, l, h1, h2⟩ := e; exact ⟨own, l, ev_le h h1, h2⟩
  | sidx x i => obtain ⟨l, k, n, h1, h2, h3⟩ := e; exact ⟨l, k, n, ev_le h h1, ev_le h h2, h3⟩
  | beq neg x y => obtain ⟨a, b, h1, h2, h3⟩ := e; exact ⟨a, b, ev_le h h1, ev_le h h2, h3⟩
  | aeq neg ks x y => obtain ⟨a, b, c, h1, h2, h3⟩ := e; exact ⟨a, b, c, ev_le h h1, ev_le h h2, h3⟩
  | s2s x => obtain ⟨l, h1, h2⟩ := e; exact ⟨l, ev_le h h1, h2⟩
end
end Go.Proofs.YtedcagoilpaafaaDoor
