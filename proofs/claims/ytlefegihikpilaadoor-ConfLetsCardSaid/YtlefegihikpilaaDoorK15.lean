import Derived.Test.YtlefegihikpilaaDoorK14
import Derived.Test.YtlefegihikpilaaDoorK13
import Derived.WalkKit
import Derived.Laws.OwnMore
import Derived.Shelf.Strings.FieldsFuncAny
/- chapter 21: configurations: which may be, what a text tells -/
namespace Go.Proofs.YtlefegihikpilaaDoor
set_option linter.all false
open Go.RowKit
set_option maxRecDepth 100000
structure Lim where
  g : Int
  b : Int
  n : Int
  deriving DecidableEq, Inhabited
abbrev Lim.cs (l : Lim) : List AV := [.int .i64 l.g, .int .i64 l.b, .int .i64 l.n]
structure PathC where
  ap : List UInt8
  ac : Int
  bp : List UInt8
  bc : Int
  o : Bool
  deriving DecidableEq, Inhabited
abbrev PathC.cs (p : PathC) : List AV := [.str p.ap, .int .i64 p.ac, .str p.bp, .int .i64 p.bc, .bool p.o]
structure RuleC where
  al : Bool
  pt : List UInt8
  deriving DecidableEq, Inhabited
abbrev RuleC.cs (r : RuleC) : List AV := [.bool r.al, .str r.pt]
structure Conf where
  a : List UInt8
  b : List UInt8
  la : Lim
  lb : Lim
  ps : List PathC
  rs : List RuleC
  iv : Int
  deriving DecidableEq, Inhabited
abbrev pths (l : List PathC) : List (List AV) := l.map fun p => p.cs
abbrev rls (l : List RuleC) : List (List AV) := l.map fun p => p.cs
theorem gdP {l : List PathC} {i : Nat} (h : i < l.length) : (pths l).getD i [] = (l.getD i default).cs := by simp [pths, h]
theorem gdR {l : List RuleC} {i : Nat} (h : i < l.length) : (rls l).getD i [] = (l.getD i default).cs := by simp [rls, h]
def Conf.zero (n : Int) : Conf := ⟨[], [], ⟨0, 0, 0⟩, ⟨0, 0, 0⟩, [], [], n⟩
def limQ (l : Lim) : Prop := (1 ≤ l.g ∧ l.g ≤ 1073741824) ∧ (1 ≤ l.b ∧ l.b ≤ 1073741824) ∧ (1 ≤ l.n ∧ l.n ≤ 1073741824)
instance (l : Lim) : Decidable (limQ l) := by unfold limQ; exact inferInstance
def meets (y x : PathC) : Bool := decide (y.ap = x.ap ∧ y.ac = x.ac) || decide (y.bp = x.bp ∧ y.bc = x.bc)
def apartP (x : PathC) (l : List PathC) : Bool := l.all fun y => !meets y x
abbrev cChain : List UInt8 := [99, 104, 97, 105, 110]
abbrev cGas : List UInt8 := [103, 97, 115]
abbrev cBytes : List UInt8 := [98, 121, 116, 101, 115]
abbrev cCount : List UInt8 := [99, 111, 117, 110, 116]
abbrev cPath : List UInt8 := [112, 97, 116, 104]
abbrev cOrd : List UInt8 := [111, 114, 100, 101, 114, 101, 100]
abbrev cUno : List UInt8 := [117, 110, 111, 114, 100, 101, 114, 101, 100]
abbrev cAllow : List UInt8 := [97, 108, 108, 111, 119]
abbrev cDeny : List UInt8 := [100, 101, 110, 121]
abbrev cIvl : List UInt8 := [105, 110, 116, 101, 114, 118, 97, 108]
structure PS where
  c : Conf
  ha : Bool
  hb : Bool
  hi : Bool
def limW (w : List (List UInt8)) : Lim := ⟨(numP (w.getD 4 [])).1, (numP (w.getD 6 [])).1, (numP (w.getD 8 [])).1⟩
def formC (w : List (List UInt8)) : Prop := w.length = 9 ∧ (w.getD 1 [] = [97] ∨ w.getD 1 [] = [98]) ∧ w.getD 3 [] = cGas ∧ w.getD 5 [] = cBytes ∧ w.getD 7 [] = cCount
instance (w : List (List UInt8)) : Decidable (formC w) := by unfold formC; exact inferInstance
def numsC (w : List (List UInt8)) : Prop := (numP (w.getD 4 [])).2 = 0 ∧ (numP (w.getD 6 [])).2 = 0 ∧ (numP (w.getD 8 [])).2 = 0
instance (w : List (List UInt8)) : Decidable (numsC w) := by unfold numsC; exact inferInstance
def twiceC (x : PS) (w : List (List UInt8)) : Bool :=
  if w.getD 1 [] = [97] then x.ha || (x.hb && decide (x.c.b = w.getD 2 [])) else x.hb || (x.ha && decide (x.c.a = w.getD 2 []))
noncomputable def chainQ (x : PS) (w : List (List UInt8)) : PS × Int :=
  if ¬ formC w then (x, 3) else if ¬ numsC w then (x, 3) else if nameP (w.getD 2 []) = false then (x, 6) else if ¬ limQ (limW w) then (x, 1) else if twiceC x w = true then (x, 8) else
    if w.getD 1 [] = [97] then (⟨⟨w.getD 2 [], x.c.b, limW w, x.c.lb, x.c.ps, x.c.rs, x.c.iv⟩, true, x.hb, x.hi⟩, 0)
    else (⟨⟨x.c.a, w.getD 2 [], x.c.la, limW w, x.c.ps, x.c.rs, x.c.iv⟩, x.ha, true, x.hi⟩, 0)
noncomputable def pthW (w : List (List UInt8)) : PathC := ⟨(parseP (w.getD 1 [])).1, (parseP (w.getD 1 [])).2.1, (parseP (w.getD 2 [])).1, (parseP (w.getD 2 [])).2.1, decide (w.getD 3 [] = cOrd)⟩
noncomputable def pathQ (x : PS) (w : List (List UInt8)) : PS × Int :=
  if ¬ (w.length = 4 ∧ (w.getD 3 [] = cOrd ∨ w.getD 3 [] = cUno)) then (x, 3) else
  if ¬ ((parseP (w.getD 1 [])).2.2 = 0 ∧ (parseP (w.getD 2 [])).2.2 = 0) then (x, 6) else
  if apartP (pthW w) x.c.ps = false then (x, 8) else if x.c.ps.length = 6 then (x, 22) else
  (⟨⟨x.c.a, x.c.b, x.c.la, x.c.lb, x.c.ps ++ [pthW w], x.c.rs, x.c.iv⟩, x.ha, x.hb, x.hi⟩, 0)
noncomputable def ruleQ (x : PS) (w : List (List UInt8)) : PS × Int :=
  if ¬ w.length = 2 then (x, 3) else if mayG (w.getD 1 []) = false then (x, 6) else if x.c.rs.length = 32 then (x, 22) else
  (⟨⟨x.c.a, x.c.b, x.c.la, x.c.lb, x.c.ps, x.c.rs ++ [⟨decide (w.getD 0 [] = cAllow), w.getD 1 []⟩], x.c.iv⟩, x.ha, x.hb, x.hi⟩, 0)
def everyQ (x : PS) (w : List (List UInt8)) : PS × Int :=
  if ¬ w.length = 2 then (x, 3) else if ¬ (numP (w.getD 1 [])).2 = 0 then (x, 3) else
  if ¬ (1 ≤ (numP (w.getD 1 [])).1 ∧ (numP (w.getD 1 [])).1 ≤ 1000000) then (x, 1) else if x.hi = true then (x, 8) else
  (⟨⟨x.c.a, x.c.b, x.c.la, x.c.lb, x.c.ps, x.c.rs, (numP (w.getD 1 [])).1⟩, x.ha, x.hb, true⟩, 0)
noncomputable def lineW (x : PS) (w : List (List UInt8)) : PS × Int :=
  if w.length = 0 then (x, 0) else if w.getD 0 [] = cChain then chainQ x w else if w.getD 0 [] = cPath then pathQ x w else
  if w.getD 0 [] = cAllow ∨ w.getD 0 [] = cDeny then ruleQ x w else if w.getD 0 [] = cIvl then everyQ x w else (x, 3)
noncomputable def lineQ (x : PS) (t : List UInt8) : PS × Int := if 120 < t.length then (x, 4) else lineW x (wordsL t)
noncomputable def goQ : PS → Nat → List (List UInt8) → Conf × Int × Int
  | x, _, [] => if x.ha = true ∧ x.hb = true then (x.c, 0, 0) else (Conf.zero 0, 0, 7)
  | x, i, t :: r => if (lineQ x t).2 = 0 then goQ (lineQ x t).1 (i + 1) r else (Conf.zero 0, (i : Int) + 1, (lineQ x t).2)
def PS.zero : PS := ⟨Conf.zero 1, false, false, false⟩
noncomputable def confP (s : List UInt8) : Conf × Int × Int := goQ PS.zero 0 (spx 10 s)
/-! lines -/
def linesD (s : List UInt8) : List (List UInt8) := if (spx 10 s).getLastD [] = [] then (spx 10 s).dropLast else spx 10 s
theorem linesD_out {s : List UInt8} {out : List (List UInt8)} {t : List UInt8} (h : spx 10 s = out ++ [t]) : linesD s = if t = [] then out else out ++ [t] := by
  unfold linesD
  rw [h]
  simp
theorem lineQ_nil (x : PS) : lineQ x [] = (x, 0) := by
  simp [lineQ, lineW, wordsL, noHash, wgo]
theorem goQ_nil : ∀ (l : List (List UInt8)) (x : PS) (i : Nat), goQ x i (l ++ [[]]) = goQ x i l
  | [], x, i => by simp [goQ, lineQ_nil]
  | t :: l, x, i => by
    rw [List.cons_append, goQ, goQ]
    split
    · exact goQ_nil l _ _
    · rfl
theorem spx_last (z : UInt8) (s : List UInt8) : ∃ out t, spx z s = out ++ [t] := by
  have h := spx_ne z s
  exact ⟨(spx z s).dropLast, (spx z s).getLast h, (List.dropLast_concat_getLast h).symm⟩
theorem confP_lines (s : List UInt8) : confP s = goQ PS.zero 0 (linesD s) := by
  obtain ⟨out, t, h⟩ := spx_last 10 s
  unfold confP
  rw [linesD_out h, h]
  split
  · rename_i e; rw [e, goQ_nil]
  · rfl
/-! what may be -/
noncomputable def pathMay (p : PathC) : Bool := mayP p.ap p.ac && mayP p.bp p.bc
def pathsQ (l : List PathC) : Prop := ∀ i, i < l.length → pathMay (l.getD i default) = true ∧ apartP (l.getD i default) (l.take i) = true
def rulesQ (l : List RuleC) : Prop := ∀ i, i < l.length → mayG (l.getD i default).pt = true
def ivQ (n : Int) : Prop := 1 ≤ n ∧ n ≤ 1000000
def confQ (c : Conf) : Prop := nameP c.a = true ∧ nameP c.b = true ∧ c.a ≠ c.b ∧ limQ c.la ∧ limQ c.lb ∧ ivQ c.iv ∧ c.ps.length ≤ 6 ∧ c.rs.length ≤ 32 ∧ pathsQ c.ps ∧ rulesQ c.rs
open Classical in
noncomputable def confMay (c : Conf) : Bool := decide (confQ c)
theorem confMay_t {c : Conf} (h : confQ c) : confMay c = true := by simp [confMay, h]
theorem confMay_f {c : Conf} (h : ¬ confQ c) : confMay c = false := by simp [confMay, h]
/-! a text that is taken tells what may be -/
structure PSok (x : PS) : Prop where
  a : x.ha = true → nameP x.c.a = true ∧ limQ x.c.la
  b : x.hb = true → nameP x.c.b = true ∧ limQ x.c.lb
  ab : x.ha = true → x.hb = true → x.c.a ≠ x.c.b
  iv : ivQ x.c.iv
  pl : x.c.ps.length ≤ 6
  rl : x.c.rs.length ≤ 32
  ps : pathsQ x.c.ps
  rs : rulesQ x.c.rs
theorem getD_snoc {α : Type} [Inhabited α] (l : List α) (a : α) (i : Nat) : (l ++ [a]).getD i default = if i < l.length then l.getD i default else if i = l.length then a else default := by
  by_cases h : i < l.length
  · rw [if_pos h]; simp [List.getD, List.getElem?_append_left h]
  · rw [if_neg h]
    by_cases e : i = l.length
    · subst e; simp [List.getD]
    · rw [if_neg e, List.getD, List.getElem?_eq_none (by simp; omega)]; rfl
theorem pathsQ_snoc {l : List PathC} {p : PathC} (h : pathsQ l) (h1 : pathMay p = true) (h2 : apartP p l = true) : pathsQ (l ++ [p]) := fun i hi => by
  rw [getD_snoc]
  by_cases e : i < l.length
  · rw [if_pos e, List.take_append_of_le_length (by omega)]; exact h i e
  · have e2 : i = l.length := by simp at hi; omega
    rw [if_neg e, if_pos e2]
    subst e2
    simp [h1, h2]
theorem rulesQ_snoc {l : List RuleC} {p : RuleC} (h : rulesQ l) (h1 : mayG p.pt = true) : rulesQ (l ++ [p]) := fun i hi => by
  rw [getD_snoc]
  by_cases e : i < l.length
  · rw [if_pos e]; exact h i e
  · have e2 : i = l.length := by simp at hi; omega
    rw [if_neg e, if_pos e2]; exact h1
theorem parseP_may {s : List UInt8} (h : (parseP s).2.2 = 0) : mayP (parseP s).1 (parseP s).2.1 = true := by
  unfold parseP at *
  split at h
  · rename_i g
    rw [if_pos g]
    simp only [endP, Bool.and_eq_true] at g
    exact g.2
  · simp at h
theorem ps_zero : PSok PS.zero := ⟨by simp [PS.zero], by simp [PS.zero], by simp [PS.zero], by simp [PS.zero, Conf.zero, ivQ], by simp [PS.zero, Conf.zero], by simp [PS.zero, Conf.zero], by simp [PS.zero, Conf.zero, pathsQ], by simp [PS.zero, Conf.zero, rulesQ]⟩
theorem chainQ_ok {x : PS} {w : List (List UInt8)} (h : PSok x) (he : (chainQ x w).2 = 0) : PSok (chainQ x w).1 := by
  unfold chainQ at *
  split
  · simp_all
  split
  · simp_all
  split
  · simp_all
  split
  · simp_all
  split
  · simp_all
  rename_i h1 h2 h3 h4 h5
  have hn : nameP (w.getD 2 []) = true := by simpa using h3
  have hl : limQ (limW w) := Decidable.not_not.1 h4
  simp only [twiceC, Bool.not_eq_true] at h5
  split
  · rename_i h6
    rw [if_pos h6, Bool.or_eq_false_iff, Bool.and_eq_false_iff] at h5
    refine ⟨fun _ => ⟨hn, hl⟩, h.b, fun _ hb e => ?_, h.iv, h.pl, h.rl, h.ps, h.rs⟩
    rcases h5.2 with g | g
    · rw [show x.hb = true from hb] at g; cases g
    · exact (of_decide_eq_false g) e.symm
  · rename_i h6
    rw [if_neg h6, Bool.or_eq_false_iff, Bool.and_eq_false_iff] at h5
    refine ⟨h.a, fun _ => ⟨hn, hl⟩, fun ha _ e => ?_, h.iv, h.pl, h.rl, h.ps, h.rs⟩
    rcases h5.2 with g | g
    · rw [show x.ha = true from ha] at g; cases g
    · exact (of_decide_eq_false g) e
theorem pathQ_ok {x : PS} {w : List (List UInt8)} (h : PSok x) (he : (pathQ x w).2 = 0) : PSok (pathQ x w).1 := by
  unfold pathQ at *
  split
  · simp_all
  split
  · simp_all
  split
  · simp_all
  split
  · simp_all
  rename_i h1 h2 h3 h4
  have h2' := Decidable.not_not.1 h2
  refine ⟨h.a, h.b, h.ab, h.iv, ?_, h.rl, pathsQ_snoc h.ps ?_ (by simpa using h3), h.rs⟩
  · have := h.pl; simp; omega
  · simp only [pathMay, pthW, parseP_may h2'.1, parseP_may h2'.2, Bool.and_self]
theorem ruleQ_ok {x : PS} {w : List (List UInt8)} (h : PSok x) (he : (ruleQ x w).2 = 0) : PSok (ruleQ x w).1 := by
  unfold ruleQ at *
  split
  · simp_all
  split
  · simp_all
  split
  · simp_all
  rename_i h1 h2 h3
  refine ⟨h.a, h.b, h.ab, h.iv, h.pl, ?_, h.ps, rulesQ_snoc h.rs (by simpa using h2)⟩
  have := h.rl; simp; omega
theorem everyQ_ok {x : PS} {w : List (List UInt8)} (h : PSok x) (he : (everyQ x w).2 = 0) : PSok (everyQ x w).1 := by
  unfold everyQ at *
  split
  · simp_all
  split
  · simp_all
  split
  · simp_all
  split
  · simp_all
  rename_i h1 h2 h3 h4
  have h3' := Decidable.not_not.1 h3
  exact ⟨h.a, h.b, h.ab, h3', h.pl, h.rl, h.ps, h.rs⟩
theorem lineW_ok {x : PS} {w : List (List UInt8)} (h : PSok x) (he : (lineW x w).2 = 0) : PSok (lineW x w).1 := by
  unfold lineW at *
  split
  · exact h
  · rename_i g
    rw [if_neg g] at he
    split
    · rename_i g; rw [if_pos g] at he; exact chainQ_ok h he
    rename_i g
    rw [if_neg g] at he
    split
    · rename_i g; rw [if_pos g] at he; exact pathQ_ok h he
    rename_i g
    rw [if_neg g] at he
    split
    · rename_i g; rw [if_pos g] at he; exact ruleQ_ok h he
    rename_i g
    rw [if_neg g] at he
    split
    · rename_i g; rw [if_pos g] at he; exact everyQ_ok h he
    · exact h
theorem lineQ_ok {x : PS} {t : List UInt8} (h : PSok x) (he : (lineQ x t).2 = 0) : PSok (lineQ x t).1 := by
  unfold lineQ at *
  split
  · exact h
  · rename_i g
    rw [if_neg g] at he
    exact lineW_ok h he
theorem goQ_may : ∀ (l : List (List UInt8)) (x : PS) (i : Nat), PSok x → (goQ x i l).2.2 = 0 → confQ (goQ x i l).1
  | [], x, i, h, he => by
    rw [goQ] at he ⊢
    split
    · rename_i g
      exact ⟨(h.a g.1).1, (h.b g.2).1, h.ab g.1 g.2, (h.a g.1).2, (h.b g.2).2, h.iv, h.pl, h.rl, h.ps, h.rs⟩
    · rename_i g; rw [if_neg g] at he; simp at he
  | t :: l, x, i, h, he => by
    rw [goQ] at he ⊢
    split
    · rename_i g
      rw [if_pos g] at he
      exact goQ_may l _ _ (lineQ_ok h g) he
    · rename_i g; rw [if_neg g] at he; exact absurd he g
theorem confP_may {s : List UInt8} (h : (confP s).2.2 = 0) : confQ (confP s).1 := goQ_may _ _ _ ps_zero h
end Go.Proofs.YtlefegihikpilaaDoor

/- chapter 21: the program's smaller functions; strings.FieldsFunc at blanks -/
namespace Go.Proofs.YtlefegihikpilaaDoor
set_option linter.all false
open Go.RowKit
set_option maxRecDepth 100000
section
open Go.Shelf Go.Lib
theorem blank_at (w : World) : PredAt Tryd.prog 62 #[] encR spB w := fun W r _ => by
  unfold FnGives
  by_cases h1 : r = 32 <;> by_cases h2 : r = 9
  all_goals
    have z1 : (r : Int) = 32 ↔ r = 32 := by omega
    have z2 : (r : Int) = 9 ↔ r = 9 := by omega
    go_enter Tryd.func62, Tryd.ntmps62
    go_wp2
    all_goals first | (exfalso; omega) | (go_ret; exact ⟨by simp [spB, h1, h2, z1, z2], 0, rfl⟩)
end
theorem p_Fields (s : List UInt8) (hs : s.length ≤ 1000000) : CP Tryd.prog 61 [.str s, .fn 62] (.sl none 1 (strs (wgo [] s))) := by
  intro W U us hG hl hu
  have he : us = [.string ⟨s.toArray⟩, .func (.func 62) #[] #[]] := by
    match us, hl with
    | [a, b], _ =>
      have h1 := (hu 0 a _ rfl rfl).str_inv
      have h2 := hu 1 b _ rfl rfl
      rw [h1]
      cases h2
      rfl
  subst he
  refine (Tryd.strings_FieldsFunc_runes 62 #[] (enters_of Tryd.func62 (by kernel_rfl) rfl) spB ⟨s.toArray⟩ W (by rw [sz_str]; omega) (blank_at W).runes).mono ?_
  rintro e W' ⟨A, rfl, hA, hown, hb⟩
  have hp := fields_words s
  have hlen := wgo_len s []
  rw [← hp] at hlen
  rw [← hp]
  generalize Lib.goFieldsP spB ⟨s.toArray⟩ = B at hown hlen
  refine ⟨_, fun k o => if k < W.heap.size then U k o else False, rfl, ?_, trivial, ⟨hb, fun k hk o => by simp [hk]⟩⟩
  have hle : B.length = (strs (B.map (·.data.toList))).length := by simp
  rw [hle]
  refine .sl _ _ none _ A 0 1 (fun i _ => (B.map Value.string).getD i undef) (Nat.le_refl _) ?_ (fun _ => rfl) (fun e he => ?_) (fun i j hi hj => ?_) (fun i e j x he hx => ?_)
  · rw [← hle]; simp only [List.length_map] at hlen; unfold maxLen; omega
  · simp only [List.map_map, List.mem_map, Function.comp] at he
    obtain ⟨a, _, rfl⟩ := he
    rfl
  · have hi' : i < B.length := by simpa using hi
    obtain rfl : j = 0 := by omega
    refine ⟨?_, ?_, by simp; omega⟩
    · have := World.ownsRow.cellAt hown i (by omega)
      have e2 : 0 + i * 1 + 0 = i := by omega
      rw [e2, this]
      simp [hi']
    · simp [hi', Value.oneCell']
  · simp only [List.map_map, List.getElem?_map, Option.map_eq_some_iff, Function.comp] at he
    obtain ⟨a, ha, rfl⟩ := he
    cases j with
    | zero =>
      simp only [List.getElem?_cons_zero, Option.some.injEq] at hx
      subst hx
      have : (B.map Value.string).getD i undef = .string a := by simp [ha]
      show VR _ _ ((B.map Value.string).getD i undef) _
      rw [this]
      exact .str _
    | succ j => simp at hx
theorem p_limited (l : Lim) : CP Tryd.prog 37 [.agg l.cs] (.bool (decide (limQ l))) := by
  refine ok_conf_limited _ _ (by simp) ?_
  obtain ⟨lg, lb, ln⟩ := l
  simp only [c_conf_limited, ↓Ed, Eu, ↓reduceIte, reduceCtorEq, Nat.reduceAdd, Nat.reduceEqDiff, Nat.reduceLT, Nat.reduceLeDiff, Int.reduceToNat, Int.reduceEq, Int.reduceLT, Int.reduceLE, w64, List.length_append, List.length_map, Nat.mul_one, beq_self_eq_true, Lim.cs, PathC.cs, RuleC.cs, gdP, gdR]
  repeat' ((first | refine NewB_intro0 (fun b => ?_) | (refine NewB_intro (fun b hb => ?_); simp only [ln_cons2, ln_nil, and_true] at hb) | (with_reducible apply And.intro; (focus (first | omega | (simp only [Fact, Bool.not_eq_true', Bool.not_eq_false', decide_eq_true_eq, decide_eq_false_iff_not] at *; omega)))) | ((first | refine gW_sp ?_ | refine condW_sp ?_ | refine pickW_sp ?_); (try refine Sp_n ?_); (first | refine Sp_t (by assumption) ?_ | refine Sp_f (by assumption) ?_ | refine Sp_split (fun h => ?_) (fun h => ?_)) <;> (first | have h' := Fact_lt h | have h' := Fact_nlt h | have h' := Fact_le h | have h' := Fact_nle h | skip) <;> (try (exfalso; omega))) | refine TreeW_intro (by rfl) ?_ | refine TreeW_all ?_ | refine upQ_intro ?_ | refine Two_intro ?_ ?_ | (refine leK_lit ?_; (simp [-List.getD_eq_getElem?_getD, LeL, lk, *]; done)) | (refine leK_dd ?_; (simp [-List.getD_eq_getElem?_getD, LeS, LeL, lk, *]; done)) | (simp only [Fact, Bool.not_eq_true', Bool.not_eq_false', decide_eq_true_eq, decide_eq_false_iff_not] at *; refine leK_dd ?_; (simp [-List.getD_eq_getElem?_getD, LeS, LeL, lk, *]; done)) | (show (_ : Nat) ≤ _; omega)) <;> (try simp (disch := omega) only [*, ↓Ed, Eu, ↓reduceIte, reduceCtorEq, Nat.reduceAdd, Nat.reduceEqDiff, Nat.reduceLT, Nat.reduceLeDiff, Int.reduceToNat, Int.reduceEq, Int.reduceLT, Int.reduceLE, w64, List.length_append, List.length_map, Nat.mul_one, beq_self_eq_true, Lim.cs, PathC.cs, RuleC.cs, gdP, gdR]))
  rename Nat => p
  refine wpx_loop (fun k : Nat => ⟨lk [(1, .ptr p 0), (11, .agg [.int .i64 lg, .int .i64 lb, .int .i64 ln]), (12, .int .i64 (k : Int))], lk [(p, [.int .i64 lg, .int .i64 lb, .int .i64 ln])]⟩) (fun k => k ≤ 3 ∧ Fact ((0 < k → 1 ≤ lg ∧ lg ≤ 1073741824) ∧ (1 < k → 1 ≤ lb ∧ lb ≤ 1073741824) ∧ (2 < k → 1 ≤ ln ∧ ln ≤ 1073741824))) (fun k => 3 - k) 0 ⟨by omega, by simp [Fact]⟩ (Le_lit (by simp [LeL, lk])) ?_
  rintro k ⟨h0, h1⟩
  have hk : k = 0 ∨ k = 1 ∨ k = 2 ∨ k = 3 := by omega
  rcases hk with rfl | rfl | rfl | rfl
  all_goals simp (disch := omega) only [↓Ed, Eu, ↓reduceIte, reduceCtorEq, Nat.reduceAdd, Nat.reduceEqDiff, Nat.reduceLT, Nat.reduceLeDiff, Int.reduceToNat, Int.reduceEq, Int.reduceLT, Int.reduceLE, w64, List.length_append, List.length_map, Nat.mul_one, beq_self_eq_true, Lim.cs, PathC.cs, RuleC.cs, gdP, gdR]
  all_goals repeat' ((first | refine NewB_intro0 (fun b => ?_) | (refine NewB_intro (fun b hb => ?_); simp only [ln_cons2, ln_nil, and_true] at hb) | (with_reducible apply And.intro; (focus (first | omega | (simp only [Fact, Bool.not_eq_true', Bool.not_eq_false', decide_eq_true_eq, decide_eq_false_iff_not] at *; omega)))) | ((first | refine gW_sp ?_ | refine condW_sp ?_ | refine pickW_sp ?_); (try refine Sp_n ?_); (first | refine Sp_t (by assumption) ?_ | refine Sp_f (by assumption) ?_ | refine Sp_split (fun h => ?_) (fun h => ?_)) <;> (first | have h' := Fact_lt h | have h' := Fact_nlt h | have h' := Fact_le h | have h' := Fact_nle h | skip) <;> (try (exfalso; omega))) | refine TreeW_intro (by rfl) ?_ | refine TreeW_all ?_ | refine upQ_intro ?_ | refine Two_intro ?_ ?_ | (refine leK_lit ?_; (simp [-List.getD_eq_getElem?_getD, LeL, lk, *]; done)) | (refine leK_dd ?_; (simp [-List.getD_eq_getElem?_getD, LeS, LeL, lk, *]; done)) | (simp only [Fact, Bool.not_eq_true', Bool.not_eq_false', decide_eq_true_eq, decide_eq_false_iff_not] at *; refine leK_dd ?_; (simp [-List.getD_eq_getElem?_getD, LeS, LeL, lk, *]; done)) | (show (_ : Nat) ≤ _; omega)) <;> (try simp (disch := omega) only [*, ↓Ed, Eu, ↓reduceIte, reduceCtorEq, Nat.reduceAdd, Nat.reduceEqDiff, Nat.reduceLT, Nat.reduceLeDiff, Int.reduceToNat, Int.reduceEq, Int.reduceLT, Int.reduceLE, w64, List.length_append, List.length_map, Nat.mul_one, beq_self_eq_true, Lim.cs, PathC.cs, RuleC.cs, gdP, gdR]))
  all_goals simp only [Fact, Bool.not_eq_true', Bool.not_eq_false', decide_eq_true_eq, decide_eq_false_iff_not] at *
  case inl.refine_1.right.refine_2.refine_2 => exact Round_lit 1 ⟨Le_lit (by simp [LeL, lk]), ⟨by omega, by simp, by simp, by simp⟩, by omega⟩
  case inr.inl.refine_1.right.refine_2.refine_2 => exact Round_lit 2 ⟨Le_lit (by simp [LeL, lk]), ⟨by omega, fun _ => h1.1 (by omega), by simp, by simp⟩, by omega⟩
  case inr.inr.inl.refine_1.right.refine_2.refine_2 => exact Round_lit 3 ⟨Le_lit (by simp [LeL, lk]), ⟨by omega, fun _ => h1.1 (by omega), fun _ => h1.2.1 (by omega), by simp⟩, by omega⟩
  all_goals first
    | (symm; rw [decide_eq_false_iff_not]; simp only [limQ]; omega)
    | (symm; rw [decide_eq_true_eq]; simp only [limQ]; omega)
theorem p_mayLimits (l : Lim) : CP Tryd.prog 44 [.agg l.cs] (.bool (decide (limQ l))) := by
  refine ok_ligref20_mayLimits _ _ (by simp) ?_
  obtain ⟨lg, lb, ln⟩ := l
  simp only [c_ligref20_mayLimits, ↓Ed, Eu, ↓reduceIte, reduceCtorEq, Nat.reduceAdd, Nat.reduceEqDiff, Nat.reduceLT, Nat.reduceLeDiff, Int.reduceToNat, Int.reduceEq, Int.reduceLT, Int.reduceLE, w64, List.length_append, List.length_map, Nat.mul_one, beq_self_eq_true, Lim.cs, PathC.cs, RuleC.cs, gdP, gdR]
  repeat' ((first | refine NewB_intro0 (fun b => ?_) | (refine NewB_intro (fun b hb => ?_); simp only [ln_cons2, ln_nil, and_true] at hb) | (with_reducible apply And.intro; (focus (first | omega | (simp only [Fact, Bool.not_eq_true', Bool.not_eq_false', decide_eq_true_eq, decide_eq_false_iff_not] at *; omega)))) | ((first | refine gW_sp ?_ | refine condW_sp ?_ | refine pickW_sp ?_); (try refine Sp_n ?_); (first | refine Sp_t (by assumption) ?_ | refine Sp_f (by assumption) ?_ | refine Sp_split (fun h => ?_) (fun h => ?_)) <;> (first | have h' := Fact_lt h | have h' := Fact_nlt h | have h' := Fact_le h | have h' := Fact_nle h | skip) <;> (try (exfalso; omega))) | refine TreeW_intro (by rfl) ?_ | refine TreeW_all ?_ | refine upQ_intro ?_ | refine Two_intro ?_ ?_ | (refine leK_lit ?_; (simp [-List.getD_eq_getElem?_getD, LeL, lk, *]; done)) | (refine leK_dd ?_; (simp [-List.getD_eq_getElem?_getD, LeS, LeL, lk, *]; done)) | (simp only [Fact, Bool.not_eq_true', Bool.not_eq_false', decide_eq_true_eq, decide_eq_false_iff_not] at *; refine leK_dd ?_; (simp [-List.getD_eq_getElem?_getD, LeS, LeL, lk, *]; done)) | (show (_ : Nat) ≤ _; omega)) <;> (try simp (disch := omega) only [*, ↓Ed, Eu, ↓reduceIte, reduceCtorEq, Nat.reduceAdd, Nat.reduceEqDiff, Nat.reduceLT, Nat.reduceLeDiff, Int.reduceToNat, Int.reduceEq, Int.reduceLT, Int.reduceLE, w64, List.length_append, List.length_map, Nat.mul_one, beq_self_eq_true, Lim.cs, PathC.cs, RuleC.cs, gdP, gdR]))
  all_goals simp only [Fact, Bool.not_eq_true', Bool.not_eq_false', decide_eq_true_eq, decide_eq_false_iff_not] at *
  all_goals first
    | (symm; rw [decide_eq_false_iff_not]; simp only [limQ]; omega)
    | (symm; rw [decide_eq_true_eq]; simp only [limQ]; omega)
    | (rw [decide_eq_decide]; unfold limQ; simp only []; omega)
theorem p_spaced (n : Int) : CP Tryd.prog 38 [.int .i64 n] (.bool (decide (1 ≤ n ∧ n ≤ 1000000))) := by
  refine ok_conf_spaced _ _ (by simp) ?_
  simp only [c_conf_spaced, ↓Ed, Eu, ↓reduceIte, reduceCtorEq, Nat.reduceAdd, Nat.reduceEqDiff, Nat.reduceLT, Nat.reduceLeDiff, Int.reduceToNat, Int.reduceEq, Int.reduceLT, Int.reduceLE, w64, List.length_append, List.length_map, Nat.mul_one, beq_self_eq_true, Lim.cs, PathC.cs, RuleC.cs, gdP, gdR]
  repeat' ((first | refine NewB_intro0 (fun b => ?_) | (refine NewB_intro (fun b hb => ?_); simp only [ln_cons2, ln_nil, and_true] at hb) | (with_reducible apply And.intro; (focus (first | omega | (simp only [Fact, Bool.not_eq_true', Bool.not_eq_false', decide_eq_true_eq, decide_eq_false_iff_not] at *; omega)))) | ((first | refine gW_sp ?_ | refine condW_sp ?_ | refine pickW_sp ?_); (try refine Sp_n ?_); (first | refine Sp_t (by assumption) ?_ | refine Sp_f (by assumption) ?_ | refine Sp_split (fun h => ?_) (fun h => ?_)) <;> (first | have h' := Fact_lt h | have h' := Fact_nlt h | have h' := Fact_le h | have h' := Fact_nle h | skip) <;> (try (exfalso; omega))) | refine TreeW_intro (by rfl) ?_ | refine TreeW_all ?_ | refine upQ_intro ?_ | refine Two_intro ?_ ?_ | (refine leK_lit ?_; (simp [-List.getD_eq_getElem?_getD, LeL, lk, *]; done)) | (refine leK_dd ?_; (simp [-List.getD_eq_getElem?_getD, LeS, LeL, lk, *]; done)) | (simp only [Fact, Bool.not_eq_true', Bool.not_eq_false', decide_eq_true_eq, decide_eq_false_iff_not] at *; refine leK_dd ?_; (simp [-List.getD_eq_getElem?_getD, LeS, LeL, lk, *]; done)) | (show (_ : Nat) ≤ _; omega)) <;> (try simp (disch := omega) only [*, ↓Ed, Eu, ↓reduceIte, reduceCtorEq, Nat.reduceAdd, Nat.reduceEqDiff, Nat.reduceLT, Nat.reduceLeDiff, Int.reduceToNat, Int.reduceEq, Int.reduceLT, Int.reduceLE, w64, List.length_append, List.length_map, Nat.mul_one, beq_self_eq_true, Lim.cs, PathC.cs, RuleC.cs, gdP, gdR]))
  all_goals simp only [Fact, Bool.not_eq_true', Bool.not_eq_false', decide_eq_true_eq, decide_eq_false_iff_not] at *
  all_goals first
    | (symm; rw [decide_eq_false_iff_not]; omega)
    | (symm; rw [decide_eq_true_eq]; omega)
    | (rw [Bool.eq_iff_iff]; simp only [decide_eq_true_eq]; omega)
theorem p_number (s : List UInt8) (hs : s.length ≤ 16000000) : CP Tryd.prog 80 [.str s] (.tup [.int .i64 (numP s).1, .bool (decide ((numP s).2 = 0))]) := by
  refine ok_conf_number _ _ (by simp) ?_
  simp only [c_conf_number, ↓Ed, Eu, ↓reduceIte, reduceCtorEq, Nat.reduceAdd, Nat.reduceEqDiff, Nat.reduceLT, Nat.reduceLeDiff, Int.reduceToNat, Int.reduceEq, Int.reduceLT, Int.reduceLE, w64, List.length_append, List.length_map, Nat.mul_one, beq_self_eq_true, Lim.cs, PathC.cs, RuleC.cs, gdP, gdR]
  repeat' ((first | refine CallO_pure (p_Number _ (by omega)) ?_ | refine NewB_intro0 (fun b => ?_) | (refine NewB_intro (fun b hb => ?_); simp only [ln_cons2, ln_nil, and_true] at hb) | (with_reducible apply And.intro; (focus (first | omega | (simp only [Fact, Bool.not_eq_true', Bool.not_eq_false', decide_eq_true_eq, decide_eq_false_iff_not] at *; omega)))) | ((first | refine gW_sp ?_ | refine condW_sp ?_ | refine pickW_sp ?_); (try refine Sp_n ?_); (first | refine Sp_t (by assumption) ?_ | refine Sp_f (by assumption) ?_ | refine Sp_split (fun h => ?_) (fun h => ?_)) <;> (first | have h' := Fact_lt h | have h' := Fact_nlt h | have h' := Fact_le h | have h' := Fact_nle h | skip) <;> (try (exfalso; omega))) | refine TreeW_intro (by rfl) ?_ | refine TreeW_all ?_ | refine upQ_intro ?_ | refine Two_intro ?_ ?_ | (refine leK_lit ?_; (simp [-List.getD_eq_getElem?_getD, LeL, lk, *]; done)) | (refine leK_dd ?_; (simp [-List.getD_eq_getElem?_getD, LeS, LeL, lk, *]; done)) | (simp only [Fact, Bool.not_eq_true', Bool.not_eq_false', decide_eq_true_eq, decide_eq_false_iff_not] at *; refine leK_dd ?_; (simp [-List.getD_eq_getElem?_getD, LeS, LeL, lk, *]; done)) | (show (_ : Nat) ≤ _; omega)) <;> (try simp (disch := omega) only [*, ↓Ed, Eu, ↓reduceIte, reduceCtorEq, Nat.reduceAdd, Nat.reduceEqDiff, Nat.reduceLT, Nat.reduceLeDiff, Int.reduceToNat, Int.reduceEq, Int.reduceLT, Int.reduceLE, w64, List.length_append, List.length_map, Nat.mul_one, beq_self_eq_true, Lim.cs, PathC.cs, RuleC.cs, gdP, gdR]))
theorem p_words (s : List UInt8) (hs : s.length ≤ 1000000) : CP Tryd.prog 35 [.str s] (.sl none 1 (strs (wordsL s))) := by
  have h1 := p_Cut s [35] hs
  rw [cut_hash] at h1
  have h2 := p_Fields (noHash s) (Nat.le_trans (noHash_len s) hs)
  refine ok_conf_words _ _ (by simp) ?_
  simp only [c_conf_words, ↓Ed, Eu, ↓reduceIte, reduceCtorEq, Nat.reduceAdd, Nat.reduceEqDiff, Nat.reduceLT, Nat.reduceLeDiff, Int.reduceToNat, Int.reduceEq, Int.reduceLT, Int.reduceLE, w64, List.length_append, List.length_map, Nat.mul_one, beq_self_eq_true, Lim.cs, PathC.cs, RuleC.cs, gdP, gdR]
  repeat' ((first | refine CallO_pure (h1) ?_ | refine CallO_pure (h2) ?_ | refine NewB_intro0 (fun b => ?_) | (refine NewB_intro (fun b hb => ?_); simp only [ln_cons2, ln_nil, and_true] at hb) | (with_reducible apply And.intro; (focus (first | omega | (simp only [Fact, Bool.not_eq_true', Bool.not_eq_false', decide_eq_true_eq, decide_eq_false_iff_not] at *; omega)))) | ((first | refine gW_sp ?_ | refine condW_sp ?_ | refine pickW_sp ?_); (try refine Sp_n ?_); (first | refine Sp_t (by assumption) ?_ | refine Sp_f (by assumption) ?_ | refine Sp_split (fun h => ?_) (fun h => ?_)) <;> (first | have h' := Fact_lt h | have h' := Fact_nlt h | have h' := Fact_le h | have h' := Fact_nle h | skip) <;> (try (exfalso; omega))) | refine TreeW_intro (by rfl) ?_ | refine TreeW_all ?_ | refine upQ_intro ?_ | refine Two_intro ?_ ?_ | (refine leK_lit ?_; (simp [-List.getD_eq_getElem?_getD, LeL, lk, *]; done)) | (refine leK_dd ?_; (simp [-List.getD_eq_getElem?_getD, LeS, LeL, lk, *]; done)) | (simp only [Fact, Bool.not_eq_true', Bool.not_eq_false', decide_eq_true_eq, decide_eq_false_iff_not] at *; refine leK_dd ?_; (simp [-List.getD_eq_getElem?_getD, LeS, LeL, lk, *]; done)) | (show (_ : Nat) ≤ _; omega)) <;> (try simp (disch := omega) only [*, ↓Ed, Eu, ↓reduceIte, reduceCtorEq, Nat.reduceAdd, Nat.reduceEqDiff, Nat.reduceLT, Nat.reduceLeDiff, Int.reduceToNat, Int.reduceEq, Int.reduceLT, Int.reduceLE, w64, List.length_append, List.length_map, Nat.mul_one, beq_self_eq_true, Lim.cs, PathC.cs, RuleC.cs, gdP, gdR]))
  rfl
theorem apart_take {x : PathC} {l : List PathC} {k : Nat} (h : k < l.length) : apartP x (l.take (k + 1)) = (apartP x (l.take k) && !meets (l.getD k default) x) := by
  unfold apartP
  rw [List.take_succ_eq_append_getElem h, List.all_append]
  simp [List.getD, List.getElem?_eq_getElem h]
theorem apart_bad {x : PathC} {l : List PathC} {k : Nat} (h : k < l.length) (hm : meets (l.getD k default) x = true) : apartP x l = false := by
  unfold apartP
  rw [List.all_eq_false]
  refine ⟨l.getD k default, ?_, by rw [hm]; decide⟩
  rw [List.getD, List.getElem?_eq_getElem h]; exact List.getElem_mem h
theorem p_apart (x : PathC) (own : Option Nat) (l : List PathC) (hl : l.length ≤ maxLen) : CP Tryd.prog 40 [.agg x.cs, .sl own 5 (pths l)] (.bool (apartP x l)) := by
  have hm : maxLen = 9223372036854775807 := rfl
  refine ok_conf_apart _ _ (by simp) ?_
  obtain ⟨ap, ac, bp, bc, o⟩ := x
  simp only [c_conf_apart, ↓Ed, Eu, ↓reduceIte, reduceCtorEq, Nat.reduceAdd, Nat.reduceEqDiff, Nat.reduceLT, Nat.reduceLeDiff, Int.reduceToNat, Int.reduceEq, Int.reduceLT, Int.reduceLE, w64, List.length_append, List.length_map, Nat.mul_one, beq_self_eq_true, Lim.cs, PathC.cs, RuleC.cs, gdP, gdR]
  repeat' ((first | refine NewB_intro0 (fun b => ?_) | (refine NewB_intro (fun b hb => ?_); simp only [ln_cons2, ln_nil, and_true] at hb) | (with_reducible apply And.intro; (focus (first | omega | (simp only [Fact, Bool.not_eq_true', Bool.not_eq_false', decide_eq_true_eq, decide_eq_false_iff_not] at *; omega)))) | ((first | refine gW_sp ?_ | refine condW_sp ?_ | refine pickW_sp ?_); (try refine Sp_n ?_); (first | refine Sp_t (by assumption) ?_ | refine Sp_f (by assumption) ?_ | refine Sp_split (fun h => ?_) (fun h => ?_)) <;> (first | have h' := Fact_lt h | have h' := Fact_nlt h | have h' := Fact_le h | have h' := Fact_nle h | skip) <;> (try (exfalso; omega))) | refine TreeW_intro (by rfl) ?_ | refine TreeW_all ?_ | refine upQ_intro ?_ | refine Two_intro ?_ ?_ | (refine leK_lit ?_; (simp [-List.getD_eq_getElem?_getD, LeL, lk, *]; done)) | (refine leK_dd ?_; (simp [-List.getD_eq_getElem?_getD, LeS, LeL, lk, *]; done)) | (simp only [Fact, Bool.not_eq_true', Bool.not_eq_false', decide_eq_true_eq, decide_eq_false_iff_not] at *; refine leK_dd ?_; (simp [-List.getD_eq_getElem?_getD, LeS, LeL, lk, *]; done)) | (show (_ : Nat) ≤ _; omega)) <;> (try simp (disch := omega) only [*, ↓Ed, Eu, ↓reduceIte, reduceCtorEq, Nat.reduceAdd, Nat.reduceEqDiff, Nat.reduceLT, Nat.reduceLeDiff, Int.reduceToNat, Int.reduceEq, Int.reduceLT, Int.reduceLE, w64, List.length_append, List.length_map, Nat.mul_one, beq_self_eq_true, Lim.cs, PathC.cs, RuleC.cs, gdP, gdR]))
  rename Nat => p
  refine wpx_loop (fun k : Nat => ⟨lk [(2, .ptr p 0), (7, .sl none 5 (pths l)), (8, .int .i64 l.length), (9, .int .i64 (k : Int))], lk [(p, [.str ap, .int .i64 ac, .str bp, .int .i64 bc, .bool o])]⟩) (fun k => k ≤ l.length ∧ Fact (apartP ⟨ap, ac, bp, bc, o⟩ (l.take k) = true)) (fun k => l.length - k) 0 ⟨by omega, by simp [Fact, apartP]⟩ (Le_lit (by simp [LeL, lk])) ?_
  rintro k ⟨h0, h1⟩
  simp (disch := omega) only [↓Ed, Eu, ↓reduceIte, reduceCtorEq, Nat.reduceAdd, Nat.reduceEqDiff, Nat.reduceLT, Nat.reduceLeDiff, Int.reduceToNat, Int.reduceEq, Int.reduceLT, Int.reduceLE, w64, List.length_append, List.length_map, Nat.mul_one, beq_self_eq_true, Lim.cs, PathC.cs, RuleC.cs, gdP, gdR]
  repeat' ((first | refine NewB_intro0 (fun b => ?_) | (refine NewB_intro (fun b hb => ?_); simp only [ln_cons2, ln_nil, and_true] at hb) | (with_reducible apply And.intro; (focus (first | omega | (simp only [Fact, Bool.not_eq_true', Bool.not_eq_false', decide_eq_true_eq, decide_eq_false_iff_not] at *; omega)))) | ((first | refine gW_sp ?_ | refine condW_sp ?_ | refine pickW_sp ?_); (try refine Sp_n ?_); (first | refine Sp_t (by assumption) ?_ | refine Sp_f (by assumption) ?_ | refine Sp_split (fun h => ?_) (fun h => ?_)) <;> (first | have h' := Fact_lt h | have h' := Fact_nlt h | have h' := Fact_le h | have h' := Fact_nle h | skip) <;> (try (exfalso; omega))) | refine TreeW_intro (by rfl) ?_ | refine TreeW_all ?_ | refine upQ_intro ?_ | refine Two_intro ?_ ?_ | (refine leK_lit ?_; (simp [-List.getD_eq_getElem?_getD, LeL, lk, *]; done)) | (refine leK_dd ?_; (simp [-List.getD_eq_getElem?_getD, LeS, LeL, lk, *]; done)) | (simp only [Fact, Bool.not_eq_true', Bool.not_eq_false', decide_eq_true_eq, decide_eq_false_iff_not] at *; refine leK_dd ?_; (simp [-List.getD_eq_getElem?_getD, LeS, LeL, lk, *]; done)) | (show (_ : Nat) ≤ _; omega)) <;> (try simp (disch := omega) only [*, ↓Ed, Eu, ↓reduceIte, reduceCtorEq, Nat.reduceAdd, Nat.reduceEqDiff, Nat.reduceLT, Nat.reduceLeDiff, Int.reduceToNat, Int.reduceEq, Int.reduceLT, Int.reduceLE, w64, List.length_append, List.length_map, Nat.mul_one, beq_self_eq_true, Lim.cs, PathC.cs, RuleC.cs, gdP, gdR]))
  · simp only [Fact, Bool.not_eq_true', Bool.not_eq_false', decide_eq_true_eq, decide_eq_false_iff_not, Bool.and_eq_true] at *
    exact (apart_bad (k := k) (by omega) (by simp only [meets, h, and_self, decide_true, Bool.true_or])).symm
  · simp only [Fact, Bool.not_eq_true', Bool.not_eq_false', decide_eq_true_eq, decide_eq_false_iff_not, Bool.and_eq_true] at *
    exact (apart_bad (k := k) (by omega) (by simp only [meets, h, and_self, decide_true, Bool.or_true])).symm
  · rename_i _ h3
    have h4 := h
    simp only [Fact, Bool.not_eq_true', Bool.not_eq_false', decide_eq_true_eq, decide_eq_false_iff_not, Bool.and_eq_false_iff] at h3 h4
    refine Round_lit (k + 1) ⟨Le_lit (by simp [LeL, lk]), ⟨by omega, ?_⟩, by omega⟩
    simp only [Fact] at h1 ⊢
    rw [apart_take (by omega), h1]
    simp only [meets, Bool.true_and, Bool.not_eq_true', Bool.or_eq_false_iff, decide_eq_false_iff_not]
    exact ⟨fun g => h3.elim (fun q => q g.1) (fun q => q g.2), fun g => h4.elim (fun q => q g.1) (fun q => q g.2)⟩
  · simp only [Fact] at h1
    rw [List.take_of_length_le (by omega)] at h1
    exact h1.symm
end Go.Proofs.YtlefegihikpilaaDoor

/- chapter 21: the program's parser: rule, every -/
namespace Go.Proofs.YtlefegihikpilaaDoor
set_option linter.all false
open Go.RowKit
set_option maxRecDepth 100000
theorem gdS {l : List (List UInt8)} {i : Nat} (h : i < l.length) : (strs l).getD i [] = [.str (l.getD i [])] := by simp [strs, h]
def pcell : List PathC → AV
  | [] => .nils 58 5
  | p :: l => .sl (some 58) 5 (pths (p :: l))
def rcell : List RuleC → AV
  | [] => .nils 81 2
  | p :: l => .sl (some 81) 2 (rls (p :: l))
abbrev cfC (c : Conf) : List AV := [.str c.a, .str c.b, .int .i64 c.la.g, .int .i64 c.la.b, .int .i64 c.la.n, .int .i64 c.lb.g, .int .i64 c.lb.b, .int .i64 c.lb.n, pcell c.ps, rcell c.rs, .int .i64 c.iv]
abbrev psC (x : PS) : List AV := [.str x.c.a, .str x.c.b, .int .i64 x.c.la.g, .int .i64 x.c.la.b, .int .i64 x.c.la.n, .int .i64 x.c.lb.g, .int .i64 x.c.lb.b, .int .i64 x.c.lb.n, pcell x.c.ps, rcell x.c.rs, .int .i64 x.c.iv, .bool x.ha, .bool x.hb, .bool x.hi]
theorem rc_nil : rcell [] = .nils 81 2 := rfl
theorem rc_cons (p : RuleC) (l : List RuleC) : rcell (p :: l) = .sl (some 81) 2 (rls (p :: l)) := rfl
theorem pc_nil : pcell [] = .nils 58 5 := rfl
theorem pc_cons (p : PathC) (l : List PathC) : pcell (p :: l) = .sl (some 58) 5 (pths (p :: l)) := rfl
theorem al_pc (l : List PathC) : AV.alias (pcell l) = .sl none 5 (pths l) := by cases l <;> rfl
theorem al_rc (l : List RuleC) : AV.alias (rcell l) = .sl none 2 (rls l) := by cases l <;> rfl
/-- the cells of a result -/
def pst : List PathC → AV
  | [] => .nils 58 5
  | p :: l => .sl none 5 (pths (p :: l))
def rst : List RuleC → AV
  | [] => .nils 81 2
  | p :: l => .sl none 2 (rls (p :: l))
theorem so_pc (l : List PathC) : AV.store (pcell l) = pst l := by cases l <;> rfl
theorem so_rc (l : List RuleC) : AV.store (rcell l) = rst l := by cases l <;> rfl
theorem al_pst (l : List PathC) : AV.alias (pst l) = .sl none 5 (pths l) := by cases l <;> rfl
theorem al_rst (l : List RuleC) : AV.alias (rst l) = .sl none 2 (rls l) := by cases l <;> rfl
theorem so_pst (l : List PathC) : AV.store (pst l) = pst l := by cases l <;> rfl
theorem so_rst (l : List RuleC) : AV.store (rst l) = rst l := by cases l <;> rfl
abbrev cfS (c : Conf) : List AV := [.str c.a, .str c.b, .int .i64 c.la.g, .int .i64 c.la.b, .int .i64 c.la.n, .int .i64 c.lb.g, .int .i64 c.lb.b, .int .i64 c.lb.n, pst c.ps, rst c.rs, .int .i64 c.iv]
set_option maxHeartbeats 4000000 in
theorem p_rule (b : Nat) (x : PS) (w : List (List UInt8)) (hw : ∀ i, (w.getD i []).length ≤ 1000) (hl : w.length ≤ 1000) (hr : x.c.rs.length ≤ 32) :
    CT Tryd.prog 58 [.ptr b 0, .sl none 1 (strs w)] (lk [(b, psC x)]) (fun r o => r = .int .i64 (ruleQ x w).2 ∧ o = lk [(b, psC (ruleQ x w).1)]) := by
  have hm : maxLen = 9223372036854775807 := rfl
  have hw1 := hw 1
  refine okt_conf_parser_rule _ _ _ (by simp) ?_
  unfold ruleQ
  by_cases h1 : w.length = 2
  rotate_left
  · rw [if_pos h1]
    have f1 : Fact (decide ((w.length : Int) = 2) = false) := by simp only [Fact, Bool.not_eq_true', Bool.not_eq_false', decide_eq_true_eq, decide_eq_false_iff_not]; omega
    clear h1
    simp only [c_conf_parser_rule, ↓Ed, Eu, ↓reduceIte, reduceCtorEq, Nat.reduceAdd, Nat.reduceEqDiff, Nat.reduceLT, Nat.reduceLeDiff, Int.reduceToNat, Int.reduceEq, Int.reduceLT, Int.reduceLE, gdS, rc_nil, rc_cons, pc_nil, pc_cons, psC, w64, List.length_append, List.length_map, Nat.mul_one, beq_self_eq_true, Lim.cs, PathC.cs, RuleC.cs, gdP, gdR]
    repeat' ((first | refine NewB_intro0 (fun b => ?_) | (refine NewB_intro (fun b hb => ?_); simp only [ln_cons2, ln_nil, and_true] at hb) | (with_reducible apply And.intro; (focus (first | omega | (simp only [Fact, Bool.not_eq_true', Bool.not_eq_false', decide_eq_true_eq, decide_eq_false_iff_not] at *; omega)))) | ((first | refine gW_sp ?_ | refine condW_sp ?_ | refine pickW_sp ?_); (try refine Sp_n ?_); (first | refine Sp_t (by assumption) ?_ | refine Sp_f (by assumption) ?_ | refine Sp_split (fun h => ?_) (fun h => ?_)) <;> (first | have h' := Fact_lt h | have h' := Fact_nlt h | have h' := Fact_le h | have h' := Fact_nle h | skip) <;> (try (exfalso; omega))) | refine TreeW_intro (by rfl) ?_ | refine TreeW_all ?_ | refine upQ_intro ?_ | refine Two_intro ?_ ?_ | (refine leK_lit ?_; (simp [-List.getD_eq_getElem?_getD, LeL, lk, *]; done)) | (refine leK_dd ?_; (simp [-List.getD_eq_getElem?_getD, LeS, LeL, lk, *]; done)) | (simp only [Fact, Bool.not_eq_true', Bool.not_eq_false', decide_eq_true_eq, decide_eq_false_iff_not] at *; refine leK_dd ?_; (simp [-List.getD_eq_getElem?_getD, LeS, LeL, lk, *]; done)) | (show (_ : Nat) ≤ _; omega)) <;> (try simp (disch := omega) only [*, ↓Ed, Eu, ↓reduceIte, reduceCtorEq, Nat.reduceAdd, Nat.reduceEqDiff, Nat.reduceLT, Nat.reduceLeDiff, Int.reduceToNat, Int.reduceEq, Int.reduceLT, Int.reduceLE, gdS, rc_nil, rc_cons, pc_nil, pc_cons, psC, w64, List.length_append, List.length_map, Nat.mul_one, beq_self_eq_true, Lim.cs, PathC.cs, RuleC.cs, gdP, gdR]))
    exact ro_mk (by simp [LeL, lk, resR, arR]) dom1
  have f1 : Fact (decide ((w.length : Int) = 2) = true) := by simp only [Fact, Bool.not_eq_true', Bool.not_eq_false', decide_eq_true_eq, decide_eq_false_iff_not]; omega
  have g1 : 2 ≤ w.length := by omega
  rw [if_neg (by omega)]
  clear h1
  have h2 := p_gMay (w.getD 1 []) (by omega)
  cases h3 : mayG (w.getD 1 []) with
  | false =>
    rw [h3] at h2
    rw [if_pos rfl]
    clear h3
    simp only [c_conf_parser_rule, ↓Ed, Eu, ↓reduceIte, reduceCtorEq, Nat.reduceAdd, Nat.reduceEqDiff, Nat.reduceLT, Nat.reduceLeDiff, Int.reduceToNat, Int.reduceEq, Int.reduceLT, Int.reduceLE, gdS, rc_nil, rc_cons, pc_nil, pc_cons, psC, w64, List.length_append, List.length_map, Nat.mul_one, beq_self_eq_true, Lim.cs, PathC.cs, RuleC.cs, gdP, gdR]
    repeat' ((first | refine CallO_pure (h2) ?_ | refine NewB_intro0 (fun b => ?_) | (refine NewB_intro (fun b hb => ?_); simp only [ln_cons2, ln_nil, and_true] at hb) | (with_reducible apply And.intro; (focus (first | omega | (simp only [Fact, Bool.not_eq_true', Bool.not_eq_false', decide_eq_true_eq, decide_eq_false_iff_not] at *; omega)))) | ((first | refine gW_sp ?_ | refine condW_sp ?_ | refine pickW_sp ?_); (try refine Sp_n ?_); (first | refine Sp_t (by assumption) ?_ | refine Sp_f (by assumption) ?_ | refine Sp_split (fun h => ?_) (fun h => ?_)) <;> (first | have h' := Fact_lt h | have h' := Fact_nlt h | have h' := Fact_le h | have h' := Fact_nle h | skip) <;> (try (exfalso; omega))) | refine TreeW_intro (by rfl) ?_ | refine TreeW_all ?_ | refine upQ_intro ?_ | refine Two_intro ?_ ?_ | (refine leK_lit ?_; (simp [-List.getD_eq_getElem?_getD, LeL, lk, *]; done)) | (refine leK_dd ?_; (simp [-List.getD_eq_getElem?_getD, LeS, LeL, lk, *]; done)) | (simp only [Fact, Bool.not_eq_true', Bool.not_eq_false', decide_eq_true_eq, decide_eq_false_iff_not] at *; refine leK_dd ?_; (simp [-List.getD_eq_getElem?_getD, LeS, LeL, lk, *]; done)) | (show (_ : Nat) ≤ _; omega)) <;> (try simp (disch := omega) only [*, ↓Ed, Eu, ↓reduceIte, reduceCtorEq, Nat.reduceAdd, Nat.reduceEqDiff, Nat.reduceLT, Nat.reduceLeDiff, Int.reduceToNat, Int.reduceEq, Int.reduceLT, Int.reduceLE, gdS, rc_nil, rc_cons, pc_nil, pc_cons, psC, w64, List.length_append, List.length_map, Nat.mul_one, beq_self_eq_true, Lim.cs, PathC.cs, RuleC.cs, gdP, gdR]))
    exact ro_mk (by simp [LeL, lk, resR, arR]) dom1
  | true =>
  rw [h3] at h2
  rw [if_neg (by decide)]
  clear h3
  obtain ⟨⟨ca, cb, cla, clb, cps, crs, civ⟩, xa, xb, xi⟩ := x
  simp only at hr ⊢
  cases crs with
  | nil =>
    rw [if_neg (by simp)]
    have f2 : Fact (decide (((0 : Nat) : Int) = 32) = false) := by simp [Fact]
    simp only [c_conf_parser_rule, ↓Ed, Eu, ↓reduceIte, reduceCtorEq, Nat.reduceAdd, Nat.reduceEqDiff, Nat.reduceLT, Nat.reduceLeDiff, Int.reduceToNat, Int.reduceEq, Int.reduceLT, Int.reduceLE, gdS, rc_nil, rc_cons, pc_nil, pc_cons, psC, w64, List.length_append, List.length_map, Nat.mul_one, beq_self_eq_true, Lim.cs, PathC.cs, RuleC.cs, gdP, gdR]
    repeat' ((first | refine CallO_pure (h2) ?_ | refine CallW_intro (p_Clone _ (by omega)) ?_ | refine NewB_intro0 (fun b => ?_) | (refine NewB_intro (fun b hb => ?_); simp only [ln_cons2, ln_nil, and_true] at hb) | (with_reducible apply And.intro; (focus (first | omega | (simp only [Fact, Bool.not_eq_true', Bool.not_eq_false', decide_eq_true_eq, decide_eq_false_iff_not] at *; omega)))) | ((first | refine gW_sp ?_ | refine condW_sp ?_ | refine pickW_sp ?_); (try refine Sp_n ?_); (first | refine Sp_t (by assumption) ?_ | refine Sp_f (by assumption) ?_ | refine Sp_split (fun h => ?_) (fun h => ?_)) <;> (first | have h' := Fact_lt h | have h' := Fact_nlt h | have h' := Fact_le h | have h' := Fact_nle h | skip) <;> (try (exfalso; omega))) | refine TreeW_intro (by rfl) ?_ | refine TreeW_all ?_ | refine upQ_intro ?_ | refine Two_intro ?_ ?_ | (refine leK_lit ?_; (simp [-List.getD_eq_getElem?_getD, LeL, lk, *]; done)) | (refine leK_dd ?_; (simp [-List.getD_eq_getElem?_getD, LeS, LeL, lk, *]; done)) | (simp only [Fact, Bool.not_eq_true', Bool.not_eq_false', decide_eq_true_eq, decide_eq_false_iff_not] at *; refine leK_dd ?_; (simp [-List.getD_eq_getElem?_getD, LeS, LeL, lk, *]; done)) | (show (_ : Nat) ≤ _; omega)) <;> (try simp (disch := omega) only [*, ↓Ed, Eu, ↓reduceIte, reduceCtorEq, Nat.reduceAdd, Nat.reduceEqDiff, Nat.reduceLT, Nat.reduceLeDiff, Int.reduceToNat, Int.reduceEq, Int.reduceLT, Int.reduceLE, gdS, rc_nil, rc_cons, pc_nil, pc_cons, psC, w64, List.length_append, List.length_map, Nat.mul_one, beq_self_eq_true, Lim.cs, PathC.cs, RuleC.cs, gdP, gdR]))
    all_goals exact ro_mk (by simp [LeL, lk, resR, arR, rc_cons, rls]) dom1
  | cons r0 rs =>
    have hr2 : rs.length ≤ 31 := by simpa using hr
    by_cases h4 : (r0 :: rs).length = 32
    · rw [if_pos h4]
      have f2 : Fact (decide (((rs.length + 1 : Nat) : Int) = 32) = true) := by simp only [Fact, Bool.not_eq_true', Bool.not_eq_false', decide_eq_true_eq, decide_eq_false_iff_not]; simp only [List.length_cons] at h4; omega
      clear h4
      simp only [c_conf_parser_rule, ↓Ed, Eu, ↓reduceIte, reduceCtorEq, Nat.reduceAdd, Nat.reduceEqDiff, Nat.reduceLT, Nat.reduceLeDiff, Int.reduceToNat, Int.reduceEq, Int.reduceLT, Int.reduceLE, gdS, rc_nil, rc_cons, pc_nil, pc_cons, psC, w64, List.length_append, List.length_map, Nat.mul_one, beq_self_eq_true, Lim.cs, PathC.cs, RuleC.cs, gdP, gdR]
      repeat' ((first | refine CallO_pure (h2) ?_ | refine CallW_intro (p_Clone _ (by omega)) ?_ | refine NewB_intro0 (fun b => ?_) | (refine NewB_intro (fun b hb => ?_); simp only [ln_cons2, ln_nil, and_true] at hb) | (with_reducible apply And.intro; (focus (first | omega | (simp only [Fact, Bool.not_eq_true', Bool.not_eq_false', decide_eq_true_eq, decide_eq_false_iff_not] at *; omega)))) | ((first | refine gW_sp ?_ | refine condW_sp ?_ | refine pickW_sp ?_); (try refine Sp_n ?_); (first | refine Sp_t (by assumption) ?_ | refine Sp_f (by assumption) ?_ | refine Sp_split (fun h => ?_) (fun h => ?_)) <;> (first | have h' := Fact_lt h | have h' := Fact_nlt h | have h' := Fact_le h | have h' := Fact_nle h | skip) <;> (try (exfalso; omega))) | refine TreeW_intro (by rfl) ?_ | refine TreeW_all ?_ | refine upQ_intro ?_ | refine Two_intro ?_ ?_ | (refine leK_lit ?_; (simp [-List.getD_eq_getElem?_getD, LeL, lk, *]; done)) | (refine leK_dd ?_; (simp [-List.getD_eq_getElem?_getD, LeS, LeL, lk, *]; done)) | (simp only [Fact, Bool.not_eq_true', Bool.not_eq_false', decide_eq_true_eq, decide_eq_false_iff_not] at *; refine leK_dd ?_; (simp [-List.getD_eq_getElem?_getD, LeS, LeL, lk, *]; done)) | (show (_ : Nat) ≤ _; omega)) <;> (try simp (disch := omega) only [*, ↓Ed, Eu, ↓reduceIte, reduceCtorEq, Nat.reduceAdd, Nat.reduceEqDiff, Nat.reduceLT, Nat.reduceLeDiff, Int.reduceToNat, Int.reduceEq, Int.reduceLT, Int.reduceLE, gdS, rc_nil, rc_cons, pc_nil, pc_cons, psC, w64, List.length_append, List.length_map, Nat.mul_one, beq_self_eq_true, Lim.cs, PathC.cs, RuleC.cs, gdP, gdR]))
      all_goals exact ro_mk (by simp [LeL, lk, resR, arR, rc_cons, rls]) dom1
    · rw [if_neg h4]
      have f2 : Fact (decide (((rs.length + 1 : Nat) : Int) = 32) = false) := by simp only [Fact, Bool.not_eq_true', Bool.not_eq_false', decide_eq_true_eq, decide_eq_false_iff_not]; simp only [List.length_cons] at h4; omega
      clear h4
      simp only [c_conf_parser_rule, ↓Ed, Eu, ↓reduceIte, reduceCtorEq, Nat.reduceAdd, Nat.reduceEqDiff, Nat.reduceLT, Nat.reduceLeDiff, Int.reduceToNat, Int.reduceEq, Int.reduceLT, Int.reduceLE, gdS, rc_nil, rc_cons, pc_nil, pc_cons, psC, w64, List.length_append, List.length_map, Nat.mul_one, beq_self_eq_true, Lim.cs, PathC.cs, RuleC.cs, gdP, gdR]
      repeat' ((first | refine CallO_pure (h2) ?_ | refine CallW_intro (p_Clone _ (by omega)) ?_ | refine NewB_intro0 (fun b => ?_) | (refine NewB_intro (fun b hb => ?_); simp only [ln_cons2, ln_nil, and_true] at hb) | (with_reducible apply And.intro; (focus (first | omega | (simp only [Fact, Bool.not_eq_true', Bool.not_eq_false', decide_eq_true_eq, decide_eq_false_iff_not] at *; omega)))) | ((first | refine gW_sp ?_ | refine condW_sp ?_ | refine pickW_sp ?_); (try refine Sp_n ?_); (first | refine Sp_t (by assumption) ?_ | refine Sp_f (by assumption) ?_ | refine Sp_split (fun h => ?_) (fun h => ?_)) <;> (first | have h' := Fact_lt h | have h' := Fact_nlt h | have h' := Fact_le h | have h' := Fact_nle h | skip) <;> (try (exfalso; omega))) | refine TreeW_intro (by rfl) ?_ | refine TreeW_all ?_ | refine upQ_intro ?_ | refine Two_intro ?_ ?_ | (refine leK_lit ?_; (simp [-List.getD_eq_getElem?_getD, LeL, lk, *]; done)) | (refine leK_dd ?_; (simp [-List.getD_eq_getElem?_getD, LeS, LeL, lk, *]; done)) | (simp only [Fact, Bool.not_eq_true', Bool.not_eq_false', decide_eq_true_eq, decide_eq_false_iff_not] at *; refine leK_dd ?_; (simp [-List.getD_eq_getElem?_getD, LeS, LeL, lk, *]; done)) | (show (_ : Nat) ≤ _; omega)) <;> (try simp (disch := omega) only [*, ↓Ed, Eu, ↓reduceIte, reduceCtorEq, Nat.reduceAdd, Nat.reduceEqDiff, Nat.reduceLT, Nat.reduceLeDiff, Int.reduceToNat, Int.reduceEq, Int.reduceLT, Int.reduceLE, gdS, rc_nil, rc_cons, pc_nil, pc_cons, psC, w64, List.length_append, List.length_map, Nat.mul_one, beq_self_eq_true, Lim.cs, PathC.cs, RuleC.cs, gdP, gdR]))
      all_goals exact ro_mk (by simp [LeL, lk, resR, arR, rc_cons, rls]) dom1
end Go.Proofs.YtlefegihikpilaaDoor
