import Derived.Test.YtlefegihikpilaaDoorK11
import Derived.Lib.Join
import Derived.Test.YtlefegihikpilaaDoorK8
import Derived.Lib.SplitLaws
import Derived.Lib.IndexMore
import Derived.WalkSmall
/- plain laws: acts and their lines -/
namespace Go.Proofs.YtlefegihikpilaaDoor
set_option linter.all false
open Go
set_option maxRecDepth 100000
/-! pieces between single signs -/
def spx (z : UInt8) : List UInt8 → List (List UInt8)
  | [] => [[]]
  | c :: t => if c = z then [] :: spx z t else match spx z t with | [] => [[c]] | x :: xs => (c :: x) :: xs
theorem spx_none {z : UInt8} : ∀ {a : List UInt8}, z ∉ a → spx z a = [a]
  | [], _ => rfl
  | c :: t, h => by
    simp only [List.mem_cons, not_or] at h
    rw [spx, if_neg (fun e => h.1 e.symm), spx_none h.2]
theorem spx_cut {z : UInt8} : ∀ {a x : List UInt8}, z ∉ a → spx z (a ++ z :: x) = a :: spx z x
  | [], x, _ => by simp [spx]
  | c :: t, x, h => by
    simp only [List.mem_cons, not_or] at h
    rw [List.cons_append, spx, if_neg (fun e => h.1 e.symm), spx_cut h.2]
theorem spx_ne (z : UInt8) (s : List UInt8) : spx z s ≠ [] := by
  cases s with
  | nil => simp [spx]
  | cons c t =>
    rw [spx]
    split
    · simp
    · split <;> simp
theorem spx_join {z : UInt8} : ∀ {l : List (List UInt8)}, l ≠ [] → (∀ a ∈ l, z ∉ a) → spx z (Lib.join l [z]) = l
  | [], h, _ => absurd rfl h
  | [a], _, h => by rw [Lib.join_one, spx_none (h a (by simp))]
  | a :: b :: r, _, h => by
    have e : Lib.join (a :: b :: r) [z] = a ++ z :: Lib.join (b :: r) [z] := by
      rw [Lib.join_cons, Lib.join_cons]
      simp [Lib.joinTail]
    rw [e, spx_cut (h a (by simp)), spx_join (by simp) (fun x hx => h x (by simp [hx]))]
theorem join_no {z : UInt8} {y : UInt8} (hz : y ≠ z) : ∀ {l : List (List UInt8)}, (∀ a ∈ l, y ∉ a) → y ∉ Lib.join l [z]
  | [], _ => by simp [Lib.join_nil]
  | [a], h => by rw [Lib.join_one]; exact h a (by simp)
  | a :: b :: r, h => by
    have e : Lib.join (a :: b :: r) [z] = a ++ z :: Lib.join (b :: r) [z] := by
      rw [Lib.join_cons, Lib.join_cons]
      simp [Lib.joinTail]
    rw [e]
    simp only [List.mem_append, List.mem_cons, not_or]
    exact ⟨h a (by simp), hz, join_no hz (fun x hx => h x (by simp [hx]))⟩
/-! digits to sixteen -/
def hexd (n : Nat) : UInt8 := if n < 10 then UInt8.ofNat (48 + n) else UInt8.ofNat (87 + n)
abbrev dgs : List UInt8 := [48, 49, 50, 51, 52, 53, 54, 55, 56, 57, 97, 98, 99, 100, 101, 102]
def hxb (c : UInt8) : List UInt8 := [hexd (c.toNat / 16), hexd (c.toNat % 16)]
def hexL (d : List UInt8) : List UInt8 := d.flatMap hxb
def hexA (d : List UInt8) : List UInt8 := if d = [] then [45] else hexL d
def hv (c : UInt8) : Int := Lib.indexByte dgs c
theorem hv_hexd : ∀ n : Fin 16, hv (hexd n.val) = n.val := by decide
theorem hexd_hv : ∀ n : Fin 256, 0 ≤ hv (UInt8.ofNat n.val) → hexd (hv (UInt8.ofNat n.val)).toNat = UInt8.ofNat n.val ∧ hv (UInt8.ofNat n.val) < 16 := by decide
theorem u8_ofNat_toNat (c : UInt8) : UInt8.ofNat c.toNat = c := by simp
theorem hexd_hv' {c : UInt8} (h : 0 ≤ hv c) : hexd (hv c).toNat = c ∧ hv c < 16 := by
  have := hexd_hv ⟨c.toNat, c.toNat_lt⟩
  simp only [u8_ofNat_toNat] at this
  exact this h
theorem hexd_rng : ∀ n : Fin 16, hexd n.val ≠ 32 ∧ hexd n.val ≠ 10 ∧ hexd n.val ≠ 45 := by decide
def unh : List UInt8 → Option (List UInt8)
  | a :: b :: r => if 0 ≤ hv a ∧ 0 ≤ hv b then (unh r).map (UInt8.ofNat (16 * (hv a).toNat + (hv b).toNat) :: ·) else none
  | [_] => some []
  | [] => some []
theorem unh_hexL : ∀ d : List UInt8, unh (hexL d) = some d
  | [] => rfl
  | c :: d => by
    have h1 : c.toNat / 16 < 16 := by have := c.toNat_lt; omega
    have h2 : c.toNat % 16 < 16 := by omega
    have e1 := hv_hexd ⟨_, h1⟩
    have e2 := hv_hexd ⟨_, h2⟩
    simp only at e1 e2
    have : hexL (c :: d) = hexd (c.toNat / 16) :: hexd (c.toNat % 16) :: hexL d := by simp [hexL, hxb]
    rw [this, unh, e1, e2, if_pos (by omega), unh_hexL d]
    simp only [Option.map_some, Int.toNat_natCast]
    rw [show 16 * (c.toNat / 16) + c.toNat % 16 = c.toNat by omega, u8_ofNat_toNat]
theorem hexL_len (d : List UInt8) : (hexL d).length = 2 * d.length := by
  induction d with
  | nil => rfl
  | cons c d ih => simp only [hexL, List.flatMap_cons, List.length_append] at ih ⊢; rw [ih]; simp [hxb]; omega
theorem hexL_no {y : UInt8} (hy : y = 32 ∨ y = 10 ∨ y = 45) (d : List UInt8) : y ∉ hexL d := by
  intro h
  simp only [hexL, List.mem_flatMap, hxb, List.mem_cons, List.not_mem_nil, or_false] at h
  obtain ⟨c, _, h⟩ := h
  have h1 := hexd_rng ⟨c.toNat / 16, by have := c.toNat_lt; omega⟩
  have h2 := hexd_rng ⟨c.toNat % 16, by omega⟩
  simp only at h1 h2
  rcases h with h | h <;> rcases hy with hy | hy | hy <;> subst hy <;> simp [← h] at h1 h2
def unhexA (s : List UInt8) : List UInt8 := if s = [45] then [] else (unh s).getD []
theorem unhex_hex (d : List UInt8) : unhexA (hexA d) = d := by
  unfold unhexA hexA
  by_cases h : d = []
  · simp [h]
  · rw [if_neg h, if_neg, unh_hexL]; rfl
    intro e
    have := congrArg List.length e
    rw [hexL_len] at this
    simp at this
    omega
theorem hexA_no {y : UInt8} (hy : y = 32 ∨ y = 10) (d : List UInt8) : y ∉ hexA d := by
  unfold hexA
  split
  · rcases hy with rfl | rfl <;> decide
  · exact hexL_no (by rcases hy with h | h <;> simp [h]) d
/-! acts -/
structure Act where
  k : Int
  s : Int
  c : Int
  n : Int
  m : Int
  d : List UInt8
  deriving DecidableEq, Inhabited
def Act.zero : Act := ⟨0, 0, 0, 0, 0, []⟩
abbrev Act.cs (x : Act) : List AV := [.int .i64 x.k, .int .i64 x.s, .int .i64 x.c, .int .i64 x.n, .int .i64 x.m, .str x.d]
def plainA (x : Act) : Act :=
  if x.k = 1 then x else ⟨x.k, if x.k = 5 ∨ x.k = 6 then 0 else x.s, 0, if x.k = 2 then x.n else 0, 0, if x.k = 4 then x.d else []⟩
def rngN (n : Int) : Prop := 0 ≤ n ∧ n ≤ 72057594037927935
instance (n : Int) : Decidable (rngN n) := by unfold rngN; exact inferInstance
def mayQ (x : Act) : Prop := 1 ≤ x.k ∧ x.k ≤ 6 ∧ x = plainA x ∧ 0 ≤ x.s ∧ x.s ≤ 1 ∧ rngN x.c ∧ rngN x.n ∧ rngN x.m
instance (x : Act) : Decidable (mayQ x) := by unfold mayQ; exact inferInstance
def mayA (x : Act) : Bool := decide (mayQ x)
def wd (k : Int) : List UInt8 :=
  if k = 1 then [115, 101, 110, 100] else if k = 2 then [116, 105, 99, 107] else if k = 3 then [99, 111, 109, 109, 105, 116] else if k = 4 then [114, 97, 119] else if k = 5 then [114, 111, 117, 110, 100] else [116, 117, 114, 110]
def sideW (s : Int) : List UInt8 := if s = 0 then [97] else [98]
def wordsA (x : Act) : List (List UInt8) :=
  wd x.k :: (if x.k = 5 ∨ x.k = 6 then [] else [sideW x.s]) ++
    (if x.k = 1 then [Lib.itoa x.c, Lib.itoa x.n, Lib.itoa x.m, hexA x.d] else if x.k = 2 then [Lib.itoa x.n] else if x.k = 4 then [hexA x.d] else [])
def bodyA (x : Act) : List UInt8 := Lib.join (wordsA x) [32]
def lineA (x : Act) : List UInt8 := bodyA x ++ [10]
def kindA (t : List UInt8) : Int :=
  if t = wd 1 then 1 else if t = wd 2 then 2 else if t = wd 3 then 3 else if t = wd 4 then 4 else if t = wd 5 then 5 else if t = wd 6 then 6 else 0
def readA (w : List (List UInt8)) : Act :=
  let k := kindA (w.getD 0 [])
  let last := w.getD (w.length - 1) []
  let full := k = 1 ∧ w.length = 6
  ⟨k, if 1 < w.length ∧ w.getD 1 [] = [98] then 1 else 0,
    if full then (numP (w.getD 2 [])).1 else 0,
    if full then (numP (w.getD 3 [])).1 else if k = 2 then (numP last).1 else 0,
    if full then (numP (w.getD 4 [])).1 else 0,
    if full ∨ k = 4 then unhexA last else []⟩
theorem kind_wd {k : Int} (h : 1 ≤ k ∧ k ≤ 6) : kindA (wd k) = k := by
  have : k = 1 ∨ k = 2 ∨ k = 3 ∨ k = 4 ∨ k = 5 ∨ k = 6 := by omega
  rcases this with rfl | rfl | rfl | rfl | rfl | rfl <;> decide
theorem num_it {n : Int} (h : rngN n) : (numP (Lib.itoa n)).1 = n := by
  rw [itoa_dig h.1, num_dig (by unfold rngN at h; omega)]
  have := h.1
  simp only; omega
theorem itoa_no' {y : UInt8} (hy : y = 32 ∨ y = 10) {n : Int} (h : 0 ≤ n) : y ∉ Lib.itoa n := by
  rw [itoa_dig h]
  intro hm
  have := dig_all _ _ hm
  unfold isDig at this
  rcases hy with rfl | rfl <;> revert this <;> decide
theorem wd_no {y : UInt8} (hy : y = 32 ∨ y = 10) (k : Int) : y ∉ wd k := by
  unfold wd
  rcases hy with rfl | rfl
  · split; decide; split; decide; split; decide; split; decide; split <;> decide
  · split; decide; split; decide; split; decide; split; decide; split <;> decide
theorem side_no {y : UInt8} (hy : y = 32 ∨ y = 10) (s : Int) : y ∉ sideW s := by
  unfold sideW
  rcases hy with rfl | rfl <;> split <;> decide
theorem words_no {x : Act} (h : mayQ x) {y : UInt8} (hy : y = 32 ∨ y = 10) : ∀ a ∈ wordsA x, y ∉ a := by
  obtain ⟨_, _, _, _, _, hc, hn, hm⟩ := h
  intro a ha
  simp only [wordsA, List.mem_cons, List.cons_append, List.mem_append] at ha
  rcases ha with rfl | ha | ha
  · exact wd_no hy _
  · split at ha
    · simp at ha
    · simp at ha; subst ha; exact side_no hy _
  · split at ha
    · simp only [List.mem_cons, List.not_mem_nil, or_false] at ha
      rcases ha with rfl | rfl | rfl | rfl
      · exact itoa_no' hy hc.1
      · exact itoa_no' hy hn.1
      · exact itoa_no' hy hm.1
      · exact hexA_no hy _
    · split at ha
      · simp at ha; subst ha; exact itoa_no' hy hn.1
      · split at ha
        · simp at ha; subst ha; exact hexA_no hy _
        · simp at ha
theorem words_ne (x : Act) : wordsA x ≠ [] := by simp [wordsA]
theorem body_sp {x : Act} (h : mayQ x) : spx 32 (bodyA x) = wordsA x := spx_join (words_ne x) (words_no h (.inl rfl))
theorem body_no {x : Act} (h : mayQ x) : 10 ∉ bodyA x := join_no (by decide) (words_no h (.inr rfl))
/-- A line's words tell the act. -/
theorem read_words {x : Act} (h : mayQ x) : readA (wordsA x) = x := by
  obtain ⟨h1, h2, h3, h4, h5, hc, hn, hm⟩ := h
  obtain ⟨k, s, c, n, m, d⟩ := x
  simp only at h1 h2 h3 h4 h5 hc hn hm
  have hs : s = 0 ∨ s = 1 := by omega
  have hk : k = 1 ∨ k = 2 ∨ k = 3 ∨ k = 4 ∨ k = 5 ∨ k = 6 := by omega
  have e1 : ∀ j : Int, 1 ≤ j → j ≤ 6 → kindA (wd j) = j := fun j a b => kind_wd ⟨a, b⟩
  rcases hk with rfl | rfl | rfl | rfl | rfl | rfl
  all_goals
    simp only [plainA, Act.mk.injEq] at h3
    rcases hs with rfl | rfl
    all_goals simp [readA, wordsA, e1, num_it, hc, hn, hm, unhex_hex, sideW] at h3 ⊢
    all_goals simp_all
/-- What a line without its end tells. -/
def lnA (t : List UInt8) : Option Act := if mayA (readA (spx 32 t)) = true ∧ bodyA (readA (spx 32 t)) = t then some (readA (spx 32 t)) else none
theorem lnA_some {t : List UInt8} {x : Act} : lnA t = some x ↔ mayQ x ∧ bodyA x = t := by
  unfold lnA mayA
  constructor
  · intro h
    split at h
    · rename_i g
      cases h
      exact ⟨of_decide_eq_true g.1, g.2⟩
    · cases h
  · rintro ⟨h, rfl⟩
    rw [body_sp h, read_words h, if_pos ⟨decide_eq_true h, rfl⟩]
theorem lnA_none {t : List UInt8} (h : ∀ x, mayQ x → bodyA x ≠ t) : lnA t = none := by
  cases e : lnA t with
  | none => rfl
  | some x => exact absurd (lnA_some.1 e).2 (h x (lnA_some.1 e).1)
/-- The text up to a sign that it holds. -/
def cutL : List UInt8 → Option (List UInt8 × List UInt8)
  | [] => none
  | c :: t => if c = 10 then some ([], t) else (cutL t).map fun p => (c :: p.1, p.2)
theorem cutL_some : ∀ {s t r : List UInt8}, cutL s = some (t, r) ↔ s = t ++ 10 :: r ∧ 10 ∉ t
  | [], t, r => by simp [cutL]
  | c :: s, t, r => by
    rw [cutL]
    by_cases h : c = 10
    · subst h
      rw [if_pos rfl]
      constructor
      · intro e; cases e; simp
      · rintro ⟨e, hn⟩
        cases t with
        | nil => simp at e; simp [e]
        | cons a t => simp at e hn; exact absurd e.1 hn.1
    · rw [if_neg h]
      constructor
      · intro e
        simp only [Option.map_eq_some_iff, Prod.exists] at e
        obtain ⟨a, b, h1, h2⟩ := e
        cases h2
        obtain ⟨g1, g2⟩ := cutL_some.1 h1
        exact ⟨by rw [g1]; rfl, by simp only [List.mem_cons, not_or]; exact ⟨fun e => h e.symm, g2⟩⟩
      · rintro ⟨e, hn⟩
        cases t with
        | nil => simp at e; exact absurd e.1 h
        | cons a t =>
          simp only [List.cons_append, List.cons.injEq] at e
          simp only [List.mem_cons, not_or] at hn
          rw [cutL_some.2 ⟨e.2, hn.2⟩, e.1]; rfl
theorem cutL_none : ∀ {s : List UInt8}, cutL s = none ↔ 10 ∉ s
  | [] => by simp [cutL]
  | c :: s => by
    rw [cutL]
    by_cases h : c = 10
    · subst h; simp
    · rw [if_neg h, Option.map_eq_none_iff, cutL_none, List.mem_cons, not_or]
      exact ⟨fun g => ⟨fun e => h e.symm, g⟩, fun g => g.2⟩
/-- A text's acts: those told so far, the text that is left. -/
def parseG : Nat → List Act → List UInt8 → List Act × Int × Int
  | 0, out, _ => (out, 0, 0)
  | f + 1, out, s =>
    if s = [] then (out, 0, 0) else if out.length = 400 then ([], 401, 22) else
      match cutL s with
      | none => ([], (out.length : Int) + 1, 3)
      | some (t, r) => match lnA t with
        | none => ([], (out.length : Int) + 1, 3)
        | some x => parseG f (out ++ [x]) r
def parseA (s : List UInt8) : List Act × Int × Int := parseG s.length [] s
theorem cutL_len {s t r : List UInt8} (h : cutL s = some (t, r)) : r.length < s.length := by
  rw [(cutL_some.1 h).1]; simp; omega
theorem parseG_more : ∀ (f g : Nat) (out : List Act) (s : List UInt8), s.length ≤ f → s.length ≤ g → parseG f out s = parseG g out s
  | 0, 0, _, _, _, _ => rfl
  | 0, g + 1, out, s, h, _ => by
    have : s = [] := List.length_eq_zero_iff.1 (by omega)
    subst this; simp [parseG]
  | f + 1, 0, out, s, _, h => by
    have : s = [] := List.length_eq_zero_iff.1 (by omega)
    subst this; simp [parseG]
  | f + 1, g + 1, out, s, h1, h2 => by
    rw [parseG, parseG]
    split
    · rfl
    · split
      · rfl
      · split
        · rfl
        · rename_i t r hc
          have := cutL_len hc
          split
          · rfl
          · exact parseG_more f g _ _ (by omega) (by omega)
/-- What is left to tell. -/
def restA (out : List Act) (s : List UInt8) : List Act × Int × Int := parseG s.length out s
theorem rest_nil (out : List Act) : restA out [] = (out, 0, 0) := rfl
theorem rest_full {out : List Act} {s : List UInt8} (h : s ≠ []) (ho : out.length = 400) : restA out s = ([], 401, 22) := by
  cases s with
  | nil => exact absurd rfl h
  | cons c s => simp [restA, parseG, ho]
theorem rest_bad {out : List Act} {s : List UInt8} (h : s ≠ []) (ho : out.length ≠ 400) (hb : ∀ t r, cutL s = some (t, r) → lnA t = none) : restA out s = ([], (out.length : Int) + 1, 3) := by
  cases s with
  | nil => exact absurd rfl h
  | cons c s =>
    rw [restA, List.length_cons, parseG, if_neg h, if_neg ho]
    cases hc : cutL (c :: s) with
    | none => rfl
    | some p =>
      obtain ⟨t, r⟩ := p
      simp only [hb t r hc]
theorem rest_step {out : List Act} {s t r : List UInt8} {x : Act} (ho : out.length ≠ 400) (hc : cutL s = some (t, r)) (hx : lnA t = some x) : restA out s = restA (out ++ [x]) r := by
  cases s with
  | nil => simp [cutL] at hc
  | cons c s =>
    have := cutL_len hc
    rw [restA, List.length_cons, parseG, if_neg (by simp), if_neg ho, hc]
    simp only [hx]
    exact parseG_more _ _ _ _ (by simp at this; omega) (Nat.le_refl _)
theorem parse_rest (s : List UInt8) : parseA s = restA [] s := rfl
/-! printing -/
def printA (l : List Act) : List UInt8 × Int := if 400 < l.length then ([], 22) else if l.all mayA then (l.flatMap lineA, 0) else ([], 1)
theorem rest_lines : ∀ (l out : List Act) (s : List UInt8), (∀ x ∈ l, mayQ x) → out.length + l.length ≤ 400 → restA out (l.flatMap lineA ++ s) = restA (out ++ l) s
  | [], out, s, _, _ => by simp
  | x :: l, out, s, h, hl => by
    have hx := h x (by simp)
    simp only [List.length_cons] at hl
    have hc : cutL ((x :: l).flatMap lineA ++ s) = some (bodyA x, l.flatMap lineA ++ s) := by
      rw [cutL_some]
      exact ⟨by simp [lineA], body_no hx⟩
    rw [rest_step (by omega) hc (lnA_some.2 ⟨hx, rfl⟩), rest_lines l _ s (fun y hy => h y (by simp [hy])) (by simp; omega)]
    simp
theorem parse_ok : ∀ (f : Nat) (out : List Act) (s : List UInt8) (y : List Act) (n : Int), parseG f out s = (y, n, 0) → s.length ≤ f → out.length ≤ 400 → n = 0 ∧ ∃ l, y = out ++ l ∧ (∀ x ∈ l, mayQ x) ∧ s = l.flatMap lineA ∧ y.length ≤ 400
  | 0, out, s, y, n, h, hs, ho => by
    have : s = [] := List.length_eq_zero_iff.1 (by omega)
    subst this
    simp only [parseG, Prod.mk.injEq] at h
    exact ⟨h.2.1.symm, [], by simp [h.1], by simp, by simp, by rw [← h.1]; exact ho⟩
  | f + 1, out, s, y, n, h, hs, ho => by
    rw [parseG] at h
    split at h
    · rename_i he
      simp only [Prod.mk.injEq] at h
      exact ⟨h.2.1.symm, [], by simp [h.1], by simp, by simp [he], by rw [← h.1]; exact ho⟩
    · split at h
      · simp at h
      · split at h
        · simp at h
        · rename_i t r hc
          split at h
          · simp at h
          · rename_i x hx
            have hlen := cutL_len hc
            obtain ⟨e1, l, e2, e3, e4, e5⟩ := parse_ok f _ r y n h (by omega) (by simp; omega)
            obtain ⟨g1, g2⟩ := lnA_some.1 hx
            refine ⟨e1, x :: l, by rw [e2]; simp, fun z hz => ?_, ?_, e5⟩
            · rcases List.mem_cons.1 hz with rfl | hz
              · exact g1
              · exact e3 z hz
            · rw [(cutL_some.1 hc).1, ← g2, e4]; simp [lineA]
theorem parse_bad (f : Nat) : ∀ (out : List Act) (s : List UInt8), (parseG f out s).2.2 ≠ 0 → (parseG f out s).1 = [] ∧ 1 ≤ (parseG f out s).2.1 := by
  induction f with
  | zero => intro out s h; simp [parseG] at h
  | succ f ih =>
    intro out s
    rw [parseG]
    split
    · simp
    · split
      · simp
      · split
        · simp; omega
        · split
          · simp; omega
          · exact ih _ _
end Go.Proofs.YtlefegihikpilaaDoor

/- plain laws: the library's pieces and cuts at one sign -/
namespace Go.Proofs.YtlefegihikpilaaDoor
set_option linter.all false
open Go
set_option maxRecDepth 100000
theorem occz {z : UInt8} {s : List UInt8} {i : Nat} : Lib.occAt s [z] i = true ↔ i < s.length ∧ s.getD i 0 = z := by
  unfold Lib.occAt
  by_cases h : i < s.length
  · rw [List.drop_eq_getElem_cons h, List.getD, List.getElem?_eq_getElem h]
    simp only [List.isPrefixOf_cons₂, List.isPrefixOf_nil_left, Bool.and_true, beq_iff_eq, Option.getD_some]
    exact ⟨fun e => ⟨h, e.symm⟩, fun e => e.2.symm⟩
  · rw [List.drop_eq_nil_of_le (by omega)]
    simp [List.isPrefixOf, h]
theorem splitK_spx {z : UInt8} : ∀ (n : Nat) (s : List UInt8), s.length ≤ n → ∀ k, s.count z ≤ k → Lib.splitK [z] 0 k s = spx z s := by
  intro n
  induction n with
  | zero =>
    intro s hs k hk
    obtain rfl := List.eq_nil_of_length_eq_zero (by omega : s.length = 0)
    cases k <;> rfl
  | succ n ih =>
    intro s hs k hk
    rcases Lib.index_spec s [z] with ⟨h1, h2⟩ | ⟨i, h1, h2, h3, h4⟩
    · have hn : z ∉ s := by
        intro hm
        obtain ⟨j, hj, e⟩ := List.getElem_of_mem hm
        have := h2 j (by omega)
        rw [occz.2 ⟨hj, by rw [List.getD, List.getElem?_eq_getElem hj]; exact e⟩] at this
        cases this
      rw [spx_none hn]
      cases k with
      | zero => rfl
      | succ k => rw [Lib.splitK, h1]; rfl
    · obtain ⟨hi, hz⟩ := occz.1 h3
      have hn : z ∉ s.take i := by
        intro hm
        obtain ⟨j, hj, e⟩ := List.getElem_of_mem hm
        rw [List.length_take] at hj
        have hj' : j < s.length := by omega
        have hf := h4 j (by omega)
        rw [occz.2 ⟨hj', by rw [List.getD, List.getElem?_eq_getElem hj']; simpa using e⟩] at hf
        cases hf
      have he : s = s.take i ++ z :: s.drop (i + 1) := by
        have := List.take_append_drop i s
        rw [List.drop_eq_getElem_cons hi] at this
        rw [List.getD, List.getElem?_eq_getElem hi] at hz
        simp only [Option.getD_some] at hz
        rw [hz] at this
        exact this.symm
      have hc : s.count z = 1 + (s.drop (i + 1)).count z := by
        conv => lhs; rw [he]
        rw [List.count_append, List.count_eq_zero.2 hn, List.count_cons_self]; omega
      cases k with
      | zero => omega
      | succ k =>
        rw [Lib.splitK, h1, if_neg (by simp)]
        have := ih (s.drop (i + 1)) (by rw [List.length_drop]; omega) k (by omega)
        conv => rhs; rw [he, spx_cut hn]
        simp [this]
theorem split_spx (z : UInt8) (s : List UInt8) : Lib.splitK [z] 0 (Lib.countB ⟨s.toArray⟩ ⟨#[z]⟩) s = spx z s :=
  splitK_spx s.length s (by omega) _ (by rw [← Lib.count_one]; exact Nat.le_refl _)
theorem cut_of_no {s : List UInt8} (h : 10 ∉ s) : Lib.cut s [10] = (s, [], false) := by
  have : Lib.index s [10] = -1 := Lib.index_none fun j _ => by
    rw [← Bool.not_eq_true, occz]
    rintro ⟨g1, g2⟩
    rw [List.getD, List.getElem?_eq_getElem g1] at g2
    exact h (by rw [← g2]; exact List.getElem_mem g1)
  unfold Lib.cut
  rw [this, if_neg (by omega)]
theorem cut_of_nl {t r : List UInt8} (h : 10 ∉ t) : Lib.cut (t ++ 10 :: r) [10] = (t, r, true) := by
  have : Lib.index (t ++ 10 :: r) [10] = t.length := Lib.index_first (by simp) (occz.2 ⟨by simp, by simp [List.getD]⟩) fun j hj => by
    rw [← Bool.not_eq_true, occz]
    rintro ⟨_, g2⟩
    rw [List.getD, List.getElem?_append_left hj, List.getElem?_eq_getElem hj] at g2
    exact h (by rw [← g2]; exact List.getElem_mem hj)
  unfold Lib.cut
  rw [this, if_pos (by omega)]
  simp
theorem spx_len {z : UInt8} : ∀ {s x : List UInt8}, x ∈ spx z s → x.length ≤ s.length
  | [], x, h => by simp [spx] at h; subst h; simp
  | c :: t, x, h => by
    rw [spx] at h
    split at h
    · rcases List.mem_cons.1 h with rfl | h
      · simp
      · have := spx_len h; simp only [List.length_cons]; omega
    · split at h
      · simp at h; subst h; simp
      · rename_i y ys e
        rcases List.mem_cons.1 h with rfl | h
        · have := spx_len (s := t) (x := y) (by rw [e]; simp)
          simp only [List.length_cons]; omega
        · have := spx_len (s := t) (x := x) (by rw [e]; simp [h])
          simp only [List.length_cons]; omega
theorem spx_getlen (z : UInt8) (s : List UInt8) (i : Nat) : ((spx z s).getD i []).length ≤ s.length := by
  by_cases h : i < (spx z s).length
  · rw [List.getD, List.getElem?_eq_getElem h]; exact spx_len (List.getElem_mem h)
  · rw [List.getD, List.getElem?_eq_none (by omega)]; simp
/-- What the program asks of a line: that it is the front of what is left. -/
theorem pre_line {x : Act} (hx : mayQ x) {s t r : List UInt8} (hs : s = t ++ 10 :: r) (hn : 10 ∉ t) : Lib.hasPrefix s (lineA x) = true ↔ bodyA x = t := by
  unfold Lib.hasPrefix lineA
  rw [List.isPrefixOf_iff_prefix]
  constructor
  · rintro ⟨q, hq⟩
    rw [hs] at hq
    have h1 : cutL (t ++ 10 :: r) = some (t, r) := cutL_some.2 ⟨rfl, hn⟩
    have h2 : cutL (bodyA x ++ 10 :: q) = some (bodyA x, q) := cutL_some.2 ⟨rfl, body_no hx⟩
    have : bodyA x ++ 10 :: q = t ++ 10 :: r := by rw [← hq]; simp
    rw [this, h1] at h2
    simp only [Option.some.injEq, Prod.mk.injEq] at h2
    exact h2.1.symm
  · intro h
    exact ⟨r, by rw [hs, h]; simp⟩
theorem pre_none {x : Act} {s : List UInt8} (hn : 10 ∉ s) : Lib.hasPrefix s (lineA x) = false := by
  rw [Bool.eq_false_iff]
  intro h
  unfold Lib.hasPrefix lineA at h
  rw [List.isPrefixOf_iff_prefix] at h
  obtain ⟨q, hq⟩ := h
  exact hn (by rw [← hq]; simp)
end Go.Proofs.YtlefegihikpilaaDoor

/- library functions that chapter 32 calls; strings.Builder's WriteString, WriteByte -/
namespace Go.Proofs.YtlefegihikpilaaDoor
set_option linter.all false
open Go.RowKit
set_option maxRecDepth 100000
theorem p_Cut8 (s p : List UInt8) (hs : s.length ≤ 8000000) : CP Tryd.prog 60 [.str s, .str p] (.tup [.str (Lib.cut s p).1, .str (Lib.cut s p).2.1, .bool (Lib.cut s p).2.2]) :=
  CP_libG (vs := [.string ⟨s.toArray⟩, .string ⟨p.toArray⟩]) (v := .tuple #[.string ⟨(Lib.cut s p).1.toArray⟩, .string ⟨(Lib.cut s p).2.1.toArray⟩, .bool (Lib.cut s p).2.2]) rfl (by simp) rfl fun W U hG => by
    obtain ⟨m, hm⟩ := maxLen_cell hG
    exact (Tryd.strings_Cut ⟨s.toArray⟩ ⟨p.toArray⟩ m W (by rw [sz_str]; omega) hm).mono fun e w' ⟨h1, n, h2⟩ => ⟨h1, h2 ▸ below_drewN (Below.refl _ _) n⟩
theorem p_IdxB (s : List UInt8) (c : UInt8) : CP Tryd.prog 84 [.str s, .int .u8 (c.toNat : Int)] (.int .i64 (Lib.indexByte s c)) :=
  CP_lib (vs := [.string ⟨s.toArray⟩, .int .u8 (c.toNat : Int)]) (v := .int .i64 (Lib.indexByte s c)) rfl (by simp) rfl fun W =>
    (Tryd.strings_IndexByte ⟨s.toArray⟩ (c.toNat : Int) W).mono fun e w' ⟨h1, h2⟩ => ⟨by rw [h1]; simp, h2 ▸ Below.refl _ _⟩
abbrev strs (l : List (List UInt8)) : List (List AV) := l.map fun p => [AV.str p]
theorem p_SplitZ (z : UInt8) (s : List UInt8) (hs : s.length ≤ 8000000) : CP Tryd.prog 33 [.str s, .str [z]] (.sl none 1 (strs (spx z s))) := by
  intro W U us hG hl hu
  obtain ⟨m, hm⟩ := maxLen_cell hG
  have he : us = [.string ⟨s.toArray⟩, .string ⟨#[z]⟩] := by
    match us, hl with
    | [a, b], _ =>
      have h1 := (hu 0 a _ rfl rfl).str_inv
      have h2 := (hu 1 b _ rfl rfl).str_inv
      rw [h1, h2]
  subst he
  refine (Tryd.strings_Split ⟨s.toArray⟩ ⟨#[z]⟩ m W (by rw [sz_str]; omega) hm (by simp [ByteArray.size])).mono ?_
  rintro e W' ⟨rfl, rfl⟩
  have hsz : 1 ≤ (⟨#[z]⟩ : ByteArray).size := by simp [ByteArray.size]
  have hd := Lib.splitB_data ⟨#[z]⟩ 0 (Lib.countB ⟨s.toArray⟩ ⟨#[z]⟩) ⟨s.toArray⟩
  have hn := Lib.splitB_all ⟨#[z]⟩ hsz 0 (Lib.countB ⟨s.toArray⟩ ⟨#[z]⟩) ⟨s.toArray⟩ rfl
  have hle := Lib.countB_le ⟨#[z]⟩ hsz s.length ⟨s.toArray⟩ (by rw [sz_str]; exact Nat.le_refl _)
  rw [sz_str] at hle
  have hp : spx z s = (Lib.splitB ⟨#[z]⟩ 0 (Lib.countB ⟨s.toArray⟩ ⟨#[z]⟩) ⟨s.toArray⟩).map (·.data.toList) := by rw [← split_spx]; exact hd.symm
  generalize hB : Lib.splitB ⟨#[z]⟩ 0 (Lib.countB ⟨s.toArray⟩ ⟨#[z]⟩) ⟨s.toArray⟩ = B at hn hp
  generalize hc : Lib.countB ⟨s.toArray⟩ ⟨#[z]⟩ = c at hn hle
  have hE := Ext.alloc W U (.cells (B.map Value.string).toArray 9) (fun _ => False)
  refine ⟨_, _, rfl, ?_, trivial, hE⟩
  rw [hp]
  have hlen : c + 1 = (strs (B.map (·.data.toList))).length := by simp [hn]
  rw [hlen]
  refine .sl _ _ none _ W.heap.size 0 1 (fun i _ => (B.map Value.string).getD i undef) (Nat.le_refl _) ?_ (fun _ => rfl) (fun e he => ?_) (fun i j hi hj => ?_) (fun i e j x he hx => ?_)
  · rw [← hlen]; unfold maxLen; omega
  · simp only [List.map_map, List.mem_map, Function.comp] at he
    obtain ⟨a, _, rfl⟩ := he
    rfl
  · have hi' : i < B.length := by simpa using hi
    obtain rfl : j = 0 := by omega
    refine ⟨?_, ?_, by simp⟩
    · have e : (W.alloc (.cells (B.map Value.string).toArray 9)).heap[W.heap.size]? = some (.cells (B.map Value.string).toArray 9) := by simp only [World.alloc, Array.getElem?_push_size]
      have e2 : 0 + i * 1 + 0 = i := by omega
      rw [e2]
      simp only [World.cell?, e]
      simp [hi']
    · simp [hi', Value.oneCell']
  · simp only [List.map_map, List.getElem?_map, Option.map_eq_some_iff, Function.comp] at he
    obtain ⟨a, ha, rfl⟩ := he
    cases j with
    | zero =>
      simp only [List.getElem?_cons_zero, Option.some.injEq] at hx
      subst hx
      have : (B.map Value.string).getD i undef = .string a := by simp [ha]
      show VR _ _ ((B.map Value.string).getD i undef) _
      rw [this]
      exact .str _
    | succ j => simp at hx
theorem p_Join (own : Option Nat) (z : UInt8) (l : List (List UInt8)) (hn : l.length ≤ 140737488355328) (hl : (Lib.join l [z]).length ≤ 140737488355328) : CP Tryd.prog 17 [.sl own 1 (strs l), .str [z]] (.str (Lib.join l [z])) := by
  intro W U us hG hlen hu
  match us, hlen with
  | [v, w], _ =>
    have hw := (hu 1 w _ rfl rfl).str_inv
    subst hw
    have hv := hu 0 v _ rfl rfl
    generalize hels : strs l = els at hv
    cases hv with
    | sl A cap _ _ b o _ f hcap hmax hA hs hc hvv =>
      by_cases h0 : l = []
      · subst h0
        simp at hels
        subst hels
        refine (Tryd.strings_Join_none A cap ⟨#[z]⟩ W).mono ?_
        rintro e W' ⟨rfl, rfl⟩
        exact ⟨_, U, rfl, .str [], trivial, Ext.refl _ _⟩
      · have hll : els.length = l.length := by simp [← hels]
        have hlt : 0 < els.length := by rw [hll]; exact List.length_pos_iff.2 h0
        obtain rfl := hA hlt
        have hx : els.length = (l.map fun p => (⟨p.toArray⟩ : ByteArray)).length := by simp [hll]
        have hj : ((l.map fun p => (⟨p.toArray⟩ : ByteArray)).map (·.data.toList)) = l := by simp [List.map_map, Function.comp_def]
        have hbk : b < W.heap.size := World.block_lt_of_cell? W ⟨b, o + 0 * 1 + 0, none⟩ (hc 0 0 hlt (by omega)).1
        have := Tryd.strings_Join b o cap (l.map fun p => (⟨p.toArray⟩ : ByteArray)) ⟨#[z]⟩ W (fun j x hx => by
          simp only [List.getElem?_map, Option.map_eq_some_iff] at hx
          obtain ⟨p, hp, rfl⟩ := hx
          have hjl : j < els.length := by rw [hll]; exact (List.getElem?_eq_some_iff.1 hp).1
          have h1 := (hc j 0 hjl (by omega)).1
          have h2 := hvv j [AV.str p] 0 (.str p) (by rw [← hels]; simp [hp]) rfl
          rw [show o + j * 1 + 0 = o + j by omega] at h1
          rw [h1]
          generalize f j 0 = y at h2
          cases h2
          rfl) hbk (by rw [← hx, hll]; exact hn) (by rw [← hx]; exact hcap) (by rw [hj]; exact hl)
        rw [hj, ← hx] at this
        refine this.mono ?_
        rintro e W' ⟨rfl, hB⟩
        exact ⟨_, U, rfl, .str _, trivial, ⟨hB, fun _ _ _ => Iff.rfl⟩⟩
/-! the builder's writers -/
abbrev bld (b : Nat) (l : List UInt8) : List AV := [.ptr b 0, .sl (some 5) 1 (bts l)]
abbrev bld0 : List AV := [.nilT 88, .sl (some 5) 1 []]
/-- the builder on its way: new, or written -/
abbrev bl (b : Nat) (k : Nat) (s : List UInt8) : List AV := [if k = 0 then .nilT 88 else .ptr b 0, .sl (some 5) 1 (bts s)]
theorem t_Write (b : Nat) (l s : List UInt8) (h : l.length + s.length ≤ 100000000) : CT Tryd.prog 28 [.ptr b 0, .str s] (lk [(b, bld b l)]) (fun r o => r = .tup [.int .i64 s.length, .nili] ∧ o = lk [(b, bld b (l ++ s))]) := by
  have hm : maxLen = 9223372036854775807 := rfl
  refine okt_strings_Builder_WriteString _ _ _ (by simp) ?_
  simp only [c_strings_Builder_WriteString, ↓Ed, Eu, ↓reduceIte, reduceCtorEq, Nat.reduceAdd, Nat.reduceEqDiff, Nat.reduceLT, Nat.reduceLeDiff, Int.reduceToNat, Int.reduceEq, Int.reduceLT, Int.reduceLE, w64, List.length_append, List.length_map]
  repeat' ((first | (refine' CallO_det (t_copy1 b (.sl (some 5) 1 (bts l))) (lk_sub1 ?_) ?_; rotate_right 2; (focus ((repeat (first | exact lk_hd _ _ _ | (refine lk_tl ?_ ?_; (focus (first | assumption | (simp only [*, not_false_eq_true]; done)))))); done))) | refine NewB_intro0 (fun b => ?_) | (refine NewB_intro (fun b hb => ?_); simp only [ln_cons2, ln_nil, and_true] at hb) | (with_reducible apply And.intro; (focus (first | omega | (simp only [Fact, Bool.not_eq_true', Bool.not_eq_false', decide_eq_true_eq, decide_eq_false_iff_not] at *; omega)))) | ((first | refine gW_sp ?_ | refine condW_sp ?_ | refine pickW_sp ?_); (try refine Sp_n ?_); (first | refine Sp_t (by assumption) ?_ | refine Sp_f (by assumption) ?_ | refine Sp_split (fun h => ?_) (fun h => ?_)) <;> (first | have h' := Fact_lt h | have h' := Fact_nlt h | have h' := Fact_le h | have h' := Fact_nle h | skip) <;> (try (exfalso; omega))) | refine TreeW_intro (by rfl) ?_ | refine TreeW_all ?_ | refine upQ_intro ?_ | refine Two_intro ?_ ?_ | (refine leK_lit ?_; (simp [-List.getD_eq_getElem?_getD, LeL, lk, *]; done)) | (refine leK_dd ?_; (simp [-List.getD_eq_getElem?_getD, LeS, LeL, lk, *]; done)) | (simp only [Fact, Bool.not_eq_true', Bool.not_eq_false', decide_eq_true_eq, decide_eq_false_iff_not] at *; refine leK_dd ?_; (simp [-List.getD_eq_getElem?_getD, LeS, LeL, lk, *]; done)) | (show (_ : Nat) ≤ _; omega)) <;> (try simp (disch := omega) only [*, ↓Ed, Eu, ↓reduceIte, reduceCtorEq, Nat.reduceAdd, Nat.reduceEqDiff, Nat.reduceLT, Nat.reduceLeDiff, Int.reduceToNat, Int.reduceEq, Int.reduceLT, Int.reduceLE, w64, List.length_append, List.length_map]))
  exact ro_mk (by simp [LeL, lk, r_two, rl_nil, rl_cons, ar_tmp, al_int, al_nili, bts]) domB
theorem t_Write0 (b : Nat) (s : List UInt8) (h : s.length ≤ 100000000) : CT Tryd.prog 28 [.ptr b 0, .str s] (lk [(b, bld0)]) (fun r o => r = .tup [.int .i64 s.length, .nili] ∧ o = lk [(b, bld b s)]) := by
  have hm : maxLen = 9223372036854775807 := rfl
  refine okt_strings_Builder_WriteString _ _ _ (by simp) ?_
  simp only [c_strings_Builder_WriteString, ↓Ed, Eu, ↓reduceIte, reduceCtorEq, Nat.reduceAdd, Nat.reduceEqDiff, Nat.reduceLT, Nat.reduceLeDiff, Int.reduceToNat, Int.reduceEq, Int.reduceLT, Int.reduceLE, w64, List.length_append, List.length_map]
  repeat' ((first | (refine' CallO_det (t_copy0 b (.sl (some 5) 1 [])) (lk_sub1 ?_) ?_; rotate_right 2; (focus ((repeat (first | exact lk_hd _ _ _ | (refine lk_tl ?_ ?_; (focus (first | assumption | (simp only [*, not_false_eq_true]; done)))))); done))) | refine NewB_intro0 (fun b => ?_) | (refine NewB_intro (fun b hb => ?_); simp only [ln_cons2, ln_nil, and_true] at hb) | (with_reducible apply And.intro; (focus (first | omega | (simp only [Fact, Bool.not_eq_true', Bool.not_eq_false', decide_eq_true_eq, decide_eq_false_iff_not] at *; omega)))) | ((first | refine gW_sp ?_ | refine condW_sp ?_ | refine pickW_sp ?_); (try refine Sp_n ?_); (first | refine Sp_t (by assumption) ?_ | refine Sp_f (by assumption) ?_ | refine Sp_split (fun h => ?_) (fun h => ?_)) <;> (first | have h' := Fact_lt h | have h' := Fact_nlt h | have h' := Fact_le h | have h' := Fact_nle h | skip) <;> (try (exfalso; omega))) | refine TreeW_intro (by rfl) ?_ | refine TreeW_all ?_ | refine upQ_intro ?_ | refine Two_intro ?_ ?_ | (refine leK_lit ?_; (simp [-List.getD_eq_getElem?_getD, LeL, lk, *]; done)) | (refine leK_dd ?_; (simp [-List.getD_eq_getElem?_getD, LeS, LeL, lk, *]; done)) | (simp only [Fact, Bool.not_eq_true', Bool.not_eq_false', decide_eq_true_eq, decide_eq_false_iff_not] at *; refine leK_dd ?_; (simp [-List.getD_eq_getElem?_getD, LeS, LeL, lk, *]; done)) | (show (_ : Nat) ≤ _; omega)) <;> (try simp (disch := omega) only [*, ↓Ed, Eu, ↓reduceIte, reduceCtorEq, Nat.reduceAdd, Nat.reduceEqDiff, Nat.reduceLT, Nat.reduceLeDiff, Int.reduceToNat, Int.reduceEq, Int.reduceLT, Int.reduceLE, w64, List.length_append, List.length_map]))
  exact ro_mk (by simp [LeL, lk, r_two, rl_nil, rl_cons, ar_tmp, al_int, al_nili, bts]) domB
end Go.Proofs.YtlefegihikpilaaDoor

/- chapter 3: the program's texts -/
namespace Go.Proofs.YtlefegihikpilaaDoor
set_option linter.all false
open Go.RowKit
theorem p_Text (p : List UInt8) (c : Int) (hs : p.length ≤ 1000000) : CP Tryd.prog 24 [.agg [.str p, .int .i64 c]] (.str (textP p c)) := by
  have hm := max_big
  have ht : mayP p c = true → _ := mayP_t
  refine ok_path_Text _ _ (by simp) ?_
  simp only [c_path_Text, ↓Ed, Eu, ↓reduceIte, reduceCtorEq, Nat.reduceAdd, Nat.reduceEqDiff, Nat.reduceLT, Nat.reduceLeDiff, Int.reduceToNat, Int.reduceEq, Int.reduceLT, Int.reduceLE, w64, st_nil, List.length_append, Nat.reduceMul]
  repeat' ((first | refine CallO_pure (p_pMay p c (by omega)) ?_ | refine CallW_intro (p_Itoa c (by simp only [Fact, Bool.not_eq_true', Bool.not_eq_false', decide_eq_true_eq, decide_eq_false_iff_not] at *; have := ht (by assumption); omega)) ?_ | refine NewB_intro0 (fun b => ?_) | (refine NewB_intro (fun b hb => ?_); simp only [ln_cons2, ln_nil, and_true] at hb) | (with_reducible apply And.intro; (focus (first | omega | (simp only [Fact, Bool.not_eq_true', Bool.not_eq_false', decide_eq_true_eq, decide_eq_false_iff_not] at *; omega)))) | ((first | refine gW_sp ?_ | refine condW_sp ?_ | refine pickW_sp ?_); (try refine Sp_n ?_); (first | refine Sp_t (by assumption) ?_ | refine Sp_f (by assumption) ?_ | refine Sp_split (fun h => ?_) (fun h => ?_)) <;> (first | have h' := Fact_lt h | have h' := Fact_nlt h | have h' := Fact_le h | have h' := Fact_nle h | skip) <;> (try (exfalso; omega))) | refine TreeW_intro (by rfl) ?_ | refine TreeW_all ?_ | refine upQ_intro ?_ | refine Two_intro ?_ ?_ | (refine leK_lit ?_; (simp [-List.getD_eq_getElem?_getD, LeL, lk, *]; done)) | (refine leK_dd ?_; (simp [-List.getD_eq_getElem?_getD, LeS, LeL, lk, *]; done)) | (simp only [Fact, Bool.not_eq_true', Bool.not_eq_false', decide_eq_true_eq, decide_eq_false_iff_not] at *; refine leK_dd ?_; (simp [-List.getD_eq_getElem?_getD, LeS, LeL, lk, *]; done)) | (show (_ : Nat) ≤ _; omega)) <;> (try simp (disch := omega) only [*, ↓Ed, Eu, ↓reduceIte, reduceCtorEq, Nat.reduceAdd, Nat.reduceEqDiff, Nat.reduceLT, Nat.reduceLeDiff, Int.reduceToNat, Int.reduceEq, Int.reduceLT, Int.reduceLE, w64, st_nil, List.length_append, Nat.reduceMul]))
  all_goals (try simp only [Fact, Bool.not_eq_true', Bool.not_eq_false', decide_eq_true_eq, decide_eq_false_iff_not] at *)
  · have h1 := ht (by assumption)
    have h2 := dig_len3 ⟨h1.2.1, h1.2.2.1⟩
    exact ⟨by omega, by simp [textP, *]⟩
  · simp [textP, *]
theorem p_end (p s : List UInt8) (hp : p.length ≤ 1000000) (hs : s.length ≤ 1000000) : CP Tryd.prog 99 [.str p, .str s] (.tup [.agg [.str p, .int .i64 (endN s)], .bool (endP p s)]) := by
  have hm := max_big
  have hl := Lib.trimPrefix_le s chn
  simp only [chn] at hl
  refine ok_path_end _ _ (by simp) ?_
  simp only [c_path_end, ↓Ed, Eu, ↓reduceIte, reduceCtorEq, Nat.reduceAdd, Nat.reduceEqDiff, Nat.reduceLT, Nat.reduceLeDiff, Int.reduceToNat, Int.reduceEq, Int.reduceLT, Int.reduceLE, w64, st_nil, List.length_append, Nat.reduceMul]
  repeat' ((first | refine CallO_pure (p_CutPrefix _ _) ?_ | refine CallO_pure (p_Number _ (by omega)) ?_ | refine CallO_pure (p_Clone _ (by omega)) ?_ | refine CallO_pure (p_pMay _ _ (by omega)) ?_ | refine CallW_intro (p_pMay _ _ (by omega)) ?_ | refine NewB_intro0 (fun b => ?_) | (refine NewB_intro (fun b hb => ?_); simp only [ln_cons2, ln_nil, and_true] at hb) | (with_reducible apply And.intro; (focus (first | omega | (simp only [Fact, Bool.not_eq_true', Bool.not_eq_false', decide_eq_true_eq, decide_eq_false_iff_not] at *; omega)))) | ((first | refine gW_sp ?_ | refine condW_sp ?_ | refine pickW_sp ?_); (try refine Sp_n ?_); (first | refine Sp_t (by assumption) ?_ | refine Sp_f (by assumption) ?_ | refine Sp_split (fun h => ?_) (fun h => ?_)) <;> (first | have h' := Fact_lt h | have h' := Fact_nlt h | have h' := Fact_le h | have h' := Fact_nle h | skip) <;> (try (exfalso; omega))) | refine TreeW_intro (by rfl) ?_ | refine TreeW_all ?_ | refine upQ_intro ?_ | refine Two_intro ?_ ?_ | (refine leK_lit ?_; (simp [-List.getD_eq_getElem?_getD, LeL, lk, *]; done)) | (refine leK_dd ?_; (simp [-List.getD_eq_getElem?_getD, LeS, LeL, lk, *]; done)) | (simp only [Fact, Bool.not_eq_true', Bool.not_eq_false', decide_eq_true_eq, decide_eq_false_iff_not] at *; refine leK_dd ?_; (simp [-List.getD_eq_getElem?_getD, LeS, LeL, lk, *]; done)) | (show (_ : Nat) ≤ _; omega)) <;> (try simp (disch := omega) only [*, ↓Ed, Eu, ↓reduceIte, reduceCtorEq, Nat.reduceAdd, Nat.reduceEqDiff, Nat.reduceLT, Nat.reduceLeDiff, Int.reduceToNat, Int.reduceEq, Int.reduceLT, Int.reduceLE, w64, st_nil, List.length_append, Nat.reduceMul]))
  all_goals (try simp only [Fact, Bool.not_eq_true', Bool.not_eq_false', decide_eq_true_eq, decide_eq_false_iff_not] at *)
  all_goals simp [endN, endP, endOk, chn, *]
theorem p_Parse (s : List UInt8) (hs : s.length ≤ 1000000) : CP Tryd.prog 82 [.str s] (.tup [.agg [.str (parseP s).1, .int .i64 (parseP s).2.1], .int .i64 (parseP s).2.2]) := by
  have hm := max_big
  have hl := cut_le s [47]
  refine ok_path_Parse _ _ (by simp) ?_
  simp only [c_path_Parse, ↓Ed, Eu, ↓reduceIte, reduceCtorEq, Nat.reduceAdd, Nat.reduceEqDiff, Nat.reduceLT, Nat.reduceLeDiff, Int.reduceToNat, Int.reduceEq, Int.reduceLT, Int.reduceLE, w64, st_nil, List.length_append, Nat.reduceMul]
  repeat' ((first | refine CallO_pure (p_Cut _ _ (by omega)) ?_ | refine CallO_pure (p_end _ _ (by omega) (by omega)) ?_ | refine NewB_intro0 (fun b => ?_) | (refine NewB_intro (fun b hb => ?_); simp only [ln_cons2, ln_nil, and_true] at hb) | (with_reducible apply And.intro; (focus (first | omega | (simp only [Fact, Bool.not_eq_true', Bool.not_eq_false', decide_eq_true_eq, decide_eq_false_iff_not] at *; omega)))) | ((first | refine gW_sp ?_ | refine condW_sp ?_ | refine pickW_sp ?_); (try refine Sp_n ?_); (first | refine Sp_t (by assumption) ?_ | refine Sp_f (by assumption) ?_ | refine Sp_split (fun h => ?_) (fun h => ?_)) <;> (first | have h' := Fact_lt h | have h' := Fact_nlt h | have h' := Fact_le h | have h' := Fact_nle h | skip) <;> (try (exfalso; omega))) | refine TreeW_intro (by rfl) ?_ | refine TreeW_all ?_ | refine upQ_intro ?_ | refine Two_intro ?_ ?_ | (refine leK_lit ?_; (simp [-List.getD_eq_getElem?_getD, LeL, lk, *]; done)) | (refine leK_dd ?_; (simp [-List.getD_eq_getElem?_getD, LeS, LeL, lk, *]; done)) | (simp only [Fact, Bool.not_eq_true', Bool.not_eq_false', decide_eq_true_eq, decide_eq_false_iff_not] at *; refine leK_dd ?_; (simp [-List.getD_eq_getElem?_getD, LeS, LeL, lk, *]; done)) | (show (_ : Nat) ≤ _; omega)) <;> (try simp (disch := omega) only [*, ↓Ed, Eu, ↓reduceIte, reduceCtorEq, Nat.reduceAdd, Nat.reduceEqDiff, Nat.reduceLT, Nat.reduceLeDiff, Int.reduceToNat, Int.reduceEq, Int.reduceLT, Int.reduceLE, w64, st_nil, List.length_append, Nat.reduceMul]))
  all_goals (try simp only [Fact, Bool.not_eq_true', Bool.not_eq_false', decide_eq_true_eq, decide_eq_false_iff_not] at *)
  all_goals simp [parseP, *]
end Go.Proofs.YtlefegihikpilaaDoor

/- chapter 3: the document's texts -/
namespace Go.Proofs.YtlefegihikpilaaDoor
set_option linter.all false
open Go.RowKit
set_option maxRecDepth 100000
theorem tm10 (u : Nat) : (u : Int).tmod 10 = ((u % 10 : Nat) : Int) := rfl
theorem td10 (u : Nat) : (u : Int).tdiv 10 = ((u / 10 : Nat) : Int) := rfl
theorem w64b (c : UInt8) : IntKind.i64.wrap (c.toNat : Int) = c.toNat := w64 (by have := c.toNat_lt; omega)
theorem el_d (n : Nat) : [[AV.int .u8 (IntKind.u8.wrap (48 + ((n % 10 : Nat) : Int)))]] = bts [UInt8.ofNat (48 + n % 10)] := by
  simp only [bts, List.map_cons, List.map_nil, byteEl, List.cons.injEq, AV.int.injEq, and_true, true_and]
  rw [u8n (by omega), IntKind.wrap_u8]; omega
def digR (u : Nat) (out : List UInt8) : List UInt8 := if u = 0 then out else dig u ++ out
theorem digR_step {u : Nat} (out : List UInt8) (h : 0 < u) : digR (u / 10) (UInt8.ofNat (48 + u % 10) :: out) = digR u out := by
  unfold digR
  rw [if_neg (show ¬ u = 0 by omega)]
  by_cases hu : u < 10
  · rw [if_pos (by omega), dig_lo hu, show u % 10 = u by omega]; rfl
  · rw [if_neg (by omega), dig_hi hu]; simp
theorem digR_first (n : Nat) : digR (n / 10) [UInt8.ofNat (48 + n % 10)] = dig n := by
  by_cases h : n = 0
  · subst h; rw [dig_lo (by omega)]; rfl
  · rw [digR_step [] (by omega)]; unfold digR; rw [if_neg h, List.append_nil]
theorem p_Digits (n : Nat) (hn : n ≤ 72057594037927935) : CP Tryd.prog 18 [.int .i64 n] (.str (dig n)) := by
  have hm := max_big
  have hl := dig_len 16 n (by omega)
  refine ok_ligref1_Digits _ _ (by simp) ?_
  simp only [c_ligref1_Digits, ↓Ed, Eu, ↓reduceIte, reduceCtorEq, Nat.reduceAdd, Nat.reduceEqDiff, Nat.reduceLT, Nat.reduceLeDiff, Int.reduceToNat, Int.reduceEq, Int.reduceLT, Int.reduceLE, w64, st_nil, List.length_append, Nat.reduceMul, tm10, td10, List.length_map, w64b]
  repeat' ((first | refine NewB_intro0 (fun b => ?_) | (refine NewB_intro (fun b hb => ?_); simp only [ln_cons2, ln_nil, and_true] at hb) | (with_reducible apply And.intro; (focus (first | omega | (simp only [Fact, Bool.not_eq_true', Bool.not_eq_false', decide_eq_true_eq, decide_eq_false_iff_not] at *; omega)))) | ((first | refine gW_sp ?_ | refine condW_sp ?_ | refine pickW_sp ?_); (try refine Sp_n ?_); (first | refine Sp_t (by assumption) ?_ | refine Sp_f (by assumption) ?_ | refine Sp_split (fun h => ?_) (fun h => ?_)) <;> (first | have h' := Fact_lt h | have h' := Fact_nlt h | have h' := Fact_le h | have h' := Fact_nle h | skip) <;> (try (exfalso; omega))) | refine TreeW_intro (by rfl) ?_ | refine TreeW_all ?_ | refine upQ_intro ?_ | refine Two_intro ?_ ?_ | (refine leK_lit ?_; (simp [-List.getD_eq_getElem?_getD, LeL, lk, *]; done)) | (refine leK_dd ?_; (simp [-List.getD_eq_getElem?_getD, LeS, LeL, lk, *]; done)) | (simp only [Fact, Bool.not_eq_true', Bool.not_eq_false', decide_eq_true_eq, decide_eq_false_iff_not] at *; refine leK_dd ?_; (simp [-List.getD_eq_getElem?_getD, LeS, LeL, lk, *]; done)) | (show (_ : Nat) ≤ _; omega)) <;> (try simp (disch := omega) only [*, ↓Ed, Eu, ↓reduceIte, reduceCtorEq, Nat.reduceAdd, Nat.reduceEqDiff, Nat.reduceLT, Nat.reduceLeDiff, Int.reduceToNat, Int.reduceEq, Int.reduceLT, Int.reduceLE, w64, st_nil, List.length_append, Nat.reduceMul, tm10, td10, List.length_map, w64b]))
  simp (disch := omega) only [el_d, ↓Ed, Eu, ↓reduceIte, reduceCtorEq, Nat.reduceAdd, Nat.reduceEqDiff, Nat.reduceLT, Nat.reduceLeDiff, Int.reduceToNat, Int.reduceEq, Int.reduceLT, Int.reduceLE, w64, st_nil, List.length_append, Nat.reduceMul, tm10, td10, List.length_map, w64b]
  refine wpx_loop (fun x : List UInt8 × Nat => ⟨lk [(0, .int .i64 (x.2 : Int)), (3, .sl (some 5) 1 (bts x.1))], lk []⟩) (fun x => Fact (digR x.2 x.1 = dig n) ∧ x.1.length ≤ 17 ∧ x.2 ≤ 72057594037927935) (fun x => x.2) ([UInt8.ofNat (48 + n % 10)], n / 10) ⟨digR_first n, by simp, by simp only; omega⟩ (Le_lit (by simp [LeL, lk])) ?_
  rintro ⟨out, u⟩ ⟨h1, h2, h3⟩
  simp only at h1 h2 h3
  simp only [↓Ed, Eu, ↓reduceIte, reduceCtorEq, Nat.reduceAdd, Nat.reduceEqDiff, Nat.reduceLT, Nat.reduceLeDiff, Int.reduceToNat, Int.reduceEq, Int.reduceLT, Int.reduceLE, w64, st_nil, List.length_append, Nat.reduceMul, tm10, td10, List.length_map, w64b]
  repeat' ((first | refine NewB_intro0 (fun b => ?_) | (refine NewB_intro (fun b hb => ?_); simp only [ln_cons2, ln_nil, and_true] at hb) | (with_reducible apply And.intro; (focus (first | omega | (simp only [Fact, Bool.not_eq_true', Bool.not_eq_false', decide_eq_true_eq, decide_eq_false_iff_not] at *; omega)))) | ((first | refine gW_sp ?_ | refine condW_sp ?_ | refine pickW_sp ?_); (try refine Sp_n ?_); (first | refine Sp_t (by assumption) ?_ | refine Sp_f (by assumption) ?_ | refine Sp_split (fun h => ?_) (fun h => ?_)) <;> (first | have h' := Fact_lt h | have h' := Fact_nlt h | have h' := Fact_le h | have h' := Fact_nle h | skip) <;> (try (exfalso; omega))) | refine TreeW_intro (by rfl) ?_ | refine TreeW_all ?_ | refine upQ_intro ?_ | refine Two_intro ?_ ?_ | (refine leK_lit ?_; (simp [-List.getD_eq_getElem?_getD, LeL, lk, *]; done)) | (refine leK_dd ?_; (simp [-List.getD_eq_getElem?_getD, LeS, LeL, lk, *]; done)) | (simp only [Fact, Bool.not_eq_true', Bool.not_eq_false', decide_eq_true_eq, decide_eq_false_iff_not] at *; refine leK_dd ?_; (simp [-List.getD_eq_getElem?_getD, LeS, LeL, lk, *]; done)) | (show (_ : Nat) ≤ _; omega)) <;> (try simp (disch := omega) only [*, ↓Ed, Eu, ↓reduceIte, reduceCtorEq, Nat.reduceAdd, Nat.reduceEqDiff, Nat.reduceLT, Nat.reduceLeDiff, Int.reduceToNat, Int.reduceEq, Int.reduceLT, Int.reduceLE, w64, st_nil, List.length_append, Nat.reduceMul, tm10, td10, List.length_map, w64b]))
  all_goals (try simp only [Fact, Bool.not_eq_true', Bool.not_eq_false', decide_eq_true_eq, decide_eq_false_iff_not] at *)
  · have hl2 : out.length + 1 ≤ 17 := by
      rw [← h1] at hl
      unfold digR at hl
      rw [if_neg (by omega)] at hl
      have := List.length_pos_iff.2 (dig_ne u)
      simp only [List.length_append] at hl; omega
    rw [el_d, ← List.map_append]
    refine Round_lit (UInt8.ofNat (48 + u % 10) :: out, u / 10) ⟨Le_lit (by simp [LeL, lk]), ⟨(digR_step out (by omega)).trans h1, by simp only [List.length_cons]; omega, by simp only; omega⟩, by simp only; omega⟩
  · obtain rfl : u = 0 := by omega
    exact h1
theorem all_dig {s : List UInt8} {k : Nat} (hk : s.length ≤ k) (h : ∀ j, j < k → isDig (s.getD j 0)) : ∀ c ∈ s, isDig c := by
  intro c hc
  obtain ⟨i, hi, rfl⟩ := List.getElem_of_mem hc
  have := h i (by omega)
  rwa [List.getD, List.getElem?_eq_getElem hi] at this
theorem num_bad {s : List UInt8} {k : Nat} (hk : k < s.length) (h : ¬ isDig (s.getD k 0)) : ¬ numQ s := fun g => by
  refine h ?_
  rw [List.getD, List.getElem?_eq_getElem hk]
  exact g.1 _ (List.getElem_mem hk)
end Go.Proofs.YtlefegihikpilaaDoor

/- chapter 3: the document's ends and names -/
namespace Go.Proofs.YtlefegihikpilaaDoor
set_option linter.all false
open Go.RowKit
set_option maxRecDepth 100000
theorem byn (c : UInt8) : ((c.toNat : Int) = 47) = (c = 47) := propext ⟨fun h => UInt8.toNat_inj.1 (by have : (47 : UInt8).toNat = 47 := rfl; omega), fun h => by rw [h]; rfl⟩
theorem p_DigI (c : Int) (h : 0 ≤ c ∧ c ≤ 72057594037927935) : CP Tryd.prog 18 [.int .i64 c] (.str (Lib.itoa c)) := by
  rw [itoa_dig h.1]
  have e : c = (c.toNat : Int) := by omega
  have := p_Digits c.toNat (by omega)
  rwa [← e] at this
theorem p_EndText (p : List UInt8) (c : Int) (hs : p.length ≤ 1000000) : CP Tryd.prog 26 [.agg [.str p, .int .i64 c]] (.str (textP p c)) := by
  have hm := max_big
  have ht : mayP p c = true → _ := mayP_t
  refine ok_ligref1_EndText _ _ (by simp) ?_
  simp only [c_ligref1_EndText, ↓Ed, Eu, ↓reduceIte, reduceCtorEq, Nat.reduceAdd, Nat.reduceEqDiff, Nat.reduceLT, Nat.reduceLeDiff, Int.reduceToNat, Int.reduceEq, Int.reduceLT, Int.reduceLE, w64, st_nil, List.length_append, Nat.reduceMul, List.length_map, w64b, byn]
  repeat' ((first | refine CallO_pure (p_MayEnd p c (by omega)) ?_ | refine CallW_intro (p_DigI c (by simp only [Fact, Bool.not_eq_true', Bool.not_eq_false', decide_eq_true_eq, decide_eq_false_iff_not] at *; have := ht (by assumption); omega)) ?_ | refine NewB_intro0 (fun b => ?_) | (refine NewB_intro (fun b hb => ?_); simp only [ln_cons2, ln_nil, and_true] at hb) | (with_reducible apply And.intro; (focus (first | omega | (simp only [Fact, Bool.not_eq_true', Bool.not_eq_false', decide_eq_true_eq, decide_eq_false_iff_not] at *; omega)))) | ((first | refine gW_sp ?_ | refine condW_sp ?_ | refine pickW_sp ?_); (try refine Sp_n ?_); (first | refine Sp_t (by assumption) ?_ | refine Sp_f (by assumption) ?_ | refine Sp_split (fun h => ?_) (fun h => ?_)) <;> (first | have h' := Fact_lt h | have h' := Fact_nlt h | have h' := Fact_le h | have h' := Fact_nle h | skip) <;> (try (exfalso; omega))) | refine TreeW_intro (by rfl) ?_ | refine TreeW_all ?_ | refine upQ_intro ?_ | refine Two_intro ?_ ?_ | (refine leK_lit ?_; (simp [-List.getD_eq_getElem?_getD, LeL, lk, *]; done)) | (refine leK_dd ?_; (simp [-List.getD_eq_getElem?_getD, LeS, LeL, lk, *]; done)) | (simp only [Fact, Bool.not_eq_true', Bool.not_eq_false', decide_eq_true_eq, decide_eq_false_iff_not] at *; refine leK_dd ?_; (simp [-List.getD_eq_getElem?_getD, LeS, LeL, lk, *]; done)) | (show (_ : Nat) ≤ _; omega)) <;> (try simp (disch := omega) only [*, ↓Ed, Eu, ↓reduceIte, reduceCtorEq, Nat.reduceAdd, Nat.reduceEqDiff, Nat.reduceLT, Nat.reduceLeDiff, Int.reduceToNat, Int.reduceEq, Int.reduceLT, Int.reduceLE, w64, st_nil, List.length_append, Nat.reduceMul, List.length_map, w64b, byn]))
  all_goals (try simp only [Fact, Bool.not_eq_true', Bool.not_eq_false', decide_eq_true_eq, decide_eq_false_iff_not] at *)
  · have h1 := ht (by assumption)
    have h2 := dig_len3 ⟨h1.2.1, h1.2.2.1⟩
    exact ⟨by omega, by simp [textP, *]⟩
  · simp [textP, *]
end Go.Proofs.YtlefegihikpilaaDoor

/- chapter 32: the program's acts: what may be told, words, digits to sixteen -/
namespace Go.Proofs.YtlefegihikpilaaDoor
set_option linter.all false
open Go.RowKit
set_option maxRecDepth 100000
theorem sh4 (c : UInt8) : (c.toNat : Int).fdiv (2 ^ min 4 IntKind.u8.bits) = ((c.toNat / 16 : Nat) : Int) := by
  have : (2 ^ min 4 IntKind.u8.bits : Int) = 16 := by decide
  rw [this, Int.fdiv_eq_ediv_of_nonneg _ (by omega)]; omega
theorem an15' : ∀ n : Fin 256, IntKind.u8.wrap ((BitVec.ofInt IntKind.u8.bits (n.val : Int) &&& BitVec.ofInt IntKind.u8.bits 15).toNat) = ((n.val % 16 : Nat) : Int) := by decide +kernel
theorem an15 (c : UInt8) : IntKind.u8.wrap ((BitVec.ofInt IntKind.u8.bits (c.toNat : Int) &&& BitVec.ofInt IntKind.u8.bits 15).toNat) = ((c.toNat % 16 : Nat) : Int) := an15' ⟨c.toNat, c.toNat_lt⟩
theorem or16' : ∀ a b : Fin 16, IntKind.u8.wrap (IntKind.i64.wrap ((BitVec.ofInt IntKind.i64.bits (IntKind.i64.wrap ((a.val : Int) * 2 ^ min 4 IntKind.i64.bits)) ||| BitVec.ofInt IntKind.i64.bits (b.val : Int)).toNat)) = ((16 * a.val + b.val : Nat) : Int) := by decide +kernel
theorem dg_hexd : ∀ n : Fin 16, dgs.getD n.val 0 = hexd n.val := by decide
theorem dg_hex {n : Nat} (h : n < 16) : dgs.getD n 0 = hexd n := dg_hexd ⟨n, h⟩
theorem p_pword (k : Int) : CP Tryd.prog 50 [.int .i64 k] (.str (wd k)) := by
  refine ok_play_word _ _ (by simp) ?_
  simp only [c_play_word, ↓Ed, Eu, ↓reduceIte, reduceCtorEq, Nat.reduceAdd, Nat.reduceEqDiff, Nat.reduceLT, Nat.reduceLeDiff, Int.reduceToNat, Int.reduceEq, Int.reduceLT, Int.reduceLE, w64, List.length_append, List.length_map, sh4, an15, List.length_take, hexL_len, Nat.mul_one, List.map_append]
  repeat' ((first | refine NewB_intro0 (fun b => ?_) | (refine NewB_intro (fun b hb => ?_); simp only [ln_cons2, ln_nil, and_true] at hb) | (with_reducible apply And.intro; (focus (first | omega | (simp only [Fact, Bool.not_eq_true', Bool.not_eq_false', decide_eq_true_eq, decide_eq_false_iff_not] at *; omega)))) | ((first | refine gW_sp ?_ | refine condW_sp ?_ | refine pickW_sp ?_); (try refine Sp_n ?_); (first | refine Sp_t (by assumption) ?_ | refine Sp_f (by assumption) ?_ | refine Sp_split (fun h => ?_) (fun h => ?_)) <;> (first | have h' := Fact_lt h | have h' := Fact_nlt h | have h' := Fact_le h | have h' := Fact_nle h | skip) <;> (try (exfalso; omega))) | refine TreeW_intro (by rfl) ?_ | refine TreeW_all ?_ | refine upQ_intro ?_ | refine Two_intro ?_ ?_ | (refine leK_lit ?_; (simp [-List.getD_eq_getElem?_getD, LeL, lk, *]; done)) | (refine leK_dd ?_; (simp [-List.getD_eq_getElem?_getD, LeS, LeL, lk, *]; done)) | (simp only [Fact, Bool.not_eq_true', Bool.not_eq_false', decide_eq_true_eq, decide_eq_false_iff_not] at *; refine leK_dd ?_; (simp [-List.getD_eq_getElem?_getD, LeS, LeL, lk, *]; done)) | (show (_ : Nat) ≤ _; omega)) <;> (try simp (disch := omega) only [*, ↓Ed, Eu, ↓reduceIte, reduceCtorEq, Nat.reduceAdd, Nat.reduceEqDiff, Nat.reduceLT, Nat.reduceLeDiff, Int.reduceToNat, Int.reduceEq, Int.reduceLT, Int.reduceLE, w64, List.length_append, List.length_map, sh4, an15, List.length_take, hexL_len, Nat.mul_one, List.map_append]))
  all_goals (try simp only [Fact, Bool.not_eq_true', Bool.not_eq_false', decide_eq_true_eq, decide_eq_false_iff_not] at *)
  all_goals (unfold wd; simp [*])
theorem p_sideless (k : Int) : CP Tryd.prog 51 [.int .i64 k] (.bool (decide (k = 5 ∨ k = 6))) := by
  refine ok_play_sideless _ _ (by simp) ?_
  simp only [c_play_sideless, ↓Ed, Eu, ↓reduceIte, reduceCtorEq, Nat.reduceAdd, Nat.reduceEqDiff, Nat.reduceLT, Nat.reduceLeDiff, Int.reduceToNat, Int.reduceEq, Int.reduceLT, Int.reduceLE, w64, List.length_append, List.length_map, sh4, an15, List.length_take, hexL_len, Nat.mul_one, List.map_append]
  repeat' ((first | refine NewB_intro0 (fun b => ?_) | (refine NewB_intro (fun b hb => ?_); simp only [ln_cons2, ln_nil, and_true] at hb) | (with_reducible apply And.intro; (focus (first | omega | (simp only [Fact, Bool.not_eq_true', Bool.not_eq_false', decide_eq_true_eq, decide_eq_false_iff_not] at *; omega)))) | ((first | refine gW_sp ?_ | refine condW_sp ?_ | refine pickW_sp ?_); (try refine Sp_n ?_); (first | refine Sp_t (by assumption) ?_ | refine Sp_f (by assumption) ?_ | refine Sp_split (fun h => ?_) (fun h => ?_)) <;> (first | have h' := Fact_lt h | have h' := Fact_nlt h | have h' := Fact_le h | have h' := Fact_nle h | skip) <;> (try (exfalso; omega))) | refine TreeW_intro (by rfl) ?_ | refine TreeW_all ?_ | refine upQ_intro ?_ | refine Two_intro ?_ ?_ | (refine leK_lit ?_; (simp [-List.getD_eq_getElem?_getD, LeL, lk, *]; done)) | (refine leK_dd ?_; (simp [-List.getD_eq_getElem?_getD, LeS, LeL, lk, *]; done)) | (simp only [Fact, Bool.not_eq_true', Bool.not_eq_false', decide_eq_true_eq, decide_eq_false_iff_not] at *; refine leK_dd ?_; (simp [-List.getD_eq_getElem?_getD, LeS, LeL, lk, *]; done)) | (show (_ : Nat) ≤ _; omega)) <;> (try simp (disch := omega) only [*, ↓Ed, Eu, ↓reduceIte, reduceCtorEq, Nat.reduceAdd, Nat.reduceEqDiff, Nat.reduceLT, Nat.reduceLeDiff, Int.reduceToNat, Int.reduceEq, Int.reduceLT, Int.reduceLE, w64, List.length_append, List.length_map, sh4, an15, List.length_take, hexL_len, Nat.mul_one, List.map_append]))
  all_goals (try simp only [Fact, Bool.not_eq_true', Bool.not_eq_false', decide_eq_true_eq, decide_eq_false_iff_not] at *)
  all_goals simp [*]
theorem p_plain (x : Act) : CP Tryd.prog 48 [.agg x.cs] (.agg (plainA x).cs) := by
  refine ok_play_plain _ _ (by simp) ?_
  simp only [c_play_plain, ↓Ed, Eu, ↓reduceIte, reduceCtorEq, Nat.reduceAdd, Nat.reduceEqDiff, Nat.reduceLT, Nat.reduceLeDiff, Int.reduceToNat, Int.reduceEq, Int.reduceLT, Int.reduceLE, w64, List.length_append, List.length_map, sh4, an15, List.length_take, hexL_len, Nat.mul_one, List.map_append]
  repeat' ((first | refine NewB_intro0 (fun b => ?_) | (refine NewB_intro (fun b hb => ?_); simp only [ln_cons2, ln_nil, and_true] at hb) | (with_reducible apply And.intro; (focus (first | omega | (simp only [Fact, Bool.not_eq_true', Bool.not_eq_false', decide_eq_true_eq, decide_eq_false_iff_not] at *; omega)))) | ((first | refine gW_sp ?_ | refine condW_sp ?_ | refine pickW_sp ?_); (try refine Sp_n ?_); (first | refine Sp_t (by assumption) ?_ | refine Sp_f (by assumption) ?_ | refine Sp_split (fun h => ?_) (fun h => ?_)) <;> (first | have h' := Fact_lt h | have h' := Fact_nlt h | have h' := Fact_le h | have h' := Fact_nle h | skip) <;> (try (exfalso; omega))) | refine TreeW_intro (by rfl) ?_ | refine TreeW_all ?_ | refine upQ_intro ?_ | refine Two_intro ?_ ?_ | (refine leK_lit ?_; (simp [-List.getD_eq_getElem?_getD, LeL, lk, *]; done)) | (refine leK_dd ?_; (simp [-List.getD_eq_getElem?_getD, LeS, LeL, lk, *]; done)) | (simp only [Fact, Bool.not_eq_true', Bool.not_eq_false', decide_eq_true_eq, decide_eq_false_iff_not] at *; refine leK_dd ?_; (simp [-List.getD_eq_getElem?_getD, LeS, LeL, lk, *]; done)) | (show (_ : Nat) ≤ _; omega)) <;> (try simp (disch := omega) only [*, ↓Ed, Eu, ↓reduceIte, reduceCtorEq, Nat.reduceAdd, Nat.reduceEqDiff, Nat.reduceLT, Nat.reduceLeDiff, Int.reduceToNat, Int.reduceEq, Int.reduceLT, Int.reduceLE, w64, List.length_append, List.length_map, sh4, an15, List.length_take, hexL_len, Nat.mul_one, List.map_append]))
  all_goals (try simp only [Fact, Bool.not_eq_true', Bool.not_eq_false', decide_eq_true_eq, decide_eq_false_iff_not] at *)
  all_goals (simp [plainA, *])
end Go.Proofs.YtlefegihikpilaaDoor
