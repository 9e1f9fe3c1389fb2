import Derived.Test.YtbjmcmgekcmbpaaGreatDoorK14
import Derived.Test.YtbjmcmgekcmbpaaGreatDoorK20
import Derived.Test.YtbjmcmgekcmbpaaGreatDoorK19
/- chapter 21: a configuration as a text: what is printed is parsed as it was; blanks, remarks and lines without words change nothing -/
namespace Go.Proofs.YtbjmcmgekcmbpaaGreatDoor
set_option linter.all false
open Go.RowKit
set_option maxRecDepth 100000
def chainW (side n : List UInt8) (l : Lim) : List (List UInt8) := [cChain, side, n, cGas, Lib.itoa l.g, cBytes, Lib.itoa l.b, cCount, Lib.itoa l.n]
noncomputable def pathWs (p : PathC) : List (List UInt8) := [cPath, textP p.ap p.ac, textP p.bp p.bc, if p.o = true then cOrd else cUno]
def ruleWs (r : RuleC) : List (List UInt8) := [if r.al = true then cAllow else cDeny, r.pt]
def ivWs (n : Int) : List (List UInt8) := [cIvl, Lib.itoa n]
noncomputable def wordsC (c : Conf) : List (List (List UInt8)) := chainW [97] c.a c.la :: chainW [98] c.b c.lb :: (c.ps.map pathWs ++ (c.rs.map ruleWs ++ [ivWs c.iv]))
def lnOf (w : List (List UInt8)) : List UInt8 := Lib.join w [32]
noncomputable def linesC (c : Conf) : List (List UInt8) := (wordsC c).map lnOf
def endL (l : List (List UInt8)) : List UInt8 := l.flatMap (· ++ [10])
noncomputable def textC (c : Conf) : List UInt8 := endL (linesC c)
noncomputable def printC (c : Conf) : List UInt8 × Int := if confMay c = true then (textC c, 0) else ([], 1)
/-! words -/
def visW (w : List UInt8) : Prop := w ≠ [] ∧ ∀ c ∈ w, 36 ≤ c.toNat
theorem vis_blk {c : UInt8} (h : 36 ≤ c.toNat) : blk c = false := by
  unfold blk
  rw [Bool.or_eq_false_iff]
  constructor <;> (apply decide_eq_false; rintro rfl; simp at h)
theorem vis_35 {c : UInt8} (h : 36 ≤ c.toNat) : c ≠ 35 := by rintro rfl; simp at h
theorem vis_10 {c : UInt8} (h : 36 ≤ c.toNat) : c ≠ 10 := by rintro rfl; simp at h
theorem vis_dig (n : Nat) : visW (dig n) := ⟨dig_ne n, fun c hc => by have := (dig_all n c hc).1; omega⟩
theorem vis_itoa {n : Int} (h : 0 ≤ n) : visW (Lib.itoa n) := by rw [itoa_dig h]; exact vis_dig _
theorem vis_getD {s : List UInt8} (h : ∀ j, j < s.length → 36 ≤ (s.getD j 0).toNat) : ∀ c ∈ s, 36 ≤ c.toNat := fun c hc => by
  obtain ⟨j, hj, e⟩ := List.getElem_of_mem hc
  have := h j hj
  rw [List.getD, List.getElem?_eq_getElem hj, Option.getD_some, e] at this
  exact this
theorem vis_name {s : List UInt8} (h : nameP s = true) : visW s := by
  obtain ⟨h1, _, h3⟩ := nameP_iff.1 h
  refine ⟨h1, vis_getD fun j hj => ?_⟩
  have := h3 j hj
  unfold okAt at this
  omega
theorem vis_pat {s : List UInt8} (h : mayG s = true) : visW s := by
  obtain ⟨h1, _, h3⟩ := mayG_iff.1 h
  refine ⟨h1, vis_getD fun j hj => ?_⟩
  have := h3 j hj
  unfold sgn at this
  omega
theorem vis_app {a b : List UInt8} (h : visW a) (g : ∀ c ∈ b, 36 ≤ c.toNat) : visW (a ++ b) := ⟨by simp [h.1], fun c hc => (List.mem_append.1 hc).elim (h.2 c) (g c)⟩
theorem vis_text {p : List UInt8} {c : Int} (h : mayP p c = true) : visW (textP p c) := by
  obtain ⟨_, h1, _, h2⟩ := mayP_t h
  unfold textP
  rw [if_pos h]
  refine vis_app (vis_app (vis_app (vis_name (nameP_t h2)) ?_) ?_) (vis_itoa h1).2
  · simp
  · decide
theorem noHash_app {a r : List UInt8} (h : ∀ c ∈ a, c ≠ 35) : noHash (a ++ 35 :: r) = a := by
  induction a with
  | nil => simp [noHash]
  | cons c a ih =>
    unfold noHash at ih ⊢
    rw [List.cons_append, List.takeWhile_cons, if_pos (by simpa using h c (by simp)), ih (fun d hd => h d (by simp [hd]))]
theorem noHash_same {a : List UInt8} (h : ∀ c ∈ a, c ≠ 35) : noHash a = a := by
  induction a with
  | nil => rfl
  | cons c a ih =>
    unfold noHash at ih ⊢
    rw [List.takeWhile_cons, if_pos (by simpa using h c (by simp)), ih (fun d hd => h d (by simp [hd]))]
theorem wgo_blk {b : UInt8} (h : blk b = true) (s : List UInt8) : wgo [] (b :: s) = wgo [] s := by rw [wgo, if_pos h, if_pos rfl]
theorem wgo_word {w : List UInt8} (h : visW w) {b : UInt8} (hb : blk b = true) (s : List UInt8) : wgo [] (w ++ b :: s) = w :: wgo [] s := by
  rw [wgo_skip w [] _ (fun c hc => vis_blk (h.2 c hc)), List.nil_append, wgo, if_pos hb, if_neg h.1]
theorem wgo_last {w : List UInt8} (h : visW w) : wgo [] w = [w] := by
  have := wgo_skip w [] [] (fun c hc => vis_blk (h.2 c hc))
  rw [List.append_nil, List.nil_append] at this
  rw [this, wgo, if_neg h.1]
theorem join1 (w s : List UInt8) : Lib.join [w] s = w := by simp [Lib.join, List.intercalate]
theorem join2 (w v : List UInt8) (l : List (List UInt8)) (s : List UInt8) : Lib.join (w :: v :: l) s = w ++ (s ++ Lib.join (v :: l) s) := by simp [Lib.join, List.intercalate]
theorem wgo_join : ∀ (l : List (List UInt8)), (∀ w ∈ l, visW w) → ∀ t : List UInt8, (t = [] ∨ ∃ b t', t = b :: t' ∧ blk b = true) → l ≠ [] → wgo [] (Lib.join l [32] ++ t) = l ++ wgo [] t
  | [], _, t, _, hn => absurd rfl hn
  | [w], h, t, ht, _ => by
    rcases ht with rfl | ⟨b, t', rfl, hb⟩
    · rw [join1, List.append_nil]
      rw [wgo_last (h w (by simp))]; simp [wgo]
    · rw [join1]
      rw [wgo_word (h w (by simp)) hb, wgo_blk hb]; rfl
  | w :: v :: l, h, t, ht, _ => by
    have ih := wgo_join (v :: l) (fun x hx => h x (by simp [hx])) t ht (by simp)
    have e : Lib.join (w :: v :: l) [32] ++ t = w ++ 32 :: (Lib.join (v :: l) [32] ++ t) := by rw [join2]; simp
    rw [e, wgo_word (h w (by simp)) (by decide), ih]; rfl
theorem join_all {P : UInt8 → Prop} (h32 : P 32) : ∀ (l : List (List UInt8)), (∀ w ∈ l, ∀ c ∈ w, P c) → ∀ c ∈ Lib.join l [32], P c
  | [], _, c, hc => by simp [Lib.join] at hc
  | [w], h, c, hc => by rw [join1] at hc; exact h w (by simp) c hc
  | w :: v :: l, h, c, hc => by
    have e : Lib.join (w :: v :: l) [32] = w ++ 32 :: Lib.join (v :: l) [32] := by rw [join2]; simp
    rw [e, List.mem_append, List.mem_cons] at hc
    rcases hc with hc | rfl | hc
    · exact h w (by simp) c hc
    · exact h32
    · exact join_all h32 (v :: l) (fun x hx => h x (by simp [hx])) c hc
def wsOk (l : List (List UInt8)) : Prop := l ≠ [] ∧ ∀ w ∈ l, visW w
theorem ln_35 {l : List (List UInt8)} (h : wsOk l) : ∀ c ∈ lnOf l, c ≠ 35 := join_all (by decide) l fun w hw c hc => vis_35 ((h.2 w hw).2 c hc)
theorem ln_10 {l : List (List UInt8)} (h : wsOk l) : 10 ∉ lnOf l := fun hc => join_all (P := fun c => c ≠ 10) (by decide) l (fun w hw c hc => vis_10 ((h.2 w hw).2 c hc)) 10 hc rfl
theorem words_ln {l : List (List UInt8)} (h : wsOk l) : wordsL (lnOf l) = l := by
  unfold wordsL
  rw [noHash_same (ln_35 h)]
  have := wgo_join l h.2 [] (.inl rfl) h.1
  rw [List.append_nil] at this
  unfold lnOf
  rw [this]; simp [wgo]
/-- A line with blanks ahead and behind, and a remark. -/
def noted (l note : List UInt8) : List UInt8 := [32, 9] ++ l ++ [32, 32, 35] ++ note
theorem words_noted {l : List (List UInt8)} (h : wsOk l) (note : List UInt8) : wordsL (noted (lnOf l) note) = l := by
  unfold wordsL
  have e : noted (lnOf l) note = ([32, 9] ++ lnOf l ++ [32, 32]) ++ 35 :: note := by simp [noted]
  rw [e, noHash_app]
  · have e2 : [32, 9] ++ lnOf l ++ [32, 32] = 32 :: 9 :: (lnOf l ++ [32, 32]) := by simp
    rw [e2, wgo_blk (by decide), wgo_blk (by decide)]
    unfold lnOf
    rw [wgo_join l h.2 [32, 32] (.inr ⟨32, [32], rfl, by decide⟩) h.1]
    simp [wgo, blk]
  · intro c hc
    simp only [List.mem_append, List.mem_cons, List.not_mem_nil, or_false] at hc
    rcases hc with ((rfl | rfl) | hc) | (rfl | rfl)
    · decide
    · decide
    · exact ln_35 h c hc
    · decide
    · decide
/-! the words are fit -/
theorem ws_chain {s n : List UInt8} {l : Lim} (hs : visW s) (hn : nameP n = true) (hl : limQ l) : wsOk (chainW s n l) := by
  obtain ⟨h1, h2, h3⟩ := hl
  refine ⟨by simp [chainW], fun w hw => ?_⟩
  simp only [chainW, List.mem_cons, List.not_mem_nil, or_false] at hw
  rcases hw with rfl | rfl | rfl | rfl | rfl | rfl | rfl | rfl | rfl
  all_goals first | exact hs | exact vis_name hn | exact vis_itoa (by omega) | exact ⟨by simp, by decide⟩
theorem pathMay_iff {p : PathC} : pathMay p = true ↔ mayP p.ap p.ac = true ∧ mayP p.bp p.bc = true := by simp [pathMay]
theorem ws_path {p : PathC} (h : pathMay p = true) : wsOk (pathWs p) := by
  obtain ⟨h1, h2⟩ := pathMay_iff.1 h
  refine ⟨by simp [pathWs], fun w hw => ?_⟩
  simp only [pathWs, List.mem_cons, List.not_mem_nil, or_false] at hw
  rcases hw with rfl | rfl | rfl | rfl
  · exact ⟨by simp, by decide⟩
  · exact vis_text h1
  · exact vis_text h2
  · split <;> exact ⟨by simp, by decide⟩
theorem ws_rule {r : RuleC} (h : mayG r.pt = true) : wsOk (ruleWs r) := by
  refine ⟨by simp [ruleWs], fun w hw => ?_⟩
  simp only [ruleWs, List.mem_cons, List.not_mem_nil, or_false] at hw
  rcases hw with rfl | rfl
  · split <;> exact ⟨by simp, by decide⟩
  · exact vis_pat h
theorem ws_iv {n : Int} (h : 0 ≤ n) : wsOk (ivWs n) := by
  refine ⟨by simp [ivWs], fun w hw => ?_⟩
  simp only [ivWs, List.mem_cons, List.not_mem_nil, or_false] at hw
  rcases hw with rfl | rfl
  · exact ⟨by simp, by decide⟩
  · exact vis_itoa h
theorem mem_getD {α : Type} [Inhabited α] {l : List α} {x : α} (h : x ∈ l) : ∃ i, i < l.length ∧ l.getD i default = x := by
  obtain ⟨i, hi, e⟩ := List.getElem_of_mem h
  exact ⟨i, hi, by rw [List.getD, List.getElem?_eq_getElem hi, Option.getD_some, e]⟩
theorem ws_conf {c : Conf} (h : confQ c) : ∀ w ∈ wordsC c, wsOk w := by
  obtain ⟨h1, h2, h3, h4, h5, h6, h7, h8, h9, h10⟩ := h
  intro w hw
  simp only [wordsC, List.mem_cons, List.mem_append, List.mem_map, List.not_mem_nil, or_false] at hw
  rcases hw with rfl | rfl | ⟨p, hp, rfl⟩ | ⟨r, hr, rfl⟩ | rfl
  · exact ws_chain ⟨by simp, by decide⟩ h1 h4
  · exact ws_chain ⟨by simp, by decide⟩ h2 h5
  · obtain ⟨i, hi, rfl⟩ := mem_getD hp; exact ws_path (h9 i hi).1
  · obtain ⟨i, hi, rfl⟩ := mem_getD hr; exact ws_rule (h10 i hi)
  · exact ws_iv (by unfold ivQ at h6; omega)
/-! lengths -/
theorem join_len : ∀ (l : List (List UInt8)), (Lib.join l [32]).length ≤ (l.map (·.length + 1)).sum
  | [] => by simp [Lib.join]
  | [w] => by simp [Lib.join]
  | w :: v :: l => by
    have := join_len (v :: l)
    rw [join2]
    simp only [List.map_cons, List.sum_cons, List.length_append, List.length_cons, List.length_nil] at *
    omega
theorem itoa_len10 {n : Int} (h : 0 ≤ n ∧ n ≤ 1073741824) : (Lib.itoa n).length ≤ 10 := by rw [itoa_dig h.1]; exact dig_len 9 _ (by omega)
theorem text_len24 {p : List UInt8} {c : Int} (h : mayP p c = true) : (textP p c).length ≤ 24 := by
  obtain ⟨h0, h1, h3, _⟩ := mayP_t h
  have := dig_len3 ⟨h1, h3⟩
  unfold textP
  rw [if_pos h]
  simp; omega
theorem ln_chain {s n : List UInt8} {l : Lim} (hs : s.length = 1) (hn : nameP n = true) (hl : limQ l) : (lnOf (chainW s n l)).length ≤ 95 := by
  obtain ⟨h1, h2, h3⟩ := hl
  have a := itoa_len10 (n := l.g) (by omega)
  have b := itoa_len10 (n := l.b) (by omega)
  have c := itoa_len10 (n := l.n) (by omega)
  have d := (nameP_iff.1 hn).2.1
  refine Nat.le_trans (join_len _) ?_
  simp [chainW]; omega
theorem ln_path {p : PathC} (h : pathMay p = true) : (lnOf (pathWs p)).length ≤ 95 := by
  obtain ⟨h1, h2⟩ := pathMay_iff.1 h
  have a := text_len24 h1
  have b := text_len24 h2
  refine Nat.le_trans (join_len _) ?_
  unfold pathWs
  split <;> (simp; omega)
theorem ln_rule {r : RuleC} (h : mayG r.pt = true) : (lnOf (ruleWs r)).length ≤ 95 := by
  have a := (mayG_iff.1 h).2.1
  refine Nat.le_trans (join_len _) ?_
  unfold ruleWs
  split <;> (simp; omega)
theorem ln_iv {n : Int} (h : ivQ n) : (lnOf (ivWs n)).length ≤ 95 := by
  unfold ivQ at h
  have a := itoa_len10 (n := n) (by omega)
  refine Nat.le_trans (join_len _) ?_
  simp [ivWs]; omega
theorem ln_conf {c : Conf} (h : confQ c) : ∀ w ∈ wordsC c, (lnOf w).length ≤ 95 := by
  obtain ⟨h1, h2, h3, h4, h5, h6, h7, h8, h9, h10⟩ := h
  intro w hw
  simp only [wordsC, List.mem_cons, List.mem_append, List.mem_map, List.not_mem_nil, or_false] at hw
  rcases hw with rfl | rfl | ⟨p, hp, rfl⟩ | ⟨r, hr, rfl⟩ | rfl
  · exact ln_chain rfl h1 h4
  · exact ln_chain rfl h2 h5
  · obtain ⟨i, hi, rfl⟩ := mem_getD hp; exact ln_path (h9 i hi).1
  · obtain ⟨i, hi, rfl⟩ := mem_getD hr; exact ln_rule (h10 i hi)
  · exact ln_iv h6
theorem wordsC_len {c : Conf} (h : confQ c) : (wordsC c).length ≤ 41 := by
  obtain ⟨h1, h2, h3, h4, h5, h6, h7, h8, h9, h10⟩ := h
  simp [wordsC]; omega
theorem endL_len (n : Nat) : ∀ (l : List (List UInt8)), (∀ t ∈ l, t.length ≤ n) → (endL l).length ≤ l.length * (n + 1)
  | [], _ => by simp [endL]
  | t :: l, h => by
    have := endL_len n l fun x hx => h x (by simp [hx])
    have h0 := h t (by simp)
    simp only [endL, List.flatMap_cons, List.length_append, List.length_cons, List.length_nil, Nat.succ_mul] at *
    omega
theorem textC_len {c : Conf} (h : confQ c) : (textC c).length ≤ 4000 := by
  have h1 := wordsC_len h
  have h2 := endL_len 95 (linesC c) (fun t ht => by
    simp only [linesC, List.mem_map] at ht
    obtain ⟨w, hw, rfl⟩ := ht
    exact ln_conf h w hw)
  have h3 : (linesC c).length = (wordsC c).length := by simp [linesC]
  unfold textC
  omega
/-! lines -/
theorem spx_endL : ∀ (l : List (List UInt8)), (∀ t ∈ l, 10 ∉ t) → spx 10 (endL l) = l ++ [[]]
  | [], _ => by simp [endL, spx]
  | t :: l, h => by
    have e : endL (t :: l) = t ++ 10 :: endL l := by simp [endL]
    rw [e, spx_cut (h t (by simp)), spx_endL l (fun x hx => h x (by simp [hx]))]; rfl
theorem linesD_endL {l : List (List UInt8)} (h : ∀ t ∈ l, 10 ∉ t) : linesD (endL l) = l := by
  rw [linesD_out (spx_endL l h), if_pos rfl]
theorem linesC_10 {c : Conf} (h : confQ c) : ∀ t ∈ linesC c, 10 ∉ t := fun t ht => by
  simp only [linesC, List.mem_map] at ht
  obtain ⟨w, hw, rfl⟩ := ht
  exact ln_10 (ws_conf h w hw)
theorem lines_text {c : Conf} (h : confQ c) : linesD (textC c) = linesC c := linesD_endL (linesC_10 h)
/-! steps -/
noncomputable def runW : PS → List (List (List UInt8)) → Option PS
  | x, [] => some x
  | x, w :: r => if (lineW x w).2 = 0 then runW (lineW x w).1 r else none
theorem runW_app : ∀ (a b : List (List (List UInt8))) (x : PS), runW x (a ++ b) = (runW x a).bind fun y => runW y b
  | [], b, x => by simp [runW]
  | w :: a, b, x => by
    rw [List.cons_append, runW, runW]
    split
    · exact runW_app a b _
    · rfl
theorem goQ_run : ∀ (l rest : List (List UInt8)) (x y : PS) (i : Nat), (∀ t ∈ l, t.length ≤ 120) → runW x (l.map wordsL) = some y → goQ x i (l ++ rest) = goQ y (i + l.length) rest
  | [], rest, x, y, i, _, h => by
    simp only [List.map_nil, runW, Option.some.injEq] at h
    subst h; rfl
  | t :: l, rest, x, y, i, hl, h => by
    rw [List.map_cons, runW] at h
    split at h
    · rename_i g
      have e : lineQ x t = lineW x (wordsL t) := by unfold lineQ; rw [if_neg (by have := hl t (by simp); omega)]
      rw [List.cons_append, goQ, e, if_pos g, goQ_run l rest _ y (i + 1) (fun u hu => hl u (by simp [hu])) h]
      congr 1
      simp; omega
    · cases h
theorem lw_nil (x : PS) : lineW x [] = (x, 0) := by simp [lineW]
theorem lw_chain (x : PS) (w : List (List UInt8)) : lineW x (cChain :: w) = chainQ x (cChain :: w) := by
  unfold lineW; rw [if_neg (by simp), if_pos (by simp)]
theorem lw_path (x : PS) (w : List (List UInt8)) : lineW x (cPath :: w) = pathQ x (cPath :: w) := by
  unfold lineW; rw [if_neg (by simp), if_neg (by simp), if_pos (by simp)]
theorem lw_rule (x : PS) (b : Bool) (w : List (List UInt8)) : lineW x ((if b = true then cAllow else cDeny) :: w) = ruleQ x ((if b = true then cAllow else cDeny) :: w) := by
  unfold lineW; rw [if_neg (by simp), if_neg (by cases b <;> simp), if_neg (by cases b <;> simp), if_pos (by cases b <;> simp)]
theorem lw_iv (x : PS) (w : List (List UInt8)) : lineW x (cIvl :: w) = everyQ x (cIvl :: w) := by
  unfold lineW; rw [if_neg (by simp), if_neg (by simp), if_neg (by simp), if_neg (by simp), if_pos (by simp)]
theorem lim_chain {s n : List UInt8} {l : Lim} (h : limQ l) : numsC (chainW s n l) ∧ limW (chainW s n l) = l := by
  obtain ⟨h1, h2, h3⟩ := h
  have a := num_itoa (q := l.g) (by omega)
  have b := num_itoa (q := l.b) (by omega)
  have c := num_itoa (q := l.n) (by omega)
  constructor
  · simp [numsC, chainW, a, b, c]
  · simp [limW, chainW, a, b, c]
theorem step_a {x : PS} {n : List UInt8} {l : Lim} (hn : nameP n = true) (hl : limQ l) (ha : x.ha = false) (hb : x.hb = false) :
    lineW x (chainW [97] n l) = (⟨⟨n, x.c.b, l, x.c.lb, x.c.ps, x.c.rs, x.c.iv⟩, true, false, x.hi⟩, 0) := by
  obtain ⟨h1, h2⟩ := lim_chain (s := [97]) (n := n) hl
  show lineW x (cChain :: _) = _
  rw [lw_chain]
  show chainQ x (chainW [97] n l) = _
  unfold chainQ
  rw [if_neg (by simp [formC, chainW]), if_neg (by simpa using h1), if_neg (by simp [chainW, hn]), h2, if_neg (by simpa using hl), if_neg (by simp [twiceC, chainW, ha, hb]), if_pos (by simp [chainW])]
  simp [chainW, hb]
theorem step_b {x : PS} {n : List UInt8} {l : Lim} (hn : nameP n = true) (hl : limQ l) (ha : x.ha = true) (hb : x.hb = false) (hne : x.c.a ≠ n) :
    lineW x (chainW [98] n l) = (⟨⟨x.c.a, n, x.c.la, l, x.c.ps, x.c.rs, x.c.iv⟩, true, true, x.hi⟩, 0) := by
  obtain ⟨h1, h2⟩ := lim_chain (s := [98]) (n := n) hl
  show lineW x (cChain :: _) = _
  rw [lw_chain]
  show chainQ x (chainW [98] n l) = _
  unfold chainQ
  rw [if_neg (by simp [formC, chainW]), if_neg (by simpa using h1), if_neg (by simp [chainW, hn]), h2, if_neg (by simpa using hl), if_neg (by simp [twiceC, chainW, ha, hb, hne]), if_neg (by simp [chainW])]
  simp [chainW, ha]
theorem cut_of_47 {t r : List UInt8} (h : 47 ∉ t) : Lib.cut (t ++ 47 :: r) [47] = (t, r, true) := by
  have : Lib.index (t ++ 47 :: r) [47] = t.length := Lib.index_first (by simp) (occz.2 ⟨by simp, by simp [List.getD]⟩) fun j hj => by
    rw [← Bool.not_eq_true, occz]
    rintro ⟨_, g2⟩
    rw [List.getD, List.getElem?_append_left hj, List.getElem?_eq_getElem hj] at g2
    exact h (by rw [← g2]; exact List.getElem_mem hj)
  unfold Lib.cut
  rw [this, if_pos (by omega)]
  simp
theorem parse_textC {p : List UInt8} {c : Int} (h : mayP p c = true) : parseP (textP p c) = (p, c, 0) := by
  obtain ⟨_, h1, h2, h3⟩ := mayP_t h
  obtain ⟨e1, e2⟩ := end_of h3 ⟨h1, h2⟩
  have e3 : textP p c = p ++ 47 :: (chn ++ Lib.itoa c) := by unfold textP; rw [if_pos h]; simp
  have e4 := cut_of_47 (t := p) (r := chn ++ Lib.itoa c) (name_no h3)
  unfold parseP
  rw [e3, e4, if_pos e2, e1]
theorem pthW_of {p : PathC} (h : pathMay p = true) : pthW (pathWs p) = p := by
  obtain ⟨h1, h2⟩ := pathMay_iff.1 h
  obtain ⟨ap, ac, bp, bc, o⟩ := p
  simp only [pthW, pathWs, List.getD_cons_zero, List.getD_cons_succ, parse_textC h1, parse_textC h2]
  cases o <;> simp
theorem step_path {x : PS} {p : PathC} (h : pathMay p = true) (h2 : apartP p x.c.ps = true) (h3 : x.c.ps.length < 6) :
    lineW x (pathWs p) = (⟨⟨x.c.a, x.c.b, x.c.la, x.c.lb, x.c.ps ++ [p], x.c.rs, x.c.iv⟩, x.ha, x.hb, x.hi⟩, 0) := by
  obtain ⟨g1, g2⟩ := pathMay_iff.1 h
  show lineW x (cPath :: _) = _
  rw [lw_path]
  show pathQ x (pathWs p) = _
  unfold pathQ
  rw [pthW_of h, if_neg (by simp only [Decidable.not_not]; refine ⟨rfl, ?_⟩; simp only [pathWs, List.getD_cons_zero, List.getD_cons_succ]; split <;> simp), if_neg (by simp [pathWs, parse_textC g1, parse_textC g2]), if_neg (by simp [h2]), if_neg (by omega)]
theorem step_rule {x : PS} {r : RuleC} (h : mayG r.pt = true) (h3 : x.c.rs.length < 32) :
    lineW x (ruleWs r) = (⟨⟨x.c.a, x.c.b, x.c.la, x.c.lb, x.c.ps, x.c.rs ++ [r], x.c.iv⟩, x.ha, x.hb, x.hi⟩, 0) := by
  show lineW x (_ :: _) = _
  rw [lw_rule]
  show ruleQ x (ruleWs r) = _
  unfold ruleQ
  rw [if_neg (by simp [ruleWs]), if_neg (by simp [ruleWs, h]), if_neg (by omega)]
  obtain ⟨al, pt⟩ := r
  cases al <;> simp [ruleWs]
theorem step_iv {x : PS} {n : Int} (h : ivQ n) (h3 : x.hi = false) : lineW x (ivWs n) = (⟨⟨x.c.a, x.c.b, x.c.la, x.c.lb, x.c.ps, x.c.rs, n⟩, x.ha, x.hb, true⟩, 0) := by
  have e := num_itoa (q := n) (by unfold ivQ at h; omega)
  show lineW x (cIvl :: _) = _
  rw [lw_iv]
  show everyQ x (ivWs n) = _
  unfold everyQ
  rw [if_neg (by simp [ivWs]), if_neg (by simp [ivWs, e]), if_neg (by unfold ivQ at h; simp [ivWs, e]; omega), if_neg (by simp [h3])]
  simp [ivWs, e]
theorem getD_mid {α : Type} [Inhabited α] (a : List α) (p : α) (b : List α) : (a ++ p :: b).getD a.length default = p := by simp [List.getD]
theorem run_paths (a b : List UInt8) (la lb : Lim) (rs : List RuleC) (iv : Int) (ha hb hi : Bool) (l : List PathC) (hq : pathsQ l) (hl : l.length ≤ 6) : ∀ (l2 l1 : List PathC), l = l1 ++ l2 →
    runW ⟨⟨a, b, la, lb, l1, rs, iv⟩, ha, hb, hi⟩ (l2.map pathWs) = some ⟨⟨a, b, la, lb, l, rs, iv⟩, ha, hb, hi⟩
  | [], l1, e => by rw [List.append_nil] at e; subst e; rfl
  | p :: l2, l1, e => by
    have h := hq l1.length (by rw [e]; simp)
    rw [e, getD_mid, List.take_left'  rfl] at h
    have hl' : l1.length < 6 := by rw [e] at hl; simp at hl; omega
    rw [List.map_cons, runW, step_path h.1 h.2 hl', if_pos rfl]
    exact run_paths a b la lb rs iv ha hb hi l hq hl l2 (l1 ++ [p]) (by rw [e]; simp)
theorem run_rules (a b : List UInt8) (la lb : Lim) (ps : List PathC) (iv : Int) (ha hb hi : Bool) (l : List RuleC) (hq : rulesQ l) (hl : l.length ≤ 32) : ∀ (l2 l1 : List RuleC), l = l1 ++ l2 →
    runW ⟨⟨a, b, la, lb, ps, l1, iv⟩, ha, hb, hi⟩ (l2.map ruleWs) = some ⟨⟨a, b, la, lb, ps, l, iv⟩, ha, hb, hi⟩
  | [], l1, e => by rw [List.append_nil] at e; subst e; rfl
  | p :: l2, l1, e => by
    have h := hq l1.length (by rw [e]; simp)
    rw [e, getD_mid] at h
    have hl' : l1.length < 32 := by rw [e] at hl; simp at hl; omega
    rw [List.map_cons, runW, step_rule h hl', if_pos rfl]
    exact run_rules a b la lb ps iv ha hb hi l hq hl l2 (l1 ++ [p]) (by rw [e]; simp)
theorem run_conf {c : Conf} (h : confQ c) : runW PS.zero (wordsC c) = some ⟨c, true, true, true⟩ := by
  obtain ⟨h1, h2, h3, h4, h5, h6, h7, h8, h9, h10⟩ := h
  unfold wordsC
  rw [runW, step_a h1 h4 rfl rfl, if_pos rfl, runW, step_b h2 h5 rfl rfl h3, if_pos rfl, runW_app]
  simp only [PS.zero, Conf.zero]
  rw [run_paths _ _ _ _ _ _ _ _ _ c.ps h9 h7 c.ps [] rfl, Option.bind_some, runW_app, run_rules _ _ _ _ _ _ _ _ _ c.rs h10 h8 c.rs [] rfl, Option.bind_some, runW, step_iv h6 rfl, if_pos rfl]
  rfl
theorem run_lines {c : Conf} (h : confQ c) : runW PS.zero ((linesC c).map wordsL) = some ⟨c, true, true, true⟩ := by
  have : (linesC c).map wordsL = wordsC c := by
    unfold linesC
    rw [List.map_map]
    exact (List.map_congr_left fun w hw => words_ln (ws_conf h w hw)).trans (List.map_id _)
  rw [this]; exact run_conf h
theorem goQ_end {c : Conf} (i : Nat) : goQ ⟨c, true, true, true⟩ i [] = (c, 0, 0) := by rw [goQ, if_pos ⟨rfl, rfl⟩]
theorem lines_120 {c : Conf} (h : confQ c) : ∀ t ∈ linesC c, t.length ≤ 120 := fun t ht => by
  simp only [linesC, List.mem_map] at ht
  obtain ⟨w, hw, rfl⟩ := ht
  have := ln_conf h w hw
  omega
theorem conf_back {c : Conf} (h : confQ c) : confP (textC c) = (c, 0, 0) := by
  rw [confP_lines, lines_text h]
  have := goQ_run (linesC c) [] PS.zero _ 0 (lines_120 h) (run_lines h)
  rw [List.append_nil] at this
  rw [this, goQ_end]
/-! blanks, remarks, lines without words; a line that is none -/
noncomputable def notedC (c : Conf) (note : List UInt8) : List (List UInt8) := (linesC c).flatMap fun t => [noted t note, []]
theorem run_noted (note : List UInt8) : ∀ (l : List (List (List UInt8))) (x : PS), (∀ w ∈ l, wsOk w) → runW x (((l.map lnOf).flatMap fun t => [noted t note, []]).map wordsL) = runW x l
  | [], x, _ => rfl
  | w :: l, x, h => by
    have e : wordsL [] = [] := by simp [wordsL, noHash, wgo]
    simp only [List.map_cons, List.flatMap_cons, List.cons_append, List.nil_append]
    simp only [runW]
    rw [words_noted (h w (by simp)) note, e, lw_nil]
    simp only [if_true]
    rw [run_noted note l _ fun v hv => h v (by simp [hv])]
theorem conf_notes {c : Conf} {note : List UInt8} (h : confQ c) (hn : 10 ∉ note) (hl : note.length ≤ 20) : confP (endL (notedC c note)) = (c, 0, 0) := by
  have h10 : ∀ t ∈ notedC c note, 10 ∉ t := fun t ht => by
    simp only [notedC, List.mem_flatMap, List.mem_cons, List.not_mem_nil, or_false] at ht
    obtain ⟨u, hu, rfl | rfl⟩ := ht
    · have := linesC_10 h u hu
      simp [noted, hn, this]
    · simp
  have h120 : ∀ t ∈ notedC c note, t.length ≤ 120 := fun t ht => by
    simp only [notedC, List.mem_flatMap, List.mem_cons, List.not_mem_nil, or_false] at ht
    obtain ⟨u, hu, rfl | rfl⟩ := ht
    · simp only [linesC, List.mem_map] at hu
      obtain ⟨w, hw, rfl⟩ := hu
      have := ln_conf h w hw
      simp [noted]; omega
    · simp
  rw [confP_lines, linesD_endL h10]
  have hr : runW PS.zero ((notedC c note).map wordsL) = some ⟨c, true, true, true⟩ := by
    unfold notedC linesC
    rw [run_noted note _ _ (ws_conf h)]; exact run_conf h
  have := goQ_run (notedC c note) [] PS.zero _ 0 h120 hr
  rw [List.append_nil] at this
  rw [this, goQ_end]
abbrev nothingL : List UInt8 := [110, 111, 116, 104, 105, 110, 103]
theorem conf_bad {c : Conf} (h : confQ c) {k : Nat} (hk : k < (linesC c).length) : confP (endL ((linesC c).take k ++ nothingL :: (linesC c).drop k)) = (Conf.zero 0, (k : Int) + 1, 3) := by
  have h10 : ∀ t ∈ (linesC c).take k ++ nothingL :: (linesC c).drop k, 10 ∉ t := fun t ht => by
    rw [List.mem_append, List.mem_cons] at ht
    rcases ht with ht | rfl | ht
    · exact linesC_10 h t (List.mem_of_mem_take ht)
    · decide
    · exact linesC_10 h t (List.mem_of_mem_drop ht)
  rw [confP_lines, linesD_endL h10]
  have hr := run_lines h
  rw [← List.take_append_drop k (linesC c), List.map_append, runW_app] at hr
  cases hy : runW PS.zero (((linesC c).take k).map wordsL) with
  | none => rw [hy] at hr; cases hr
  | some y =>
    rw [goQ_run _ _ _ y 0 (fun t ht => lines_120 h t (List.mem_of_mem_take ht)) hy]
    have e : lineQ y nothingL = (y, 3) := by
      unfold lineQ
      rw [if_neg (by decide), show wordsL nothingL = [nothingL] from by decide]
      unfold lineW
      rw [if_neg (by decide), if_neg (by decide), if_neg (by decide), if_neg (by decide), if_neg (by decide)]
    rw [goQ, e, if_neg (by simp)]
    simp; omega
end Go.Proofs.YtbjmcmgekcmbpaaGreatDoor

/- chapter 21: the program's Print -/
namespace Go.Proofs.YtbjmcmgekcmbpaaGreatDoor
set_option linter.all false
open Go.RowKit
set_option maxRecDepth 100000
abbrev lns (l : List (List (List UInt8))) : List (List AV) := l.map fun w => [AV.sl none 1 (strs w)]
theorem gdN {l : List (List (List UInt8))} {i : Nat} (h : i < l.length) : (lns l).getD i [] = [AV.sl none 1 (strs (l.getD i []))] := by simp [lns, h]
theorem p_chainLine (s n : List UInt8) (l : Lim) (h : limQ l) : CP Tryz.prog 13 [.str s, .str n, .agg l.cs] (.sl (some 9) 1 (strs (chainW s n l))) := by
  obtain ⟨g, b', c⟩ := l
  obtain ⟨h1, h2, h3⟩ := h
  simp only at h1 h2 h3
  refine ok_conf_chainLine _ _ (by simp) ?_
  simp only [c_conf_chainLine, ↓Ed, Eu, ↓reduceIte, reduceCtorEq, Nat.reduceAdd, Nat.reduceEqDiff, Nat.reduceLT, Nat.reduceLeDiff, Int.reduceToNat, Int.reduceEq, Int.reduceLT, Int.reduceLE, Int.toNat_natCast, al_so, al_al, al_pc, al_rc, al_pst, al_rst, w64, List.length_append, List.length_map, Nat.mul_one, beq_self_eq_true, Lim.cs, PathC.cs, RuleC.cs, gdP, gdR, gdN, bl]
  repeat' ((first | refine CallW_intro (p_Itoa g (by omega)) ?_ | refine CallW_intro (p_Itoa b' (by omega)) ?_ | refine CallW_intro (p_Itoa c (by omega)) ?_ | refine NewB_intro0 (fun b => ?_) | (refine NewB_intro (fun b hb => ?_); simp only [ln_cons2, ln_nil, and_true] at hb) | (with_reducible apply And.intro; (focus (first | omega | (simp only [Fact, Bool.not_eq_true', Bool.not_eq_false', decide_eq_true_eq, decide_eq_false_iff_not] at *; omega)))) | ((first | refine gW_sp ?_ | refine condW_sp ?_ | refine pickW_sp ?_); (try refine Sp_n ?_); (first | refine Sp_t (by assumption) ?_ | refine Sp_f (by assumption) ?_ | refine Sp_split (fun h => ?_) (fun h => ?_)) <;> (first | have h' := Fact_lt h | have h' := Fact_nlt h | have h' := Fact_le h | have h' := Fact_nle h | skip) <;> (try (exfalso; omega))) | refine TreeW_intro (by rfl) ?_ | refine TreeW_all ?_ | refine upQ_intro ?_ | refine Two_intro ?_ ?_ | (refine leK_lit ?_; (simp [-List.getD_eq_getElem?_getD, LeL, lk, *]; done)) | (refine leK_dd ?_; (simp [-List.getD_eq_getElem?_getD, LeS, LeL, lk, *]; done)) | (simp only [Fact, Bool.not_eq_true', Bool.not_eq_false', decide_eq_true_eq, decide_eq_false_iff_not] at *; refine leK_dd ?_; (simp [-List.getD_eq_getElem?_getD, LeS, LeL, lk, *]; done)) | (show (_ : Nat) ≤ _; omega)) <;> (try simp (disch := omega) only [*, ↓Ed, Eu, ↓reduceIte, reduceCtorEq, Nat.reduceAdd, Nat.reduceEqDiff, Nat.reduceLT, Nat.reduceLeDiff, Int.reduceToNat, Int.reduceEq, Int.reduceLT, Int.reduceLE, Int.toNat_natCast, al_so, al_al, al_pc, al_rc, al_pst, al_rst, w64, List.length_append, List.length_map, Nat.mul_one, beq_self_eq_true, Lim.cs, PathC.cs, RuleC.cs, gdP, gdR, gdN, bl]))
  rfl
theorem t_WByte (b : Nat) (l : List UInt8) (c : UInt8) (h : l.length ≤ 100000000) : CT Tryz.prog 18 [.ptr b 0, .int .u8 (c.toNat : Int)] (lk [(b, bld b l)]) (fun r o => r = .nili ∧ o = lk [(b, bld b (l ++ [c]))]) := by
  have hm : maxLen = 9223372036854775807 := rfl
  refine okt_strings_Builder_WriteByte _ _ _ (by simp) ?_
  simp only [c_strings_Builder_WriteByte, ↓Ed, Eu, ↓reduceIte, reduceCtorEq, Nat.reduceAdd, Nat.reduceEqDiff, Nat.reduceLT, Nat.reduceLeDiff, Int.reduceToNat, Int.reduceEq, Int.reduceLT, Int.reduceLE, Int.toNat_natCast, al_so, al_al, al_pc, al_rc, al_pst, al_rst, w64, List.length_append, List.length_map, Nat.mul_one, beq_self_eq_true, Lim.cs, PathC.cs, RuleC.cs, gdP, gdR, gdN, bl]
  repeat' ((first | (refine' CallO_det (t_copy1 b (.sl (some 5) 1 (bts l))) (lk_sub1 ?_) ?_; rotate_right 2; (focus ((repeat (first | exact lk_hd _ _ _ | (refine lk_tl ?_ ?_; (focus (first | assumption | (simp only [*, not_false_eq_true]; done)))))); done))) | refine NewB_intro0 (fun b => ?_) | (refine NewB_intro (fun b hb => ?_); simp only [ln_cons2, ln_nil, and_true] at hb) | (with_reducible apply And.intro; (focus (first | omega | (simp only [Fact, Bool.not_eq_true', Bool.not_eq_false', decide_eq_true_eq, decide_eq_false_iff_not] at *; omega)))) | ((first | refine gW_sp ?_ | refine condW_sp ?_ | refine pickW_sp ?_); (try refine Sp_n ?_); (first | refine Sp_t (by assumption) ?_ | refine Sp_f (by assumption) ?_ | refine Sp_split (fun h => ?_) (fun h => ?_)) <;> (first | have h' := Fact_lt h | have h' := Fact_nlt h | have h' := Fact_le h | have h' := Fact_nle h | skip) <;> (try (exfalso; omega))) | refine TreeW_intro (by rfl) ?_ | refine TreeW_all ?_ | refine upQ_intro ?_ | refine Two_intro ?_ ?_ | (refine leK_lit ?_; (simp [-List.getD_eq_getElem?_getD, LeL, lk, *]; done)) | (refine leK_dd ?_; (simp [-List.getD_eq_getElem?_getD, LeS, LeL, lk, *]; done)) | (simp only [Fact, Bool.not_eq_true', Bool.not_eq_false', decide_eq_true_eq, decide_eq_false_iff_not] at *; refine leK_dd ?_; (simp [-List.getD_eq_getElem?_getD, LeS, LeL, lk, *]; done)) | (show (_ : Nat) ≤ _; omega)) <;> (try simp (disch := omega) only [*, ↓Ed, Eu, ↓reduceIte, reduceCtorEq, Nat.reduceAdd, Nat.reduceEqDiff, Nat.reduceLT, Nat.reduceLeDiff, Int.reduceToNat, Int.reduceEq, Int.reduceLT, Int.reduceLE, Int.toNat_natCast, al_so, al_al, al_pc, al_rc, al_pst, al_rst, w64, List.length_append, List.length_map, Nat.mul_one, beq_self_eq_true, Lim.cs, PathC.cs, RuleC.cs, gdP, gdR, gdN, bl]))
  exact ro_mk (by simp [LeL, lk, resR, arR, bts, byteEl]) domB
theorem take_add {α : Type} [Inhabited α] {β : Type} (f : α → β) {l : List α} {k : Nat} (h : k < l.length) : (l.take (k + 1)).map f = (l.take k).map f ++ [f (l.getD k default)] := by
  have e : l.take (k + 1) = l.take k ++ [l.getD k default] := by rw [List.take_succ]; simp [h]
  rw [e]; simp
noncomputable def outC (l : List (List (List UInt8))) : List UInt8 := endL (l.map lnOf)
theorem out_step {l : List (List (List UInt8))} {k : Nat} (h : k < l.length) : outC (l.take (k + 1)) = outC (l.take k) ++ lnOf (l.getD k []) ++ [10] := by
  have e : l.take (k + 1) = l.take k ++ [l.getD k []] := by rw [List.take_succ]; simp [h]
  rw [e]; simp [outC, endL]
theorem out_len {l : List (List (List UInt8))} (h : ∀ w ∈ l, (lnOf w).length ≤ 95) : ∀ k, k ≤ l.length → (outC (l.take k)).length ≤ k * 96
  | 0, _ => by simp [outC, endL]
  | k + 1, hk => by
    have := out_len h k (by omega)
    have h2 := h (l.getD k []) (by rw [List.getD, List.getElem?_eq_getElem (by omega)]; exact List.getElem_mem _)
    rw [out_step (by omega)]
    simp only [List.length_append, List.length_cons, List.length_nil]
    omega
theorem out_nil : outC [] = [] := rfl
theorem text_out (c : Conf) : textC c = outC (wordsC c) := rfl
theorem u8_10 : ((10 : UInt8).toNat : Int) = 10 := rfl
theorem wsC (c : Conf) : [chainW [97] c.a c.la, chainW [98] c.b c.lb] ++ c.ps.map pathWs ++ c.rs.map ruleWs ++ [ivWs c.iv] = wordsC c := by simp [wordsC]
theorem wordsC_w {c : Conf} (h : confQ c) : ∀ w ∈ wordsC c, w.length ≤ 9 := fun w hw => by
  simp only [wordsC, List.mem_cons, List.mem_append, List.mem_map, List.not_mem_nil, or_false] at hw
  rcases hw with rfl | rfl | ⟨p, hp, rfl⟩ | ⟨r, hr, rfl⟩ | rfl <;> simp [chainW, pathWs, ruleWs, ivWs]
set_option maxHeartbeats 4000000 in
theorem p_cPrint (c : Conf) (p1 r1 : AV) (h1 : p1.alias = .sl none 5 (pths c.ps)) (h2 : r1.alias = .sl none 2 (rls c.rs)) (l1 : c.ps.length ≤ maxLen) (l2 : c.rs.length ≤ maxLen)
    (sa : c.a.length ≤ 1000000) (sb : c.b.length ≤ 1000000) (sp : ∀ i, (c.ps.getD i default).ap.length ≤ 1000000 ∧ (c.ps.getD i default).bp.length ≤ 1000000) (sr : ∀ i, (c.rs.getD i default).pt.length ≤ 1000000) :
    CP Tryz.prog 6 [.agg (cfX c p1 r1)] (.tup [.str (printC c).1, .int .i64 (printC c).2]) := by
  have hm : maxLen = 9223372036854775807 := rfl
  have hM := p_cMay c p1.store r1.store (by rw [al_so, h1]) (by rw [al_so, h2]) l1 l2 sa sb sp sr
  refine ok_conf_Print _ _ (by simp) ?_
  by_cases hq : confQ c
  rotate_left
  · rw [confMay_f hq] at hM
    have e : printC c = ([], 1) := by unfold printC; rw [confMay_f hq, if_neg (by decide)]
    rw [e]
    clear e hq sp sr
    simp only [c_conf_Print, ↓Ed, Eu, ↓reduceIte, reduceCtorEq, Nat.reduceAdd, Nat.reduceEqDiff, Nat.reduceLT, Nat.reduceLeDiff, Int.reduceToNat, Int.reduceEq, Int.reduceLT, Int.reduceLE, Int.toNat_natCast, al_so, al_al, al_pc, al_rc, al_pst, al_rst, w64, List.length_append, List.length_map, Nat.mul_one, beq_self_eq_true, Lim.cs, PathC.cs, RuleC.cs, gdP, gdR, gdN, bl]
    repeat' ((first | refine CallO_pure (hM) ?_ | refine NewB_intro0 (fun b => ?_) | (refine NewB_intro (fun b hb => ?_); simp only [ln_cons2, ln_nil, and_true] at hb) | (with_reducible apply And.intro; (focus (first | omega | (simp only [Fact, Bool.not_eq_true', Bool.not_eq_false', decide_eq_true_eq, decide_eq_false_iff_not] at *; omega)))) | ((first | refine gW_sp ?_ | refine condW_sp ?_ | refine pickW_sp ?_); (try refine Sp_n ?_); (first | refine Sp_t (by assumption) ?_ | refine Sp_f (by assumption) ?_ | refine Sp_split (fun h => ?_) (fun h => ?_)) <;> (first | have h' := Fact_lt h | have h' := Fact_nlt h | have h' := Fact_le h | have h' := Fact_nle h | skip) <;> (try (exfalso; omega))) | refine TreeW_intro (by rfl) ?_ | refine TreeW_all ?_ | refine upQ_intro ?_ | refine Two_intro ?_ ?_ | (refine leK_lit ?_; (simp [-List.getD_eq_getElem?_getD, LeL, lk, *]; done)) | (refine leK_dd ?_; (simp [-List.getD_eq_getElem?_getD, LeS, LeL, lk, *]; done)) | (simp only [Fact, Bool.not_eq_true', Bool.not_eq_false', decide_eq_true_eq, decide_eq_false_iff_not] at *; refine leK_dd ?_; (simp [-List.getD_eq_getElem?_getD, LeS, LeL, lk, *]; done)) | (show (_ : Nat) ≤ _; omega)) <;> (try simp (disch := omega) only [*, ↓Ed, Eu, ↓reduceIte, reduceCtorEq, Nat.reduceAdd, Nat.reduceEqDiff, Nat.reduceLT, Nat.reduceLeDiff, Int.reduceToNat, Int.reduceEq, Int.reduceLT, Int.reduceLE, Int.toNat_natCast, al_so, al_al, al_pc, al_rc, al_pst, al_rst, w64, List.length_append, List.length_map, Nat.mul_one, beq_self_eq_true, Lim.cs, PathC.cs, RuleC.cs, gdP, gdR, gdN, bl]))
  rw [confMay_t hq] at hM
  have e : printC c = (textC c, 0) := by unfold printC; rw [confMay_t hq, if_pos rfl]
  rw [e]
  have hL1 := p_chainLine [97] c.a c.la hq.2.2.2.1
  have hL2 := p_chainLine [98] c.b c.lb hq.2.2.2.2.1
  have hIv := p_Itoa c.iv (by have := hq.2.2.2.2.2.1; unfold ivQ at this; omega)
  have hT1 := fun i => p_Text (c.ps.getD i default).ap (c.ps.getD i default).ac (sp i).1
  have hT2 := fun i => p_Text (c.ps.getD i default).bp (c.ps.getD i default).bc (sp i).2
  have n1 := hq.2.2.2.2.2.2.1
  have n2 := hq.2.2.2.2.2.2.2.1
  have hln := ln_conf hq
  have hwl := wordsC_w hq
  have hwn := wordsC_len hq
  clear e hq sp sr sa sb
  simp only [c_conf_Print, ↓Ed, Eu, ↓reduceIte, reduceCtorEq, Nat.reduceAdd, Nat.reduceEqDiff, Nat.reduceLT, Nat.reduceLeDiff, Int.reduceToNat, Int.reduceEq, Int.reduceLT, Int.reduceLE, Int.toNat_natCast, al_so, al_al, al_pc, al_rc, al_pst, al_rst, w64, List.length_append, List.length_map, Nat.mul_one, beq_self_eq_true, Lim.cs, PathC.cs, RuleC.cs, gdP, gdR, gdN, bl]
  repeat' ((first | refine CallO_pure (hM) ?_ | refine CallW_intro (hL1) ?_ | refine CallW_intro (hL2) ?_ | refine NewB_intro0 (fun b => ?_) | (refine NewB_intro (fun b hb => ?_); simp only [ln_cons2, ln_nil, and_true] at hb) | (with_reducible apply And.intro; (focus (first | omega | (simp only [Fact, Bool.not_eq_true', Bool.not_eq_false', decide_eq_true_eq, decide_eq_false_iff_not] at *; omega)))) | ((first | refine gW_sp ?_ | refine condW_sp ?_ | refine pickW_sp ?_); (try refine Sp_n ?_); (first | refine Sp_t (by assumption) ?_ | refine Sp_f (by assumption) ?_ | refine Sp_split (fun h => ?_) (fun h => ?_)) <;> (first | have h' := Fact_lt h | have h' := Fact_nlt h | have h' := Fact_le h | have h' := Fact_nle h | skip) <;> (try (exfalso; omega))) | refine TreeW_intro (by rfl) ?_ | refine TreeW_all ?_ | refine upQ_intro ?_ | refine Two_intro ?_ ?_ | (refine leK_lit ?_; (simp [-List.getD_eq_getElem?_getD, LeL, lk, *]; done)) | (refine leK_dd ?_; (simp [-List.getD_eq_getElem?_getD, LeS, LeL, lk, *]; done)) | (simp only [Fact, Bool.not_eq_true', Bool.not_eq_false', decide_eq_true_eq, decide_eq_false_iff_not] at *; refine leK_dd ?_; (simp [-List.getD_eq_getElem?_getD, LeS, LeL, lk, *]; done)) | (show (_ : Nat) ≤ _; omega)) <;> (try simp (disch := omega) only [*, ↓Ed, Eu, ↓reduceIte, reduceCtorEq, Nat.reduceAdd, Nat.reduceEqDiff, Nat.reduceLT, Nat.reduceLeDiff, Int.reduceToNat, Int.reduceEq, Int.reduceLT, Int.reduceLE, Int.toNat_natCast, al_so, al_al, al_pc, al_rc, al_pst, al_rst, w64, List.length_append, List.length_map, Nat.mul_one, beq_self_eq_true, Lim.cs, PathC.cs, RuleC.cs, gdP, gdR, gdN, bl]))
  refine wpx_loop (fun k : Nat => ⟨lk [(1, .ptr b 0), (4, .sl (some 42) 1 (lns ([chainW [97] c.a c.la, chainW [98] c.b c.lb] ++ (c.ps.take k).map pathWs))), (29, .sl none 5 (pths c.ps)), (30, .int .i64 c.ps.length), (31, .int .i64 (k : Int))], lk [(b, [.str c.a, .str c.b, .int .i64 c.la.g, .int .i64 c.la.b, .int .i64 c.la.n, .int .i64 c.lb.g, .int .i64 c.lb.b, .int .i64 c.lb.n, p1.store, r1.store, .int .i64 c.iv])]⟩) (fun k => k ≤ c.ps.length) (fun k => c.ps.length - k) 0 (by omega) (Le_lit (by simp [LeL, lk])) ?_
  intro k g1
  by_cases hk : k < c.ps.length
  · have f5 : Fact (decide ((k : Int) < c.ps.length) = true) := by simp only [Fact, Bool.not_eq_true', Bool.not_eq_false', decide_eq_true_eq, decide_eq_false_iff_not]; omega
    have hlt : (c.ps.take k).length = k := by simp; omega
    have q1 := hT1 k
    have q2 := hT2 k
    have ha := take_add pathWs hk
    cases ho : (c.ps.getD k default).o
    all_goals simp (disch := omega) only [ho, h1, h2, ↓Ed, Eu, ↓reduceIte, reduceCtorEq, Nat.reduceAdd, Nat.reduceEqDiff, Nat.reduceLT, Nat.reduceLeDiff, Int.reduceToNat, Int.reduceEq, Int.reduceLT, Int.reduceLE, Int.toNat_natCast, al_so, al_al, al_pc, al_rc, al_pst, al_rst, w64, List.length_append, List.length_map, Nat.mul_one, beq_self_eq_true, Lim.cs, PathC.cs, RuleC.cs, gdP, gdR, gdN, bl]
    all_goals repeat' ((first | refine CallW_intro (q1) ?_ | refine CallW_intro (q2) ?_ | refine NewB_intro0 (fun b => ?_) | (refine NewB_intro (fun b hb => ?_); simp only [ln_cons2, ln_nil, and_true] at hb) | (with_reducible apply And.intro; (focus (first | omega | (simp only [Fact, Bool.not_eq_true', Bool.not_eq_false', decide_eq_true_eq, decide_eq_false_iff_not] at *; omega)))) | ((first | refine gW_sp ?_ | refine condW_sp ?_ | refine pickW_sp ?_); (try refine Sp_n ?_); (first | refine Sp_t (by assumption) ?_ | refine Sp_f (by assumption) ?_ | refine Sp_split (fun h => ?_) (fun h => ?_)) <;> (first | have h' := Fact_lt h | have h' := Fact_nlt h | have h' := Fact_le h | have h' := Fact_nle h | skip) <;> (try (exfalso; omega))) | refine TreeW_intro (by rfl) ?_ | refine TreeW_all ?_ | refine upQ_intro ?_ | refine Two_intro ?_ ?_ | (refine leK_lit ?_; (simp [-List.getD_eq_getElem?_getD, LeL, lk, *]; done)) | (refine leK_dd ?_; (simp [-List.getD_eq_getElem?_getD, LeS, LeL, lk, *]; done)) | (simp only [Fact, Bool.not_eq_true', Bool.not_eq_false', decide_eq_true_eq, decide_eq_false_iff_not] at *; refine leK_dd ?_; (simp [-List.getD_eq_getElem?_getD, LeS, LeL, lk, *]; done)) | (show (_ : Nat) ≤ _; omega)) <;> (try simp (disch := omega) only [*, ↓Ed, Eu, ↓reduceIte, reduceCtorEq, Nat.reduceAdd, Nat.reduceEqDiff, Nat.reduceLT, Nat.reduceLeDiff, Int.reduceToNat, Int.reduceEq, Int.reduceLT, Int.reduceLE, Int.toNat_natCast, al_so, al_al, al_pc, al_rc, al_pst, al_rst, w64, List.length_append, List.length_map, Nat.mul_one, beq_self_eq_true, Lim.cs, PathC.cs, RuleC.cs, gdP, gdR, gdN, bl]))
    all_goals exact Round_lit (k + 1) ⟨Le_lit (by simp [-List.getD_eq_getElem?_getD, LeL, lk, hb, ha, lns, pathWs, ho, List.append_assoc]), by omega, by omega⟩
  have f5 : Fact (decide ((k : Int) < c.ps.length) = false) := by simp only [Fact, Bool.not_eq_true', Bool.not_eq_false', decide_eq_true_eq, decide_eq_false_iff_not]; omega
  rw [List.take_of_length_le (by omega)]
  simp (disch := omega) only [h1, h2, ↓Ed, Eu, ↓reduceIte, reduceCtorEq, Nat.reduceAdd, Nat.reduceEqDiff, Nat.reduceLT, Nat.reduceLeDiff, Int.reduceToNat, Int.reduceEq, Int.reduceLT, Int.reduceLE, Int.toNat_natCast, al_so, al_al, al_pc, al_rc, al_pst, al_rst, w64, List.length_append, List.length_map, Nat.mul_one, beq_self_eq_true, Lim.cs, PathC.cs, RuleC.cs, gdP, gdR, gdN, bl]
  repeat' ((first | refine NewB_intro0 (fun b => ?_) | (refine NewB_intro (fun b hb => ?_); simp only [ln_cons2, ln_nil, and_true] at hb) | (with_reducible apply And.intro; (focus (first | omega | (simp only [Fact, Bool.not_eq_true', Bool.not_eq_false', decide_eq_true_eq, decide_eq_false_iff_not] at *; omega)))) | ((first | refine gW_sp ?_ | refine condW_sp ?_ | refine pickW_sp ?_); (try refine Sp_n ?_); (first | refine Sp_t (by assumption) ?_ | refine Sp_f (by assumption) ?_ | refine Sp_split (fun h => ?_) (fun h => ?_)) <;> (first | have h' := Fact_lt h | have h' := Fact_nlt h | have h' := Fact_le h | have h' := Fact_nle h | skip) <;> (try (exfalso; omega))) | refine TreeW_intro (by rfl) ?_ | refine TreeW_all ?_ | refine upQ_intro ?_ | refine Two_intro ?_ ?_ | (refine leK_lit ?_; (simp [-List.getD_eq_getElem?_getD, LeL, lk, *]; done)) | (refine leK_dd ?_; (simp [-List.getD_eq_getElem?_getD, LeS, LeL, lk, *]; done)) | (simp only [Fact, Bool.not_eq_true', Bool.not_eq_false', decide_eq_true_eq, decide_eq_false_iff_not] at *; refine leK_dd ?_; (simp [-List.getD_eq_getElem?_getD, LeS, LeL, lk, *]; done)) | (show (_ : Nat) ≤ _; omega)) <;> (try simp (disch := omega) only [*, ↓Ed, Eu, ↓reduceIte, reduceCtorEq, Nat.reduceAdd, Nat.reduceEqDiff, Nat.reduceLT, Nat.reduceLeDiff, Int.reduceToNat, Int.reduceEq, Int.reduceLT, Int.reduceLE, Int.toNat_natCast, al_so, al_al, al_pc, al_rc, al_pst, al_rst, w64, List.length_append, List.length_map, Nat.mul_one, beq_self_eq_true, Lim.cs, PathC.cs, RuleC.cs, gdP, gdR, gdN, bl]))
  clear f5 g1 hk
  refine wpx_loop (fun k : Nat => ⟨lk [(1, .ptr b 0), (4, .sl (some 42) 1 (lns ([chainW [97] c.a c.la, chainW [98] c.b c.lb] ++ c.ps.map pathWs ++ (c.rs.take k).map ruleWs))), (50, .sl none 2 (rls c.rs)), (51, .int .i64 c.rs.length), (52, .int .i64 (k : Int))], lk [(b, [.str c.a, .str c.b, .int .i64 c.la.g, .int .i64 c.la.b, .int .i64 c.la.n, .int .i64 c.lb.g, .int .i64 c.lb.b, .int .i64 c.lb.n, p1.store, r1.store, .int .i64 c.iv])]⟩) (fun k => k ≤ c.rs.length) (fun k => c.rs.length - k) 0 (by omega) (Le_lit (by simp [LeL, lk])) ?_
  intro k g1
  by_cases hk : k < c.rs.length
  · have f5 : Fact (decide ((k : Int) < c.rs.length) = true) := by simp only [Fact, Bool.not_eq_true', Bool.not_eq_false', decide_eq_true_eq, decide_eq_false_iff_not]; omega
    have hlt : (c.rs.take k).length = k := by simp; omega
    have ha := take_add ruleWs hk
    cases ho : (c.rs.getD k default).al
    all_goals simp (disch := omega) only [ho, h1, h2, ↓Ed, Eu, ↓reduceIte, reduceCtorEq, Nat.reduceAdd, Nat.reduceEqDiff, Nat.reduceLT, Nat.reduceLeDiff, Int.reduceToNat, Int.reduceEq, Int.reduceLT, Int.reduceLE, Int.toNat_natCast, al_so, al_al, al_pc, al_rc, al_pst, al_rst, w64, List.length_append, List.length_map, Nat.mul_one, beq_self_eq_true, Lim.cs, PathC.cs, RuleC.cs, gdP, gdR, gdN, bl]
    all_goals repeat' ((first | refine NewB_intro0 (fun b => ?_) | (refine NewB_intro (fun b hb => ?_); simp only [ln_cons2, ln_nil, and_true] at hb) | (with_reducible apply And.intro; (focus (first | omega | (simp only [Fact, Bool.not_eq_true', Bool.not_eq_false', decide_eq_true_eq, decide_eq_false_iff_not] at *; omega)))) | ((first | refine gW_sp ?_ | refine condW_sp ?_ | refine pickW_sp ?_); (try refine Sp_n ?_); (first | refine Sp_t (by assumption) ?_ | refine Sp_f (by assumption) ?_ | refine Sp_split (fun h => ?_) (fun h => ?_)) <;> (first | have h' := Fact_lt h | have h' := Fact_nlt h | have h' := Fact_le h | have h' := Fact_nle h | skip) <;> (try (exfalso; omega))) | refine TreeW_intro (by rfl) ?_ | refine TreeW_all ?_ | refine upQ_intro ?_ | refine Two_intro ?_ ?_ | (refine leK_lit ?_; (simp [-List.getD_eq_getElem?_getD, LeL, lk, *]; done)) | (refine leK_dd ?_; (simp [-List.getD_eq_getElem?_getD, LeS, LeL, lk, *]; done)) | (simp only [Fact, Bool.not_eq_true', Bool.not_eq_false', decide_eq_true_eq, decide_eq_false_iff_not] at *; refine leK_dd ?_; (simp [-List.getD_eq_getElem?_getD, LeS, LeL, lk, *]; done)) | (show (_ : Nat) ≤ _; omega)) <;> (try simp (disch := omega) only [*, ↓Ed, Eu, ↓reduceIte, reduceCtorEq, Nat.reduceAdd, Nat.reduceEqDiff, Nat.reduceLT, Nat.reduceLeDiff, Int.reduceToNat, Int.reduceEq, Int.reduceLT, Int.reduceLE, Int.toNat_natCast, al_so, al_al, al_pc, al_rc, al_pst, al_rst, w64, List.length_append, List.length_map, Nat.mul_one, beq_self_eq_true, Lim.cs, PathC.cs, RuleC.cs, gdP, gdR, gdN, bl]))
    all_goals exact Round_lit (k + 1) ⟨Le_lit (by simp [-List.getD_eq_getElem?_getD, LeL, lk, hb, ha, lns, ruleWs, ho, List.append_assoc]), by omega, by omega⟩
  have f5 : Fact (decide ((k : Int) < c.rs.length) = false) := by simp only [Fact, Bool.not_eq_true', Bool.not_eq_false', decide_eq_true_eq, decide_eq_false_iff_not]; omega
  rw [List.take_of_length_le (by omega)]
  have hws : lns ([chainW [97] c.a c.la, chainW [98] c.b c.lb] ++ c.ps.map pathWs ++ c.rs.map ruleWs) ++ [[AV.sl none 1 [[AV.str [105, 110, 116, 101, 114, 118, 97, 108]], [AV.str (Lib.itoa c.iv)]]]] = lns (wordsC c) := by rw [← wsC]; simp [lns, ivWs]
  have hwsL := congrArg List.length hws
  simp only [List.length_append, List.length_map, List.length_cons, List.length_nil] at hwsL
  simp (disch := omega) only [h1, h2, ↓Ed, Eu, ↓reduceIte, reduceCtorEq, Nat.reduceAdd, Nat.reduceEqDiff, Nat.reduceLT, Nat.reduceLeDiff, Int.reduceToNat, Int.reduceEq, Int.reduceLT, Int.reduceLE, Int.toNat_natCast, al_so, al_al, al_pc, al_rc, al_pst, al_rst, w64, List.length_append, List.length_map, Nat.mul_one, beq_self_eq_true, Lim.cs, PathC.cs, RuleC.cs, gdP, gdR, gdN, bl]
  repeat' ((first | refine CallO_pure (hIv) ?_ | refine NewB_intro0 (fun b => ?_) | (refine NewB_intro (fun b hb => ?_); simp only [ln_cons2, ln_nil, and_true] at hb) | (with_reducible apply And.intro; (focus (first | omega | (simp only [Fact, Bool.not_eq_true', Bool.not_eq_false', decide_eq_true_eq, decide_eq_false_iff_not] at *; omega)))) | ((first | refine gW_sp ?_ | refine condW_sp ?_ | refine pickW_sp ?_); (try refine Sp_n ?_); (first | refine Sp_t (by assumption) ?_ | refine Sp_f (by assumption) ?_ | refine Sp_split (fun h => ?_) (fun h => ?_)) <;> (first | have h' := Fact_lt h | have h' := Fact_nlt h | have h' := Fact_le h | have h' := Fact_nle h | skip) <;> (try (exfalso; omega))) | refine TreeW_intro (by rfl) ?_ | refine TreeW_all ?_ | refine upQ_intro ?_ | refine Two_intro ?_ ?_ | (refine leK_lit ?_; (simp [-List.getD_eq_getElem?_getD, LeL, lk, *]; done)) | (refine leK_dd ?_; (simp [-List.getD_eq_getElem?_getD, LeS, LeL, lk, *]; done)) | (simp only [Fact, Bool.not_eq_true', Bool.not_eq_false', decide_eq_true_eq, decide_eq_false_iff_not] at *; refine leK_dd ?_; (simp [-List.getD_eq_getElem?_getD, LeS, LeL, lk, *]; done)) | (show (_ : Nat) ≤ _; omega)) <;> (try simp (disch := omega) only [*, ↓Ed, Eu, ↓reduceIte, reduceCtorEq, Nat.reduceAdd, Nat.reduceEqDiff, Nat.reduceLT, Nat.reduceLeDiff, Int.reduceToNat, Int.reduceEq, Int.reduceLT, Int.reduceLE, Int.toNat_natCast, al_so, al_al, al_pc, al_rc, al_pst, al_rst, w64, List.length_append, List.length_map, Nat.mul_one, beq_self_eq_true, Lim.cs, PathC.cs, RuleC.cs, gdP, gdR, gdN, bl]))
  rename Nat => d
  rename ¬ _ = _ ∧ _ => hbd
  clear f5 g1 hk
  rw [text_out]
  have hL0 := hwn
  refine wpx_loop (fun k : Nat => ⟨lk [(11, .ptr d 0), (73, .sl none 1 (lns (wordsC c))), (74, .int .i64 (wordsC c).length), (75, .int .i64 (k : Int))], lk [(d, bl d k (outC ((wordsC c).take k)))]⟩) (fun k => k ≤ (wordsC c).length) (fun k => (wordsC c).length - k) 0 (by omega) (Le_lit (by simp [LeL, lk, bl, bts, outC, endL, ← hws, ← hwsL, hbd])) ?_
  intro k g1
  have hlen := out_len hln k g1
  by_cases hk : k < (wordsC c).length
  · have f5 : Fact (decide ((k : Int) < (wordsC c).length) = true) := by simp only [Fact, Bool.not_eq_true', Bool.not_eq_false', decide_eq_true_eq, decide_eq_false_iff_not]; omega
    have hmem : (wordsC c).getD k [] ∈ wordsC c := by rw [List.getD, List.getElem?_eq_getElem hk]; exact List.getElem_mem _
    have e1 := hln _ hmem
    have e2 := hwl _ hmem
    have hJ := p_Join none 32 ((wordsC c).getD k []) (by omega) (by show (lnOf _).length ≤ _; omega)
    have hst := out_step hk
    rcases Nat.eq_zero_or_pos k with h0 | h0
    · subst h0
      have hw := fun b => t_Write0 b (lnOf ((wordsC c).getD 0 [])) (by omega)
      have hw2 := fun b => t_WByte b (lnOf ((wordsC c).getD 0 [])) 10 (by omega)
      simp (disch := omega) only [← u8_10, ↓Ed, Eu, ↓reduceIte, reduceCtorEq, Nat.reduceAdd, Nat.reduceEqDiff, Nat.reduceLT, Nat.reduceLeDiff, Int.reduceToNat, Int.reduceEq, Int.reduceLT, Int.reduceLE, Int.toNat_natCast, al_so, al_al, al_pc, al_rc, al_pst, al_rst, w64, List.length_append, List.length_map, Nat.mul_one, beq_self_eq_true, Lim.cs, PathC.cs, RuleC.cs, gdP, gdR, gdN, bl]
      repeat' ((first | refine CallO_pure (hJ) ?_ | (refine' CallO_det (hw d) (lk_sub1 ?_) ?_; rotate_right 2; (focus ((repeat (first | exact lk_hd _ _ _ | (refine lk_tl ?_ ?_; (focus (first | assumption | (simp only [*, not_false_eq_true]; done)))))); done))) | (refine' CallO_det (hw2 d) (lk_sub1 ?_) ?_; rotate_right 2; (focus ((repeat (first | exact lk_hd _ _ _ | (refine lk_tl ?_ ?_; (focus (first | assumption | (simp only [*, not_false_eq_true]; done)))))); done))) | refine NewB_intro0 (fun b => ?_) | (refine NewB_intro (fun b hb => ?_); simp only [ln_cons2, ln_nil, and_true] at hb) | (with_reducible apply And.intro; (focus (first | omega | (simp only [Fact, Bool.not_eq_true', Bool.not_eq_false', decide_eq_true_eq, decide_eq_false_iff_not] at *; omega)))) | ((first | refine gW_sp ?_ | refine condW_sp ?_ | refine pickW_sp ?_); (try refine Sp_n ?_); (first | refine Sp_t (by assumption) ?_ | refine Sp_f (by assumption) ?_ | refine Sp_split (fun h => ?_) (fun h => ?_)) <;> (first | have h' := Fact_lt h | have h' := Fact_nlt h | have h' := Fact_le h | have h' := Fact_nle h | skip) <;> (try (exfalso; omega))) | refine TreeW_intro (by rfl) ?_ | refine TreeW_all ?_ | refine upQ_intro ?_ | refine Two_intro ?_ ?_ | (refine leK_lit ?_; (simp [-List.getD_eq_getElem?_getD, LeL, lk, *]; done)) | (refine leK_dd ?_; (simp [-List.getD_eq_getElem?_getD, LeS, LeL, lk, *]; done)) | (simp only [Fact, Bool.not_eq_true', Bool.not_eq_false', decide_eq_true_eq, decide_eq_false_iff_not] at *; refine leK_dd ?_; (simp [-List.getD_eq_getElem?_getD, LeS, LeL, lk, *]; done)) | (show (_ : Nat) ≤ _; omega)) <;> (try simp (disch := omega) only [*, ↓Ed, Eu, ↓reduceIte, reduceCtorEq, Nat.reduceAdd, Nat.reduceEqDiff, Nat.reduceLT, Nat.reduceLeDiff, Int.reduceToNat, Int.reduceEq, Int.reduceLT, Int.reduceLE, Int.toNat_natCast, al_so, al_al, al_pc, al_rc, al_pst, al_rst, w64, List.length_append, List.length_map, Nat.mul_one, beq_self_eq_true, Lim.cs, PathC.cs, RuleC.cs, gdP, gdR, gdN, bl]))
      exact Round_lit (0 + 1) ⟨Le_lit (by simp [-List.getD_eq_getElem?_getD, LeL, lk, hst, bl, bts, out_nil]), by omega, by omega⟩
    · have hw := fun b => t_Write b (outC ((wordsC c).take k)) (lnOf ((wordsC c).getD k [])) (by omega)
      have hw2 := fun b => t_WByte b (outC ((wordsC c).take k) ++ lnOf ((wordsC c).getD k [])) 10 (by simp only [List.length_append]; omega)
      have hk0 : ¬ k = 0 := by omega
      simp (disch := omega) only [hk0, ↓Ed, Eu, ↓reduceIte, reduceCtorEq, Nat.reduceAdd, Nat.reduceEqDiff, Nat.reduceLT, Nat.reduceLeDiff, Int.reduceToNat, Int.reduceEq, Int.reduceLT, Int.reduceLE, Int.toNat_natCast, al_so, al_al, al_pc, al_rc, al_pst, al_rst, w64, List.length_append, List.length_map, Nat.mul_one, beq_self_eq_true, Lim.cs, PathC.cs, RuleC.cs, gdP, gdR, gdN, bl]
      repeat' ((first | refine CallO_pure (hJ) ?_ | (refine' CallO_det (hw d) (lk_sub1 ?_) ?_; rotate_right 2; (focus ((repeat (first | exact lk_hd _ _ _ | (refine lk_tl ?_ ?_; (focus (first | assumption | (simp only [*, not_false_eq_true]; done)))))); done))) | (refine' CallO_det (hw2 d) (lk_sub1 ?_) ?_; rotate_right 2; (focus ((repeat (first | exact lk_hd _ _ _ | (refine lk_tl ?_ ?_; (focus (first | assumption | (simp only [*, not_false_eq_true]; done)))))); done))) | refine NewB_intro0 (fun b => ?_) | (refine NewB_intro (fun b hb => ?_); simp only [ln_cons2, ln_nil, and_true] at hb) | (with_reducible apply And.intro; (focus (first | omega | (simp only [Fact, Bool.not_eq_true', Bool.not_eq_false', decide_eq_true_eq, decide_eq_false_iff_not] at *; omega)))) | ((first | refine gW_sp ?_ | refine condW_sp ?_ | refine pickW_sp ?_); (try refine Sp_n ?_); (first | refine Sp_t (by assumption) ?_ | refine Sp_f (by assumption) ?_ | refine Sp_split (fun h => ?_) (fun h => ?_)) <;> (first | have h' := Fact_lt h | have h' := Fact_nlt h | have h' := Fact_le h | have h' := Fact_nle h | skip) <;> (try (exfalso; omega))) | refine TreeW_intro (by rfl) ?_ | refine TreeW_all ?_ | refine upQ_intro ?_ | refine Two_intro ?_ ?_ | (refine leK_lit ?_; (simp [-List.getD_eq_getElem?_getD, LeL, lk, *]; done)) | (refine leK_dd ?_; (simp [-List.getD_eq_getElem?_getD, LeS, LeL, lk, *]; done)) | (simp only [Fact, Bool.not_eq_true', Bool.not_eq_false', decide_eq_true_eq, decide_eq_false_iff_not] at *; refine leK_dd ?_; (simp [-List.getD_eq_getElem?_getD, LeS, LeL, lk, *]; done)) | (show (_ : Nat) ≤ _; omega)) <;> (try simp (disch := omega) only [*, ↓Ed, Eu, ↓reduceIte, reduceCtorEq, Nat.reduceAdd, Nat.reduceEqDiff, Nat.reduceLT, Nat.reduceLeDiff, Int.reduceToNat, Int.reduceEq, Int.reduceLT, Int.reduceLE, Int.toNat_natCast, al_so, al_al, al_pc, al_rc, al_pst, al_rst, w64, List.length_append, List.length_map, Nat.mul_one, beq_self_eq_true, Lim.cs, PathC.cs, RuleC.cs, gdP, gdR, gdN, bl]))
      exact Round_lit (k + 1) ⟨Le_lit (by simp [-List.getD_eq_getElem?_getD, LeL, lk, hst, bl, bts, out_nil]), by omega, by omega⟩
  · have f5 : Fact (decide ((k : Int) < (wordsC c).length) = false) := by simp only [Fact, Bool.not_eq_true', Bool.not_eq_false', decide_eq_true_eq, decide_eq_false_iff_not]; omega
    obtain rfl : k = (wordsC c).length := by omega
    simp (disch := omega) only [↓Ed, Eu, ↓reduceIte, reduceCtorEq, Nat.reduceAdd, Nat.reduceEqDiff, Nat.reduceLT, Nat.reduceLeDiff, Int.reduceToNat, Int.reduceEq, Int.reduceLT, Int.reduceLE, Int.toNat_natCast, al_so, al_al, al_pc, al_rc, al_pst, al_rst, w64, List.length_append, List.length_map, Nat.mul_one, beq_self_eq_true, Lim.cs, PathC.cs, RuleC.cs, gdP, gdR, gdN, bl]
    repeat' ((first | (refine' CallO_det (t_String d _ _ (.inr trivial)) (lk_sub1 ?_) ?_; rotate_right 2; (focus ((repeat (first | exact lk_hd _ _ _ | (refine lk_tl ?_ ?_; (focus (first | assumption | (simp only [*, not_false_eq_true]; done)))))); done))) | refine NewB_intro0 (fun b => ?_) | (refine NewB_intro (fun b hb => ?_); simp only [ln_cons2, ln_nil, and_true] at hb) | (with_reducible apply And.intro; (focus (first | omega | (simp only [Fact, Bool.not_eq_true', Bool.not_eq_false', decide_eq_true_eq, decide_eq_false_iff_not] at *; omega)))) | ((first | refine gW_sp ?_ | refine condW_sp ?_ | refine pickW_sp ?_); (try refine Sp_n ?_); (first | refine Sp_t (by assumption) ?_ | refine Sp_f (by assumption) ?_ | refine Sp_split (fun h => ?_) (fun h => ?_)) <;> (first | have h' := Fact_lt h | have h' := Fact_nlt h | have h' := Fact_le h | have h' := Fact_nle h | skip) <;> (try (exfalso; omega))) | refine TreeW_intro (by rfl) ?_ | refine TreeW_all ?_ | refine upQ_intro ?_ | refine Two_intro ?_ ?_ | (refine leK_lit ?_; (simp [-List.getD_eq_getElem?_getD, LeL, lk, *]; done)) | (refine leK_dd ?_; (simp [-List.getD_eq_getElem?_getD, LeS, LeL, lk, *]; done)) | (simp only [Fact, Bool.not_eq_true', Bool.not_eq_false', decide_eq_true_eq, decide_eq_false_iff_not] at *; refine leK_dd ?_; (simp [-List.getD_eq_getElem?_getD, LeS, LeL, lk, *]; done)) | (show (_ : Nat) ≤ _; omega)) <;> (try simp (disch := omega) only [*, ↓Ed, Eu, ↓reduceIte, reduceCtorEq, Nat.reduceAdd, Nat.reduceEqDiff, Nat.reduceLT, Nat.reduceLeDiff, Int.reduceToNat, Int.reduceEq, Int.reduceLT, Int.reduceLE, Int.toNat_natCast, al_so, al_al, al_pc, al_rc, al_pst, al_rst, w64, List.length_append, List.length_map, Nat.mul_one, beq_self_eq_true, Lim.cs, PathC.cs, RuleC.cs, gdP, gdR, gdN, bl]))
    rw [List.take_length]
end Go.Proofs.YtbjmcmgekcmbpaaGreatDoor
