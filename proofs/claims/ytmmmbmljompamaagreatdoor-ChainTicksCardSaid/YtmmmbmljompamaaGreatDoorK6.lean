import Derived.Test.YtmmmbmljompamaaGreatDoorK5
namespace Go.Proofs.YtmmmbmljompamaaGreatDoor
set_option linter.all false
open Go.RowKit

def hasObj (P : Program) (ops : Array Oper) : Bool := ops.any fun o => o.guard.isNone && (match o.op with
  | .call c => match c.callee with
    | .value (.func _) => c.argTypes.any (objT P)
    | _ => false
  | _ => false)
def hasNew (P : Program) (ops : Array Oper) : Bool := ops.any fun o => o.guard.isNone && (match o.op with
  | .call c => match c.callee with
    | .value (.func f) => ((P.funcs[f]?).map fun fn => fn.resultTypes.any (objT P)).getD false
    | _ => false
  | _ => false)
def cReg (P : Program) (N : Nat) (ops : Array Oper) (draw : Bool) (R lim : Nat) : Option ACode :=
  match cOpsL P R ops.toList ops.toList with
    | some As => if (ops.toList.all (dstOk N)) && (!draw || (As.all (fun A => A.k.det || A.big) && lexB ops ops.toList As 0)) then some (.reg As draw) else if (ops.toList.all (dstOk N)) && draw && As.all (fun A => A.k.det || A.big) && (treeN ops As ops.size (Array.replicate ops.size false) lim).isSome then some (.tree (treeT ops As ops.size (Array.replicate ops.size false))) else none
    | none => none
def cCode (P : Program) (N : Nat) : Code → Option ACode
  | .skip => some .skip
  | .region _ ops draw => if draw && hasObj P ops then (cReg P N ops draw 2 150).or ((cReg P N ops draw 1 150).or ((cReg P N ops draw 0 150).or ((cReg P N ops draw 1 320).or (if hasNew P ops then cReg P N ops draw 4 150 else none)))) else if draw && hasNew P ops then (cReg P N ops draw 4 150).or (cReg P N ops draw 0 320) else if draw then (cReg P N ops draw 0 150).or (cReg P N ops draw 0 320) else cReg P N ops draw 1 150
  | .seq a b => match cCode P N a, cCode P N b with
    | some x, some y => some (.seq x y)
    | _, _ => none
  | .cond c a b => match cOpd c, cCode P N a, cCode P N b with
    | some c, some x, some y => some (.cond c x y)
    | _, _, _ => none
  | .block id b => (cCode P N b).map (.block id)
  | .loop b => (cCode P N b).map .loop
  | .exit id => some (.exit id)
  | .ret => some .ret
  | _ => none

section
variable {P : Program} {N : Nat} {W0 : World} {U0 : Nat → Nat → Prop} {M : Nat → Prop}

theorem wp_loop_ix {α : Type} {c : Code} {Q : Exit → Act → World → Prop} (I : α → Act → World → Prop) (m : α → Nat) {x0 : α} {a : Act} {w : World} (h0 : I x0 a w)
    (round : ∀ x a w, I x a w → c.wp P (Exit.then (fun a' w' => ∃ x', I x' a' w' ∧ m x' < m x) Q) a w) : (Code.loop c).wp P Q a w := by
  intro b k cs
  have key : ∀ n x a w, m x = n → I x a w → ∃ e a' w', Q e a' w' ∧ Arrives P (lone (b.at a (.code c :: .inLoop c :: k)) cs w) b k cs e a' w' := by
    intro n
    induction n using Nat.strongRecOn with
    | _ n ih =>
      intro x a w hn hI
      obtain ⟨e, a₁, w₁, hq, harr⟩ := round x a w hI b (.inLoop c :: k) cs
      cases e with
      | normal =>
        obtain ⟨x', hI₁, hlt⟩ := hq
        obtain ⟨e₂, a₂, w₂, hq₂, harr₂⟩ := ih (m x') (hn ▸ hlt) x' a₁ w₁ rfl hI₁
        exact ⟨e₂, a₂, w₂, hq₂, .of_steps (Steps.trans harr (.one step_inLoop)) harr₂⟩
      | exit id => exact ⟨_, a₁, w₁, hq, .pass (x := .inLoop c) rfl (fun _ _ => .inl (by simp)) harr⟩
      | goto l => exact ⟨_, a₁, w₁, hq, .pass (x := .inLoop c) rfl (fun _ _ => .inl (by simp)) harr⟩
      | ret => exact ⟨_, a₁, w₁, hq, .pass (x := .inLoop c) rfl (fun _ _ => .inl (by simp)) harr⟩
      | panic ch => exact ⟨_, a₁, w₁, hq, .pass (x := .inLoop c) rfl (fun _ _ => .inl (by simp)) harr⟩
      | outgrown => exact ⟨_, a₁, w₁, hq, .pass (x := .inLoop c) rfl (fun _ _ => .inl (by simp)) harr⟩
  obtain ⟨e, a', w', hq, harr⟩ := key _ x0 a w rfl h0
  exact ⟨e, a', w', hq, .of_steps (.one step_loop) harr⟩

def QR (N : Nat) (W0 : World) (U0 : Nat → Nat → Prop) (M : Nat → Prop) (Q : AExit → St → Prop) : Exit → Act → World → Prop
  | .normal, a, w => ∃ U s, Inv N W0 U0 M a w U s ∧ Q .normal s
  | .exit id, a, w => ∃ U s, Inv N W0 U0 M a w U s ∧ Q (.exit id) s
  | .ret, a, w => ∃ U s, Inv N W0 U0 M a w U s ∧ Q .ret s
  | _, _, _ => False

theorem reg_sound (hm : P.follows .mixedOrders = true) {id : Nat} {ops : Array Oper} {draw : Bool} {R lim : Nat} {ac : ACode} {Q : AExit → St → Prop} {a : Act} {W : World} {U : Nat → Nat → Prop} {s : St} (hc : cReg P N ops draw R lim = some ac) (hi : Inv N W0 U0 M a W U s) (h : wpx P ac Q s) : (Code.region id ops draw).wp P (QR N W0 U0 M Q) a W := by
    unfold cReg at hc
    split at hc
    · rename_i As hAs
      split at hc
      · rename_i hb
        simp only [Option.some.injEq] at hc
        subst hc
        simp only [Bool.and_eq_true, List.all_eq_true, Bool.or_eq_true, Bool.not_eq_true'] at hb
        obtain ⟨hd, hdr⟩ := hb
        have hn : ∀ a' W' U' s', Inv N W0 U0 M a' W' U' s' → Q .normal s' → QR N W0 U0 M Q .normal a' W' := fun a' W' U' s' h1 h2 => ⟨U', s', h1, h2⟩
        cases draw with
        | false =>
          refine wp_region ?_
          have := seq_sound (P := P) (all := ops.toList) hd hn ops.toList As 0 a W U s (by simp) hAs hi h
          rw [List.range_eq_range']
          simpa using this
        | true =>
          rcases hdr with hdr | ⟨hdet, hlex⟩
          · cases hdr
          · refine wp_region_any hm ?_
            have hi' : Inv N W0 U0 M a { W with drawn := W.drawn + 1 } U s := hi.ext (Ext.refl W U).drew
            have hlex' : lexA ops.toList.toArray As ops.toList.length 0 (Array.replicate ops.size false) = true :=
              lexB_lexA (ops := ops.toList.toArray) (by simpa using (cOpsL_get hAs).1) ops.toList As 0 _ (by simp) (by simp) (by simp) (fun j hj => by simp at hj; simp [hj, blt_dec]) (by simpa using hlex)
            have hdet' : ∀ A ∈ As, (A.k.det || A.big) = true := fun A hA => by simpa using hdet A hA
            have h1 := lexA_sound (P := P) (ops := ops.toList) (As := As) (K := Q .normal) (cOpsL_get hAs).1 hdet' ops.toList As 0 _ s (cOpsL_get hAs).1.symm (by simp) (closed0 _ _) (by simpa using cnt0 ops.toList.toArray _) hlex' h
            have := any_sound (Q := QR N W0 U0 M Q) hAs hdet' hd hn ops.toList.length (Array.replicate ops.size false) a _ U s hi' (by simpa using cnt0 ops.toList.toArray _) h1
            simpa using this
      · split at hc
        · rename_i hb
          simp only [Option.some.injEq] at hc
          subst hc
          simp only [Bool.and_eq_true, List.all_eq_true] at hb
          obtain ⟨⟨⟨hd, rfl⟩, hdet⟩, _⟩ := hb
          obtain ⟨K', hup, h, hq⟩ := h
          have hn : ∀ a' W' U' s', Inv N W0 U0 M a' W' U' s' → K' s' → QR N W0 U0 M Q .normal a' W' := fun a' W' U' s' h1 h2 => by
            obtain ⟨s1, hle, hq1⟩ := hq s' h2
            exact ⟨U', s1, h1.le hle, hq1⟩
          refine wp_region_any hm ?_
          have hi' : Inv N W0 U0 M a { W with drawn := W.drawn + 1 } U s := hi.ext (Ext.refl W U).drew
          have hlen : As.length = ops.size := by simpa using (cOpsL_get hAs).1
          have h1 := treeT_sound (P := P) (ops := ops) (As := As) (K := K') hlen hdet ops.size (Array.replicate ops.size false) s (closed0 _ _) (cnt0 ops _) h
          have := any_sound (Q := QR N W0 U0 M Q) hAs hdet hd hn ops.toList.length (Array.replicate ops.size false) a _ U s hi' (by simpa using cnt0 ops.toList.toArray _) (by simpa using h1)
          simpa using this
        · cases hc
    · cases hc

theorem code_sound (hm : P.follows .mixedOrders = true) : ∀ (c : Code) (ac : ACode) (Q : AExit → St → Prop) (a : Act) (W : World) (U : Nat → Nat → Prop) (s : St), cCode P N c = some ac → Inv N W0 U0 M a W U s → wpx P ac Q s → c.wp P (QR N W0 U0 M Q) a W
  | .skip, ac, Q, a, W, U, s, hc, hi, h => by
    simp only [cCode, Option.some.injEq] at hc
    subst hc
    exact wp_skip ⟨U, s, hi, h⟩
  | .region id ops draw, ac, Q, a, W, U, s, hc, hi, h => by
    simp only [cCode] at hc
    split at hc
    · rw [Option.or_eq_some_iff] at hc
      rcases hc with hc | ⟨_, hc⟩
      · exact reg_sound hm hc hi h
      · rw [Option.or_eq_some_iff] at hc
        rcases hc with hc | ⟨_, hc⟩
        · exact reg_sound hm hc hi h
        · rw [Option.or_eq_some_iff] at hc
          rcases hc with hc | ⟨_, hc⟩
          · exact reg_sound hm hc hi h
          · rw [Option.or_eq_some_iff] at hc
            rcases hc with hc | ⟨_, hc⟩
            · exact reg_sound hm hc hi h
            · split at hc
              · exact reg_sound hm hc hi h
              · cases hc
    · split at hc
      · rw [Option.or_eq_some_iff] at hc
        rcases hc with hc | ⟨_, hc⟩
        · exact reg_sound hm hc hi h
        · exact reg_sound hm hc hi h
      · split at hc
        · rw [Option.or_eq_some_iff] at hc
          rcases hc with hc | ⟨_, hc⟩
          · exact reg_sound hm hc hi h
          · exact reg_sound hm hc hi h
        · exact reg_sound hm hc hi h
  | .seq x y, ac, Q, a, W, U, s, hc, hi, h => by
    simp only [cCode] at hc
    split at hc
    · rename_i ax ay h1 h2
      simp only [Option.some.injEq] at hc
      subst hc
      refine wp_seq ?_
      refine wp_mono (code_sound hm x ax _ a W U s h1 hi h) fun e a' w' hq => ?_
      cases e with
      | normal =>
        obtain ⟨U', s', hi', hw⟩ := hq
        exact code_sound hm y ay Q a' w' U' s' h2 hi' hw
      | exit id => exact hq
      | ret => exact hq
      | _ => exact hq.elim
    · cases hc
  | .cond c x y, ac, Q, a, W, U, s, hc, hi, h => by
    simp only [cCode] at hc
    split at hc
    · rename_i C ax ay h0 h1 h2
      simp only [Option.some.injEq] at hc
      subst hc
      obtain ⟨b, hb, ht, hf⟩ := h
      have hv := (cOpd_sound hi h0 hb).bool_inv
      cases b with
      | true => exact wp_cond_true hv (code_sound hm x ax Q a W U s h1 hi (ht rfl))
      | false => exact wp_cond_false hv (code_sound hm y ay Q a W U s h2 hi (hf rfl))
    · cases hc
  | .block id b, ac, Q, a, W, U, s, hc, hi, h => by
    simp only [cCode] at hc
    obtain ⟨ab, h1, rfl⟩ := Option.map_eq_some_iff.1 hc
    refine wp_block (wp_mono (code_sound hm b ab _ a W U s h1 hi h) fun e a' w' hq => ?_)
    cases e with
    | normal => exact hq
    | exit i =>
      obtain ⟨U', s', hi', hw⟩ := hq
      simp only [blockQ] at hw
      simp only [Exit.inBlock]
      by_cases hid : i = id
      · rw [if_pos hid] at hw ⊢
        exact ⟨U', s', hi', hw⟩
      · rw [if_neg hid] at hw ⊢
        exact ⟨U', s', hi', hw⟩
    | ret => exact hq
    | _ => exact hq.elim
  | .loop b, ac, Q, a, W, U, s, hc, hi, h => by
    simp only [cCode] at hc
    obtain ⟨ab, h1, rfl⟩ := Option.map_eq_some_iff.1 hc
    obtain ⟨α, inv, phi, m, ⟨x0, hle, h0⟩, hround⟩ := h
    refine wp_loop_ix (fun x a' w' => phi x ∧ ∃ U', Inv N W0 U0 M a' w' U' (inv x)) m (x0 := x0) ⟨h0, U, hi.le hle⟩ fun x a' w' ⟨hx, U', hi'⟩ => ?_
    refine wp_mono (code_sound hm b ab _ a' w' U' (inv x) h1 hi' (hround x hx)) fun e a2 w2 hq => ?_
    cases e with
    | normal =>
      obtain ⟨U2, s2, hi2, x', hle3, hI3, hlt⟩ := hq
      exact ⟨x', ⟨hI3, U2, hi2.le hle3⟩, hlt⟩
    | exit id => exact hq
    | ret => exact hq
    | _ => exact hq.elim
  | .exit id, ac, Q, a, W, U, s, hc, hi, h => by
    simp only [cCode, Option.some.injEq] at hc
    subst hc
    exact wp_exit ⟨U, s, hi, h⟩
  | .ret, ac, Q, a, W, U, s, hc, hi, h => by
    simp only [cCode, Option.some.injEq] at hc
    subst hc
    exact wp_ret ⟨U, s, hi, h⟩
  | .rangeFunc .., _, _, _, _, _, _, hc, _, _ => by simp [cCode] at hc
  | .scope _, _, _, _, _, _, _, hc, _, _ => by simp [cCode] at hc
  | .label _, _, _, _, _, _, _, hc, _, _ => by simp [cCode] at hc
  | .goto _, _, _, _, _, _, _, hc, _, _ => by simp [cCode] at hc
  | .refuse _, _, _, _, _, _, _, hc, _, _ => by simp [cCode] at hc

inductive AR where
  | tmp (i : Nat)
  | cell (i : Nat) (n : Option Nat)
def cRes (P : Program) : List ResultVar → Option (List AR)
  | [] => some []
  | .tmp i :: r => (cRes P r).map (.tmp i :: ·)
  | .cell i t :: r => match aggN P t, cRes P r with
    | some n, some rs => some (.cell i n :: rs)
    | _, _ => none
def arR (s : St) : AR → AV → Prop
  | .tmp i, r => s.t i = some r
  | .cell i n, r => ∃ p cs, s.t i = some p ∧ view s.o p = some cs ∧ ldR n cs r
def resR (s : St) : List AR → AV → Prop
  | [x], r => arR s x r
  | xs, r => ∃ rs : List AV, xs.length = rs.length ∧ (∀ (i : Nat) (x : AR) (c : AV), xs[i]? = some x → rs[i]? = some c → ∃ c', arR s x c' ∧ c = c'.alias) ∧ r = .tup rs
def num {α : Type} : Nat → List α → List (Nat × α)
  | _, [] => []
  | n, a :: r => (n, a) :: num (n + 1) r
theorem lk_num {α : Type} (l : List α) (n i : Nat) : lk (num n l) i = if n ≤ i then l[i - n]? else none := by
  induction l generalizing n with
  | nil => simp [num, lk]
  | cons a l ih =>
    simp only [num, lk, ih]
    by_cases h : i = n
    · subst h; simp
    · rw [if_neg h]
      by_cases h1 : n + 1 ≤ i
      · rw [if_pos h1, if_pos (by omega)]
        have : i - n = (i - (n + 1)) + 1 := by omega
        rw [this, List.getElem?_cons_succ]
      · rw [if_neg h1, if_neg (by omega)]
def st0 (as : List AV) : St := ⟨lk (num 0 (as.map AV.alias)), lk []⟩
def retQ (rs : List AR) (r : AV) : AExit → St → Prop
  | .normal, s => resR s rs r
  | .ret, s => resR s rs r
  | _, _ => False

def resS (tmps : Array Value) : ResultVar → Sem Value
  | .tmp t => pure (tmps.getD t undef)
  | .cell i t => do loadVar t (← asAddr (tmps.getD i undef))
theorem results_eq (fn : Func) (tmps : Array Value) : results fn tmps = (do let vs ← fn.results.mapM (resS tmps); pure (if h : vs.size = 1 then vs[0] else .tuple vs)) := by
  unfold results
  have : (fun x : ResultVar => (match x with | .tmp t => pure (tmps.getD t undef) | .cell i t => do loadVar t (← asAddr (tmps.getD i undef)) : Sem Value)) = resS tmps := by
    funext x
    cases x <;> rfl
  rw [← this]
  rfl
theorem ar_sound {a : Act} {W : World} {U : Nat → Nat → Prop} {s : St} (h : Inv N W0 U0 M a W U s) {x : ResultVar} {y : AR} {rest : List ResultVar} {ys : List AR} (hc : cRes P (x :: rest) = some (y :: ys)) {r : AV} (hr : arR s y r) :
    cRes P rest = some ys ∧ ∃ v, (resS a.tmps x).run P W = .ok v W ∧ VR W U v r ∧ Own1 W U (fun g => W0.heap.size ≤ g ∨ M g) v r ∧ (∀ e sz els, r = .sl (some e) sz els → ∃ i, s.t i = some r ∧ v = a.tmps.getD i undef) := by
  cases x with
  | tmp t =>
    simp only [cRes, Option.map_eq_some_iff, List.cons.injEq] at hc
    obtain ⟨ys', h1, rfl, rfl⟩ := hc
    exact ⟨h1, _, rfl, h.tv t r hr, h.ow (.t t) r hr, fun _ _ _ _ => ⟨t, hr, rfl⟩⟩
  | cell i t =>
    simp only [cRes] at hc
    split at hc
    · rename_i n rs h1 h2
      simp only [Option.some.injEq, List.cons.injEq] at hc
      obtain ⟨rfl, rfl⟩ := hc
      obtain ⟨p, cs, hp, hv, hl⟩ := hr
      obtain ⟨b, off, f, he, e1, e2⟩ := view_sound h (h.tv i p hp) hv
      obtain ⟨v, hrun, hvr, hpl⟩ := run_load_cells (P := P) h1 e1 e2 hl
      refine ⟨h2, v, ?_, hvr, Own1.plain hpl, fun e sz els he => absurd he (hpl e sz els)⟩
      have hrun' : (loadVar t ⟨b, off, none⟩).run P W = .ok v W := by
        simpa [Instr.loadAt, Instr.sureAddr] using hrun
      simp [resS, he, asAddr, hrun']
    · cases hc

theorem res_sound {a : Act} {W : World} {U : Nat → Nat → Prop} {s : St} (h : Inv N W0 U0 M a W U s) {fn : Func} {ys : List AR} (hc : cRes P fn.results.toList = some ys) {r : AV} (hr : resR s ys r) :
    ∃ v, (results fn a.tmps).run P W = .ok v W ∧ VR W U v r ∧ Own1 W U (fun g => W0.heap.size ≤ g ∨ M g) v r ∧ (∀ e sz els, r = .sl (some e) sz els → ∃ i, s.t i = some r ∧ v = a.tmps.getD i undef) := by
  have many : ∀ (xs : List ResultVar) (ys : List AR) (rs : List AV), cRes P xs = some ys → ys.length = rs.length → (∀ (i : Nat) (x : AR) (c : AV), ys[i]? = some x → rs[i]? = some c → ∃ c', arR s x c' ∧ c = c'.alias) →
      ∃ vs : List Value, (xs.mapM (resS a.tmps)).run P W = .ok vs W ∧ vs.length = rs.length ∧ xs.length = rs.length ∧
        ∀ (i : Nat) (v : Value) (c : AV), vs[i]? = some v → rs[i]? = some c → VR W U v c := by
    intro xs
    induction xs with
    | nil =>
      intro ys rs h1 h2 _
      simp only [cRes, Option.some.injEq] at h1
      subst h1
      have : rs = [] := List.eq_nil_of_length_eq_zero h2.symm
      subst this
      exact ⟨[], rfl, rfl, rfl, fun i v c hv => by simp at hv⟩
    | cons x xs ih =>
      intro ys rs h1 h2 h3
      cases ys with
      | nil => cases x <;> simp [cRes] at h1; split at h1 <;> simp at h1
      | cons y ys =>
        cases rs with
        | nil => simp at h2
        | cons c rs =>
          obtain ⟨c', q1, rfl⟩ := h3 0 y c rfl rfl
          obtain ⟨q2, v, q3, q4, _, _⟩ := ar_sound h h1 q1
          obtain ⟨vs, q5, q6, q7, q8⟩ := ih ys rs q2 (by simpa using h2) (fun i x c hx hc' => h3 (i + 1) x c (by simpa using hx) (by simpa using hc'))
          refine ⟨v :: vs, ?_, by simp [q6], by simp [q7], fun i u d hu hd => ?_⟩
          · simp only [List.mapM_cons, Sem.run_bind, q3, Result.andThen_ok, q5]
            rfl
          · cases i with
            | zero => simp at hu hd; subst hu hd; exact q4.alias
            | succ i => exact q8 i u d (by simpa using hu) (by simpa using hd)
  have hmany : (∃ rs : List AV, ys.length = rs.length ∧ (∀ (i : Nat) (x : AR) (c : AV), ys[i]? = some x → rs[i]? = some c → ∃ c', arR s x c' ∧ c = c'.alias) ∧ r = .tup rs) → ys.length ≠ 1 →
      ∃ v, (results fn a.tmps).run P W = .ok v W ∧ VR W U v r ∧ Own1 W U (fun g => W0.heap.size ≤ g ∨ M g) v r ∧ (∀ e sz els, r = .sl (some e) sz els → ∃ i, s.t i = some r ∧ v = a.tmps.getD i undef) := by
    rintro ⟨rs, h1, h2, rfl⟩ hne
    obtain ⟨vs, q1, q2, q3, q4⟩ := many fn.results.toList ys rs hc h1 h2
    refine ⟨.tuple vs.toArray, ?_, .tup vs rs q2 q4, trivial, fun e sz els he => by cases he⟩
    rw [results_eq, Array.mapM_eq_mapM_toList]
    simp only [Sem.run_bind, Sem.run_map, q1, Result.andThen_ok]
    have : ¬ vs.length = 1 := by omega
    simp [this]
  match ys, hr with
  | [], hr => exact hmany hr (by simp)
  | [y], hr =>
    cases hx : fn.results.toList with
    | nil => rw [hx] at hc; simp [cRes] at hc
    | cons x xs =>
      rw [hx] at hc
      obtain ⟨q1, v, q2, q3, q4, q5⟩ := ar_sound h hc hr
      cases xs with
      | cons x' xs => cases x' <;> simp [cRes] at q1; split at q1 <;> simp at q1
      | nil =>
        refine ⟨v, ?_, q3, q4, q5⟩
        rw [results_eq, Array.mapM_eq_mapM_toList, hx]
        simp only [List.mapM_cons, List.mapM_nil, Sem.run_bind, Sem.run_map, q2, Result.andThen_ok]
        simp
  | _ :: _ :: _, hr => exact hmany hr (by simp)

theorem CP_of (hm : P.follows .mixedOrders = true) {f : Nat} {fn : Func} {c : Code} {ac : ACode} {rs : List AR} {as : List AV} {r : AV} (hf : P.funcs[f]? = some fn) (hb : fn.body = some c) (hc : cCode P fn.ntmps c = some ac) (hr : cRes P fn.results.toList = some rs)
    (hn : as.length ≤ fn.ntmps) (h : wpx P ac (retQ rs r) (st0 as)) : CP P f as r := by
  intro W U vs hG hl hv
  refine calls_of_wp hf hb ?_
  have hsz : (vs.toArray ++ Array.replicate (fn.ntmps - vs.toArray.size) undef).size = fn.ntmps := by simp; omega
  have h0 : Inv fn.ntmps W U (fun _ => False) { tmps := vs.toArray ++ Array.replicate (fn.ntmps - vs.toArray.size) undef, defers := [] } W U (st0 as) := by
    have hat : ∀ {ℓ : Loc} {e sz : Nat} {els : List (List AV)}, (st0 as).at ℓ ≠ some (.sl (some e) sz els) := by
      intro ℓ e sz els hl'
      cases ℓ with
      | t i =>
        simp only [St.at, st0, lk_num, Nat.zero_le, if_true, Nat.sub_zero, List.getElem?_map, Option.map_eq_some_iff] at hl'
        obtain ⟨x, _, hx⟩ := hl'
        exact alias_plain x _ _ _ hx
      | o b j => simp [St.at, st0, lk] at hl'
    refine ⟨hsz, rfl, ⟨rfl, rfl, rfl, Nat.le_refl _, fun _ _ _ => rfl, fun _ _ _ _ => Iff.rfl, Keeps.refl _ _, hG, fun _ _ h => h⟩, fun i v hi => ?_, fun b cs hb => by simp [st0, lk] at hb, fun ℓ v hl' => ?_, fun ℓ ℓ' e sz els e' sz' els' _ h1 => absurd h1 hat, fun ℓ e sz els h1 => absurd h1 hat⟩
    · simp only [st0, lk_num, Nat.zero_le, if_true, Nat.sub_zero, List.getElem?_map, Option.map_eq_some_iff] at hi
      obtain ⟨x, hx, rfl⟩ := hi
      have hi' : i < as.length := (List.getElem?_eq_some_iff.1 hx).1
      have hget : (vs.toArray ++ Array.replicate (fn.ntmps - vs.toArray.size) undef).getD i undef = vs[i] := by
        rw [Array.getD_eq_getD_getElem?, Array.getElem?_append_left (by simp; omega)]
        simp [show i < vs.length by omega]
      rw [hget]
      exact (hv i _ x (List.getElem?_eq_getElem (by omega)) hx).alias
    · unfold Own1
      split
      · exact absurd hl' hat
      · trivial
  refine wp_mono (code_sound hm c ac _ _ W U _ hc h0 h) fun e a' w' hq => ?_
  have fin : ∀ {U' : Nat → Nat → Prop} {s : St}, Inv fn.ntmps W U (fun _ => False) a' w' U' s → resR s rs r → a'.defers = [] ∧ ∃ v, (results fn a'.tmps).run P w' = .ok v w' ∧ ∃ v' U', Ending.returned v = .returned v' ∧ VR w' U' v' r ∧ Own1 w' U' (W.heap.size ≤ ·) v' r ∧ Ext W U w' U' := by
    intro U' s hi hres
    obtain ⟨v, q1, q2, q3, _⟩ := res_sound hi hr hres
    refine ⟨hi.df, v, q1, v, U', rfl, q2, ?_, ⟨⟨hi.fr.os, hi.fr.tape, hi.fr.output, hi.fr.size, fun k hk => hi.fr.block k hk id⟩, fun k hk => hi.fr.u k hk id⟩⟩
    unfold Own1 at *
    split at q3
    · rcases q3 with q3 | ⟨g, cap, cur, p1, p2, p3⟩
      · exact .inl q3
      · exact .inr ⟨g, cap, cur, p1, p2.resolve_right id, p3⟩
    · trivial
  cases e with
  | normal => obtain ⟨U', s, hi, hres⟩ := hq; exact fin hi hres
  | ret => obtain ⟨U', s, hi, hres⟩ := hq; exact fin hi hres
  | exit id => obtain ⟨U', s, hi, hres⟩ := hq; exact hres.elim
  | _ => exact hq.elim
theorem CP_ok (hm : P.follows .mixedOrders = true) {f n : Nat} {fn : Func} {ac : ACode} {rs : List AR} (hf : P.funcs[f]? = some fn) (hc : fn.body.bind (cCode P fn.ntmps) = some ac) (hr : cRes P fn.results.toList = some rs) (hn : fn.ntmps = n) :
    ∀ (as : List AV) (r : AV), as.length ≤ n → wpx P ac (retQ rs r) (st0 as) → CP P f as r := by
  intro as r hl h
  cases hb : fn.body with
  | none => simp [hb] at hc
  | some c =>
    rw [hb] at hc
    exact CP_of hm hf hb hc hr (by omega) h

def RetO (s : St) (rs : List AR) (o1 : Nat → Option (List AV)) (Q : AV → (Nat → Option (List AV)) → Prop) : Prop :=
  ∃ r, resR s rs r ∧ ∃ o2, (∀ b cs, o2 b = some cs → s.o b = some cs) ∧ (∀ b cs, o1 b = some cs → ∃ cs', o2 b = some cs') ∧ Q r o2
def retQ2 (rs : List AR) (o1 : Nat → Option (List AV)) (Q : AV → (Nat → Option (List AV)) → Prop) : AExit → St → Prop
  | .normal, s => RetO s rs o1 Q
  | .ret, s => RetO s rs o1 Q
  | _, _ => False
theorem Inv.res {a : Act} {W : World} {U : Nat → Nat → Prop} {s : St} (h : Inv N W0 U0 M a W U s) {o2 : Nat → Option (List AV)} (ho : ∀ b cs, o2 b = some cs → s.o b = some cs) {v : Value} {r : AV} (hv : VR W U v r)
    (hown : ∀ e sz els, r = .sl (some e) sz els → ∃ i, s.t i = some r ∧ v = a.tmps.getD i undef) : Inv 1 W0 U0 M { tmps := #[v], defers := [] } W U ⟨upd (fun _ => none) 0 (some r), o2⟩ := by
  have hat : ∀ {ℓ : Loc} {e sz : Nat} {els : List (List AV)}, St.at ⟨upd (fun _ => none) 0 (some r), o2⟩ ℓ = some (.sl (some e) sz els) →
      ∃ ℓ', s.at ℓ' = some (.sl (some e) sz els) ∧ cat { tmps := #[v], defers := [] } W ℓ = cat a W ℓ' ∧ ((ℓ = .t 0 ∧ ∃ i, ℓ' = .t i) ∨ (∃ b j, ℓ = .o b j ∧ ℓ' = .o b j)) := by
    intro ℓ e sz els hl
    cases ℓ with
    | t i =>
      simp only [St.at, upd] at hl
      by_cases hi : i = 0
      · subst hi
        simp only [if_true, Option.some.injEq] at hl
        obtain ⟨k, h1, h2⟩ := hown e sz els hl
        exact ⟨.t k, by rw [← hl]; exact h1, h2, .inl ⟨rfl, k, rfl⟩⟩
      · simp [hi] at hl
    | o b j =>
      refine ⟨.o b j, ?_, rfl, .inr ⟨b, j, rfl, rfl⟩⟩
      simp only [St.at, Option.bind_eq_some_iff] at hl ⊢
      obtain ⟨cs, h1, h2⟩ := hl
      exact ⟨cs, ho b cs h1, h2⟩
  refine ⟨rfl, rfl, h.fr, fun i x hx => ?_, fun b cs hb => h.ob b cs (ho b cs hb), fun ℓ x hx => ?_, fun ℓ ℓ' e sz els e' sz' els' hne h1 h2 => ?_, fun ℓ e sz els h1 g hg => ?_⟩
  · simp only [upd] at hx
    by_cases hi : i = 0
    · subst hi
      simp only [if_true, Option.some.injEq] at hx
      exact hx ▸ hv
    · simp [hi] at hx
  · unfold Own1
    split
    · obtain ⟨ℓ', g1, g2, _⟩ := hat hx
      rw [g2]
      exact h.own g1
    · trivial
  · obtain ⟨k, g1, g2, g3⟩ := hat h1
    obtain ⟨k', g4, g5, g6⟩ := hat h2
    rw [g2, g5]
    refine h.ap k k' _ _ _ _ _ _ ?_ g1 g4
    rintro rfl
    rcases g3 with ⟨rfl, i, rfl⟩ | ⟨b, j, rfl, rfl⟩ <;> rcases g6 with ⟨rfl, i', g6⟩ | ⟨b', j', rfl, g6⟩
    · exact hne rfl
    · cases g6
    · cases g6
    · cases g6; exact hne rfl
  · obtain ⟨k, g1, g2, _⟩ := hat h1
    rw [g2] at hg
    have := h.no k _ _ _ g1 g hg
    cases h3 : o2 g with
    | none => exact h3
    | some cs => rw [ho g cs h3] at this; cases this

theorem Inv.enter {W : World} {U : Nat → Nat → Prop} {fn : Func} {as : List AV} {o1 : Nat → Option (List AV)} {vs : List Value} (hn : as.length ≤ fn.ntmps) (hl : vs.length = as.length)
    (hv : ∀ (i : Nat) (v : Value) (c : AV), vs[i]? = some v → as[i]? = some c → VR W U v c) (h1 : Inv 0 W U (ownedBy W o1) { tmps := #[], defers := [] } W U ⟨fun _ => none, o1⟩) :
    Inv fn.ntmps W U (ownedBy W o1) { tmps := vs.toArray ++ Array.replicate (fn.ntmps - vs.toArray.size) undef, defers := [] } W U ⟨lk (num 0 (as.map AV.alias)), o1⟩ := by
  have hsz : (vs.toArray ++ Array.replicate (fn.ntmps - vs.toArray.size) undef).size = fn.ntmps := by simp; omega
  have hatt : ∀ {i : Nat} {e sz : Nat} {els : List (List AV)}, lk (num 0 (as.map AV.alias)) i ≠ some (.sl (some e) sz els) := by
    intro i e sz els hl'
    simp only [lk_num, Nat.zero_le, if_true, Nat.sub_zero, List.getElem?_map, Option.map_eq_some_iff] at hl'
    obtain ⟨x, _, hx⟩ := hl'
    exact alias_plain x _ _ _ hx
  have hato : ∀ {ℓ : Loc} {e sz : Nat} {els : List (List AV)}, St.at ⟨lk (num 0 (as.map AV.alias)), o1⟩ ℓ = some (.sl (some e) sz els) → (∃ b j, ℓ = .o b j) ∧ St.at ⟨fun _ => none, o1⟩ ℓ = some (.sl (some e) sz els) := by
    intro ℓ e sz els hl'
    cases ℓ with
    | t i => exact absurd hl' hatt
    | o b j => exact ⟨⟨b, j, rfl⟩, hl'⟩
  refine ⟨hsz, rfl, h1.fr, fun i v hi => ?_, h1.ob, fun ℓ v hl' => ?_, fun ℓ ℓ' e sz els e' sz' els' hne q1 q2 => ?_, fun ℓ e sz els q1 g hg => ?_⟩
  · simp only [lk_num, Nat.zero_le, if_true, Nat.sub_zero, List.getElem?_map, Option.map_eq_some_iff] at hi
    obtain ⟨x, hx, rfl⟩ := hi
    have hi' : i < as.length := (List.getElem?_eq_some_iff.1 hx).1
    have hget : (vs.toArray ++ Array.replicate (fn.ntmps - vs.toArray.size) undef).getD i undef = vs[i] := by
      rw [Array.getD_eq_getD_getElem?, Array.getElem?_append_left (by simp; omega)]
      simp [show i < vs.length by omega]
    rw [hget]
    exact (hv i _ x (List.getElem?_eq_getElem (by omega)) hx).alias
  · unfold Own1
    split
    · obtain ⟨⟨b, j, rfl⟩, q⟩ := hato hl'
      exact h1.own q
    · trivial
  · obtain ⟨⟨b, j, rfl⟩, q3⟩ := hato q1
    obtain ⟨⟨b', j', rfl⟩, q4⟩ := hato q2
    exact h1.ap _ _ _ _ _ _ _ _ hne q3 q4
  · obtain ⟨⟨b, j, rfl⟩, q3⟩ := hato q1
    exact h1.no _ _ _ _ q3 g hg
theorem CT_of (hm : P.follows .mixedOrders = true) {f : Nat} {fn : Func} {c : Code} {ac : ACode} {rs : List AR} {as : List AV} {o1 : Nat → Option (List AV)} {Q : AV → (Nat → Option (List AV)) → Prop} (hf : P.funcs[f]? = some fn) (hb : fn.body = some c) (hc : cCode P fn.ntmps c = some ac) (hr : cRes P fn.results.toList = some rs)
    (hn : as.length ≤ fn.ntmps) (h : wpx P ac (retQ2 rs o1 Q) ⟨lk (num 0 (as.map AV.alias)), o1⟩) : CT P f as o1 Q := by
  intro W U vs hl hv h1
  refine calls_of_wp hf hb ?_
  have h0 := Inv.enter hn hl hv h1
  refine wp_mono (code_sound hm c ac _ _ W U _ hc h0 h) fun e a' w' hq => ?_
  have fin : ∀ {U' : Nat → Nat → Prop} {s : St}, Inv fn.ntmps W U (ownedBy W o1) a' w' U' s → RetO s rs o1 Q → a'.defers = [] ∧ ∃ v, (results fn a'.tmps).run P w' = .ok v w' ∧
      ∃ v' U' r o', Ending.returned v = .returned v' ∧ Q r o' ∧ (∀ b cs, o1 b = some cs → ∃ cs', o' b = some cs') ∧ Inv 1 W U (ownedBy W o1) { tmps := #[v'], defers := [] } w' U' ⟨upd (fun _ => none) 0 (some r), o'⟩ := by
    rintro U' s hi ⟨r, hres, o2, ho2, hdom, hQ⟩
    obtain ⟨v, q1, q2, q3, q4⟩ := res_sound hi hr hres
    exact ⟨hi.df, v, q1, v, U', r, o2, rfl, hQ, hdom, hi.res ho2 q2 q4⟩
  cases e with
  | normal => obtain ⟨U', s, hi, hres⟩ := hq; exact fin hi hres
  | ret => obtain ⟨U', s, hi, hres⟩ := hq; exact fin hi hres
  | exit id => obtain ⟨U', s, hi, hres⟩ := hq; exact hres.elim
  | _ => exact hq.elim
theorem CT_ok (hm : P.follows .mixedOrders = true) {f n : Nat} {fn : Func} {ac : ACode} {rs : List AR} (hf : P.funcs[f]? = some fn) (hc : fn.body.bind (cCode P fn.ntmps) = some ac) (hr : cRes P fn.results.toList = some rs) (hn : fn.ntmps = n) :
    ∀ (as : List AV) (o1 : Nat → Option (List AV)) (Q : AV → (Nat → Option (List AV)) → Prop), as.length ≤ n → wpx P ac (retQ2 rs o1 Q) ⟨lk (num 0 (as.map AV.alias)), o1⟩ → CT P f as o1 Q := by
  intro as o1 Q hl h
  cases hb : fn.body with
  | none => simp [hb] at hc
  | some c =>
    rw [hb] at hc
    exact CT_of hm hf hb hc hr (by omega) h
end
end Go.Proofs.YtmmmbmljompamaaGreatDoor

namespace Go.Proofs.YtmmmbmljompamaaGreatDoor
set_option linter.all false
open Go.RowKit
def Fz0 (o : Nat → Option (List AV)) : AV → AV → Prop
  | .hsl g _ sz n cap, r => ∃ els, o g = some (hc sz cap els) ∧ (∀ x ∈ els, x.length = sz) ∧ n ≤ els.length ∧ r = .sl none sz (els.take n)
  | .hss g sz a m, r => ∃ cap els, o g = some (hc sz cap els) ∧ (∀ x ∈ els, x.length = sz) ∧ a + m ≤ els.length ∧ r = .sl none sz ((els.drop a).take m)
  | .hnil _ sz, r => r = .sl none sz []
  | .osl b off n, r => ∃ cs, o b = some cs ∧ off + n ≤ cs.length ∧ r = .sl none 1 (((cs.drop off).take n).map fun c => [c])
  | .mapv b, r => r = .mapv b ∨ ∃ ks vs bs clk, o b = some [.mp ks vs bs clk] ∧ r = .rom ks vs
  | a, r => r = a
def Fz1 (o : Nat → Option (List AV)) : AV → AV → Prop
  | .ptr b off, r => r = .ptr b off ∨ ∃ cs ds, o b = some cs ∧ off = 0 ∧ cs.length = ds.length ∧ (∀ (i : Nat) (c d : AV), cs[i]? = some c → ds[i]? = some d → ∃ d', Fz0 o c d' ∧ d = d'.alias) ∧ r = .ro ds
  | a, r => Fz0 o a r
def Fz2 (o : Nat → Option (List AV)) : AV → AV → Prop
  | .agg cs, r => ∃ ds, cs.length = ds.length ∧ (∀ (i : Nat) (c d : AV), cs[i]? = some c → ds[i]? = some d → Fz1 o c d) ∧ r = .agg ds
  | a, r => Fz1 o a r
def Fz3 (o : Nat → Option (List AV)) : AV → AV → Prop
  | .tup cs, r => ∃ ds, cs.length = ds.length ∧ (∀ (i : Nat) (c d : AV), cs[i]? = some c → ds[i]? = some d → Fz2 o c d) ∧ r = .tup ds
  | a, r => Fz2 o a r
section
variable {W : World} {U U' : Nat → Nat → Prop} {o3 : Nat → Option (List AV)} (hob : ∀ b cs, o3 b = some cs → ObR W U b cs) (hk : Keeps W U W U') (hU : ∀ b cs, o3 b = some cs → ∀ i, ¬ U' b i)
include hob hk hU
end
variable {N : Nat} {W0 : World} {U0 : Nat → Nat → Prop} {M : Nat → Prop} {P : Program}
def RetF (s : St) (rs : List AR) (o1 : Nat → Option (List AV)) (Q : AV → (Nat → Option (List AV)) → Prop) : Prop :=
  ∃ r0, resR s rs r0 ∧ ∃ o2 o3 : Nat → Option (List AV), (∀ b cs, o2 b = some cs → s.o b = some cs ∧ o3 b = none) ∧ (∀ b cs, o3 b = some cs → s.o b = some cs) ∧ (∀ b cs, o1 b = some cs → ∃ cs', o2 b = some cs') ∧ ∃ r, Fz3 o3 r0 r ∧ Q r o2
def retQ3 (rs : List AR) (o1 : Nat → Option (List AV)) (Q : AV → (Nat → Option (List AV)) → Prop) : AExit → St → Prop
  | .normal, s => RetF s rs o1 Q
  | .ret, s => RetF s rs o1 Q
  | _, _ => False
theorem r3_n {rs : List AR} {o1 : Nat → Option (List AV)} {Q : AV → (Nat → Option (List AV)) → Prop} {s : St} : retQ3 rs o1 Q .normal s = RetF s rs o1 Q := rfl
theorem r3_r {rs : List AR} {o1 : Nat → Option (List AV)} {Q : AV → (Nat → Option (List AV)) → Prop} {s : St} : retQ3 rs o1 Q .ret s = RetF s rs o1 Q := rfl
theorem r3_e {rs : List AR} {o1 : Nat → Option (List AV)} {Q : AV → (Nat → Option (List AV)) → Prop} {s : St} {id : Nat} : retQ3 rs o1 Q (.exit id) s = False := rfl
end Go.Proofs.YtmmmbmljompamaaGreatDoor

namespace Go.Proofs.YtmmmbmljompamaaGreatDoor
set_option linter.all false
open Go.RowKit

def K1 (o : Option AV) (K : AV → Prop) : Prop := ∃ v, o = some v ∧ K v
theorem K1_some (v : AV) (K : AV → Prop) : K1 (some v) K = K v := by simp [K1]
def KL (o : Option (List AV)) (K : List AV → Prop) : Prop := ∃ v, o = some v ∧ K v
theorem KL_some (v : List AV) (K : List AV → Prop) : KL (some v) K = K v := by simp [KL]
def KP (o : Option (List (Nat × Nat × AV))) (K : List (Nat × Nat × AV) → Prop) : Prop := ∃ v, o = some v ∧ K v
theorem KP_some (v : List (Nat × Nat × AV)) (K : List (Nat × Nat × AV) → Prop) : KP (some v) K = K v := by simp [KP]
def RK (R : AV → Prop) (K : AV → Prop) : Prop := ∃ r, R r ∧ K r
theorem RK_eq (v : AV) (K : AV → Prop) : RK (fun r => r = v) K = K v := by simp [RK]
theorem RK_and (C : Prop) (v : AV) (K : AV → Prop) : RK (fun r => C ∧ r = v) K = (C ∧ K v) := by
  apply propext
  exact ⟨fun ⟨r, ⟨h1, h2⟩, h3⟩ => ⟨h1, h2 ▸ h3⟩, fun ⟨h1, h2⟩ => ⟨v, ⟨h1, rfl⟩, h2⟩⟩
theorem RK_andx (C : Prop) (R K : AV → Prop) : RK (fun r => C ∧ R r) K = (C ∧ RK R K) := by
  apply propext
  constructor
  · rintro ⟨r, ⟨h1, h2⟩, h3⟩; exact ⟨h1, r, h2, h3⟩
  · rintro ⟨h1, r, h2, h3⟩; exact ⟨r, ⟨h1, h2⟩, h3⟩
def RL (R : List AV → Prop) (K : List AV → Prop) : Prop := ∃ r, R r ∧ K r
theorem RL_eq (v : List AV) (K : List AV → Prop) : RL (fun r => r = v) K = K v := by simp [RL]
theorem RL_andx (C : Prop) (R K : List AV → Prop) : RL (fun r => C ∧ R r) K = (C ∧ RL R K) := by
  apply propext
  constructor
  · rintro ⟨r, ⟨h1, h2⟩, h3⟩; exact ⟨h1, r, h2, h3⟩
  · rintro ⟨h1, r, h2, h3⟩; exact ⟨r, ⟨h1, h2⟩, h3⟩
def KS (s : St) (K : St → Prop) : Prop := K s
theorem KS_lit (t : List (Nat × AV)) (o : List (Nat × List AV)) (K : St → Prop) : KS ⟨lk t, lk o⟩ K = K ⟨lk t, lk o⟩ := rfl
def Fact (p : Prop) : Prop := p
def Sp (b : Bool) (K : Bool → Prop) : Prop := K b
theorem Sp_n {b : Bool} {K : Bool → Prop} (h : Sp b (fun b => K (!b))) : Sp (!b) K := h
theorem Sp_t {b : Bool} {K : Bool → Prop} (h : Fact (b = true)) (hk : K true) : Sp b K := by
  have h' : b = true := h
  subst h'; exact hk
theorem Sp_f {b : Bool} {K : Bool → Prop} (h : Fact (b = false)) (hk : K false) : Sp b K := by
  have h' : b = false := h
  subst h'; exact hk
theorem Sp_split {b : Bool} {K : Bool → Prop} (h1 : Fact (b = true) → K true) (h2 : Fact (b = false) → K false) : Sp b K := by
  cases b
  · exact h2 rfl
  · exact h1 rfl
def NewB (o : Nat → Option (List AV)) (K : Nat → Prop) : Prop := ∀ b, o b = none → K b
theorem NewB_intro {o : Nat → Option (List AV)} {K : Nat → Prop} (h : ∀ b, o b = none → K b) : NewB o K := h
theorem NewB_intro0 {K : Nat → Prop} (h : ∀ b, K b) : NewB (lk []) K := fun b _ => h b
def CallW (P : Program) (f : Nat) (vs : List AV) (K : AV → Prop) : Prop := ∃ r, CP P f vs r ∧ K r
theorem CallW_intro {P : Program} {f : Nat} {vs : List AV} {K : AV → Prop} {r : AV} (h : CP P f vs r) (hK : K r) : CallW P f vs K := ⟨r, h, hK⟩
def LoopW (P : Program) (b : ACode) (Q : AExit → St → Prop) (s : St) : Prop := wpx P (.loop b) Q s

def putK (d : Option Nat) (s : St) (K : St → Prop) (r : AV) : Prop := KS (s.put d r) K
def mvK (d : Option Nat) (s : St) (K : St → Prop) (r : AV) : Prop := KS (s.put d r.alias) K
def effTk (d : Option Nat) (i : Nat) (s : St) : AV → St
  | .sl (some e) sz els => St.put { s with t := upd s.t i (some (.sl none sz els)) } d (.sl (some e) sz els)
  | r => s.put d r.alias
def tkK (d : Option Nat) (i : Nat) (s : St) (K : St → Prop) (r : AV) : Prop := KS (effTk d i s r) K
def newK (d : Option Nat) (cells : List AV) (s : St) (K : St → Prop) (b : Nat) : Prop := KS (St.put { s with o := upd s.o b (some cells) } d (.ptr b 0)) K
def boxK (d : Option Nat) (s : St) (K : St → Prop) (v : AV) : Prop := 0 < v.cells.length ∧ NewB s.o (newK d v.cells s K)
def ldK2 (d : Option Nat) (n : Option Nat) (s : St) (K : St → Prop) (cs : List AV) : Prop := RK (ldR n cs) (putK d s K)
def ldhK2 (d : Option Nat) (s : St) (K : St → Prop) (cs : List AV) : Prop := RK (ldhR cs) (putK d s K)
def ldhK (d : Option Nat) (s : St) (K : St → Prop) (p : AV) : Prop := KL (view s.o p) (ldhK2 d s K)
def ldK (d : Option Nat) (n : Option Nat) (s : St) (K : St → Prop) (p : AV) : Prop := KL (view s.o p) (ldK2 d n s K)
def stoK (n b off : Nat) (s : St) (a : AV) (K : St → Prop) (cs : List AV) : Prop := (a.cells.length = n ∧ off + a.cells.length ≤ cs.length) ∧ KS { s with o := upd s.o b (some (splice cs off a.cells)) } K
def stoW (s : St) (n : Nat) : AV → AV → (St → Prop) → Prop
  | .ptr b off, a, K => KL (s.o b) (stoK n b off s a K)
  | _, _, _ => False
def sto2K (n : Nat) (s : St) (p : AV) (K : St → Prop) (a : AV) : Prop := stoW s n p a K
def sto1K (n : Nat) (s : St) (v : Opd) (K : St → Prop) (p : AV) : Prop := K1 (v.ev s) (sto2K n s p K)
def un1K (R : AV → AV → Prop) (d : Option Nat) (s : St) (K : St → Prop) (p : AV) : Prop := RK (R p) (putK d s K)
def bi2K (R : AV → AV → AV → Prop) (d : Option Nat) (s : St) (K : St → Prop) (p q : AV) : Prop := RK (R p q) (putK d s K)
def bi1K (R : AV → AV → AV → Prop) (y : Opd) (d : Option Nat) (s : St) (K : St → Prop) (p : AV) : Prop := K1 (y.ev s) (bi2K R d s K p)
def ldrR (n : Option Nat) : AV → AV → Prop
  | .ro cs, r => ldR n cs r
  | _, _ => False
def sidxR : AV → AV → AV → Prop
  | .str l, .int _ n, r => (0 ≤ n ∧ n < l.length) ∧ r = .int .u8 ((l.getD n.toNat 0).toNat : Int)
  | _, _, _ => False
def beqR (neg : Bool) : AV → AV → AV → Prop
  | .bool a, .bool b, r => r = .bool (if neg then !decide (a = b) else decide (a = b))
  | _, _, _ => False
def appR (e size bytes : Nat) : AV → AV → AV → Prop
  | .sl (some e') sz els, .sl _ sz' news, r => (e' = e ∧ sz = size ∧ sz' = size) ∧ ((els.length + news.length) * bytes ≤ 140737488355328 ∧ els.length + news.length ≤ maxLen) ∧ r = .sl (some e) size (els ++ news)
  | _, _, _ => False
def app2K (e size bytes i : Nat) (d : Option Nat) (s : St) (K : St → Prop) (p q : AV) : Prop := RK (appR e size bytes p q) (putK d { s with t := upd s.t i none } K)
def app1K (e size bytes i : Nat) (x : Opd) (d : Option Nat) (s : St) (K : St → Prop) (p : AV) : Prop := K1 (x.ev s) (app2K e size bytes i d s K p)
def sizesR (size : Nat) : List AV → Prop
  | [] => True
  | v :: vs => v.cells.length = size ∧ sizesR size vs
theorem sizesR_iff (size : Nat) (vs : List AV) : sizesR size vs ↔ ∀ v ∈ vs, v.cells.length = size := by
  induction vs with
  | nil => simp [sizesR]
  | cons v vs ih => simp [sizesR, ih]
def fldvR (off : Nat) (n : Option Nat) : AV → AV → Prop
  | .agg cs, r => off < cs.length ∧ ldR n (cs.drop off) r
  | _, _ => False
def extR (j : Nat) : AV → AV → Prop
  | .tup cs, r => ∃ c, cs[j]? = some c ∧ r = c.alias
  | _, _ => False
def nilcR : AV → AV → Prop
  | .ro cs, r => r = .ro cs
  | .ptr b off, r => r = .ptr b off
  | _, _ => False
def slcR : Option Nat → AV → Nat → Nat → AV → Prop
  | none, .str l, a, b, r => (a ≤ b ∧ b ≤ l.length) ∧ r = .str ((l.take b).drop a)
  | some size, .sl _ sz l, a, b, r => sz = size ∧ (a ≤ b ∧ b ≤ l.length) ∧ r = .sl none size ((l.take b).drop a)
  | _, _, _, _, _ => False
def lenOf? : AV → Nat
  | .str l => l.length
  | .sl _ _ l => l.length
  | _ => 0
def intW : AV → (Nat → Prop) → Prop
  | .int _ n, K => 0 ≤ n ∧ K n.toNat
  | _, _ => False
def bwK (K : Nat → Prop) (p : AV) : Prop := intW p K
def boundW (s : St) (dflt : Nat) : Option Opd → (Nat → Prop) → Prop
  | none, K => K dflt
  | some x, K => K1 (x.ev s) (bwK K)
theorem boundW_iff (s : St) (dflt : Nat) (x : Option Opd) (K : Nat → Prop) : boundW s dflt x K ↔ ∃ a, boundR s dflt x a ∧ K a := by
  cases x with
  | none => exact ⟨fun h => ⟨dflt, rfl, h⟩, fun ⟨a, h1, h2⟩ => by cases h1; exact h2⟩
  | some x =>
    constructor
    · rintro ⟨p, h1, h⟩
      cases p <;> try exact h.elim
      exact ⟨_, ⟨_, _, h1, h.1, rfl⟩, h.2⟩
    · rintro ⟨a, ⟨k, n, h1, h2, rfl⟩, h4⟩
      exact ⟨_, h1, h2, h4⟩
def convR (k : IntKind) : AV → AV → Prop
  | .int _ n, r => r = .int k (k.wrap n)
  | _, _ => False
def s2sR : AV → AV → Prop
  | .str l, r => r = .str l
  | _, _ => False
def BytesW (els : List (List AV)) (K : List UInt8 → Prop) : Prop := ∃ l : List UInt8, els = l.map byteEl ∧ K l
theorem byteEl_inj {a b : UInt8} (h : byteEl a = byteEl b) : a = b := by
  have h' : (a.toNat : Int) = b.toNat := by simpa [byteEl] using h
  exact UInt8.toNat_inj.1 (by omega)
theorem map_byteEl_inj {l m : List UInt8} (h : l.map byteEl = m.map byteEl) : l = m := by
  induction l generalizing m with
  | nil => cases m with
    | nil => rfl
    | cons => simp at h
  | cons a l ih => cases m with
    | nil => simp at h
    | cons b m =>
      simp only [List.map_cons, List.cons.injEq] at h
      rw [byteEl_inj h.1, ih h.2]
theorem BytesW_map (l : List UInt8) (K : List UInt8 → Prop) : BytesW (l.map byteEl) K = K l := by
  apply propext
  constructor
  · rintro ⟨m, h1, h2⟩
    rw [map_byteEl_inj h1]
    exact h2
  · intro h
    exact ⟨l, rfl, h⟩

def bsK (e size : Nat) (d : Option Nat) (s : St) (K : St → Prop) (vs : List AV) : Prop := sizesR size vs ∧ KS (s.put d (.sl (some e) size (vs.map AV.cells))) K
def aggK (d : Option Nat) (s : St) (K : St → Prop) (cs : List AV) : Prop := KS (s.put d (.agg cs)) K
def bldK (z : List AV) (d : Option Nat) (s : St) (K : St → Prop) (vs : List (Nat × Nat × AV)) : Prop := RL (fillR z vs) (aggK d s K)
def callK (P : Program) (f : Nat) (d : Option Nat) (s : St) (K : St → Prop) (vs : List AV) : Prop := CallW P f (vs.map AV.alias) (putK d s K)
def pickW : AV → AV → AV → (AV → Prop) → Prop
  | .bool c, a, b, K => (c = true → K a.alias) ∧ (c = false → K b.alias)
  | _, _, _, _ => False
def pk3K (d : Option Nat) (s : St) (K : St → Prop) (c a b : AV) : Prop := pickW c a b (putK d s K)
def pk2K (y : Opd) (d : Option Nat) (s : St) (K : St → Prop) (c a : AV) : Prop := K1 (y.ev s) (pk3K d s K c a)
def pk1K (x y : Opd) (d : Option Nat) (s : St) (K : St → Prop) (c : AV) : Prop := K1 (x.ev s) (pk2K y d s K c)
def sl3K (size : Option Nat) (d : Option Nat) (s : St) (K : St → Prop) (p : AV) (a b : Nat) : Prop := RK (slcR size p a b) (putK d s K)
def sl2K (size : Option Nat) (hi : Option Opd) (d : Option Nat) (s : St) (K : St → Prop) (p : AV) (a : Nat) : Prop := boundW s (lenOf? p) hi (sl3K size d s K p a)
def sl1K (size : Option Nat) (lo hi : Option Opd) (d : Option Nat) (s : St) (K : St → Prop) (p : AV) : Prop := boundW s 0 lo (sl2K size hi d s K p)
def strK (d : Option Nat) (s : St) (K : St → Prop) (l : List UInt8) : Prop := KS (s.put d (.str l)) K
def bytesW : AV → (List UInt8 → Prop) → Prop
  | .sl _ sz els, K => sz = 1 ∧ BytesW els K
  | _, _ => False
def b2K (d : Option Nat) (s : St) (K : St → Prop) (p : AV) : Prop := bytesW p (strK d s K)

section
variable {P : Program} {d : Option Nat} {s : St} {K : St → Prop}
theorem put_none (v : AV) : St.put s none v = s := rfl
theorem ev_t (t : Nat → Option AV) (o : Nat → Option (List AV)) (i : Nat) : Opd.ev ⟨t, o⟩ (.t i) = t i := rfl
theorem ev_c (v : AV) : Opd.ev s (.c v) = some v := rfl

theorem kW_mv (x : Opd) : kW P d (.mv x) s K = K1 (x.ev s) (mvK d s K) := by
  apply propext
  constructor
  · rintro ⟨r, ⟨v, h1, rfl⟩, h2⟩; exact ⟨v, h1, h2⟩
  · rintro ⟨v, h1, h2⟩; exact ⟨_, ⟨v, h1, rfl⟩, h2⟩
theorem kW_nil (e sz : Nat) : kW P d (.nil e sz) s K = KS (s.put d (.sl (some e) sz [])) K := by
  apply propext
  constructor
  · rintro ⟨r, rfl, h2⟩; exact h2
  · intro h; exact ⟨_, rfl, h⟩
theorem kW_tk (i : Nat) : kW P d (.tk i) s K = K1 (s.t i) (tkK d i s K) := by
  apply propext
  have : ∀ r, eff d (.tk i) r s = effTk d i s r := by
    intro r
    cases r <;> try rfl
    rename_i own sz els
    cases own <;> rfl
  constructor
  · rintro ⟨r, h1, h2⟩
    rw [this] at h2
    exact ⟨r, h1, h2⟩
  · rintro ⟨r, h1, h2⟩
    refine ⟨r, h1, ?_⟩
    rw [this]
    exact h2
theorem kW_newv (cells : List AV) : kW P d (.newv cells) s K = NewB s.o (newK d cells s K) := rfl
theorem kW_box (x : Opd) : kW P d (.box x) s K = K1 (x.ev s) (boxK d s K) := rfl
theorem kW_ld (n : Option Nat) (x : Opd) : kW P d (.ld n x) s K = K1 (x.ev s) (ldK d n s K) := by
  apply propext
  constructor
  · rintro ⟨r, ⟨p, cs, h1, h2, h3⟩, h4⟩; exact ⟨p, h1, cs, h2, r, h3, h4⟩
  · rintro ⟨p, h1, cs, h2, r, h3, h4⟩; exact ⟨r, ⟨p, cs, h1, h2, h3⟩, h4⟩
theorem kW_sto (n : Option Nat) (x v : Opd) : kW P d (.sto n x v) s K = K1 (x.ev s) (sto1K (n.getD 1) s v K) := by
  apply propext
  constructor
  · rintro ⟨r, ⟨b, off, a, cs, h1, h2, h3, h4, h5, rfl⟩, h6⟩
    refine ⟨_, h1, a, h2, cs, h3, ⟨h4, h5⟩, ?_⟩
    have h7 : K { s with o := upd s.o b (some (splice cs off a.cells)) } := by simpa only [eff, h1, h2, h3, Option.map_some] using h6
    exact h7
  · rintro ⟨p, h1, a, h2, h⟩
    unfold sto2K at h
    cases p <;> try exact h.elim
    rename_i b off
    obtain ⟨cs, h3, ⟨h4, h5⟩, h6⟩ := h
    refine ⟨_, ⟨b, off, a, cs, h1, h2, h3, h4, h5, rfl⟩, ?_⟩
    have h7 : K { s with o := upd s.o b (some (splice cs off a.cells)) } := h6
    simpa only [eff, h1, h2, h3, Option.map_some] using h7
theorem kW_ldh (x : Opd) : kW P d (.ldh x) s K = K1 (x.ev s) (ldhK d s K) := by
  apply propext
  constructor
  · rintro ⟨r, ⟨p, cs, h1, h2, h3⟩, h4⟩; exact ⟨p, h1, cs, h2, r, h3, h4⟩
  · rintro ⟨p, h1, cs, h2, r, h3, h4⟩; exact ⟨r, ⟨p, cs, h1, h2, h3⟩, h4⟩
theorem kW_ldr (n : Option Nat) (x : Opd) : kW P d (.ldr n x) s K = K1 (x.ev s) (un1K (ldrR n) d s K) := by
  apply propext
  constructor
  · rintro ⟨r, ⟨cs, h1, h2⟩, h3⟩
    exact ⟨_, h1, r, h2, h3⟩
  · rintro ⟨p, h1, r, h2, h3⟩
    cases p <;> first | exact h2.elim | skip
    exact ⟨r, ⟨_, h1, h2⟩, h3⟩
theorem kW_fld (off : Nat) (x : Opd) : kW P d (.fld off x) s K = K1 (x.ev s) (un1K (fldR off) d s K) := by
  apply propext
  constructor
  · rintro ⟨r, ⟨p, h1, h2⟩, h3⟩; exact ⟨p, h1, r, h2, h3⟩
  · rintro ⟨p, h1, r, h2, h3⟩; exact ⟨r, ⟨p, h1, h2⟩, h3⟩
theorem kW_idx (size : Nat) (x i : Opd) : kW P d (.idx size x i) s K = K1 (x.ev s) (bi1K (idxR size) i d s K) := by
  apply propext
  constructor
  · rintro ⟨r, ⟨p, q, h1, h2, h3⟩, h5⟩; exact ⟨_, h1, _, h2, r, h3, h5⟩
  · rintro ⟨p, h1, q, h2, r, h3, h4⟩; exact ⟨r, ⟨p, q, h1, h2, h3⟩, h4⟩
def aidxR (n size : Nat) : AV → AV → AV → Prop
  | p, .int _ m, r => (0 ≤ m ∧ m < (n : Int)) ∧ fldR (m.toNat * size) p r
  | _, _, _ => False
theorem kW_aidx (n size : Nat) (x i : Opd) : kW P d (.aidx n size x i) s K = K1 (x.ev s) (bi1K (aidxR n size) i d s K) := by
  apply propext
  constructor
  · rintro ⟨r, ⟨p, k, m, h1, h2, h3, h4⟩, h5⟩; exact ⟨_, h1, _, h2, r, ⟨h3, h4⟩, h5⟩
  · rintro ⟨p, h1, q, h2, r, h3, h4⟩
    cases q <;> try exact h3.elim
    exact ⟨r, ⟨_, _, _, h1, h2, h3.1, h3.2⟩, h4⟩
theorem kW_sidx (x i : Opd) : kW P d (.sidx x i) s K = K1 (x.ev s) (bi1K sidxR i d s K) := by
  apply propext
  constructor
  · rintro ⟨r, ⟨l, k, n, h1, h2, h3, h4⟩, h5⟩; exact ⟨_, h1, _, h2, r, ⟨h3, h4⟩, h5⟩
  · rintro ⟨p, h1, q, h2, r, h3, h4⟩
    cases p <;> try exact h3.elim
    cases q <;> try exact h3.elim
    obtain ⟨h5, h6⟩ := h3
    exact ⟨r, ⟨_, _, _, h1, h2, h5, h6⟩, h4⟩
theorem kW_bin (op : BinOp) (x y : Opd) : kW P d (.bin op x y) s K = K1 (x.ev s) (bi1K (binR op) y d s K) := by
  apply propext
  constructor
  · rintro ⟨r, ⟨p, q, h1, h2, h3⟩, h4⟩; exact ⟨p, h1, q, h2, r, h3, h4⟩
  · rintro ⟨p, h1, q, h2, r, h3, h4⟩; exact ⟨r, ⟨p, q, h1, h2, h3⟩, h4⟩
theorem kW_beq (neg : Bool) (x y : Opd) : kW P d (.beq neg x y) s K = K1 (x.ev s) (bi1K (beqR neg) y d s K) := by
  apply propext
  constructor
  · rintro ⟨r, ⟨a, b, h1, h2, h3⟩, h4⟩; exact ⟨_, h1, _, h2, r, h3, h4⟩
  · rintro ⟨p, h1, q, h2, r, h3, h4⟩
    cases p <;> try exact h3.elim
    cases q <;> try exact h3.elim
    exact ⟨r, ⟨_, _, h1, h2, h3⟩, h4⟩
theorem kW_un (op : UnOp) (x : Opd) : kW P d (.un op x) s K = K1 (x.ev s) (un1K (unR op) d s K) := by
  apply propext
  constructor
  · rintro ⟨r, ⟨p, h1, h2⟩, h3⟩; exact ⟨p, h1, r, h2, h3⟩
  · rintro ⟨p, h1, r, h2, h3⟩; exact ⟨r, ⟨p, h1, h2⟩, h3⟩
theorem kW_len (b : Bool) (x : Opd) : kW P d (.len b x) s K = K1 (x.ev s) (un1K (lenR b) d s K) := by
  apply propext
  constructor
  · rintro ⟨r, ⟨p, h1, h2⟩, h3⟩; exact ⟨p, h1, r, h2, h3⟩
  · rintro ⟨p, h1, r, h2, h3⟩; exact ⟨r, ⟨p, h1, h2⟩, h3⟩
theorem kW_app (e size bytes i : Nat) (x : Opd) : kW P d (.app e size bytes i x) s K = K1 (s.t i) (app1K e size bytes i x d s K) := by
  apply propext
  constructor
  · rintro ⟨r, ⟨els, own, news, h1, h2, h3, h4, h5⟩, h6⟩; exact ⟨_, h1, _, h2, r, ⟨⟨rfl, rfl, rfl⟩, ⟨h3, h4⟩, h5⟩, h6⟩
  · rintro ⟨p, h1, q, h2, r, h3, h4⟩
    cases p <;> try exact h3.elim
    rename_i own sz els
    cases own <;> try exact h3.elim
    cases q <;> try exact h3.elim
    obtain ⟨⟨rfl, rfl, rfl⟩, ⟨h5, h6⟩, h7⟩ := h3
    exact ⟨r, ⟨_, _, _, h1, h2, h5, h6, h7⟩, h4⟩
theorem kW_bs (e size : Nat) (ps : List Opd) : kW P d (.bs e size ps) s K = KL (evs s ps) (bsK e size d s K) := by
  apply propext
  constructor
  · rintro ⟨r, ⟨vs, h1, h2, rfl⟩, h3⟩; exact ⟨vs, h1, (sizesR_iff size vs).2 h2, h3⟩
  · rintro ⟨vs, h1, h2, h3⟩; exact ⟨_, ⟨vs, h1, (sizesR_iff size vs).1 h2, rfl⟩, h3⟩
def hbsN (e size : Nat) (d : Option Nat) (s : St) (K : St → Prop) (vs : List AV) (g : Nat) : Prop := KS (St.put { s with o := upd s.o g (some (hc size vs.length (vs.map AV.cells))) } d (.hsl g e size vs.length vs.length)) K
def hbsK (e size : Nat) (d : Option Nat) (s : St) (K : St → Prop) (vs : List AV) : Prop := (sizesR size vs ∧ noOwnB (vs.map AV.cells) = true) ∧ NewB s.o (hbsN e size d s K vs)
theorem kW_hbs (e size : Nat) (ps : List Opd) : kW P d (.hbs e size ps) s K = KL (evs s ps) (hbsK e size d s K) := by
  apply propext
  constructor
  · rintro ⟨vs, h1, ⟨h2, h3⟩, h4⟩; exact ⟨vs, h1, ⟨(sizesR_iff size vs).2 h2, h3⟩, h4⟩
  · rintro ⟨vs, h1, ⟨h2, h3⟩, h4⟩; exact ⟨vs, h1, ⟨(sizesR_iff size vs).1 h2, h3⟩, h4⟩
theorem kW_bld (z : List AV) (ps : List (Nat × Nat × Opd)) : kW P d (.bld z ps) s K = KP (evp s ps) (bldK z d s K) := by
  apply propext
  constructor
  · rintro ⟨r, ⟨vs, cs, h1, h2, rfl⟩, h3⟩; exact ⟨vs, h1, cs, h2, h3⟩
  · rintro ⟨vs, h1, cs, h2, h3⟩; exact ⟨_, ⟨vs, cs, h1, h2, rfl⟩, h3⟩
theorem kW_fldv (off : Nat) (n : Option Nat) (x : Opd) : kW P d (.fldv off n x) s K = K1 (x.ev s) (un1K (fldvR off n) d s K) := by
  apply propext
  constructor
  · rintro ⟨r, ⟨cs, h1, h2, h3⟩, h4⟩; exact ⟨_, h1, r, ⟨h2, h3⟩, h4⟩
  · rintro ⟨p, h1, r, h3, h4⟩
    cases p <;> try exact h3.elim
    exact ⟨r, ⟨_, h1, h3.1, h3.2⟩, h4⟩
theorem kW_call (f : Nat) (as : List Opd) : kW P d (.call f as) s K = KL (evs s as) (callK P f d s K) := by
  apply propext
  constructor
  · rintro ⟨r, ⟨vs, h1, h2⟩, h3⟩; exact ⟨vs, h1, r, h2, h3⟩
  · rintro ⟨vs, h1, r, h2, h3⟩; exact ⟨r, ⟨vs, h1, h2⟩, h3⟩
def CroW (P : Program) (f : Nat) (vs : List AV) (s : St) (K : AV → Prop) : Prop := ∃ r, RO P f vs s.o r ∧ K r
def croK (P : Program) (f : Nat) (d : Option Nat) (s : St) (K : St → Prop) (vs : List AV) : Prop := CroW P f (vs.map AV.alias) s (putK d s K)
theorem kW_cro (f : Nat) (as : List Opd) : kW P d (.cro f as) s K = KL (evs s as) (croK P f d s K) := by
  apply propext
  constructor
  · rintro ⟨r, ⟨vs, h1, h2⟩, h3⟩; exact ⟨vs, h1, r, h2, h3⟩
  · rintro ⟨vs, h1, r, h2, h3⟩; exact ⟨r, ⟨vs, h1, h2⟩, h3⟩
theorem kW_ext (j : Nat) (x : Opd) : kW P d (.ext j x) s K = K1 (x.ev s) (un1K (extR j) d s K) := by
  apply propext
  constructor
  · rintro ⟨r, ⟨cs, c, h1, h2, h3⟩, h4⟩; exact ⟨_, h1, r, ⟨c, h2, h3⟩, h4⟩
  · rintro ⟨p, h1, r, h3, h4⟩
    cases p <;> try exact h3.elim
    obtain ⟨c, h5, h6⟩ := h3
    exact ⟨r, ⟨_, c, h1, h5, h6⟩, h4⟩
theorem kW_nilc (x : Opd) : kW P d (.nilc x) s K = K1 (x.ev s) (un1K nilcR d s K) := by
  apply propext
  constructor
  · rintro ⟨r, h | h, h4⟩
    · obtain ⟨cs, h1, h2⟩ := h; exact ⟨_, h1, r, h2, h4⟩
    · obtain ⟨b, off, h1, h2⟩ := h; exact ⟨_, h1, r, h2, h4⟩
  · rintro ⟨p, h1, r, h3, h4⟩
    cases p <;> try exact h3.elim
    · exact ⟨r, .inl ⟨_, h1, h3⟩, h4⟩
    · exact ⟨r, .inr ⟨_, _, h1, h3⟩, h4⟩
theorem kW_pick (c x y : Opd) : kW P d (.pick c x y) s K = K1 (c.ev s) (pk1K x y d s K) := by
  apply propext
  constructor
  · rintro ⟨r, ⟨cv, av, bv, h1, h2, h3, rfl⟩, h5⟩
    refine ⟨_, h1, _, h2, _, h3, ?_⟩
    cases cv
    · exact ⟨fun h => (by cases h), fun _ => h5⟩
    · exact ⟨fun _ => h5, fun h => (by cases h)⟩
  · rintro ⟨c', h1, a, h2, b, h3, h4⟩
    unfold pk3K at h4
    cases c' <;> try exact h4.elim
    rename_i cv
    cases cv
    · exact ⟨_, ⟨_, _, _, h1, h2, h3, rfl⟩, h4.2 rfl⟩
    · exact ⟨_, ⟨_, _, _, h1, h2, h3, rfl⟩, h4.1 rfl⟩
def hs3K (size : Nat) (nolo : Bool) (d : Option Nat) (s : St) (K : St → Prop) (p : AV) (a b : Nat) : Prop := RK (hslcR size nolo p a b) (putK d s K)
def hs2K (size : Nat) (nolo : Bool) (hi : Option Opd) (d : Option Nat) (s : St) (K : St → Prop) (p : AV) (a : Nat) : Prop := boundW s (hlenOf p) hi (hs3K size nolo d s K p a)
def hs1K (size : Nat) (lo hi : Option Opd) (d : Option Nat) (s : St) (K : St → Prop) (p : AV) : Prop := boundW s 0 lo (hs2K size lo.isNone hi d s K p)
theorem kW_hslc (size : Nat) (x : Opd) (lo hi : Option Opd) : kW P d (.hslc size x lo hi) s K = K1 (x.ev s) (hs1K size lo hi d s K) := by
  apply propext
  constructor
  · rintro ⟨r, ⟨p, a, b, g1, g2, g3, g4⟩, h2⟩
    exact ⟨_, g1, (boundW_iff _ _ _ _).2 ⟨a, g2, (boundW_iff _ _ _ _).2 ⟨b, g3, r, g4, h2⟩⟩⟩
  · rintro ⟨p, h1, h2⟩
    obtain ⟨a, g1, h2⟩ := (boundW_iff _ _ _ _).1 h2
    obtain ⟨b, g2, r, h3, h4⟩ := (boundW_iff _ _ _ _).1 h2
    exact ⟨r, ⟨p, a, b, h1, g1, g2, h3⟩, h4⟩
theorem kW_hnl (e sz : Nat) : kW P d (.hnl e sz) s K = putK d s K (.hnil e sz) := by
  apply propext
  exact ⟨fun ⟨r, h1, h2⟩ => by obtain rfl := h1; exact h2, fun h => ⟨_, rfl, h⟩⟩
def HapW (e size bytes : Nat) (d : Option Nat) (s : St) (K : St → Prop) (p q : AV) : Prop := HapO e size bytes s.o q (fun r o => KS (St.put ⟨s.t, o⟩ d r) K) p
def hap1K (e size bytes : Nat) (x : Opd) (d : Option Nat) (s : St) (K : St → Prop) (p : AV) : Prop := K1 (x.ev s) (HapW e size bytes d s K p)
theorem kW_hap0 (e size bytes : Nat) (x : Opd) : kW P d (.hap e size bytes none x) s K = hap1K e size bytes x d s K (.hnil e size) := by
  apply propext
  constructor
  · rintro ⟨p, q, h1, h2, h3⟩
    obtain rfl : AV.hnil e size = p := Option.some.inj h1
    exact ⟨q, h2, h3⟩
  · rintro ⟨q, h2, h3⟩
    exact ⟨_, q, rfl, h2, h3⟩
theorem kW_hap (e size bytes i : Nat) (x : Opd) : kW P d (.hap e size bytes (some i) x) s K = K1 (s.t i) (hap1K e size bytes x d s K) := by
  apply propext
  constructor
  · rintro ⟨p, q, h1, h2, h3⟩
    exact ⟨p, h1, q, h2, h3⟩
  · rintro ⟨p, h1, q, h2, h3⟩
    exact ⟨p, q, h1, h2, h3⟩
theorem kW_slc (size : Option Nat) (x : Opd) (lo hi : Option Opd) : kW P d (.slc size x lo hi) s K = K1 (x.ev s) (sl1K size lo hi d s K) := by
  apply propext
  constructor
  · rintro ⟨r, h1, h2⟩
    cases size with
    | none =>
      obtain ⟨l, a, b, g1, g2, g3, g4, g5⟩ := h1
      exact ⟨_, g1, (boundW_iff _ _ _ _).2 ⟨a, g2, (boundW_iff _ _ _ _).2 ⟨b, g3, r, ⟨g4, g5⟩, h2⟩⟩⟩
    | some size =>
      obtain ⟨own, l, a, b, g1, g2, g3, g4, g5⟩ := h1
      exact ⟨_, g1, (boundW_iff _ _ _ _).2 ⟨a, g2, (boundW_iff _ _ _ _).2 ⟨b, g3, r, ⟨rfl, g4, g5⟩, h2⟩⟩⟩
  · rintro ⟨p, h1, h2⟩
    obtain ⟨a, g1, h2⟩ := (boundW_iff _ _ _ _).1 h2
    obtain ⟨b, g2, r, h3, h4⟩ := (boundW_iff _ _ _ _).1 h2
    cases size with
    | none =>
      cases p <;> try exact h3.elim
      exact ⟨r, ⟨_, a, b, h1, g1, g2, h3.1, h3.2⟩, h4⟩
    | some size =>
      cases p <;> try exact h3.elim
      obtain ⟨rfl, h5, h6⟩ := h3
      exact ⟨r, ⟨_, _, a, b, h1, g1, g2, h5, h6⟩, h4⟩
theorem kW_conv (k : IntKind) (x : Opd) : kW P d (.conv k x) s K = K1 (x.ev s) (un1K (convR k) d s K) := by
  apply propext
  constructor
  · rintro ⟨r, ⟨k', n, h1, h2⟩, h3⟩; exact ⟨_, h1, r, h2, h3⟩
  · rintro ⟨p, h1, r, h3, h4⟩
    cases p <;> try exact h3.elim
    exact ⟨r, ⟨_, _, h1, h3⟩, h4⟩
theorem kW_s2s (x : Opd) : kW P d (.s2s x) s K = K1 (x.ev s) (un1K s2sR d s K) := by
  apply propext
  constructor
  · rintro ⟨r, ⟨l, h1, h2⟩, h3⟩; exact ⟨_, h1, r, h2, h3⟩
  · rintro ⟨p, h1, r, h3, h4⟩
    cases p <;> try exact h3.elim
    exact ⟨r, ⟨_, h1, h3⟩, h4⟩
theorem kW_b2s (x : Opd) : kW P d (.b2s x) s K = K1 (x.ev s) (b2K d s K) := by
  apply propext
  constructor
  · rintro ⟨r, ⟨own, l, h1, rfl⟩, h3⟩; exact ⟨_, h1, rfl, l, rfl, h3⟩
  · rintro ⟨p, h1, h⟩
    unfold b2K at h
    cases p <;> try exact h.elim
    obtain ⟨rfl, l, rfl, h3⟩ := h
    exact ⟨_, ⟨_, l, h1, rfl⟩, h3⟩

def appsR (e bytes : Nat) : AV → AV → AV → Prop
  | .sl (some e') sz els, .str l, r => (e' = e ∧ sz = 1) ∧ ((els.length + l.length) * bytes ≤ 140737488355328 ∧ els.length + l.length ≤ maxLen) ∧ r = .sl (some e) 1 (els ++ l.map byteEl)
  | _, _, _ => False
def apps2K (e bytes i : Nat) (d : Option Nat) (s : St) (K : St → Prop) (p q : AV) : Prop := RK (appsR e bytes p q) (putK d { s with t := upd s.t i none } K)
def apps1K (e bytes i : Nat) (x : Opd) (d : Option Nat) (s : St) (K : St → Prop) (p : AV) : Prop := K1 (x.ev s) (apps2K e bytes i d s K p)
theorem kW_apps (e bytes i : Nat) (x : Opd) : kW P d (.apps e bytes i x) s K = K1 (s.t i) (apps1K e bytes i x d s K) := by
  apply propext
  constructor
  · rintro ⟨r, ⟨els, l, h1, h2, h3, h4, h5⟩, h6⟩; exact ⟨_, h1, _, h2, r, ⟨⟨rfl, rfl⟩, ⟨h3, h4⟩, h5⟩, h6⟩
  · rintro ⟨p, h1, q, h2, r, h3, h4⟩
    cases p <;> try exact h3.elim
    rename_i own sz els
    cases own <;> try exact h3.elim
    cases q <;> try exact h3.elim
    obtain ⟨⟨rfl, rfl⟩, ⟨h5, h6⟩, h7⟩ := h3
    exact ⟨r, ⟨_, _, h1, h2, h5, h6, h7⟩, h4⟩
theorem a_appsf (e bytes : Nat) (els : List (List AV)) (l : List UInt8) : appsR e bytes (.sl (some e) 1 els) (.str l) = fun r => (((els.length + l.length) * bytes ≤ 140737488355328 ∧ els.length + l.length ≤ maxLen) ∧ r = .sl (some e) 1 (els ++ l.map byteEl)) := funext fun r => by simp [appsR]
def aeqR (neg : Bool) (ks : List Kd) : AV → AV → AV → Prop
  | .agg cs, .agg ds, r => ∃ b, eqC ks cs ds = some b ∧ r = .bool (if neg then !b else b)
  | _, _, _ => False
theorem kW_aeq (neg : Bool) (ks : List Kd) (x y : Opd) : kW P d (.aeq neg ks x y) s K = K1 (x.ev s) (bi1K (aeqR neg ks) y d s K) := by
  apply propext
  constructor
  · rintro ⟨r, ⟨cs, ds, b, h1, h2, h3, h4⟩, h5⟩; exact ⟨_, h1, _, h2, r, ⟨b, h3, h4⟩, h5⟩
  · rintro ⟨p, h1, q, h2, r, h3, h4⟩
    cases p <;> try exact h3.elim
    cases q <;> try exact h3.elim
    obtain ⟨b, h5, h6⟩ := h3
    exact ⟨r, ⟨_, _, b, h1, h2, h5, h6⟩, h4⟩
def KB (o : Option Bool) (K : Bool → Prop) : Prop := ∃ b, o = some b ∧ K b
theorem KB_some (b : Bool) (K : Bool → Prop) : KB (some b) K = K b := by simp [KB]
theorem RK_aeqf (cs ds : List AV) (ks : List Kd) (K : AV → Prop) : RK (aeqR false ks (.agg cs) (.agg ds)) K = KB (eqC ks cs ds) (fun b => K (.bool b)) := by
  apply propext
  exact ⟨fun ⟨r, ⟨b, h1, h2⟩, h3⟩ => ⟨b, h1, by rw [h2] at h3; simpa using h3⟩, fun ⟨b, h1, h2⟩ => ⟨_, ⟨b, h1, rfl⟩, by simpa using h2⟩⟩
theorem RK_aeqt (cs ds : List AV) (ks : List Kd) (K : AV → Prop) : RK (aeqR true ks (.agg cs) (.agg ds)) K = KB (eqC ks cs ds) (fun b => K (.bool (!b))) := by
  apply propext
  exact ⟨fun ⟨r, ⟨b, h1, h2⟩, h3⟩ => ⟨b, h1, by rw [h2] at h3; simpa using h3⟩, fun ⟨b, h1, h2⟩ => ⟨_, ⟨b, h1, rfl⟩, by simpa using h2⟩⟩
def oand (x : Bool) : Option Bool → Option Bool
  | some y => some (x && y)
  | none => none
theorem oand_some (x y : Bool) : oand x (some y) = some (x && y) := rfl
theorem eqC_nil : eqC [] [] [] = some true := rfl
theorem eqC_i (k : IntKind) (a b : Int) (ks : List Kd) (cs ds : List AV) : eqC (.i :: ks) (.int k a :: cs) (.int k b :: ds) = oand (decide (a = b)) (eqC ks cs ds) := by
  simp only [eqC, eq1, if_true]; cases eqC ks cs ds <;> rfl
theorem eqC_b (a b : Bool) (ks : List Kd) (cs ds : List AV) : eqC (.b :: ks) (.bool a :: cs) (.bool b :: ds) = oand (decide (a = b)) (eqC ks cs ds) := by
  simp only [eqC, eq1]; cases eqC ks cs ds <;> rfl
theorem eqC_s (a b : List UInt8) (ks : List Kd) (cs ds : List AV) : eqC (.s :: ks) (.str a :: cs) (.str b :: ds) = oand (decide (a = b)) (eqC ks cs ds) := by
  simp only [eqC, eq1]; cases eqC ks cs ds <;> rfl
def calloK (P : Program) (f : Nat) (d : Option Nat) (s : St) (K : St → Prop) (vs : List AV) : Prop := CallO P f (vs.map AV.alias) d s K
theorem kW_callo (f : Nat) (ps : List Opd) : kW P d (.callo f ps) s K = KL (evs s ps) (calloK P f d s K) := rfl
def callnK (P : Program) (f : Nat) (d : Option Nat) (s : St) (K : St → Prop) (vs : List AV) : Prop := CallN P f (vs.map AV.alias) d s K
theorem kW_calln (f : Nat) (ps : List Opd) : kW P d (.calln f ps) s K = KL (evs s ps) (callnK P f d s K) := rfl
def ldt3 (d : Option Nat) (s : St) (K : St → Prop) (b off : Nat) (cs : List AV) (c : AV) : Prop := KS (ldE s d b off cs c) K
def ldt2 (d : Option Nat) (s : St) (K : St → Prop) (b off : Nat) (cs : List AV) : Prop := K1 (cs[off]?) (ldt3 d s K b off cs)
def ldt1 (d : Option Nat) (s : St) (K : St → Prop) (p : AV) : Prop := ldtW s d p K
def callvK (P : Program) (ps : List Opd) (d : Option Nat) (s : St) (K : St → Prop) (p : AV) : Prop := ∃ ws, evs s ps = some ws ∧ ∃ f, p = .fn f ∧ bodyB P f = true ∧ CallO P f (ws.map AV.alias) d s K
theorem kW_callv (x : Opd) (ps : List Opd) : kW P d (.callv x ps) s K = K1 (x.ev s) (callvK P ps d s K) := rfl
theorem callv_fn (ps : List Opd) (f : Nat) : callvK P ps d s K (.fn f) = (bodyB P f = true ∧ KL (evs s ps) (calloK P f d s K)) := by
  apply propext
  constructor
  · rintro ⟨ws, h1, f', h2, h3, h4⟩; cases h2; exact ⟨h3, ws, h1, h4⟩
  · rintro ⟨h3, ws, h1, h4⟩; exact ⟨ws, h1, f, rfl, h3, h4⟩
theorem kW_ldt (x : Opd) : kW P d (.ldt x) s K = K1 (x.ev s) (ldt1 d s K) := rfl
theorem ldt_ptr (b off : Nat) : ldt1 d s K (.ptr b off) = KL (s.o b) (ldt2 d s K b off) := rfl
theorem ldt_ro (c : AV) (cs : List AV) : ldt1 d s K (.ro (c :: cs)) = KS (s.put d c.alias) K := rfl
def stt3 (s : St) (i b off : Nat) (v : AV) (K : St → Prop) (cs : List AV) : Prop := (off < cs.length ∧ v.cells.length = 1) ∧ KS (stE s i b off cs v) K
def stt2 (s : St) (i : Nat) (K : St → Prop) (p v : AV) : Prop := sttW s i p v K
def stt1 (s : St) (i : Nat) (K : St → Prop) (p : AV) : Prop := K1 (s.t i) (stt2 s i K p)
theorem kW_stt (x : Opd) (i : Nat) : kW P d (.stt x i) s K = K1 (x.ev s) (stt1 s i K) := rfl
theorem stt_ptr (i b off : Nat) (v : AV) : stt2 s i K (.ptr b off) v = KL (s.o b) (stt3 s i b off v K) := rfl
def ovr (l : List (Nat × List AV)) (o : Nat → Option (List AV)) : Nat → Option (List AV) := fun b => (lk l b).or (o b)
def ov : List (Nat × List AV) → List (Nat × List AV) → List (Nat × List AV)
  | [], l => l
  | (b, c) :: r, l => (b, c) :: ov r (del l b)
theorem ovr_lk (l m : List (Nat × List AV)) : ovr l (lk m) = lk (ov l m) := by
  funext i
  induction l generalizing m with
  | nil => simp [ovr, ov, lk]
  | cons x r ih =>
    obtain ⟨b, c⟩ := x
    have h := ih (del m b)
    simp only [ovr] at h
    simp only [ovr, ov, lk]
    by_cases hi : i = b
    · simp [hi]
    · rw [if_neg hi, if_neg hi, ← h, lk_del, if_neg hi]
theorem ov_nil (l : List (Nat × List AV)) : ov [] l = l := rfl
theorem ov_cons (b : Nat) (c : List AV) (r l : List (Nat × List AV)) : ov ((b, c) :: r) l = (b, c) :: ov r (del l b) := rfl
theorem CallO_pure {f : Nat} {vs : List AV} {r : AV} (h : CP P f vs r) (hK : KS (s.put d r) K) : CallO P f vs d s K := by
  refine ⟨fun _ => none, _, fun b cs hb => (by cases hb), CT_of_CP h, ?_⟩
  rintro r' o' ⟨rfl, rfl⟩ _
  exact hK
theorem Cro_det {f : Nat} {vs : List AV} {r : AV} {K : AV → Prop} {o1 : List (Nat × List AV)} (h : CT P f vs (lk o1) (fun r' o' => r' = r ∧ o' = lk o1)) (hsub : ∀ b cs, lk o1 b = some cs → s.o b = some cs) (hK : K r) : CroW P f vs s K :=
  ⟨r, ⟨lk o1, hsub, h⟩, hK⟩
theorem CallO_det {f : Nat} {vs : List AV} {r : AV} {o1 o2 : List (Nat × List AV)} (h : CT P f vs (lk o1) (fun r' o' => r' = r ∧ o' = lk o2)) (hsub : ∀ b cs, lk o1 b = some cs → s.o b = some cs) (hK : KS (St.put ⟨s.t, ovr o2 s.o⟩ d r) K) : CallO P f vs d s K := by
  refine ⟨lk o1, _, hsub, h, ?_⟩
  rintro r' o' ⟨rfl, rfl⟩ _
  exact hK
theorem CallN_new {f : Nat} {vs : List AV} {cs : List AV} (h : CT P f vs (fun _ => none) (fun r' o' => ∃ b, r' = .ptr b 0 ∧ o' = lk [(b, cs)])) (hK : NewB s.o (fun b => KS (St.put ⟨s.t, ovr [(b, cs)] s.o⟩ d (.ptr b 0)) K)) : CallN P f vs d s K := by
  refine ⟨_, h, ?_⟩
  rintro r' o' ⟨b, rfl, rfl⟩ hf
  exact hK b (hf b cs (by simp [lk]))
theorem CallO_new {f : Nat} {vs : List AV} {cs : List AV} (h : CT P f vs (fun _ => none) (fun r' o' => ∃ b, r' = .ptr b 0 ∧ o' = lk [(b, cs)])) (hK : NewB s.o (fun b => KS (St.put ⟨s.t, ovr [(b, cs)] s.o⟩ d (.ptr b 0)) K)) : CallO P f vs d s K := by
  refine ⟨fun _ => none, _, fun b cs hb => (by cases hb), h, ?_⟩
  rintro r' o' ⟨b, rfl, rfl⟩ hf
  exact hK b (hf b cs (by simp [lk]) rfl)
def mkK (d : Option Nat) (z : List AV) (n : Nat) (s : St) (K : St → Prop) (b : Nat) : Prop := KS (St.put { s with o := upd s.o b (some (List.replicate n z).flatten) } d (.osl b 0 n)) K
def mk1 (d : Option Nat) (z : List AV) (bytes : Nat) (s : St) (K : St → Prop) (p : AV) : Prop := mkW s d z bytes p K
theorem kW_mk (z : List AV) (bytes : Nat) (x : Opd) : kW P d (.mk z bytes x) s K = K1 (x.ev s) (mk1 d z bytes s K) := rfl
theorem mk_int (z : List AV) (bytes : Nat) (k : IntKind) (m : Int) : mk1 d z bytes s K (.int k m) = ((0 ≤ m ∧ m ≤ 140737488355328 ∧ m * bytes ≤ 140737488355328) ∧ NewB s.o (mkK d z m.toNat s K)) := rfl
theorem kW_vidx (n size : Nat) (q : Option Nat) (x i : Opd) : kW P d (.vidx n size q x i) s K = K1 (x.ev s) (bi1K (vidxR n size q) i d s K) := by
  apply propext
  constructor
  · rintro ⟨r, ⟨a, b, h1, h2, h3⟩, h4⟩; exact ⟨a, h1, b, h2, r, h3, h4⟩
  · rintro ⟨a, h1, b, h2, r, h3, h4⟩; exact ⟨r, ⟨a, b, h1, h2, h3⟩, h4⟩
theorem kW_mn (x y : Opd) : kW P d (.mn x y) s K = K1 (x.ev s) (bi1K minR y d s K) := by
  apply propext
  constructor
  · rintro ⟨r, ⟨a, b, h1, h2, h3⟩, h4⟩; exact ⟨a, h1, b, h2, r, h3, h4⟩
  · rintro ⟨a, h1, b, h2, r, h3, h4⟩; exact ⟨r, ⟨a, b, h1, h2, h3⟩, h4⟩
theorem opW_none (A : Option Nat) (k : AK) : opW P ⟨none, A, k⟩ s K = kW P A k s K := rfl
def gW (P : Program) (want : Bool) (d : Option Nat) (k : AK) (s : St) (K : St → Prop) : AV → Prop
  | .bool b => (b = want → kW P d k s K) ∧ (b = !want → KS (s.put d .undef) K)
  | .undef => KS (s.put d .undef) K
  | _ => False
theorem opW_some (j : Nat) (want : Bool) (k : AK) : opW P ⟨some (j, want), d, k⟩ s K = K1 (s.t j) (gW P want d k s K) := by
  apply propext
  unfold opW
  simp only
  constructor
  · intro h
    split at h
    · rename_i b hb; exact ⟨_, hb, h⟩
    · rename_i hb; exact ⟨_, hb, h⟩
    · exact h.elim
  · rintro ⟨g, h1, h2⟩
    rw [h1]
    cases g <;> try exact h2.elim
    · exact h2
    · exact h2
theorem pickW_sp {c : Bool} {a b : AV} {K : AV → Prop} (h : Sp c (fun c => pickW (.bool c) a b K)) : pickW (.bool c) a b K := h
theorem gW_sp {want : Bool} {k : AK} {b : Bool} (h : Sp b (fun b => gW P want d k s K (.bool b))) : gW P want d k s K (.bool b) := h
def opsK (P : Program) (r : List AOp) (K : St → Prop) (s : St) : Prop := opsW P r s K
theorem opsW_nil : opsW P [] s K = K s := rfl
theorem opsW_cons (o : AOp) (r : List AOp) : opsW P (o :: r) s K = opW P o s (opsK P r K) := rfl
theorem opsK_ap (r : List AOp) : opsK P r K s = opsW P r s K := rfl
end
section
variable {P : Program} {s : St} {Q : AExit → St → Prop}
def nQ (Q : AExit → St → Prop) (s : St) : Prop := Q .normal s
def wQ (P : Program) (b : ACode) (Q : AExit → St → Prop) (s : St) : Prop := wpx P b Q s
theorem nQ_ap : nQ Q s = Q .normal s := rfl
theorem wQ_ap (b : ACode) : wQ P b Q s = wpx P b Q s := rfl
theorem wpx_skip : wpx P .skip Q s = Q .normal s := rfl
theorem wpx_reg (ops : List AOp) (dr : Bool) : wpx P (.reg ops dr) Q s = opsW P ops s (nQ Q) := rfl
theorem wpx_seq (a b : ACode) : wpx P (.seq a b) Q s = wpx P a (thenQ (wQ P b Q) Q) s := rfl
def condW (P : Program) (t e : ACode) (Q : AExit → St → Prop) (s : St) : AV → Prop
  | .bool b => (b = true → wpx P t Q s) ∧ (b = false → wpx P e Q s)
  | _ => False
theorem wpx_cond (c : Opd) (t e : ACode) : wpx P (.cond c t e) Q s = K1 (c.ev s) (condW P t e Q s) := by
  apply propext
  constructor
  · rintro ⟨b, h1, h2⟩; exact ⟨_, h1, h2⟩
  · rintro ⟨v, h1, h2⟩
    cases v <;> try exact h2.elim
    exact ⟨_, h1, h2⟩
theorem condW_sp {t e : ACode} {b : Bool} (h : Sp b (fun b => condW P t e Q s (.bool b))) : condW P t e Q s (.bool b) := h
theorem wpx_block (id : Nat) (b : ACode) : wpx P (.block id b) Q s = wpx P b (blockQ id Q) s := rfl
theorem wpx_loopW (b : ACode) : wpx P (.loop b) Q s = LoopW P b Q s := rfl
theorem wpx_exit (id : Nat) : wpx P (.exit id) Q s = Q (.exit id) s := rfl
theorem wpx_ret : wpx P .ret Q s = Q .ret s := rfl
def RoundQ {α : Type} (inv : α → St) (phi : α → Prop) (m : α → Nat) (x : α) (s1 : St) : Prop := ∃ x', Le (inv x') s1 ∧ phi x' ∧ m x' < m x
theorem wpx_loop {α : Type} {b : ACode} (inv : α → St) (phi : α → Prop) (m : α → Nat) (x0 : α) (h0 : phi x0) (hle : Le (inv x0) s)
    (hr : ∀ x, phi x → wpx P b (thenQ (RoundQ inv phi m x) Q) (inv x)) : LoopW P b Q s :=
  ⟨α, inv, phi, m, ⟨x0, hle, h0⟩, hr⟩
end

def detO : OT → Bool
  | .nil => true
  | .op A k => A.k.det && detO k
  | .two a b => detO a && detO b
def leK (s1 s : St) : Prop := Le s1 s
structure Two (A B : Prop) : Prop where
  a : A
  b : B
theorem Two_intro {A B : Prop} (h1 : A) (h2 : B) : Two A B := ⟨h1, h2⟩
def otF (P : Program) : OT → St → (St → Prop) → Prop
  | .nil, s, K => K s
  | .op A k, s, K => opW P A s fun s' => otF P k s' K
  | .two a b, s, K => otF P a s fun s1 => Two (otW P b s (leK s1)) (K s1)
def otFK (P : Program) (k : OT) (K : St → Prop) (s : St) : Prop := otF P k s K
def otWK (P : Program) (k : OT) (K : St → Prop) (s : St) : Prop := otW P k s K
def twoK (P : Program) (b : OT) (s : St) (K : St → Prop) (s1 : St) : Prop := Two (otW P b s (leK s1)) (K s1)
section
variable {P : Program} {s : St} {K : St → Prop} {Q : AExit → St → Prop}
theorem otF_nil : otF P .nil s K = K s := rfl
theorem otF_op (A : AOp) (k : OT) : otF P (.op A k) s K = opW P A s (otFK P k K) := rfl
theorem otF_two (a b : OT) : otF P (.two a b) s K = otF P a s (twoK P b s K) := rfl
theorem otFK_ap (k : OT) : otFK P k K s = otF P k s K := rfl
theorem otW_nil : otW P .nil s K = K s := rfl
theorem otW_op (A : AOp) (k : OT) : otW P (.op A k) s K = opW P A s (otWK P k K) := rfl
theorem otW_two (a b : OT) : otW P (.two a b) s K = Two (otW P a s K) (otW P b s K) := propext ⟨fun h => ⟨h.1, h.2⟩, fun h => ⟨h.1, h.2⟩⟩
theorem otWK_ap (k : OT) : otWK P k K s = otW P k s K := rfl
theorem opW_mono {A : AOp} (hk : A.k.det = true) {K K' : St → Prop} (h : ∀ s', K s' → K' s') (e : opW P A s K) : opW P A s K' := by
  unfold opW at e ⊢
  split at e
  · obtain ⟨r, h1, h2⟩ := (kW_det hk).1 e
    exact (kW_det hk).2 ⟨r, h1, h _ h2⟩
  · rename_i j want _
    split at e
    · rename_i b hb
      refine ⟨fun hw => ?_, fun hw => h _ (e.2 hw)⟩
      obtain ⟨r, h1, h2⟩ := (kW_det hk).1 (e.1 hw)
      exact (kW_det hk).2 ⟨r, h1, h _ h2⟩
    · exact h _ e
    · exact e.elim
theorem otF_sound : ∀ (t : OT) (s : St) (K : St → Prop), detO t = true → otF P t s K → ∃ s1, otW P t s (Le s1) ∧ K s1
  | .nil, s, K, _, h => ⟨s, le_refl s, h⟩
  | .op A k, s, K, hd, h => by
    simp only [detO, Bool.and_eq_true] at hd
    obtain ⟨w, h1, h2⟩ := step_of_opW hd.1 h
    obtain ⟨s1, h3, h4⟩ := otF_sound k _ K hd.2 h2
    exact ⟨s1, opW_mono hd.1 (fun s' e => by rw [e]; exact h3) (opW_of_step hd.1 h1), h4⟩
  | .two a b, s, K, hd, h => by
    simp only [detO, Bool.and_eq_true] at hd
    obtain ⟨s1, h3, h4, h5⟩ := otF_sound a s _ hd.1 h
    exact ⟨s1, ⟨h3, h4⟩, h5⟩
theorem wpx_tree {t : OT} (hd : detO t = true) (h : otF P t s (nQ Q)) : wpx P (.tree t) Q s := by
  obtain ⟨s1, h1, h2⟩ := otF_sound t s _ hd h
  exact ⟨Le s1, fun _ _ g e => le_trans e g, h1, fun s' hs => ⟨s1, hs, h2⟩⟩
def TreeW (P : Program) (t : OT) (Q : AExit → St → Prop) (s : St) : Prop := wpx P (.tree t) Q s
theorem wpx_treeW (t : OT) : wpx P (.tree t) Q s = TreeW P t Q s := rfl
def upQ (Q : AExit → St → Prop) (s' : St) : Prop := ∃ s1, Le s1 s' ∧ nQ Q s1
theorem upQ_intro (h : nQ Q s) : upQ Q s := ⟨s, le_refl s, h⟩
theorem TreeW_all {t : OT} (h : otW P t s (upQ Q)) : TreeW P t Q s := ⟨upQ Q, fun _ _ g ⟨s1, e, q⟩ => ⟨s1, le_trans e g, q⟩, h, fun _ hs => hs⟩
theorem TreeW_intro {t : OT} (hd : detO t = true) (h : otF P t s (nQ Q)) : TreeW P t Q s := wpx_tree hd h
end
end Go.Proofs.YtmmmbmljompamaaGreatDoor
