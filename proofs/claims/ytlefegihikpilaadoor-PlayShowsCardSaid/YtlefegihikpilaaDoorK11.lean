import Derived.Test.YtlefegihikpilaaDoorK9
import Derived.Test.YtlefegihikpilaaDoorK10
import Derived.Shelf.Strings.OnBuilder
import Derived.Shelf.Strings.SlTrimAscii
import Derived.WalkSmall
import Derived.Test.YtlefegihikpilaaDoorK8
import Derived.Lib.ItoaNum
import Derived.Lib.IndexMore
import Derived.Lib.Strings
/- strings.Builder, strings.Join -/
namespace Go.Proofs.YtlefegihikpilaaDoor
set_option linter.all false
open Go.RowKit Go.Shelf
set_option maxRecDepth 100000
variable {P : Program} {ρ : Ren}
/-! String, the world told whole -/
set_option maxHeartbeats 1000000 in
theorem xString_row (L : Lays.n169 P ρ) (X : Builder.Extra P ρ) (T : TypeId) (b g cap : Nat) (p : Value) (cur : Array Value) (l : List UInt8) (w : World) (h0 : l ≠ []) (hbk : w.heap[b]? = some (.cells #[p, .slice (some ⟨g, 0, none⟩) l.length cap] T (0, 0)))
    (hg : w.heap[g]? = some (.cells cur (ρ.t 5) (0, 0))) (hle : l.length ≤ cur.size) (hcap : l.length ≤ cap) (hcm : cap ≤ maxLen) (hcell : ∀ j x, l[j]? = some x → w.cell? ((⟨g, 0, none⟩ : Addr).add j) = some (.int .u8 x.toNat)) :
    Calls P (ρ.f 169) #[.pointer (some ⟨b, 0, none⟩)] w fun e w' => e = .returned (.string ⟨l.toArray⟩) ∧ w' = w.drew.freeze ⟨g, 0, none⟩ l.length := by
  have hl0 : l.length ≠ 0 := by simpa using h0
  have c1 : w.drew.cell? ⟨b, 1, none⟩ = some (.slice (some ⟨g, 0, none⟩) l.length cap) := by
    have : w.drew.heap[b]? = some (.cells #[p, .slice (some ⟨g, 0, none⟩) l.length cap] T (0, 0)) := hbk
    rw [Lib.cell_of_heap this]; rfl
  have hSD : (Builtin.unsafeSliceData_ #[(ρ.t 37)] (ρ.t 127) #[.slice (some ⟨g, 0, none⟩) l.length cap]).run P w.drew = .ok (.pointer (some ⟨g, 0, none⟩)) w.drew :=
    Lib.run_unsafeSliceData_row _ _ _ _ _ _ (by omega)
  have hUS : (Builtin.unsafeString_ #[(ρ.t 127), (ρ.t 3)] (ρ.t 9) #[.pointer (some ⟨g, 0, none⟩), .int .i64 l.length]).run P w.drew = .ok (.string ⟨l.toArray⟩) (w.drew.freeze ⟨g, 0, none⟩ l.length) := by
    refine Lib.run_unsafeString_row w.drew (ρ.t 127) (ρ.t 3) (ρ.t 9) (ρ.t 5) L.t127 X.cellsByte g cur.size (by have hg' : w.drew.heap[g]? = some (.cells cur (ρ.t 5) (0, 0)) := hg; simp [World.shape?, hg']) l h0 hle (by unfold maxLen at hcm; omega) hcell
  clear hcell hle hcap hcm hg
  have mixed := L.mixed
  have t72 := L.t72; have a72 := L.a72; have z72 := L.z72; have v72 := L.v72; have u72 := run_underlying L.t72
  have t70 := L.t70; have a70 := L.a70; have z70 := L.z70; have v70 := L.v70; have u70 := run_underlying L.t70
  have t37 := L.t37; have a37 := L.a37; have z37 := L.z37; have v37 := L.v37; have u37 := run_underlying L.t37
  have t127 := L.t127; have a127 := L.a127; have z127 := L.z127; have v127 := L.v127; have u127 := run_underlying L.t127
  have t3 := L.t3; have a3 := L.a3; have z3 := L.z3; have v3 := L.v3; have u3 := run_underlying L.t3
  have t9 := L.t9; have a9 := L.a9; have z9 := L.z9; have v9 := L.v9; have u9 := run_underlying L.t9
  have t5 := X.t5; have a5 := X.a5; have z5 := X.z5; have v5 := X.v5; have u5 := run_underlying X.t5
  go_enter L.f169, Body.n169_ntmps ρ
  go_wp2
  go_region_o
  all_goals (go_wp2; go_ret; exact ⟨rfl, rfl⟩)
set_option maxHeartbeats 2000000 in
theorem xString_nil (L : Lays.n169 P ρ) (X : Builder.Extra P ρ) (T : TypeId) (b : Nat) (p : Value) (w : World) (hbk : w.heap[b]? = some (.cells #[p, .slice none 0 0] T (0, 0))) :
    Calls P (ρ.f 169) #[.pointer (some ⟨b, 0, none⟩)] w fun e w' => e = .returned (.string ⟨#[]⟩) ∧ w' = w.drew := by
  have hUS := Any.unsafeString_none L X
  have c1 : w.drew.cell? ⟨b, 1, none⟩ = some (.slice none 0 0) := by
    have : w.drew.heap[b]? = some (.cells #[p, .slice none 0 0] T (0, 0)) := hbk
    rw [Lib.cell_of_heap this]; rfl
  have hSD : (Builtin.unsafeSliceData_ #[(ρ.t 37)] (ρ.t 127) #[.slice none 0 0]).run P w.drew = .ok (.pointer none) w.drew := rfl
  have mixed := L.mixed
  have t72 := L.t72; have a72 := L.a72; have z72 := L.z72; have v72 := L.v72; have u72 := run_underlying L.t72
  have t70 := L.t70; have a70 := L.a70; have z70 := L.z70; have v70 := L.v70; have u70 := run_underlying L.t70
  have t37 := L.t37; have a37 := L.a37; have z37 := L.z37; have v37 := L.v37; have u37 := run_underlying L.t37
  have t127 := L.t127; have a127 := L.a127; have z127 := L.z127; have v127 := L.v127; have u127 := run_underlying L.t127
  have t3 := L.t3; have a3 := L.a3; have z3 := L.z3; have v3 := L.v3; have u3 := run_underlying L.t3
  have t9 := L.t9; have a9 := L.a9; have z9 := L.z9; have v9 := L.v9; have u9 := run_underlying L.t9
  have t5 := X.t5; have a5 := X.a5; have z5 := X.z5; have v5 := X.v5; have u5 := run_underlying X.t5
  go_enter L.f169, Body.n169_ntmps ρ
  go_wp2
  go_region_o
  all_goals (go_wp2; go_ret; exact ⟨rfl, rfl⟩)
set_option maxHeartbeats 2000000 in
theorem xString_room (L : Lays.n169 P ρ) (X : Builder.Extra P ρ) (T : TypeId) (b g cap : Nat) (p : Value) (w : World) (hc0 : cap ≠ 0) (hbk : w.heap[b]? = some (.cells #[p, .slice (some ⟨g, 0, none⟩) 0 cap] T (0, 0))) :
    Calls P (ρ.f 169) #[.pointer (some ⟨b, 0, none⟩)] w fun e w' => e = .returned (.string ⟨#[]⟩) ∧ w' = w.drew := by
  have hUS := Any.unsafeString_none L X
  have c1 : w.drew.cell? ⟨b, 1, none⟩ = some (.slice (some ⟨g, 0, none⟩) 0 cap) := by
    have : w.drew.heap[b]? = some (.cells #[p, .slice (some ⟨g, 0, none⟩) 0 cap] T (0, 0)) := hbk
    rw [Lib.cell_of_heap this]; rfl
  have hSD : (Builtin.unsafeSliceData_ #[(ρ.t 37)] (ρ.t 127) #[.slice (some ⟨g, 0, none⟩) 0 cap]).run P w.drew = .ok (.pointer (some ⟨g, 0, none⟩)) w.drew :=
    Lib.run_unsafeSliceData_row _ _ _ _ _ _ hc0
  clear hc0
  have mixed := L.mixed
  have t72 := L.t72; have a72 := L.a72; have z72 := L.z72; have v72 := L.v72; have u72 := run_underlying L.t72
  have t70 := L.t70; have a70 := L.a70; have z70 := L.z70; have v70 := L.v70; have u70 := run_underlying L.t70
  have t37 := L.t37; have a37 := L.a37; have z37 := L.z37; have v37 := L.v37; have u37 := run_underlying L.t37
  have t127 := L.t127; have a127 := L.a127; have z127 := L.z127; have v127 := L.v127; have u127 := run_underlying L.t127
  have t3 := L.t3; have a3 := L.a3; have z3 := L.z3; have v3 := L.v3; have u3 := run_underlying L.t3
  have t9 := L.t9; have a9 := L.a9; have z9 := L.z9; have v9 := L.v9; have u9 := run_underlying L.t9
  have t5 := X.t5; have a5 := X.a5; have z5 := X.z5; have v5 := X.v5; have u5 := run_underlying X.t5
  go_enter L.f169, Body.n169_ntmps ρ
  go_wp2
  go_region_o
  all_goals (go_wp2; go_ret; exact ⟨rfl, rfl⟩)
set_option maxHeartbeats 2000000 in
theorem xString_noroom (L : Lays.n169 P ρ) (X : Builder.Extra P ρ) (T : TypeId) (b g : Nat) (p : Value) (cur : Array Value) (w : World) (hbk : w.heap[b]? = some (.cells #[p, .slice (some ⟨g, 0, none⟩) 0 0] T (0, 0))) (hg : w.heap[g]? = some (.cells cur (ρ.t 5) (0, 0))) :
    Calls P (ρ.f 169) #[.pointer (some ⟨b, 0, none⟩)] w fun e w' => e = .returned (.string ⟨#[]⟩) ∧ w' = w.drew.alloc (.view ⟨g, 0, none⟩ (ρ.t 5)) := by
  have hUS := Any.unsafeString_none L X
  have hlt : b < w.heap.size := by
    rcases Nat.lt_or_ge b w.heap.size with h' | h'
    · exact h'
    · simp [Array.getElem?_eq_none h'] at hbk
  have c1 : w.drew.cell? ⟨b, 1, none⟩ = some (.slice (some ⟨g, 0, none⟩) 0 0) := by
    have : w.drew.heap[b]? = some (.cells #[p, .slice (some ⟨g, 0, none⟩) 0 0] T (0, 0)) := hbk
    rw [Lib.cell_of_heap this]; rfl
  have hSD : (Builtin.unsafeSliceData_ #[(ρ.t 37)] (ρ.t 127) #[.slice (some ⟨g, 0, none⟩) 0 0]).run P w.drew = .ok (.pointer (some ⟨w.drew.heap.size, 0, none⟩)) (w.drew.alloc (.view ⟨g, 0, none⟩ (ρ.t 5))) :=
    Lib.run_unsafeSliceData_zero w.drew _ _ (ρ.t 5) L.t127 ⟨g, 0, none⟩ 0 ((ρ.t 5), cur.size) (by have hg' : w.drew.heap[g]? = some (.cells cur (ρ.t 5) (0, 0)) := hg; simp [World.shape?, hg'])
  have c2 : (w.drew.alloc (.view ⟨g, 0, none⟩ (ρ.t 5))).cell? ⟨b, 1, none⟩ = some (.slice (some ⟨g, 0, none⟩) 0 0) := by
    have : (w.drew.alloc (.view ⟨g, 0, none⟩ (ρ.t 5))).heap[b]? = _ := (Lib.alloc_old w.drew _ b hlt).trans hbk
    rw [Lib.cell_of_heap this]; rfl
  have c3 : (w.alloc (.view ⟨g, 0, none⟩ (ρ.t 5))).drew.cell? ⟨b, 1, none⟩ = some (.slice (some ⟨g, 0, none⟩) 0 0) := c2
  have c0 : w.cell? ⟨b, 1, none⟩ = some (.slice (some ⟨g, 0, none⟩) 0 0) := c1
  have mixed := L.mixed
  have t72 := L.t72; have a72 := L.a72; have z72 := L.z72; have v72 := L.v72; have u72 := run_underlying L.t72
  have t70 := L.t70; have a70 := L.a70; have z70 := L.z70; have v70 := L.v70; have u70 := run_underlying L.t70
  have t37 := L.t37; have a37 := L.a37; have z37 := L.z37; have v37 := L.v37; have u37 := run_underlying L.t37
  have t127 := L.t127; have a127 := L.a127; have z127 := L.z127; have v127 := L.v127; have u127 := run_underlying L.t127
  have t3 := L.t3; have a3 := L.a3; have z3 := L.z3; have v3 := L.v3; have u3 := run_underlying L.t3
  have t9 := L.t9; have a9 := L.a9; have z9 := L.z9; have v9 := L.v9; have u9 := run_underlying L.t9
  have t5 := X.t5; have a5 := X.a5; have z5 := X.z5; have v5 := X.v5; have u5 := run_underlying X.t5
  go_enter L.f169, Body.n169_ntmps ρ
  go_wp2
  go_region_o
  all_goals (go_wp2; go_ret; exact ⟨rfl, rfl⟩)
end Go.Proofs.YtlefegihikpilaaDoor

/- strings.Builder: copyCheck laid at this program -/
namespace Go.Proofs.YtlefegihikpilaaDoor
set_option linter.all false
open Go.RowKit Go.Shelf
set_option maxRecDepth 100000
def ren240 : Go.Shelf.Ren := ⟨fun | 240 => 49 | 276 => 71 | n => n, fun | 0 => 0 | 4 => 4 | 9 => 9 | 20 => 20 | 37 => 86 | 70 => 85 | 72 => 88 | 164 => 129 | n => n, fun | n => n⟩
theorem lays240 : Go.Proofs.Lays.n240 Tryd.prog ren240 := {
  mixed := by kernel_rfl
  f240 := Tryd.func49.trans (congrArg some (by kernel_rfl))
  f276 := Tryd.func71.trans (congrArg some (by kernel_rfl))
  t0 := Tryd.underlying0
  a0 := Tryd.isAgg0
  z0 := Tryd.sizeOf0
  v0 := Tryd.zeroValue0
  t4 := Tryd.underlying4
  a4 := Tryd.isAgg4
  z4 := Tryd.sizeOf4
  v4 := Tryd.zeroValue4
  t9 := Tryd.underlying9
  a9 := Tryd.isAgg9
  z9 := Tryd.sizeOf9
  v9 := Tryd.zeroValue9
  t20 := Tryd.underlying20
  a20 := Tryd.isAgg20
  z20 := Tryd.sizeOf20
  v20 := Tryd.zeroValue20
  t70 := Tryd.underlying85
  a70 := Tryd.isAgg85
  z70 := Tryd.sizeOf85
  v70 := Tryd.zeroValue85
  t72 := Tryd.underlying88
  a72 := Tryd.isAgg88
  z72 := Tryd.sizeOf88
  v72 := Tryd.zeroValue88
  t164 := Tryd.underlying129
  a164 := Tryd.isAgg129
  z164 := Tryd.sizeOf129
  v164 := Tryd.zeroValue129 }
theorem x72 : Builder.X72 Tryd.prog ren240 := {
  sizeBuilder := by kernel_rfl
  liesBuilder := by kernel_rfl }
end Go.Proofs.YtlefegihikpilaaDoor

/- strings.Builder: its contracts over objects -/
namespace Go.Proofs.YtlefegihikpilaaDoor
set_option linter.all false
open Go.RowKit Go.Shelf
set_option maxRecDepth 100000
section
variable {W0 : World} {U0 : Nat → Nat → Prop} {M : Nat → Prop} {W : World} {U : Nat → Nat → Prop}
/-- A plain result is put down. -/
theorem Inv.plainRes {o : Nat → Option (List AV)} {r : AV} {v : Value} (h : Inv 0 W0 U0 M { tmps := #[], defers := [] } W U ⟨fun _ => none, o⟩) (hv : VR W U v r) (hr : ∀ e sz els, r ≠ .sl (some e) sz els) :
    Inv 1 W0 U0 M { tmps := #[v], defers := [] } W U ⟨upd (fun _ => none) 0 (some r), o⟩ := by
  have hat : ∀ {ℓ : Loc} {e sz : Nat} {els : List (List AV)}, St.at ⟨upd (fun _ => none) 0 (some r), o⟩ ℓ = some (.sl (some e) sz els) → St.at ⟨fun _ => none, o⟩ ℓ = some (.sl (some e) sz els) ∧ cat { tmps := #[v], defers := [] } W ℓ = cat { tmps := #[], defers := [] } W ℓ := by
    intro ℓ e sz els hl
    cases ℓ with
    | t i =>
      simp only [St.at, upd] at hl
      split at hl
      · simp only [Option.some.injEq] at hl; exact absurd hl (hr _ _ _)
      · cases hl
    | o b j => exact ⟨hl, rfl⟩
  refine ⟨rfl, rfl, h.fr, fun i x hx => ?_, h.ob, fun ℓ x hx => ?_, fun ℓ ℓ' e sz els e' sz' els' hne h1 h2 => ?_, fun ℓ e sz els h1 => ?_⟩
  · simp only [upd] at hx
    split at hx
    · rename_i hi; subst hi; cases hx; exact hv
    · cases hx
  · unfold Own1
    split
    · rename_i e sz els
      obtain ⟨g1, g2⟩ := hat hx
      rw [g2]
      have := h.ow ℓ _ g1
      simpa only [Own1] using this
    · trivial
  · obtain ⟨g1, g2⟩ := hat h1
    obtain ⟨g3, g4⟩ := hat h2
    rw [g2, g4]
    exact h.ap ℓ ℓ' _ _ _ _ _ _ hne g1 g3
  · obtain ⟨g1, g2⟩ := hat h1
    rw [g2]
    exact h.no ℓ _ _ _ g1
end
theorem one_arg {W : World} {U : Nat → Nat → Prop} {vs : List Value} {b : Nat} (hl : vs.length = [AV.ptr b 0].length) (hv : ∀ (i : Nat) (v : Value) (c : AV), vs[i]? = some v → [AV.ptr b 0][i]? = some c → VR W U v c) : vs = [.pointer (some ⟨b, 0, none⟩)] := by
  match vs, hl with
  | [v], _ =>
    have := hv 0 v _ rfl rfl
    cases this
    rfl
theorem lk1 (b : Nat) (cs : List AV) : lk [(b, cs)] b = some cs := by simp [lk]
theorem upd1 (b : Nat) (cs cs' : List AV) : upd (lk [(b, cs)]) b (some cs') = lk [(b, cs')] := by
  rw [upd_lk]; simp [pt]
theorem domB {b : Nat} {cs cs' : List AV} : ∀ b' c, lk [(b, cs)] b' = some c → ∃ c', lk [(b, cs')] b' = some c' := by
  intro b' c h
  simp only [lk] at h ⊢
  split at h
  · rename_i e; simp [e]
  · cases h
theorem t_copy1 (b : Nat) (v : AV) : CT Tryd.prog 49 [.ptr b 0] (lk [(b, [.ptr b 0, v])]) (fun r o => r = .tup [] ∧ o = lk [(b, [.ptr b 0, v])]) := by
  intro W U vs hl hv hI
  obtain rfl := one_arg hl hv
  obtain ⟨cs, ty, q1, q2, q3, q4, q5⟩ := hI.obs (j := 0) (lk1 b _) rfl (by simp) (by simp)
  have h0 : W.cell? ⟨b, 0, none⟩ = some (.pointer (some ⟨b, 0, none⟩)) := by
    have hv0 := (q3 0 _ rfl).1
    have hs : 0 < cs.size := by simp at q2; omega
    rw [cell_of_row W b 0 cs ty.1 (0, 0) q1]
    generalize hx : cs.getD 0 undef = x at hv0
    cases hv0
    simpa [hs] using hx
  refine (Any.Builder_copyCheck_used lays240 x72 b W h0).mono ?_
  rintro e W' ⟨rfl, rfl⟩
  exact ⟨.tuple #[], U, .tup [], _, rfl, ⟨rfl, rfl⟩, domB, hI.plainRes (.tup [] [] rfl (by simp)) (by simp)⟩
theorem t_copy0 (b : Nat) (v : AV) : CT Tryd.prog 49 [.ptr b 0] (lk [(b, [.nilT 88, v])]) (fun r o => r = .tup [] ∧ o = lk [(b, [.ptr b 0, v])]) := by
  intro W U vs hl hv hI
  obtain rfl := one_arg hl hv
  obtain ⟨cs, ty, q1, q2, q3, q4, q5⟩ := hI.obs (j := 0) (lk1 b _) rfl (by simp) (by simp)
  have hty : ty.1 = 88 := ty.2 _ rfl
  have hs : cs.size = 2 := by simpa using q2
  have h0 : W.cell? ⟨b, 0, none⟩ = some (.pointer none) := by
    have hv0 := (q3 0 _ rfl).1
    rw [cell_of_row W b 0 cs ty.1 (0, 0) q1]
    generalize hx : cs.getD 0 undef = x at hv0
    cases hv0
    simpa [hs] using hx
  have hsh : W.shape? b = some (88, 2) := by
    simp [World.shape?, q1, hs, hty]
  have hfz : W.frozen? ⟨b, 0, none⟩ = false := by
    simp [World.frozen?, q1]
  refine (Any.Builder_copyCheck_fresh lays240 x72 b W h0 hsh hfz).mono ?_
  rintro e W' ⟨rfl, rfl⟩
  have hrow : W.setCell ⟨b, 0, none⟩ (.pointer (some ⟨b, 0, none⟩)) = W.setRow b (cs.setIfInBounds 0 (.pointer (some ⟨b, 0, none⟩))) := setCell_eq_setRow W b 0 cs ty.1 (0, 0) _ q1
  rw [hrow]
  have h2 := hI.seto (cs' := [.ptr b 0, v]) (vs' := cs.setIfInBounds 0 (.pointer (some ⟨b, 0, none⟩))) (lk1 b _) q1 rfl (by simp) (fun j c hj => ?_) (fun u hu => by cases hu) (fun j e sz els hj => ?_)
  · refine ⟨.tuple #[], U, .tup [], _, rfl, ⟨rfl, rfl⟩, domB, ?_⟩
    have h3 : Inv 0 W U (ownedBy W (lk [(b, [AV.nilT 88, v])])) { tmps := #[], defers := [] } (W.setRow b (cs.setIfInBounds 0 (.pointer (some ⟨b, 0, none⟩)))) U ⟨fun _ => none, lk [(b, [.ptr b 0, v])]⟩ := by
      have e := upd1 b [AV.nilT 88, v] [.ptr b 0, v]
      rw [← e]; exact h2
    exact h3.plainRes (.tup [] [] rfl (by simp)) (by simp)
  · match j, hj with
    | 0, hj =>
      cases hj
      have : (cs.setIfInBounds 0 (Value.pointer (some ⟨b, 0, none⟩))).getD 0 undef = .pointer (some ⟨b, 0, none⟩) := by simp [hs]
      rw [this]
      exact ⟨.ptr b 0 ⟨_, _, _, q1⟩, rfl⟩
    | 1, hj =>
      cases hj
      have : (cs.setIfInBounds 0 (Value.pointer (some ⟨b, 0, none⟩))).getD 1 undef = cs.getD 1 undef := by simp [hs]
      rw [this]
      exact q3 1 _ rfl
  · match j, hj with
    | 0, hj => cases hj
    | 1, hj =>
      refine ⟨hj, ?_⟩
      simp [hs]
/-- String: the text; the bytes are the builder's no longer. -/
theorem t_String (b : Nat) (l : List UInt8) (p : AV) (hp : headT [p] = none ∨ True) : CT Tryd.prog 30 [.ptr b 0] (lk [(b, [p, .sl (some 5) 1 (l.map byteEl)])]) (fun r o => r = .str l ∧ o = lk [(b, [p, .sl none 1 (l.map byteEl)])]) := by
  intro W U vs hl hv hI
  obtain rfl := one_arg hl hv
  obtain ⟨cs, ty, q1, q2, q3, q4, q5⟩ := hI.obs (j := 1) (lk1 b _) rfl (by simp) (by simp)
  have hs : cs.size = 2 := by simpa using q2
  have hat : St.at ⟨fun _ => none, lk [(b, [p, AV.sl (some 5) 1 (l.map byteEl)])]⟩ (.o b 1) = some (.sl (some 5) 1 (l.map byteEl)) := by simp [St.at, lk]
  have hcat : cat { tmps := #[], defers := [] } W (.o b 1) = cs.getD 1 undef := by simp only [cat, q1]
  have hown := hI.own hat
  rw [hcat] at hown
  have hvr := (q3 1 _ rfl).1
  have hI1 := hI.strip (lk1 b _) (off := 1) rfl
  have e1 : splice [p, AV.sl (some 5) 1 (l.map byteEl)] 1 [.sl none 1 (l.map byteEl)] = [p, .sl none 1 (l.map byteEl)] := rfl
  rw [e1] at hI1
  have hI2 : Inv 0 W U (ownedBy W (lk [(b, [p, AV.sl (some 5) 1 (l.map byteEl)])])) { tmps := #[], defers := [] } W U ⟨fun _ => none, lk [(b, [p, .sl none 1 (l.map byteEl)])]⟩ := by
    have e := upd1 b [p, AV.sl (some 5) 1 (l.map byteEl)] [p, .sl none 1 (l.map byteEl)]
    rw [← e]; exact hI1
  have hbk : ∀ v, cs.getD 1 undef = v → W.heap[b]? = some (.cells #[cs.getD 0 undef, v] ty.1 (0, 0)) := by
    rintro v rfl
    rw [q1]
    congr 2
    apply Array.ext
    · simp [hs]
    · intro i h1 h2
      match i, h1 with
      | 0, _ => simp [hs]
      | 1, _ => simp [hs]
      | i + 2, h1 => omega
  have fin : ∀ (e : Ending) (W' : World) (U' : Nat → Nat → Prop), e = .returned (.string ⟨l.toArray⟩) → Inv 0 W U (ownedBy W (lk [(b, [p, AV.sl (some 5) 1 (l.map byteEl)])])) { tmps := #[], defers := [] } W' U' ⟨fun _ => none, lk [(b, [p, .sl none 1 (l.map byteEl)])]⟩ →
      ∃ v U' r o', e = .returned v ∧ (r = .str l ∧ o' = lk [(b, [p, .sl none 1 (l.map byteEl)])]) ∧ (∀ b' c, lk [(b, [p, AV.sl (some 5) 1 (l.map byteEl)])] b' = some c → ∃ c', o' b' = some c') ∧
        Inv 1 W U (ownedBy W (lk [(b, [p, AV.sl (some 5) 1 (l.map byteEl)])])) { tmps := #[v], defers := [] } W' U' ⟨upd (fun _ => none) 0 (some r), o'⟩ := fun e W' U' he h => ⟨_, U', _, _, he, ⟨rfl, rfl⟩, domB, h.plainRes (.str l) (by simp)⟩
  rcases hown with ⟨e0, hn⟩ | ⟨g, cap, cur, e0, hB, hg, hcap, hcm, hcs, hu1, hu2⟩
  · have hl0 : l = [] := by simpa using hn
    subst hl0
    refine (xString_nil Tryd.lays169 Tryd.Builder_Extra_169 ty.1 b _ W (hbk _ e0)).mono ?_
    rintro e W' ⟨rfl, rfl⟩
    exact fin _ _ U rfl (hI2.ext (Ext.refl W U).drew)
  · simp only [List.length_map, Nat.mul_one] at e0 hcap hcs hu1 hu2
    by_cases hl0 : l = []
    · subst hl0
      by_cases hc0 : cap = 0
      · subst hc0
        refine (xString_noroom Tryd.lays169 Tryd.Builder_Extra_169 ty.1 b g _ cur W (hbk _ e0) hg).mono ?_
        rintro e W' ⟨rfl, rfl⟩
        exact fin _ _ _ rfl (hI2.ext ((Ext.refl W U).drew.trans (Ext.alloc W.drew U _ (fun _ => False))))
      · refine (xString_room Tryd.lays169 Tryd.Builder_Extra_169 ty.1 b g cap _ W hc0 (hbk _ e0)).mono ?_
        rintro e W' ⟨rfl, rfl⟩
        exact fin _ _ U rfl (hI2.ext (Ext.refl W U).drew)
    · have hcell : ∀ j x, l[j]? = some x → W.cell? ((⟨g, 0, none⟩ : Addr).add j) = some (.int .u8 x.toNat) := by
        intro j x hx
        have hj : j < l.length := (List.getElem?_eq_some_iff.1 hx).1
        rw [e0] at hvr
        generalize hval : Value.slice (some ⟨g, 0, none⟩) l.length cap = val at hvr
        cases hvr with
        | sl A cap' _ _ b' o' _ f h1 h2 hA h3 hc hvv =>
          simp only [Value.slice.injEq] at hval
          obtain ⟨hA', _, _⟩ := hval
          have := hA (by simp; omega)
          rw [← hA'] at this
          simp only [Option.some.injEq, Addr.mk.injEq] at this
          obtain ⟨rfl, rfl, _⟩ := this
          have hc1 := (hc j 0 (by simpa using hj) (by omega)).1
          have hv1 := hvv j (byteEl x) 0 (.int .u8 x.toNat) (by simp [hx]) rfl
          rw [add_mk]
          have e2 : 0 + j * 1 + 0 = 0 + j := by omega
          rw [e2] at hc1
          rw [hc1]
          generalize f j 0 = y at hv1
          cases hv1
          rfl
      refine (xString_row Tryd.lays169 Tryd.Builder_Extra_169 ty.1 b g cap _ cur l W hl0 (hbk _ e0) hg (by omega) hcap hcm hcell).mono ?_
      rintro e W' ⟨rfl, rfl⟩
      refine fin _ _ U rfl ?_
      have hno : St.o ⟨fun _ => none, lk [(b, [p, AV.sl none 1 (l.map byteEl)])]⟩ g = none := by
        have := hI.no _ _ _ _ hat g (by rw [hcat, e0]; rfl)
        simp only [lk] at this ⊢
        split at this
        · cases this
        · rename_i hne; simp [hne]
      have hgb : W.drew.heap[g]? = some (.cells cur 5 (0, 0)) := hg
      have hfz : ∀ k, k ≠ g → (W.drew.freeze ⟨g, 0, none⟩ l.length).heap[k]? = W.heap[k]? := by
        intro k hk
        unfold World.freeze
        split
        · rfl
        · simp only [Array.getElem?_modify]
          rw [if_neg (Ne.symm hk)]; rfl
      refine hI2.turn (g := g) hB hno (fun ℓ e sz els hl' => ?_) ?_ ?_ ?_ ?_ ?_ (fun k _ hk => hfz k hk) (fun _ _ _ _ => Iff.rfl)
      · cases ℓ with
        | t i => cases hl'
        | o b' j =>
          simp only [St.at, lk] at hl'
          split at hl'
          · rename_i hbb
            subst hbb
            match j, hl' with
            | 0, hl' =>
              have hp0 : St.at ⟨fun _ => none, lk [(b', [p, AV.sl (some 5) 1 (l.map byteEl)])]⟩ (.o b' 0) = some (.sl (some e) sz els) := by simpa [St.at, lk] using hl'
              exact fun hh => hI.ap (.o b' 0) (.o b' 1) _ _ _ _ _ _ (by simp) hp0 hat g hh (by rw [hcat, e0]; rfl)
            | 1, hl' => simp at hl'
            | j + 2, hl' => simp at hl'
          · simp at hl'
      · refine ⟨fun b' o' x hx hu => ?_, fun b' hb' => ?_⟩
        · refine ⟨?_, hu⟩
          rw [← hx]
          by_cases hk : b' = g
          · subst hk
            unfold World.freeze
            split
            · rfl
            · simp only [World.cell?, Array.getElem?_modify, if_true, hgb, hg, Option.map_some]
          · exact World.cell?_of_block (w := W) (a := ⟨b', o', none⟩) (hfz b' hk)
        · obtain ⟨c', t', p', hb'⟩ := hb'
          by_cases hk : b' = g
          · subst hk
            unfold World.freeze
            split
            · exact ⟨_, _, _, hgb⟩
            · simp only [CellsAt, Array.getElem?_modify, if_true, hgb, Option.map_some]
              exact ⟨_, _, _, rfl⟩
          · exact ⟨_, _, _, (hfz b' hk).trans hb'⟩
      · unfold World.freeze; split <;> rfl
      · unfold World.freeze; split <;> rfl
      · unfold World.freeze; split <;> rfl
      · unfold World.freeze
        split
        · exact Nat.le_refl _
        · simp only [Array.size_modify]; exact Nat.le_refl _
end Go.Proofs.YtlefegihikpilaaDoor

/- library functions that chapter 3 calls -/
namespace Go.Proofs.YtlefegihikpilaaDoor
set_option linter.all false
open Go.RowKit
set_option maxRecDepth 100000
theorem sz_str (l : List UInt8) : (⟨l.toArray⟩ : ByteArray).size = l.length := by simp [ByteArray.size]
theorem below_grow {W : World} {n : Nat} {os : Array Obj} : Below W.heap.size W (Sort.grow (W.drewN n) os) :=
  ⟨rfl, rfl, rfl, by simp [Sort.grow, World.drewN], fun k hk => by simp [Sort.grow, World.drewN, Array.getElem?_append, hk]⟩
theorem maxLen_cell {W : World} {U : Nat → Nat → Prop} (h : Glob W U) : ∃ m, W.cell? ⟨1, 0, none⟩ = some (.int .i64 m) := by
  obtain ⟨⟨cs, ty, fr, e, m, hm⟩, _⟩ := h (1, fun cs => ∃ m, cs[0]? = some (.int .i64 m)) (by simp [globTabs])
  exact ⟨m, by simp [World.cell?, e, hm]⟩
theorem pow_tab {W : World} {U : Nat → Nat → Prop} (h : Glob W U) : Lib.TabIs Tryd.prog W "internal/strconv.uint64pow10" .u64 Lib.pow10Tab := by
  obtain ⟨⟨cs, ty, fr, e, rfl⟩, _⟩ := h (0, fun cs => cs = (Lib.pow10Tab.map fun z => Value.int .u64 z).toArray) (by simp [globTabs])
  have hg : Tryd.prog.globalNamed "internal/strconv.uint64pow10" = some 0 := by kernel_rfl
  simp only [Lib.TabIs, World.var?, hg, Option.bind_some, e]
theorem p_Itoa (n : Int) (h : -9223372036854775808 ≤ n ∧ n ≤ 9223372036854775807) : CP Tryd.prog 16 [.int .i64 n] (.str (Lib.itoa n)) :=
  CP_libG (vs := [.int .i64 n]) (v := .string ⟨(Lib.itoa n).toArray⟩) rfl (by simp) rfl fun W U hG =>
    (Tryd.strconv_Itoa n h.1 h.2 W (pow_tab hG)).mono fun e w' ⟨h1, k, os, h2⟩ => ⟨h1, h2 ▸ below_grow⟩
theorem p_CutPrefix (s p : List UInt8) : CP Tryd.prog 109 [.str s, .str p] (.tup [.str (Lib.trimPrefix s p), .bool (Lib.hasPrefix s p)]) :=
  CP_lib (vs := [.string ⟨s.toArray⟩, .string ⟨p.toArray⟩]) (v := .tuple #[.string ⟨(Lib.trimPrefix s p).toArray⟩, .bool (Lib.hasPrefix s p)]) rfl (by simp) rfl fun W =>
    (Tryd.strings_CutPrefix ⟨s.toArray⟩ ⟨p.toArray⟩ W).mono fun e w' ⟨h1, h2⟩ => ⟨h1, h2 ▸ Below.refl _ _⟩
theorem p_Cut (s p : List UInt8) (hs : s.length ≤ 1000000) : CP Tryd.prog 60 [.str s, .str p] (.tup [.str (Lib.cut s p).1, .str (Lib.cut s p).2.1, .bool (Lib.cut s p).2.2]) :=
  CP_libG (vs := [.string ⟨s.toArray⟩, .string ⟨p.toArray⟩]) (v := .tuple #[.string ⟨(Lib.cut s p).1.toArray⟩, .string ⟨(Lib.cut s p).2.1.toArray⟩, .bool (Lib.cut s p).2.2]) rfl (by simp) rfl fun W U hG => by
    obtain ⟨m, hm⟩ := maxLen_cell hG
    exact (Tryd.strings_Cut ⟨s.toArray⟩ ⟨p.toArray⟩ m W (by rw [sz_str]; omega) hm).mono fun e w' ⟨h1, n, h2⟩ => ⟨h1, h2 ▸ below_drewN (Below.refl _ _) n⟩
abbrev digs : List UInt8 := [48, 49, 50, 51, 52, 53, 54, 55, 56, 57]
theorem p_TrimD (s : List UInt8) (hs : s.length ≤ 16000000) : CP Tryd.prog 47 [.str s, .str digs] (.str (Lib.trimS s digs)) :=
  CP_lib (vs := [.string ⟨s.toArray⟩, .string ⟨digs.toArray⟩]) (v := .string ⟨(Lib.trimS s digs).toArray⟩) rfl (by simp) rfl fun W =>
    (Any.strings_Trim_laid Tryd.lays160 (by kernel_rfl) ⟨s.toArray⟩ ⟨digs.toArray⟩ W (by rw [sz_str]; omega) (by decide) (ascii_of_all (by decide))).mono fun e w' ⟨g1, g2⟩ => ⟨g1, g2⟩
theorem p_sliteClone (s : List UInt8) (hs : s.length ≤ 281474976710656) : CP Tryd.prog 98 [.str s] (.str s) :=
  CP_lib (vs := [.string ⟨s.toArray⟩]) (v := .string ⟨s.toArray⟩) rfl (by simp) rfl fun W => Tryd.stringslite_Clone _ W (by rw [sz_str]; exact hs)
theorem p_Clone (s : List UInt8) (hs : s.length ≤ 281474976710656) : CP Tryd.prog 81 [.str s] (.str s) := by
  refine ok_strings_Clone _ _ (by simp) ?_
  simp only [c_strings_Clone, ↓Ed, Eu, ↓reduceIte, reduceCtorEq, Nat.reduceAdd, Nat.reduceEqDiff, Nat.reduceLT, Nat.reduceLeDiff, Int.reduceToNat, Int.reduceEq, Int.reduceLT, Int.reduceLE]
  repeat' ((first | refine CallO_pure (p_sliteClone _ (by omega)) ?_ | refine NewB_intro0 (fun b => ?_) | (refine NewB_intro (fun b hb => ?_); simp only [ln_cons2, ln_nil, and_true] at hb) | (with_reducible apply And.intro; (focus (first | omega | (simp only [Fact, Bool.not_eq_true', Bool.not_eq_false', decide_eq_true_eq, decide_eq_false_iff_not] at *; omega)))) | ((first | refine gW_sp ?_ | refine condW_sp ?_ | refine pickW_sp ?_); (try refine Sp_n ?_); (first | refine Sp_t (by assumption) ?_ | refine Sp_f (by assumption) ?_ | refine Sp_split (fun h => ?_) (fun h => ?_)) <;> (first | have h' := Fact_lt h | have h' := Fact_nlt h | have h' := Fact_le h | have h' := Fact_nle h | skip) <;> (try (exfalso; omega))) | refine TreeW_intro (by rfl) ?_ | refine TreeW_all ?_ | refine upQ_intro ?_ | refine Two_intro ?_ ?_ | (refine leK_lit ?_; (simp [-List.getD_eq_getElem?_getD, LeL, lk, *]; done)) | (refine leK_dd ?_; (simp [-List.getD_eq_getElem?_getD, LeS, LeL, lk, *]; done)) | (simp only [Fact, Bool.not_eq_true', Bool.not_eq_false', decide_eq_true_eq, decide_eq_false_iff_not] at *; refine leK_dd ?_; (simp [-List.getD_eq_getElem?_getD, LeS, LeL, lk, *]; done)) | (show (_ : Nat) ≤ _; omega)) <;> (try simp (disch := omega) only [*, ↓Ed, Eu, ↓reduceIte, reduceCtorEq, Nat.reduceAdd, Nat.reduceEqDiff, Nat.reduceLT, Nat.reduceLeDiff, Int.reduceToNat, Int.reduceEq, Int.reduceLT, Int.reduceLE]))
/-- The pieces between slashes. -/
def pieces (s : List UInt8) : List (List UInt8) := Lib.splitK [47] 0 (Lib.countB ⟨s.toArray⟩ ⟨#[47]⟩) s
theorem p_Split (s : List UInt8) (hs : s.length ≤ 1000000) : CP Tryd.prog 33 [.str s, .str [47]] (.sl none 1 ((pieces s).map fun p => [AV.str p])) := by
  intro W U us hG hl hu
  obtain ⟨m, hm⟩ := maxLen_cell hG
  have he : us = [.string ⟨s.toArray⟩, .string ⟨#[47]⟩] := by
    match us, hl with
    | [a, b], _ =>
      have h1 := (hu 0 a _ rfl rfl).str_inv
      have h2 := (hu 1 b _ rfl rfl).str_inv
      rw [h1, h2]
  subst he
  refine (Tryd.strings_Split ⟨s.toArray⟩ ⟨#[47]⟩ m W (by rw [sz_str]; omega) hm (by decide)).mono ?_
  rintro e W' ⟨rfl, rfl⟩
  have hd := Lib.splitB_data ⟨#[47]⟩ 0 (Lib.countB ⟨s.toArray⟩ ⟨#[47]⟩) ⟨s.toArray⟩
  have hn := Lib.splitB_all ⟨#[47]⟩ (by decide) 0 (Lib.countB ⟨s.toArray⟩ ⟨#[47]⟩) ⟨s.toArray⟩ rfl
  have hle := Lib.countB_le ⟨#[47]⟩ (by decide) s.length ⟨s.toArray⟩ (by rw [sz_str]; exact Nat.le_refl _)
  rw [sz_str] at hle
  have hp : pieces s = (Lib.splitB ⟨#[47]⟩ 0 (Lib.countB ⟨s.toArray⟩ ⟨#[47]⟩) ⟨s.toArray⟩).map (·.data.toList) := hd.symm
  generalize hB : Lib.splitB ⟨#[47]⟩ 0 (Lib.countB ⟨s.toArray⟩ ⟨#[47]⟩) ⟨s.toArray⟩ = B at hn hp
  generalize hc : Lib.countB ⟨s.toArray⟩ ⟨#[47]⟩ = c at hn hle
  have hE := Ext.alloc W U (.cells (B.map Value.string).toArray 9) (fun _ => False)
  refine ⟨_, _, rfl, ?_, trivial, hE⟩
  rw [hp]
  have hlen : c + 1 = ((B.map (·.data.toList)).map fun p => [AV.str p]).length := by simp [hn]
  rw [hlen]
  refine .sl _ _ none _ W.heap.size 0 1 (fun i _ => (B.map Value.string).getD i undef) (Nat.le_refl _) ?_ (fun _ => rfl) (fun e he => ?_) (fun i j hi hj => ?_) (fun i e j x he hx => ?_)
  · rw [← hlen]; unfold maxLen; omega
  · simp only [List.map_map, List.mem_map, Function.comp] at he
    obtain ⟨a, _, rfl⟩ := he
    rfl
  · have hi' : i < B.length := by simpa using hi
    obtain rfl : j = 0 := by omega
    refine ⟨?_, ?_, by simp⟩
    · have e : (W.alloc (.cells (B.map Value.string).toArray 9)).heap[W.heap.size]? = some (.cells (B.map Value.string).toArray 9) := by simp only [World.alloc, Array.getElem?_push_size]
      have e2 : 0 + i * 1 + 0 = i := by omega
      rw [e2]
      simp only [World.cell?, e]
      simp [hi']
    · simp [hi', Value.oneCell']
  · simp only [List.map_map, List.getElem?_map, Option.map_eq_some_iff, Function.comp] at he
    obtain ⟨a, ha, rfl⟩ := he
    cases j with
    | zero =>
      simp only [List.getElem?_cons_zero, Option.some.injEq] at hx
      subst hx
      have : (B.map Value.string).getD i undef = .string a := by simp [ha]
      show VR _ _ ((B.map Value.string).getD i undef) _
      rw [this]
      exact .str _
    | succ j => simp at hx
end Go.Proofs.YtlefegihikpilaaDoor

/- plain laws: names -/
namespace Go.Proofs.YtlefegihikpilaaDoor
set_option linter.all false
def okAt (s : List UInt8) (j : Nat) : Prop := (97 ≤ (s.getD j 0).toNat ∧ (s.getD j 0).toNat ≤ 122) ∨ j ≠ 0 ∧ ((48 ≤ (s.getD j 0).toNat ∧ (s.getD j 0).toNat ≤ 57) ∨ (s.getD j 0).toNat = 45)
def nameQ (s : List UInt8) : Prop := s ≠ [] ∧ s.length ≤ 12 ∧ ∀ j, j < s.length → okAt s j
open Classical in
noncomputable def nameP (s : List UInt8) : Bool := decide (nameQ s)
theorem nameP_t {s : List UInt8} (h : nameQ s) : nameP s = true := by simp [nameP, h]
theorem nameP_f {s : List UInt8} (h : ¬ nameQ s) : nameP s = false := by simp [nameP, h]
theorem nameP_iff {s : List UInt8} : nameP s = true ↔ nameQ s := by simp [nameP]
theorem name_bad {s : List UInt8} {k : Nat} (hk : k < s.length) (h : ¬ okAt s k) : false = nameP s := (nameP_f fun g => h (g.2.2 k hk)).symm
theorem name_end {s : List UInt8} {k : Nat} (hk : s.length ≤ k) (h : ∀ j, j < k → okAt s j) : nameQ s ↔ s ≠ [] ∧ s.length ≤ 12 := ⟨fun g => ⟨g.1, g.2.1⟩, fun g => ⟨g.1, g.2, fun j hj => h j (by omega)⟩⟩
theorem name_dec {s : List UInt8} {k : Nat} (hk : s.length ≤ k) (h : ∀ j, j < k → okAt s j) : nameP s = decide (s.length ≠ 0 ∧ s.length ≤ 12) := by
  unfold nameP
  rw [decide_eq_decide, name_end hk h, ne_eq, ← List.length_eq_zero_iff]
/-- An end: a name and a number. -/
noncomputable def mayP (p : List UInt8) (c : Int) : Bool := nameP p && decide (0 ≤ c) && decide (c ≤ 999)
theorem name_step {s : List UInt8} {k : Nat} (h : ∀ j, j < k → okAt s j) (g : okAt s k) : ∀ j, j < k + 1 → okAt s j := fun j hj => by
  by_cases e : j = k
  · subst e; exact g
  · exact h j (by omega)
end Go.Proofs.YtlefegihikpilaaDoor

/- chapter 3: names, ends -/
namespace Go.Proofs.YtlefegihikpilaaDoor
set_option linter.all false
set_option maxRecDepth 100000
theorem st_nil (s : List UInt8) : (s = ([] : List UInt8)) = (s.length = 0) := by simp [List.length_eq_zero_iff]
set_option maxHeartbeats 4000000 in
theorem p_Name (s : List UInt8) (hs : s.length ≤ 4611686018427387904) : CP Tryd.prog 36 [.str s] (.bool (nameP s)) := by
  refine ok_path_Name _ _ (by simp) ?_
  simp only [c_path_Name, ↓Ed, Eu, ↓reduceIte, reduceCtorEq, Nat.reduceAdd, Nat.reduceEqDiff, Nat.reduceLT, Nat.reduceLeDiff, Int.reduceToNat, Int.reduceEq, Int.reduceLT, Int.reduceLE, w64, st_nil]
  repeat' ((first | refine NewB_intro0 (fun b => ?_) | (refine NewB_intro (fun b hb => ?_); simp only [ln_cons2, ln_nil, and_true] at hb) | (with_reducible apply And.intro; (focus (first | omega | (simp only [Fact, Bool.not_eq_true', Bool.not_eq_false', decide_eq_true_eq, decide_eq_false_iff_not] at *; omega)))) | ((first | refine gW_sp ?_ | refine condW_sp ?_ | refine pickW_sp ?_); (try refine Sp_n ?_); (first | refine Sp_t (by assumption) ?_ | refine Sp_f (by assumption) ?_ | refine Sp_split (fun h => ?_) (fun h => ?_)) <;> (first | have h' := Fact_lt h | have h' := Fact_nlt h | have h' := Fact_le h | have h' := Fact_nle h | skip) <;> (try (exfalso; omega))) | refine TreeW_intro (by rfl) ?_ | refine TreeW_all ?_ | refine upQ_intro ?_ | refine Two_intro ?_ ?_ | (refine leK_lit ?_; (simp [-List.getD_eq_getElem?_getD, LeL, lk, *]; done)) | (refine leK_dd ?_; (simp [-List.getD_eq_getElem?_getD, LeS, LeL, lk, *]; done)) | (simp only [Fact, Bool.not_eq_true', Bool.not_eq_false', decide_eq_true_eq, decide_eq_false_iff_not] at *; refine leK_dd ?_; (simp [-List.getD_eq_getElem?_getD, LeS, LeL, lk, *]; done)) | (show (_ : Nat) ≤ _; omega)) <;> (try simp (disch := omega) only [*, ↓Ed, Eu, ↓reduceIte, reduceCtorEq, Nat.reduceAdd, Nat.reduceEqDiff, Nat.reduceLT, Nat.reduceLeDiff, Int.reduceToNat, Int.reduceEq, Int.reduceLT, Int.reduceLE, w64, st_nil]))
  refine wpx_loop (fun k : Nat => ⟨lk [(0, .str s), (7, .int .i64 s.length), (8, .int .i64 k)], lk []⟩) (fun k => k ≤ s.length ∧ Fact (∀ j, j < k → okAt s j)) (fun k => s.length - k) 0 ⟨by omega, fun j h => by omega⟩ (Le_lit (by simp [LeL, lk])) ?_
  intro k ⟨h1, h2⟩
  simp only [↓Ed, Eu, ↓reduceIte, reduceCtorEq, Nat.reduceAdd, Nat.reduceEqDiff, Nat.reduceLT, Nat.reduceLeDiff, Int.reduceToNat, Int.reduceEq, Int.reduceLT, Int.reduceLE, w64, st_nil]
  repeat' ((first | refine NewB_intro0 (fun b => ?_) | (refine NewB_intro (fun b hb => ?_); simp only [ln_cons2, ln_nil, and_true] at hb) | (with_reducible apply And.intro; (focus (first | omega | (simp only [Fact, Bool.not_eq_true', Bool.not_eq_false', decide_eq_true_eq, decide_eq_false_iff_not] at *; omega)))) | ((first | refine gW_sp ?_ | refine condW_sp ?_ | refine pickW_sp ?_); (try refine Sp_n ?_); (first | refine Sp_t (by assumption) ?_ | refine Sp_f (by assumption) ?_ | refine Sp_split (fun h => ?_) (fun h => ?_)) <;> (first | have h' := Fact_lt h | have h' := Fact_nlt h | have h' := Fact_le h | have h' := Fact_nle h | skip) <;> (try (exfalso; omega))) | refine TreeW_intro (by rfl) ?_ | refine TreeW_all ?_ | refine upQ_intro ?_ | refine Two_intro ?_ ?_ | (refine leK_lit ?_; (simp [-List.getD_eq_getElem?_getD, LeL, lk, *]; done)) | (refine leK_dd ?_; (simp [-List.getD_eq_getElem?_getD, LeS, LeL, lk, *]; done)) | (simp only [Fact, Bool.not_eq_true', Bool.not_eq_false', decide_eq_true_eq, decide_eq_false_iff_not] at *; refine leK_dd ?_; (simp [-List.getD_eq_getElem?_getD, LeS, LeL, lk, *]; done)) | (show (_ : Nat) ≤ _; omega)) <;> (try simp (disch := omega) only [*, ↓Ed, Eu, ↓reduceIte, reduceCtorEq, Nat.reduceAdd, Nat.reduceEqDiff, Nat.reduceLT, Nat.reduceLeDiff, Int.reduceToNat, Int.reduceEq, Int.reduceLT, Int.reduceLE, w64, st_nil]))
  all_goals simp only [Fact, Bool.not_eq_true', Bool.not_eq_false', decide_eq_true_eq, decide_eq_false_iff_not, st_nil] at *
  all_goals first
    | (refine Round_lit (k + 1) ⟨Le_lit (by simp [LeL, lk]), ⟨by omega, name_step h2 (by unfold okAt; omega)⟩, by omega⟩; done)
    | (refine name_bad (k := k) (by omega) (by unfold okAt; omega); done)
    | (exact (nameP_f fun g => g.1 (List.eq_nil_of_length_eq_zero (by omega))).symm)
    | (rw [name_dec (by omega) h2, decide_eq_decide]; omega)
    | skip
theorem p_pMay (p : List UInt8) (c : Int) (hs : p.length ≤ 4611686018427387904) : CP Tryd.prog 39 [.agg [.str p, .int .i64 c]] (.bool (mayP p c)) := by
  refine ok_path_May _ _ (by simp) ?_
  simp only [c_path_May, ↓Ed, Eu, ↓reduceIte, reduceCtorEq, Nat.reduceAdd, Nat.reduceEqDiff, Nat.reduceLT, Nat.reduceLeDiff, Int.reduceToNat, Int.reduceEq, Int.reduceLT, Int.reduceLE, w64, st_nil]
  repeat' ((first | refine CallO_pure (p_Name p hs) ?_ | refine NewB_intro0 (fun b => ?_) | (refine NewB_intro (fun b hb => ?_); simp only [ln_cons2, ln_nil, and_true] at hb) | (with_reducible apply And.intro; (focus (first | omega | (simp only [Fact, Bool.not_eq_true', Bool.not_eq_false', decide_eq_true_eq, decide_eq_false_iff_not] at *; omega)))) | ((first | refine gW_sp ?_ | refine condW_sp ?_ | refine pickW_sp ?_); (try refine Sp_n ?_); (first | refine Sp_t (by assumption) ?_ | refine Sp_f (by assumption) ?_ | refine Sp_split (fun h => ?_) (fun h => ?_)) <;> (first | have h' := Fact_lt h | have h' := Fact_nlt h | have h' := Fact_le h | have h' := Fact_nle h | skip) <;> (try (exfalso; omega))) | refine TreeW_intro (by rfl) ?_ | refine TreeW_all ?_ | refine upQ_intro ?_ | refine Two_intro ?_ ?_ | (refine leK_lit ?_; (simp [-List.getD_eq_getElem?_getD, LeL, lk, *]; done)) | (refine leK_dd ?_; (simp [-List.getD_eq_getElem?_getD, LeS, LeL, lk, *]; done)) | (simp only [Fact, Bool.not_eq_true', Bool.not_eq_false', decide_eq_true_eq, decide_eq_false_iff_not] at *; refine leK_dd ?_; (simp [-List.getD_eq_getElem?_getD, LeS, LeL, lk, *]; done)) | (show (_ : Nat) ≤ _; omega)) <;> (try simp (disch := omega) only [*, ↓Ed, Eu, ↓reduceIte, reduceCtorEq, Nat.reduceAdd, Nat.reduceEqDiff, Nat.reduceLT, Nat.reduceLeDiff, Int.reduceToNat, Int.reduceEq, Int.reduceLT, Int.reduceLE, w64, st_nil]))
  all_goals (try simp only [Fact, Bool.not_eq_true', Bool.not_eq_false', decide_eq_true_eq, decide_eq_false_iff_not] at *)
  all_goals simp [mayP, *]
theorem p_rName (s : List UInt8) (hs : s.length ≤ 4611686018427387904) : CP Tryd.prog 43 [.str s] (.bool (nameP s)) := by
  refine ok_ligref1_Name _ _ (by simp) ?_
  simp only [c_ligref1_Name, ↓Ed, Eu, ↓reduceIte, reduceCtorEq, Nat.reduceAdd, Nat.reduceEqDiff, Nat.reduceLT, Nat.reduceLeDiff, Int.reduceToNat, Int.reduceEq, Int.reduceLT, Int.reduceLE, w64, st_nil]
  repeat' ((first | refine NewB_intro0 (fun b => ?_) | (refine NewB_intro (fun b hb => ?_); simp only [ln_cons2, ln_nil, and_true] at hb) | (with_reducible apply And.intro; (focus (first | omega | (simp only [Fact, Bool.not_eq_true', Bool.not_eq_false', decide_eq_true_eq, decide_eq_false_iff_not] at *; omega)))) | ((first | refine gW_sp ?_ | refine condW_sp ?_ | refine pickW_sp ?_); (try refine Sp_n ?_); (first | refine Sp_t (by assumption) ?_ | refine Sp_f (by assumption) ?_ | refine Sp_split (fun h => ?_) (fun h => ?_)) <;> (first | have h' := Fact_lt h | have h' := Fact_nlt h | have h' := Fact_le h | have h' := Fact_nle h | skip) <;> (try (exfalso; omega))) | refine TreeW_intro (by rfl) ?_ | refine TreeW_all ?_ | refine upQ_intro ?_ | refine Two_intro ?_ ?_ | (refine leK_lit ?_; (simp [-List.getD_eq_getElem?_getD, LeL, lk, *]; done)) | (refine leK_dd ?_; (simp [-List.getD_eq_getElem?_getD, LeS, LeL, lk, *]; done)) | (simp only [Fact, Bool.not_eq_true', Bool.not_eq_false', decide_eq_true_eq, decide_eq_false_iff_not] at *; refine leK_dd ?_; (simp [-List.getD_eq_getElem?_getD, LeS, LeL, lk, *]; done)) | (show (_ : Nat) ≤ _; omega)) <;> (try simp (disch := omega) only [*, ↓Ed, Eu, ↓reduceIte, reduceCtorEq, Nat.reduceAdd, Nat.reduceEqDiff, Nat.reduceLT, Nat.reduceLeDiff, Int.reduceToNat, Int.reduceEq, Int.reduceLT, Int.reduceLE, w64, st_nil]))
  case' refine_2.refine_2.right.refine_2.right.refine_2 =>
    refine wpx_loop (fun k : Nat => ⟨lk [(0, .str s), (3, .int .i64 k)], lk []⟩) (fun k => k ≤ s.length ∧ Fact (∀ j, j < k → okAt s j)) (fun k => s.length - k) 0 ⟨by omega, fun j h => by omega⟩ (Le_lit (by simp [LeL, lk])) ?_
    intro k ⟨h1, h2⟩
    have h97 : k = 0 → 97 ≤ (s.getD k 0).toNat ∧ (s.getD k 0).toNat ≤ 122 := fun e => by subst e; simp only [Fact, Bool.not_eq_true', Bool.not_eq_false', decide_eq_true_eq, decide_eq_false_iff_not] at *; exact ⟨by omega, by omega⟩
    simp only [↓Ed, Eu, ↓reduceIte, reduceCtorEq, Nat.reduceAdd, Nat.reduceEqDiff, Nat.reduceLT, Nat.reduceLeDiff, Int.reduceToNat, Int.reduceEq, Int.reduceLT, Int.reduceLE, w64, st_nil]
    repeat' ((first | refine NewB_intro0 (fun b => ?_) | (refine NewB_intro (fun b hb => ?_); simp only [ln_cons2, ln_nil, and_true] at hb) | (with_reducible apply And.intro; (focus (first | omega | (simp only [Fact, Bool.not_eq_true', Bool.not_eq_false', decide_eq_true_eq, decide_eq_false_iff_not] at *; omega)))) | ((first | refine gW_sp ?_ | refine condW_sp ?_ | refine pickW_sp ?_); (try refine Sp_n ?_); (first | refine Sp_t (by assumption) ?_ | refine Sp_f (by assumption) ?_ | refine Sp_split (fun h => ?_) (fun h => ?_)) <;> (first | have h' := Fact_lt h | have h' := Fact_nlt h | have h' := Fact_le h | have h' := Fact_nle h | skip) <;> (try (exfalso; omega))) | refine TreeW_intro (by rfl) ?_ | refine TreeW_all ?_ | refine upQ_intro ?_ | refine Two_intro ?_ ?_ | (refine leK_lit ?_; (simp [-List.getD_eq_getElem?_getD, LeL, lk, *]; done)) | (refine leK_dd ?_; (simp [-List.getD_eq_getElem?_getD, LeS, LeL, lk, *]; done)) | (simp only [Fact, Bool.not_eq_true', Bool.not_eq_false', decide_eq_true_eq, decide_eq_false_iff_not] at *; refine leK_dd ?_; (simp [-List.getD_eq_getElem?_getD, LeS, LeL, lk, *]; done)) | (show (_ : Nat) ≤ _; omega)) <;> (try simp (disch := omega) only [*, ↓Ed, Eu, ↓reduceIte, reduceCtorEq, Nat.reduceAdd, Nat.reduceEqDiff, Nat.reduceLT, Nat.reduceLeDiff, Int.reduceToNat, Int.reduceEq, Int.reduceLT, Int.reduceLE, w64, st_nil]))
  all_goals simp only [Fact, Bool.not_eq_true', Bool.not_eq_false', decide_eq_true_eq, decide_eq_false_iff_not] at *
  all_goals first
    | (refine Round_lit (k + 1) ⟨Le_lit (by simp [LeL, lk]), ⟨by omega, name_step h2 (by unfold okAt; omega)⟩, by omega⟩; done)
    | (refine name_bad (k := k) (by omega) (by unfold okAt; omega); done)
    | (rw [name_dec (k := k) (by omega) h2]; exact (decide_eq_true ⟨by omega, by omega⟩).symm)
    | (exact (nameP_f fun g => by have := g.2.1; have := g.2.2 0 (by omega); unfold okAt at this; omega).symm)
    | (refine (nameP_f fun g => ?_).symm; have h0 := List.length_pos_iff.2 g.1; omega)
    | skip
theorem p_MayEnd (p : List UInt8) (c : Int) (hs : p.length ≤ 4611686018427387904) : CP Tryd.prog 45 [.agg [.str p, .int .i64 c]] (.bool (mayP p c)) := by
  refine ok_ligref1_MayEnd _ _ (by simp) ?_
  simp only [c_ligref1_MayEnd, ↓Ed, Eu, ↓reduceIte, reduceCtorEq, Nat.reduceAdd, Nat.reduceEqDiff, Nat.reduceLT, Nat.reduceLeDiff, Int.reduceToNat, Int.reduceEq, Int.reduceLT, Int.reduceLE, w64, st_nil]
  repeat' ((first | refine CallO_pure (p_rName p hs) ?_ | refine NewB_intro0 (fun b => ?_) | (refine NewB_intro (fun b hb => ?_); simp only [ln_cons2, ln_nil, and_true] at hb) | (with_reducible apply And.intro; (focus (first | omega | (simp only [Fact, Bool.not_eq_true', Bool.not_eq_false', decide_eq_true_eq, decide_eq_false_iff_not] at *; omega)))) | ((first | refine gW_sp ?_ | refine condW_sp ?_ | refine pickW_sp ?_); (try refine Sp_n ?_); (first | refine Sp_t (by assumption) ?_ | refine Sp_f (by assumption) ?_ | refine Sp_split (fun h => ?_) (fun h => ?_)) <;> (first | have h' := Fact_lt h | have h' := Fact_nlt h | have h' := Fact_le h | have h' := Fact_nle h | skip) <;> (try (exfalso; omega))) | refine TreeW_intro (by rfl) ?_ | refine TreeW_all ?_ | refine upQ_intro ?_ | refine Two_intro ?_ ?_ | (refine leK_lit ?_; (simp [-List.getD_eq_getElem?_getD, LeL, lk, *]; done)) | (refine leK_dd ?_; (simp [-List.getD_eq_getElem?_getD, LeS, LeL, lk, *]; done)) | (simp only [Fact, Bool.not_eq_true', Bool.not_eq_false', decide_eq_true_eq, decide_eq_false_iff_not] at *; refine leK_dd ?_; (simp [-List.getD_eq_getElem?_getD, LeS, LeL, lk, *]; done)) | (show (_ : Nat) ≤ _; omega)) <;> (try simp (disch := omega) only [*, ↓Ed, Eu, ↓reduceIte, reduceCtorEq, Nat.reduceAdd, Nat.reduceEqDiff, Nat.reduceLT, Nat.reduceLeDiff, Int.reduceToNat, Int.reduceEq, Int.reduceLT, Int.reduceLE, w64, st_nil]))
  all_goals (try simp only [Fact, Bool.not_eq_true', Bool.not_eq_false', decide_eq_true_eq, decide_eq_false_iff_not] at *)
  all_goals simp [mayP, *]
end Go.Proofs.YtlefegihikpilaaDoor

/- plain laws: decimal numbers; names of what is kept -/
namespace Go.Proofs.YtlefegihikpilaaDoor
set_option linter.all false
open Go
theorem getD_app (a b : List UInt8) (i : Nat) (d : UInt8) (h : i < a.length) : (a ++ b).getD i d = a.getD i d := by simp [List.getD, List.getElem?_append_left h]
def isDig (c : UInt8) : Prop := 48 ≤ c.toNat ∧ c.toNat ≤ 57
instance (c : UInt8) : Decidable (isDig c) := by unfold isDig; exact inferInstance
def valD (s : List UInt8) : Nat := s.foldl (fun v c => 10 * v + (c.toNat - 48)) 0
def numQ (s : List UInt8) : Prop := (∀ c ∈ s, isDig c) ∧ ¬ (1 < s.length ∧ s.getD 0 0 = 48)
instance (s : List UInt8) : Decidable (numQ s) := by unfold numQ; exact inferInstance
/-- a text as a number, and the error -/
def numP (s : List UInt8) : Int × Int :=
  if s = [] then (0, 2) else if ¬ numQ s then (0, 3) else if 17 < s.length then (0, 4) else if 72057594037927935 < valD s then (0, 4) else ((valD s : Int), 0)
abbrev dig (n : Nat) : List UInt8 := Lib.decDigits n
theorem dig_lo {n : Nat} (h : n < 10) : dig n = [UInt8.ofNat (48 + n)] := by rw [dig, Lib.decDigits, dif_pos h]
theorem dig_hi {n : Nat} (h : ¬ n < 10) : dig n = dig (n / 10) ++ [UInt8.ofNat (48 + n % 10)] := by rw [dig, Lib.decDigits, dif_neg h]
theorem u8n {n : Nat} (h : n < 256) : (UInt8.ofNat n).toNat = n := by rw [UInt8.toNat_ofNat']; omega
theorem dig_all : ∀ (n : Nat), ∀ c ∈ dig n, isDig c := by
  intro n
  induction n using Nat.strongRecOn with
  | _ n ih =>
    intro c hc
    by_cases h : n < 10
    · rw [dig_lo h] at hc
      simp only [List.mem_singleton] at hc
      subst hc
      unfold isDig
      rw [u8n (by omega)]; omega
    · rw [dig_hi h] at hc
      rcases List.mem_append.1 hc with hc | hc
      · exact ih (n / 10) (by omega) c hc
      · simp only [List.mem_singleton] at hc
        subst hc
        unfold isDig
        rw [u8n (by omega)]; omega
theorem valD_snoc (s : List UInt8) (c : UInt8) : valD (s ++ [c]) = 10 * valD s + (c.toNat - 48) := by simp [valD, List.foldl_append]
theorem dig_val (n : Nat) : valD (dig n) = n := by
  induction n using Nat.strongRecOn with
  | _ n ih =>
    by_cases h : n < 10
    · rw [dig_lo h]
      simp only [valD, List.foldl_cons, List.foldl_nil]
      rw [u8n (by omega)]; omega
    · rw [dig_hi h, valD_snoc, ih (n / 10) (by omega), u8n (by omega)]; omega
theorem dig_ne (n : Nat) : dig n ≠ [] := by
  by_cases h : n < 10
  · rw [dig_lo h]; simp
  · rw [dig_hi h]; simp
theorem dig_len : ∀ (k n : Nat), n < 10 ^ (k + 1) → (dig n).length ≤ k + 1
  | 0, n, h => by rw [dig_lo (by omega)]; simp
  | k + 1, n, h => by
    by_cases hn : n < 10
    · rw [dig_lo hn]; simp
    · rw [dig_hi hn]
      have := dig_len k (n / 10) (by rw [Nat.pow_succ] at h; omega)
      simp only [List.length_append, List.length_cons, List.length_nil]; omega
theorem dig_head (n : Nat) (h : 0 < n) : (dig n).getD 0 0 ≠ 48 := by
  induction n using Nat.strongRecOn with
  | _ n ih =>
    by_cases hn : n < 10
    · rw [dig_lo hn]
      intro e
      have := congrArg UInt8.toNat e
      simp only [List.getD_cons_zero] at this
      rw [u8n (by omega)] at this
      have h48 : (48 : UInt8).toNat = 48 := rfl
      omega
    · rw [dig_hi hn]
      have h1 := List.length_pos_iff.2 (dig_ne (n / 10))
      have := ih (n / 10) (by omega) (by omega)
      rwa [getD_app _ _ _ _ h1]
theorem num_dig {n : Nat} (h : n ≤ 72057594037927935) : numP (dig n) = ((n : Int), 0) := by
  have h17 := dig_len 16 n (by omega)
  have hq : numQ (dig n) := by
    refine ⟨dig_all n, fun ⟨h1, h2⟩ => ?_⟩
    by_cases h0 : n = 0
    · subst h0; rw [dig_lo (by omega)] at h1; simp at h1
    · exact dig_head n (by omega) h2
  unfold numP
  rw [if_neg (dig_ne n), if_neg (by simpa using hq), if_neg (by omega), dig_val, if_neg (by omega)]
theorem dig_inj {a b : Nat} (h : dig a = dig b) : a = b := by rw [← dig_val a, ← dig_val b, h]
/-- A number's text is its digits. -/
theorem dig_of : ∀ (s : List UInt8), s ≠ [] → (∀ c ∈ s, isDig c) → s.getD 0 0 ≠ 48 → dig (valD s) = s ∧ 0 < valD s := by
  intro s
  induction h : s.length using Nat.strongRecOn generalizing s with
  | _ k ih =>
    intro hn hd h0
    obtain ⟨t, c, rfl⟩ : ∃ t c, s = t ++ [c] := ⟨s.dropLast, s.getLast hn, (List.dropLast_concat_getLast hn).symm⟩
    have hc : isDig c := hd c (by simp)
    unfold isDig at hc
    by_cases ht : t = []
    · subst ht
      simp only [List.nil_append, List.getD_cons_zero] at h0
      have : c.toNat ≠ 48 := fun e => h0 (UInt8.toNat_inj.1 e)
      have hv : valD ([] ++ [c]) = c.toNat - 48 := by simp [valD]
      rw [hv, dig_lo (by omega)]
      refine ⟨?_, by omega⟩
      simp only [List.nil_append, List.cons.injEq, and_true]
      apply UInt8.toNat_inj.1
      rw [u8n (by omega)]; omega
    · have h1 := List.length_pos_iff.2 ht
      obtain ⟨e1, e2⟩ := ih t.length (by rw [← h]; simp) t rfl ht (fun d hd' => hd d (by simp [hd'])) (by rwa [getD_app _ _ _ _ h1] at h0)
      rw [valD_snoc]
      refine ⟨?_, by omega⟩
      rw [dig_hi (by omega), show (10 * valD t + (c.toNat - 48)) / 10 = valD t by omega, e1]
      congr 2
      apply UInt8.toNat_inj.1
      rw [u8n (by omega)]; omega
theorem num_back {s : List UInt8} {n : Int} (h : numP s = (n, 0)) : ∃ m : Nat, n = m ∧ s = dig m ∧ m ≤ 72057594037927935 := by
  unfold numP at h
  split at h
  · simp at h
  split at h
  · simp at h
  split at h
  · simp at h
  split at h
  · simp at h
  rename_i h1 h2 h3 h4
  simp only [Prod.mk.injEq, and_true] at h
  refine ⟨valD s, h.symm, ?_, by omega⟩
  have hq : numQ s := by simpa using h2
  by_cases h0 : s.getD 0 0 = 48
  · match s, h1, hq, h0 with
    | [c], _, hq, h0 =>
      simp only [List.getD_cons_zero] at h0
      subst h0
      have : valD [48] = 0 := rfl
      rw [this, dig_lo (by omega)]
      rfl
    | c :: d :: t, _, hq, h0 => exact absurd ⟨by simp, h0⟩ hq.2
  · exact (dig_of s h1 hq.1 h0).1.symm
end Go.Proofs.YtlefegihikpilaaDoor

/- chapter 3: numbers, texts and names of what is kept: the program's and the document's -/
namespace Go.Proofs.YtlefegihikpilaaDoor
set_option linter.all false
open Go.RowKit
set_option maxRecDepth 100000
theorem max_big : 1000000 ≤ maxLen := by unfold maxLen; decide
abbrev bts (l : List UInt8) : List (List AV) := l.map byteEl
theorem trimS_nil (s : List UInt8) : Lib.trimS s digs = [] ↔ ∀ c ∈ s, isDig c := by
  have hd : ∀ c : UInt8, digs.contains c = true ↔ isDig c := by
    intro c
    have h : ∀ n : Fin 256, digs.contains (UInt8.ofNat n.val) = decide (48 ≤ n.val ∧ n.val ≤ 57) := by decide
    have := h ⟨c.toNat, c.toNat_lt⟩
    simp only [UInt8.ofNat_toNat] at this
    rw [this, decide_eq_true_eq]; rfl
  have hn : ∀ (p : UInt8 → Bool) (l : List UInt8), l.dropWhile p = [] ↔ ∀ x ∈ l, p x = true := by
    intro p l
    induction l with
    | nil => simp
    | cons x l ih =>
      rw [List.dropWhile_cons]
      cases h : p x with
      | true => simp [h, ih]
      | false => simp [h]
  have hh : ∀ (p : UInt8 → Bool) (l : List UInt8) (y : UInt8) (ys : List UInt8), l.dropWhile p = y :: ys → p y = false := by
    intro p l
    induction l with
    | nil => intro y ys h; simp at h
    | cons x l ih =>
      intro y ys h
      rw [List.dropWhile_cons] at h
      cases hx : p x with
      | true => rw [hx] at h; exact ih y ys (by simpa using h)
      | false => rw [hx] at h; simp at h; rw [← h.1]; exact hx
  unfold Lib.trimS Lib.trimLeftS Lib.trimRightS
  rw [hn]
  constructor
  · intro h c hc
    have h3 : s.reverse.dropWhile (digs.contains ·) = [] := by
      cases hd' : s.reverse.dropWhile (digs.contains ·) with
      | nil => rfl
      | cons y ys =>
        have h4 := hh _ _ _ _ hd'
        have h5 := h y (by rw [hd']; simp)
        rw [h5] at h4; cases h4
    rw [hn] at h3
    exact (hd c).1 (h3 c (by simpa using hc))
  · intro h c hc
    have hz : s.reverse.dropWhile (digs.contains ·) = [] := by
      rw [hn]
      intro x hx
      exact (hd x).2 (h x (by simpa using hx))
    rw [hz] at hc
    simp at hc
theorem valD_take {s : List UInt8} {k : Nat} (h : k < s.length) : valD (s.take (k + 1)) = 10 * valD (s.take k) + ((s.getD k 0).toNat - 48) := by
  rw [List.take_add_one, List.getElem?_eq_getElem h]
  simp only [Option.toList_some]
  rw [valD_snoc]
  simp [List.getD, List.getElem?_eq_getElem h]
theorem valD_le {s : List UInt8} (hd : ∀ c ∈ s, isDig c) : ∀ k, k ≤ s.length → valD (s.take k) + 1 ≤ 10 ^ k
  | 0, _ => by simp [valD]
  | k + 1, h => by
    have ih := valD_le hd k (by omega)
    rw [valD_take (by omega), Nat.pow_succ]
    have hk : k < s.length := by omega
    have : isDig (s.getD k 0) := by
      rw [List.getD, List.getElem?_eq_getElem hk]; exact hd _ (List.getElem_mem hk)
    unfold isDig at this
    omega
theorem u48 {c : UInt8} : ((c.toNat : Int) = 48) = (c = 48) := propext ⟨fun h => UInt8.toNat_inj.1 (by have : (48 : UInt8).toNat = 48 := rfl; omega), fun h => by rw [h]; rfl⟩
theorem dig_at {s : List UInt8} (hd : ∀ c ∈ s, isDig c) {k : Nat} (hk : k < s.length) : 48 ≤ (s.getD k 0).toNat ∧ (s.getD k 0).toNat ≤ 57 := by
  rw [List.getD, List.getElem?_eq_getElem hk]; exact hd _ (List.getElem_mem hk)
theorem wsub {n : Nat} (h : 48 ≤ n ∧ n ≤ 57) : IntKind.u8.wrap ((n : Int) - 48) = ((n - 48 : Nat) : Int) := by rw [IntKind.wrap_u8]; omega
theorem numP_form {s : List UInt8} (h0 : ¬ s = []) (h : ¬ numQ s) : numP s = (0, 3) := by unfold numP; rw [if_neg h0, if_pos h]
theorem numP_long {s : List UInt8} (hq : numQ s) (h : 17 < s.length) : numP s = (0, 4) := by
  unfold numP; rw [if_neg (fun e => by subst e; simp at h), if_neg (by simpa using hq), if_pos h]
theorem numP_big {s : List UInt8} (h0 : ¬ s = []) (hq : numQ s) (h : ¬ 17 < s.length) (hv : 72057594037927935 < valD s) : numP s = (0, 4) := by
  unfold numP; rw [if_neg h0, if_neg (by simpa using hq), if_neg h, if_pos hv]
theorem numP_ok {s : List UInt8} (h0 : ¬ s = []) (hq : numQ s) (h : ¬ 17 < s.length) (hv : ¬ 72057594037927935 < valD s) : numP s = ((valD s : Int), 0) := by
  unfold numP; rw [if_neg h0, if_neg (by simpa using hq), if_neg h, if_neg hv]
theorem p_Number (s : List UInt8) (hs : s.length ≤ 16000000) : CP Tryd.prog 97 [.str s] (.tup [.int .i64 (numP s).1, .int .i64 (numP s).2]) := by
  by_cases h0 : s = []
  · subst h0
    refine ok_path_Number _ _ (by simp) ?_
    simp only [c_path_Number, ↓Ed, Eu, ↓reduceIte, reduceCtorEq, Nat.reduceAdd, Nat.reduceEqDiff, Nat.reduceLT, Nat.reduceLeDiff, Int.reduceToNat, Int.reduceEq, Int.reduceLT, Int.reduceLE, w64, st_nil, List.length_append, Nat.reduceMul]
    repeat' ((first | refine NewB_intro0 (fun b => ?_) | (refine NewB_intro (fun b hb => ?_); simp only [ln_cons2, ln_nil, and_true] at hb) | (with_reducible apply And.intro; (focus (first | omega | (simp only [Fact, Bool.not_eq_true', Bool.not_eq_false', decide_eq_true_eq, decide_eq_false_iff_not] at *; omega)))) | ((first | refine gW_sp ?_ | refine condW_sp ?_ | refine pickW_sp ?_); (try refine Sp_n ?_); (first | refine Sp_t (by assumption) ?_ | refine Sp_f (by assumption) ?_ | refine Sp_split (fun h => ?_) (fun h => ?_)) <;> (first | have h' := Fact_lt h | have h' := Fact_nlt h | have h' := Fact_le h | have h' := Fact_nle h | skip) <;> (try (exfalso; omega))) | refine TreeW_intro (by rfl) ?_ | refine TreeW_all ?_ | refine upQ_intro ?_ | refine Two_intro ?_ ?_ | (refine leK_lit ?_; (simp [-List.getD_eq_getElem?_getD, LeL, lk, *]; done)) | (refine leK_dd ?_; (simp [-List.getD_eq_getElem?_getD, LeS, LeL, lk, *]; done)) | (simp only [Fact, Bool.not_eq_true', Bool.not_eq_false', decide_eq_true_eq, decide_eq_false_iff_not] at *; refine leK_dd ?_; (simp [-List.getD_eq_getElem?_getD, LeS, LeL, lk, *]; done)) | (show (_ : Nat) ≤ _; omega)) <;> (try simp (disch := omega) only [*, ↓Ed, Eu, ↓reduceIte, reduceCtorEq, Nat.reduceAdd, Nat.reduceEqDiff, Nat.reduceLT, Nat.reduceLeDiff, Int.reduceToNat, Int.reduceEq, Int.reduceLT, Int.reduceLE, w64, st_nil, List.length_append, Nat.reduceMul]))
    all_goals simp [numP]
  have ht := trimS_nil s
  rw [← List.length_eq_zero_iff] at ht
  have hl : ¬ s.length = 0 := fun e => h0 (List.length_eq_zero_iff.1 e)
  refine ok_path_Number _ _ (by simp) ?_
  simp only [c_path_Number, ↓Ed, Eu, ↓reduceIte, reduceCtorEq, Nat.reduceAdd, Nat.reduceEqDiff, Nat.reduceLT, Nat.reduceLeDiff, Int.reduceToNat, Int.reduceEq, Int.reduceLT, Int.reduceLE, w64, st_nil, List.length_append, Nat.reduceMul]
  repeat' ((first | refine CallO_pure (p_TrimD s (by omega)) ?_ | refine NewB_intro0 (fun b => ?_) | (refine NewB_intro (fun b hb => ?_); simp only [ln_cons2, ln_nil, and_true] at hb) | (with_reducible apply And.intro; (focus (first | omega | (simp only [Fact, Bool.not_eq_true', Bool.not_eq_false', decide_eq_true_eq, decide_eq_false_iff_not] at *; omega)))) | ((first | refine gW_sp ?_ | refine condW_sp ?_ | refine pickW_sp ?_); (try refine Sp_n ?_); (first | refine Sp_t (by assumption) ?_ | refine Sp_f (by assumption) ?_ | refine Sp_split (fun h => ?_) (fun h => ?_)) <;> (first | have h' := Fact_lt h | have h' := Fact_nlt h | have h' := Fact_le h | have h' := Fact_nle h | skip) <;> (try (exfalso; omega))) | refine TreeW_intro (by rfl) ?_ | refine TreeW_all ?_ | refine upQ_intro ?_ | refine Two_intro ?_ ?_ | (refine leK_lit ?_; (simp [-List.getD_eq_getElem?_getD, LeL, lk, *]; done)) | (refine leK_dd ?_; (simp [-List.getD_eq_getElem?_getD, LeS, LeL, lk, *]; done)) | (simp only [Fact, Bool.not_eq_true', Bool.not_eq_false', decide_eq_true_eq, decide_eq_false_iff_not] at *; refine leK_dd ?_; (simp [-List.getD_eq_getElem?_getD, LeS, LeL, lk, *]; done)) | (show (_ : Nat) ≤ _; omega)) <;> (try simp (disch := omega) only [*, ↓Ed, Eu, ↓reduceIte, reduceCtorEq, Nat.reduceAdd, Nat.reduceEqDiff, Nat.reduceLT, Nat.reduceLeDiff, Int.reduceToNat, Int.reduceEq, Int.reduceLT, Int.reduceLE, w64, st_nil, List.length_append, Nat.reduceMul]))
  all_goals (try simp only [Fact, Bool.not_eq_true', Bool.not_eq_false', decide_eq_true_eq, decide_eq_false_iff_not, u48] at *)
  case' refine_2.refine_1.refine_1.right.refine_2.refine_2 => have hq : numQ s := ⟨by assumption, fun g => by simp_all⟩
  case' refine_2.refine_1.refine_2.refine_2 => have hq : numQ s := ⟨by assumption, fun g => by omega⟩
  case' refine_2.refine_1.refine_1.right.refine_2.refine_2 | refine_2.refine_1.refine_2.refine_2 =>
    clear ht
    refine wpx_loop (fun k : Nat => ⟨lk [(0, .str s), (4, .int .i64 (valD (s.take k))), (25, .int .i64 s.length), (26, .int .i64 k)], lk []⟩) (fun k => k ≤ s.length) (fun k => s.length - k) 0 (by omega) (Le_lit (by simp [LeL, lk, valD])) ?_
    intro k h1
    have hv := valD_le hq.1 k h1
    have h17 : 10 ^ k ≤ 10 ^ 17 := Nat.pow_le_pow_right (by omega) (by omega)
    have hlt : valD (s.take k) < 100000000000000000 := by omega
    clear hv h17
    simp only [↓Ed, Eu, ↓reduceIte, reduceCtorEq, Nat.reduceAdd, Nat.reduceEqDiff, Nat.reduceLT, Nat.reduceLeDiff, Int.reduceToNat, Int.reduceEq, Int.reduceLT, Int.reduceLE, w64, st_nil, List.length_append, Nat.reduceMul]
    repeat' ((first | refine NewB_intro0 (fun b => ?_) | (refine NewB_intro (fun b hb => ?_); simp only [ln_cons2, ln_nil, and_true] at hb) | (with_reducible apply And.intro; (focus (first | omega | (simp only [Fact, Bool.not_eq_true', Bool.not_eq_false', decide_eq_true_eq, decide_eq_false_iff_not] at *; omega)))) | ((first | refine gW_sp ?_ | refine condW_sp ?_ | refine pickW_sp ?_); (try refine Sp_n ?_); (first | refine Sp_t (by assumption) ?_ | refine Sp_f (by assumption) ?_ | refine Sp_split (fun h => ?_) (fun h => ?_)) <;> (first | have h' := Fact_lt h | have h' := Fact_nlt h | have h' := Fact_le h | have h' := Fact_nle h | skip) <;> (try (exfalso; omega))) | refine TreeW_intro (by rfl) ?_ | refine TreeW_all ?_ | refine upQ_intro ?_ | refine Two_intro ?_ ?_ | (refine leK_lit ?_; (simp [-List.getD_eq_getElem?_getD, LeL, lk, *]; done)) | (refine leK_dd ?_; (simp [-List.getD_eq_getElem?_getD, LeS, LeL, lk, *]; done)) | (simp only [Fact, Bool.not_eq_true', Bool.not_eq_false', decide_eq_true_eq, decide_eq_false_iff_not] at *; refine leK_dd ?_; (simp [-List.getD_eq_getElem?_getD, LeS, LeL, lk, *]; done)) | (show (_ : Nat) ≤ _; omega)) <;> (try simp (disch := omega) only [*, ↓Ed, Eu, ↓reduceIte, reduceCtorEq, Nat.reduceAdd, Nat.reduceEqDiff, Nat.reduceLT, Nat.reduceLeDiff, Int.reduceToNat, Int.reduceEq, Int.reduceLT, Int.reduceLE, w64, st_nil, List.length_append, Nat.reduceMul]))
  all_goals (try simp only [Fact, Bool.not_eq_true', Bool.not_eq_false', decide_eq_true_eq, decide_eq_false_iff_not, u48] at *)
  all_goals first
    | (rw [numP_form h0 (fun g => g.2 ⟨by omega, by assumption⟩)]; exact ⟨rfl, rfl⟩)
    | (rw [numP_form h0 (fun g => absurd g.1 (by assumption))]; exact ⟨rfl, rfl⟩)
    | (have h3 : 17 < s.length := by omega
       have hq : numQ s := ⟨by assumption, fun g => by simp_all⟩
       rw [numP_long hq h3]; exact ⟨rfl, rfl⟩)
    | (exact absurd (by assumption) hl)
    | (obtain rfl : k = s.length := by omega
       rw [List.take_length] at *
       first
         | (rw [numP_big h0 hq (by omega) (by omega)]; exact ⟨rfl, rfl⟩)
         | (rw [numP_ok h0 hq (by omega) (by omega)]; exact ⟨rfl, rfl⟩))
    | (have hd := dig_at hq.1 (k := k) (by omega)
       simp only [wsub hd]
       refine Round_lit (k + 1) ⟨Le_lit ?_, by omega, by omega⟩
       rw [valD_take (by omega)]
       generalize (s.getD k 0).toNat = y at *
       simp [LeL, lk]
       rw [IntKind.wrap_i64, IntKind.wrap_i64]; omega)
end Go.Proofs.YtlefegihikpilaaDoor

/- plain laws: words, texts of ends, names of what is kept -/
namespace Go.Proofs.YtlefegihikpilaaDoor
set_option linter.all false
open Go
abbrev chn : List UInt8 := [99, 104, 97, 110, 110, 101, 108, 45]
abbrev prts : List UInt8 := [112, 111, 114, 116, 115]
abbrev chns : List UInt8 := [99, 104, 97, 110, 110, 101, 108, 115]
abbrev seqs : List UInt8 := [115, 101, 113, 117, 101, 110, 99, 101, 115]
def wordP (k : Int) : List UInt8 :=
  if k = 1 then [99, 111, 109, 109, 105, 116, 109, 101, 110, 116, 115] else if k = 2 then [114, 101, 99, 101, 105, 112, 116, 115] else if k = 3 then [97, 99, 107, 115] else if k = 4 then [110, 101, 120, 116, 83, 101, 113, 117, 101, 110, 99, 101, 83, 101, 110, 100] else if k = 5 then [110, 101, 120, 116, 83, 101, 113, 117, 101, 110, 99, 101, 82, 101, 99, 118] else if k = 6 then [110, 101, 120, 116, 83, 101, 113, 117, 101, 110, 99, 101, 65, 99, 107] else if k = 7 then [99, 104, 97, 110, 110, 101, 108, 69, 110, 100, 115] else []
theorem wordP_out {k : Int} (h : k < 1 ∨ 7 < k) : wordP k = [] := by
  unfold wordP
  repeat rw [if_neg (by omega)]
theorem wordP_in {k : Int} (h : 1 ≤ k ∧ k ≤ 7) : wordP k ≠ [] := by
  obtain rfl | rfl | rfl | rfl | rfl | rfl | rfl : k = 1 ∨ k = 2 ∨ k = 3 ∨ k = 4 ∨ k = 5 ∨ k = 6 ∨ k = 7 := by omega
  all_goals simp [wordP]
theorem wordP_inj {k j : Int} (h : 1 ≤ k ∧ k ≤ 7) (g : 1 ≤ j ∧ j ≤ 7) (e : wordP k = wordP j) : k = j := by
  obtain rfl | rfl | rfl | rfl | rfl | rfl | rfl : k = 1 ∨ k = 2 ∨ k = 3 ∨ k = 4 ∨ k = 5 ∨ k = 6 ∨ k = 7 := by omega
  all_goals
    obtain rfl | rfl | rfl | rfl | rfl | rfl | rfl : j = 1 ∨ j = 2 ∨ j = 3 ∨ j = 4 ∨ j = 5 ∨ j = 6 ∨ j = 7 := by omega
    all_goals first | rfl | (simp [wordP] at e)
theorem wordP_len (k : Int) : (wordP k).length ≤ 16 := by
  unfold wordP
  repeat' split
  all_goals decide
theorem wordP_no (k : Int) : 47 ∉ wordP k := by
  unfold wordP
  repeat' split
  all_goals decide
theorem itoa_dig {n : Int} (h : 0 ≤ n) : Lib.itoa n = dig n.toNat := by unfold Lib.itoa; rw [if_neg (by omega)]
noncomputable def textP (p : List UInt8) (c : Int) : List UInt8 := if mayP p c = true then p ++ [47] ++ chn ++ Lib.itoa c else []
def endOk (s : List UInt8) : Bool := Lib.hasPrefix s chn && decide ((numP (Lib.trimPrefix s chn)).2 = 0)
def endN (s : List UInt8) : Int := (numP (Lib.trimPrefix s chn)).1
noncomputable def endP (p s : List UInt8) : Bool := endOk s && mayP p (endN s)
noncomputable def parseP (s : List UInt8) : List UInt8 × Int × Int :=
  if endP (Lib.cut s [47]).1 (Lib.cut s [47]).2.1 = true then ((Lib.cut s [47]).1, endN (Lib.cut s [47]).2.1, 0) else ([], 0, 3)
def baseP (k : Int) (p : List UInt8) (c : Int) : List UInt8 := wordP k ++ [47] ++ prts ++ [47] ++ p ++ [47] ++ chns ++ [47] ++ chn ++ Lib.itoa c
noncomputable def ofP (k : Int) (p : List UInt8) (c q : Int) : List UInt8 :=
  if wordP k = [] ∨ ¬ mayP p c = true then [] else if 1 ≤ k ∧ k ≤ 3 then if 1 ≤ q ∧ q ≤ 1099511627776 then baseP k p c ++ [47] ++ seqs ++ [47] ++ Lib.itoa q else [] else if q = 0 then baseP k p c else []
theorem cut_le (s sep : List UInt8) : (Lib.cut s sep).1.length ≤ s.length ∧ (Lib.cut s sep).2.1.length ≤ s.length := by
  unfold Lib.cut; split <;> simp <;> omega
theorem mayP_t {p : List UInt8} {c : Int} (h : mayP p c = true) : p.length ≤ 12 ∧ 0 ≤ c ∧ c ≤ 999 ∧ nameQ p := by
  simp only [mayP, Bool.and_eq_true, decide_eq_true_eq, nameP_iff] at h
  exact ⟨h.1.1.2.1, h.1.2, h.2, h.1.1⟩
theorem dig_len3 {c : Int} (h : 0 ≤ c ∧ c ≤ 999) : (Lib.itoa c).length ≤ 3 := by rw [itoa_dig h.1]; exact dig_len 2 _ (by omega)
theorem dig_len13 {c : Int} (h : 0 ≤ c ∧ c ≤ 1099511627776) : (Lib.itoa c).length ≤ 13 := by rw [itoa_dig h.1]; exact dig_len 12 _ (by omega)
end Go.Proofs.YtlefegihikpilaaDoor
