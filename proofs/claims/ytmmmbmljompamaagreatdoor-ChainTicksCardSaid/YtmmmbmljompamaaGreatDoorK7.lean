import Derived.Test.YtmmmbmljompamaaGreatDoorK6
namespace Go.Proofs.YtmmmbmljompamaaGreatDoor
set_option linter.all false

theorem lk_cons {α : Type} (k : Nat) (a : α) (r : List (Nat × α)) (i : Nat) : lk ((k, a) :: r) i = if i = k then some a else lk r i := rfl
theorem lk_nil {α : Type} (i : Nat) : lk ([] : List (Nat × α)) i = none := rfl
theorem pt_cons {α : Type} (k : Nat) (b : α) (r : List (Nat × α)) (i : Nat) (a : α) : pt ((k, b) :: r) i a = if i = k then (k, a) :: r else (k, b) :: pt r i a := rfl
theorem pt_nil {α : Type} (i : Nat) (a : α) : pt [] i a = [(i, a)] := rfl
theorem ln_cons {α : Type} (k : Nat) (a : α) (r : List (Nat × α)) (i : Nat) : (lk ((k, a) :: r) i = none) = (¬ i = k ∧ lk r i = none) := by
  rw [lk_cons]
  by_cases h : i = k <;> simp [h]
theorem ln_cons2 {α : Type} (k : Nat) (a : α) (r : List (Nat × α)) (i : Nat) : (lk ((k, a) :: r) i = none) = ((¬ i = k ∧ ¬ k = i) ∧ lk r i = none) := by
  rw [ln_cons]
  apply propext
  exact ⟨fun ⟨h1, h2⟩ => ⟨⟨h1, fun e => h1 e.symm⟩, h2⟩, fun ⟨h1, h2⟩ => ⟨h1.1, h2⟩⟩
theorem ln_nil {α : Type} (i : Nat) : (lk ([] : List (Nat × α)) i = none) = True := by simp [lk]
theorem del_cons {α : Type} (k : Nat) (b : α) (r : List (Nat × α)) (i : Nat) : del ((k, b) :: r) i = if i = k then del r i else (k, b) :: del r i := rfl
theorem del_nil {α : Type} (i : Nat) : del ([] : List (Nat × α)) i = [] := rfl
theorem num_cons {α : Type} (n : Nat) (a : α) (r : List α) : num n (a :: r) = (n, a) :: num (n + 1) r := rfl
theorem num_nil {α : Type} (n : Nat) : num n ([] : List α) = [] := rfl

theorem al_int (k : IntKind) (n : Int) : AV.alias (.int k n) = .int k n := rfl
theorem al_bool (b : Bool) : AV.alias (.bool b) = .bool b := rfl
theorem al_str (l : List UInt8) : AV.alias (.str l) = .str l := rfl
theorem al_agg (cs : List AV) : AV.alias (.agg cs) = .agg cs := rfl
theorem al_sl (o : Option Nat) (sz : Nat) (els : List (List AV)) : AV.alias (.sl o sz els) = .sl none sz els := rfl
theorem al_ro (cs : List AV) : AV.alias (.ro cs) = .ro cs := rfl
theorem al_ptr (b o : Nat) : AV.alias (.ptr b o) = .ptr b o := rfl
theorem al_nilp : AV.alias .nilp = .nilp := rfl
theorem al_nilT (t : Nat) : AV.alias (.nilT t) = .nilp := rfl
theorem ce_nilT (t : Nat) : AV.cells (.nilT t) = [.nilp] := rfl
theorem so_nilT (t : Nat) : AV.store (.nilT t) = .nilp := rfl
theorem al_nili : AV.alias .nili = .nili := rfl
theorem ce_nili : AV.cells .nili = [.nili] := rfl
theorem so_nili : AV.store .nili = .nili := rfl
theorem al_osl (b o n : Nat) : AV.alias (.osl b o n) = .osl b o n := rfl
theorem ce_osl (b o n : Nat) : AV.cells (.osl b o n) = [.osl b o n] := rfl
theorem so_osl (b o n : Nat) : AV.store (.osl b o n) = .osl b o n := rfl
theorem al_nils (e sz : Nat) : AV.alias (.nils e sz) = .sl none sz [] := rfl
theorem so_nils (e sz : Nat) : AV.store (.nils e sz) = .nils e sz := rfl
theorem so_int (k : IntKind) (n : Int) : AV.store (.int k n) = .int k n := rfl
theorem so_bool (b : Bool) : AV.store (.bool b) = .bool b := rfl
theorem so_str (l : List UInt8) : AV.store (.str l) = .str l := rfl
theorem so_sl (o : Option Nat) (sz : Nat) (els : List (List AV)) : AV.store (.sl o sz els) = .sl none sz els := rfl
theorem so_ro (cs : List AV) : AV.store (.ro cs) = .ro cs := rfl
theorem so_pt (b o : Nat) : AV.store (.ptr b o) = .ptr b o := rfl
theorem so_nilp : AV.store .nilp = .nilp := rfl
theorem so_fn (f : Nat) : AV.store (.fn f) = .fn f := rfl
theorem so_clo (f : Nat) (cs : List AV) : AV.store (.clo f cs) = .clo f cs := rfl
theorem al_clo (f : Nat) (cs : List AV) : AV.alias (.clo f cs) = .clo f cs := rfl
theorem ce_clo (f : Nat) (cs : List AV) : AV.cells (.clo f cs) = [.clo f cs] := rfl
theorem al_fn (f : Nat) : AV.alias (.fn f) = .fn f := rfl
theorem al_tup (cs : List AV) : AV.alias (.tup cs) = .tup cs := rfl
theorem al_undef : AV.alias .undef = .undef := rfl
theorem ce_int (k : IntKind) (n : Int) : AV.cells (.int k n) = [.int k n] := rfl
theorem ce_bool (b : Bool) : AV.cells (.bool b) = [.bool b] := rfl
theorem ce_str (l : List UInt8) : AV.cells (.str l) = [.str l] := rfl
theorem ce_agg (cs : List AV) : AV.cells (.agg cs) = cs.map AV.store := rfl
theorem ce_sl (o : Option Nat) (sz : Nat) (els : List (List AV)) : AV.cells (.sl o sz els) = [.sl none sz els] := rfl
theorem ce_ro (cs : List AV) : AV.cells (.ro cs) = [.ro cs] := rfl
theorem ce_ptr (b o : Nat) : AV.cells (.ptr b o) = [.ptr b o] := rfl
theorem ce_nilp : AV.cells .nilp = [.nilp] := rfl
theorem tk_own (d : Option Nat) (i : Nat) (s : St) (e sz : Nat) (els : List (List AV)) : effTk d i s (.sl (some e) sz els) = St.put { s with t := upd s.t i (some (.sl none sz els)) } d (.sl (some e) sz els) := rfl
theorem tk_none (d : Option Nat) (i : Nat) (s : St) (sz : Nat) (els : List (List AV)) : effTk d i s (.sl none sz els) = s.put d (.sl none sz els) := rfl
theorem tk_int (d : Option Nat) (i : Nat) (s : St) (k : IntKind) (n : Int) : effTk d i s (.int k n) = s.put d (.int k n) := rfl

section
variable (k : IntKind) (a b : Int) (r : AV)
theorem b_add : binR .add (.int k a) (.int k b) r = (r = .int k (k.wrap (a + b))) := by simp [binR]
theorem b_sub : binR .sub (.int k a) (.int k b) r = (r = .int k (k.wrap (a - b))) := by simp [binR]
theorem b_mul : binR .mul (.int k a) (.int k b) r = (r = .int k (k.wrap (a * b))) := by simp [binR]
theorem b_quo : binR .quo (.int k a) (.int k b) r = (b ≠ 0 ∧ r = .int k (k.wrap (a.tdiv b))) := by simp [binR]
theorem b_rem : binR .rem (.int k a) (.int k b) r = (b ≠ 0 ∧ r = .int k (a.tmod b)) := by simp [binR]
theorem b_eql : binR .eql (.int k a) (.int k b) r = (r = .bool (decide (a = b))) := by simp [binR]
theorem b_neq : binR .neq (.int k a) (.int k b) r = (r = .bool (!decide (a = b))) := by simp [binR]
theorem b_lss : binR .lss (.int k a) (.int k b) r = (r = .bool (decide (a < b))) := by simp [binR]
theorem b_leq : binR .leq (.int k a) (.int k b) r = (r = .bool (decide (a ≤ b))) := by simp [binR]
theorem b_gtr : binR .gtr (.int k a) (.int k b) r = (r = .bool (decide (b < a))) := by simp [binR]
theorem b_geq : binR .geq (.int k a) (.int k b) r = (r = .bool (decide (b ≤ a))) := by simp [binR]
end
section
variable (a b : List UInt8) (r : AV)
theorem b_cat : binR .add (.str a) (.str b) r = (a.length + b.length ≤ 9223372036854775807 ∧ r = .str (a ++ b)) := by simp [binR]
theorem b_seql : binR .eql (.str a) (.str b) r = (r = .bool (decide (a = b))) := by simp [binR]
theorem b_sneq : binR .neq (.str a) (.str b) r = (r = .bool (!decide (a = b))) := by simp [binR]
theorem b_slss : binR .lss (.str a) (.str b) r = (r = .bool (Op.bytesLess a b)) := by simp [binR]
end
theorem be_f (a b : Bool) (r : AV) : beqR false (.bool a) (.bool b) r = (r = .bool (decide (a = b))) := by simp [beqR]
theorem be_t (a b : Bool) (r : AV) : beqR true (.bool a) (.bool b) r = (r = .bool (!decide (a = b))) := by simp [beqR]
theorem u_not (b : Bool) (r : AV) : unR .not (.bool b) r = (r = .bool (!b)) := rfl
theorem u_neg (k : IntKind) (n : Int) (r : AV) : unR .neg (.int k n) r = (r = .int k (k.wrap (0 - n))) := rfl
theorem v_ro (o : Nat → Option (List AV)) (cs : List AV) : view o (.ro cs) = some cs := rfl
theorem v_ptr (o : Nat → Option (List AV)) (b off : Nat) : view o (.ptr b off) = (o b).map (·.drop off) := rfl
theorem l_one (c : AV) (cs : List AV) (r : AV) : ldR none (c :: cs) r = (r = c.alias) := rfl
theorem l_all (n : Nat) (cs : List AV) (r : AV) : ldR (some n) cs r = (n ≤ cs.length ∧ r = .agg (cs.take n)) := by cases cs <;> rfl
theorem ldh_cons (c : AV) (cs : List AV) : ldhR (c :: cs) = fun r => r = hal c := rfl
theorem hal_nils (e sz : Nat) : hal (.nils e sz) = .hnil e sz := rfl
theorem hal_hnil (e sz : Nat) : hal (.hnil e sz) = .hnil e sz := rfl
theorem hal_hsl (g e sz n cap : Nat) : hal (.hsl g e sz n cap) = .hsl g e sz n cap := rfl
theorem hal_sl (sz : Nat) (l : List (List AV)) : hal (.sl none sz l) = .sl none sz l := rfl
theorem lr_ro (n : Option Nat) (cs : List AV) : ldrR n (.ro cs) = ldR n cs := rfl
theorem f_ro (off : Nat) (cs : List AV) (r : AV) : fldR off (.ro cs) r = (r = .ro (cs.drop off)) := rfl
theorem f_ptr (off b o : Nat) (r : AV) : fldR off (.ptr b o) r = (r = .ptr b (o + off)) := rfl
theorem n_str (l : List UInt8) (r : AV) : lenR true (.str l) r = (r = .int .i64 l.length) := rfl
theorem n_sl (o : Option Nat) (sz : Nat) (els : List (List AV)) (r : AV) : lenR false (.sl o sz els) r = (r = .int .i64 els.length) := rfl
theorem i_sl (size : Nat) (o : Option Nat) (els : List (List AV)) (k : IntKind) (n : Int) (r : AV) : idxR size (.sl o size els) (.int k n) r = ((0 ≤ n ∧ n < els.length) ∧ r = .ro (els.getD n.toNat [])) := by simp [idxR]
theorem i_osl (size b off len : Nat) (k : IntKind) (n : Int) (r : AV) : idxR size (.osl b off len) (.int k n) r = ((0 ≤ n ∧ n < len) ∧ r = .ptr b (off + n.toNat * size)) := rfl
theorem n_osl (b off n : Nat) (r : AV) : lenR false (.osl b off n) r = (r = .int .i64 n) := rfl
theorem vi_agg (n size : Nat) (q : Option Nat) (cs : List AV) (k : IntKind) (m : Int) : vidxR n size q (.agg cs) (.int k m) = fun r => ((0 ≤ m ∧ m < n ∧ m.toNat * size < cs.length) ∧ ldR q (cs.drop (m.toNat * size)) r) := rfl
theorem mn_int (k k' : IntKind) (a b : Int) : minR (.int k a) (.int k' b) = fun r => r = .int k (if b < a then b else a) := rfl
theorem i_str (l : List UInt8) (k : IntKind) (n : Int) (r : AV) : sidxR (.str l) (.int k n) r = ((0 ≤ n ∧ n < l.length) ∧ r = .int .u8 ((l.getD n.toNat 0).toNat : Int)) := rfl
theorem a_app (e size bytes : Nat) (o : Option Nat) (els news : List (List AV)) (r : AV) : appR e size bytes (.sl (some e) size els) (.sl o size news) r = (((els.length + news.length) * bytes ≤ 140737488355328 ∧ els.length + news.length ≤ maxLen) ∧ r = .sl (some e) size (els ++ news)) := by simp [appR]
theorem fv_agg (off : Nat) (n : Option Nat) (cs : List AV) (r : AV) : fldvR off n (.agg cs) r = (off < cs.length ∧ ldR n (cs.drop off) r) := rfl
theorem x_tup0 (c : AV) (cs : List AV) (r : AV) : extR 0 (.tup (c :: cs)) r = (r = c.alias) := by simp [extR]
theorem x_tups (j : Nat) (c : AV) (cs : List AV) (r : AV) : extR (j + 1) (.tup (c :: cs)) r = extR j (.tup cs) r := by simp [extR]
theorem nc_ro (cs : List AV) (r : AV) : nilcR (.ro cs) r = (r = .ro cs) := rfl
theorem nc_ptr (b o : Nat) (r : AV) : nilcR (.ptr b o) r = (r = .ptr b o) := rfl
theorem pk_t (a b : AV) (K : AV → Prop) : pickW (.bool true) a b K = K a.alias := by simp [pickW]
theorem pk_f (a b : AV) (K : AV → Prop) : pickW (.bool false) a b K = K b.alias := by simp [pickW]
theorem so_ptr (s : St) (n b off : Nat) (a : AV) (K : St → Prop) : stoW s n (.ptr b off) a K = KL (s.o b) (stoK n b off s a K) := rfl
theorem bt_sl (o : Option Nat) (sz : Nat) (els : List (List AV)) (K : List UInt8 → Prop) : bytesW (.sl o sz els) K = (sz = 1 ∧ BytesW els K) := rfl
theorem sc_str (l : List UInt8) (a b : Nat) (r : AV) : slcR none (.str l) a b r = ((a ≤ b ∧ b ≤ l.length) ∧ r = .str ((l.take b).drop a)) := rfl
theorem sc_sl (size : Nat) (o : Option Nat) (l : List (List AV)) (a b : Nat) (r : AV) : slcR (some size) (.sl o size l) a b r = ((a ≤ b ∧ b ≤ l.length) ∧ r = .sl none size ((l.take b).drop a)) := by simp [slcR]
theorem lo_str (l : List UInt8) : lenOf? (.str l) = l.length := rfl
theorem lo_sl (o : Option Nat) (sz : Nat) (l : List (List AV)) : lenOf? (.sl o sz l) = l.length := rfl
theorem bw_none (s : St) (dflt : Nat) (K : Nat → Prop) : boundW s dflt none K = K dflt := rfl
theorem bw_some (s : St) (dflt : Nat) (x : Opd) (K : Nat → Prop) : boundW s dflt (some x) K = K1 (x.ev s) (bwK K) := rfl
theorem iw_int (k : IntKind) (n : Int) (K : Nat → Prop) : intW (.int k n) K = (0 ≤ n ∧ K n.toNat) := rfl
theorem cv_int (k k' : IntKind) (n : Int) (r : AV) : convR k (.int k' n) r = (r = .int k (k.wrap n)) := rfl
theorem ss_str (l : List UInt8) (r : AV) : s2sR (.str l) r = (r = .str l) := rfl
theorem c_t (P : Program) (t e : ACode) (Q : AExit → St → Prop) (s : St) : condW P t e Q s (.bool true) = wpx P t Q s := by simp [condW]
theorem c_f (P : Program) (t e : ACode) (Q : AExit → St → Prop) (s : St) : condW P t e Q s (.bool false) = wpx P e Q s := by simp [condW]
section
variable {P : Program} {s : St} {K : St → Prop}
theorem g_tt (d : Option Nat) (k : AK) : gW P true d k s K (.bool true) = kW P d k s K := by simp [gW]
theorem g_tf (d : Option Nat) (k : AK) : gW P true d k s K (.bool false) = KS (s.put d .undef) K := by simp [gW]
theorem g_ft (d : Option Nat) (k : AK) : gW P false d k s K (.bool true) = KS (s.put d .undef) K := by simp [gW]
theorem g_ff (d : Option Nat) (k : AK) : gW P false d k s K (.bool false) = kW P d k s K := by simp [gW]
theorem g_undef (want : Bool) (d : Option Nat) (k : AK) : gW P want d k s K .undef = KS (s.put d .undef) K := rfl
end
theorem evs_nil (s : St) : evs s [] = some [] := rfl
theorem evs_cons (s : St) (x : Opd) (r : List Opd) : evs s (x :: r) = (x.ev s).bind fun v => (evs s r).map (v :: ·) := by
  simp only [evs]
  cases x.ev s <;> cases evs s r <;> rfl
theorem evp_nil (s : St) : evp s [] = some [] := rfl
theorem evp_cons (s : St) (a b : Nat) (x : Opd) (r : List (Nat × Nat × Opd)) : evp s ((a, b, x) :: r) = (x.ev s).bind fun v => (evp s r).map ((a, b, v) :: ·) := by
  simp only [evp]
  cases x.ev s <;> cases evp s r <;> rfl
theorem fl_nil (cs r : List AV) : fillR cs [] r = (r = cs) := rfl
theorem fl_cons (cs : List AV) (off n : Nat) (v : AV) (rest : List (Nat × Nat × AV)) (r : List AV) : fillR cs ((off, n, v) :: rest) r = ((v.cells.length = n ∧ 0 < n ∧ off + n ≤ cs.length) ∧ fillR (splice cs off v.cells) rest r) := rfl
theorem sp_0n (cs : List AV) : splice cs 0 [] = cs := by cases cs <;> rfl
theorem sp_0 (c : AV) (cs : List AV) (v : AV) (vs : List AV) : splice (c :: cs) 0 (v :: vs) = v :: splice cs 0 vs := rfl
theorem sp_s (c : AV) (cs : List AV) (n : Nat) (vs : List AV) : splice (c :: cs) (n + 1) vs = c :: splice cs n vs := rfl
theorem sz_nil (size : Nat) : sizesR size [] = True := rfl
theorem sz_cons (size : Nat) (v : AV) (vs : List AV) : sizesR size (v :: vs) = (v.cells.length = size ∧ sizesR size vs) := rfl
theorem r_one (s : St) (x : AR) (r : AV) : resR s [x] r = arR s x r := rfl
theorem ar_tmp (s : St) (i : Nat) (r : AV) : arR s (.tmp i) r = (s.t i = some r) := rfl
def resL (s : St) : List AR → List AV → Prop
  | [], [] => True
  | x :: xs, c :: cs => (∃ c', arR s x c' ∧ c = c'.alias) ∧ resL s xs cs
  | _, _ => False
theorem resL_iff (s : St) (xs : List AR) (cs : List AV) : resL s xs cs ↔ xs.length = cs.length ∧ ∀ (i : Nat) (x : AR) (c : AV), xs[i]? = some x → cs[i]? = some c → ∃ c', arR s x c' ∧ c = c'.alias := by
  induction xs generalizing cs with
  | nil => cases cs <;> simp [resL]
  | cons x xs ih =>
    cases cs with
    | nil => simp [resL]
    | cons c cs =>
      simp only [resL, ih, List.length_cons, Nat.add_right_cancel_iff]
      constructor
      · rintro ⟨h1, h2, h3⟩
        refine ⟨h2, fun i y d hy hd => ?_⟩
        cases i with
        | zero => simp at hy hd; subst hy hd; exact h1
        | succ i => exact h3 i y d (by simpa using hy) (by simpa using hd)
      · rintro ⟨h1, h2⟩
        exact ⟨h2 0 x c rfl rfl, h1, fun i y d hy hd => h2 (i + 1) y d (by simpa using hy) (by simpa using hd)⟩
theorem r_two (s : St) (x y : AR) (xs : List AR) (rs : List AV) : resR s (x :: y :: xs) (.tup rs) = resL s (x :: y :: xs) rs := by
  apply propext
  rw [resL_iff]
  exact ⟨fun ⟨rs', h1, h2, h3⟩ => by cases h3; exact ⟨h1, h2⟩, fun ⟨h1, h2⟩ => ⟨rs, h1, h2, rfl⟩⟩
theorem r_nil (s : St) : resR s [] (.tup []) = True := by
  apply propext
  exact ⟨fun _ => trivial, fun _ => ⟨[], rfl, fun i x c hx => by simp at hx, rfl⟩⟩
theorem rl_nil (s : St) : resL s [] [] = True := rfl
theorem rl_cons (s : St) (x : AR) (xs : List AR) (c : AV) (cs : List AV) : resL s (x :: xs) (c :: cs) = ((∃ c', arR s x c' ∧ c = c'.alias) ∧ resL s xs cs) := rfl
section
variable (K : St → Prop) (Q : AExit → St → Prop) (s : St) (id : Nat) (rs : List AR) (r : AV)
theorem th_n : thenQ K Q .normal = K := rfl
theorem th_r : thenQ K Q .ret = Q .ret := rfl
theorem th_e : thenQ K Q (.exit id) = Q (.exit id) := rfl
theorem bl_n : blockQ id Q .normal = Q .normal := rfl
theorem bl_r : blockQ id Q .ret = Q .ret := rfl
theorem bl_e (i : Nat) : blockQ id Q (.exit i) s = if i = id then Q .normal s else Q (.exit i) s := rfl
theorem rq_n : retQ rs r .normal s = resR s rs r := rfl
theorem rq_r : retQ rs r .ret s = resR s rs r := rfl
theorem rq_e : retQ rs r (.exit id) s = False := rfl
theorem st0_eq (xs : List AV) : st0 xs = ⟨lk (num 0 (xs.map AV.alias)), lk []⟩ := rfl
end
theorem b_addf (k : IntKind) (a b : Int) : binR .add (.int k a) (.int k b) = fun r => r = .int k (k.wrap (a + b)) := funext fun r => b_add k a b r
theorem b_subf (k : IntKind) (a b : Int) : binR .sub (.int k a) (.int k b) = fun r => r = .int k (k.wrap (a - b)) := funext fun r => b_sub k a b r
theorem b_mulf (k : IntKind) (a b : Int) : binR .mul (.int k a) (.int k b) = fun r => r = .int k (k.wrap (a * b)) := funext fun r => b_mul k a b r
theorem b_orf (k : IntKind) (a b : Int) : binR .or (.int k a) (.int k b) = fun r => r = .int k (k.wrap ((BitVec.ofInt k.bits a ||| BitVec.ofInt k.bits b).toNat)) := funext fun r => by simp [binR]
theorem b_andf (k : IntKind) (a b : Int) : binR .and (.int k a) (.int k b) = fun r => r = .int k (k.wrap ((BitVec.ofInt k.bits a &&& BitVec.ofInt k.bits b).toNat)) := funext fun r => by simp [binR]
theorem b_xorf (k : IntKind) (a b : Int) : binR .xor (.int k a) (.int k b) = fun r => r = .int k (k.wrap ((BitVec.ofInt k.bits a ^^^ BitVec.ofInt k.bits b).toNat)) := funext fun r => by simp [binR]
theorem b_andNotf (k : IntKind) (a b : Int) : binR .andNot (.int k a) (.int k b) = fun r => r = .int k (k.wrap ((BitVec.ofInt k.bits a &&& ~~~BitVec.ofInt k.bits b).toNat)) := funext fun r => by simp [binR]
theorem b_shlf (k k' : IntKind) (a b : Int) : binR .shl (.int k a) (.int k' b) = fun r => (0 ≤ b ∧ r = .int k (k.wrap (a * 2 ^ (min b.toNat k.bits)))) := funext fun r => by simp [binR]
theorem b_shrf (k k' : IntKind) (a b : Int) : binR .shr (.int k a) (.int k' b) = fun r => (0 ≤ b ∧ r = .int k (a.fdiv (2 ^ (min b.toNat k.bits)))) := funext fun r => by simp [binR]
theorem b_quof (k : IntKind) (a b : Int) : binR .quo (.int k a) (.int k b) = fun r => (b ≠ 0 ∧ r = .int k (k.wrap (a.tdiv b))) := funext fun r => b_quo k a b r
theorem b_remf (k : IntKind) (a b : Int) : binR .rem (.int k a) (.int k b) = fun r => (b ≠ 0 ∧ r = .int k (a.tmod b)) := funext fun r => b_rem k a b r
theorem b_eqlf (k : IntKind) (a b : Int) : binR .eql (.int k a) (.int k b) = fun r => r = .bool (decide (a = b)) := funext fun r => b_eql k a b r
theorem b_neqf (k : IntKind) (a b : Int) : binR .neq (.int k a) (.int k b) = fun r => r = .bool (!decide (a = b)) := funext fun r => b_neq k a b r
theorem b_lssf (k : IntKind) (a b : Int) : binR .lss (.int k a) (.int k b) = fun r => r = .bool (decide (a < b)) := funext fun r => b_lss k a b r
theorem b_leqf (k : IntKind) (a b : Int) : binR .leq (.int k a) (.int k b) = fun r => r = .bool (decide (a ≤ b)) := funext fun r => b_leq k a b r
theorem b_gtrf (k : IntKind) (a b : Int) : binR .gtr (.int k a) (.int k b) = fun r => r = .bool (decide (b < a)) := funext fun r => b_gtr k a b r
theorem b_geqf (k : IntKind) (a b : Int) : binR .geq (.int k a) (.int k b) = fun r => r = .bool (decide (b ≤ a)) := funext fun r => b_geq k a b r
theorem b_catf (a b : List UInt8) : binR .add (.str a) (.str b) = fun r => (a.length + b.length ≤ 9223372036854775807 ∧ r = .str (a ++ b)) := funext fun r => b_cat a b r
theorem b_seqlf (a b : List UInt8) : binR .eql (.str a) (.str b) = fun r => r = .bool (decide (a = b)) := funext fun r => b_seql a b r
theorem b_sneqf (a b : List UInt8) : binR .neq (.str a) (.str b) = fun r => r = .bool (!decide (a = b)) := funext fun r => b_sneq a b r
theorem b_slssf (a b : List UInt8) : binR .lss (.str a) (.str b) = fun r => r = .bool (Op.bytesLess a b) := funext fun r => b_slss a b r
theorem be_ff (a b : Bool) : beqR false (.bool a) (.bool b) = fun r => r = .bool (decide (a = b)) := funext fun r => be_f a b r
theorem be_tf (a b : Bool) : beqR true (.bool a) (.bool b) = fun r => r = .bool (!decide (a = b)) := funext fun r => be_t a b r
theorem u_notf (b : Bool) : unR .not (.bool b) = fun r => r = .bool (!b) := funext fun r => u_not b r
theorem u_xorf (k : IntKind) (n : Int) : unR .xor (.int k n) = fun r => r = .int k (k.wrap ((BitVec.ofInt k.bits (if k.signed then -1 else k.max) ^^^ BitVec.ofInt k.bits n).toNat)) := rfl
theorem u_negf (k : IntKind) (n : Int) : unR .neg (.int k n) = fun r => r = .int k (k.wrap (0 - n)) := funext fun r => u_neg k n r
theorem l_onef (c : AV) (cs : List AV) : ldR none (c :: cs) = fun r => r = c.alias := funext fun r => l_one c cs r
theorem l_allf (n : Nat) (cs : List AV) : ldR (some n) cs = fun r => (n ≤ cs.length ∧ r = .agg (cs.take n)) := funext fun r => l_all n cs r
theorem f_rof (off : Nat) (cs : List AV) : fldR off (.ro cs) = fun r => r = .ro (cs.drop off) := funext fun r => f_ro off cs r
theorem f_ptrf (off b o : Nat) : fldR off (.ptr b o) = fun r => r = .ptr b (o + off) := funext fun r => f_ptr off b o r
theorem n_strf (l : List UInt8) : lenR true (.str l) = fun r => r = .int .i64 l.length := funext fun r => n_str l r
theorem n_slf (o : Option Nat) (sz : Nat) (els : List (List AV)) : lenR false (.sl o sz els) = fun r => r = .int .i64 els.length := funext fun r => n_sl o sz els r
theorem n_oslf (b off n : Nat) : lenR false (.osl b off n) = fun r => r = .int .i64 n := funext fun r => n_osl b off n r
theorem al_hsl (g e sz n cap : Nat) : AV.alias (.hsl g e sz n cap) = .hsl g e sz n cap := rfl
theorem ce_hsl (g e sz n cap : Nat) : AV.cells (.hsl g e sz n cap) = [.hsl g e sz n cap] := rfl
theorem so_hsl (g e sz n cap : Nat) : AV.store (.hsl g e sz n cap) = .hsl g e sz n cap := rfl
theorem tk_hsl (d : Option Nat) (i : Nat) (s : St) (g e sz n cap : Nat) : effTk d i s (.hsl g e sz n cap) = s.put d (.hsl g e sz n cap) := rfl
theorem ldE_hsl (s : St) (d : Option Nat) (b off : Nat) (cs : List AV) (g e sz n cap : Nat) : ldE s d b off cs (.hsl g e sz n cap) = s.put d (.hsl g e sz n cap) := rfl
theorem stE_hsl (s : St) (i b off : Nat) (cs : List AV) (g e sz n cap : Nat) : stE s i b off cs (.hsl g e sz n cap) = { s with o := upd s.o b (some (splice cs off [.hsl g e sz n cap])) } := rfl
theorem al_hss (g sz a m : Nat) : AV.alias (.hss g sz a m) = .hss g sz a m := rfl
theorem al_hnil (e sz : Nat) : AV.alias (.hnil e sz) = .hnil e sz := rfl
theorem ce_hnil (e sz : Nat) : AV.cells (.hnil e sz) = [.hnil e sz] := rfl
theorem so_hnil (e sz : Nat) : AV.store (.hnil e sz) = .hnil e sz := rfl
theorem tk_hnil (d : Option Nat) (i : Nat) (s : St) (e sz : Nat) : effTk d i s (.hnil e sz) = s.put d (.hnil e sz) := rfl
theorem ldE_hnil (s : St) (d : Option Nat) (b off : Nat) (cs : List AV) (e sz : Nat) : ldE s d b off cs (.hnil e sz) = s.put d (.hnil e sz) := rfl
theorem stE_hnil (s : St) (i b off : Nat) (cs : List AV) (e sz : Nat) : stE s i b off cs (.hnil e sz) = { s with o := upd s.o b (some (splice cs off [.hnil e sz])) } := rfl
theorem n_hsl (g e sz n cap : Nat) : lenR false (.hsl g e sz n cap) = fun r => r = .int .i64 n := rfl
theorem n_hss (g sz a m : Nat) : lenR false (.hss g sz a m) = fun r => r = .int .i64 m := rfl
theorem n_hnil (e sz : Nat) : lenR false (.hnil e sz) = fun r => r = .int .i64 0 := rfl
theorem i_hsl (size g e len cap : Nat) (k : IntKind) (n : Int) : idxR size (.hsl g e size len cap) (.int k n) = fun r => ((0 ≤ n ∧ n < len) ∧ r = .ptr g (n.toNat * size)) := funext fun r => by simp [idxR]
theorem i_hss (size g a len : Nat) (k : IntKind) (n : Int) : idxR size (.hss g size a len) (.int k n) = fun r => ((0 ≤ n ∧ n < len) ∧ r = .ptr g ((a + n.toNat) * size)) := funext fun r => by simp [idxR]
theorem hl_hsl (g e sz n cap : Nat) : hlenOf (.hsl g e sz n cap) = n := rfl
theorem hl_hss (g sz a m : Nat) : hlenOf (.hss g sz a m) = m := rfl
theorem hl_sl (o : Option Nat) (sz : Nat) (l : List (List AV)) : hlenOf (.sl o sz l) = l.length := rfl
theorem hl_hnil (e sz : Nat) : hlenOf (.hnil e sz) = 0 := rfl
theorem hs_hsl0 (size g e n cap a b : Nat) : hslcR size true (.hsl g e size n cap) a b = fun r => ((a = 0 ∧ b ≤ n) ∧ r = .hsl g e size b cap) := funext fun r => by simp [hslcR]
theorem hs_hsl1 (size g e n cap a b : Nat) : hslcR size false (.hsl g e size n cap) a b = fun r => ((a ≤ b ∧ b ≤ n) ∧ r = .hss g size a (b - a)) := funext fun r => by simp [hslcR]
theorem hs_hss (nl : Bool) (size g a0 m a b : Nat) : hslcR size nl (.hss g size a0 m) a b = fun r => ((a ≤ b ∧ b ≤ m) ∧ r = .hss g size (a0 + a) (b - a)) := funext fun r => by cases nl <;> simp [hslcR]
theorem hs_sl (nl : Bool) (size : Nat) (o : Option Nat) (l : List (List AV)) (a b : Nat) : hslcR size nl (.sl o size l) a b = fun r => ((a ≤ b ∧ b ≤ l.length) ∧ r = .sl none size ((l.take b).drop a)) := funext fun r => by cases nl <;> simp [hslcR]
theorem hs_hnil (nl : Bool) (size e sz a b : Nat) : hslcR size nl (.hnil e sz) a b = fun r => ((a = 0 ∧ b = 0) ∧ r = .hnil e sz) := funext fun r => by cases nl <;> simp [hslcR]
theorem op_none : (none : Option Opd).isNone = true := rfl
theorem op_some (x : Opd) : (some x).isNone = false := rfl
theorem i_oslf (size b off len : Nat) (k : IntKind) (n : Int) : idxR size (.osl b off len) (.int k n) = fun r => ((0 ≤ n ∧ n < len) ∧ r = .ptr b (off + n.toNat * size)) := funext fun r => i_osl size b off len k n r
theorem tk_osl (d : Option Nat) (i : Nat) (s : St) (b o n : Nat) : effTk d i s (.osl b o n) = s.put d (.osl b o n) := rfl
theorem i_slf (size : Nat) (o : Option Nat) (els : List (List AV)) (k : IntKind) (n : Int) : idxR size (.sl o size els) (.int k n) = fun r => ((0 ≤ n ∧ n < els.length) ∧ r = .ro (els.getD n.toNat [])) := funext fun r => i_sl size o els k n r
theorem i_strf (l : List UInt8) (k : IntKind) (n : Int) : sidxR (.str l) (.int k n) = fun r => ((0 ≤ n ∧ n < l.length) ∧ r = .int .u8 ((l.getD n.toNat 0).toNat : Int)) := funext fun r => i_str l k n r
theorem a_appf (e size bytes : Nat) (o : Option Nat) (els news : List (List AV)) : appR e size bytes (.sl (some e) size els) (.sl o size news) = fun r => (((els.length + news.length) * bytes ≤ 140737488355328 ∧ els.length + news.length ≤ maxLen) ∧ r = .sl (some e) size (els ++ news)) := funext fun r => a_app e size bytes o els news r
theorem fv_aggf (off : Nat) (n : Option Nat) (cs : List AV) : fldvR off n (.agg cs) = fun r => (off < cs.length ∧ ldR n (cs.drop off) r) := funext fun r => fv_agg off n cs r
theorem x_tup0f (c : AV) (cs : List AV) : extR 0 (.tup (c :: cs)) = fun r => r = c.alias := funext fun r => x_tup0 c cs r
theorem x_tupsf (j : Nat) (c : AV) (cs : List AV) : extR (j + 1) (.tup (c :: cs)) = extR j (.tup cs) := funext fun r => x_tups j c cs r
theorem nc_rof (cs : List AV) : nilcR (.ro cs) = fun r => r = .ro cs := funext fun r => nc_ro cs r
theorem nc_ptrf (b o : Nat) : nilcR (.ptr b o) = fun r => r = .ptr b o := funext fun r => nc_ptr b o r
theorem sc_strf (l : List UInt8) (a b : Nat) : slcR none (.str l) a b = fun r => ((a ≤ b ∧ b ≤ l.length) ∧ r = .str ((l.take b).drop a)) := funext fun r => sc_str l a b r
theorem sc_slf (size : Nat) (o : Option Nat) (l : List (List AV)) (a b : Nat) : slcR (some size) (.sl o size l) a b = fun r => ((a ≤ b ∧ b ≤ l.length) ∧ r = .sl none size ((l.take b).drop a)) := funext fun r => sc_sl size o l a b r
theorem cv_intf (k k' : IntKind) (n : Int) : convR k (.int k' n) = fun r => r = .int k (k.wrap n) := funext fun r => cv_int k k' n r
theorem ss_strf (l : List UInt8) : s2sR (.str l) = fun r => r = .str l := funext fun r => ss_str l r
theorem fl_nilf (cs : List AV) : fillR cs [] = fun r => r = cs := funext fun r => fl_nil cs r
theorem fl_consf (cs : List AV) (off n : Nat) (v : AV) (rest : List (Nat × Nat × AV)) : fillR cs ((off, n, v) :: rest) = fun r => ((v.cells.length = n ∧ 0 < n ∧ off + n ≤ cs.length) ∧ fillR (splice cs off v.cells) rest r) := funext fun r => fl_cons cs off n v rest r

theorem ai_ptr (n size b off : Nat) (k : IntKind) (m : Int) : aidxR n size (.ptr b off) (.int k m) = fun r => ((0 ≤ m ∧ m < (n : Int)) ∧ r = .ptr b (off + m.toNat * size)) := funext fun r => rfl
theorem ai_ro (n size : Nat) (cs : List AV) (k : IntKind) (m : Int) : aidxR n size (.ro cs) (.int k m) = fun r => ((0 ≤ m ∧ m < (n : Int)) ∧ r = .ro (cs.drop (m.toNat * size))) := funext fun r => rfl

def LeL {α : Type} : List (Nat × α) → (Nat → Option α) → Prop
  | [], _ => True
  | (k, v) :: r, f => f k = some v ∧ LeL r f
theorem LeL_ok {α : Type} {f : Nat → Option α} : ∀ {l : List (Nat × α)}, LeL l f → ∀ i v, lk l i = some v → f i = some v
  | [], _, i, v, h => by simp [lk] at h
  | (k, w) :: r, ⟨h1, h2⟩, i, v, h => by
    rw [lk_cons] at h
    by_cases hk : i = k
    · subst hk; rw [if_pos rfl] at h; rw [h1, h]
    · rw [if_neg hk] at h; exact LeL_ok h2 i v h
theorem Le_lit {a : List (Nat × AV)} {b : List (Nat × List AV)} {s : St} (h : LeL a s.t ∧ LeL b s.o) : Le ⟨lk a, lk b⟩ s := ⟨LeL_ok h.1, LeL_ok h.2⟩
theorem leK_lit {a : List (Nat × AV)} {b : List (Nat × List AV)} {s : St} (h : LeL a s.t ∧ LeL b s.o) : leK ⟨lk a, lk b⟩ s := Le_lit h
theorem Round_lit {α : Type} {inv : α → St} {phi : α → Prop} {m : α → Nat} {x : α} {s : St} (x' : α) (h : Le (inv x') s ∧ phi x' ∧ m x' < m x) : RoundQ inv phi m x s := ⟨x', h⟩

theorem Fact_lt {a b : Int} (h : Fact (decide (a < b) = true)) : a < b := of_decide_eq_true h
theorem Fact_nlt {a b : Int} (h : Fact (decide (a < b) = false)) : b ≤ a := Int.not_lt.1 (of_decide_eq_false h)
theorem Fact_le {a b : Int} (h : Fact (decide (a ≤ b) = true)) : a ≤ b := of_decide_eq_true h
theorem Fact_nle {a b : Int} (h : Fact (decide (a ≤ b) = false)) : b < a := Int.not_le.1 (of_decide_eq_false h)
theorem w64 {x : Int} (h : -9223372036854775808 ≤ x ∧ x ≤ 9223372036854775807) : IntKind.i64.wrap x = x := by rw [IntKind.wrap_i64]; omega
theorem ar_cellf (s : St) (i : Nat) (n : Option Nat) (r : AV) : arR s (.cell i n) r = K1 (s.t i) (fun p => KL (view s.o p) (fun cs => ldR n cs r)) := by
  apply propext
  exact ⟨fun ⟨p, cs, h1, h2, h3⟩ => ⟨p, h1, cs, h2, h3⟩, fun ⟨p, h1, cs, h2, h3⟩ => ⟨p, cs, h1, h2, h3⟩⟩

theorem ldE_own (s : St) (d : Option Nat) (b off : Nat) (cs : List AV) (e sz : Nat) (els : List (List AV)) : ldE s d b off cs (.sl (some e) sz els) = St.put { s with o := upd s.o b (some (splice cs off [.sl none sz els])) } d (.sl (some e) sz els) := rfl
theorem ldE_none (s : St) (d : Option Nat) (b off : Nat) (cs : List AV) (sz : Nat) (els : List (List AV)) : ldE s d b off cs (.sl none sz els) = s.put d (.sl none sz els) := rfl
theorem ldE_nils (s : St) (d : Option Nat) (b off : Nat) (cs : List AV) (e sz : Nat) : ldE s d b off cs (.nils e sz) = s.put d (.sl (some e) sz []) := rfl
theorem stE_own (s : St) (i b off : Nat) (cs : List AV) (e sz : Nat) (els : List (List AV)) : stE s i b off cs (.sl (some e) sz els) = ⟨upd s.t i (some (.sl none sz els)), upd s.o b (some (splice cs off [.sl (some e) sz els]))⟩ := rfl
theorem stE_none (s : St) (i b off : Nat) (cs : List AV) (sz : Nat) (els : List (List AV)) : stE s i b off cs (.sl none sz els) = ⟨s.t, upd s.o b (some (splice cs off [.sl none sz els]))⟩ := rfl
theorem ce_sln (o : Option Nat) (sz : Nat) (els : List (List AV)) : (AV.cells (.sl o sz els)).length = 1 := rfl
theorem lk_sub1 {b : Nat} {cs : List AV} {o : Nat → Option (List AV)} (h : o b = some cs) : ∀ b' cs', lk [(b, cs)] b' = some cs' → o b' = some cs' := by
  intro b' cs' h'
  rw [lk_cons] at h'
  by_cases hb : b' = b
  · subst hb; rw [if_pos rfl] at h'; rw [h, h']
  · rw [if_neg hb] at h'; cases h'
section
variable (s : St) (rs : List AR) (o1 : Nat → Option (List AV)) (Q : AV → (Nat → Option (List AV)) → Prop) (i : Nat)
theorem r2_n : retQ2 rs o1 Q .normal s = RetO s rs o1 Q := rfl
theorem r2_r : retQ2 rs o1 Q .ret s = RetO s rs o1 Q := rfl
theorem r2_e : retQ2 rs o1 Q (.exit i) s = False := rfl
end
theorem lk_hd {α : Type} (b : Nat) (x : α) (r : List (Nat × α)) : lk ((b, x) :: r) b = some x := by simp [lk]
theorem lk_tl {α : Type} {b k : Nat} {x y : α} {r : List (Nat × α)} (h : ¬ b = k) (g : lk r b = some x) : lk ((k, y) :: r) b = some x := by simp [lk, h, g]
theorem dom1 {α : Type} {b : Nat} {c c' : α} : ∀ b' cs, lk [(b, c)] b' = some cs → ∃ cs', lk [(b, c')] b' = some cs' := by
  intro b' cs h
  rw [lk_cons] at h ⊢
  by_cases hb : b' = b
  · rw [if_pos hb]; exact ⟨_, rfl⟩
  · rw [if_neg hb] at h; cases h
theorem put_lk (t : List (Nat × AV)) (o : Nat → Option (List AV)) (d : Nat) (v : AV) : St.put ⟨lk t, o⟩ (some d) v = ⟨lk ((d, v) :: t), o⟩ := by
  simp only [St.put, St.mk.injEq, and_true]
  funext j
  rfl
theorem ro_mk {s : St} {rs : List AR} {o1 o2 : List (Nat × List AV)} {r : AV} (h : resR s rs r ∧ LeL o2 s.o) (hd : ∀ b cs, lk o1 b = some cs → ∃ cs', lk o2 b = some cs') : RetO s rs (lk o1) (fun r' o' => r' = r ∧ o' = lk o2) :=
  ⟨r, h.1, lk o2, LeL_ok h.2, hd, rfl, rfl⟩
theorem ro_new {s : St} {rs : List AR} {b : Nat} {cs : List AV} (h : resR s rs (.ptr b 0) ∧ LeL [(b, cs)] s.o) : RetO s rs (fun _ => none) (fun r' o' => ∃ b, r' = .ptr b 0 ∧ o' = lk [(b, cs)]) :=
  ⟨_, h.1, _, LeL_ok h.2, (fun b cs e => by cases e), b, rfl, rfl⟩
section
variable {P : Program} {d : Option Nat} {s : St} {K : St → Prop}
theorem kW_mx (x y : Opd) : kW P d (.mx x y) s K = K1 (x.ev s) (bi1K maxR y d s K) := by
  apply propext
  constructor
  · rintro ⟨r, ⟨a, b, h1, h2, h3⟩, h4⟩; exact ⟨a, h1, b, h2, r, h3, h4⟩
  · rintro ⟨a, h1, b, h2, r, h3, h4⟩; exact ⟨r, ⟨a, b, h1, h2, h3⟩, h4⟩
theorem mx_int (k k' : IntKind) (a b : Int) : maxR (.int k a) (.int k' b) = fun r => r = .int k (if a < b then b else a) := rfl
def peqR (neg : Bool) : AV → AV → Prop
  | .ptr _ _, r => r = .bool neg
  | .ro _, r => r = .bool neg
  | .nilp, r => r = .bool !neg
  | .nilT _, r => r = .bool !neg
  | _, _ => False
theorem kW_peq (neg : Bool) (x : Opd) : kW P d (.peq neg x) s K = K1 (x.ev s) (un1K (peqR neg) d s K) := by
  apply propext
  constructor
  · rintro ⟨r, ⟨a, b, h1, h2, rfl⟩, h3⟩
    refine ⟨a, h1, _, ?_, h3⟩
    cases a <;> simp only [isNilP, Option.some.injEq, reduceCtorEq] at h2 <;> subst h2 <;> cases neg <;> rfl
  · rintro ⟨a, h1, r, h2, h3⟩
    cases a <;> try exact h2.elim
    all_goals (have h2' := h2; simp only [peqR] at h2'; subst h2'; exact ⟨_, ⟨_, _, h1, rfl, by cases neg <;> rfl⟩, h3⟩)
theorem pe_ptr (neg : Bool) (b o : Nat) : peqR neg (.ptr b o) = fun r => r = .bool neg := rfl
theorem pe_ro (neg : Bool) (cs : List AV) : peqR neg (.ro cs) = fun r => r = .bool neg := rfl
theorem pe_nilp (neg : Bool) : peqR neg .nilp = fun r => r = .bool !neg := rfl
def app0R (e size bytes : Nat) : AV → AV → Prop
  | .sl _ sz news, r => sz = size ∧ (news.length * bytes ≤ 140737488355328 ∧ news.length ≤ maxLen) ∧ r = .sl (some e) size news
  | _, _ => False
theorem kW_app0 (e size bytes : Nat) (x : Opd) : kW P d (.app0 e size bytes x) s K = K1 (x.ev s) (un1K (app0R e size bytes) d s K) := by
  apply propext
  constructor
  · rintro ⟨r, ⟨own, news, h1, h2, h3, rfl⟩, h4⟩; exact ⟨_, h1, _, ⟨rfl, ⟨h2, h3⟩, rfl⟩, h4⟩
  · rintro ⟨p, h1, r, h2, h3⟩
    cases p <;> try exact h2.elim
    obtain ⟨rfl, ⟨h4, h5⟩, rfl⟩ := h2
    exact ⟨_, ⟨_, _, h1, h4, h5, rfl⟩, h3⟩
theorem a0_sl (e size bytes : Nat) (own : Option Nat) (sz : Nat) (news : List (List AV)) : app0R e size bytes (.sl own sz news) = fun r => sz = size ∧ (news.length * bytes ≤ 140737488355328 ∧ news.length ≤ maxLen) ∧ r = .sl (some e) size news := rfl
def mkmK (d : Option Nat) (s : St) (K : St → Prop) (b : Nat) : Prop := KS (St.put { s with o := upd s.o b (some [.mp [] [] [] 0]) } d (.mapv b)) K
theorem kW_mkm : kW P d .mkm s K = NewB s.o (mkmK d s K) := rfl
def KF (o : Option (Option Nat)) (K : Option Nat → Prop) : Prop := ∃ f, o = some f ∧ K f
theorem KF_some (f : Option Nat) (K : Option Nat → Prop) : KF (some f) K = K f := by simp [KF]
def mqV (z : AV) (ok : Bool) (vl : List AV) : Option Nat → AV
  | some i => if ok then .tup [vl.getD i .undef, .bool true] else (vl.getD i .undef).alias
  | none => if ok then .tup [z, .bool false] else z.alias
theorem mqV_st (z : AV) (vl : List AV) (i : Nat) : mqV z true vl (some i) = .tup [vl.getD i .undef, .bool true] := rfl
theorem mqV_sf (z : AV) (vl : List AV) (i : Nat) : mqV z false vl (some i) = (vl.getD i .undef).alias := rfl
theorem mqV_nt (z : AV) (vl : List AV) : mqV z true vl none = .tup [z, .bool false] := rfl
theorem mqV_nf (z : AV) (vl : List AV) : mqV z false vl none = z.alias := rfl
def mq5 (z : AV) (ok : Bool) (vl : List AV) (d : Option Nat) (s : St) (K : St → Prop) (f : Option Nat) : Prop := KS (s.put d (mqV z ok vl f)) K
def mq6 (z : AV) (ok : Bool) (d : Option Nat) (s : St) (K : St → Prop) : Option Nat → Prop
  | none => KS (s.put d (mqV z ok [] none)) K
  | some _ => False
theorem mq6_n (z : AV) (ok : Bool) : mq6 z ok d s K none = KS (s.put d (mqV z ok [] none)) K := rfl
def mq4 (z : AV) (ok : Bool) (ks : List Kd) (ag : Bool) (k : AV) (d : Option Nat) (s : St) (K : St → Prop) : List AV → Prop
  | [.mp kl vl _ _] => KF (findM ks ag k kl) (mq5 z ok vl d s K)
  | _ => False
theorem mq_mp (z : AV) (ok : Bool) (ks : List Kd) (ag : Bool) (k : AV) (kl vl : List AV) (bs : List Nat) (clk : Nat) : mq4 z ok ks ag k d s K [.mp kl vl bs clk] = KF (findM ks ag k kl) (mq5 z ok vl d s K) := rfl
def mq3 (z : AV) (ok : Bool) (ks : List Kd) (ag : Bool) (d : Option Nat) (s : St) (K : St → Prop) : AV → AV → Prop
  | .mapv b, k => KL (s.o b) (mq4 z ok ks ag k d s K)
  | .rom kl vl, k => KF (findM ks ag k kl) (mq5 z ok vl d s K)
  | .nilm, k => KF (findM ks ag k []) (mq6 z ok d s K)
  | _, _ => False
theorem mq_rom (z : AV) (ok : Bool) (ks : List Kd) (ag : Bool) (kl vl : List AV) (k : AV) : mq3 z ok ks ag d s K (.rom kl vl) k = KF (findM ks ag k kl) (mq5 z ok vl d s K) := rfl
theorem mq_nilm (z : AV) (ok : Bool) (ks : List Kd) (ag : Bool) (k : AV) : mq3 z ok ks ag d s K .nilm k = KF (findM ks ag k []) (mq6 z ok d s K) := rfl
theorem mq_mapv (z : AV) (ok : Bool) (ks : List Kd) (ag : Bool) (b : Nat) (k : AV) : mq3 z ok ks ag d s K (.mapv b) k = KL (s.o b) (mq4 z ok ks ag k d s K) := rfl
def mq1 (z : AV) (ok : Bool) (ks : List Kd) (ag : Bool) (y : Opd) (d : Option Nat) (s : St) (K : St → Prop) (p : AV) : Prop := K1 (y.ev s) (mq3 z ok ks ag d s K p)
theorem kW_mq (z : AV) (ok : Bool) (ks : List Kd) (ag : Bool) (x y : Opd) : kW P d (.mq z ok ks ag x y) s K = K1 (x.ev s) (mq1 z ok ks ag y d s K) := by
  apply propext
  constructor
  · rintro ⟨r, ⟨a, b, h1, h2, h3⟩, h4⟩
    cases a <;> try exact h3.elim
    · obtain ⟨kl, vl, bs, clk, f, g1, g2, rfl⟩ := h3
      exact ⟨_, h1, _, h2, _, g1, f, g2, by cases f <;> exact h4⟩
    · obtain ⟨g2, rfl⟩ := h3
      exact ⟨_, h1, _, h2, none, g2, h4⟩
    · obtain ⟨f, g2, rfl⟩ := h3
      exact ⟨_, h1, _, h2, f, g2, by cases f <;> exact h4⟩
  · rintro ⟨a, h1, b, h2, h3⟩
    cases a <;> try exact h3.elim
    · obtain ⟨cs, g1, h3⟩ := h3
      unfold mq4 at h3
      split at h3
      · obtain ⟨f, g2, h4⟩ := h3
        exact ⟨_, ⟨_, _, h1, h2, _, _, _, _, f, g1, g2, rfl⟩, by cases f <;> exact h4⟩
      · exact h3.elim
    · obtain ⟨f, g2, h4⟩ := h3
      cases f with
      | none => exact ⟨_, ⟨_, _, h1, h2, g2, rfl⟩, h4⟩
      | some i => exact h4.elim
    · obtain ⟨f, g2, h4⟩ := h3
      exact ⟨_, ⟨_, _, h1, h2, f, g2, rfl⟩, by cases f <;> exact h4⟩
def muK (b : Nat) (d : Option Nat) (s : St) (K : St → Prop) (x : Option (AV × List AV)) : Prop := ∃ y, x = some y ∧ KS (St.put { s with o := upd s.o b (some y.2) } d y.1) K
theorem muK_some (b : Nat) (r : AV) (cs : List AV) : muK b d s K (some (r, cs)) = KS (St.put { s with o := upd s.o b (some cs) } d r) K := by simp [muK]
def mu5 (q : Nat) (z : AV) (ks : List Kd) (ag : Bool) (b : Nat) (k v : AV) (d : Option Nat) (s : St) (K : St → Prop) (cs : List AV) : Prop := muK b d s K (muF q z ks ag k v cs)
def mu4 (q : Nat) (z : AV) (ks : List Kd) (ag : Bool) (d : Option Nat) (s : St) (K : St → Prop) : AV → AV → AV → Prop
  | .mapv b, k, v => KL (s.o b) (mu5 q z ks ag b k v d s K)
  | _, _, _ => False
theorem mu_mapv (q : Nat) (z : AV) (ks : List Kd) (ag : Bool) (b : Nat) (k v : AV) : mu4 q z ks ag d s K (.mapv b) k v = KL (s.o b) (mu5 q z ks ag b k v d s K) := rfl
def mu2 (q : Nat) (z : AV) (ks : List Kd) (ag : Bool) (v : Opd) (p : AV) (d : Option Nat) (s : St) (K : St → Prop) (k : AV) : Prop := K1 (v.ev s) (mu4 q z ks ag d s K p k)
def mu1 (q : Nat) (z : AV) (ks : List Kd) (ag : Bool) (k v : Opd) (d : Option Nat) (s : St) (K : St → Prop) (p : AV) : Prop := K1 (k.ev s) (mu2 q z ks ag v p d s K)
theorem kW_mu (q : Nat) (z : AV) (ks : List Kd) (ag : Bool) (m k v : Opd) : kW P d (.mu q z ks ag m k v) s K = K1 (m.ev s) (mu1 q z ks ag k v d s K) := by
  apply propext
  constructor
  · rintro ⟨r, ⟨b, cs, h⟩, hK⟩
    obtain ⟨kv, vv, kl, vl, bs, clk, e1, e2, e3, e4, e5⟩ := muS_some h
    simp only [eff, h] at hK
    exact ⟨_, e1, _, e2, _, e3, _, e4, (r, cs), e5, hK⟩
  · rintro ⟨p, e1, kv, e2, vv, e3, h⟩
    cases p <;> try exact h.elim
    rename_i b
    obtain ⟨cs0, e4, ⟨r, cs⟩, e5, hK⟩ := h
    have hm : muS s q z ks ag m k v = some (b, r, cs) := by simp only [muS, e1, e2, e3, e4, Option.bind_some, e5, Option.map_some]
    refine ⟨r, ⟨b, cs, hm⟩, ?_⟩
    simp only [eff, hm]
    exact hK
def mu0F (k v : AV) (kl vl : List AV) (bs : List Nat) (clk : Nat) : Option Nat → AV × List AV
  | some i => (.undef, [.mp kl (vl.set i v.alias) bs clk])
  | none => (.undef, [.mp (kl ++ [k.alias]) (vl ++ [v.alias]) (bs ++ [clk]) (clk + 1)])
def mu1F (z k : AV) (kl vl : List AV) (bs : List Nat) (clk : Nat) : Option Nat → AV × List AV
  | some i => (.tup [vl.getD i .undef, .int .i64 (bs.getD i 0 : Nat)], [.mp kl vl bs clk])
  | none => (.tup [z, .int .i64 (clk : Nat)], [.mp (kl ++ [k.alias]) (vl ++ [z]) (bs ++ [clk]) (clk + 1)])
def mu3F (kl vl : List AV) (bs : List Nat) (clk : Nat) : Option Nat → AV × List AV
  | some i => (.undef, [.mp (kl.eraseIdx i) (vl.eraseIdx i) (bs.eraseIdx i) clk])
  | none => (.undef, [.mp kl vl bs clk])
theorem mu0_mp (z : AV) (ks : List Kd) (ag : Bool) (k v : AV) (kl vl : List AV) (bs : List Nat) (clk : Nat) : muF 0 z ks ag k v [.mp kl vl bs clk] = (findM ks ag k kl).map (mu0F k v kl vl bs clk) := by
  simp only [muF]; congr 1
theorem mu1_mp (z : AV) (ks : List Kd) (ag : Bool) (k v : AV) (kl vl : List AV) (bs : List Nat) (clk : Nat) : muF 1 z ks ag k v [.mp kl vl bs clk] = (findM ks ag k kl).map (mu1F z k kl vl bs clk) := by
  simp only [muF]; congr 1
theorem mu2_mp (z : AV) (ks : List Kd) (ag : Bool) (n : Int) (v : AV) (kl vl : List AV) (bs : List Nat) (clk : Nat) : muF 2 z ks ag (.int .i64 n) v [.mp kl vl bs clk] = (findB n bs 0).map fun i => (.undef, [.mp kl (vl.set i v.alias) bs clk]) := rfl
theorem mu3_mp (z : AV) (ks : List Kd) (ag : Bool) (k v : AV) (kl vl : List AV) (bs : List Nat) (clk : Nat) : muF 3 z ks ag k v [.mp kl vl bs clk] = (findM ks ag k kl).map (mu3F kl vl bs clk) := by
  simp only [muF]; congr 1
theorem mu0_s (k v : AV) (kl vl : List AV) (bs : List Nat) (clk i : Nat) : mu0F k v kl vl bs clk (some i) = (.undef, [.mp kl (vl.set i v.alias) bs clk]) := rfl
theorem mu0_n (k v : AV) (kl vl : List AV) (bs : List Nat) (clk : Nat) : mu0F k v kl vl bs clk none = (.undef, [.mp (kl ++ [k.alias]) (vl ++ [v.alias]) (bs ++ [clk]) (clk + 1)]) := rfl
theorem mu1_s (z k : AV) (kl vl : List AV) (bs : List Nat) (clk i : Nat) : mu1F z k kl vl bs clk (some i) = (.tup [vl.getD i .undef, .int .i64 (bs.getD i 0 : Nat)], [.mp kl vl bs clk]) := rfl
theorem mu1_n (z k : AV) (kl vl : List AV) (bs : List Nat) (clk : Nat) : mu1F z k kl vl bs clk none = (.tup [z, .int .i64 (clk : Nat)], [.mp (kl ++ [k.alias]) (vl ++ [z]) (bs ++ [clk]) (clk + 1)]) := rfl
theorem mu3_s (kl vl : List AV) (bs : List Nat) (clk i : Nat) : mu3F kl vl bs clk (some i) = (.undef, [.mp (kl.eraseIdx i) (vl.eraseIdx i) (bs.eraseIdx i) clk]) := rfl
theorem mu3_n (kl vl : List AV) (bs : List Nat) (clk : Nat) : mu3F kl vl bs clk none = (.undef, [.mp kl vl bs clk]) := rfl
def BytesO (els : List AV) (n : Nat) (K : List UInt8 → Prop) : Prop := ∃ l : List UInt8, els = l.map byC ∧ l.length = n ∧ K l
theorem BytesO_intro {els : List AV} {n : Nat} {K : List UInt8 → Prop} (l : List UInt8) (h : els = l.map byC) (hl : l.length = n) (hK : K l) : BytesO els n K := ⟨l, h, hl, hK⟩
def b2oL (off n : Nat) (d : Option Nat) (s : St) (K : St → Prop) (cs : List AV) : Prop := BytesO ((cs.drop off).take n) n (strK d s K)
theorem b2oL_mk (off n : Nat) (cs : List AV) : b2oL off n d s K cs = BytesO ((cs.drop off).take n) n (strK d s K) := rfl
def b2oK (d : Option Nat) (s : St) (K : St → Prop) : AV → Prop
  | .sl _ sz els => sz = 1 ∧ BytesW els (strK d s K)
  | .osl b off n => KL (s.o b) (b2oL off n d s K)
  | _ => False
theorem b2o_sl (o : Option Nat) (sz : Nat) (els : List (List AV)) : b2oK d s K (.sl o sz els) = (sz = 1 ∧ BytesW els (strK d s K)) := rfl
theorem b2o_osl (b off n : Nat) : b2oK d s K (.osl b off n) = KL (s.o b) (b2oL off n d s K) := rfl
theorem kW_b2o (x : Opd) : kW P d (.b2o x) s K = K1 (x.ev s) (b2oK d s K) := by
  apply propext
  constructor
  · rintro ⟨p, h1, h⟩
    cases p <;> try exact h.elim
    · obtain ⟨h2, l, h3, h4⟩ := h
      exact ⟨_, h1, h2, l, h3, h4⟩
    · obtain ⟨cs, l, h2, ⟨h3, h4⟩, h5⟩ := h
      exact ⟨_, h1, cs, h2, l, h3, h4, h5⟩
  · rintro ⟨p, h1, h⟩
    cases p <;> try exact h.elim
    · obtain ⟨h2, l, h3, h4⟩ := h
      exact ⟨_, h1, h2, l, h3, h4⟩
    · obtain ⟨cs, h2, l, h3, h4, h5⟩ := h
      exact ⟨_, h1, cs, l, h2, ⟨h3, h4⟩, h5⟩
def b2dK (d : Option Nat) (s : St) (K : St → Prop) : AV → Prop
  | .osl b off n => KL (s.o b) (b2oL off n d s K)
  | _ => False
theorem b2d_osl (b off n : Nat) : b2dK d s K (.osl b off n) = KL (s.o b) (b2oL off n d s K) := rfl
theorem kW_b2d (x : Opd) : kW P d (.b2d x) s K = K1 (x.ev s) (b2dK d s K) := by
  apply propext
  constructor
  · rintro ⟨r, ⟨b, off, n, cs, l, h1, h2, ⟨h3, h4⟩, rfl⟩, h5⟩
    exact ⟨_, h1, cs, h2, l, h3, h4, h5⟩
  · rintro ⟨p, h1, h⟩
    cases p <;> try exact h.elim
    obtain ⟨cs, h2, l, h3, h4, h5⟩ := h
    exact ⟨_, ⟨_, _, _, cs, l, h1, h2, ⟨h3, h4⟩, rfl⟩, h5⟩
def aslR (n : Nat) : AV → AV → Prop
  | .ptr b off, r => r = .osl b off n
  | _, _ => False
theorem as_ptr (n b off : Nat) : aslR n (.ptr b off) = fun r => r = .osl b off n := rfl
theorem kW_asl (n : Nat) (x : Opd) : kW P d (.asl n x) s K = K1 (x.ev s) (un1K (aslR n) d s K) := by
  apply propext
  constructor
  · rintro ⟨r, ⟨b, off, h1, h2⟩, h3⟩; exact ⟨_, h1, r, h2, h3⟩
  · rintro ⟨p, h1, r, h3, h4⟩
    cases p <;> try exact h3.elim
    exact ⟨r, ⟨_, _, h1, h3⟩, h4⟩
def s2bR (e : Nat) : AV → AV → Prop
  | .str l, r => l.length ≤ 140737488355328 ∧ r = .sl (some e) 1 (l.map byteEl)
  | _, _ => False
theorem sb_str (e : Nat) (l : List UInt8) : s2bR e (.str l) = fun r => l.length ≤ 140737488355328 ∧ r = .sl (some e) 1 (l.map byteEl) := rfl
theorem kW_s2b (e : Nat) (x : Opd) : kW P d (.s2b e x) s K = K1 (x.ev s) (un1K (s2bR e) d s K) := by
  apply propext
  constructor
  · rintro ⟨r, ⟨l, h1, h2⟩, h3⟩; exact ⟨_, h1, r, h2, h3⟩
  · rintro ⟨p, h1, r, h3, h4⟩
    cases p <;> try exact h3.elim
    exact ⟨r, ⟨_, h1, h3⟩, h4⟩
def rngK (m clk : Nat) (d : Option Nat) (s : St) (K : St → Prop) (b : Nat) : Prop := KS (St.put { s with o := upd s.o b (some [.mit m clk [] clk]) } d (.itp b)) K
def rng2 (m : Nat) (d : Option Nat) (s : St) (K : St → Prop) : List AV → Prop
  | [.mp _ _ _ clk] => NewB s.o (rngK m clk d s K)
  | _ => False
theorem rng_mp (m : Nat) (kl vl : List AV) (bs : List Nat) (clk : Nat) : rng2 m d s K [.mp kl vl bs clk] = NewB s.o (rngK m clk d s K) := rfl
def rng1 (d : Option Nat) (s : St) (K : St → Prop) : AV → Prop
  | .mapv m => KL (s.o m) (rng2 m d s K)
  | _ => False
theorem rng_mapv (m : Nat) : rng1 d s K (.mapv m) = KL (s.o m) (rng2 m d s K) := rfl
theorem kW_rng (x : Opd) : kW P d (.rng x) s K = K1 (x.ev s) (rng1 d s K) := by
  apply propext
  constructor
  · rintro ⟨p, h1, h⟩
    cases p <;> try exact h.elim
    obtain ⟨kl, vl, bs, clk, h2, h3⟩ := h
    exact ⟨_, h1, _, h2, h3⟩
  · rintro ⟨p, h1, h⟩
    cases p <;> try exact h.elim
    obtain ⟨cs, h2, h3⟩ := h
    unfold rng2 at h3
    split at h3
    · exact ⟨_, h1, _, _, _, _, h2, h3⟩
    · exact h3.elim
def NxtW (b m since : Nat) (seen : List Nat) (last : Nat) (kl vl : List AV) (bs : List Nat) (clk : Nat) (d : Option Nat) (s : St) (K : St → Prop) : Prop :=
  (clk = since ∧ last = clk) ∧ (∀ i n, bs[i]? = some n → n ∉ seen → KS (St.put { s with o := upd s.o b (some [.mit m since (seen ++ [n]) clk]) } d (.tup [.bool true, kl.getD i .undef, vl.getD i .undef])) K) ∧ ((∀ n ∈ bs, n ∈ seen) → KS (s.put d (.tup [.bool false])) K)
def nxt3 (b m since : Nat) (seen : List Nat) (last : Nat) (d : Option Nat) (s : St) (K : St → Prop) : List AV → Prop
  | [.mp kl vl bs clk] => NxtW b m since seen last kl vl bs clk d s K
  | _ => False
theorem nxt_mp (b m since : Nat) (seen : List Nat) (last : Nat) (kl vl : List AV) (bs : List Nat) (clk : Nat) : nxt3 b m since seen last d s K [.mp kl vl bs clk] = NxtW b m since seen last kl vl bs clk d s K := rfl
def nxt2 (b : Nat) (d : Option Nat) (s : St) (K : St → Prop) : List AV → Prop
  | [.mit m since seen last] => KL (s.o m) (nxt3 b m since seen last d s K)
  | _ => False
theorem nxt_mit (b m since : Nat) (seen : List Nat) (last : Nat) : nxt2 b d s K [.mit m since seen last] = KL (s.o m) (nxt3 b m since seen last d s K) := rfl
def nxt1 (d : Option Nat) (s : St) (K : St → Prop) : AV → Prop
  | .itp b => KL (s.o b) (nxt2 b d s K)
  | _ => False
theorem nxt_itp (b : Nat) : nxt1 d s K (.itp b) = KL (s.o b) (nxt2 b d s K) := rfl
theorem kW_nxt (x : Opd) : kW P d (.nxt x) s K = K1 (x.ev s) (nxt1 d s K) := by
  apply propext
  constructor
  · rintro ⟨p, h1, h⟩
    cases p <;> try exact h.elim
    obtain ⟨m, since, seen, last, kl, vl, bs, clk, h2, h3, h4⟩ := h
    exact ⟨_, h1, _, h2, _, h3, h4⟩
  · rintro ⟨p, h1, h⟩
    cases p <;> try exact h.elim
    obtain ⟨cs, h2, h3⟩ := h
    unfold nxt2 at h3
    split at h3
    · obtain ⟨cs', h4, h5⟩ := h3
      unfold nxt3 at h5
      split at h5
      · exact ⟨_, h1, _, _, _, _, _, _, _, _, h2, h4, h5⟩
      · exact h5.elim
    · exact h3.elim
def EntW (seen : List Nat) (last : Nat) (kl vl : List AV) (bs : List Nat) (clk : Nat) (d : Option Nat) (s : St) (K : St → Prop) : Prop := clk = last ∧ ∃ i n, seen.getLast? = some n ∧ bs[i]? = some n ∧ KS (s.put d (.tup [kl.getD i .undef, vl.getD i .undef])) K
def ent3 (seen : List Nat) (last : Nat) (d : Option Nat) (s : St) (K : St → Prop) : List AV → Prop
  | [.mp kl vl bs clk] => EntW seen last kl vl bs clk d s K
  | _ => False
theorem ent_mp (seen : List Nat) (last : Nat) (kl vl : List AV) (bs : List Nat) (clk : Nat) : ent3 seen last d s K [.mp kl vl bs clk] = EntW seen last kl vl bs clk d s K := rfl
def ent2 (d : Option Nat) (s : St) (K : St → Prop) : List AV → Prop
  | [.mit m _ seen last] => KL (s.o m) (ent3 seen last d s K)
  | _ => False
theorem ent_mit (m since : Nat) (seen : List Nat) (last : Nat) : ent2 d s K [.mit m since seen last] = KL (s.o m) (ent3 seen last d s K) := rfl
def ent1 (d : Option Nat) (s : St) (K : St → Prop) : AV → Prop
  | .itp b => KL (s.o b) (ent2 d s K)
  | _ => False
theorem ent_itp (b : Nat) : ent1 d s K (.itp b) = KL (s.o b) (ent2 d s K) := rfl
theorem kW_ent (x : Opd) : kW P d (.ent x) s K = K1 (x.ev s) (ent1 d s K) := by
  apply propext
  constructor
  · rintro ⟨r, ⟨p, h1, h⟩, hK⟩
    cases p <;> try exact h.elim
    obtain ⟨m, since, seen, last, kl, vl, bs, clk, i, n, h2, h3, h4, h5, h6, rfl⟩ := h
    exact ⟨_, h1, _, h2, _, h3, h4, i, n, h5, h6, hK⟩
  · rintro ⟨p, h1, h⟩
    cases p <;> try exact h.elim
    obtain ⟨cs, h2, h3⟩ := h
    unfold ent2 at h3
    split at h3
    · obtain ⟨cs', h4, h5⟩ := h3
      unfold ent3 at h5
      split at h5
      · obtain ⟨h6, i, n, h7, h8, hK⟩ := h5
        exact ⟨_, ⟨_, h1, _, _, _, _, _, _, _, _, i, n, h2, h4, h6, h7, h8, rfl⟩, hK⟩
      · exact h5.elim
    · exact h3.elim
end
theorem al_mapv (b : Nat) : AV.alias (.mapv b) = .mapv b := rfl
theorem ce_mapv (b : Nat) : AV.cells (.mapv b) = [.mapv b] := rfl
theorem so_mapv (b : Nat) : AV.store (.mapv b) = .mapv b := rfl
theorem al_nilm : AV.alias .nilm = .nilm := rfl
theorem al_rom (a b : List AV) : AV.alias (.rom a b) = .rom a b := rfl
theorem ce_rom (a b : List AV) : AV.cells (.rom a b) = [.rom a b] := rfl
theorem so_rom (a b : List AV) : AV.store (.rom a b) = .rom a b := rfl
theorem ce_nilm : AV.cells .nilm = [.nilm] := rfl
theorem so_nilm : AV.store .nilm = .nilm := rfl
theorem al_itp (b : Nat) : AV.alias (.itp b) = .itp b := rfl
theorem ce_itp (b : Nat) : AV.cells (.itp b) = [.itp b] := rfl
end Go.Proofs.YtmmmbmljompamaaGreatDoor

namespace Go.Proofs.YtmmmbmljompamaaGreatDoor
set_option linter.all false
theorem Ed : (((((((type_of% @opsW_cons ∧ type_of% @opsW_nil) ∧ (type_of% @opsK_ap ∧ (type_of% @opW_none ∧ type_of% @opW_some))) ∧ ((type_of% @kW_mv ∧ type_of% @kW_nil) ∧ (type_of% @kW_tk ∧ (type_of% @kW_newv ∧ type_of% @kW_box)))) ∧ (((type_of% @kW_ld ∧ type_of% @kW_sto) ∧ (type_of% @kW_fld ∧ (type_of% @kW_idx ∧ type_of% @kW_sidx))) ∧ ((type_of% @kW_bin ∧ (type_of% @kW_beq ∧ type_of% @kW_un)) ∧ (type_of% @kW_len ∧ (type_of% @kW_app ∧ type_of% @kW_bs))))) ∧ ((((type_of% @kW_bld ∧ type_of% @kW_fldv) ∧ (type_of% @kW_call ∧ (type_of% @kW_ext ∧ type_of% @kW_nilc))) ∧ ((type_of% @kW_pick ∧ type_of% @kW_slc) ∧ (type_of% @kW_conv ∧ (type_of% @kW_s2s ∧ type_of% @kW_b2s)))) ∧ (((type_of% @wpx_skip ∧ type_of% @wpx_reg) ∧ (type_of% @wpx_seq ∧ (type_of% @wpx_cond ∧ type_of% @wpx_block))) ∧ ((type_of% @wpx_loopW ∧ (type_of% @wpx_exit ∧ type_of% @wpx_ret)) ∧ (type_of% @nQ_ap ∧ (type_of% @wQ_ap ∧ type_of% @th_n)))))) ∧ (((((type_of% @th_r ∧ type_of% @th_e) ∧ (type_of% @bl_n ∧ (type_of% @bl_r ∧ type_of% @bl_e))) ∧ ((type_of% @rq_n ∧ type_of% @rq_r) ∧ (type_of% @rq_e ∧ (type_of% @r3_n ∧ type_of% @r3_r)))) ∧ (((type_of% @r3_e ∧ type_of% @r_one) ∧ (type_of% @r_two ∧ (type_of% @r_nil ∧ type_of% @rl_cons))) ∧ ((type_of% @l_one ∧ (type_of% @l_all ∧ type_of% @putK.eq_1)) ∧ (type_of% @mvK.eq_1 ∧ (type_of% @tkK.eq_1 ∧ type_of% @newK.eq_1))))) ∧ ((((type_of% @boxK.eq_1 ∧ type_of% @ldK2.eq_1) ∧ (type_of% @ldK.eq_1 ∧ (type_of% @stoK.eq_1 ∧ type_of% @sto2K.eq_1))) ∧ ((type_of% @sto1K.eq_1 ∧ type_of% @un1K.eq_1) ∧ (type_of% @bi2K.eq_1 ∧ (type_of% @bi1K.eq_1 ∧ type_of% @app2K.eq_1)))) ∧ (((type_of% @app1K.eq_1 ∧ type_of% @bsK.eq_1) ∧ (type_of% @aggK.eq_1 ∧ (type_of% @bldK.eq_1 ∧ type_of% @callK.eq_1))) ∧ ((type_of% @pk3K.eq_1 ∧ (type_of% @pk2K.eq_1 ∧ type_of% @pk1K.eq_1)) ∧ (type_of% @sl3K.eq_1 ∧ (type_of% @sl2K.eq_1 ∧ type_of% @sl1K.eq_1))))))) ∧ ((((((type_of% @strK.eq_1 ∧ type_of% @b2K.eq_1) ∧ (type_of% @bwK.eq_1 ∧ (type_of% @pk_t ∧ type_of% @pk_f))) ∧ ((type_of% @bw_some ∧ type_of% @c_t) ∧ (type_of% @c_f ∧ (type_of% @g_tt ∧ type_of% @g_tf)))) ∧ (((type_of% @g_ft ∧ type_of% @g_ff) ∧ (type_of% @g_undef ∧ (type_of% @kW_callo ∧ type_of% @kW_calln))) ∧ ((type_of% @callnK.eq_1 ∧ (type_of% @kW_callv ∧ type_of% @kW_hbs)) ∧ (type_of% @hbsK.eq_1 ∧ (type_of% @hbsN.eq_1 ∧ type_of% @kW_ldt))))) ∧ ((((type_of% @kW_stt ∧ type_of% @calloK.eq_1) ∧ (type_of% @ldt3.eq_1 ∧ (type_of% @ldt2.eq_1 ∧ type_of% @stt3.eq_1))) ∧ ((type_of% @stt1.eq_1 ∧ type_of% @r2_n) ∧ (type_of% @r2_r ∧ (type_of% @r2_e ∧ type_of% @kW_aeq)))) ∧ (((type_of% @RK_aeqf ∧ type_of% @RK_aeqt) ∧ (type_of% @kW_apps ∧ (type_of% @apps2K.eq_1 ∧ type_of% @apps1K.eq_1))) ∧ ((type_of% @kW_aidx ∧ (type_of% @kW_mk ∧ type_of% @mkK.eq_1)) ∧ (type_of% @kW_vidx ∧ (type_of% @kW_mn ∧ type_of% @otF_nil)))))) ∧ (((((type_of% @otF_op ∧ type_of% @otF_two) ∧ (type_of% @otFK_ap ∧ (type_of% @otW_nil ∧ type_of% @otW_op))) ∧ ((type_of% @otW_two ∧ type_of% @otWK_ap) ∧ (type_of% @twoK.eq_1 ∧ (type_of% @wpx_treeW ∧ type_of% @kW_mx)))) ∧ (((type_of% @kW_mkm ∧ type_of% @mkmK.eq_1) ∧ (type_of% @mq5.eq_1 ∧ (type_of% @mq1.eq_1 ∧ type_of% @kW_mq))) ∧ ((type_of% @mu5.eq_1 ∧ (type_of% @mu2.eq_1 ∧ type_of% @mu1.eq_1)) ∧ (type_of% @kW_mu ∧ (type_of% @rngK.eq_1 ∧ type_of% @kW_rng))))) ∧ ((((type_of% @kW_nxt ∧ type_of% @kW_ent) ∧ (type_of% @kW_peq ∧ (type_of% @kW_app0 ∧ type_of% @kW_cro))) ∧ ((type_of% @croK.eq_1 ∧ (type_of% @kW_ldr ∧ type_of% @kW_ldh)) ∧ (type_of% @ldhK2.eq_1 ∧ (type_of% @ldhK.eq_1 ∧ type_of% @kW_b2o)))) ∧ (((type_of% @kW_b2d ∧ type_of% @kW_asl) ∧ (type_of% @kW_s2b ∧ (type_of% @kW_hslc ∧ type_of% @hs1K.eq_1))) ∧ ((type_of% @hs2K.eq_1 ∧ (type_of% @hs3K.eq_1 ∧ type_of% @kW_hnl)) ∧ (type_of% @kW_hap0 ∧ (type_of% @kW_hap ∧ type_of% @hap1K.eq_1)))))))) :=
  ⟨⟨⟨⟨⟨⟨⟨@opsW_cons, @opsW_nil⟩, ⟨@opsK_ap, ⟨@opW_none, @opW_some⟩⟩⟩, ⟨⟨@kW_mv, @kW_nil⟩, ⟨@kW_tk, ⟨@kW_newv, @kW_box⟩⟩⟩⟩, ⟨⟨⟨@kW_ld, @kW_sto⟩, ⟨@kW_fld, ⟨@kW_idx, @kW_sidx⟩⟩⟩, ⟨⟨@kW_bin, ⟨@kW_beq, @kW_un⟩⟩, ⟨@kW_len, ⟨@kW_app, @kW_bs⟩⟩⟩⟩⟩, ⟨⟨⟨⟨@kW_bld, @kW_fldv⟩, ⟨@kW_call, ⟨@kW_ext, @kW_nilc⟩⟩⟩, ⟨⟨@kW_pick, @kW_slc⟩, ⟨@kW_conv, ⟨@kW_s2s, @kW_b2s⟩⟩⟩⟩, ⟨⟨⟨@wpx_skip, @wpx_reg⟩, ⟨@wpx_seq, ⟨@wpx_cond, @wpx_block⟩⟩⟩, ⟨⟨@wpx_loopW, ⟨@wpx_exit, @wpx_ret⟩⟩, ⟨@nQ_ap, ⟨@wQ_ap, @th_n⟩⟩⟩⟩⟩⟩, ⟨⟨⟨⟨⟨@th_r, @th_e⟩, ⟨@bl_n, ⟨@bl_r, @bl_e⟩⟩⟩, ⟨⟨@rq_n, @rq_r⟩, ⟨@rq_e, ⟨@r3_n, @r3_r⟩⟩⟩⟩, ⟨⟨⟨@r3_e, @r_one⟩, ⟨@r_two, ⟨@r_nil, @rl_cons⟩⟩⟩, ⟨⟨@l_one, ⟨@l_all, @putK.eq_1⟩⟩, ⟨@mvK.eq_1, ⟨@tkK.eq_1, @newK.eq_1⟩⟩⟩⟩⟩, ⟨⟨⟨⟨@boxK.eq_1, @ldK2.eq_1⟩, ⟨@ldK.eq_1, ⟨@stoK.eq_1, @sto2K.eq_1⟩⟩⟩, ⟨⟨@sto1K.eq_1, @un1K.eq_1⟩, ⟨@bi2K.eq_1, ⟨@bi1K.eq_1, @app2K.eq_1⟩⟩⟩⟩, ⟨⟨⟨@app1K.eq_1, @bsK.eq_1⟩, ⟨@aggK.eq_1, ⟨@bldK.eq_1, @callK.eq_1⟩⟩⟩, ⟨⟨@pk3K.eq_1, ⟨@pk2K.eq_1, @pk1K.eq_1⟩⟩, ⟨@sl3K.eq_1, ⟨@sl2K.eq_1, @sl1K.eq_1⟩⟩⟩⟩⟩⟩⟩, ⟨⟨⟨⟨⟨⟨@strK.eq_1, @b2K.eq_1⟩, ⟨@bwK.eq_1, ⟨@pk_t, @pk_f⟩⟩⟩, ⟨⟨@bw_some, @c_t⟩, ⟨@c_f, ⟨@g_tt, @g_tf⟩⟩⟩⟩, ⟨⟨⟨@g_ft, @g_ff⟩, ⟨@g_undef, ⟨@kW_callo, @kW_calln⟩⟩⟩, ⟨⟨@callnK.eq_1, ⟨@kW_callv, @kW_hbs⟩⟩, ⟨@hbsK.eq_1, ⟨@hbsN.eq_1, @kW_ldt⟩⟩⟩⟩⟩, ⟨⟨⟨⟨@kW_stt, @calloK.eq_1⟩, ⟨@ldt3.eq_1, ⟨@ldt2.eq_1, @stt3.eq_1⟩⟩⟩, ⟨⟨@stt1.eq_1, @r2_n⟩, ⟨@r2_r, ⟨@r2_e, @kW_aeq⟩⟩⟩⟩, ⟨⟨⟨@RK_aeqf, @RK_aeqt⟩, ⟨@kW_apps, ⟨@apps2K.eq_1, @apps1K.eq_1⟩⟩⟩, ⟨⟨@kW_aidx, ⟨@kW_mk, @mkK.eq_1⟩⟩, ⟨@kW_vidx, ⟨@kW_mn, @otF_nil⟩⟩⟩⟩⟩⟩, ⟨⟨⟨⟨⟨@otF_op, @otF_two⟩, ⟨@otFK_ap, ⟨@otW_nil, @otW_op⟩⟩⟩, ⟨⟨@otW_two, @otWK_ap⟩, ⟨@twoK.eq_1, ⟨@wpx_treeW, @kW_mx⟩⟩⟩⟩, ⟨⟨⟨@kW_mkm, @mkmK.eq_1⟩, ⟨@mq5.eq_1, ⟨@mq1.eq_1, @kW_mq⟩⟩⟩, ⟨⟨@mu5.eq_1, ⟨@mu2.eq_1, @mu1.eq_1⟩⟩, ⟨@kW_mu, ⟨@rngK.eq_1, @kW_rng⟩⟩⟩⟩⟩, ⟨⟨⟨⟨@kW_nxt, @kW_ent⟩, ⟨@kW_peq, ⟨@kW_app0, @kW_cro⟩⟩⟩, ⟨⟨@croK.eq_1, ⟨@kW_ldr, @kW_ldh⟩⟩, ⟨@ldhK2.eq_1, ⟨@ldhK.eq_1, @kW_b2o⟩⟩⟩⟩, ⟨⟨⟨@kW_b2d, @kW_asl⟩, ⟨@kW_s2b, ⟨@kW_hslc, @hs1K.eq_1⟩⟩⟩, ⟨⟨@hs2K.eq_1, ⟨@hs3K.eq_1, @kW_hnl⟩⟩, ⟨@kW_hap0, ⟨@kW_hap, @hap1K.eq_1⟩⟩⟩⟩⟩⟩⟩⟩
theorem Eu : ((((((((type_of% @rl_nil ∧ type_of% @ar_tmp) ∧ (type_of% @ar_cellf ∧ type_of% @K1_some)) ∧ ((type_of% @KL_some ∧ type_of% @KP_some) ∧ (type_of% @RK_eq ∧ (type_of% @RK_and ∧ type_of% @RK_andx)))) ∧ (((type_of% @RL_eq ∧ type_of% @RL_andx) ∧ (type_of% @KS_lit ∧ type_of% @BytesW_map)) ∧ ((type_of% @st0_eq ∧ type_of% @put_lk) ∧ (type_of% @put_none ∧ (type_of% @upd_lk ∧ type_of% @upd_del))))) ∧ ((((type_of% @ev_t ∧ type_of% @ev_c) ∧ (type_of% @lk_cons ∧ type_of% @lk_nil)) ∧ ((type_of% @pt_cons ∧ type_of% @pt_nil) ∧ (type_of% @del_cons ∧ (type_of% @del_nil ∧ type_of% @num_cons)))) ∧ (((type_of% @num_nil ∧ type_of% @al_int) ∧ (type_of% @al_bool ∧ (type_of% @al_str ∧ type_of% @al_agg))) ∧ ((type_of% @al_sl ∧ type_of% @al_ro) ∧ (type_of% @al_ptr ∧ (type_of% @al_nilp ∧ type_of% @al_fn)))))) ∧ (((((type_of% @al_clo ∧ type_of% @so_clo) ∧ (type_of% @ce_clo ∧ type_of% @al_tup)) ∧ ((type_of% @al_undef ∧ type_of% @ce_int) ∧ (type_of% @ce_bool ∧ (type_of% @ce_str ∧ type_of% @ce_agg)))) ∧ (((type_of% @ce_sl ∧ type_of% @ce_ro) ∧ (type_of% @ce_ptr ∧ type_of% @ce_nilp)) ∧ ((type_of% @tk_own ∧ type_of% @tk_none) ∧ (type_of% @tk_int ∧ (type_of% @b_addf ∧ type_of% @b_subf))))) ∧ ((((type_of% @b_mulf ∧ type_of% @b_quof) ∧ (type_of% @b_remf ∧ type_of% @b_eqlf)) ∧ ((type_of% @b_neqf ∧ type_of% @b_lssf) ∧ (type_of% @b_leqf ∧ (type_of% @b_gtrf ∧ type_of% @b_geqf)))) ∧ (((type_of% @b_catf ∧ type_of% @b_seqlf) ∧ (type_of% @b_sneqf ∧ (type_of% @b_slssf ∧ type_of% @be_ff))) ∧ ((type_of% @be_tf ∧ type_of% @u_notf) ∧ (type_of% @u_xorf ∧ (type_of% @u_negf ∧ type_of% @v_ro))))))) ∧ ((((((type_of% @v_ptr ∧ type_of% @l_onef) ∧ (type_of% @l_allf ∧ type_of% @f_rof)) ∧ ((type_of% @f_ptrf ∧ type_of% @n_strf) ∧ (type_of% @n_slf ∧ (type_of% @i_slf ∧ type_of% @i_strf)))) ∧ (((type_of% @a_appf ∧ type_of% @fv_aggf) ∧ (type_of% @x_tup0f ∧ type_of% @x_tupsf)) ∧ ((type_of% @nc_rof ∧ type_of% @nc_ptrf) ∧ (type_of% @so_ptr ∧ (type_of% @bt_sl ∧ type_of% @sc_strf))))) ∧ ((((type_of% @sc_slf ∧ type_of% @lo_str) ∧ (type_of% @lo_sl ∧ type_of% @bw_none)) ∧ ((type_of% @iw_int ∧ type_of% @cv_intf) ∧ (type_of% @ss_strf ∧ (type_of% @evs_nil ∧ type_of% @evs_cons)))) ∧ (((type_of% @evp_nil ∧ type_of% @evp_cons) ∧ (type_of% @fl_nilf ∧ (type_of% @fl_consf ∧ type_of% @sp_0n))) ∧ ((type_of% @sp_0 ∧ type_of% @sp_s) ∧ (type_of% @sz_nil ∧ (type_of% @sz_cons ∧ type_of% @Option.some.injEq.{0})))))) ∧ (((((type_of% @exists_eq_left.{1} ∧ type_of% @exists_eq_left'.{1}) ∧ (type_of% @List.map_cons.{0, 0} ∧ type_of% @List.map_nil.{0, 0})) ∧ ((type_of% @List.length_cons.{0} ∧ type_of% @List.length_nil.{0}) ∧ (type_of% @List.drop_succ_cons.{0} ∧ (type_of% @List.drop_zero.{0} ∧ type_of% @List.take_succ_cons.{0})))) ∧ (((type_of% @List.take_zero.{0} ∧ type_of% @Option.map_some.{0, 0}) ∧ (type_of% @Option.bind_some.{0, 0} ∧ type_of% @true_and)) ∧ ((type_of% @and_true ∧ type_of% @Bool.not_true) ∧ (type_of% @Bool.not_false ∧ (type_of% @ne_eq.{1} ∧ type_of% @not_true_eq_false))))) ∧ ((((type_of% @not_false_eq_true ∧ type_of% @Option.getD_some.{0}) ∧ (type_of% @Option.getD_none.{0} ∧ type_of% @AV.bool.injEq)) ∧ ((type_of% @AV.int.injEq ∧ type_of% @AV.str.injEq) ∧ (type_of% @AV.ptr.injEq ∧ (type_of% @AV.sl.injEq ∧ type_of% @AV.ro.injEq)))) ∧ (((type_of% @AV.agg.injEq ∧ type_of% @AV.tup.injEq) ∧ (type_of% @Nat.zero_add ∧ (type_of% @Nat.add_zero ∧ type_of% @Bool.not_not))) ∧ ((type_of% @eq_self.{1} ∧ type_of% @Nat.zero_lt_succ) ∧ (type_of% @decide_true ∧ (type_of% @decide_false ∧ type_of% @Int.toNat_natCast)))))))) ∧ (((((((type_of% @Int.natCast_nonneg ∧ type_of% @callv_fn) ∧ (type_of% @ldt_ptr ∧ type_of% @ldt_ro)) ∧ ((type_of% @stt_ptr ∧ type_of% @ovr_lk) ∧ (type_of% @ov_nil ∧ (type_of% @ov_cons ∧ type_of% @ldE_own)))) ∧ (((type_of% @ldE_none ∧ type_of% @stE_own) ∧ (type_of% @stE_none ∧ type_of% @ce_sln)) ∧ ((type_of% @List.getElem?_cons_zero.{0} ∧ type_of% @List.getElem?_cons_succ.{0}) ∧ (type_of% @ldE_nils ∧ (type_of% @al_nils ∧ type_of% @so_nils))))) ∧ ((((type_of% @so_int ∧ type_of% @so_bool) ∧ (type_of% @so_str ∧ type_of% @so_sl)) ∧ ((type_of% @so_ro ∧ type_of% @so_pt) ∧ (type_of% @so_nilp ∧ (type_of% @so_fn ∧ type_of% @b_orf)))) ∧ (((type_of% @b_andf ∧ type_of% @b_xorf) ∧ (type_of% @b_andNotf ∧ (type_of% @b_shlf ∧ type_of% @b_shrf))) ∧ ((type_of% @KB_some ∧ type_of% @oand_some) ∧ (type_of% @eqC_nil ∧ (type_of% @eqC_i ∧ type_of% @eqC_b)))))) ∧ (((((type_of% @eqC_s ∧ type_of% @Bool.and_true) ∧ (type_of% @a_appsf ∧ type_of% @ai_ptr)) ∧ ((type_of% @ai_ro ∧ type_of% @mk_int) ∧ (type_of% @n_oslf ∧ (type_of% @i_oslf ∧ type_of% @al_osl)))) ∧ (((type_of% @ce_osl ∧ type_of% @so_osl) ∧ (type_of% @tk_osl ∧ type_of% @al_nili)) ∧ ((type_of% @ce_nili ∧ type_of% @so_nili) ∧ (type_of% @AV.osl.injEq ∧ (type_of% @al_nilT ∧ type_of% @ce_nilT))))) ∧ ((((type_of% @so_nilT ∧ type_of% @vi_agg) ∧ (type_of% @mn_int ∧ type_of% @mx_int)) ∧ ((type_of% @KF_some ∧ type_of% @mqV_st) ∧ (type_of% @mqV_sf ∧ (type_of% @mqV_nt ∧ type_of% @mqV_nf)))) ∧ (((type_of% @mq_mp ∧ type_of% @mq_mapv) ∧ (type_of% @muK_some ∧ (type_of% @mu_mapv ∧ type_of% @mu0_mp))) ∧ ((type_of% @mu1_mp ∧ type_of% @mu2_mp) ∧ (type_of% @mu3_mp ∧ (type_of% @mu0_s ∧ type_of% @mu0_n))))))) ∧ ((((((type_of% @mu1_s ∧ type_of% @mu1_n) ∧ (type_of% @mu3_s ∧ type_of% @mu3_n)) ∧ ((type_of% @rng_mp ∧ type_of% @rng_mapv) ∧ (type_of% @nxt_mp ∧ (type_of% @nxt_mit ∧ type_of% @nxt_itp)))) ∧ (((type_of% @ent_mp ∧ type_of% @ent_mit) ∧ (type_of% @ent_itp ∧ type_of% @al_mapv)) ∧ ((type_of% @ce_mapv ∧ type_of% @so_mapv) ∧ (type_of% @al_nilm ∧ (type_of% @ce_nilm ∧ type_of% @so_nilm))))) ∧ ((((type_of% @al_rom ∧ type_of% @ce_rom) ∧ (type_of% @so_rom ∧ type_of% @mq_rom)) ∧ ((type_of% @mq_nilm ∧ type_of% @mq6_n) ∧ (type_of% @al_itp ∧ (type_of% @ce_itp ∧ type_of% @AV.mapv.injEq)))) ∧ (((type_of% @pe_ptr ∧ type_of% @pe_ro) ∧ (type_of% @pe_nilp ∧ (type_of% @a0_sl ∧ type_of% @lr_ro))) ∧ ((type_of% @ldh_cons ∧ type_of% @hal_nils) ∧ (type_of% @hal_hsl ∧ (type_of% @hal_hnil ∧ type_of% @hal_sl)))))) ∧ (((((type_of% @b2d_osl ∧ type_of% @b2o_sl) ∧ (type_of% @b2o_osl ∧ type_of% @b2oL_mk)) ∧ ((type_of% @as_ptr ∧ type_of% @sb_str) ∧ (type_of% @al_hsl ∧ (type_of% @ce_hsl ∧ type_of% @so_hsl)))) ∧ (((type_of% @tk_hsl ∧ type_of% @ldE_hsl) ∧ (type_of% @stE_hsl ∧ (type_of% @al_hss ∧ type_of% @al_hnil))) ∧ ((type_of% @ce_hnil ∧ type_of% @so_hnil) ∧ (type_of% @tk_hnil ∧ (type_of% @ldE_hnil ∧ type_of% @stE_hnil))))) ∧ ((((type_of% @n_hsl ∧ type_of% @n_hss) ∧ (type_of% @n_hnil ∧ type_of% @i_hsl)) ∧ ((type_of% @i_hss ∧ type_of% @hl_hsl) ∧ (type_of% @hl_hss ∧ (type_of% @hl_sl ∧ type_of% @hl_hnil)))) ∧ (((type_of% @hs_hsl0 ∧ type_of% @hs_hsl1) ∧ (type_of% @hs_hss ∧ (type_of% @hs_sl ∧ type_of% @hs_hnil))) ∧ ((type_of% @op_none ∧ type_of% @op_some) ∧ (type_of% @AV.hsl.injEq ∧ (type_of% @AV.hss.injEq ∧ type_of% @AV.hnil.injEq))))))))) :=
  ⟨⟨⟨⟨⟨⟨⟨⟨@rl_nil, @ar_tmp⟩, ⟨@ar_cellf, @K1_some⟩⟩, ⟨⟨@KL_some, @KP_some⟩, ⟨@RK_eq, ⟨@RK_and, @RK_andx⟩⟩⟩⟩, ⟨⟨⟨@RL_eq, @RL_andx⟩, ⟨@KS_lit, @BytesW_map⟩⟩, ⟨⟨@st0_eq, @put_lk⟩, ⟨@put_none, ⟨@upd_lk, @upd_del⟩⟩⟩⟩⟩, ⟨⟨⟨⟨@ev_t, @ev_c⟩, ⟨@lk_cons, @lk_nil⟩⟩, ⟨⟨@pt_cons, @pt_nil⟩, ⟨@del_cons, ⟨@del_nil, @num_cons⟩⟩⟩⟩, ⟨⟨⟨@num_nil, @al_int⟩, ⟨@al_bool, ⟨@al_str, @al_agg⟩⟩⟩, ⟨⟨@al_sl, @al_ro⟩, ⟨@al_ptr, ⟨@al_nilp, @al_fn⟩⟩⟩⟩⟩⟩, ⟨⟨⟨⟨⟨@al_clo, @so_clo⟩, ⟨@ce_clo, @al_tup⟩⟩, ⟨⟨@al_undef, @ce_int⟩, ⟨@ce_bool, ⟨@ce_str, @ce_agg⟩⟩⟩⟩, ⟨⟨⟨@ce_sl, @ce_ro⟩, ⟨@ce_ptr, @ce_nilp⟩⟩, ⟨⟨@tk_own, @tk_none⟩, ⟨@tk_int, ⟨@b_addf, @b_subf⟩⟩⟩⟩⟩, ⟨⟨⟨⟨@b_mulf, @b_quof⟩, ⟨@b_remf, @b_eqlf⟩⟩, ⟨⟨@b_neqf, @b_lssf⟩, ⟨@b_leqf, ⟨@b_gtrf, @b_geqf⟩⟩⟩⟩, ⟨⟨⟨@b_catf, @b_seqlf⟩, ⟨@b_sneqf, ⟨@b_slssf, @be_ff⟩⟩⟩, ⟨⟨@be_tf, @u_notf⟩, ⟨@u_xorf, ⟨@u_negf, @v_ro⟩⟩⟩⟩⟩⟩⟩, ⟨⟨⟨⟨⟨⟨@v_ptr, @l_onef⟩, ⟨@l_allf, @f_rof⟩⟩, ⟨⟨@f_ptrf, @n_strf⟩, ⟨@n_slf, ⟨@i_slf, @i_strf⟩⟩⟩⟩, ⟨⟨⟨@a_appf, @fv_aggf⟩, ⟨@x_tup0f, @x_tupsf⟩⟩, ⟨⟨@nc_rof, @nc_ptrf⟩, ⟨@so_ptr, ⟨@bt_sl, @sc_strf⟩⟩⟩⟩⟩, ⟨⟨⟨⟨@sc_slf, @lo_str⟩, ⟨@lo_sl, @bw_none⟩⟩, ⟨⟨@iw_int, @cv_intf⟩, ⟨@ss_strf, ⟨@evs_nil, @evs_cons⟩⟩⟩⟩, ⟨⟨⟨@evp_nil, @evp_cons⟩, ⟨@fl_nilf, ⟨@fl_consf, @sp_0n⟩⟩⟩, ⟨⟨@sp_0, @sp_s⟩, ⟨@sz_nil, ⟨@sz_cons, @Option.some.injEq.{0}⟩⟩⟩⟩⟩⟩, ⟨⟨⟨⟨⟨@exists_eq_left.{1}, @exists_eq_left'.{1}⟩, ⟨@List.map_cons.{0, 0}, @List.map_nil.{0, 0}⟩⟩, ⟨⟨@List.length_cons.{0}, @List.length_nil.{0}⟩, ⟨@List.drop_succ_cons.{0}, ⟨@List.drop_zero.{0}, @List.take_succ_cons.{0}⟩⟩⟩⟩, ⟨⟨⟨@List.take_zero.{0}, @Option.map_some.{0, 0}⟩, ⟨@Option.bind_some.{0, 0}, @true_and⟩⟩, ⟨⟨@and_true, @Bool.not_true⟩, ⟨@Bool.not_false, ⟨@ne_eq.{1}, @not_true_eq_false⟩⟩⟩⟩⟩, ⟨⟨⟨⟨@not_false_eq_true, @Option.getD_some.{0}⟩, ⟨@Option.getD_none.{0}, @AV.bool.injEq⟩⟩, ⟨⟨@AV.int.injEq, @AV.str.injEq⟩, ⟨@AV.ptr.injEq, ⟨@AV.sl.injEq, @AV.ro.injEq⟩⟩⟩⟩, ⟨⟨⟨@AV.agg.injEq, @AV.tup.injEq⟩, ⟨@Nat.zero_add, ⟨@Nat.add_zero, @Bool.not_not⟩⟩⟩, ⟨⟨@eq_self.{1}, @Nat.zero_lt_succ⟩, ⟨@decide_true, ⟨@decide_false, @Int.toNat_natCast⟩⟩⟩⟩⟩⟩⟩⟩, ⟨⟨⟨⟨⟨⟨⟨@Int.natCast_nonneg, @callv_fn⟩, ⟨@ldt_ptr, @ldt_ro⟩⟩, ⟨⟨@stt_ptr, @ovr_lk⟩, ⟨@ov_nil, ⟨@ov_cons, @ldE_own⟩⟩⟩⟩, ⟨⟨⟨@ldE_none, @stE_own⟩, ⟨@stE_none, @ce_sln⟩⟩, ⟨⟨@List.getElem?_cons_zero.{0}, @List.getElem?_cons_succ.{0}⟩, ⟨@ldE_nils, ⟨@al_nils, @so_nils⟩⟩⟩⟩⟩, ⟨⟨⟨⟨@so_int, @so_bool⟩, ⟨@so_str, @so_sl⟩⟩, ⟨⟨@so_ro, @so_pt⟩, ⟨@so_nilp, ⟨@so_fn, @b_orf⟩⟩⟩⟩, ⟨⟨⟨@b_andf, @b_xorf⟩, ⟨@b_andNotf, ⟨@b_shlf, @b_shrf⟩⟩⟩, ⟨⟨@KB_some, @oand_some⟩, ⟨@eqC_nil, ⟨@eqC_i, @eqC_b⟩⟩⟩⟩⟩⟩, ⟨⟨⟨⟨⟨@eqC_s, @Bool.and_true⟩, ⟨@a_appsf, @ai_ptr⟩⟩, ⟨⟨@ai_ro, @mk_int⟩, ⟨@n_oslf, ⟨@i_oslf, @al_osl⟩⟩⟩⟩, ⟨⟨⟨@ce_osl, @so_osl⟩, ⟨@tk_osl, @al_nili⟩⟩, ⟨⟨@ce_nili, @so_nili⟩, ⟨@AV.osl.injEq, ⟨@al_nilT, @ce_nilT⟩⟩⟩⟩⟩, ⟨⟨⟨⟨@so_nilT, @vi_agg⟩, ⟨@mn_int, @mx_int⟩⟩, ⟨⟨@KF_some, @mqV_st⟩, ⟨@mqV_sf, ⟨@mqV_nt, @mqV_nf⟩⟩⟩⟩, ⟨⟨⟨@mq_mp, @mq_mapv⟩, ⟨@muK_some, ⟨@mu_mapv, @mu0_mp⟩⟩⟩, ⟨⟨@mu1_mp, @mu2_mp⟩, ⟨@mu3_mp, ⟨@mu0_s, @mu0_n⟩⟩⟩⟩⟩⟩⟩, ⟨⟨⟨⟨⟨⟨@mu1_s, @mu1_n⟩, ⟨@mu3_s, @mu3_n⟩⟩, ⟨⟨@rng_mp, @rng_mapv⟩, ⟨@nxt_mp, ⟨@nxt_mit, @nxt_itp⟩⟩⟩⟩, ⟨⟨⟨@ent_mp, @ent_mit⟩, ⟨@ent_itp, @al_mapv⟩⟩, ⟨⟨@ce_mapv, @so_mapv⟩, ⟨@al_nilm, ⟨@ce_nilm, @so_nilm⟩⟩⟩⟩⟩, ⟨⟨⟨⟨@al_rom, @ce_rom⟩, ⟨@so_rom, @mq_rom⟩⟩, ⟨⟨@mq_nilm, @mq6_n⟩, ⟨@al_itp, ⟨@ce_itp, @AV.mapv.injEq⟩⟩⟩⟩, ⟨⟨⟨@pe_ptr, @pe_ro⟩, ⟨@pe_nilp, ⟨@a0_sl, @lr_ro⟩⟩⟩, ⟨⟨@ldh_cons, @hal_nils⟩, ⟨@hal_hsl, ⟨@hal_hnil, @hal_sl⟩⟩⟩⟩⟩⟩, ⟨⟨⟨⟨⟨@b2d_osl, @b2o_sl⟩, ⟨@b2o_osl, @b2oL_mk⟩⟩, ⟨⟨@as_ptr, @sb_str⟩, ⟨@al_hsl, ⟨@ce_hsl, @so_hsl⟩⟩⟩⟩, ⟨⟨⟨@tk_hsl, @ldE_hsl⟩, ⟨@stE_hsl, ⟨@al_hss, @al_hnil⟩⟩⟩, ⟨⟨@ce_hnil, @so_hnil⟩, ⟨@tk_hnil, ⟨@ldE_hnil, @stE_hnil⟩⟩⟩⟩⟩, ⟨⟨⟨⟨@n_hsl, @n_hss⟩, ⟨@n_hnil, @i_hsl⟩⟩, ⟨⟨@i_hss, @hl_hsl⟩, ⟨@hl_hss, ⟨@hl_sl, @hl_hnil⟩⟩⟩⟩, ⟨⟨⟨@hs_hsl0, @hs_hsl1⟩, ⟨@hs_hss, ⟨@hs_sl, @hs_hnil⟩⟩⟩, ⟨⟨@op_none, @op_some⟩, ⟨@AV.hsl.injEq, ⟨@AV.hss.injEq, @AV.hnil.injEq⟩⟩⟩⟩⟩⟩⟩⟩⟩
end Go.Proofs.YtmmmbmljompamaaGreatDoor

namespace Go.Proofs.YtmmmbmljompamaaGreatDoor
set_option linter.all false
open Go.RowKit
def LeS {α : Type} (sn : List Nat) : List (Nat × α) → (Nat → Option α) → Prop
  | [], _ => True
  | (k, v) :: r, f => (k ∈ sn ∨ f k = some v) ∧ LeS (k :: sn) r f
theorem LeS_ok {α : Type} {f : Nat → Option α} : ∀ {l : List (Nat × α)} {sn : List Nat}, LeS sn l f → ∀ i v, i ∉ sn → lk l i = some v → f i = some v
  | [], _, _, i, v, _, h => by simp [lk] at h
  | (k, w) :: r, sn, ⟨h1, h2⟩, i, v, hn, h => by
    rw [lk] at h
    split at h
    · rename_i e
      subst e
      cases h
      exact h1.resolve_left hn
    · rename_i e
      exact LeS_ok h2 i v (by rw [List.mem_cons, not_or]; exact ⟨e, hn⟩) h
theorem leK_dd {a : List (Nat × AV)} {b : List (Nat × List AV)} {s : St} (h : LeS [] a s.t ∧ LeL b s.o) : leK ⟨lk a, lk b⟩ s := ⟨fun i v e => LeS_ok h.1 i v (by simp) e, LeL_ok h.2⟩
theorem lk_sub2 {b c : Nat} {cs ds : List AV} {o : Nat → Option (List AV)} (h : o b = some cs) (g : o c = some ds) : ∀ b' cs', lk [(b, cs), (c, ds)] b' = some cs' → o b' = some cs' := by
  intro b' cs' h'
  rw [lk_cons, lk_cons] at h'
  by_cases hb : b' = b
  · subst hb; rw [if_pos rfl] at h'; rw [h, h']
  · rw [if_neg hb] at h'
    by_cases hc : b' = c
    · subst hc; rw [if_pos rfl] at h'; rw [g, h']
    · rw [if_neg hc] at h'; cases h'
theorem lk_sub3 {b c d : Nat} {x y z : List AV} {o : Nat → Option (List AV)} (h : o b = some x) (g : o c = some y) (k : o d = some z) : ∀ b' cs', lk [(b, x), (c, y), (d, z)] b' = some cs' → o b' = some cs' := by
  intro b' cs' h'
  rw [lk_cons] at h'
  by_cases hb : b' = b
  · subst hb; rw [if_pos rfl] at h'; rw [h, h']
  · rw [if_neg hb] at h'; exact lk_sub2 g k b' cs' h'
def OM (A : Prop) : Prop := A
theorem OM_a {A : Prop} (h : A := by first | omega | (simp only [Fact, Bool.not_eq_true', Bool.not_eq_false', decide_eq_true_eq, decide_eq_false_iff_not] at *; omega)) : OM A := h
theorem wA {A B : Prop} (left : OM A) (right : B) : A ∧ B := ⟨left, right⟩
theorem wT {b : Bool} {K : Bool → Prop} (hk : K true) (h : Fact (b = true) := by assumption) : Sp b K := Sp_t h hk
theorem wF {b : Bool} {K : Bool → Prop} (hk : K false) (h : Fact (b = false) := by assumption) : Sp b K := Sp_f h hk
theorem wL {x y : Int} {K : Bool → Prop} (h1 : x < y → Fact (decide (x < y) = true) → K true) (h2 : y ≤ x → Fact (decide (x < y) = false) → K false) : Sp (decide (x < y)) K := Sp_split (fun h => h1 (Fact_lt h) h) (fun h => h2 (Fact_nlt h) h)
theorem wE {x y : Int} {K : Bool → Prop} (h1 : x ≤ y → Fact (decide (x ≤ y) = true) → K true) (h2 : y < x → Fact (decide (x ≤ y) = false) → K false) : Sp (decide (x ≤ y)) K := Sp_split (fun h => h1 (Fact_le h) h) (fun h => h2 (Fact_nle h) h)
theorem wK {a : List (Nat × AV)} {b : List (Nat × List AV)} {s : St} (h : LeL a s.t ∧ LeL b s.o := by first | (simp [-List.getD_eq_getElem?_getD, LeL, lk, *]; done) | fail) : leK ⟨lk a, lk b⟩ s := leK_lit h
theorem wD {a : List (Nat × AV)} {b : List (Nat × List AV)} {s : St} (h : LeS [] a s.t ∧ LeL b s.o := by first | (simp [-List.getD_eq_getElem?_getD, LeS, LeL, lk, *]; done) | fail) : leK ⟨lk a, lk b⟩ s := leK_dd h
section
variable {P : Program} {d : Option Nat} {s : St} {K : St → Prop}
theorem c1 {f : Nat} {vs : List AV} {r : AV} {b : Nat} {x : List AV} {o2 : List (Nat × List AV)} (h : CT P f vs (lk [(b, x)]) (fun r' o' => r' = r ∧ o' = lk o2)) (hK : KS (St.put ⟨s.t, ovr o2 s.o⟩ d r) K) (g : s.o b = some x := by first | ((repeat (first | exact lk_hd _ _ _ | (refine lk_tl ?_ ?_; (focus (first | assumption | (simp only [*, not_false_eq_true]; done)))))); done) | fail) : CallO P f vs d s K := CallO_det h (lk_sub1 g) hK
theorem c2 {f : Nat} {vs : List AV} {r : AV} {b c : Nat} {x y : List AV} {o2 : List (Nat × List AV)} (h : CT P f vs (lk [(b, x), (c, y)]) (fun r' o' => r' = r ∧ o' = lk o2)) (hK : KS (St.put ⟨s.t, ovr o2 s.o⟩ d r) K) (g : s.o b = some x := by first | ((repeat (first | exact lk_hd _ _ _ | (refine lk_tl ?_ ?_; (focus (first | assumption | (simp only [*, not_false_eq_true]; done)))))); done) | fail) (g' : s.o c = some y := by first | ((repeat (first | exact lk_hd _ _ _ | (refine lk_tl ?_ ?_; (focus (first | assumption | (simp only [*, not_false_eq_true]; done)))))); done) | fail) : CallO P f vs d s K := CallO_det h (lk_sub2 g g') hK
theorem c3 {f : Nat} {vs : List AV} {r : AV} {b c e : Nat} {x y z : List AV} {o2 : List (Nat × List AV)} (h : CT P f vs (lk [(b, x), (c, y), (e, z)]) (fun r' o' => r' = r ∧ o' = lk o2)) (hK : KS (St.put ⟨s.t, ovr o2 s.o⟩ d r) K) (g : s.o b = some x := by first | ((repeat (first | exact lk_hd _ _ _ | (refine lk_tl ?_ ?_; (focus (first | assumption | (simp only [*, not_false_eq_true]; done)))))); done) | fail) (g' : s.o c = some y := by first | ((repeat (first | exact lk_hd _ _ _ | (refine lk_tl ?_ ?_; (focus (first | assumption | (simp only [*, not_false_eq_true]; done)))))); done) | fail) (g'' : s.o e = some z := by first | ((repeat (first | exact lk_hd _ _ _ | (refine lk_tl ?_ ?_; (focus (first | assumption | (simp only [*, not_false_eq_true]; done)))))); done) | fail) : CallO P f vs d s K := CallO_det h (lk_sub3 g g' g'') hK
theorem r2 {f : Nat} {vs : List AV} {r : AV} {K : AV → Prop} {b c : Nat} {x y : List AV} (h : CT P f vs (lk [(b, x), (c, y)]) (fun r' o' => r' = r ∧ o' = lk [(b, x), (c, y)])) (hK : K r) (g : s.o b = some x := by first | ((repeat (first | exact lk_hd _ _ _ | (refine lk_tl ?_ ?_; (focus (first | assumption | (simp only [*, not_false_eq_true]; done)))))); done) | fail) (g' : s.o c = some y := by first | ((repeat (first | exact lk_hd _ _ _ | (refine lk_tl ?_ ?_; (focus (first | assumption | (simp only [*, not_false_eq_true]; done)))))); done) | fail) : CroW P f vs s K := Cro_det h (lk_sub2 g g') hK
theorem r3 {f : Nat} {vs : List AV} {r : AV} {K : AV → Prop} {b c e : Nat} {x y z : List AV} (h : CT P f vs (lk [(b, x), (c, y), (e, z)]) (fun r' o' => r' = r ∧ o' = lk [(b, x), (c, y), (e, z)])) (hK : K r) (g : s.o b = some x := by first | ((repeat (first | exact lk_hd _ _ _ | (refine lk_tl ?_ ?_; (focus (first | assumption | (simp only [*, not_false_eq_true]; done)))))); done) | fail) (g' : s.o c = some y := by first | ((repeat (first | exact lk_hd _ _ _ | (refine lk_tl ?_ ?_; (focus (first | assumption | (simp only [*, not_false_eq_true]; done)))))); done) | fail) (g'' : s.o e = some z := by first | ((repeat (first | exact lk_hd _ _ _ | (refine lk_tl ?_ ?_; (focus (first | assumption | (simp only [*, not_false_eq_true]; done)))))); done) | fail) : CroW P f vs s K := Cro_det h (lk_sub3 g g' g'') hK
end
end Go.Proofs.YtmmmbmljompamaaGreatDoor

namespace Go.Proofs.YtmmmbmljompamaaGreatDoor
set_option linter.all false
open Go.RowKit
theorem wZ {A : Prop} (h : A := by first | exact wK | exact wD | (simp only [Fact, Bool.not_eq_true', Bool.not_eq_false', decide_eq_true_eq, decide_eq_false_iff_not] at *; exact wD) | (show (_ : Nat) ≤ _; omega) | (show (_ : Int) ≤ _; omega) | fail) : A := h
end Go.Proofs.YtmmmbmljompamaaGreatDoor
