import Derived.RunT
import Derived.Calls
import Derived.Test.YtobopbjedojebaaK15
import Derived.Sort.Grow
import Derived.Deep.Draws
import Derived.Test.YtobopbjedojebaaK20
import Derived.Test.YtobopbjedojebaaK16
import Derived.Test.YtobopbjedojebaaK12
/- The count of what was drawn never falls, whatever a program does: shown of every step of the machine. -/
namespace Go.Proofs.Ytobopbjedojebaa
set_option linter.all false
open Go

theorem ask_dr {α : Type} : ∀ (q : Ask α) (w : World), w.drawn ≤ (w.ask q).2.drawn
  | .done a, w => Nat.le_refl _
  | .ask what range k, w => by
    unfold World.ask
    simp only
    split
    · exact ask_dr _ _
    · exact Nat.le_trans (Nat.le_succ _) (ask_dr _ { w with drawn := w.drawn + 1 })
theorem sys_dr (w : World) (c : Sys) : w.drawn ≤ (w.sys c).2.drawn := by
  have h := ask_dr (Kernel.perform c w.os) w
  unfold World.sys
  split
  · exact Nat.le_refl _
  · rename_i e; rw [e] at h; exact h
theorem set_dr (w : World) (a : Addr) (v : Value) : (w.setCell a v).drawn = w.drawn := rfl
theorem freeze_dr (w : World) (a : Addr) (n : Nat) : (w.freeze a n).drawn = w.drawn := by unfold World.freeze; split <;> rfl
theorem view_dr (p : Program) (w w' : World) (at_ : Addr) (u : TypeId) (k : Addr) (v : Value) (b : Bool) (l : List Addr) (h : w.viewStore p at_ u k v b = .ok (w', l)) : w'.drawn = w.drawn := by
  unfold World.viewStore at h
  simp only [bind, Except.bind, pure, Except.pure] at h
  repeat' first
    | (simp at h; done)
    | (simp only [Except.ok.injEq, Prod.mk.injEq] at h; obtain ⟨rfl, _⟩ := h; rfl)
    | split at h
theorem far_dr (p : Program) (w w' : World) (a : Addr) (v : Value) (b : Bool) (l : List Addr) (h : w.farStore p a v b = .ok (w', l)) : w'.drawn = w.drawn := by
  unfold World.farStore at h
  repeat' first
    | (simp at h; done)
    | (rename_i e; simp only [Except.ok.injEq] at h; subst h; exact view_dr _ _ _ _ _ _ _ _ _ e)
    | split at h
def RD {α : Type} (d : Nat) : Result α → Prop
  | .ok _ w => d ≤ w.drawn
  | .halt _ w => d ≤ w.drawn
theorem RD.le {α : Type} {d e : Nat} (h : e ≤ d) {r : Result α} (hr : RD d r) : RD e r := by cases r <;> exact Nat.le_trans h hr
theorem run_dr {α : Type} (p : Program) (s : Sem α) : ∀ w : World, RD w.drawn (s.run p w) := by
  induction s with
  | pure a => intro w; exact Nat.le_refl _
  | load m a k ih =>
    intro w; unfold Sem.run
    split
    · exact ih _ _
    · split
      · exact ih _ _
      · exact Nat.le_refl _
  | store m a v k ih =>
    intro w
    cases v
    all_goals simp only [Sem.run]
    all_goals first
      | exact Nat.le_refl _
      | (split
         · split
           · exact Nat.le_refl _
           · exact ih _
         · split
           · rename_i e; exact (ih _).le (Nat.le_of_eq (far_dr _ _ _ _ _ _ _ e).symm)
           · exact Nat.le_refl _)
  | new o k ih => intro w; exact ih _ _
  | shape r k ih => intro w; exact ih _ _
  | freeze a n k ih => intro w; exact (ih (w.freeze a n)).le (Nat.le_of_eq (freeze_dr w a n).symm)
  | frozen a k ih => intro w; exact ih _ _
  | getObj r k ih =>
    intro w; unfold Sem.run
    split
    · exact Nat.le_refl _
    · exact ih _ _
    · exact Nat.le_refl _
  | setObj r o k ih =>
    intro w; unfold Sem.run
    split
    · exact Nat.le_refl _
    · exact ih { w with heap := w.heap.setIfInBounds r o }
    · exact Nat.le_refl _
  | choose q k ih =>
    intro w; unfold Sem.run
    split
    · exact ih _ _
    · exact (ih _ { w with drawn := w.drawn + 1 }).le (Nat.le_succ _)
  | sys c k ih => intro w; exact (ih _ (w.sys c).2).le (sys_dr w c)
  | program k ih => intro w; exact ih _ _
  | mark m k ih => intro w; exact ih _
  | halt h => intro w; exact Nat.le_refl _
theorem runT_dr {α : Type} (p : Program) (s : Sem α) (w : World) (es : Array Event) : RD w.drawn (s.runT p w es).1 := by rw [Sem.runT_fst]; exact run_dr p s w

def GD (d : Nat) : GStep → Prop
  | .go _ w _ => d ≤ w.drawn
  | .comm _ _ _ _ w _ => d ≤ w.drawn
  | .spawn _ _ w _ => d ≤ w.drawn
  | .count _ w _ => d ≤ w.drawn
  | .timer _ _ w _ => d ≤ w.drawn
  | .alone _ _ w _ => d ≤ w.drawn
  | .newcoro _ _ _ w _ => d ≤ w.drawn
  | .coroswitch _ _ _ w _ => d ≤ w.drawn
  | .collect _ w _ => d ≤ w.drawn
  | .watch _ w _ => d ≤ w.drawn
  | .ended _ _ _ => True
theorem GD.le {d e : Nat} (h : e ≤ d) {g : GStep} (hg : GD d g) : GD e g := by cases g <;> first | trivial | exact Nat.le_trans h hg
theorem GD.after {d : Nat} {es : Array Event} {g : GStep} (h : GD d g) : GD d (g.after es) := by cases g <;> exact h
theorem endWith_dr {d : Nat} (w : World) (fd : Nat) (t : ByteArray) (o : Outcome) : GD d (endWith w fd t o) := by
  unfold endWith
  simp only
  repeat' first | trivial | split
theorem endThrow_dr (fr : Frame) (m : String) (w : World) : GD w.drawn (endThrow fr m w) := Nat.le_refl _
theorem endPrinting_dr (p : Program) (fr : Frame) (v : Value) (w : World) : GD w.drawn (endPrinting p fr v w) := by
  unfold endPrinting
  simp only
  repeat' first | trivial | exact endThrow_dr _ _ _ | split
theorem endFatal_dr (p : Program) (fr : Frame) (cs : List Frame) (dy : Option Dying) (m : String) (w : World) : GD w.drawn (endFatal p fr cs dy m w) := by
  unfold endFatal
  simp only
  split
  all_goals first
    | trivial
    | (rename_i e
       have h := congrArg (RD w.drawn) e
       rw [eq_iff_iff] at h
       exact h.1 (run_dr _ _ _))
theorem writeOn_dr (p : Program) (fr : Frame) (dy : Dying) (f : Fatal) (w : World) : GD w.drawn (writeOn p fr dy f w) := by
  unfold writeOn
  simp only
  split
  · trivial
  · split
    all_goals first
      | trivial
      | (rename_i e
         have h := congrArg (fun x => RD w.drawn x.1) e
         simp only [eq_iff_iff] at h
         exact h.1 (runT_dr _ _ _ _))
theorem die_dr (p : Program) (fr : Frame) (dy : Dying) (w : World) : GD w.drawn (die p fr dy w) := by
  unfold die
  simp only
  repeat' first
    | trivial
    | exact writeOn_dr _ _ _ _ _
    | exact Nat.le_refl _
    | exact endWith_dr _ _ _ _
    | (rename_i e
       have h := congrArg (RD w.drawn) e
       rw [eq_iff_iff] at h
       exact h.1 (run_dr _ _ _))
    | (rename_i e
       have h := congrArg (RD w.drawn) e
       rw [eq_iff_iff] at h
       exact (endPrinting_dr _ _ _ _).le (h.1 (runT_dr _ _ _ _)))
    | (rename_i e
       have h := congrArg (RD w.drawn) e
       rw [eq_iff_iff] at h
       exact h.1 (runT_dr _ _ _ _))
    | refine GD.after ?_
    | split
theorem doReturn_dr (p : Program) (m : Bool) (fr : Frame) (cs : List Frame) (dy : Option Dying) (v : Value) (w : World) : GD w.drawn (doReturn p m fr cs dy v w) := by
  unfold doReturn
  simp only
  repeat' first
    | trivial
    | exact Nat.le_refl _
    | split
theorem GD.ite {d : Nat} {c : Bool} {A B : GStep} (h1 : GD d A) (h2 : GD d B) : GD d (if c = true then A else B) := by
  split
  · exact h1
  · exact h2
theorem early_dr (p : Program) (fr : Frame) (cs : List Frame) (dy : Option Dying) (g : Nat) (w : World) : GD w.drawn (early p fr cs dy g w) := by
  unfold early
  simp only
  repeat' first
    | trivial
    | exact Nat.le_refl _
    | (rename_i e
       have h := congrArg (RD w.drawn) e
       rw [eq_iff_iff] at h
       exact h.1 (run_dr _ _ _))
    | (rename_i e _ _ _ _
       have h := congrArg (RD w.drawn) e
       rw [eq_iff_iff] at h
       exact h.1 (run_dr _ _ _))
    | split
theorem callDeferred_dr (p : Program) (fr : Frame) (cs : List Frame) (dy : Option Dying) (x : Deferred) (w : World) : GD w.drawn (callDeferred p fr cs dy x w) := by
  unfold callDeferred
  simp only
  refine GD.ite trivial ?_
  refine GD.after ?_
  have h := runT_dr p (invoke x.target x.args) w #[]
  revert h
  generalize ((invoke x.target x.args).runT p w #[]).1 = r
  intro h
  cases r with
  | ok a w' =>
    have h' : w.drawn ≤ w'.drawn := h
    cases a
    all_goals try simp only []
    all_goals first
      | exact h'
      | trivial
      | (rename_i c e; cases e <;> first | exact h' | trivial)
      | (rename_i e c; cases e <;> first | exact h' | trivial)
      | (repeat' first | exact h' | trivial | split)
  | halt a w' =>
    have h' : w.drawn ≤ w'.drawn := h
    cases a
    all_goals try simp only []
    all_goals first
      | exact h'
      | trivial
      | exact (endFatal_dr _ _ _ _ _ _).le h'
theorem unwind_dr (p : Program) (m : Bool) (fr : Frame) (cs : List Frame) (dy : Option Dying) (w : World) : GD w.drawn (unwind p m fr cs dy w) := by
  unfold unwind
  simp only
  repeat' first
    | trivial
    | exact Nat.le_refl _
    | exact callDeferred_dr _ _ _ _ _ _
    | exact doReturn_dr _ _ _ _ _ _ _
    | exact endPrinting_dr _ _ _ _
    | (rename_i e
       have h := congrArg (RD w.drawn) e
       rw [eq_iff_iff] at h
       exact h.1 (run_dr _ _ _))
    | (rename_i e
       have h := congrArg (RD w.drawn) e
       rw [eq_iff_iff] at h
       exact h.1 (runT_dr _ _ _ _))
    | (rename_i e
       have h := congrArg (RD w.drawn) e
       rw [eq_iff_iff] at h
       exact (doReturn_dr _ _ _ _ _ _ _).le (h.1 (runT_dr _ _ _ _)))
    | refine GD.after ?_
    | split
theorem apply_dr (p : Program) (ls : Bool) (fr : Frame) (cs : List Frame) (dy : Option Dying) (s : Sem Next) (w : World) : GD w.drawn (stepG.apply p ls fr cs dy s w) := by
  unfold stepG.apply
  simp only
  refine GD.after ?_
  have h : RD w.drawn (if ls = true then s.runT p w #[] else (s.run p w, #[])).1 := by
    split
    · exact runT_dr _ _ _ _
    · exact run_dr _ _ _
  revert h
  generalize (if ls = true then s.runT p w #[] else (s.run p w, #[])).1 = r
  intro h
  cases r with
  | ok a w' =>
    have h' : w.drawn ≤ w'.drawn := h
    cases a
    all_goals try simp only []
    all_goals first
      | exact h'
      | trivial
      | (repeat' first | exact h' | trivial | exact (endThrow_dr _ _ _).le h' | split)
  | halt a w' =>
    have h' : w.drawn ≤ w'.drawn := h
    cases a
    all_goals try simp only []
    all_goals first
      | exact h'
      | trivial
      | exact (endFatal_dr _ _ _ _ _ _).le h'
      | exact (endThrow_dr _ _ _).le h'
      | (rename_i u; cases u <;> first | exact (early_dr _ _ _ _ _ _).le h' | trivial)
theorem oper_dr (p : Program) (ls : Bool) (fr : Frame) (cs : List Frame) (dy : Option Dying) (w : World) : GD w.drawn (stepG.oper p ls fr cs dy w) := by
  unfold stepG.oper
  split
  · trivial
  · split <;> exact apply_dr _ _ _ _ _ _ _
theorem leave_dr (p : Program) (m : Bool) (fr : Frame) (cs : List Frame) (dy : Option Dying) (w : World) (l : Nat) (jump : Option Code) :
    GD w.drawn (GStep.after (seen p fr.fn ((Instr.endRound l jump).runT p w #[]).2) (match ((Instr.endRound l jump).runT p w #[]).1 with
      | .ok v w => doReturn p m fr cs dy v w
      | .halt _ w => .ended (.stuck "range over a function: no such loop" (fr.pos p)) w)) := by
  refine GD.after ?_
  split
  · rename_i e
    have h := congrArg (RD w.drawn) e
    rw [eq_iff_iff] at h
    exact (doReturn_dr _ _ _ _ _ _ _).le (h.1 (runT_dr _ _ _ _))
  · trivial
theorem elim_dr {α : Type} {d : Nat} (o : Option α) (A : GStep) (f : α → GStep) (h1 : GD d A) (h2 : ∀ a, GD d (f a)) : GD d (o.elim A f) := by
  cases o
  · exact h1
  · exact h2 _
set_option maxHeartbeats 2000000 in
theorem exec_dr (p : Program) (m : Bool) (ls : Bool) (fr : Frame) (cs : List Frame) (dy : Option Dying) (w : World) : GD w.drawn (stepG.exec p m ls fr cs dy w) := by
  unfold stepG.exec
  simp only
  split
  all_goals try simp only []
  all_goals repeat' first
    | exact True.intro
    | (show _ ≤ _; with_reducible exact Nat.le_refl _)
    | with_reducible exact apply_dr _ _ _ _ _ _ _
    | with_reducible exact oper_dr _ _ _ _ _ _
    | with_reducible exact leave_dr _ _ _ _ _ _ _ _
    | (rename_i e
       have h := congrArg (RD w.drawn) e
       rw [eq_iff_iff] at h
       exact h.1 (run_dr _ _ _))
    | (rename_i e
       have h := congrArg (RD w.drawn) e
       rw [eq_iff_iff] at h
       exact h.1 (runT_dr _ _ _ _))
    | (rename_i e
       have h := congrArg (RD w.drawn) e
       rw [eq_iff_iff] at h
       exact (apply_dr _ _ _ _ _ _ _).le (h.1 (runT_dr _ _ _ _)))
    | (rename_i e
       have h := congrArg (RD w.drawn) e
       rw [eq_iff_iff] at h
       exact (doReturn_dr _ _ _ _ _ _ _).le (h.1 (runT_dr _ _ _ _)))
    | with_reducible refine GD.after ?_
    | (with_reducible refine elim_dr _ _ _ ?_ (fun _ => ?_))
    | (show GD _ (if _ then _ else _); split)
    | split
theorem stepG_dr (p : Program) (m : Bool) (g : Goroutine) (w : World) (ls : Bool) : GD w.drawn (stepG p m g w ls) := by
  unfold stepG
  simp only
  split
  · exact die_dr _ _ _ _
  · exact exec_dr _ _ _ _ _ _ _
  · exact unwind_dr _ _ _ _ _ _
def SD (d : Nat) : Stepped → Prop
  | .next m => d ≤ m.world.drawn
  | .ended _ _ => True
theorem SD.le {d e : Nat} (h : e ≤ d) {g : Stepped} (hg : SD d g) : SD e g := by cases g <;> first | trivial | exact Nat.le_trans h hg
theorem communicate_dr (p : Program) (rest : Rest) (gs : Array Goroutine) (i : Nat) (g : Goroutine) (cases : Array CommCase) (blocking : Bool)
    (shape : CommShape) (w : World) : SD w.drawn (communicate p rest gs i g cases blocking shape w).1 := by
  unfold communicate
  simp only []
  split
  · trivial
  split
  · split
    · split
      · rename_i w' e
        unfold waitingAt at e
        have : w'.drawn = w.drawn := by
          split at e
          · split at e
            · simp only [Option.some.injEq] at e; subst e; rfl
            · cases e
          · simp only [Option.some.injEq] at e; subst e; rfl
        exact Nat.le_of_eq this.symm
      · trivial
    · exact Nat.le_refl _
  · split
    · trivial
    · rename_i e
      have h := congrArg (RD w.drawn) e
      rw [eq_iff_iff] at h
      have h' := h.1 (run_dr _ _ _)
      clear h e
      simp only [RD] at h'
      split
      · split
        · rename_i e
          have h2 := congrArg (RD w.drawn) e
          rw [eq_iff_iff] at h2
          exact h2.1 ((run_dr _ _ _).le h')
        · trivial
      · exact h'
      · exact h'
      · split
        · exact h'
        · split
          · rename_i e
            have h2 := congrArg (RD w.drawn) e
            rw [eq_iff_iff] at h2
            exact h2.1 ((run_dr _ _ _).le h')
          · trivial
      · exact h'
      · exact h'
      · trivial
theorem look_dr (p : Program) (gs : Array Goroutine) (rest : Rest) (w : World) : SD w.drawn (look p gs rest w) := by
  unfold look
  simp only []
  repeat' first
    | exact True.intro
    | (rename_i e
       have h := congrArg (RD w.drawn) e
       rw [eq_iff_iff] at h
       exact h.1 (run_dr _ _ _))
    | split
theorem serve_dr (p : Program) (m : Machine) (k : Nat) : SD m.world.drawn (serve p m k) := by
  unfold serve
  simp only []
  repeat' first
    | exact True.intro
    | exact Nat.le_refl _
    | split
theorem timerOp_dr (m m' : Machine) (op : TimerOp) (v : Value) (h : timerOp m op = .ok (v, m')) : m'.world.drawn = m.world.drawn := by
  unfold timerOp at h
  have hr : ∀ (m : Machine) (k : Nat) (t : Timer) (a b : Nat), (retime m k t a b).2.world.drawn = m.world.drawn := fun m k t a b => by
    unfold retime
    simp only []
    split
    · unfold drain; split <;> rfl
    · rfl
  have hn : ∀ (m0 m m' : Machine) (var : Addr) (f : Nat → Timer → Value × Machine) (v : Value), (∀ k t, (f k t).2.world.drawn = m.world.drawn) → timerOp.named m0 var f = .ok (v, m') → m'.world.drawn = m.world.drawn := fun m0 m m' var f v hf h => by
    unfold timerOp.named at h
    split at h
    · simp only [Except.ok.injEq] at h
      have := hf _ _ |>.symm.trans (congrArg (fun x => x.2.world.drawn) h)
      exact this.symm
    · cases h
  split at h
  · split at h
    · simp only [Except.ok.injEq, Prod.mk.injEq] at h; obtain ⟨_, rfl⟩ := h; rfl
    · split at h
      · split at h
        · cases h
        · simp only [Except.ok.injEq, Prod.mk.injEq] at h; obtain ⟨_, rfl⟩ := h; rfl
      · cases h
  · exact hn _ _ _ _ _ _ (fun k t => hr _ _ _ _ _) h
  · split at h
    · rename_i m1 e
      have h1 : m1.world.drawn = m.world.drawn := by
        unfold timerOp.opened at e
        split at e
        · split at e
          · simp only [Option.some.injEq] at e; subst e; rfl
          · cases e
        · simp only [Option.some.injEq] at e; subst e; rfl
      exact (hn _ _ _ _ _ _ (fun k t => hr _ _ _ _ _) h).trans h1
    · cases h
  · simp only [Except.ok.injEq, Prod.mk.injEq] at h; obtain ⟨_, rfl⟩ := h; rfl
theorem thrown_dr (fr : Frame) (msg : String) (w : World) (f : Goroutine → World → Stepped) (d : Nat) (o : Outcome) (u : World) (hf : ∀ g w', d ≤ w'.drawn → SD d (f g w')) (h : d ≤ w.drawn) :
    SD d (match endThrow fr msg w with
      | .go g w _ => f g w
      | _ => .ended o u) := hf _ _ h
theorem runT_sd (p : Program) (m : Machine) (i : Nat) (b : Bool) : SD m.world.drawn (runT p m i b).1 := by
  simp only [runT]
  generalize m.gs.swapAt! _ _ = gg
  have h := stepG_dr p (i == 0) gg.1 m.world b
  revert h
  generalize stepG p _ gg.1 m.world b = s
  intro h
  cases s <;> simp only [] <;> simp only [GD] at h
  all_goals first
    | exact True.intro
    | exact h
    | exact (communicate_dr _ _ _ _ _ _ _ _ _).le h
    | exact (look_dr _ _ _ _).le h
    | (split
       · rename_i e; exact Nat.le_trans h (Nat.le_of_eq (timerOp_dr _ _ _ _ e).symm)
       · exact h
       · exact True.intro
       · exact True.intro)
    | (repeat' first
        | exact True.intro
        | exact h
        | split)
def MD (d : Nat) : Move → Prop
  | .goroutine m _ => d ≤ m.world.drawn
  | .machine s _ => SD d s
theorem MD.le {d e : Nat} (h : e ≤ d) {g : Move} (hg : MD d g) : MD e g := by
  cases g
  · exact Nat.le_trans h hg
  · exact SD.le h hg
theorem askOn_dr (p : Program) (m : Machine) : MD m.world.drawn (askOn p m) := by
  have pickd : ∀ (rs : List Nat) (n : Machine), MD n.world.drawn (match (choose (.sched rs.length)).run p n.world with
      | .halt _ w => .machine (.ended (.stuck "sched" "") w)
      | .ok k world =>
        if rs.length ≤ 1 then .goroutine { n with world } (rs.getD k 0) else
        match (choose (.extern "sched.slice" 65536)).run p world with
        | .halt _ w => .machine (.ended (.stuck "sched.slice" "") w)
        | .ok k' world => .goroutine { n with world, rest := { n.rest with slice := if k' = 0 then none else some (rs.getD k 0, k') } } (rs.getD k 0)) := fun rs n => by
    have h := run_dr p (choose (.sched rs.length)) n.world
    revert h
    generalize (choose (.sched rs.length)).run p n.world = r
    intro h
    cases r with
    | halt x w => exact True.intro
    | ok k w =>
      simp only []
      split
      · exact h
      · have h2 := run_dr p (choose (.extern "sched.slice" 65536)) w
        revert h2
        generalize (choose (.extern "sched.slice" 65536)).run p w = r
        intro h2
        cases r with
        | halt x w => exact True.intro
        | ok k w => exact Nat.le_trans h h2
  unfold askOn
  simp only []
  generalize (if (due m.rest.timers m.world.os.mono).isEmpty then pure 0
      else choose (.extern "timer.serve" ((due m.rest.timers m.world.os.mono).length + (if (runnable m.gs m.world.os.mono).isEmpty && (ahead m false).isNone then 0 else 1))) : Sem Nat) = s0
  have h := run_dr p s0 m.world
  revert h
  generalize s0.run p m.world = r
  intro h
  cases r with
  | halt x w => exact True.intro
  | ok k w =>
    simp only []
    have h' : m.world.drawn ≤ w.drawn := h
    split
    · exact (serve_dr _ _ _).le h'
    · split
      · split
        · exact h'
        · split
          · exact h'
          · split <;> exact True.intro
      · split
        · exact (pickd _ { m with world := w }).le h'
        · rename_i t _
          generalize (choose (.extern "clock.wait" (t - m.world.os.mono + 1)) : Sem Nat) = s1
          have h2 := run_dr p s1 w
          revert h2
          generalize s1.run p w = r
          intro h2
          cases r with
          | halt x w => exact True.intro
          | ok k w1 =>
            have h3 : m.world.drawn ≤ w1.drawn := Nat.le_trans h' h2
            rcases k with _ | _ | k
            · exact (pickd _ { m with world := w1 }).le h3
            · exact h3
            · exact (pickd _ (({ m with world := w1 } : Machine).advanceTo (t - (k + 1)))).le h3
theorem ask_md (p : Program) (m : Machine) : MD m.world.drawn (Go.ask p m) := by
  unfold Go.ask
  split
  · have h := run_dr p (choose (.extern "collector.look" 2)) m.world
    revert h
    generalize (choose (.extern "collector.look" 2)).run p m.world = r
    intro h
    cases r with
    | halt x w => exact True.intro
    | ok k w =>
      have h' : m.world.drawn ≤ w.drawn := h
      rcases k with _ | _ | k
      · exact (askOn_dr p { m with world := w }).le h'
      · show MD _ (match look p m.gs m.rest w with | .next m => askOn p m | e => .machine e)
        have h2 := look_dr p m.gs m.rest w
        revert h2
        generalize look p m.gs m.rest w = r
        intro h2
        cases r with
        | next m2 => exact (askOn_dr p m2).le (Nat.le_trans h' h2)
        | ended o w => exact True.intro
      · exact (askOn_dr p { m with world := w }).le h'
  · exact askOn_dr p m
theorem move_md (p : Program) (m : Machine) : MD m.world.drawn (move p m) := by
  unfold move
  split
  · split
    · exact Nat.le_refl _
    · exact True.intro
  · split
    · split
      · exact Nat.le_refl _
      · exact ask_md p _
    · exact ask_md p m
theorem step_sd (p : Program) (m : Machine) : SD m.world.drawn (step p m) := by
  unfold step stepT
  have h := move_md p m
  revert h
  generalize move p m = r
  intro h
  cases r with
  | goroutine m' i => exact (runT_sd p m' i true).le h
  | machine s ops => exact h
theorem steps_dr {p : Program} {m m' : Machine} (h : Steps p m m') : m.world.drawn ≤ m'.world.drawn := by
  obtain ⟨n, h⟩ := h
  induction n generalizing m with
  | zero =>
    simp only [runN, Stepped.next.injEq] at h
    subst h; exact Nat.le_refl _
  | succ n ih =>
    rw [runN] at h
    have h1 := step_sd p m
    revert h h1
    generalize step p m = r
    intro h h1
    cases r with
    | next m1 => exact Nat.le_trans h1 (ih h)
    | ended o w => cases h
/-- What a call returns in a world, it returns in one in which no less was drawn. -/
theorem Calls_drawn {P : Program} {f : FuncId} {args : Array Value} {w : World} {R : Ending → World → Prop} (h : Calls P f args w R) :
    Calls P f args w fun e w' => R e w' ∧ ∀ v, e = .returned v → w.drawn ≤ w'.drawn := by
  intro cs
  obtain ⟨e, w', fr, h1, h2, h3, h4⟩ := h cs
  refine ⟨e, w', fr, ⟨h1, ?_⟩, h2, h3, h4⟩
  rintro v rfl
  exact steps_dr (m := lone (Frame.enter P f args .normal) cs w) (m' := lone fr cs w') h2
end Go.Proofs.Ytobopbjedojebaa

/- The abstract machine: what a pure function leaves is the world grown: as the sorts of the kit want their comparing functions. -/
namespace Go.Proofs.Ytobopbjedojebaa
set_option linter.all false
open Go.RowKit
theorem grow_of_below {W W' : World} (h : Below W.heap.size W W') (h6 : W.drawn ≤ W'.drawn) : ∃ q os', W' = Sort.grow (W.drewN q) os' := by
  obtain ⟨h1, h2, h3, h4, h5⟩ := h
  obtain ⟨heap, tape, drawn, os, out⟩ := W
  obtain ⟨heap', tape', drawn', os', out'⟩ := W'
  simp only at h1 h2 h3 h4 h5 h6
  subst h1 h2 h3
  refine ⟨drawn' - drawn, heap'.extract heap.size heap'.size, ?_⟩
  simp only [Sort.grow, World.drewN, World.mk.injEq, and_true, true_and]
  refine ⟨?_, by omega⟩
  apply Array.ext_getElem?
  intro i
  by_cases hi : i < heap.size
  · rw [h5 i hi, Array.getElem?_append_left hi]
  · rw [Array.getElem?_append_right (by omega), Array.getElem?_extract]
    split
    · congr 1; omega
    · rw [Array.getElem?_eq_none (by omega)]
/-- A pure function's contract, told of its world. -/
theorem CP_grow {P : Program} {f : Nat} {xs : List AV} {r : AV} {v : Value} (h : CP P f xs r) {W : World} {U : Nat → Nat → Prop} (hG : Glob W U) {vs : List Value} (hl : vs.length = xs.length)
    (hv : ∀ (i : Nat) (u : Value) (c : AV), vs[i]? = some u → xs[i]? = some c → VR W U u c) (hr : ∀ W' U' u, VR W' U' u r → u = v) :
    Calls P f vs.toArray W fun e w' => e = .returned v ∧ ∃ q os', w' = Sort.grow (W.drewN q) os' := by
  refine (Calls_drawn (h W U vs hG hl hv)).mono ?_
  rintro e W' ⟨⟨u, U', rfl, hvr, _, hE⟩, hd⟩
  exact ⟨by rw [hr _ _ _ hvr], grow_of_below hE.b (hd _ rfl)⟩
end Go.Proofs.Ytobopbjedojebaa

/- What the sorts over a map's keys share: values that read as plain cells, orders, worlds of the sort's. -/
namespace Go.Proofs.Ytobopbjedojebaa
set_option linter.all false
open Go.RowKit Go.Sort
theorem VR.map_inv {W : World} {U : Nat → Nat → Prop} {v : Value} {b : Nat} (h : VR W U v (.mapv b)) : v = .map (some b) := by cases h; rfl
theorem VR.ptr_inv {W : World} {U : Nat → Nat → Prop} {v : Value} {b o : Nat} (h : VR W U v (.ptr b o)) : v = .pointer (some ⟨b, o, none⟩) := by cases h; rfl
theorem VR.fn_inv {W : World} {U : Nat → Nat → Prop} {v : Value} {f : Nat} (h : VR W U v (.fn f)) : v = .func (.func f) #[] #[] := by cases h; rfl
theorem VR.clo1_inv {W : World} {U : Nat → Nat → Prop} {v : Value} {f b : Nat} (h : VR W U v (.clo f [.ptr b 0])) : v = .func (.func f) #[] #[.pointer (some ⟨b, 0, none⟩)] := by
  cases h with
  | clo f vs cs hl h =>
    match vs, hl with
    | [x], _ => rw [(h 0 x _ rfl rfl).ptr_inv]
theorem perm_of {α : Type} [Inhabited α] {d d' : Array α} (h : PermIn 0 d.size d d') : d'.toList.Perm d.toList := by
  obtain ⟨h1, _, h3⟩ := h
  have e1 : d'.extract 0 d.size = d' := by rw [← h1]; exact Array.extract_size
  have e2 : d.extract 0 d.size = d := Array.extract_size
  rwa [e1, e2] at h3
/-! plain cells -/
def flatC : List AV → Bool
  | [] => true
  | .int _ _ :: r => flatC r
  | .bool _ :: r => flatC r
  | .str _ :: r => flatC r
  | _ => false
def plainV : List AV → List Value
  | [] => []
  | .int k n :: r => .int k n :: plainV r
  | .bool b :: r => .bool b :: plainV r
  | .str l :: r => .string ⟨l.toArray⟩ :: plainV r
  | _ :: r => undef :: plainV r
theorem plainV_len : ∀ cs : List AV, (plainV cs).length = cs.length
  | [] => rfl
  | a :: r => by cases a <;> simp [plainV, plainV_len r]
theorem plainV_get : ∀ (cs : List AV), flatC cs = true → ∀ (i : Nat) (c : AV) (u : Value), cs[i]? = some c → (plainV cs)[i]? = some u → (∀ W U, VR W U u c) ∧ (∀ W U v, VR W U v c → v = u) ∧ u.oneCell' = true
  | [], _, i, c, u, h, _ => by simp at h
  | a :: r, hf, 0, c, u, h, g => by
    simp only [List.getElem?_cons_zero, Option.some.injEq] at h
    subst h
    cases a <;> simp [flatC] at hf <;> simp only [plainV, List.getElem?_cons_zero, Option.some.injEq] at g <;> subst g
    · exact ⟨fun _ _ => .int _ _, fun _ _ _ h => by cases h; rfl, rfl⟩
    · exact ⟨fun _ _ => .bool _, fun _ _ _ h => by cases h; rfl, rfl⟩
    · exact ⟨fun _ _ => .str _, fun _ _ _ h => by cases h; rfl, rfl⟩
  | a :: r, hf, i + 1, c, u, h, g => by
    have hr : flatC r = true := by cases a <;> simp [flatC] at hf <;> exact hf
    have e : plainV (a :: r) = (plainV [a] ++ plainV r) := by cases a <;> rfl
    have e1 : (plainV [a]).length = 1 := plainV_len [a]
    rw [e, List.getElem?_append_right (by omega), e1] at g
    exact plainV_get r hr i c u (by simpa using h) (by simpa using g)
theorem plainV_one {cs : List AV} (hf : flatC cs = true) : ∀ u ∈ plainV cs, u.oneCell' = true := by
  intro u hu
  obtain ⟨i, hi, rfl⟩ := List.getElem_of_mem hu
  have hi' : i < cs.length := by rw [← plainV_len]; exact hi
  exact (plainV_get cs hf i cs[i] _ (List.getElem?_eq_getElem hi') (List.getElem?_eq_getElem hi)).2.2
theorem flat_VR {cs : List AV} (hf : flatC cs = true) (W : World) (U : Nat → Nat → Prop) : VR W U (.agg (plainV cs).toArray) (.agg cs) :=
  .agg _ _ (plainV_len cs) (fun i v c hv hc => (plainV_get cs hf i c v hc hv).1 W U) (plainV_one hf)
theorem flat_inv {cs : List AV} (hf : flatC cs = true) {W : World} {U : Nat → Nat → Prop} {v : Value} (h : VR W U v (.agg cs)) : v = .agg (plainV cs).toArray := by
  cases h with
  | agg vs cs hl h h1 =>
    have : vs = plainV cs := by
      apply List.ext_getElem?
      intro i
      by_cases hi : i < cs.length
      · have h3 := List.getElem?_eq_getElem (l := vs) (i := i) (by omega)
        have h4 := List.getElem?_eq_getElem (l := plainV cs) (i := i) (by rw [plainV_len]; exact hi)
        have h5 := List.getElem?_eq_getElem hi
        rw [h3, h4, (plainV_get cs hf i _ _ h5 h4).2.1 W U _ (h i _ _ h3 h5)]
      · rw [List.getElem?_eq_none (by omega), List.getElem?_eq_none (by rw [plainV_len]; omega)]
    rw [this]
/-! orders -/
theorem lt_cmpL {α : Type} (lt : α → α → Bool) (x y : α) : ltOf (cmpL lt) x y = lt x y := by
  unfold ltOf
  rw [Bool.eq_iff_iff, decide_eq_true_eq]
  exact cmpL_neg x y
theorem STO.swo {α : Type} [Inhabited α] {lt : α → α → Bool} (S : STO lt) : SWO (ltOf (cmpL lt)) where
  irrefl x := by rw [lt_cmpL]; exact S.irr x
  trans x y z h1 h2 := by rw [lt_cmpL] at *; exact S.tr x y z h1 h2
  ntrans x y z h1 h2 := by
    rw [lt_cmpL] at *
    cases h3 : lt x z with
    | false => rfl
    | true =>
      cases h4 : lt z y with
      | true => have := S.tr _ _ _ h3 h4; rw [h1] at this; cases this
      | false =>
        have := S.tot _ _ h2 h4
        subst this
        rw [h1] at h3; cases h3
theorem rise_of {α : Type} [Inhabited α] {lt : α → α → Bool} (S : STO lt) {d : List α} (hs : ∀ i j, i < j → j < d.length → lt (d.getD j default) (d.getD i default) = false) (hN : d.Nodup) : Rise lt d := by
  refine List.pairwise_iff_getElem.2 fun i j hi hj hij => ?_
  have h := hs i j hij hj
  simp only [List.getD, List.getElem?_eq_getElem hi, List.getElem?_eq_getElem hj, Option.getD_some] at h
  cases g : lt d[i] d[j] with
  | true => rfl
  | false =>
    exfalso
    have e := S.tot _ _ g h
    have := (List.getElem_inj hN).1 e
    omega
/-! tables behind a sort -/
theorem glob_frozen {W : World} {U : Nat → Nat → Prop} (h : Glob W U) : Glob W fun _ _ => False := fun x hx => ⟨(h x hx).1, fun _ h => h⟩
theorem glob_below {W W' : World} {U : Nat → Nat → Prop} (h : Glob W U) (hb : RowKit.Below W.heap.size W W') : Glob W' fun _ _ => False :=
  (glob_frozen h).stay (fun x hx => hb.block x.1 (h.lt hx)) (fun _ _ _ => Iff.rfl)
theorem glob_sort {α : Type} [Inhabited α] {cl : α → List Value} {k : Nat} {w : World} {U : Nat → Nat → Prop} (h : Glob w U) {blk off n : Nat} {d : Array α} {os : Array Obj} (hb : ∀ x ∈ globTabs, x.1 ≠ blk) : Glob (sortWorldK cl k w blk off n d os) fun _ _ => False :=
  (glob_frozen h).stay (fun x hx => by
    have hne : ¬ blk = x.1 := fun e => hb x hx e.symm
    unfold sortWorldK
    rw [heap_grow_old _ _ (by simpa [putRowK, putRow, mapBlock, Sort.ahead] using h.lt hx)]
    simp [putRowK, putRow, mapBlock, Sort.ahead, Array.getElem?_modify, hne]) (fun _ _ _ => Iff.rfl)
end Go.Proofs.Ytobopbjedojebaa

/- life: order, byEnd, byKey; path.Less -/
namespace Go.Proofs.Ytobopbjedojebaa
set_option linter.all false
open Go.RowKit
set_option maxRecDepth 100000
theorem p_PLess (a b : EndP) : CP Try.prog 68 [.agg [.str a.1, .int .i64 a.2], .agg [.str b.1, .int .i64 b.2]] (.bool (endLt a b)) := by
  refine ok_path_Less _ _ (by simp) ?_
  unfold endLt
  cases h1 : Op.bytesLess a.1 b.1 <;> cases h2 : decide (a.1 = b.1) <;> cases h3 : decide (a.2 < b.2)
  all_goals simp only [c_path_Less, h1, h2, h3, ↓Ed, Eu, ↓reduceIte, reduceCtorEq, Nat.reduceAdd, Nat.reduceEqDiff, Nat.reduceLT, Nat.reduceLeDiff, Int.reduceToNat, Int.reduceEq, Int.reduceLT, Int.reduceLE, w64, List.length_append, List.length_map, Nat.mul_one, beq_self_eq_true, KeyC.cs, Int.reduceAdd]
  all_goals repeat' ((first | refine NewB_intro0 (fun b => ?_) | (refine NewB_intro (fun b hb => ?_); simp only [ln_cons2, ln_nil, and_true] at hb) | (with_reducible apply wA; focus exact OM_a) | ((first | refine gW_sp ?_ | refine condW_sp ?_ | refine pickW_sp ?_); (try refine Sp_n ?_); (first | refine wT ?_ | refine wF ?_ | refine wL (fun h h' => ?_) (fun h h' => ?_) | refine wE (fun h h' => ?_) (fun h h' => ?_) | refine Sp_split (fun h => ?_) (fun h => ?_)) <;> (try (exfalso; omega))) | refine TreeW_intro (by rfl) ?_ | refine TreeW_all ?_ | refine upQ_intro ?_ | refine Two_intro ?_ ?_ | exact wK | exact wD | (simp only [Fact, Bool.not_eq_true', Bool.not_eq_false', decide_eq_true_eq, decide_eq_false_iff_not] at *; exact wD) | (show (_ : Nat) ≤ _; omega)) <;> (try simp (disch := omega) only [*, ↓Ed, Eu, ↓reduceIte, reduceCtorEq, Nat.reduceAdd, Nat.reduceEqDiff, Nat.reduceLT, Nat.reduceLeDiff, Int.reduceToNat, Int.reduceEq, Int.reduceLT, Int.reduceLE, w64, List.length_append, List.length_map, Nat.mul_one, beq_self_eq_true, KeyC.cs, Int.reduceAdd]))
  all_goals rfl
def ordI (x y : Bool) : Int := if x = true then -1 else if y = true then 1 else 0
theorem p_order (x y : Bool) : CP Try.prog 62 [.bool x, .bool y] (.int .i64 (ordI x y)) := by
  refine ok_life_order _ _ (by simp) ?_
  cases x <;> cases y
  all_goals simp only [c_life_order, ↓Ed, Eu, ↓reduceIte, reduceCtorEq, Nat.reduceAdd, Nat.reduceEqDiff, Nat.reduceLT, Nat.reduceLeDiff, Int.reduceToNat, Int.reduceEq, Int.reduceLT, Int.reduceLE, w64, List.length_append, List.length_map, Nat.mul_one, beq_self_eq_true, KeyC.cs, Int.reduceAdd]
  all_goals repeat' ((first | refine NewB_intro0 (fun b => ?_) | (refine NewB_intro (fun b hb => ?_); simp only [ln_cons2, ln_nil, and_true] at hb) | (with_reducible apply wA; focus exact OM_a) | ((first | refine gW_sp ?_ | refine condW_sp ?_ | refine pickW_sp ?_); (try refine Sp_n ?_); (first | refine wT ?_ | refine wF ?_ | refine wL (fun h h' => ?_) (fun h h' => ?_) | refine wE (fun h h' => ?_) (fun h h' => ?_) | refine Sp_split (fun h => ?_) (fun h => ?_)) <;> (try (exfalso; omega))) | refine TreeW_intro (by rfl) ?_ | refine TreeW_all ?_ | refine upQ_intro ?_ | refine Two_intro ?_ ?_ | exact wK | exact wD | (simp only [Fact, Bool.not_eq_true', Bool.not_eq_false', decide_eq_true_eq, decide_eq_false_iff_not] at *; exact wD) | (show (_ : Nat) ≤ _; omega)) <;> (try simp (disch := omega) only [*, ↓Ed, Eu, ↓reduceIte, reduceCtorEq, Nat.reduceAdd, Nat.reduceEqDiff, Nat.reduceLT, Nat.reduceLeDiff, Int.reduceToNat, Int.reduceEq, Int.reduceLT, Int.reduceLE, w64, List.length_append, List.length_map, Nat.mul_one, beq_self_eq_true, KeyC.cs, Int.reduceAdd]))
  all_goals rfl
theorem p_byEnd (a b : EndP) : CP Try.prog 45 [.agg [.str a.1, .int .i64 a.2], .agg [.str b.1, .int .i64 b.2]] (.int .i64 (cmpL endLt a b)) := by
  have h1 := p_PLess a b
  have h2 := p_PLess b a
  have h3 := p_order (endLt a b) (endLt b a)
  rw [show ordI (endLt a b) (endLt b a) = cmpL endLt a b from rfl] at h3
  refine ok_life_byEnd _ _ (by simp) ?_
  generalize cmpL endLt a b = n at *
  simp only [c_life_byEnd, ↓Ed, Eu, ↓reduceIte, reduceCtorEq, Nat.reduceAdd, Nat.reduceEqDiff, Nat.reduceLT, Nat.reduceLeDiff, Int.reduceToNat, Int.reduceEq, Int.reduceLT, Int.reduceLE, w64, List.length_append, List.length_map, Nat.mul_one, beq_self_eq_true, KeyC.cs, Int.reduceAdd]
  repeat' ((first | refine CallO_pure (h1) ?_ | refine CallO_pure (h2) ?_ | refine CallO_pure (h3) ?_ | refine CallW_intro (h1) ?_ | refine CallW_intro (h2) ?_ | refine CallW_intro (h3) ?_ | refine NewB_intro0 (fun b => ?_) | (refine NewB_intro (fun b hb => ?_); simp only [ln_cons2, ln_nil, and_true] at hb) | (with_reducible apply wA; focus exact OM_a) | ((first | refine gW_sp ?_ | refine condW_sp ?_ | refine pickW_sp ?_); (try refine Sp_n ?_); (first | refine wT ?_ | refine wF ?_ | refine wL (fun h h' => ?_) (fun h h' => ?_) | refine wE (fun h h' => ?_) (fun h h' => ?_) | refine Sp_split (fun h => ?_) (fun h => ?_)) <;> (try (exfalso; omega))) | refine TreeW_intro (by rfl) ?_ | refine TreeW_all ?_ | refine upQ_intro ?_ | refine Two_intro ?_ ?_ | exact wK | exact wD | (simp only [Fact, Bool.not_eq_true', Bool.not_eq_false', decide_eq_true_eq, decide_eq_false_iff_not] at *; exact wD) | (show (_ : Nat) ≤ _; omega)) <;> (try simp (disch := omega) only [*, ↓Ed, Eu, ↓reduceIte, reduceCtorEq, Nat.reduceAdd, Nat.reduceEqDiff, Nat.reduceLT, Nat.reduceLeDiff, Int.reduceToNat, Int.reduceEq, Int.reduceLT, Int.reduceLE, w64, List.length_append, List.length_map, Nat.mul_one, beq_self_eq_true, KeyC.cs, Int.reduceAdd]))
theorem p_byKey (a b : KeyC) : CP Try.prog 38 [.agg a.cs, .agg b.cs] (.int .i64 (cmpL keyLt a b)) := by
  have h1 := p_byEnd a.en b.en
  have h2 := p_order (!a.o && b.o) (a.o && !b.o)
  have h3 := p_order (decide (a.q < b.q)) (decide (b.q < a.q))
  simp only [KeyC.en] at h1
  refine ok_life_byKey _ _ (by simp) ?_
  have key : (cmpL endLt (a.e, a.ec) (b.e, b.ec) ≠ 0 ∧ cmpL keyLt a b = cmpL endLt (a.e, a.ec) (b.e, b.ec)) ∨ (cmpL endLt (a.e, a.ec) (b.e, b.ec) = 0 ∧ ((ordI (!a.o && b.o) (a.o && !b.o) ≠ 0 ∧ cmpL keyLt a b = ordI (!a.o && b.o) (a.o && !b.o)) ∨ (ordI (!a.o && b.o) (a.o && !b.o) = 0 ∧ cmpL keyLt a b = ordI (decide (a.q < b.q)) (decide (b.q < a.q))))) := by
    by_cases he : a.en = b.en
    · right
      have e1 : endLt (a.e, a.ec) (b.e, b.ec) = false := by rw [show ((a.e, a.ec) : EndP) = (b.e, b.ec) from he]; exact endSTO.irr _
      have e2 : endLt (b.e, b.ec) (a.e, a.ec) = false := by rw [show ((a.e, a.ec) : EndP) = (b.e, b.ec) from he]; exact endSTO.irr _
      refine ⟨by simp [cmpL, e1, e2], ?_⟩
      have hk : ∀ x y : KeyC, x.en = y.en → keyLt x y = ((!x.o && y.o) || (decide (x.o = y.o) && decide (x.q < y.q))) := fun x y h => by
        unfold keyLt; rw [h, endSTO.irr]; simp
      unfold cmpL
      rw [hk a b he, hk b a he.symm]
      cases ha : a.o <;> cases hb : b.o <;> simp [ordI]
    · left
      have hk : ∀ x y : KeyC, x.en ≠ y.en → keyLt x y = endLt x.en y.en := fun x y h => by
        unfold keyLt; rw [decide_eq_false h]; simp
      refine ⟨fun h => he ?_, by unfold cmpL; rw [hk a b he, hk b a (fun h => he h.symm)]; rfl⟩
      unfold cmpL at h
      refine endSTO.tot _ _ ?_ ?_
      · cases g : endLt a.en b.en with
        | false => rfl
        | true => rw [show endLt (a.e, a.ec) (b.e, b.ec) = true from g] at h; simp at h
      · cases g : endLt b.en a.en with
        | false => rfl
        | true =>
          rw [show endLt (b.e, b.ec) (a.e, a.ec) = true from g] at h
          split at h <;> simp at h
  obtain ⟨ae, aec, ao, aq⟩ := a; obtain ⟨be, bec, bo, bq⟩ := b
  simp only at *
  generalize cmpL endLt (ae, aec) (be, bec) = n1 at *
  generalize cmpL keyLt _ _ = m at *
  generalize ordI (decide (aq < bq)) (decide (bq < aq)) = n3 at *
  generalize hn2 : ordI (!ao && bo) (ao && !bo) = n2 at *
  rcases key with ⟨k1, hm⟩ | ⟨k1, ⟨k2, hm⟩ | ⟨k2, hm⟩⟩ <;> rw [hm] <;> clear hm
  · have f1 : Fact (decide (n1 = 0) = false) := decide_eq_false k1
    clear k1
    cases ao <;> cases bo <;> simp only [Bool.not_true, Bool.not_false, Bool.and_true, Bool.and_false, Bool.true_and, Bool.false_and] at h2
    all_goals simp only [c_life_byKey, ↓Ed, Eu, ↓reduceIte, reduceCtorEq, Nat.reduceAdd, Nat.reduceEqDiff, Nat.reduceLT, Nat.reduceLeDiff, Int.reduceToNat, Int.reduceEq, Int.reduceLT, Int.reduceLE, w64, List.length_append, List.length_map, Nat.mul_one, beq_self_eq_true, KeyC.cs, Int.reduceAdd]
    all_goals repeat' ((first | refine CallO_pure (h1) ?_ | refine CallO_pure (h2) ?_ | refine CallO_pure (h3) ?_ | refine CallW_intro (h1) ?_ | refine CallW_intro (h2) ?_ | refine CallW_intro (h3) ?_ | refine NewB_intro0 (fun b => ?_) | (refine NewB_intro (fun b hb => ?_); simp only [ln_cons2, ln_nil, and_true] at hb) | (with_reducible apply wA; focus exact OM_a) | ((first | refine gW_sp ?_ | refine condW_sp ?_ | refine pickW_sp ?_); (try refine Sp_n ?_); (first | refine wT ?_ | refine wF ?_ | refine wL (fun h h' => ?_) (fun h h' => ?_) | refine wE (fun h h' => ?_) (fun h h' => ?_) | refine Sp_split (fun h => ?_) (fun h => ?_)) <;> (try (exfalso; omega))) | refine TreeW_intro (by rfl) ?_ | refine TreeW_all ?_ | refine upQ_intro ?_ | refine Two_intro ?_ ?_ | exact wK | exact wD | (simp only [Fact, Bool.not_eq_true', Bool.not_eq_false', decide_eq_true_eq, decide_eq_false_iff_not] at *; exact wD) | (show (_ : Nat) ≤ _; omega)) <;> (try simp (disch := omega) only [*, ↓Ed, Eu, ↓reduceIte, reduceCtorEq, Nat.reduceAdd, Nat.reduceEqDiff, Nat.reduceLT, Nat.reduceLeDiff, Int.reduceToNat, Int.reduceEq, Int.reduceLT, Int.reduceLE, w64, List.length_append, List.length_map, Nat.mul_one, beq_self_eq_true, KeyC.cs, Int.reduceAdd]))
  · subst k1
    have f2 : Fact (decide (n2 = 0) = false) := decide_eq_false k2
    clear k2 hn2
    cases ao <;> cases bo <;> simp only [Bool.not_true, Bool.not_false, Bool.and_true, Bool.and_false, Bool.true_and, Bool.false_and] at h2
    all_goals simp only [c_life_byKey, ↓Ed, Eu, ↓reduceIte, reduceCtorEq, Nat.reduceAdd, Nat.reduceEqDiff, Nat.reduceLT, Nat.reduceLeDiff, Int.reduceToNat, Int.reduceEq, Int.reduceLT, Int.reduceLE, w64, List.length_append, List.length_map, Nat.mul_one, beq_self_eq_true, KeyC.cs, Int.reduceAdd]
    all_goals repeat' ((first | refine CallO_pure (h1) ?_ | refine CallO_pure (h2) ?_ | refine CallO_pure (h3) ?_ | refine CallW_intro (h1) ?_ | refine CallW_intro (h2) ?_ | refine CallW_intro (h3) ?_ | refine NewB_intro0 (fun b => ?_) | (refine NewB_intro (fun b hb => ?_); simp only [ln_cons2, ln_nil, and_true] at hb) | (with_reducible apply wA; focus exact OM_a) | ((first | refine gW_sp ?_ | refine condW_sp ?_ | refine pickW_sp ?_); (try refine Sp_n ?_); (first | refine wT ?_ | refine wF ?_ | refine wL (fun h h' => ?_) (fun h h' => ?_) | refine wE (fun h h' => ?_) (fun h h' => ?_) | refine Sp_split (fun h => ?_) (fun h => ?_)) <;> (try (exfalso; omega))) | refine TreeW_intro (by rfl) ?_ | refine TreeW_all ?_ | refine upQ_intro ?_ | refine Two_intro ?_ ?_ | exact wK | exact wD | (simp only [Fact, Bool.not_eq_true', Bool.not_eq_false', decide_eq_true_eq, decide_eq_false_iff_not] at *; exact wD) | (show (_ : Nat) ≤ _; omega)) <;> (try simp (disch := omega) only [*, ↓Ed, Eu, ↓reduceIte, reduceCtorEq, Nat.reduceAdd, Nat.reduceEqDiff, Nat.reduceLT, Nat.reduceLeDiff, Int.reduceToNat, Int.reduceEq, Int.reduceLT, Int.reduceLE, w64, List.length_append, List.length_map, Nat.mul_one, beq_self_eq_true, KeyC.cs, Int.reduceAdd]))
  · subst k1
    rw [k2] at h2
    clear hn2 k2
    cases ao <;> cases bo <;> simp only [Bool.not_true, Bool.not_false, Bool.and_true, Bool.and_false, Bool.true_and, Bool.false_and] at h2
    all_goals simp only [c_life_byKey, ↓Ed, Eu, ↓reduceIte, reduceCtorEq, Nat.reduceAdd, Nat.reduceEqDiff, Nat.reduceLT, Nat.reduceLeDiff, Int.reduceToNat, Int.reduceEq, Int.reduceLT, Int.reduceLE, w64, List.length_append, List.length_map, Nat.mul_one, beq_self_eq_true, KeyC.cs, Int.reduceAdd]
    all_goals repeat' ((first | refine CallO_pure (h1) ?_ | refine CallO_pure (h2) ?_ | refine CallO_pure (h3) ?_ | refine CallW_intro (h1) ?_ | refine CallW_intro (h2) ?_ | refine CallW_intro (h3) ?_ | refine NewB_intro0 (fun b => ?_) | (refine NewB_intro (fun b hb => ?_); simp only [ln_cons2, ln_nil, and_true] at hb) | (with_reducible apply wA; focus exact OM_a) | ((first | refine gW_sp ?_ | refine condW_sp ?_ | refine pickW_sp ?_); (try refine Sp_n ?_); (first | refine wT ?_ | refine wF ?_ | refine wL (fun h h' => ?_) (fun h h' => ?_) | refine wE (fun h h' => ?_) (fun h h' => ?_) | refine Sp_split (fun h => ?_) (fun h => ?_)) <;> (try (exfalso; omega))) | refine TreeW_intro (by rfl) ?_ | refine TreeW_all ?_ | refine upQ_intro ?_ | refine Two_intro ?_ ?_ | exact wK | exact wD | (simp only [Fact, Bool.not_eq_true', Bool.not_eq_false', decide_eq_true_eq, decide_eq_false_iff_not] at *; exact wD) | (show (_ : Nat) ≤ _; omega)) <;> (try simp (disch := omega) only [*, ↓Ed, Eu, ↓reduceIte, reduceCtorEq, Nat.reduceAdd, Nat.reduceEqDiff, Nat.reduceLT, Nat.reduceLeDiff, Int.reduceToNat, Int.reduceEq, Int.reduceLT, Int.reduceLE, w64, List.length_append, List.length_map, Nat.mul_one, beq_self_eq_true, KeyC.cs, Int.reduceAdd]))
end Go.Proofs.Ytobopbjedojebaa

/- slices.Collect, slices.SortedFunc over maps.Keys at lighterman/life.Key with lighterman/life.byKey (printed by turnsort.py) -/
namespace Go.Proofs.Ytobopbjedojebaa
set_option linter.all false
open Go.RowKit Go.ChangeMaps Go.Sort Go.Shelf
set_option maxRecDepth 100000
abbrev kycs (x : KeyC) : List AV := [.str x.e, .int .i64 x.ec, .bool x.o, .int .i64 x.q]
theorem kyflat (x : KeyC) : flatC (kycs x) = true := rfl
abbrev kycl (x : KeyC) : List Value := plainV (kycs x)
theorem kycl_len (x : KeyC) : (kycl x).length = 4 := rfl
theorem kycmp (x y : KeyC) (W : World) (hG : Glob W fun _ _ => False) : Calls Try.prog 38 #[.agg (kycl x).toArray, .agg (kycl y).toArray] W fun e w' => e = .returned (.int .i64 (cmpL keyLt x y)) ∧ ∃ q os', w' = grow (W.drewN q) os' := by
  refine CP_grow (p_byKey x y) hG (vs := [_, _]) rfl (fun i u c hu hc => ?_) (fun W' U' u h => by cases h; rfl)
  match i with
  | 0 => simp at hu hc; subst hu; subst hc; exact flat_VR (kyflat x) _ _
  | 1 => simp at hu hc; subst hu; subst hc; exact flat_VR (kyflat y) _ _
  | i + 2 => simp at hu
theorem kycmpLays (blk off size : Nat) (w : World) {U : Nat → Nat → Prop} (hG : Glob w U) (hb : ∀ x ∈ globTabs, x.1 ≠ blk) : CmpLays Try.prog 38 #[] kycl 4 (cmpL keyLt) blk off size w := fun _ _ _ _ x y => kycmp x y _ (glob_sort hG hb)
set_option maxHeartbeats 4000000 in
theorem kysorted (bx b : Nat) (es : Array MapEntry) (clk : Nat) (l : List KeyC) (w : World) {U : Nat → Nat → Prop} (hG : Glob w U) (tb : TypeId) (hbx : w.heap[bx]? = some (.cells #[.map (some b)] tb (0, 0))) (hb : w.heap[b]? = some (.map es clk))
    (hval : es.toList.map (·.key) = l.map fun x => .agg (kycl x).toArray) (hborn : ∀ x ∈ es.toList, x.born < clk) (hnd : (es.toList.map (·.born)).Nodup) (hl : l.length ≤ 1000000) :
    Calls Try.prog 36 #[.func (.func 61) #[] #[.pointer (some ⟨bx, 0, none⟩)], .func (.func 38) #[] #[]] w fun e W' =>
      ∃ (v : Value) (ds : List KeyC), e = .returned v ∧ ds.Perm l ∧ (∀ i j, i < j → j < ds.length → keyLt (ds.getD j default) (ds.getD i default) = false) ∧ W'.ownsRow w.heap.size 37 4 v ds.length (ds.flatMap kycl) ∧ Below w.heap.size w W' := by
  have hcol : Calls Try.prog 59 #[.func (.func 61) #[] #[.pointer (some ⟨bx, 0, none⟩)]] w fun e W' =>
      ∃ (v : Value) (xs : List KeyC), e = .returned v ∧ xs.Perm l ∧ W'.ownsRow w.heap.size 37 4 v xs.length (xs.flatMap kycl) ∧ Below w.heap.size w W' := by
    have ha := callsIn_wide.1 (kva_app kycl kycl_len (fun x => plainV_one (kyflat x)) Fence.wide 10 trivial trivial rfl (by omega) bx b es clk l w tb hbx hb hval hborn hnd hl)
    go_enter Try.func59, Try.ntmps59
    go_wp2_with (go_at_call 80; refine ha.mono ?_; rintro e W' ⟨v, xs, rfl, hp, hrow, hbl⟩)
    go_ret
    exact ⟨v, xs, rfl, hp, hrow, hbl⟩
  go_enter Try.func36, Try.ntmps36
  go_wp2_with (go_at_call 59; refine hcol.mono ?_; rintro e W' ⟨v, xs, rfl, hp, hrow, hbl⟩)
  rcases hrow.2 with ⟨rfl, hz⟩ | ⟨g, cap, cur, rfl, hbase, hgb, r1, r2, r3, r4⟩
  · have hss : xs = [] := List.eq_nil_of_length_eq_zero hz
    subst hss
    refine (AnyF.slices_SortFunc_none Try.sort60 none 0 _ W').mono ?_
    rintro e W2 ⟨rfl, rfl⟩
    go_wp2
    go_ret
    exact ⟨.slice none 0 0, [], rfl, hp, by simp, by simpa using hrow, hbl⟩
  · have hH := holdsK_of_block kycl_len (by omega) hgb r4
    have hgl : g < W'.heap.size := (Array.getElem?_eq_some_iff.1 hgb).1
    have hsz : xs.toArray.size < 4611686018427387904 := by
      have := hp.length_eq
      simp; omega
    have hG' := glob_below hG hbl
    have hnt : ∀ x ∈ globTabs, x.1 ≠ g := fun x hx e => by have := hG.lt hx; omega
    have cS := AnyQ.slices_SortFunc Try.sort60 4 Try.isAgg37 Try.sizeOf37 kycl kycl_len (fun x => plainV_one (kyflat x)) (cmpL keyLt) keySTO.swo 38 #[] g 0 cap xs.toArray W' (enters_of Try.func38 (by kernel_rfl) rfl) (kycmpLays _ _ _ _ hG' hnt) hH hgl hsz
    refine (show Calls Try.prog 60 #[.slice (some ⟨g, 0, none⟩) xs.length cap, _] W' _ from cS).mono ?_
    rintro e W2 ⟨rfl, d', nn, os, hperm, hsorted, rfl⟩
    have hpd : d'.toList.Perm xs := perm_of hperm
    have hown := ownsRow_sortK (n := nn) (os := os) kycl_len (by omega) (hpd.length_eq) hbase hgb r1 r2 r3
    have hgr := grown_sortK (cl := kycl) (k := 4) (w := W') (g := g) (n := nn) (os := os) d'
    simp only [Array.toArray_toList] at hown
    go_wp2
    go_ret
    refine ⟨_, d'.toList, rfl, hpd.trans hp, fun i j hij hj => ?_, ?_, hbl.grown hgr hbl.size (fun k e => by cases e; exact hbase)⟩
    · have hj' : j < xs.toArray.size := by rw [List.size_toArray, ← hpd.length_eq]; exact hj
      have h5 := hsorted i j (Nat.zero_le _) hij hj'
      rw [lt_cmpL] at h5
      have hds : d'.size = d'.toList.length := by simp
      have e1 : d'[i]! = d'.toList.getD i default := by simp [List.getD, getElem!_pos, show i < d'.size by omega]
      have e2 : d'[j]! = d'.toList.getD j default := by simp [List.getD, getElem!_pos, show j < d'.size by omega]
      rw [← e1, ← e2]; exact h5
    · rw [hpd.length_eq]; exact hown
theorem kyt_Keys (m : Nat) : CT Try.prog 37 [.mapv m] (lk []) (fun r o => ∃ b, r = .clo 61 [.ptr b 0] ∧ o = lk [(b, [.mapv m])]) := by
  refine CT_lays (R := fun b => .clo _ [.ptr b 0]) fun W U vs hl hv => ?_
  obtain rfl : vs = [.map (some m)] := by
    match vs, hl with
    | [v], _ => rw [(hv 0 v _ rfl rfl).map_inv]
  go_enter Try.func37, Try.ntmps37
  go_wp2
  go_ret
  refine ⟨_, _, _, rfl, rfl, rfl, fun u hu => (by cases hu), fun j u hj => ?_, fun W2 U2 hc => ?_, by simp⟩
  · match j with
    | 0 =>
      simp at hj; subst hj
      exact ⟨rfl, fun x hx => by simp at hx; subst hx; exact ⟨.mapv m, by simp⟩⟩
    | j + 1 => simp at hj
  · refine .clo _ [_] [_] rfl fun i v c h1 h2 => ?_
    match i with
    | 0 => simp at h1 h2; subst h1; subst h2; exact .ptr _ _ hc
    | i + 1 => simp at h1
theorem kyt_Sorted (bx m : Nat) (h1 : ¬ bx = m) (l : List KeyC) (vals : List AV) (ha : l.Nodup) (hl : l.length ≤ 1000) :
    CT Try.prog 36 [.clo 61 [.ptr bx 0], .fn 38] (lk [(bx, [.mapv m]), (m, [.mp (l.map fun x => .agg (kycs x)) vals (List.range l.length) l.length])])
      (fun r o => r = .sl (some 37) 4 ((srtL keyLt l).map kycs) ∧ o = lk [(bx, [.mapv m]), (m, [.mp (l.map fun x => .agg (kycs x)) vals (List.range l.length) l.length])]) := by
  refine CT_reads fun W U vs hG hlen hv ho => ?_
  obtain rfl : vs = [.func (.func 61) #[] #[.pointer (some ⟨bx, 0, none⟩)], .func (.func 38) #[] #[]] := by
    match vs, hlen with
    | [v, u], _ => rw [(hv 0 v _ rfl rfl).clo1_inv, (hv 1 u _ rfl rfl).fn_inv]
  obtain ⟨us, ty, q1, q2, q3⟩ : ObC W U bx [.mapv m] := ho bx _ (lk_hd _ _ _)
  obtain ⟨es, g1, g2, g3, g4, g5, g6, g7⟩ : ObR W U m [.mp (l.map fun x => .agg (kycs x)) vals (List.range l.length) l.length] := ho m _ (lk_tl (fun e => h1 e.symm) (lk_hd _ _ _))
  have hus : us = #[.map (some m)] := by
    have h0 := (q3 0 _ rfl).1.map_inv
    match us, q2 with
    | ⟨[a]⟩, _ => simp at h0; subst h0; rfl
  subst hus
  have hsz : es.size = l.length := by rw [g2]; simp
  have hborn : ∀ (i : Nat) (e : MapEntry), es[i]? = some e → e.born = i := by
    intro i e he
    have hi : i < es.size := (Array.getElem?_eq_some_iff.1 he).1
    exact (g7 i e he).2.2 i (by rw [List.getElem?_range (by omega)])
  have hval : es.toList.map (·.key) = l.map fun x => .agg (kycl x).toArray := by
    apply List.ext_getElem?
    intro i
    by_cases hi : i < es.size
    · have hil : i < l.length := by omega
      have he : es[i]? = some es[i] := Array.getElem?_eq_getElem hi
      have hx := (g7 i _ he).1 (.agg (kycs l[i])) (by simp [List.getElem?_eq_getElem hil])
      simp only [List.getElem?_map, Array.getElem?_toList, he, Option.map_some, List.getElem?_eq_getElem hil]
      rw [flat_inv (kyflat _) hx]
    · rw [List.getElem?_eq_none (by simp; omega), List.getElem?_eq_none (by simp; omega)]
  have hb1 : ∀ x ∈ es.toList, x.born < l.length := by
    intro x hx
    obtain ⟨i, hi, rfl⟩ := List.getElem_of_mem hx
    simp at hi
    have := hborn i es[i] (Array.getElem?_eq_getElem hi)
    simp [this]; omega
  have hnd : (es.toList.map (·.born)).Nodup := by
    have : es.toList.map (·.born) = List.range es.size := by
      apply List.ext_getElem
      · simp
      · intro i h2 h3
        simp at h2
        simp [hborn i es[i] (Array.getElem?_eq_getElem h2)]
    rw [this]; exact List.nodup_range
  refine (kysorted bx m es _ l W hG _ q1 g1 hval hb1 hnd (by omega)).mono ?_
  rintro e W' ⟨v, ds, rfl, hp, hs, hrow, hbl⟩
  have hDS : srtL keyLt l = ds := rise_unique keySTO (srtL_rise keySTO ha) (rise_of keySTO hs (hp.nodup_iff.2 ha)) ((srtL_perm _ _).trans hp.symm)
  rw [hDS]
  obtain ⟨U', r1, r2, r3⟩ := row_VR (U := U) (e := 37) (k := 4) (els := ds.map kycs) (by omega) hbl hrow (by simp) (fun l hl => by
      simp only [List.mem_map] at hl
      obtain ⟨a, _, rfl⟩ := hl
      rfl) (fun u hu => by
      obtain ⟨x, _, hx⟩ := List.mem_flatMap.1 hu
      exact plainV_one (kyflat x) u hx) (fun i j l' c u hl' hc hu W2 U2 => by
      simp only [List.getElem?_map, Option.map_eq_some_iff] at hl'
      obtain ⟨x, hx, rfl⟩ := hl'
      have hj : j < 4 := (List.getElem?_eq_some_iff.1 hc).1
      have hi : i < ds.length := (List.getElem?_eq_some_iff.1 hx).1
      rw [flat_getD kycl_len ds i j hi hj, hx] at hu
      exact (plainV_get _ (kyflat x) j c u hc hu).1 W2 U2)
  exact ⟨v, U', rfl, r1, fun e sz els he => by cases he; exact r2, r3⟩
end Go.Proofs.Ytobopbjedojebaa

/- maps.Keys of a map keyed by api.End; slices.AppendSeq over it (printed by turnkeys.py) -/
namespace Go.Proofs.Ytobopbjedojebaa
set_option linter.all false
open Go.RowKit Go.ChangeMaps Go.Sort Go.Shelf
set_option maxRecDepth 100000 in
set_option maxHeartbeats 4000000 in
theorem eva_iter {α : Type} [Inhabited α] (cl : α → List Value) (hcl : ∀ x, (cl x).length = 2) (h1 : ∀ x, ∀ u ∈ cl x, u.oneCell' = true) (F : Fence) (n : Nat) (hf : F.fn 67) (hro : F.round = none) (hn : 1 ≤ n)
    (bx b : Nat) (es : Array MapEntry) (clk : Nat) (l : List α) (w : World) (tb : TypeId) (hbx : w.heap[bx]? = some (.cells #[.map (some b)] tb (0, 0))) (hb : w.heap[b]? = some (.map es clk))
    (hval : es.toList.map (·.key) = l.map fun x => .agg (cl x).toArray) (hborn : ∀ x ∈ es.toList, x.born < clk) (hnd : (es.toList.map (·.born)).Nodup) :
    SeqStops F n Try.prog 67 #[.pointer (some ⟨bx, 0, none⟩)] (fun x => .agg (cl x).toArray) (fun xs => xs.Perm l) (fun _ => True) l.length w := by
  intro lp J Jx W hW hJ hJx hY h0
  have hbxl : bx < w.heap.size := (Array.getElem?_eq_some_iff.1 hbx).1
  have hbl : b < w.heap.size := (Array.getElem?_eq_some_iff.1 hb).1
  have hbx1 : W.heap[bx]? = some (.cells #[.map (some b)] tb (0, 0)) := (hW.block bx hbxl).trans hbx
  have hb1 : W.heap[b]? = some (.map es clk) := (hW.block b hbl).trans hb
  have hc1 : W.cell? ⟨bx, 0, none⟩ = some (.map (some b)) := by simp [World.cell?, hbx1]
  have hsz := hW.size
  refine callsIn_of_wp Try.func67 rfl hf ?_ hro
  simp only [Try.ntmps67, List.size_toArray, List.length_cons, List.length_nil, Nat.reduceAdd, Nat.reduceSub, Array.replicate_succ, Array.replicate_zero, List.push_toArray, List.append_toArray, List.nil_append, List.cons_append]
  gi_wp2_with (first
    | (gi_at_range; refine walk_range _ rfl _ _ rfl _ _ Try.underlying75 b es clk rfl hb1 ?_)
    | gi_in)
  gi_loopw [3] (fun _ wr => ∃ (seen : Array Nat) (is : List Nat), wr.heap[W.heap.size]? = some (.mapIter (some b) clk seen clk) ∧ wr.heap[b]? = some (.map es clk) ∧ W.heap.size ≤ wr.heap.size ∧ Came es seen is ∧ J (is.map fun i => l.getD i default) wr)
    (fun _ wr => es.size - seenN wr W.heap.size)
  case atStart =>
    refine ⟨#[], [], World.alloc_heap_new W _, (Below.heap_alloc _ _ b (by omega)).trans hb1, by simp, Came.nil es, ?_⟩
    exact hJ [] W _ none h0 (World.grownBy_alloc W _ none) (fun r e => by cases e)
  case round =>
    obtain ⟨seen, is, hr1, hr2, hr3, hC, hJs⟩ := hrel
    gi_wp2_with (first
      | (gi_at_next; refine walk_next _ rfl _ rfl W.heap.size b clk es seen rfl hr1 hr2 hborn ?_ ?_)
      | gi_in)
    · intro hl0
      gi_wp2
      go_end0
      refine ⟨⟨_, rfl⟩, .inl ⟨_, ?_, hJs⟩⟩
      have hp := hC.all hnd hl0
      have hlen : es.size = l.length := by have := congrArg List.length hval; simpa using this
      rw [hlen] at hp
      have := hp.map fun i => l.getD i default
      rwa [range_getD_map] at this
    · intro e w2 he hst
      obtain ⟨i, hi, hC2⟩ := hC.step hnd he
      have hil : i < es.size := (Array.getElem?_eq_some_iff.1 hi).1
      have hlen : es.size = l.length := by have := congrArg List.length hval; simpa using this
      have hv : e.key = .agg (cl (l.getD i default)).toArray := by
        have := congrArg (fun q => q[i]?) hval
        simp only [List.getElem?_map, Array.getElem?_toList, hi, Option.map_some] at this
        rw [List.getElem?_eq_getElem (by omega)] at this
        simpa [List.getD, show i < l.length by omega] using this
      have hmem : e ∈ es.toList := by
        rw [List.mem_iff_getElem?]
        exact ⟨i, by rw [Array.getElem?_toList]; exact hi⟩
      have hne : b ≠ W.heap.size := by omega
      have hb2 : w2.heap[b]? = some (.map es clk) := (hst.grown.block b (by omega) (by simpa using hne)).trans hr2
      have hJ2 := hJ _ _ w2 _ hJs hst.grown (fun r e => by cases e; exact ⟨Nat.le_refl _, _, hr1, rfl⟩)
      have hs2 := hst.size
      have hWr : W.heap.size < wr.heap.size := (Array.getElem?_eq_some_iff.1 hr1).1
      have hr2' := hst.at_
      obtain ⟨x, hx⟩ : ∃ x, l.getD i default = x := ⟨_, rfl⟩
      rw [hx] at hv
      have hJ3 : J (is.map fun i => l.getD i default) (w2.alloc (.cells (cl x).toArray 23)) := hJ _ _ _ none hJ2 (World.grownBy_alloc w2 _ none) (fun r e => by cases e)
      have hlt : (is.map fun i => l.getD i default).length < l.length := by
        have := nodup_lt _ _ hC2.nd hC2.lt
        simp at this ⊢; omega
      obtain ⟨fn, tmps, assign, body, hy, hR⟩ := hY _ x _ hJ3 hlt
      have hcs : (cl x).toArray.size = 2 := by simp [hcl]
      have hone : ∀ u ∈ (cl x).toArray.toList, u.oneCell' = true := by simpa using h1 x
      have hso : ∀ w, (Go.sizeOf 23).run Try.prog w = .ok (cl x).toArray.size w := fun w => by rw [hcs]; exact Try.sizeOf23 w
      generalize (cl x).toArray = c at hv hy hR hcs hone hso
      clear hJ3 hJ2 hJs h1 hcl
      gi_wp2_with (first
        | (refine walk_entry _ rfl _ rfl W.heap.size b clk es seen e rfl hr2' hb2 hmem hnd ?_)
        | (refine walk_store _ rfl rfl _ _ 23 rfl 2 (by kernel_rfl) wr.heap.size _ c 23 rfl (alloc_at hs2 _) rfl rfl hcs hone ?_; rw [alloc_setRow2 hs2])
        | (refine walk_load _ rfl _ 23 rfl wr.heap.size c 23 Try.isAgg23 hso rfl (alloc_at hs2 _) ?_)
        | gi_in)
      refine hR.mono ?_
      rintro e2 W3 (⟨rfl, hJ4, hk3⟩ | ⟨rfl, hJx4⟩)
      · gi_wp2
        have ha : (w2.alloc (.cells c 23)).heap[W.heap.size]? = some (.mapIter (some b) clk (seen.push e.born) clk) := (Below.heap_alloc _ _ _ (by omega)).trans hr2'
        have hb3 : (w2.alloc (.cells c 23)).heap[b]? = some (.map es clk) := (Below.heap_alloc _ _ _ (by omega)).trans hb2
        have ha3 := hk3.same _ _ ha rfl
        go_roundw
        case rel =>
          refine ⟨_, is ++ [i], ha3, hk3.same _ _ hb3 rfl, ?_, hC2, ?_⟩
          · have := hk3.size; simp at this; omega
          · rw [List.map_append, List.map_singleton, hx]; exact hJ4
        case measure =>
          have q1 : seenN W3 W.heap.size = seen.size + 1 := by simp [seenN, ha3]
          have q2 : seenN wr W.heap.size = seen.size := by simp [seenN, hr1]
          have q3 := hC2.size
          have q4 := nodup_lt _ _ hC2.nd hC2.lt
          simp only [Array.size_push, List.length_append, List.length_singleton] at q3 q4
          rw [q1, q2]; omega
      · gi_wp2
        (try simp only [Exit.inBlock, Exit.then]); refine bodyPost_ret (results_none rfl _ _ _) rfl ?_
        exact ⟨⟨_, rfl⟩, .inr ⟨_, trivial, hJx4⟩⟩

/-- Between two rounds. -/
structure eApI {α : Type} (cl : α → List Value) (w : World) (xs : List α) (W : World) : Prop where
  box : ∃ v, W.heap[w.heap.size]? = some (.cells #[v] 45 (0, 0)) ∧ W.ownsRow w.heap.size 23 2 v xs.length (xs.flatMap cl)
  below : Below w.heap.size w W
theorem eApI.own {α : Type} (cl : α → List Value) (w : World) (B : Nat) (hB : w.heap.size ≤ B) : OwnFrom B (eApI cl w) := by
  intro xs W W' row h hg hr
  obtain ⟨v, hv, hrow⟩ := h.box
  refine ⟨⟨v, (grownBy_keeps_cells hg (fun r e => (hr r e).2) hv rfl).trans hv, row_own hrow hg fun r e => (hr r e).2⟩, h.below.grown hg h.below.size fun k e => Nat.le_trans hB (hr k e).1⟩
set_option maxRecDepth 100000 in
set_option maxHeartbeats 4000000 in
theorem eva_app {α : Type} [Inhabited α] (cl : α → List Value) (hcl : ∀ x, (cl x).length = 2) (h1 : ∀ x, ∀ u ∈ cl x, u.oneCell' = true) (F : Fence) (n : Nat) (hf : F.fn 67)
    (hf2 : F.fn 83) (hro : F.round = none) (hn : 3 ≤ n)
    (bx b : Nat) (es : Array MapEntry) (clk : Nat) (l : List α) (w : World) (tb : TypeId) (hbx : w.heap[bx]? = some (.cells #[.map (some b)] tb (0, 0))) (hb : w.heap[b]? = some (.map es clk))
    (hval : es.toList.map (·.key) = l.map fun x => .agg (cl x).toArray) (hborn : ∀ x ∈ es.toList, x.born < clk) (hnd : (es.toList.map (·.born)).Nodup) (hl : l.length ≤ 1000000) :
    CallsIn F n Try.prog 83 #[.slice none 0 0, .func (.func 67) #[] #[.pointer (some ⟨bx, 0, none⟩)]] w fun e W' =>
      ∃ (v : Value) (xs : List α), e = .returned v ∧ xs.Perm l ∧ W'.ownsRow w.heap.size 23 2 v xs.length (xs.flatMap cl) ∧ Below w.heap.size w W' := by
  have hbxl : bx < w.heap.size := (Array.getElem?_eq_some_iff.1 hbx).1
  have hbl : b < w.heap.size := (Array.getElem?_eq_some_iff.1 hb).1
  have hmx : maxLen = 9223372036854775807 := rfl
  refine callsIn_of_wp_marks Try.func83 rfl hf2 ?_ hro
  simp only [Try.ntmps83, List.size_toArray, List.length_cons, List.length_nil, Nat.reduceAdd, Nat.reduceSub, Array.replicate_succ, Array.replicate_zero, List.push_toArray, List.append_toArray, List.nil_append, List.cons_append]
  gi_wp2
  obtain ⟨W0, hW0⟩ : ∃ W0, w.alloc (.cells #[.slice none 0 0] 45) = W0 := ⟨_, rfl⟩
  rw [hW0]
  have hs0 : W0.heap.size = w.heap.size + 1 := by rw [← hW0]; simp
  have hv0 : W0.heap[w.heap.size]? = some (.cells #[.slice none 0 0] 45 (0, 0)) := by rw [← hW0]; exact World.alloc_heap_new w _
  have hB0 : Below w.heap.size w W0 := by rw [← hW0]; exact (Below.refl _ w).alloc (Nat.le_refl _) _
  have hbx0 : W0.heap[bx]? = some (.cells #[.map (some b)] tb (0, 0)) := (hB0.block bx hbxl).trans hbx
  have hb0 : W0.heap[b]? = some (.map es clk) := (hB0.block b hbl).trans hb
  obtain ⟨i0, hi, hz0, hz1, hz2⟩ := info_parts (P := Try.prog) (e := 23) (z := .agg #[.string ⟨#[]⟩, .int .i64 0]) (size := 2) (bytes := 24) (by kernel_rfl)
  refine walk_seq (pt := 7) hro (by omega) (gf := 67) (lb := #[.pointer (some ⟨bx, 0, none⟩)]) rfl hf (enters_of Try.func67 (by kernel_rfl) rfl)
    (eva_iter cl hcl h1 F (n - 1) hf hro (by omega) bx b es clk l W0 tb hbx0 hb0 hval hborn hnd) (eApI cl w) (eApI.own cl w _ (by omega)) ⟨⟨_, hv0, ⟨rfl, .inl ⟨rfl, rfl⟩⟩⟩, hB0⟩
    (fun x => .cells (cl x).toArray 23 (0, 0)) (fun _ => rfl)
    (fun x p => { tmps := #[.slice none 0 0, .func (.func 67) #[] #[.pointer (some ⟨bx, 0, none⟩)], .pointer (some ⟨w.heap.size, 0, none⟩), undef, .slice none 0 0, .pointer (some ⟨p, 0, none⟩), .func (.func 67) #[] #[.pointer (some ⟨bx, 0, none⟩)], .agg (cl x).toArray, undef, undef, undef, undef, undef], defers := [] }) ?_ ?_ ?_
  · intro lp x W K hK
    have hcs : (cl x).toArray.size = 2 := by simp [hcl]
    have hone : ∀ u ∈ (cl x).toArray.toList, u.oneCell' = true := by simpa using h1 x
    generalize (cl x).toArray = c at hK hcs hone
    gi_wp2_with (first
      | (refine walk_store _ rfl rfl _ _ 23 rfl 2 (by kernel_rfl) W.heap.size _ c 23 rfl (alloc_at rfl _) rfl rfl hcs hone ?_; rw [alloc_setRow2 rfl])
      | (rw [Oper.semAt_eq _ _ _ (fun c h => by cases h)]; go_simp; try go_bits))
    exact hK
  · intro lp pre x W p hI hlen hp hwp
    obtain ⟨⟨v, hv, hrow⟩, hbel⟩ := hI
    have hcv : W.cell? ⟨w.heap.size, 0, none⟩ = some v := by simp [World.cell?, hv]
    have hfv : W.frozen? ⟨w.heap.size, 0, none⟩ = false := by simp [World.frozen?, hv]
    have hBlt : w.heap.size < W.heap.size := (Array.getElem?_eq_some_iff.1 hv).1
    have hcs : (cl x).toArray.size = 2 := by simp [hcl]
    have hso : ∀ w, (Go.sizeOf 23).run Try.prog w = .ok (cl x).toArray.size w := fun w => by rw [hcs]; exact Try.sizeOf23 w
    have hcell : ∀ j u, (cl x)[j]? = some u → (W.alloc (.cells (cl x).toArray 23)).cell? ((⟨W.heap.size, 0, none⟩ : Addr).add j) = some u := by
      intro j u hj
      rw [add_mk, cell_of_row _ _ _ _ _ _ (World.alloc_heap_new W _)]
      simpa using hj
    have hlcl := hcl x
    have hfm : (pre ++ [x]).flatMap cl = pre.flatMap cl ++ cl x := by simp
    have hone := h1 x
    have hne : some w.heap.size ≠ v.ownBlock := by
      rcases hrow.2 with ⟨rfl, _⟩ | ⟨g, cap, cur, rfl, _, hgb, _⟩
      · simp [Value.ownBlock]
      · intro e
        have e' : w.heap.size = g := by simpa [Value.ownBlock] using e
        subst e'
        rw [hv] at hgb
        cases hgb
    gi_wp2_with (first
      | (refine walk_load _ rfl _ 23 rfl p (cl x).toArray 23 Try.isAgg23 hso rfl hp ?_)
      | (refine walk_bs1 _ rfl _ 45 23 rfl i0 Try.underlying45 hi _ hz0 2 hz1 rfl (by omega) (by omega) (cl x).toArray rfl hcs ?_)
      | (gi_at_builtin; refine wpListIn_append_own _ rfl _ _ 45 rfl w.heap.size 23 i0 _ 2 24 Try.underlying45 hi hz0 hz1 hz2 rfl (by decide) _ _ _ rfl (hrow.alloc _) ⟨W.heap.size, 0, none⟩ 1 1 (cl x) rfl (by rw [hlcl]) hcell hone (by omega) (by omega) (by simp; omega) ?_; intro v' w3 hown' hg3 hnil3
         have hv3 : w3.heap[w.heap.size]? = some (.cells #[v] 45 (0, 0)) := (hg3.block w.heap.size (by simp; omega) hne).trans ((Below.heap_alloc _ _ _ hBlt).trans hv)
         have hcv3 : w3.cell? ⟨w.heap.size, 0, none⟩ = some v := by simp [World.cell?, hv3]
         have hfv3 : w3.frozen? ⟨w.heap.size, 0, none⟩ = false := by simp [World.frozen?, hv3]
         obtain ⟨g', cap', cur', rfl, hg'⟩ : ∃ g' cap' cur', v' = .slice (some ⟨g', 0, none⟩) (pre.length + 1) cap' ∧ w3.heap[g']? = some (.cells cur' 23 (0, 0)) := by
           rcases hown'.2 with ⟨_, h0⟩ | ⟨g', cap', cur', e, _, q, _⟩
           · exact absurd h0 (by omega)
           · exact ⟨g', cap', cur', e, q⟩)
      | (rw [Oper.semAt_eq _ _ _ (fun c h => by cases h)]; go_simp; try go_bits))
    have hgs := grown_setCell w3 w.heap.size (.slice (some ⟨g', 0, none⟩) (pre.length + 1) cap')
    have hne2 : (Value.slice (some ⟨g', 0, none⟩) (pre.length + 1) cap').ownBlock ≠ some w.heap.size := by
      intro e
      have e' : g' = w.heap.size := by simpa [Value.ownBlock] using e
      subst e'
      rw [hv3] at hg'
      cases hg'
    have hrc : ∀ (j : Nat) (o : Obj), v.ownBlock = some j → (W.alloc (.cells (cl x).toArray 23)).heap[j]? = some o → o.isCells = true := by
      intro j o hj ho
      rcases (hrow.alloc (.cells (cl x).toArray 23)).2 with ⟨rfl, _⟩ | ⟨g, cap, cur, rfl, _, hgb, _⟩
      · simp [Value.ownBlock] at hj
      · have : g = j := by simpa [Value.ownBlock] using hj
        subst this; rw [hgb] at ho; cases ho; rfl
    have hb3 : Below w.heap.size w w3 := (hbel.alloc hbel.size _).grown hg3 (by have := hbel.size; simp; omega) (fun k e => (hrow.lt k e).1)
    refine ⟨((KeepsOthers.alloc W _).trans (KeepsOthers.of_grownBy hg3 hrc)).trans (KeepsOthers.setCell _ _ _), ⟨⟨_, heap_setCell_one _ hv3, ?_⟩, hb3.grown hgs hb3.size (fun k e => by cases e; exact Nat.le_refl _)⟩⟩
    rw [hfm, List.length_append, List.length_singleton]
    exact hown'.kept hgs (.inr hne2)
  · intro D xs W hD hS hI hK
    obtain ⟨⟨v, hv, hrow⟩, hbel⟩ := hI
    have hcv : W.cell? ⟨w.heap.size, 0, none⟩ = some v := by simp [World.cell?, hv]
    gi_wp2
    refine ⟨by simp, .inl ⟨_, _, rfl, run_takeDeferred hK, ?_⟩⟩
    have hgp := grownBy_putObj' W D (.deferred none)
    exact ⟨_, results_tmp rfl _ _ _, v, xs, rfl, hS, row_own hrow hgp (fun r e => by cases e; exact ⟨_, hK, rfl⟩), hbel.grown hgp hbel.size (fun k e => by cases e; omega)⟩
end Go.Proofs.Ytobopbjedojebaa
