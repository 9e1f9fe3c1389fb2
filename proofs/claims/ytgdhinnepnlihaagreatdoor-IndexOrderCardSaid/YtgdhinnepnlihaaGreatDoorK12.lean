import Derived.RunT
import Derived.Calls
import Derived.Test.YtgdhinnepnlihaaGreatDoorK11
import Derived.Sort.Grow
import Derived.Deep.Draws
import Derived.Sort.Walk0
import Derived.Shelf.SlGeneric
import Derived.Shelf.SlicesE.Clone
import Derived.Ground.SlgnProg
import Derived.Shelf.SlIterI.Sorted
import Derived.Ground.GgzProg
import Derived.Shelf.SortM.Plain
import Derived.Shelf.SortM.SortNone
import Derived.Ground.SlgmProg
import Derived.Test.YtgdhinnepnlihaaGreatDoorProg
namespace Go.Proofs.YtgdhinnepnlihaaGreatDoor
set_option linter.all false
set_option maxHeartbeats 9000000
section
open Go

theorem ask_dr{α:Type}:∀ (q:Ask α) (w:World),w.drawn≤(w.ask q).2.drawn
 | .done a,w=>Nat.le_refl _
 | .ask what range k,w=>by
  unfold World.ask
  simp only
  split
  ·exact ask_dr _ _
  ·exact Nat.le_trans (Nat.le_succ _) (ask_dr _ { w with drawn:=w.drawn+1 })
theorem b7A(w:World)(c:Sys):w.drawn≤(w.sys c).2.drawn:=by
 have h:=ask_dr (Kernel.perform c w.os) w
 unfold World.sys
 split
 ·exact Nat.le_refl _
 ·rename_i e;rw[e]at h;exact h
theorem b1O(w:World)(a:Addr)(n:Nat):(w.freeze a n).drawn=w.drawn:=by unfold World.freeze;split<;>rfl
theorem b5V(p:Program)(w w':World)(at_:Addr)(u:TypeId)(k:Addr)(v:Value)(b:Bool)(l:List Addr)(h:w.viewStore p at_ u k v b=.ok (w',l)):w'.drawn=w.drawn:=by
 unfold World.viewStore at h
 simp only[bind,Except.bind,pure,Except.pure]at h
 repeat' first
  | (simp at h;done)
  | (simp only[Except.ok.injEq,Prod.mk.injEq]at h;obtain ⟨rfl,_⟩:=h;rfl)
  | split at h
theorem b6x(p:Program)(w w':World)(a:Addr)(v:Value)(b:Bool)(l:List Addr)(h:w.farStore p a v b=.ok (w',l)):w'.drawn=w.drawn:=by
 unfold World.farStore at h
 repeat' first
  | (simp at h;done)
  | (rename_i e;simp only[Except.ok.injEq]at h;subst h;exact b5V _ _ _ _ _ _ _ _ _ e)
  | split at h
def RD{α:Type}(d:Nat):Result α→Prop
 | .ok _ w=>d≤w.drawn
 | .halt _ w=>d≤w.drawn
theorem RD.le{α:Type}{d e:Nat}(h:e≤d){r:Result α}(hr:RD d r):RD e r:=by cases r<;>exact Nat.le_trans h hr
theorem run_dr{α:Type}(p:Program)(s:Sem α):∀ w:World,RD w.drawn (s.run p w):=by
  induction s with
  | pure a=>intro w;exact Nat.le_refl _
  | load m a k ih=>
    intro w;unfold Sem.run
    split
    · exact ih _ _
    · split
      · exact ih _ _
      · exact Nat.le_refl _
  | store m a v k ih=>
    intro w
    cases v
    all_goals simp only[Sem.run]
    all_goals first
      | exact Nat.le_refl _
      | (split
         · split
           · exact Nat.le_refl _
           · exact ih _
         · split
           · rename_i e;exact (ih _).le (Nat.le_of_eq (b6x _ _ _ _ _ _ _ e).symm)
           · exact Nat.le_refl _)
  | new o k ih=>intro w;exact ih _ _
  | shape r k ih=>intro w;exact ih _ _
  | freeze a n k ih=>intro w;exact (ih (w.freeze a n)).le (Nat.le_of_eq (b1O w a n).symm)
  | frozen a k ih=>intro w;exact ih _ _
  | getObj r k ih=>
    intro w;unfold Sem.run
    split
    · exact Nat.le_refl _
    · exact ih _ _
    · exact Nat.le_refl _
  | setObj r o k ih=>
    intro w;unfold Sem.run
    split
    · exact Nat.le_refl _
    · exact ih { w with heap:=w.heap.setIfInBounds r o }
    · exact Nat.le_refl _
  | choose q k ih=>
    intro w;unfold Sem.run
    split
    · exact ih _ _
    · exact (ih _ { w with drawn:=w.drawn+1 }).le (Nat.le_succ _)
  | sys c k ih=>intro w;exact (ih _ (w.sys c).2).le (b7A w c)
  | program k ih=>intro w;exact ih _ _
  | mark m k ih=>intro w;exact ih _
  | halt h=>intro w;exact Nat.le_refl _
theorem runT_dr{α:Type}(p:Program)(s:Sem α)(w:World)(es:Array Event):RD w.drawn (s.runT p w es).1:=by rw[Sem.runT_fst];exact run_dr p s w

def GD(d:Nat):GStep→Prop
 | .go _ w _=>d≤w.drawn
 | .comm _ _ _ _ w _=>d≤w.drawn
 | .spawn _ _ w _=>d≤w.drawn
 | .count _ w _=>d≤w.drawn
 | .timer _ _ w _=>d≤w.drawn
 | .alone _ _ w _=>d≤w.drawn
 | .newcoro _ _ _ w _=>d≤w.drawn
 | .coroswitch _ _ _ w _=>d≤w.drawn
 | .collect _ w _=>d≤w.drawn
 | .watch _ w _=>d≤w.drawn
 | .ended _ _ _=>True
theorem GD.le{d e:Nat}(h:e≤d){g:GStep}(hg:GD d g):GD e g:=by cases g<;>first|trivial|exact Nat.le_trans h hg
theorem GD.after{d:Nat}{es:Array Event}{g:GStep}(h:GD d g):GD d (g.after es):=by cases g<;>exact h
theorem endWith_dr{d:Nat}(w:World)(fd:Nat)(t:ByteArray)(o:Outcome):GD d (endWith w fd t o):=by
 unfold endWith
 simp only
 repeat' first|trivial|split
theorem a4m(fr:Frame)(m:String)(w:World):GD w.drawn (endThrow fr m w):=Nat.le_refl _
theorem a4i(p:Program)(fr:Frame)(v:Value)(w:World):GD w.drawn (endPrinting p fr v w):=by
 unfold endPrinting
 simp only
 repeat' first|trivial|exact a4m _ _ _|split
theorem a6j(p:Program)(fr:Frame)(cs:List Frame)(dy:Option Dying)(m:String)(w:World):GD w.drawn (endFatal p fr cs dy m w):=by
  unfold endFatal
  simp only
  split
  all_goals first
    | trivial
    | (rename_i e
       have h:=congrArg (RD w.drawn) e
       rw[eq_iff_iff]at h
       exact h.1 (run_dr _ _ _))
theorem b1v(p:Program)(fr:Frame)(dy:Dying)(f:Fatal)(w:World):GD w.drawn (writeOn p fr dy f w):=by
  unfold writeOn
  simp only
  split
  · trivial
  · split
    all_goals first
      | trivial
      | (rename_i e
         have h:=congrArg (fun x=>RD w.drawn x.1) e
         simp only[eq_iff_iff]at h
         exact h.1 (runT_dr _ _ _ _))
theorem b6v(p:Program)(fr:Frame)(dy:Dying)(w:World):GD w.drawn (die p fr dy w):=by
  unfold die
  simp only
  repeat' first
    | trivial
    | exact b1v _ _ _ _ _
    | exact Nat.le_refl _
    | exact endWith_dr _ _ _ _
    | (rename_i e
       have h:=congrArg (RD w.drawn) e
       rw[eq_iff_iff]at h
       exact h.1 (run_dr _ _ _))
    | (rename_i e
       have h:=congrArg (RD w.drawn) e
       rw[eq_iff_iff]at h
       exact (a4i _ _ _ _).le (h.1 (runT_dr _ _ _ _)))
    | (rename_i e
       have h:=congrArg (RD w.drawn) e
       rw[eq_iff_iff]at h
       exact h.1 (runT_dr _ _ _ _))
    | refine GD.after ?_
    | split
theorem a3e(p:Program)(m:Bool)(fr:Frame)(cs:List Frame)(dy:Option Dying)(v:Value)(w:World):GD w.drawn (doReturn p m fr cs dy v w):=by
 unfold doReturn
 simp only
 repeat' first
  | trivial
  | exact Nat.le_refl _
  | split
theorem GD.ite{d:Nat}{c:Bool}{A B:GStep}(h1:GD d A)(h2:GD d B):GD d (if c=true then A else B):=by
 split
 ·exact h1
 ·exact h2
theorem b3a(p:Program)(fr:Frame)(cs:List Frame)(dy:Option Dying)(g:Nat)(w:World):GD w.drawn (early p fr cs dy g w):=by
  unfold early
  simp only
  repeat' first
    | trivial
    | exact Nat.le_refl _
    | (rename_i e
       have h:=congrArg (RD w.drawn) e
       rw[eq_iff_iff]at h
       exact h.1 (run_dr _ _ _))
    | (rename_i e _ _ _ _
       have h:=congrArg (RD w.drawn) e
       rw[eq_iff_iff]at h
       exact h.1 (run_dr _ _ _))
    | split
theorem a6g(p:Program)(fr:Frame)(cs:List Frame)(dy:Option Dying)(x:Deferred)(w:World):GD w.drawn (callDeferred p fr cs dy x w):=by
 unfold callDeferred
 simp only
 refine GD.ite trivial ?_
 refine GD.after ?_
 have h:=runT_dr p (invoke x.target x.args) w #[]
 revert h
 generalize ((invoke x.target x.args).runT p w #[]).1=r
 intro h
 cases r with
 | ok a w'=>
  have h':w.drawn≤w'.drawn:=h
  cases a
  all_goals try simp only[]
  all_goals first
   | exact h'
   | trivial
   | (rename_i c e;cases e<;>first|exact h'|trivial)
   | (rename_i e c;cases e<;>first|exact h'|trivial)
   | (repeat' first|exact h'|trivial|split)
 | halt a w'=>
  have h':w.drawn≤w'.drawn:=h
  cases a
  all_goals try simp only[]
  all_goals first
   | exact h'
   | trivial
   | exact (a6j _ _ _ _ _ _).le h'
theorem b2F(p:Program)(m:Bool)(fr:Frame)(cs:List Frame)(dy:Option Dying)(w:World):GD w.drawn (unwind p m fr cs dy w):=by
  unfold unwind
  simp only
  repeat' first
    | trivial
    | exact Nat.le_refl _
    | exact a6g _ _ _ _ _ _
    | exact a3e _ _ _ _ _ _ _
    | exact a4i _ _ _ _
    | (rename_i e
       have h:=congrArg (RD w.drawn) e
       rw[eq_iff_iff]at h
       exact h.1 (run_dr _ _ _))
    | (rename_i e
       have h:=congrArg (RD w.drawn) e
       rw[eq_iff_iff]at h
       exact h.1 (runT_dr _ _ _ _))
    | (rename_i e
       have h:=congrArg (RD w.drawn) e
       rw[eq_iff_iff]at h
       exact (a3e _ _ _ _ _ _ _).le (h.1 (runT_dr _ _ _ _)))
    | refine GD.after ?_
    | split
theorem a7J(p:Program)(ls:Bool)(fr:Frame)(cs:List Frame)(dy:Option Dying)(s:Sem Next)(w:World):GD w.drawn (stepG.apply p ls fr cs dy s w):=by
 unfold stepG.apply
 simp only
 refine GD.after ?_
 have h:RD w.drawn (if ls=true then s.runT p w #[] else (s.run p w, #[])).1:=by
  split
  ·exact runT_dr _ _ _ _
  ·exact run_dr _ _ _
 revert h
 generalize (if ls=true then s.runT p w #[] else (s.run p w, #[])).1=r
 intro h
 cases r with
 | ok a w'=>
  have h':w.drawn≤w'.drawn:=h
  cases a
  all_goals try simp only[]
  all_goals first
   | exact h'
   | trivial
   | (repeat' first|exact h'|trivial|exact (a4m _ _ _).le h'|split)
 | halt a w'=>
  have h':w.drawn≤w'.drawn:=h
  cases a
  all_goals try simp only[]
  all_goals first
   | exact h'
   | trivial
   | exact (a6j _ _ _ _ _ _).le h'
   | exact (a4m _ _ _).le h'
   | (rename_i u;cases u<;>first|exact (b3a _ _ _ _ _ _).le h'|trivial)
theorem b5g(p:Program)(ls:Bool)(fr:Frame)(cs:List Frame)(dy:Option Dying)(w:World):GD w.drawn (stepG.oper p ls fr cs dy w):=by
 unfold stepG.oper
 split
 ·trivial
 ·split<;>exact a7J _ _ _ _ _ _ _
theorem b3m(p:Program)(m:Bool)(fr:Frame)(cs:List Frame)(dy:Option Dying)(w:World)(l:Nat)(jump:Option Code):
  GD w.drawn (GStep.after (seen p fr.fn ((Instr.endRound l jump).runT p w #[]).2) (match ((Instr.endRound l jump).runT p w #[]).1 with
   | .ok v w=>doReturn p m fr cs dy v w
   | .halt _ w=>.ended (.stuck "range over a function: no such loop" (fr.pos p)) w)):=by
 refine GD.after ?_
 split
 ·rename_i e
  have h:=congrArg (RD w.drawn) e
  rw[eq_iff_iff]at h
  exact (a3e _ _ _ _ _ _ _).le (h.1 (runT_dr _ _ _ _))
 ·trivial
theorem elim_dr{α:Type}{d:Nat}(o:Option α)(A:GStep)(f:α→GStep)(h1:GD d A)(h2:∀ a,GD d (f a)):GD d (o.elim A f):=by
 cases o
 ·exact h1
 ·exact h2 _
set_option maxHeartbeats 2000000 in
theorem b4T(p:Program)(m:Bool)(ls:Bool)(fr:Frame)(cs:List Frame)(dy:Option Dying)(w:World):GD w.drawn (stepG.exec p m ls fr cs dy w):=by
  unfold stepG.exec
  simp only
  split
  all_goals try simp only[]
  all_goals repeat' first
    | exact True.intro
    | (show _≤_;with_reducible exact Nat.le_refl _)
    | with_reducible exact a7J _ _ _ _ _ _ _
    | with_reducible exact b5g _ _ _ _ _ _
    | with_reducible exact b3m _ _ _ _ _ _ _ _
    | (rename_i e
       have h:=congrArg (RD w.drawn) e
       rw[eq_iff_iff]at h
       exact h.1 (run_dr _ _ _))
    | (rename_i e
       have h:=congrArg (RD w.drawn) e
       rw[eq_iff_iff]at h
       exact h.1 (runT_dr _ _ _ _))
    | (rename_i e
       have h:=congrArg (RD w.drawn) e
       rw[eq_iff_iff]at h
       exact (a7J _ _ _ _ _ _ _).le (h.1 (runT_dr _ _ _ _)))
    | (rename_i e
       have h:=congrArg (RD w.drawn) e
       rw[eq_iff_iff]at h
       exact (a3e _ _ _ _ _ _ _).le (h.1 (runT_dr _ _ _ _)))
    | with_reducible refine GD.after ?_
    | (with_reducible refine elim_dr _ _ _ ?_ (fun _=>?_))
    | (show GD _ (if _ then _ else _);split)
    | split
theorem b3Q(p:Program)(m:Bool)(g:Goroutine)(w:World)(ls:Bool):GD w.drawn (stepG p m g w ls):=by
 unfold stepG
 simp only
 split
 ·exact b6v _ _ _ _
 ·exact b4T _ _ _ _ _ _ _
 ·exact b2F _ _ _ _ _ _
def SD(d:Nat):Stepped→Prop
 | .next m=>d≤m.world.drawn
 | .ended _ _=>True
theorem SD.le{d e:Nat}(h:e≤d){g:Stepped}(hg:SD d g):SD e g:=by cases g<;>first|trivial|exact Nat.le_trans h hg
theorem a6Z(p:Program)(rest:Rest)(gs:Array Goroutine)(i:Nat)(g:Goroutine)(cases:Array CommCase)(blocking:Bool)
  (shape:CommShape) (w:World):SD w.drawn (communicate p rest gs i g cases blocking shape w).1:=by
 unfold communicate
 simp only[]
 split
 ·trivial
 split
 ·split
  ·split
   ·rename_i w' e
    unfold waitingAt at e
    have:w'.drawn=w.drawn:=by
     split at e
     ·split at e
      ·simp only[Option.some.injEq]at e;subst e;rfl
      ·cases e
     ·simp only[Option.some.injEq]at e;subst e;rfl
    exact Nat.le_of_eq this.symm
   ·trivial
  ·exact Nat.le_refl _
 ·split
  ·trivial
  ·rename_i e
   have h:=congrArg (RD w.drawn) e
   rw[eq_iff_iff]at h
   have h':=h.1 (run_dr _ _ _)
   clear h e
   simp only[RD]at h'
   split
   ·split
    ·rename_i e
     have h2:=congrArg (RD w.drawn) e
     rw[eq_iff_iff]at h2
     exact h2.1 ((run_dr _ _ _).le h')
    ·trivial
   ·exact h'
   ·exact h'
   ·split
    ·exact h'
    ·split
     ·rename_i e
      have h2:=congrArg (RD w.drawn) e
      rw[eq_iff_iff]at h2
      exact h2.1 ((run_dr _ _ _).le h')
     ·trivial
   ·exact h'
   ·exact h'
   ·trivial
theorem b1Y(p:Program)(gs:Array Goroutine)(rest:Rest)(w:World):SD w.drawn (look p gs rest w):=by
  unfold look
  simp only[]
  repeat' first
    | exact True.intro
    | (rename_i e
       have h:=congrArg (RD w.drawn) e
       rw[eq_iff_iff]at h
       exact h.1 (run_dr _ _ _))
    | split
theorem b3M(p:Program)(m:Machine)(k:Nat):SD m.world.drawn (serve p m k):=by
 unfold serve
 simp only[]
 repeat' first
  | exact True.intro
  | exact Nat.le_refl _
  | split
theorem b1r(m m':Machine)(op:TimerOp)(v:Value)(h:timerOp m op=.ok (v,m')):m'.world.drawn=m.world.drawn:=by
 unfold timerOp at h
 have hr:∀ (m:Machine) (k:Nat) (t:Timer) (a b:Nat),(retime m k t a b).2.world.drawn=m.world.drawn:=fun m k t a b=>by
  unfold retime
  simp only[]
  split
  ·unfold drain;split<;>rfl
  ·rfl
 have hn:∀ (m0 m m':Machine) (var:Addr) (f:Nat→Timer→Value × Machine) (v:Value),(∀ k t,(f k t).2.world.drawn=m.world.drawn)→timerOp.named m0 var f=.ok (v,m')→m'.world.drawn=m.world.drawn:=fun m0 m m' var f v hf h=>by
  unfold timerOp.named at h
  split at h
  ·simp only[Except.ok.injEq]at h
   have:=hf _ _ |>.symm.trans (congrArg (fun x=>x.2.world.drawn) h)
   exact this.symm
  ·cases h
 split at h
 ·split at h
  ·simp only[Except.ok.injEq,Prod.mk.injEq]at h;obtain ⟨_,rfl⟩:=h;rfl
  ·split at h
   ·split at h
    ·cases h
    ·simp only[Except.ok.injEq,Prod.mk.injEq]at h;obtain ⟨_,rfl⟩:=h;rfl
   ·cases h
 ·exact hn _ _ _ _ _ _ (fun k t=>hr _ _ _ _ _) h
 ·split at h
  ·rename_i m1 e
   have h1:m1.world.drawn=m.world.drawn:=by
    unfold timerOp.opened at e
    split at e
    ·split at e
     ·simp only[Option.some.injEq]at e;subst e;rfl
     ·cases e
    ·simp only[Option.some.injEq]at e;subst e;rfl
   exact (hn _ _ _ _ _ _ (fun k t=>hr _ _ _ _ _) h).trans h1
  ·cases h
 ·simp only[Except.ok.injEq,Prod.mk.injEq]at h;obtain ⟨_,rfl⟩:=h;rfl
theorem b5K(p:Program)(m:Machine)(i:Nat)(b:Bool):SD m.world.drawn (runT p m i b).1:=by
  simp only[runT]
  generalize m.gs.swapAt! _ _=gg
  have h:=b3Q p (i==0) gg.1 m.world b
  revert h
  generalize stepG p _ gg.1 m.world b=s
  intro h
  cases s<;>simp only[]<;>simp only[GD]at h
  all_goals first
    | exact True.intro
    | exact h
    | exact (a6Z _ _ _ _ _ _ _ _ _).le h
    | exact (b1Y _ _ _ _).le h
    | (split
       · rename_i e;exact Nat.le_trans h (Nat.le_of_eq (b1r _ _ _ _ e).symm)
       · exact h
       · exact True.intro
       · exact True.intro)
    | (repeat' first
        | exact True.intro
        | exact h
        | split)
def MD(d:Nat):Move→Prop
 | .goroutine m _=>d≤m.world.drawn
 | .machine s _=>SD d s
theorem MD.le{d e:Nat}(h:e≤d){g:Move}(hg:MD d g):MD e g:=by
 cases g
 ·exact Nat.le_trans h hg
 ·exact SD.le h hg
theorem a5N(p:Program)(m:Machine):MD m.world.drawn (askOn p m):=by
 have pickd:∀ (rs:List Nat) (n:Machine),MD n.world.drawn (match (choose (.sched rs.length)).run p n.world with
   | .halt _ w=>.machine (.ended (.stuck "sched" "") w)
   | .ok k world=>
    if rs.length≤1 then .goroutine { n with world } (rs.getD k 0) else
    match (choose (.extern "sched.slice" 65536)).run p world with
    | .halt _ w=>.machine (.ended (.stuck "sched.slice" "") w)
    | .ok k' world=>.goroutine { n with world,rest:={ n.rest with slice:=if k'=0 then none else some (rs.getD k 0,k') } } (rs.getD k 0)):=fun rs n=>by
  have h:=run_dr p (choose (.sched rs.length)) n.world
  revert h
  generalize (choose (.sched rs.length)).run p n.world=r
  intro h
  cases r with
  | halt x w=>exact True.intro
  | ok k w=>
   simp only[]
   split
   ·exact h
   ·have h2:=run_dr p (choose (.extern "sched.slice" 65536)) w
    revert h2
    generalize (choose (.extern "sched.slice" 65536)).run p w=r
    intro h2
    cases r with
    | halt x w=>exact True.intro
    | ok k w=>exact Nat.le_trans h h2
 unfold askOn
 simp only[]
 generalize (if (due m.rest.timers m.world.os.mono).isEmpty then pure 0
   else choose (.extern "timer.serve" ((due m.rest.timers m.world.os.mono).length+(if (runnable m.gs m.world.os.mono).isEmpty&&(ahead m false).isNone then 0 else 1))):Sem Nat)=s0
 have h:=run_dr p s0 m.world
 revert h
 generalize s0.run p m.world=r
 intro h
 cases r with
 | halt x w=>exact True.intro
 | ok k w=>
  simp only[]
  have h':m.world.drawn≤w.drawn:=h
  split
  ·exact (b3M _ _ _).le h'
  ·split
   ·split
    ·exact h'
    ·split
     ·exact h'
     ·split<;>exact True.intro
   ·split
    ·exact (pickd _ { m with world:=w }).le h'
    ·rename_i t _
     generalize (choose (.extern "clock.wait" (t - m.world.os.mono+1)):Sem Nat)=s1
     have h2:=run_dr p s1 w
     revert h2
     generalize s1.run p w=r
     intro h2
     cases r with
     | halt x w=>exact True.intro
     | ok k w1=>
      have h3:m.world.drawn≤w1.drawn:=Nat.le_trans h' h2
      rcases k with _|_|k
      ·exact (pickd _ { m with world:=w1 }).le h3
      ·exact h3
      ·exact (pickd _ (({ m with world:=w1 }:Machine).advanceTo (t - (k+1)))).le h3
theorem b4c(p:Program)(m:Machine):MD m.world.drawn (Go.ask p m):=by
 unfold Go.ask
 split
 ·have h:=run_dr p (choose (.extern "collector.look" 2)) m.world
  revert h
  generalize (choose (.extern "collector.look" 2)).run p m.world=r
  intro h
  cases r with
  | halt x w=>exact True.intro
  | ok k w=>
   have h':m.world.drawn≤w.drawn:=h
   rcases k with _|_|k
   ·exact (a5N p { m with world:=w }).le h'
   ·show MD _ (match look p m.gs m.rest w with | .next m=>askOn p m|e=>.machine e)
    have h2:=b1Y p m.gs m.rest w
    revert h2
    generalize look p m.gs m.rest w=r
    intro h2
    cases r with
    | next m2=>exact (a5N p m2).le (Nat.le_trans h' h2)
    | ended o w=>exact True.intro
   ·exact (a5N p { m with world:=w }).le h'
 ·exact a5N p m
theorem b5e(p:Program)(m:Machine):MD m.world.drawn (move p m):=by
 unfold move
 split
 ·split
  ·exact Nat.le_refl _
  ·exact True.intro
 ·split
  ·split
   ·exact Nat.le_refl _
   ·exact b4c p _
  ·exact b4c p m
theorem b5O(p:Program)(m:Machine):SD m.world.drawn (step p m):=by
 unfold step stepT
 have h:=b5e p m
 revert h
 generalize move p m=r
 intro h
 cases r with
 | goroutine m' i=>exact (b5K p m' i true).le h
 | machine s ops=>exact h
theorem steps_dr{p:Program}{m m':Machine}(h:Steps p m m'):m.world.drawn≤m'.world.drawn:=by
 obtain ⟨n,h⟩:=h
 induction n generalizing m with
 | zero=>
  simp only[runN,Stepped.next.injEq]at h
  subst h;exact Nat.le_refl _
 | succ n ih=>
  rw[runN]at h
  have h1:=b5O p m
  revert h h1
  generalize step p m=r
  intro h h1
  cases r with
  | next m1=>exact Nat.le_trans h1 (ih h)
  | ended o w=>cases h
theorem Calls_drawn{P:Program}{f:FuncId}{args:Array Value}{w:World}{R:Ending→World→Prop}(h:Calls P f args w R):
  Calls P f args w fun e w'=>R e w'∧∀ v,e=.returned v→w.drawn≤w'.drawn:=by
 intro cs
 obtain ⟨e,w',fr,h1,h2,h3,h4⟩:=h cs
 refine ⟨e,w',fr,⟨h1, ?_⟩,h2,h3,h4⟩
 rintro v rfl
 exact steps_dr (m:=lone (Frame.enter P f args .normal) cs w) (m':=lone fr cs w') h2
end
section
open Go.RowKit
theorem grow_of_below{W W':World}(h:Below W.heap.size W W')(h6:W.drawn≤W'.drawn):∃ q os',W'=Sort.grow (W.drewN q) os':=by
 obtain ⟨h1,h2,h3,h4,h5⟩:=h
 obtain ⟨heap,tape,drawn,os,out⟩:=W
 obtain ⟨heap',tape',drawn',os',out'⟩:=W'
 simp only at h1 h2 h3 h4 h5 h6
 subst h1 h2 h3
 refine ⟨drawn' - drawn,heap'.extract heap.size heap'.size, ?_⟩
 simp only[Sort.grow,World.drewN,World.mk.injEq,and_true,true_and]
 refine ⟨?_,by omega⟩
 apply Array.ext_getElem?
 intro i
 by_cases hi:i<heap.size
 ·rw[h5 i hi,Array.getElem?_append_left hi]
 ·rw[Array.getElem?_append_right (by omega),Array.getElem?_extract]
  split
  ·congr 1;omega
  ·rw[Array.getElem?_eq_none (by omega)]
theorem CP_grow{P:Program}{f:Nat}{xs:List AV}{r:AV}{v:Value}(h:CP P f xs r){W:World}{U:Nat→Nat→Prop}(hG:Glob W U){vs:List Value}(hl:vs.length=xs.length)
  (hv:∀ (i:Nat) (u:Value) (c:AV),vs[i]?=some u→xs[i]?=some c→VR W U u c) (hr:∀ W' U' u,VR W' U' u r→u=v):
  Calls P f vs.toArray W fun e w'=>e=.returned v∧∃ q os',w'=Sort.grow (W.drewN q) os':=by
 refine (Calls_drawn (h W U vs hG hl hv)).mono ?_
 rintro e W' ⟨⟨u,U',rfl,hvr,_,hE⟩,hd⟩
 exact ⟨by rw[hr _ _ _ hvr],grow_of_below hE.b (hd _ rfl)⟩
end
section
open Go.RowKit
theorem dom3{α:Type}{b d f:Nat}{c c' e e' g g':α}:∀ b' cs,lk [(b,c),(d,e),(f,g)] b'=some cs→∃ cs',lk [(b,c'),(d,e'),(f,g')] b'=some cs':=by
 intro b' cs h
 rw[lk_cons]at h ⊢
 by_cases hb:b'=b
 ·rw[if_pos hb];exact ⟨_,rfl⟩
 ·rw[if_neg hb]at h ⊢;exact dom2 b' cs h
def b6m(o:Nat→Option (List AV))(K:Nat→Nat→Nat→Prop):Prop:=∀ b c d,o b=none→o c=none→o d=none→((¬ b=c∧¬ c=b)∧(¬ b=d∧¬ d=b)∧¬ c=d∧¬ d=c)→K b c d
theorem NewB3_intro{o:Nat→Option (List AV)}{K:Nat→Nat→Nat→Prop}(h:∀ b c d,o b=none→o c=none→o d=none→((¬ b=c∧¬ c=b)∧(¬ b=d∧¬ d=b)∧¬ c=d∧¬ d=c)→K b c d):b6m o K:=h
section
variable {P:Program} {d:Option Nat} {s:St} {K:St→Prop}
abbrev b8U(ds es:List AV):AV→(Nat→Option (List AV))→Prop:=fun r' o'=>∃ c m n,(¬ c=m∧¬ c=n∧¬ m=n)∧r'=.ptr c 0∧o'=lk [(c,[.mapv m,.mapv n]),(m,ds),(n,es)]
theorem CallO_new3{f:Nat}{vs:List AV}{ds es:List AV}(h:CT P f vs (lk []) (b8U ds es))
  (hK:b6m s.o (fun c m n=>KS (St.put ⟨s.t,ovr [(c,[.mapv m,.mapv n]),(m,ds),(n,es)] s.o⟩ d (.ptr c 0)) K)):a5V P f vs d s K:=by
 refine ⟨lk [],_,fun b cs hb=>by simp[lk]at hb,h, ?_⟩
 rintro r' o' ⟨c,m,n,⟨h1,h2,h3⟩,rfl,rfl⟩ hf
 have g1:lk [(c,[AV.mapv m,.mapv n]),(m,ds),(n,es)] m=some ds:=lk_tl (fun e=>h1 e.symm) (lk_hd _ _ _)
 have g2:lk [(c,[AV.mapv m,.mapv n]),(m,ds),(n,es)] n=some es:=lk_tl (fun e=>h2 e.symm) (lk_tl (fun e=>h3 e.symm) (lk_hd _ _ _))
 exact hK c m n (hf c _ (lk_hd _ _ _) rfl) (hf m _ g1 rfl) (hf n _ g2 rfl) ⟨⟨h1,fun e=>h1 e.symm⟩,⟨h2,fun e=>h2 e.symm⟩,h3,fun e=>h3 e.symm⟩
theorem ro_new3{s:St}{rs:List AR}{ds es:List AV}(c m n:Nat)(h:a0Q s rs (.ptr c 0)∧LeL [(c,[.mapv m,.mapv n]),(m,ds),(n,es)] s.o)(h1:¬ c=m∧¬ c=n∧¬ m=n):b2P s rs (lk []) (b8U ds es):=
 ⟨_,h.1,lk [(c,[.mapv m,.mapv n]),(m,ds),(n,es)],LeL_ok h.2,fun b cs hb=>by simp[lk]at hb,c,m,n,h1,rfl,rfl⟩
end
end
section
def b0C(s:List UInt8)(j:Nat):Prop:=(97≤(s.getD j 0).toNat∧(s.getD j 0).toNat≤122)∨j≠0∧((48≤(s.getD j 0).toNat∧(s.getD j 0).toNat≤57)∨(s.getD j 0).toNat=45)
def a9b(s:List UInt8):Prop:=s≠[]∧s.length≤12∧∀ j,j<s.length→b0C s j
open Classical in
noncomputable def a2X (s:List UInt8):Bool:=decide (a9b s)
theorem nameP_t{s:List UInt8}(h:a9b s):a2X s=true:=by simp[a2X,h]
theorem nameP_f{s:List UInt8}(h:¬ a9b s):a2X s=false:=by simp[a2X,h]
theorem nameP_iff{s:List UInt8}:a2X s=true↔a9b s:=by simp[a2X]
theorem name_bad{s:List UInt8}{k:Nat}(hk:k<s.length)(h:¬ b0C s k):false=a2X s:=(nameP_f fun g=>h (g.2.2 k hk)).symm
theorem name_end{s:List UInt8}{k:Nat}(hk:s.length≤k)(h:∀ j,j<k→b0C s j):a9b s↔s≠[]∧s.length≤12:=⟨fun g=>⟨g.1,g.2.1⟩,fun g=>⟨g.1,g.2,fun j hj=>h j (by omega)⟩⟩
theorem name_dec{s:List UInt8}{k:Nat}(hk:s.length≤k)(h:∀ j,j<k→b0C s j):a2X s=decide (s.length≠0∧s.length≤12):=by
 unfold a2X
 rw[decide_eq_decide,name_end hk h,ne_eq, ← List.length_eq_zero_iff]
noncomputable def a8g (p:List UInt8) (c:Int):Bool:=a2X p&&decide (0≤c)&&decide (c≤999)
theorem name_step{s:List UInt8}{k:Nat}(h:∀ j,j<k→b0C s j)(g:b0C s k):∀ j,j<k+1→b0C s j:=fun j hj=>by
 by_cases e:j=k
 ·subst e;exact g
 ·exact h j (by omega)
end
section
open Go.RowKit
structure PktC where
 s:List UInt8
 sc:Int
 d:List UInt8
 dc:Int
 q:Int
 x:List UInt8
 th:Int
 ta:Int
 deriving DecidableEq,Inhabited
abbrev PktC.cs(p:PktC):List AV:=[.str p.s,.int .i64 p.sc,.str p.d,.int .i64 p.dc,.int .i64 p.q,.str p.x,.int .i64 p.th,.int .i64 p.ta]
structure EvC where
 k:Int
 p:PktC
 a:List UInt8
 e:List UInt8
 ec:Int
 h:Int
 deriving DecidableEq,Inhabited
abbrev EvC.cs(e:EvC):List AV:=[.int .i64 e.k,.str e.p.s,.int .i64 e.p.sc,.str e.p.d,.int .i64 e.p.dc,.int .i64 e.p.q,.str e.p.x,.int .i64 e.p.th,.int .i64 e.p.ta,.str e.a,.str e.e,.int .i64 e.ec,.int .i64 e.h]
structure EntC where
 p:PktC
 a:List UInt8
 s:Bool
 r:Bool
 w:Bool
 c:Bool
 t:Bool
 deriving DecidableEq,Inhabited
abbrev EntC.cs(e:EntC):List AV:=[.str e.p.s,.int .i64 e.p.sc,.str e.p.d,.int .i64 e.p.dc,.int .i64 e.p.q,.str e.p.x,.int .i64 e.p.th,.int .i64 e.p.ta,.str e.a,.bool e.s,.bool e.r,.bool e.w,.bool e.c,.bool e.t]
structure KeyC where
 e:List UInt8
 ec:Int
 o:Bool
 q:Int
 deriving DecidableEq,Inhabited
abbrev KeyC.cs(k:KeyC):List AV:=[.str k.e,.int .i64 k.ec,.bool k.o,.int .i64 k.q]
theorem a8z(a b:PktC):(decide (a.s=b.s)&&(decide (a.sc=b.sc)&&(decide (a.d=b.d)&&(decide (a.dc=b.dc)&&(decide (a.q=b.q)&&(decide (a.x=b.x)&&(decide (a.th=b.th)&&decide (a.ta=b.ta))))))))=decide (a=b):=by
 obtain ⟨a1,a2,a3,a4,a5,a6,a7,a8⟩:=a;obtain ⟨b1,b2,b3,b4,b5,b6,b7,b8⟩:=b
 simp[Bool.eq_iff_iff]
theorem a8T(a b:EvC):(decide (a.k=b.k)&&(decide (a.p.s=b.p.s)&&(decide (a.p.sc=b.p.sc)&&(decide (a.p.d=b.p.d)&&(decide (a.p.dc=b.p.dc)&&(decide (a.p.q=b.p.q)&&(decide (a.p.x=b.p.x)&&(decide (a.p.th=b.p.th)&&(decide (a.p.ta=b.p.ta)&&(decide (a.a=b.a)&&(decide (a.e=b.e)&&(decide (a.ec=b.ec)&&decide (a.h=b.h)))))))))))))=decide (a=b):=by
 obtain ⟨a0,⟨a1,a2,a3,a4,a5,a6,a7,a8⟩,a9,a10,a11,a12⟩:=a;obtain ⟨b0,⟨b1,b2,b3,b4,b5,b6,b7,b8⟩,b9,b10,b11,b12⟩:=b
 simp[Bool.eq_iff_iff,and_assoc]
noncomputable def a5G (p:PktC):Bool:=a8g p.s p.sc&&a8g p.d p.dc&&decide (0≤p.th∧p.th≤1099511627776)&&decide (0≤p.ta∧p.ta≤1099511627776)&&decide (1≤p.q∧p.q≤1099511627776)&&decide (p.x.length≤200)
def a1K(e:EvC):EvC:=if e.k=1∨e.k=2∨e.k=4∨e.k=5 then ⟨e.k,e.p,[],[],0,0⟩ else if e.k=3 then ⟨e.k,e.p,e.a,[],0,0⟩ else if e.k=6 then ⟨e.k,default,[],e.e,e.ec,0⟩ else if e.k=7 then ⟨e.k,default,[],[],0,e.h⟩ else ⟨e.k,default,[],[],0,0⟩
noncomputable def b0g (e:EvC):Bool:=if e.k=3 then a5G e.p&&decide (1≤e.a.length∧e.a.length≤32) else if e.k=6 then a8g e.e e.ec else if e.k=7 then decide (1≤e.h∧e.h≤1099511627776) else a5G e.p
noncomputable def a1k (e:EvC):Bool:=decide (1≤e.k∧e.k≤7)&&decide (e=a1K e)&&b0g e
noncomputable def a2y (e:EvC):List UInt8 × Int × Int × Bool:=
 if a1k e then (if e.k=1∨e.k=4∨e.k=5 then (e.p.s,e.p.sc,e.p.q,true) else if e.k=2∨e.k=3 then (e.p.d,e.p.dc,e.p.q,true) else if e.k=6 then (e.e,e.ec,0,true) else ([],0,0,false)) else ([],0,0,false)
end
section
open Go
abbrev a4Z:=List UInt8 × Int
def a1H(a b:a4Z):Bool:=Op.bytesLess a.1 b.1||(decide (a.1=b.1)&&decide (a.2<b.2))
theorem a4H(a b:a4Z):a1H a b=true↔a.1<b.1∨(a.1=b.1∧a.2<b.2):=by
 simp[a1H,bytesLess_eq]
structure STO {α:Type} (lt:α→α→Bool):Prop where
 irr:∀ a,lt a a=false
 tr:∀ a b c,lt a b=true→lt b c=true→lt a c=true
 tot:∀ a b,lt a b=false→lt b a=false→a=b
theorem STO.asym{α:Type}{lt:α→α→Bool}(h:STO lt){a b:α}(g:lt a b=true):lt b a=false:=by
 cases hb:lt b a with
 | false=>rfl
 | true=>have:=h.tr _ _ _ g hb;rw[h.irr]at this;cases this
theorem b5b(a:List UInt8):¬ a<a:=List.lt_irrefl a
theorem lst_tot{a b:List UInt8}(h1:¬ a<b)(h2:¬ b<a):a=b:=List.le_antisymm (List.not_lt.1 h2) (List.not_lt.1 h1)
theorem endSTO:STO a1H where
 irr a:=by
  cases h:a1H a a with
  | false=>rfl
  | true=>
   rcases (a4H a a).1 h with h | ⟨_,h⟩
   ·exact absurd h (b5b _)
   ·omega
 tr a b c h1 h2:=by
  rw[a4H]at *
  rcases h1 with h1 | ⟨e1,h1⟩<;>rcases h2 with h2 | ⟨e2,h2⟩
  ·exact .inl (List.lt_trans h1 h2)
  ·exact .inl (e2▸h1)
  ·exact .inl (e1▸h2)
  ·exact .inr ⟨e1.trans e2,by omega⟩
 tot a b h1 h2:=by
  have g1:¬ (a.1<b.1∨(a.1=b.1∧a.2<b.2)):=fun h=>by rw[(a4H a b).2 h]at h1;cases h1
  have g2:¬ (b.1<a.1∨(b.1=a.1∧b.2<a.2)):=fun h=>by rw[(a4H b a).2 h]at h2;cases h2
  have e:a.1=b.1:=lst_tot (fun h=>g1 (.inl h)) (fun h=>g2 (.inl h))
  have:a.2=b.2:=by
   have p1:¬ a.2<b.2:=fun h=>g1 (.inr ⟨e,h⟩)
   have p2:¬ b.2<a.2:=fun h=>g2 (.inr ⟨e.symm,h⟩)
   omega
  exact Prod.ext e this
def KeyC.en(k:KeyC):a4Z:=(k.e,k.ec)
def a2U(a b:KeyC):Bool:=a1H a.en b.en||(decide (a.en=b.en)&&((!a.o&&b.o)||(decide (a.o=b.o)&&decide (a.q<b.q))))
theorem a6z(a b:KeyC):a2U a b=true↔a1H a.en b.en=true∨(a.en=b.en∧((a.o=false∧b.o=true)∨(a.o=b.o∧a.q<b.q))):=by
 simp[a2U]
theorem keySTO:STO a2U where
 irr a:=by simp[a2U,endSTO.irr]
 tr a b c h1 h2:=by
  rw[a6z]at *
  rcases h1 with h1 | ⟨e1,h1⟩<;>rcases h2 with h2 | ⟨e2,h2⟩
  ·exact .inl (endSTO.tr _ _ _ h1 h2)
  ·exact .inl (e2▸h1)
  ·exact .inl (e1▸h2)
  ·refine .inr ⟨e1.trans e2, ?_⟩
   rcases h1 with ⟨x1,x2⟩ | ⟨x1,x2⟩<;>rcases h2 with ⟨y1,y2⟩ | ⟨y1,y2⟩
   ·rw[x2]at y1;cases y1
   ·exact .inl ⟨x1,y1▸x2⟩
   ·exact .inl ⟨x1.trans y1,y2⟩
   ·exact .inr ⟨x1.trans y1,by omega⟩
 tot a b h1 h2:=by
  have g1:¬ _:=fun h=>by rw[(a6z a b).2 h]at h1;cases h1
  have g2:¬ _:=fun h=>by rw[(a6z b a).2 h]at h2;cases h2
  have e:a.en=b.en:=endSTO.tot _ _ (by cases h:a1H a.en b.en<;>simp_all) (by cases h:a1H b.en a.en<;>simp_all)
  have q1:=fun h=>g1 (.inr ⟨e,h⟩)
  have q2:=fun h=>g2 (.inr ⟨e.symm,h⟩)
  obtain ⟨a1,a2,a3,a4⟩:=a;obtain ⟨b1,b2,b3,b4⟩:=b
  simp only[KeyC.en,Prod.mk.injEq]at e
  obtain ⟨rfl,rfl⟩:=e
  simp only at q1 q2
  have e3:a3=b3:=by cases a3<;>cases b3<;>simp_all
  subst e3
  have:a4=b4:=by
   have p1:¬ a4<b4:=fun h=>q1 (.inr ⟨rfl,h⟩)
   have p2:¬ b4<a4:=fun h=>q2 (.inr ⟨rfl,h⟩)
   omega
  rw[this]
def cmpL{α:Type}(lt:α→α→Bool)(a b:α):Int:=if lt a b=true then -1 else if lt b a=true then 1 else 0
theorem cmpL_neg{α:Type}{lt:α→α→Bool}(a b:α):cmpL lt a b<0↔lt a b=true:=by
 unfold cmpL;split
 ·simp_all
 ·split<;>simp_all
def insL{α:Type}(lt:α→α→Bool)(x:α):List α→List α
 | []=>[x]
 | y::r=>if lt y x=true then y::insL lt x r else x::y::r
def Rise{α:Type}(lt:α→α→Bool)(l:List α):Prop:=l.Pairwise fun x y=>lt x y=true
theorem insL_perm{α:Type}(lt:α→α→Bool)(x:α):∀ l:List α,(insL lt x l).Perm (x::l)
 | []=>.refl _
 | y::r=>by
  unfold insL;split
  ·exact ((insL_perm lt x r).cons y).trans (.swap x y r)
  ·exact .refl _
theorem insL_rise{α:Type}{lt:α→α→Bool}(S:STO lt){x:α}:∀ {l:List α},Rise lt l→x ∉ l→Rise lt (insL lt x l)
 | [],_,_=>by simp[insL,Rise]
 | y::r,h,hn=>by
  obtain ⟨h1,h2⟩:=List.pairwise_cons.1 h
  simp only[List.mem_cons,not_or]at hn
  unfold insL;split
  ·rename_i hlt
   refine List.pairwise_cons.2 ⟨fun z hz=>?_,insL_rise S h2 hn.2⟩
   rcases List.mem_cons.1 ((insL_perm lt x r).mem_iff.1 hz) with rfl|hz
   ·exact hlt
   ·exact h1 _ hz
  ·rename_i hlt
   have hxy:lt x y=true:=by
    cases g:lt x y with
    | true=>rfl
    | false=>exact absurd (S.tot _ _ g (by simpa using hlt)) hn.1
   refine List.pairwise_cons.2 ⟨fun z hz=>?_,h⟩
   rcases List.mem_cons.1 hz with rfl|hz
   ·exact hxy
   ·exact S.tr _ _ _ hxy (h1 _ hz)
theorem rise_unique{α:Type}{lt:α→α→Bool}(S:STO lt):∀ {l m:List α},Rise lt l→Rise lt m→l.Perm m→l=m
 | [],m,_,_,hp=>(List.nil_perm.1 hp).symm
 | x::l,[],_,_,hp=>by simpa using hp.length_eq
 | x::l,y::m,h1,h2,hp=>by
  obtain ⟨a1,a2⟩:=List.pairwise_cons.1 h1
  obtain ⟨b1,b2⟩:=List.pairwise_cons.1 h2
  have e:x=y:=by
   rcases List.mem_cons.1 (hp.mem_iff.1 (List.mem_cons_self ..)) with e|hx
   ·exact e
   ·rcases List.mem_cons.1 (hp.mem_iff.2 (List.mem_cons_self ..)) with e|hy
    ·exact e.symm
    ·have:=S.asym (a1 _ hy);rw[b1 _ hx]at this;cases this
  subst e
  rw[rise_unique S a2 b2 (List.Perm.cons_inv hp)]
def srtL{α:Type}(lt:α→α→Bool)(l:List α):List α:=l.foldr (insL lt) []
theorem srtL_perm{α:Type}(lt:α→α→Bool):∀ l:List α,(srtL lt l).Perm l
 | []=>.refl _
 | x::r=>(insL_perm lt x _).trans ((srtL_perm lt r).cons x)
theorem srtL_rise{α:Type}{lt:α→α→Bool}(S:STO lt):∀ {l:List α},l.Nodup→Rise lt (srtL lt l)
 | [],_=>List.Pairwise.nil
 | x::r,h=>by
  obtain ⟨h1,h2⟩:=List.nodup_cons.1 h
  exact insL_rise S (srtL_rise S h2) fun hm=>h1 ((srtL_perm lt r).mem_iff.1 hm)
theorem srtL_snoc{α:Type}{lt:α→α→Bool}(S:STO lt){l:List α}{x:α}(ha:l.Nodup)(hn:x ∉ l):srtL lt (l++[x])=insL lt x (srtL lt l):=by
 have hN:(l++[x]).Nodup:=List.nodup_append.2 ⟨ha,by simp,fun a h b hb=>by simp at hb;subst hb;intro e;subst e;exact hn h⟩
 refine rise_unique S (srtL_rise S hN) (insL_rise S (srtL_rise S ha) fun hm=>hn ((srtL_perm lt l).mem_iff.1 hm)) ?_
 refine (srtL_perm lt _).trans (.trans ?_ (insL_perm lt x _).symm)
 exact (List.perm_append_comm (l₁:=l) (l₂:=[x])).trans ((srtL_perm lt l).symm.cons x)
def plL{α:Type}(lt:α→α→Bool)(x:α)(l:List α):Nat:=(l.takeWhile fun y=>lt y x).length
theorem insL_at{α:Type}(lt:α→α→Bool)(x:α):∀ l:List α,insL lt x l=l.take (plL lt x l)++[x]++l.drop (plL lt x l)
 | []=>rfl
 | y::r=>by
  have ih:=insL_at lt x r
  unfold insL plL
  by_cases h:lt y x=true
  ·rw[if_pos h,List.takeWhile_cons,if_pos h,ih];rfl
  ·rw[if_neg h,List.takeWhile_cons,if_neg h];rfl
end
section
open Go.RowKit Go.Sort
theorem VR.map_inv{W:World}{U:Nat→Nat→Prop}{v:Value}{b:Nat}(h:VR W U v (.mapv b)):v=.map (some b):=by cases h;rfl
theorem VR.ptr_inv{W:World}{U:Nat→Nat→Prop}{v:Value}{b o:Nat}(h:VR W U v (.ptr b o)):v=.pointer (some ⟨b,o,none⟩):=by cases h;rfl
theorem VR.fn_inv{W:World}{U:Nat→Nat→Prop}{v:Value}{f:Nat}(h:VR W U v (.fn f)):v=.func (.func f) #[] #[]:=by cases h;rfl
theorem VR.clo1_inv{W:World}{U:Nat→Nat→Prop}{v:Value}{f b:Nat}(h:VR W U v (.clo f [.ptr b 0])):v=.func (.func f) #[] #[.pointer (some ⟨b,0,none⟩)]:=by
 cases h with
 | clo f vs cs hl h=>
  match vs,hl with
  | [x],_=>rw[(h 0 x _ rfl rfl).ptr_inv]
theorem perm_of{α:Type}[Inhabited α]{d d':Array α}(h:PermIn 0 d.size d d'):d'.toList.Perm d.toList:=by
 obtain ⟨h1,_,h3⟩:=h
 have e1:d'.extract 0 d.size=d':=by rw[← h1];exact Array.extract_size
 have e2:d.extract 0 d.size=d:=Array.extract_size
 rwa [e1,e2]at h3
def a5A:List AV→Bool
 | []=>true
 | .int _ _::r=>a5A r
 | .bool _::r=>a5A r
 | .str _::r=>a5A r
 | _=>false
def a0X:List AV→List Value
 | []=>[]
 | .int k n::r=>.int k n::a0X r
 | .bool b::r=>.bool b::a0X r
 | .str l::r=>.string ⟨l.toArray⟩::a0X r
 | _::r=>undef::a0X r
theorem a1a:∀ cs:List AV,(a0X cs).length=cs.length
 | []=>rfl
 | a::r=>by cases a<;>simp[a0X,a1a r]
theorem a1N:∀ (cs:List AV),a5A cs=true→∀ (i:Nat) (c:AV) (u:Value),cs[i]?=some c→(a0X cs)[i]?=some u→(∀ W U,VR W U u c)∧(∀ W U v,VR W U v c→v=u)∧u.oneCell'=true
 | [],_,i,c,u,h,_=>by simp at h
 | a::r,hf,0,c,u,h,g=>by
  simp only[List.getElem?_cons_zero,Option.some.injEq]at h
  subst h
  cases a<;>simp[a5A]at hf<;>simp only[a0X,List.getElem?_cons_zero,Option.some.injEq]at g<;>subst g
  ·exact ⟨fun _ _=>.int _ _,fun _ _ _ h=>by cases h;rfl,rfl⟩
  ·exact ⟨fun _ _=>.bool _,fun _ _ _ h=>by cases h;rfl,rfl⟩
  ·exact ⟨fun _ _=>.str _,fun _ _ _ h=>by cases h;rfl,rfl⟩
 | a::r,hf,i+1,c,u,h,g=>by
  have hr:a5A r=true:=by cases a<;>simp[a5A]at hf<;>exact hf
  have e:a0X (a::r)=(a0X [a]++a0X r):=by cases a<;>rfl
  have e1:(a0X [a]).length=1:=a1a [a]
  rw[e,List.getElem?_append_right (by omega),e1]at g
  exact a1N r hr i c u (by simpa using h) (by simpa using g)
theorem plainV_one{cs:List AV}(hf:a5A cs=true):∀ u∈a0X cs,u.oneCell'=true:=by
 intro u hu
 obtain ⟨i,hi,rfl⟩:=List.getElem_of_mem hu
 have hi':i<cs.length:=by rw[← a1a];exact hi
 exact (a1N cs hf i cs[i] _ (List.getElem?_eq_getElem hi') (List.getElem?_eq_getElem hi)).2.2
theorem flat_VR{cs:List AV}(hf:a5A cs=true)(W:World)(U:Nat→Nat→Prop):VR W U (.agg (a0X cs).toArray) (.agg cs):=
 .agg _ _ (a1a cs) (fun i v c hv hc=>(a1N cs hf i c v hc hv).1 W U) (plainV_one hf)
theorem flat_inv{cs:List AV}(hf:a5A cs=true){W:World}{U:Nat→Nat→Prop}{v:Value}(h:VR W U v (.agg cs)):v=.agg (a0X cs).toArray:=by
 cases h with
 | agg vs cs hl h h1=>
  have:vs=a0X cs:=by
   apply List.ext_getElem?
   intro i
   by_cases hi:i<cs.length
   ·have h3:=List.getElem?_eq_getElem (l:=vs) (i:=i) (by omega)
    have h4:=List.getElem?_eq_getElem (l:=a0X cs) (i:=i) (by rw[a1a];exact hi)
    have h5:=List.getElem?_eq_getElem hi
    rw[h3,h4,(a1N cs hf i _ _ h5 h4).2.1 W U _ (h i _ _ h3 h5)]
   ·rw[List.getElem?_eq_none (by omega),List.getElem?_eq_none (by rw[a1a];omega)]
  rw[this]
theorem lt_cmpL{α:Type}(lt:α→α→Bool)(x y:α):ltOf (cmpL lt) x y=lt x y:=by
 unfold ltOf
 rw[Bool.eq_iff_iff,decide_eq_true_eq]
 exact cmpL_neg x y
theorem STO.swo{α:Type}[Inhabited α]{lt:α→α→Bool}(S:STO lt):SWO (ltOf (cmpL lt)) where
 irrefl x:=by rw[lt_cmpL];exact S.irr x
 trans x y z h1 h2:=by rw[lt_cmpL]at *;exact S.tr x y z h1 h2
 ntrans x y z h1 h2:=by
  rw[lt_cmpL]at *
  cases h3:lt x z with
  | false=>rfl
  | true=>
   cases h4:lt z y with
   | true=>have:=S.tr _ _ _ h3 h4;rw[h1]at this;cases this
   | false=>
    have:=S.tot _ _ h2 h4
    subst this
    rw[h1]at h3;cases h3
theorem rise_of{α:Type}[Inhabited α]{lt:α→α→Bool}(S:STO lt){d:List α}(hs:∀ i j,i<j→j<d.length→lt (d.getD j default) (d.getD i default)=false)(hN:d.Nodup):Rise lt d:=by
 refine List.pairwise_iff_getElem.2 fun i j hi hj hij=>?_
 have h:=hs i j hij hj
 simp only[List.getD,List.getElem?_eq_getElem hi,List.getElem?_eq_getElem hj,Option.getD_some]at h
 cases g:lt d[i] d[j]with
 | true=>rfl
 | false=>
  exfalso
  have e:=S.tot _ _ g h
  have:=(List.getElem_inj hN).1 e
  omega
theorem glob_frozen{W:World}{U:Nat→Nat→Prop}(h:Glob W U):Glob W fun _ _=>False:=fun x hx=>⟨(h x hx).1,fun _ h=>h⟩
theorem glob_below{W W':World}{U:Nat→Nat→Prop}(h:Glob W U)(hb:RowKit.Below W.heap.size W W'):Glob W' fun _ _=>False:=
 (glob_frozen h).stay (fun x hx=>hb.block x.1 (h.lt hx)) (fun _ _ _=>Iff.rfl)
theorem glob_sort{α:Type}[Inhabited α]{cl:α→List Value}{k:Nat}{w:World}{U:Nat→Nat→Prop}(h:Glob w U){blk off n:Nat}{d:Array α}{os:Array Obj}(hb:∀ x∈a2i,x.1≠blk):Glob (sortWorldK cl k w blk off n d os) fun _ _=>False:=
 (glob_frozen h).stay (fun x hx=>by
  have hne:¬ blk=x.1:=fun e=>hb x hx e.symm
  unfold sortWorldK
  rw[heap_grow_old _ _ (by simpa[putRowK,putRow,mapBlock,Sort.ahead]using h.lt hx)]
  simp[putRowK,putRow,mapBlock,Sort.ahead,Array.getElem?_modify,hne]) (fun _ _ _=>Iff.rfl)
end
end Go.Proofs.YtgdhinnepnlihaaGreatDoor
namespace Go.Proofs
open Go.Shelf
def Tryz.cln66_ren:Go.Shelf.Ren:=⟨fun|41=>66|n=>n,fun|22=>30|23=>139|4=>4|n=>n,fun|n=>n⟩
theorem Tryz.cln66:Go.Proofs.SlLaysE0.n41 Tryz.prog Tryz.cln66_ren:={
 mixed:=by kernel_rfl
 f41:=⟨Tryz.f66.name,by decide,Tryz.func66.trans (congrArg some (by kernel_rfl))⟩
 t4:=Tryz.underlying4
 a4:=Tryz.isAgg4
 z4:=Tryz.sizeOf4
 v4:=Tryz.zeroValue4
 t22:=Tryz.underlying30
 a22:=Tryz.isAgg30
 z22:=Tryz.sizeOf30
 v22:=Tryz.zeroValue30 }
def Tryz.cln127_ren:Go.Shelf.Ren:=⟨fun|41=>127|n=>n,fun|22=>23|23=>3|4=>4|n=>n,fun|n=>n⟩
theorem Tryz.cln127:Go.Proofs.SlLaysE0.n41 Tryz.prog Tryz.cln127_ren:={
 mixed:=by kernel_rfl
 f41:=⟨Tryz.f127.name,by decide,Tryz.func127.trans (congrArg some (by kernel_rfl))⟩
 t4:=Tryz.underlying4
 a4:=Tryz.isAgg4
 z4:=Tryz.sizeOf4
 v4:=Tryz.zeroValue4
 t22:=Tryz.underlying23
 a22:=Tryz.isAgg23
 z22:=Tryz.sizeOf23
 v22:=Tryz.zeroValue23 }
def Tryz.keys65_ren:Go.Shelf.Ren:=⟨fun|7=>65|10=>131|n=>n,fun|23=>126|26=>3|3=>32|28=>135|0=>0|27=>134|33=>165|4=>4|n=>n,fun|n=>n⟩
theorem Tryz.keys65:Go.Proofs.SlLaysZI.n7 Tryz.prog Tryz.keys65_ren:={
 mixed:=by kernel_rfl
 f7:=⟨Tryz.f65.name,by decide,Tryz.func65.trans (congrArg some (by kernel_rfl))⟩
 f10:=⟨Tryz.f131.name,by decide,Tryz.func131.trans (congrArg some (by kernel_rfl))⟩
 t0:=Tryz.underlying0
 a0:=Tryz.isAgg0
 z0:=Tryz.sizeOf0
 v0:=Tryz.zeroValue0
 t4:=Tryz.underlying4
 a4:=Tryz.isAgg4
 z4:=Tryz.sizeOf4
 v4:=Tryz.zeroValue4
 t23:=Tryz.underlying126
 a23:=Tryz.isAgg126
 z23:=Tryz.sizeOf126
 v23:=Tryz.zeroValue126
 t26:=Tryz.underlying3
 a26:=Tryz.isAgg3
 z26:=Tryz.sizeOf3
 v26:=Tryz.zeroValue3
 t27:=Tryz.underlying134
 a27:=Tryz.isAgg134
 z27:=Tryz.sizeOf134
 v27:=Tryz.zeroValue134
 t28:=Tryz.underlying135
 a28:=Tryz.isAgg135
 z28:=Tryz.sizeOf135
 v28:=Tryz.zeroValue135
 t33:=Tryz.underlying165
 a33:=Tryz.isAgg165
 z33:=Tryz.sizeOf165
 v33:=Tryz.zeroValue165 }
def Tryz.sorted64_ren:Go.Shelf.Ren:=⟨fun|6=>64|8=>130|9=>128|11=>188|13=>176|12=>187|23=>222|24=>223|14=>231|15=>232|16=>233|17=>234|18=>235|19=>236|20=>237|21=>238|22=>239|25=>280|26=>269|27=>270|28=>281|29=>282|30=>283|31=>307|n=>n,fun|26=>3|28=>135|24=>23|0=>0|3=>3|37=>236|48=>295|50=>235|4=>4|40=>289|39=>288|45=>171|5=>5|9=>9|51=>329|55=>333|57=>355|58=>261|33=>165|n=>n,fun|n=>n⟩
theorem Tryz.sorted64:Go.Proofs.SlLaysZI.n6 Tryz.prog Tryz.sorted64_ren:={
 mixed:=by kernel_rfl
 f6:=⟨Tryz.f64.name,by decide,Tryz.func64.trans (congrArg some (by kernel_rfl))⟩
 f8:=⟨Tryz.f130.name,by decide,Tryz.func130.trans (congrArg some (by kernel_rfl))⟩
 f11:=⟨Tryz.f188.name,by decide,Tryz.func188.trans (congrArg some (by kernel_rfl))⟩
 t0:=Tryz.underlying0
 a0:=Tryz.isAgg0
 z0:=Tryz.sizeOf0
 v0:=Tryz.zeroValue0
 t24:=Tryz.underlying23
 a24:=Tryz.isAgg23
 z24:=Tryz.sizeOf23
 v24:=Tryz.zeroValue23
 t26:=Tryz.underlying3
 a26:=Tryz.isAgg3
 z26:=Tryz.sizeOf3
 v26:=Tryz.zeroValue3
 t28:=Tryz.underlying135
 a28:=Tryz.isAgg135
 z28:=Tryz.sizeOf135
 v28:=Tryz.zeroValue135
 i26:=by kernel_rfl }
def Tryz.isort128_ren:Go.Shelf.Ren:=⟨fun|5=>128|8=>176|7=>187|19=>222|20=>223|10=>231|11=>232|12=>233|13=>234|14=>235|15=>236|16=>237|17=>238|18=>239|30=>280|31=>269|32=>270|33=>281|34=>282|35=>283|40=>307|n=>n,fun|23=>23|25=>3|3=>3|32=>236|22=>23|0=>0|44=>295|46=>235|4=>4|36=>289|35=>288|41=>171|5=>5|9=>9|53=>329|57=>333|63=>355|64=>261|n=>n,fun|n=>n⟩
theorem Tryz.isort128:Go.Proofs.SlLaysM.n5 Tryz.prog Tryz.isort128_ren:={
 mixed:=by kernel_rfl
 f5:=⟨Tryz.f128.name,by decide,Tryz.func128.trans (congrArg some (by kernel_rfl))⟩
 f7:=⟨Tryz.f187.name,by decide,Tryz.func187.trans (congrArg some (by kernel_rfl))⟩
 f8:=Tryz.func176.trans (congrArg some (by kernel_rfl))
 f10:=⟨Tryz.f231.name,by decide,Tryz.func231.trans (congrArg some (by kernel_rfl))⟩
 f11:=⟨Tryz.f232.name,by decide,Tryz.func232.trans (congrArg some (by kernel_rfl))⟩
 f12:=⟨Tryz.f233.name,by decide,Tryz.func233.trans (congrArg some (by kernel_rfl))⟩
 f13:=⟨Tryz.f234.name,by decide,Tryz.func234.trans (congrArg some (by kernel_rfl))⟩
 f14:=⟨Tryz.f235.name,by decide,Tryz.func235.trans (congrArg some (by kernel_rfl))⟩
 f15:=⟨Tryz.f236.name,by decide,Tryz.func236.trans (congrArg some (by kernel_rfl))⟩
 f16:=⟨Tryz.f237.name,by decide,Tryz.func237.trans (congrArg some (by kernel_rfl))⟩
 f17:=⟨Tryz.f238.name,by decide,Tryz.func238.trans (congrArg some (by kernel_rfl))⟩
 f18:=⟨Tryz.f239.name,by decide,Tryz.func239.trans (congrArg some (by kernel_rfl))⟩
 f19:=Tryz.func222.trans (congrArg some (by kernel_rfl))
 f20:=Tryz.func223.trans (congrArg some (by kernel_rfl))
 f30:=⟨Tryz.f280.name,by decide,Tryz.func280.trans (congrArg some (by kernel_rfl))⟩
 f31:=Tryz.func269.trans (congrArg some (by kernel_rfl))
 f32:=Tryz.func270.trans (congrArg some (by kernel_rfl))
 f33:=⟨Tryz.f281.name,by decide,Tryz.func281.trans (congrArg some (by kernel_rfl))⟩
 f34:=⟨Tryz.f282.name,by decide,Tryz.func282.trans (congrArg some (by kernel_rfl))⟩
 f35:=⟨Tryz.f283.name,by decide,Tryz.func283.trans (congrArg some (by kernel_rfl))⟩
 f40:=⟨Tryz.f307.name,by decide,Tryz.func307.trans (congrArg some (by kernel_rfl))⟩
 t0:=Tryz.underlying0
 a0:=Tryz.isAgg0
 z0:=Tryz.sizeOf0
 v0:=Tryz.zeroValue0
 t3:=Tryz.underlying3
 a3:=Tryz.isAgg3
 z3:=Tryz.sizeOf3
 v3:=Tryz.zeroValue3
 t4:=Tryz.underlying4
 a4:=Tryz.isAgg4
 z4:=Tryz.sizeOf4
 v4:=Tryz.zeroValue4
 t5:=Tryz.underlying5
 a5:=Tryz.isAgg5
 z5:=Tryz.sizeOf5
 v5:=Tryz.zeroValue5
 t9:=Tryz.underlying9
 a9:=Tryz.isAgg9
 z9:=Tryz.sizeOf9
 v9:=Tryz.zeroValue9
 t22:=Tryz.underlying23
 a22:=Tryz.isAgg23
 z22:=Tryz.sizeOf23
 v22:=Tryz.zeroValue23
 t23:=Tryz.underlying23
 a23:=Tryz.isAgg23
 z23:=Tryz.sizeOf23
 v23:=Tryz.zeroValue23
 t25:=Tryz.underlying3
 a25:=Tryz.isAgg3
 z25:=Tryz.sizeOf3
 v25:=Tryz.zeroValue3
 t32:=Tryz.underlying236
 a32:=Tryz.isAgg236
 z32:=Tryz.sizeOf236
 v32:=Tryz.zeroValue236
 t35:=Tryz.underlying288
 a35:=Tryz.isAgg288
 z35:=Tryz.sizeOf288
 v35:=Tryz.zeroValue288
 t36:=Tryz.underlying289
 a36:=Tryz.isAgg289
 z36:=Tryz.sizeOf289
 v36:=Tryz.zeroValue289
 t41:=Tryz.underlying171
 a41:=Tryz.isAgg171
 z41:=Tryz.sizeOf171
 v41:=Tryz.zeroValue171
 t44:=Tryz.underlying295
 a44:=Tryz.isAgg295
 z44:=Tryz.sizeOf295
 v44:=Tryz.zeroValue295
 t46:=Tryz.underlying235
 a46:=Tryz.isAgg235
 z46:=Tryz.sizeOf235
 v46:=Tryz.zeroValue235
 t53:=Tryz.underlying329
 a53:=Tryz.isAgg329
 z53:=Tryz.sizeOf329
 v53:=Tryz.zeroValue329
 t57:=Tryz.underlying333
 a57:=Tryz.isAgg333
 z57:=Tryz.sizeOf333
 v57:=Tryz.zeroValue333
 t63:=Tryz.underlying355
 a63:=Tryz.isAgg355
 z63:=Tryz.sizeOf355
 v63:=Tryz.zeroValue355
 t64:=Tryz.underlying261
 a64:=Tryz.isAgg261
 z64:=Tryz.sizeOf261
 v64:=Tryz.zeroValue261 }
end Go.Proofs
namespace Go.Proofs.YtgdhinnepnlihaaGreatDoor
set_option linter.all false
set_option maxHeartbeats 9000000
section
open Go.RowKit
theorem wZ{A:Prop}(h:A:=by first|exact True.intro|exact wK|exact wD|(simp only[a0a,Bool.not_eq_true',Bool.not_eq_false',decide_eq_true_eq,decide_eq_false_iff_not]at *;exact wD)|(show (_:Nat)≤_;omega)|(show (_:Int)≤_;omega)|fail):A:=h
theorem tt{A:Prop}(e:A=True:=by with_reducible rfl):A:=of_eq_true e
/-- `B` gives `A`: the walk's short ways. -/
def Im(B A:Prop):Prop:=B→A
theorem iA{A B:Prop}(l:OM A):Im B (A∧B):=fun h=>⟨l,h⟩
theorem iB{P:Program}{want:Bool}{d:Option Nat}{k:AK}{s:St}{K:St→Prop}{B:Prop}{b:Bool}(h:Im B (Sp b (fun b=>gW P want d k s K (.bool b)))):Im B (gW P want d k s K (.bool b)):=h
theorem iC{P:Program}{t e:ACode}{Q:AExit→St→Prop}{s:St}{B:Prop}{b:Bool}(h:Im B (Sp b (fun b=>a6i P t e Q s (.bool b)))):Im B (a6i P t e Q s (.bool b)):=h
theorem iD{c:Bool}{a b:AV}{K:AV→Prop}{B:Prop}(h:Im B (Sp c (fun c=>a6R (.bool c) a b K))):Im B (a6R (.bool c) a b K):=h
theorem iN{b:Bool}{K:Bool→Prop}{B:Prop}(h:Im B (Sp b (fun b=>K (!b)))):Im B (Sp (!b) K):=h
theorem iT{b:Bool}{K:Bool→Prop}(f:a0a (b=true)):Im (K true) (Sp b K):=fun h=>Sp_t f h
theorem iF{b:Bool}{K:Bool→Prop}(f:a0a (b=false)):Im (K false) (Sp b K):=fun h=>Sp_f f h
theorem iR{P:Program}{Q:AExit→St→Prop}{s:St}{t:OT}(hd:b2Z t=true):Im (otF P t s (nQ Q)) (b1A P t Q s):=TreeW_intro hd
theorem iS{P:Program}{Q:AExit→St→Prop}{s:St}{t:OT}:Im (otW P t s (upQ Q)) (b1A P t Q s):=TreeW_all
theorem iU{Q:AExit→St→Prop}{s:St}:Im (nQ Q s) (upQ Q s):=b2G
theorem iX{A B:Prop}(e:Im B A:=by first|exact iT (by assumption)|exact iF (by assumption)|((with_reducible apply iN);(first|exact iT (by assumption)|exact iF (by assumption)))|fail):Im B A:=e
theorem iq{A B:Prop}(h:B)(e:Im B A:=by first|(with_reducible refine iA ?_;focus exact OM_a)|((first|(with_reducible apply iB)|(with_reducible apply iC)|(with_reducible apply iD));exact iX)|(with_reducible exact iR (by with_unfolding_all rfl))|(with_reducible exact iS)|(with_reducible exact iU)|fail):A:=e h
def I3(B C A:Prop):Prop:=B→C→A
theorem kB{P:Program}{want:Bool}{d:Option Nat}{k:AK}{s:St}{K:St→Prop}{B C:Prop}{b:Bool}(h:I3 B C (Sp b (fun b=>gW P want d k s K (.bool b)))):I3 B C (gW P want d k s K (.bool b)):=h
theorem kC{P:Program}{t e:ACode}{Q:AExit→St→Prop}{s:St}{B C:Prop}{b:Bool}(h:I3 B C (Sp b (fun b=>a6i P t e Q s (.bool b)))):I3 B C (a6i P t e Q s (.bool b)):=h
theorem kD{c:Bool}{a b:AV}{K:AV→Prop}{B C:Prop}(h:I3 B C (Sp c (fun c=>a6R (.bool c) a b K))):I3 B C (a6R (.bool c) a b K):=h
theorem kN{b:Bool}{K:Bool→Prop}{B C:Prop}(h:I3 B C (Sp b (fun b=>K (!b)))):I3 B C (Sp (!b) K):=h
theorem kL{x y:Int}{K:Bool→Prop}:I3 (∀ (_:x<y) (_:a0a (decide (x<y)=true)),K true) (∀ (_:y≤x) (_:a0a (decide (x<y)=false)),K false) (Sp (decide (x<y)) K):=wL
theorem kE{x y:Int}{K:Bool→Prop}:I3 (∀ (_:x≤y) (_:a0a (decide (x≤y)=true)),K true) (∀ (_:y<x) (_:a0a (decide (x≤y)=false)),K false) (Sp (decide (x≤y)) K):=wE
theorem kS{b:Bool}{K:Bool→Prop}:I3 (∀ (_:a0a (b=true)) (_:True),K true) (∀ (_:a0a (b=false)) (_:True),K false) (Sp b K):=fun h1 h2=>Sp_split (fun h=>h1 h trivial) (fun h=>h2 h trivial)
theorem kP{A B C:Prop}(h:I3 B C A)(d:B):I3 (∀ (_ _:True),True) C A:=fun _ h2=>h d h2
theorem kQ{A B C:Prop}(h:I3 B C A)(d:C):I3 B (∀ (_ _:True),True) A:=fun h1 _=>h h1 d
theorem kY{A B C:Prop}(e:I3 B C A:=by first|((with_reducible apply kP kL);(intro _ _;exfalso;omega))|((with_reducible apply kP kE);(intro _ _;exfalso;omega))|((with_reducible apply kQ kL);(intro _ _;exfalso;omega))|((with_reducible apply kQ kE);(intro _ _;exfalso;omega))|(with_reducible exact kL)|(with_reducible exact kE)|(with_reducible exact kS)|fail):I3 B C A:=e
theorem kX{A B C:Prop}(e:I3 B C A:=by first|((with_reducible apply kN);exact kY)|exact kY|fail):I3 B C A:=e
theorem jq{A B C:Prop}(h1:B)(h2:C)(e:I3 B C A:=by first|((first|(with_reducible apply kB)|(with_reducible apply kC)|(with_reducible apply kD));exact kX)|fail):A:=e h1 h2
theorem na{K:Nat→Prop}(h:∀ b,K b):a9C (lk []) K:=fun b _=>h b
theorem nb{o:Nat→Option (List AV)}{K B:Nat→Prop}(h:∀ b,B b→K b)(e:∀ b,(o b=none)=B b:=by intro b;first|(simp only[ln_cons2,ln_nil,and_true];first|done|rfl|fail)|rfl|fail):a9C o K:=fun b hb=>h b (e b▸hb)
theorem Hn:(∀ b:Bool,((!b)=true)=(b=false))∧(∀ b:Bool,((!b)=false)=(b=true))∧(∀ (p:Prop) [Decidable p],(decide p=true)=p)∧(∀ (p:Prop) [Decidable p],(decide p=false)↔¬ p):=⟨fun b=>by cases b<;>simp,fun b=>by cases b<;>simp,fun p _=>by simp,fun p _=>by simp⟩
theorem fo{A:Prop}(h:A:=by simp only[a0a,Hn];omega):A:=h
end
end Go.Proofs.YtgdhinnepnlihaaGreatDoor
