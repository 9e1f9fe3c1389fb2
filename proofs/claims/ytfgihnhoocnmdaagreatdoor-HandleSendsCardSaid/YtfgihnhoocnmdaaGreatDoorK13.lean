import Derived.Test.YtfgihnhoocnmdaaGreatDoorK11
namespace Go.Proofs.YtfgihnhoocnmdaaGreatDoor
set_option linter.all false
set_option maxHeartbeats 9000000
section
open Go.RowKit
theorem wZ{A:Prop}(h:A:=by first|exact True.intro|exact wK|exact wD|(simp only[a0d,Bool.not_eq_true',Bool.not_eq_false',decide_eq_true_eq,decide_eq_false_iff_not]at *;exact wD)|(show (_:Nat)≤_;omega)|(show (_:Int)≤_;omega)|fail):A:=h
theorem tt{A:Prop}(e:A=True:=by with_reducible rfl):A:=of_eq_true e
/-- `B` gives `A`: the walk's short ways. -/
def Im(B A:Prop):Prop:=B→A
theorem iA{A B:Prop}(l:OM A):Im B (A∧B):=fun h=>⟨l,h⟩
theorem iB{P:Program}{want:Bool}{d:Option Nat}{k:AK}{s:St}{K:St→Prop}{B:Prop}{b:Bool}(h:Im B (Sp b (fun b=>gW P want d k s K (.bool b)))):Im B (gW P want d k s K (.bool b)):=h
theorem iC{P:Program}{t e:ACode}{Q:AExit→St→Prop}{s:St}{B:Prop}{b:Bool}(h:Im B (Sp b (fun b=>a6j P t e Q s (.bool b)))):Im B (a6j P t e Q s (.bool b)):=h
theorem iD{c:Bool}{a b:AV}{K:AV→Prop}{B:Prop}(h:Im B (Sp c (fun c=>a6M (.bool c) a b K))):Im B (a6M (.bool c) a b K):=h
theorem iN{b:Bool}{K:Bool→Prop}{B:Prop}(h:Im B (Sp b (fun b=>K (!b)))):Im B (Sp (!b) K):=h
theorem iT{b:Bool}{K:Bool→Prop}(f:a0d (b=true)):Im (K true) (Sp b K):=fun h=>Sp_t f h
theorem iF{b:Bool}{K:Bool→Prop}(f:a0d (b=false)):Im (K false) (Sp b K):=fun h=>Sp_f f h
theorem iR{P:Program}{Q:AExit→St→Prop}{s:St}{t:OT}(hd:b2A t=true):Im (otF P t s (nQ Q)) (b0Z P t Q s):=TreeW_intro hd
theorem iS{P:Program}{Q:AExit→St→Prop}{s:St}{t:OT}:Im (otW P t s (upQ Q)) (b0Z P t Q s):=TreeW_all
theorem iU{Q:AExit→St→Prop}{s:St}:Im (nQ Q s) (upQ Q s):=b2b
theorem iX{A B:Prop}(e:Im B A:=by first|exact iT (by assumption)|exact iF (by assumption)|((with_reducible apply iN);(first|exact iT (by assumption)|exact iF (by assumption)))|fail):Im B A:=e
theorem iq{A B:Prop}(h:B)(e:Im B A:=by first|(with_reducible refine iA ?_;focus exact OM_a)|((first|(with_reducible apply iB)|(with_reducible apply iC)|(with_reducible apply iD));exact iX)|(with_reducible exact iR (by with_unfolding_all rfl))|(with_reducible exact iS)|(with_reducible exact iU)|fail):A:=e h
def I3(B C A:Prop):Prop:=B→C→A
theorem kB{P:Program}{want:Bool}{d:Option Nat}{k:AK}{s:St}{K:St→Prop}{B C:Prop}{b:Bool}(h:I3 B C (Sp b (fun b=>gW P want d k s K (.bool b)))):I3 B C (gW P want d k s K (.bool b)):=h
theorem kC{P:Program}{t e:ACode}{Q:AExit→St→Prop}{s:St}{B C:Prop}{b:Bool}(h:I3 B C (Sp b (fun b=>a6j P t e Q s (.bool b)))):I3 B C (a6j P t e Q s (.bool b)):=h
theorem kD{c:Bool}{a b:AV}{K:AV→Prop}{B C:Prop}(h:I3 B C (Sp c (fun c=>a6M (.bool c) a b K))):I3 B C (a6M (.bool c) a b K):=h
theorem kN{b:Bool}{K:Bool→Prop}{B C:Prop}(h:I3 B C (Sp b (fun b=>K (!b)))):I3 B C (Sp (!b) K):=h
theorem kL{x y:Int}{K:Bool→Prop}:I3 (∀ (_:x<y) (_:a0d (decide (x<y)=true)),K true) (∀ (_:y≤x) (_:a0d (decide (x<y)=false)),K false) (Sp (decide (x<y)) K):=wL
theorem kE{x y:Int}{K:Bool→Prop}:I3 (∀ (_:x≤y) (_:a0d (decide (x≤y)=true)),K true) (∀ (_:y<x) (_:a0d (decide (x≤y)=false)),K false) (Sp (decide (x≤y)) K):=wE
theorem kS{b:Bool}{K:Bool→Prop}:I3 (∀ (_:a0d (b=true)) (_:True),K true) (∀ (_:a0d (b=false)) (_:True),K false) (Sp b K):=fun h1 h2=>Sp_split (fun h=>h1 h trivial) (fun h=>h2 h trivial)
theorem kP{A B C:Prop}(h:I3 B C A)(d:B):I3 (∀ (_ _:True),True) C A:=fun _ h2=>h d h2
theorem kQ{A B C:Prop}(h:I3 B C A)(d:C):I3 B (∀ (_ _:True),True) A:=fun h1 _=>h h1 d
theorem kY{A B C:Prop}(e:I3 B C A:=by first|((with_reducible apply kP kL);(intro _ _;exfalso;omega))|((with_reducible apply kP kE);(intro _ _;exfalso;omega))|((with_reducible apply kQ kL);(intro _ _;exfalso;omega))|((with_reducible apply kQ kE);(intro _ _;exfalso;omega))|(with_reducible exact kL)|(with_reducible exact kE)|(with_reducible exact kS)|fail):I3 B C A:=e
theorem kX{A B C:Prop}(e:I3 B C A:=by first|((with_reducible apply kN);exact kY)|exact kY|fail):I3 B C A:=e
theorem jq{A B C:Prop}(h1:B)(h2:C)(e:I3 B C A:=by first|((first|(with_reducible apply kB)|(with_reducible apply kC)|(with_reducible apply kD));exact kX)|fail):A:=e h1 h2
theorem na{K:Nat→Prop}(h:∀ b,K b):b0z (lk []) K:=fun b _=>h b
theorem nb{o:Nat→Option (List AV)}{K B:Nat→Prop}(h:∀ b,B b→K b)(e:∀ b,(o b=none)=B b:=by intro b;first|(simp only[ln_cons2,ln_nil,and_true];first|done|rfl|fail)|rfl|fail):b0z o K:=fun b hb=>h b (e b▸hb)
theorem Hn:(∀ b:Bool,((!b)=true)=(b=false))∧(∀ b:Bool,((!b)=false)=(b=true))∧(∀ (p:Prop) [Decidable p],(decide p=true)=p)∧(∀ (p:Prop) [Decidable p],(decide p=false)↔¬ p):=⟨fun b=>by cases b<;>simp,fun b=>by cases b<;>simp,fun p _=>by simp,fun p _=>by simp⟩
theorem fo{A:Prop}(h:A:=by simp only[a0d,Hn];omega):A:=h
end
end Go.Proofs.YtfgihnhoocnmdaaGreatDoor
