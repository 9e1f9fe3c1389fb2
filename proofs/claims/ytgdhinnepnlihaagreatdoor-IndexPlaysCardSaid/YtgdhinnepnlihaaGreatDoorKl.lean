import Derived.Test.YtgdhinnepnlihaaGreatDoorK28
import Derived.Test.YtgdhinnepnlihaaGreatDoorRows
import Derived.Test.YtgdhinnepnlihaaGreatDoorCards
import Derived.Test.YtgdhinnepnlihaaGreatDoorTie
import Derived.LaidMore
import Derived.Lay
import Derived.SevenTiedAt
import Derived.Stop.Joined
import Derived.WalkKit
import Derived.ProofKit
import Derived.OpenShut
import Derived.JoinedCond
namespace Go.Proofs.YtgdhinnepnlihaaGreatDoor
set_option linter.all false
set_option maxHeartbeats 9000000
section
open Go.ChangeShapes Go.WideShapes Go.ChangeAt Go.RowKit
set_option maxRecDepth 100000

theorem own:ownKnob Tryz.prog.godebug=none:=by kernel_rfl
theorem laidOut:laidOutB Tryz.prog=true:=by kernel_rfl
theorem ta_str{n:Nat}{a:AV}(h:TA Tryz.prog (n+1) 9 a):∃ k,a=.str k∧k.length≤maxLen:=by
 simp only[TA,TV,Tryz.underlying9]at h
 obtain ⟨k,h1,h2⟩:=h
 exact ⟨k,by simpa using h1,h2⟩
theorem ta_int{n:Nat}{a:AV}(h:TA Tryz.prog (n+1) 3 a):∃ k,a=.int .i64 k:=by
 simp only[TA,TV,Tryz.underlying3]at h
 obtain ⟨k,h1,_⟩:=h
 exact ⟨k,by simpa using h1⟩
theorem b5Y:∀ (l:List (List AV)),(∀ c∈l, ∃ p:List UInt8,c=[AV.str p])→∃ ps:List (List UInt8),l=ps.map fun p=>[AV.str p]
 | [],_=>⟨[],rfl⟩
 | c::l,h=>by
  obtain ⟨p,rfl⟩:=h c (by simp)
  obtain ⟨ps,rfl⟩:=b5Y l (fun d hd=>h d (by simp[hd]))
  exact ⟨p::ps,rfl⟩
theorem ta_txl{n:Nat}{a:AV}(h:TA Tryz.prog (n+2) 33 a):∃ ps:List (List UInt8),a=.sl none (Tryz.prog.cellsOf 9) (ps.map fun p=>[AV.str p])∧ps.length≤maxLen:=by
 simp only[TA,TV,Tryz.underlying33]at h
 obtain ⟨els,h1,h3,h2⟩:=h
 obtain ⟨ps,rfl⟩:=b5Y els (fun c hc=>by have:=h2 c hc;simp only[TV,Tryz.underlying9]at this;obtain ⟨s,hs,_⟩:=this;exact ⟨s,hs⟩)
 exact ⟨ps,by simpa using h1,by simpa using h3⟩
theorem tv_end{n:Nat}{l:List AV}(h:TV Tryz.prog (n+2) 56 l):∃ p:EndV,l=p.cs:=by
 simp only[TV,TVF,Tryz.underlying3,Tryz.underlying56,Tryz.underlying9]at h
 obtain ⟨_,_,⟨a1,rfl,wa1⟩,⟨_,_,⟨a2,rfl,wa2⟩,rfl,rfl⟩,rfl⟩:=h
 exact ⟨⟨a1,a2⟩,rfl⟩
theorem ta_end{n:Nat}{a:AV}(h:TA Tryz.prog (n+2) 56 a):∃ c:EndV,a=.agg c.cs:=by
 simp only[TA,Tryz.underlying56]at h
 obtain ⟨l,rfl,h⟩:=h
 obtain ⟨c,rfl⟩:=tv_end h
 exact ⟨c,rfl⟩

theorem a8a(os:Os)(started:os.Started)(H:Type)(enc:TypeId × Value→H):
  ReturnsInHanded {} Tryz.checked os 6 .any (fun w args=>(Rows.indexPlaysSpec.pre enc Tryz.prog Tryz.f6 Rows.indexPlaysRow.domain false w args∧laidMetH Tryz.prog Rows.indexPlaysRow.laid w)∧sizedMet enc Tryz.prog Tryz.f6 (OpenSpec.ofChange Rows.indexPlaysSpec) false w args)
   (Rows.indexPlaysSpec.post enc Tryz.prog Tryz.f6 false true false false):=by
 refine hand_and_shaped (C:=Tryz.checked) (X:=fun w _=>laidMetH Tryz.prog Rows.indexPlaysRow.laid w) (fun _ _ _ hh h=>h.of_heap hh) own started (by kernel_rfl) Tryz.func6
  (ChangeSpec.witness_shaped (enc:=enc) (C:=Tryz.checked) (os:=os) (X:=fun w _=>laidMetH Tryz.prog Rows.indexPlaysRow.laid w) false (World.laidAll Tryz.prog os Rows.indexPlaysRow.laid) #[.string ⟨#[]⟩,.int .i64 0,.slice none 0 0,.agg #[.string ⟨#[]⟩,.int .i64 0],.int .i64 0,.int .i64 0] 8 (World.laidAll_os _ _ _)
   (World.shaped_of_ZipB (by kernel_rfl) (by kernel_rfl)) (by kernel_rfl) (by kernel_rfl) (by kernel_rfl)
   (by rw[MakeChecks.laidMetH_plain _ _ _ (by kernel_rfl)];exact laidMet_laidAll _ (by kernel_rfl) (by kernel_rfl))) ?_
 intro W base args ds gs before hval hW _ _ hX hsh _
 refine row_of_CP (n:=6) (tb:=4) laidOut (by kernel_rfl) (by kernel_rfl) Tryz.underlying4 rfl (fun hg hl=>?_) hval hW (glob_of hX hsh) (fun l hl=>?_)
 ·subst hg
  have hl':ds.length=6:=hl
  match ds,hl' with
  | [d0,d1,d2,d3,d4,d5],_=>exact ⟨rfl,rfl,rfl⟩
 ·rw[Tryz.params6]at hl
  obtain ⟨_,_,h0,⟨_,_,h1,⟨_,_,h2,⟨_,_,h3,⟨_,_,h4,⟨_,_,h5,rfl,rfl⟩,rfl⟩,rfl⟩,rfl⟩,rfl⟩,rfl⟩:=hl
  obtain ⟨nm,rfl,wnm⟩:=ta_str h0
  obtain ⟨top,rfl⟩:=ta_int h1
  obtain ⟨l,rfl,wl⟩:=ta_txl h2
  obtain ⟨e,rfl⟩:=ta_end h3
  obtain ⟨f,rfl⟩:=ta_int h4
  obtain ⟨t,rfl⟩:=ta_int h5
  exact b0O nm top l e f t
theorem a9z:(Rows.indexPlaysRow.inPlace==Tryz.pinned.checked.prog.inPlace 6)=true:=by kernel_rfl
theorem a9A:(Rows.indexPlaysRow.unfollowed==Tryz.pinned.checked.prog.unfollowed 6)=true:=by kernel_rfl
theorem a9B:(Rows.indexPlaysRow.recurses==Tryz.pinned.checked.prog.recurses 6)=true:=by kernel_rfl
theorem a9C:(Rows.indexPlaysRow.named==Tryz.pinned.checked.prog.varsNamed 6)=true:=by kernel_rfl
theorem a6v:joinedFacts Tryz.pinned.checked.prog 6 Tryz.f6 Rows.indexPlaysSpec Rows.indexPlaysRow=true:=by
 unfold joinedFacts
 rw[a9z,a9A,a9B,a9C,show laidOutB Tryz.pinned.checked.prog=true from laidOut]
 kernel_rfl
theorem a8b:Rows.indexPlaysRow.wfByText (OpenSpec.ofChange Rows.indexPlaysSpec)=true:=by kernel_rfl
theorem a7Z:false=Rows.indexPlaysRow.goesBy Tryz.pinned.checked.prog:=by kernel_rfl
theorem a7l:false=Tryz.pinned.checked.prog.looks []:=by kernel_rfl
theorem a8G:Rows.IndexPlaysSaid:=
 OpenClaim.holds_of_wide 6 Tryz.f6 rfl rfl rfl rfl rfl rfl rfl ⟨rfl,rfl,rfl,rfl,rfl⟩ rfl rfl rfl rfl rfl (by kernel_rfl) Tryz.func6 a6v
  (of_decide_eq_true (by kernel_rfl)) (by unfold Func.isWrapper;first|(rw[if_pos (by decide +kernel)];kernel_rfl)|(rw[if_neg (by decide +kernel)];exact ⟨rfl,rfl⟩))
  (fun os started H enc _=>a8a os started H enc)
theorem indexPlays_holds:Rows.IndexPlaysCardSaid:=
 Claim7.holds_tied_plain_at .later [] [.data] true (true, "51a47207eeb991ecab425a2cad0eaae47ffe8fc189ad2351dfb36a42038bdbd8") false a8G (fun _ h=>by cases h) a8b (fun _ h=>by cases h) indexPlays_row_tie rfl ⟨rfl,rfl⟩ (by kernel_rfl) rfl
  (fun f fn hf hfn=>by
   obtain rfl:f=6:=Option.some.inj ((show Tryz.prog.funcNamed Tryz.f6.name=some 6 by kernel_rfl).symm.trans hf) |>.symm
   obtain rfl:fn=Tryz.f6:=(Option.some.inj (Tryz.func6.symm.trans hfn)).symm
   exact ⟨a7l,fun j t ht=>by
    rw[Tryz.params6]at ht
    have hm:t∈[9,3,33,56,3,3]:=by simpa using Array.mem_of_getElem? ht
    have hall:([9,3,33,56,3,3].all fun u => !Tryz.prog.wantsStandIn u)=true:=by kernel_rfl
    exact (show Tryz.prog.wantsStandIn t=false by simpa using List.all_eq_true.1 hall t hm)⟩)
  a7Z
end
end Go.Proofs.YtgdhinnepnlihaaGreatDoor
