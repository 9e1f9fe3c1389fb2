import Derived.Test.YtgdhinnepnlihaaGreatDoorK24
import Derived.Test.YtgdhinnepnlihaaGreatDoorK25
import Derived.Test.YtgdhinnepnlihaaGreatDoorRows
import Derived.Test.YtgdhinnepnlihaaGreatDoorCards
import Derived.Test.YtgdhinnepnlihaaGreatDoorTie
import Derived.LaidMore
import Derived.Lay
import Derived.SevenTiedAt
import Derived.Stop.Joined
import Derived.WalkKit
import Derived.ProofKit
import Derived.OpenShut
import Derived.JoinedCond
namespace Go.Proofs.YtgdhinnepnlihaaGreatDoor
set_option linter.all false
set_option maxHeartbeats 9000000
section
open Go.ChangeShapes Go.WideShapes Go.ChangeAt Go.RowKit
set_option maxRecDepth 100000

theorem own:ownKnob Tryz.prog.godebug=none:=by kernel_rfl
theorem laidOut:laidOutB Tryz.prog=true:=by kernel_rfl
theorem tv_ev{n:Nat}{l:List AV}(h:TV Tryz.prog (n+4) 139 l):∃ p:EvC,l=p.cs:=by
 simp only[TV,TVF,Tryz.underlying3,Tryz.underlying56,Tryz.underlying139,Tryz.underlying58,Tryz.underlying9]at h
 obtain ⟨_,_,⟨a1,rfl,wa1⟩,⟨_,_,⟨_,_,⟨_,_,⟨a2,rfl,wa2⟩,⟨_,_,⟨a3,rfl,wa3⟩,rfl,rfl⟩,rfl⟩,⟨_,_,⟨_,_,⟨a4,rfl,wa4⟩,⟨_,_,⟨a5,rfl,wa5⟩,rfl,rfl⟩,rfl⟩,⟨_,_,⟨a6,rfl,wa6⟩,⟨_,_,⟨a7,rfl,wa7⟩,⟨_,_,⟨a8,rfl,wa8⟩,⟨_,_,⟨a9,rfl,wa9⟩,rfl,rfl⟩,rfl⟩,rfl⟩,rfl⟩,rfl⟩,rfl⟩,⟨_,_,⟨a10,rfl,wa10⟩,⟨_,_,⟨_,_,⟨a11,rfl,wa11⟩,⟨_,_,⟨a12,rfl,wa12⟩,rfl,rfl⟩,rfl⟩,⟨_,_,⟨a13,rfl,wa13⟩,rfl,rfl⟩,rfl⟩,rfl⟩,rfl⟩,rfl⟩:=h
 exact ⟨⟨a1,⟨a2,a3,a4,a5,a6,a7,a8,a9⟩,a10,a11,a12,a13⟩,rfl⟩
theorem b6F:∀ (l:List (List AV)),(∀ c∈l, ∃ p:EvC,c=p.cs)→∃ ps:List EvC,l=ps.map fun p=>p.cs
 | [],_=>⟨[],rfl⟩
 | c::l,h=>by
  obtain ⟨p,rfl⟩:=h c (by simp)
  obtain ⟨ps,rfl⟩:=b6F l (fun d hd=>h d (by simp[hd]))
  exact ⟨p::ps,rfl⟩
theorem tv_blk{n:Nat}{l:List AV}(h:TV Tryz.prog (n+6) 32 l):∃ p:BlkC,l=p.cs∧p.e.length≤maxLen:=by
 simp only[TV,TVF,Tryz.underlying30,Tryz.underlying3,Tryz.underlying32,Tryz.underlying9]at h
 obtain ⟨_,_,⟨a14,rfl,wa14⟩,⟨_,_,⟨a15,rfl,wa15⟩,⟨_,_,⟨a16,rfl,wa16⟩,⟨_,_,⟨a17,rfl,wa17,ha17⟩,rfl,rfl⟩,rfl⟩,rfl⟩,rfl⟩:=h
 obtain ⟨a17x,rfl⟩:=b6F a17 (fun c hc=>tv_ev (n:=n+0) (ha17 c hc))
 exact ⟨⟨a14,a15,a16,a17x⟩,rfl,by simpa using wa17⟩
theorem ta_blk{n:Nat}{a:AV}(h:TA Tryz.prog (n+6) 32 a):∃ c:BlkC,a=.agg c.cs∧c.e.length≤maxLen:=by
 simp only[TA,Tryz.underlying32]at h
 obtain ⟨l,rfl,h⟩:=h
 obtain ⟨c,rfl,w⟩:=tv_blk h
 exact ⟨c,rfl,w⟩
theorem ta_int{n:Nat}{a:AV}(h:TA Tryz.prog (n+1) 3 a):∃ k,a=.int .i64 k:=by
 simp only[TA,TV,Tryz.underlying3]at h
 obtain ⟨k,h1,_⟩:=h
 exact ⟨k,by simpa using h1⟩

theorem a6x(os:Os)(started:os.Started)(H:Type)(enc:TypeId × Value→H):
  ReturnsInHanded {} Tryz.checked os 4 .any (fun w args=>(Rows.indexTwiceSpec.pre enc Tryz.prog Tryz.f4 Rows.indexTwiceRow.domain false w args∧laidMetH Tryz.prog Rows.indexTwiceRow.laid w)∧sizedMet enc Tryz.prog Tryz.f4 (OpenSpec.ofChange Rows.indexTwiceSpec) false w args)
   (Rows.indexTwiceSpec.post enc Tryz.prog Tryz.f4 false true false false):=by
 refine hand_and_shaped (C:=Tryz.checked) (X:=fun w _=>laidMetH Tryz.prog Rows.indexTwiceRow.laid w) (fun _ _ _ hh h=>h.of_heap hh) own started (by kernel_rfl) Tryz.func4
  (ChangeSpec.witness_shaped (enc:=enc) (C:=Tryz.checked) (os:=os) (X:=fun w _=>laidMetH Tryz.prog Rows.indexTwiceRow.laid w) false (World.laidAll Tryz.prog os Rows.indexTwiceRow.laid) #[.agg #[.string ⟨#[]⟩,.int .i64 0,.int .i64 0,.slice none 0 0],.agg #[.string ⟨#[]⟩,.int .i64 0,.int .i64 0,.slice none 0 0],.int .i64 0] 8 (World.laidAll_os _ _ _)
   (World.shaped_of_ZipB (by kernel_rfl) (by kernel_rfl)) (by kernel_rfl) (by kernel_rfl) (by kernel_rfl)
   (by rw[MakeChecks.laidMetH_plain _ _ _ (by kernel_rfl)];exact laidMet_laidAll _ (by kernel_rfl) (by kernel_rfl))) ?_
 intro W base args ds gs before hval hW _ _ hX hsh _
 refine row_of_CP (n:=6) (tb:=4) laidOut (by kernel_rfl) (by kernel_rfl) Tryz.underlying4 rfl (fun hg hl=>?_) hval hW (glob_of hX hsh) (fun l hl=>?_)
 ·subst hg
  have hl':ds.length=3:=hl
  match ds,hl' with
  | [d0,d1,d2],_=>exact ⟨rfl,rfl,rfl⟩
 ·rw[Tryz.params4]at hl
  obtain ⟨_,_,h0,⟨_,_,h1,⟨_,_,h2,rfl,rfl⟩,rfl⟩,rfl⟩:=hl
  obtain ⟨A,rfl,wA⟩:=ta_blk h0
  obtain ⟨B,rfl,wB⟩:=ta_blk h1
  obtain ⟨top,rfl⟩:=ta_int h2
  exact a9q A B top wA wB
theorem a8a:(Rows.indexTwiceRow.inPlace==Tryz.pinned.checked.prog.inPlace 4)=true:=by kernel_rfl
theorem a8b:(Rows.indexTwiceRow.unfollowed==Tryz.pinned.checked.prog.unfollowed 4)=true:=by kernel_rfl
theorem a8c:(Rows.indexTwiceRow.recurses==Tryz.pinned.checked.prog.recurses 4)=true:=by kernel_rfl
theorem a8d:(Rows.indexTwiceRow.named==Tryz.pinned.checked.prog.varsNamed 4)=true:=by kernel_rfl
theorem a5d:joinedFacts Tryz.pinned.checked.prog 4 Tryz.f4 Rows.indexTwiceSpec Rows.indexTwiceRow=true:=by
 unfold joinedFacts
 rw[a8a,a8b,a8c,a8d,show laidOutB Tryz.pinned.checked.prog=true from laidOut]
 kernel_rfl
theorem a6y:Rows.indexTwiceRow.wfByText (OpenSpec.ofChange Rows.indexTwiceSpec)=true:=by kernel_rfl
theorem a6w:false=Rows.indexTwiceRow.goesBy Tryz.pinned.checked.prog:=by kernel_rfl
theorem a5E:false=Tryz.pinned.checked.prog.looks []:=by kernel_rfl
theorem a7e:Rows.IndexTwiceSaid:=
 OpenClaim.holds_of_wide 4 Tryz.f4 rfl rfl rfl rfl rfl rfl rfl ⟨rfl,rfl,rfl,rfl,rfl⟩ rfl rfl rfl rfl rfl (by kernel_rfl) Tryz.func4 a5d
  (of_decide_eq_true (by kernel_rfl)) (by unfold Func.isWrapper;first|(rw[if_pos (by decide +kernel)];kernel_rfl)|(rw[if_neg (by decide +kernel)];exact ⟨rfl,rfl⟩))
  (fun os started H enc _=>a6x os started H enc)
theorem indexTwice_holds:Rows.IndexTwiceCardSaid:=
 Claim7.holds_tied_plain_at .later [] [.data] true (true, "51a47207eeb991ecab425a2cad0eaae47ffe8fc189ad2351dfb36a42038bdbd8") false a7e (fun _ h=>by cases h) a6y (fun _ h=>by cases h) indexTwice_row_tie rfl ⟨rfl,rfl⟩ (by kernel_rfl) rfl
  (fun f fn hf hfn=>by
   obtain rfl:f=4:=Option.some.inj ((show Tryz.prog.funcNamed Tryz.f4.name=some 4 by kernel_rfl).symm.trans hf) |>.symm
   obtain rfl:fn=Tryz.f4:=(Option.some.inj (Tryz.func4.symm.trans hfn)).symm
   exact ⟨a5E,fun j t ht=>by
    rw[Tryz.params4]at ht
    have hm:t∈[32,32,3]:=by simpa using Array.mem_of_getElem? ht
    have hall:([32,32,3].all fun u => !Tryz.prog.wantsStandIn u)=true:=by kernel_rfl
    exact (show Tryz.prog.wantsStandIn t=false by simpa using List.all_eq_true.1 hall t hm)⟩)
  a6w
theorem b4o:∀ (l:List (List AV)),(∀ c∈l, ∃ p:BlkC,c=p.cs∧p.e.length≤maxLen)→∃ ps:List BlkC,(l=ps.map fun p=>p.cs)∧∀ p∈ps,p.e.length≤maxLen
 | [],_=>⟨[],rfl,fun _ h=>by simp at h⟩
 | c::l,h=>by
  obtain ⟨p,rfl,hp⟩:=h c (by simp)
  obtain ⟨ps,rfl,hq⟩:=b4o l (fun d hd=>h d (by simp[hd]))
  exact ⟨p::ps,rfl,fun x hx=>by
   rcases List.mem_cons.1 hx with rfl|hx
   ·exact hp
   ·exact hq x hx⟩
theorem ta_bll{n:Nat}{a:AV}(h:TA Tryz.prog (n+7) 22 a):∃ ps:List BlkC,a=.sl none (Tryz.prog.cellsOf 32) (ps.map fun p=>p.cs)∧ps.length≤maxLen∧∀ p∈ps,p.e.length≤maxLen:=by
 rw[TA,Tryz.underlying22,TV,Tryz.underlying22]at h
 obtain ⟨els,h1,h3,h2⟩:=h
 obtain ⟨ps,rfl,hq⟩:=b4o els (fun c hc=>tv_blk (h2 c hc))
 exact ⟨ps,by simpa using h1,by simpa using h3,hq⟩
theorem b4p:∀ (l:List (List AV)),(∀ c∈l, ∃ p:Int,c=[AV.int .i64 p])→∃ ps:List Int,l=ps.map fun p=>[AV.int .i64 p]
 | [],_=>⟨[],rfl⟩
 | c::l,h=>by
  obtain ⟨p,rfl⟩:=h c (by simp)
  obtain ⟨ps,rfl⟩:=b4p l (fun d hd=>h d (by simp[hd]))
  exact ⟨p::ps,rfl⟩
theorem ta_inl{n:Nat}{a:AV}(h:TA Tryz.prog (n+2) 23 a):∃ ps:List Int,a=.sl none (Tryz.prog.cellsOf 3) (ps.map fun p=>[AV.int .i64 p])∧ps.length≤maxLen:=by
 rw[TA,Tryz.underlying23,TV,Tryz.underlying23]at h
 obtain ⟨els,h1,h3,h2⟩:=h
 obtain ⟨ps,rfl⟩:=b4p els (fun c hc=>by have:=h2 c hc;simp only[TV,Tryz.underlying3]at this;obtain ⟨s,hs,_⟩:=this;exact ⟨s,hs⟩)
 exact ⟨ps,by simpa using h1,by simpa using h3⟩

theorem a6r(os:Os)(started:os.Started)(H:Type)(enc:TypeId × Value→H):
  ReturnsInHanded {} Tryz.checked os 3 .any (fun w args=>(Rows.indexLacksSpec.pre enc Tryz.prog Tryz.f3 Rows.indexLacksRow.domain false w args∧laidMetH Tryz.prog Rows.indexLacksRow.laid w)∧sizedMet enc Tryz.prog Tryz.f3 (OpenSpec.ofChange Rows.indexLacksSpec) false w args)
   (Rows.indexLacksSpec.post enc Tryz.prog Tryz.f3 false true false false):=by
 refine hand_and_shaped (C:=Tryz.checked) (X:=fun w _=>laidMetH Tryz.prog Rows.indexLacksRow.laid w) (fun _ _ _ hh h=>h.of_heap hh) own started (by kernel_rfl) Tryz.func3
  (ChangeSpec.witness_shaped (enc:=enc) (C:=Tryz.checked) (os:=os) (X:=fun w _=>laidMetH Tryz.prog Rows.indexLacksRow.laid w) false (World.laidAll Tryz.prog os Rows.indexLacksRow.laid) #[.slice none 0 0,.slice none 0 0] 8 (World.laidAll_os _ _ _)
   (World.shaped_of_ZipB (by kernel_rfl) (by kernel_rfl)) (by kernel_rfl) (by kernel_rfl) (by kernel_rfl)
   (by rw[MakeChecks.laidMetH_plain _ _ _ (by kernel_rfl)];exact laidMet_laidAll _ (by kernel_rfl) (by kernel_rfl))) ?_
 intro W base args ds gs before hval hW _ _ hX hsh _
 refine row_of_CP (n:=7) (tb:=4) laidOut (by kernel_rfl) (by kernel_rfl) Tryz.underlying4 rfl (fun hg hl=>?_) hval hW (glob_of hX hsh) (fun l hl=>?_)
 ·subst hg
  have hl':ds.length=2:=hl
  match ds,hl' with
  | [d0,d1],_=>exact ⟨rfl,rfl,rfl⟩
 ·rw[Tryz.params3]at hl
  obtain ⟨_,_,h0,⟨_,_,h1,rfl,rfl⟩,rfl⟩:=hl
  obtain ⟨l,rfl,wl⟩:=ta_bll h0
  obtain ⟨how,rfl,whow⟩:=ta_inl h1
  exact a9o l how wl.1 (fun i hi=>wl.2 _ (by simp[List.getD,hi]))
theorem a7S:(Rows.indexLacksRow.inPlace==Tryz.pinned.checked.prog.inPlace 3)=true:=by kernel_rfl
theorem a7T:(Rows.indexLacksRow.unfollowed==Tryz.pinned.checked.prog.unfollowed 3)=true:=by kernel_rfl
theorem a7U:(Rows.indexLacksRow.recurses==Tryz.pinned.checked.prog.recurses 3)=true:=by kernel_rfl
theorem a7V:(Rows.indexLacksRow.named==Tryz.pinned.checked.prog.varsNamed 3)=true:=by kernel_rfl
theorem a5b:joinedFacts Tryz.pinned.checked.prog 3 Tryz.f3 Rows.indexLacksSpec Rows.indexLacksRow=true:=by
 unfold joinedFacts
 rw[a7S,a7T,a7U,a7V,show laidOutB Tryz.pinned.checked.prog=true from laidOut]
 kernel_rfl
theorem a6s:Rows.indexLacksRow.wfByText (OpenSpec.ofChange Rows.indexLacksSpec)=true:=by kernel_rfl
theorem a6q:false=Rows.indexLacksRow.goesBy Tryz.pinned.checked.prog:=by kernel_rfl
theorem a5C:false=Tryz.pinned.checked.prog.looks []:=by kernel_rfl
theorem a7c:Rows.IndexLacksSaid:=
 OpenClaim.holds_of_wide 3 Tryz.f3 rfl rfl rfl rfl rfl rfl rfl ⟨rfl,rfl,rfl,rfl,rfl⟩ rfl rfl rfl rfl rfl (by kernel_rfl) Tryz.func3 a5b
  (of_decide_eq_true (by kernel_rfl)) (by unfold Func.isWrapper;first|(rw[if_pos (by decide +kernel)];kernel_rfl)|(rw[if_neg (by decide +kernel)];exact ⟨rfl,rfl⟩))
  (fun os started H enc _=>a6r os started H enc)
theorem indexLacks_holds:Rows.IndexLacksCardSaid:=
 Claim7.holds_tied_plain_at .later [] [.data] true (true, "51a47207eeb991ecab425a2cad0eaae47ffe8fc189ad2351dfb36a42038bdbd8") false a7c (fun _ h=>by cases h) a6s (fun _ h=>by cases h) indexLacks_row_tie rfl ⟨rfl,rfl⟩ (by kernel_rfl) rfl
  (fun f fn hf hfn=>by
   obtain rfl:f=3:=Option.some.inj ((show Tryz.prog.funcNamed Tryz.f3.name=some 3 by kernel_rfl).symm.trans hf) |>.symm
   obtain rfl:fn=Tryz.f3:=(Option.some.inj (Tryz.func3.symm.trans hfn)).symm
   exact ⟨a5C,fun j t ht=>by
    rw[Tryz.params3]at ht
    have hm:t∈[22,23]:=by simpa using Array.mem_of_getElem? ht
    have hall:([22,23].all fun u => !Tryz.prog.wantsStandIn u)=true:=by kernel_rfl
    exact (show Tryz.prog.wantsStandIn t=false by simpa using List.all_eq_true.1 hall t hm)⟩)
  a6q

theorem a6u(os:Os)(started:os.Started)(H:Type)(enc:TypeId × Value→H):
  ReturnsInHanded {} Tryz.checked os 5 .any (fun w args=>(Rows.indexOrderSpec.pre enc Tryz.prog Tryz.f5 Rows.indexOrderRow.domain false w args∧laidMetH Tryz.prog Rows.indexOrderRow.laid w)∧sizedMet enc Tryz.prog Tryz.f5 (OpenSpec.ofChange Rows.indexOrderSpec) false w args)
   (Rows.indexOrderSpec.post enc Tryz.prog Tryz.f5 false true false false):=by
 refine hand_and_shaped (C:=Tryz.checked) (X:=fun w _=>laidMetH Tryz.prog Rows.indexOrderRow.laid w) (fun _ _ _ hh h=>h.of_heap hh) own started (by kernel_rfl) Tryz.func5
  (ChangeSpec.witness_shaped (enc:=enc) (C:=Tryz.checked) (os:=os) (X:=fun w _=>laidMetH Tryz.prog Rows.indexOrderRow.laid w) false (World.laidAll Tryz.prog os Rows.indexOrderRow.laid) #[.slice none 0 0,.slice none 0 0,.int .i64 0] 8 (World.laidAll_os _ _ _)
   (World.shaped_of_ZipB (by kernel_rfl) (by kernel_rfl)) (by kernel_rfl) (by kernel_rfl) (by kernel_rfl)
   (by rw[MakeChecks.laidMetH_plain _ _ _ (by kernel_rfl)];exact laidMet_laidAll _ (by kernel_rfl) (by kernel_rfl))) ?_
 intro W base args ds gs before hval hW _ _ hX hsh _
 refine row_of_CP (n:=7) (tb:=4) laidOut (by kernel_rfl) (by kernel_rfl) Tryz.underlying4 rfl (fun hg hl=>?_) hval hW (glob_of hX hsh) (fun l hl=>?_)
 ·subst hg
  have hl':ds.length=3:=hl
  match ds,hl' with
  | [d0,d1,d2],_=>exact ⟨rfl,rfl,rfl⟩
 ·rw[Tryz.params5]at hl
  obtain ⟨_,_,h0,⟨_,_,h1,⟨_,_,h2,rfl,rfl⟩,rfl⟩,rfl⟩:=hl
  obtain ⟨l,rfl,wl⟩:=ta_bll h0
  obtain ⟨picks,rfl,wpicks⟩:=ta_inl h1
  obtain ⟨top,rfl⟩:=ta_int h2
  exact a9p l picks top wl.1 (fun i hi=>wl.2 _ (by simp[List.getD,hi]))
theorem a7W:(Rows.indexOrderRow.inPlace==Tryz.pinned.checked.prog.inPlace 5)=true:=by kernel_rfl
theorem a7X:(Rows.indexOrderRow.unfollowed==Tryz.pinned.checked.prog.unfollowed 5)=true:=by kernel_rfl
theorem a7Y:(Rows.indexOrderRow.recurses==Tryz.pinned.checked.prog.recurses 5)=true:=by kernel_rfl
theorem a7Z:(Rows.indexOrderRow.named==Tryz.pinned.checked.prog.varsNamed 5)=true:=by kernel_rfl
theorem a5c:joinedFacts Tryz.pinned.checked.prog 5 Tryz.f5 Rows.indexOrderSpec Rows.indexOrderRow=true:=by
 unfold joinedFacts
 rw[a7W,a7X,a7Y,a7Z,show laidOutB Tryz.pinned.checked.prog=true from laidOut]
 kernel_rfl
theorem a6v:Rows.indexOrderRow.wfByText (OpenSpec.ofChange Rows.indexOrderSpec)=true:=by kernel_rfl
theorem a6t:false=Rows.indexOrderRow.goesBy Tryz.pinned.checked.prog:=by kernel_rfl
theorem a5D:false=Tryz.pinned.checked.prog.looks []:=by kernel_rfl
theorem a7d:Rows.IndexOrderSaid:=
 OpenClaim.holds_of_wide 5 Tryz.f5 rfl rfl rfl rfl rfl rfl rfl ⟨rfl,rfl,rfl,rfl,rfl⟩ rfl rfl rfl rfl rfl (by kernel_rfl) Tryz.func5 a5c
  (of_decide_eq_true (by kernel_rfl)) (by unfold Func.isWrapper;first|(rw[if_pos (by decide +kernel)];kernel_rfl)|(rw[if_neg (by decide +kernel)];exact ⟨rfl,rfl⟩))
  (fun os started H enc _=>a6u os started H enc)
theorem indexOrder_holds:Rows.IndexOrderCardSaid:=
 Claim7.holds_tied_plain_at .later [] [.data] true (true, "51a47207eeb991ecab425a2cad0eaae47ffe8fc189ad2351dfb36a42038bdbd8") false a7d (fun _ h=>by cases h) a6v (fun _ h=>by cases h) indexOrder_row_tie rfl ⟨rfl,rfl⟩ (by kernel_rfl) rfl
  (fun f fn hf hfn=>by
   obtain rfl:f=5:=Option.some.inj ((show Tryz.prog.funcNamed Tryz.f5.name=some 5 by kernel_rfl).symm.trans hf) |>.symm
   obtain rfl:fn=Tryz.f5:=(Option.some.inj (Tryz.func5.symm.trans hfn)).symm
   exact ⟨a5D,fun j t ht=>by
    rw[Tryz.params5]at ht
    have hm:t∈[22,23,3]:=by simpa using Array.mem_of_getElem? ht
    have hall:([22,23,3].all fun u => !Tryz.prog.wantsStandIn u)=true:=by kernel_rfl
    exact (show Tryz.prog.wantsStandIn t=false by simpa using List.all_eq_true.1 hall t hm)⟩)
  a6t
end
end Go.Proofs.YtgdhinnepnlihaaGreatDoor
