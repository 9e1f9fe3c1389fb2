import Derived.Test.YthdcogkdacnheaaGreatDoorK26
import Derived.Test.YthdcogkdacnheaaGreatDoorK27
import Derived.Test.YthdcogkdacnheaaGreatDoorRows
import Derived.Test.YthdcogkdacnheaaGreatDoorCards
import Derived.Test.YthdcogkdacnheaaGreatDoorTie
import Derived.LaidMore
import Derived.Lay
import Derived.SevenTiedAt
import Derived.Stop.Joined
import Derived.WalkKit
import Derived.ProofKit
import Derived.OpenShut
import Derived.JoinedCond
namespace Go.Proofs.YthdcogkdacnheaaGreatDoor
set_option linter.all false
set_option maxHeartbeats 9000000
section
open Go.ChangeShapes Go.WideShapes Go.ChangeAt Go.RowKit
set_option maxRecDepth 100000

theorem own:ownKnob Tryz.prog.godebug=none:=by kernel_rfl
theorem laidOut:laidOutB Tryz.prog=true:=by kernel_rfl
theorem tv_act{n:Nat}{l:List AV}(h:TV Tryz.prog (n+4) 32 l):∃ p:ActC,l=p.cs:=by
 simp only[TV,TVF,Tryz.underlying4,Tryz.underlying3,Tryz.underlying24,Tryz.underlying30,Tryz.underlying32,Tryz.underlying9]at h
 obtain ⟨_,_,⟨a1,rfl,wa1⟩,⟨_,_,⟨_,_,⟨a2,rfl,wa2⟩,⟨_,_,⟨a3,rfl,wa3⟩,rfl,rfl⟩,rfl⟩,⟨_,_,⟨_,_,⟨_,_,⟨a4,rfl,wa4⟩,⟨_,_,⟨a5,rfl,wa5⟩,rfl,rfl⟩,rfl⟩,⟨_,_,⟨a6,rfl⟩,⟨_,_,⟨a7,rfl⟩,⟨_,_,⟨a8,rfl,wa8⟩,rfl,rfl⟩,rfl⟩,rfl⟩,rfl⟩,⟨_,_,⟨a9,rfl,wa9⟩,⟨_,_,⟨a10,rfl,wa10⟩,⟨_,_,⟨a11,rfl,wa11⟩,rfl,rfl⟩,rfl⟩,rfl⟩,rfl⟩,rfl⟩,rfl⟩:=h
 exact ⟨⟨a1,a2,a3,⟨a4,a5,a6,a7,a8⟩,a9,a10,a11⟩,rfl⟩
theorem b2k:∀ (l:List (List AV)),(∀ c∈l, ∃ p:ActC,c=p.cs)→∃ ps:List ActC,l=ps.map fun p=>p.cs
 | [],_=>⟨[],rfl⟩
 | c::l,h=>by
  obtain ⟨p,rfl⟩:=h c (by simp)
  obtain ⟨ps,rfl⟩:=b2k l (fun d hd=>h d (by simp[hd]))
  exact ⟨p::ps,rfl⟩
theorem ta_actl{n:Nat}{a:AV}(h:TA Tryz.prog (n+5) 22 a):∃ ps:List ActC,a=.sl none (Tryz.prog.cellsOf 32) (ps.map fun p=>p.cs)∧ps.length≤maxLen:=by
 rw[TA,Tryz.underlying22,TV,Tryz.underlying22]at h
 obtain ⟨els,h1,h3,h2⟩:=h
 obtain ⟨ps,rfl⟩:=b2k els (fun c hc=>tv_act (h2 c hc))
 exact ⟨ps,by simpa using h1,by simpa using h3⟩
theorem tv_enq{n:Nat}{l:List AV}(h:TV Tryz.prog (n+2) 24 l):∃ p:EndQ,l=p.cs:=by
 simp only[TV,TVF,Tryz.underlying3,Tryz.underlying24,Tryz.underlying9]at h
 obtain ⟨_,_,⟨a12,rfl,wa12⟩,⟨_,_,⟨a13,rfl,wa13⟩,rfl,rfl⟩,rfl⟩:=h
 exact ⟨⟨a12,a13⟩,rfl⟩
theorem ta_enq{n:Nat}{a:AV}(h:TA Tryz.prog (n+2) 24 a):∃ c:EndQ,a=.agg c.cs:=by
 simp only[TA,Tryz.underlying24]at h
 obtain ⟨l,rfl,h⟩:=h
 obtain ⟨c,rfl⟩:=tv_enq h
 exact ⟨c,rfl⟩
theorem ta_int{n:Nat}{a:AV}(h:TA Tryz.prog (n+1) 3 a):∃ k,a=.int .i64 k:=by
 simp only[TA,TV,Tryz.underlying3]at h
 obtain ⟨k,h1,_⟩:=h
 exact ⟨k,by simpa using h1⟩

theorem a6t(os:Os)(started:os.Started)(H:Type)(enc:TypeId × Value→H):
  ReturnsInHanded {} Tryz.checked os 3 .any (fun w args=>(Rows.endsPlaysSpec.pre enc Tryz.prog Tryz.f3 Rows.endsPlaysRow.domain false w args∧laidMetH Tryz.prog Rows.endsPlaysRow.laid w)∧sizedMet enc Tryz.prog Tryz.f3 (OpenSpec.ofChange Rows.endsPlaysSpec) false w args)
   (Rows.endsPlaysSpec.post enc Tryz.prog Tryz.f3 false true false false):=by
 refine hand_and_shaped (C:=Tryz.checked) (X:=fun w _=>laidMetH Tryz.prog Rows.endsPlaysRow.laid w) (fun _ _ _ hh h=>h.of_heap hh) own started (by kernel_rfl) Tryz.func3
  (ChangeSpec.witness_shaped (enc:=enc) (C:=Tryz.checked) (os:=os) (X:=fun w _=>laidMetH Tryz.prog Rows.endsPlaysRow.laid w) false (World.laidAll Tryz.prog os Rows.endsPlaysRow.laid) #[.slice none 0 0,.agg #[.string ⟨#[]⟩,.int .i64 0],.int .i64 0] 8 (World.laidAll_os _ _ _)
   (World.shaped_of_ZipB (by kernel_rfl) (by kernel_rfl)) (by kernel_rfl) (by kernel_rfl) (by kernel_rfl)
   (by rw[MakeChecks.laidMetH_plain _ _ _ (by kernel_rfl)];exact laidMet_laidAll _ (by kernel_rfl) (by kernel_rfl))) ?_
 intro W base args ds gs before hval hW _ _ hX hsh _
 refine row_of_CP (n:=6) (tb:=4) laidOut (by kernel_rfl) (by kernel_rfl) Tryz.underlying4 rfl (fun hg hl=>?_) hval hW (glob_of hX hsh) (fun l hl=>?_)
 ·subst hg
  have hl':ds.length=3:=hl
  match ds,hl' with
  | [d0,d1,d2],_=>exact ⟨rfl,rfl,rfl⟩
 ·rw[Tryz.params3]at hl
  obtain ⟨_,_,h0,⟨_,_,h1,⟨_,_,h2,rfl,rfl⟩,rfl⟩,rfl⟩:=hl
  obtain ⟨l,rfl,wl⟩:=ta_actl h0
  obtain ⟨e,rfl⟩:=ta_enq h1
  obtain ⟨which,rfl⟩:=ta_int h2
  exact a8s l e which
theorem a8a:(Rows.endsPlaysRow.inPlace==Tryz.pinned.checked.prog.inPlace 3)=true:=by kernel_rfl
theorem a8b:(Rows.endsPlaysRow.unfollowed==Tryz.pinned.checked.prog.unfollowed 3)=true:=by kernel_rfl
theorem a8c:(Rows.endsPlaysRow.recurses==Tryz.pinned.checked.prog.recurses 3)=true:=by kernel_rfl
theorem a8d:(Rows.endsPlaysRow.named==Tryz.pinned.checked.prog.varsNamed 3)=true:=by kernel_rfl
theorem a5d:joinedFacts Tryz.pinned.checked.prog 3 Tryz.f3 Rows.endsPlaysSpec Rows.endsPlaysRow=true:=by
 unfold joinedFacts
 rw[a8a,a8b,a8c,a8d,show laidOutB Tryz.pinned.checked.prog=true from laidOut]
 kernel_rfl
theorem a6u:Rows.endsPlaysRow.wfByText (OpenSpec.ofChange Rows.endsPlaysSpec)=true:=by kernel_rfl
theorem a6s:false=Rows.endsPlaysRow.goesBy Tryz.pinned.checked.prog:=by kernel_rfl
theorem a5K:false=Tryz.pinned.checked.prog.looks []:=by kernel_rfl
theorem a7i:Rows.EndsPlaysSaid:=
 OpenClaim.holds_of_wide 3 Tryz.f3 rfl rfl rfl rfl rfl rfl rfl ⟨rfl,rfl,rfl,rfl,rfl⟩ rfl rfl rfl rfl rfl (by kernel_rfl) Tryz.func3 a5d
  (of_decide_eq_true (by kernel_rfl)) (by unfold Func.isWrapper;first|(rw[if_pos (by decide +kernel)];kernel_rfl)|(rw[if_neg (by decide +kernel)];exact ⟨rfl,rfl⟩))
  (fun os started H enc _=>a6t os started H enc)
theorem endsPlays_holds:Rows.EndsPlaysCardSaid:=
 Claim7.holds_tied_plain_at .later [] [.data,.data,.data,.data,.pinned] true (true, "633d898b4c70bb082fcb870606e277ae96afd4716533644ab4cf4c7514e34967") false a7i (fun _ h=>by cases h) a6u (fun _ h=>by cases h) endsPlays_row_tie rfl ⟨rfl,rfl⟩ (by kernel_rfl) rfl
  (fun f fn hf hfn=>by
   obtain rfl:f=3:=Option.some.inj ((show Tryz.prog.funcNamed Tryz.f3.name=some 3 by kernel_rfl).symm.trans hf) |>.symm
   obtain rfl:fn=Tryz.f3:=(Option.some.inj (Tryz.func3.symm.trans hfn)).symm
   exact ⟨a5K,fun j t ht=>by
    rw[Tryz.params3]at ht
    have hm:t∈[22,24,3]:=by simpa using Array.mem_of_getElem? ht
    have hall:([22,24,3].all fun u => !Tryz.prog.wantsStandIn u)=true:=by kernel_rfl
    exact (show Tryz.prog.wantsStandIn t=false by simpa using List.all_eq_true.1 hall t hm)⟩)
  a6s
theorem tv_gn{n:Nat}{l:List AV}(h:TV Tryz.prog (n+3) 69 l):∃ p:GnC,l=p.cs:=by
 simp only[TV,TVF,Tryz.underlying4,Tryz.underlying3,Tryz.underlying24,Tryz.underlying69,Tryz.underlying9]at h
 obtain ⟨_,_,⟨_,_,⟨a14,rfl,wa14⟩,⟨_,_,⟨a15,rfl,wa15⟩,rfl,rfl⟩,rfl⟩,⟨_,_,⟨_,_,⟨a16,rfl,wa16⟩,⟨_,_,⟨a17,rfl,wa17⟩,rfl,rfl⟩,rfl⟩,⟨_,_,⟨a18,rfl⟩,⟨_,_,⟨a19,rfl,wa19⟩,rfl,rfl⟩,rfl⟩,rfl⟩,rfl⟩:=h
 exact ⟨⟨a14,a15,a16,a17,a18,a19⟩,rfl⟩
theorem b4u:∀ (l:List (List AV)),(∀ c∈l, ∃ p:GnC,c=p.cs)→∃ ps:List GnC,l=ps.map fun p=>p.cs
 | [],_=>⟨[],rfl⟩
 | c::l,h=>by
  obtain ⟨p,rfl⟩:=h c (by simp)
  obtain ⟨ps,rfl⟩:=b4u l (fun d hd=>h d (by simp[hd]))
  exact ⟨p::ps,rfl⟩
theorem ta_gnl{n:Nat}{a:AV}(h:TA Tryz.prog (n+4) 59 a):∃ ps:List GnC,a=.sl none (Tryz.prog.cellsOf 69) (ps.map fun p=>p.cs)∧ps.length≤maxLen:=by
 rw[TA,Tryz.underlying59,TV,Tryz.underlying59]at h
 obtain ⟨els,h1,h3,h2⟩:=h
 obtain ⟨ps,rfl⟩:=b4u els (fun c hc=>tv_gn (h2 c hc))
 exact ⟨ps,by simpa using h1,by simpa using h3⟩

theorem a7g(os:Os)(started:os.Started)(H:Type)(enc:TypeId × Value→H):
  ReturnsInHanded {} Tryz.checked os 4 .any (fun w args=>(Rows.endsInitSpec.pre enc Tryz.prog Tryz.f4 Rows.endsInitRow.domain false w args∧laidMetH Tryz.prog Rows.endsInitRow.laid w)∧sizedMet enc Tryz.prog Tryz.f4 (OpenSpec.ofChange Rows.endsInitSpec) false w args)
   (Rows.endsInitSpec.post enc Tryz.prog Tryz.f4 false true false false):=by
 refine hand_and_shaped (C:=Tryz.checked) (X:=fun w _=>laidMetH Tryz.prog Rows.endsInitRow.laid w) (fun _ _ _ hh h=>h.of_heap hh) own started (by kernel_rfl) Tryz.func4
  (ChangeSpec.witness_shaped (enc:=enc) (C:=Tryz.checked) (os:=os) (X:=fun w _=>laidMetH Tryz.prog Rows.endsInitRow.laid w) false (World.laidAll Tryz.prog os Rows.endsInitRow.laid) #[.slice none 0 0] 8 (World.laidAll_os _ _ _)
   (World.shaped_of_ZipB (by kernel_rfl) (by kernel_rfl)) (by kernel_rfl) (by kernel_rfl) (by kernel_rfl)
   (by rw[MakeChecks.laidMetH_plain _ _ _ (by kernel_rfl)];exact laidMet_laidAll _ (by kernel_rfl) (by kernel_rfl))) ?_
 intro W base args ds gs before hval hW _ _ hX hsh _
 refine row_of_CP (n:=6) (tb:=4) laidOut (by kernel_rfl) (by kernel_rfl) Tryz.underlying4 rfl (fun hg hl=>?_) hval hW (glob_of hX hsh) (fun l hl=>?_)
 ·subst hg
  have hl':ds.length=1:=hl
  match ds,hl' with
  | [d0],_=>exact ⟨rfl,rfl,rfl⟩
 ·rw[Tryz.params4]at hl
  obtain ⟨_,_,h0,rfl,rfl⟩:=hl
  obtain ⟨l,rfl,wl⟩:=ta_gnl h0
  exact a9W l
theorem a8J:(Rows.endsInitRow.inPlace==Tryz.pinned.checked.prog.inPlace 4)=true:=by kernel_rfl
theorem a8K:(Rows.endsInitRow.unfollowed==Tryz.pinned.checked.prog.unfollowed 4)=true:=by kernel_rfl
theorem a8L:(Rows.endsInitRow.recurses==Tryz.pinned.checked.prog.recurses 4)=true:=by kernel_rfl
theorem a8M:(Rows.endsInitRow.named==Tryz.pinned.checked.prog.varsNamed 4)=true:=by kernel_rfl
theorem a5J:joinedFacts Tryz.pinned.checked.prog 4 Tryz.f4 Rows.endsInitSpec Rows.endsInitRow=true:=by
 unfold joinedFacts
 rw[a8J,a8K,a8L,a8M,show laidOutB Tryz.pinned.checked.prog=true from laidOut]
 kernel_rfl
theorem a7h:Rows.endsInitRow.wfByText (OpenSpec.ofChange Rows.endsInitSpec)=true:=by kernel_rfl
theorem a7f:false=Rows.endsInitRow.goesBy Tryz.pinned.checked.prog:=by kernel_rfl
theorem a6r:false=Tryz.pinned.checked.prog.looks []:=by kernel_rfl
theorem a7Y:Rows.EndsInitSaid:=
 OpenClaim.holds_of_wide 4 Tryz.f4 rfl rfl rfl rfl rfl rfl rfl ⟨rfl,rfl,rfl,rfl,rfl⟩ rfl rfl rfl rfl rfl (by kernel_rfl) Tryz.func4 a5J
  (of_decide_eq_true (by kernel_rfl)) (by unfold Func.isWrapper;first|(rw[if_pos (by decide +kernel)];kernel_rfl)|(rw[if_neg (by decide +kernel)];exact ⟨rfl,rfl⟩))
  (fun os started H enc _=>a7g os started H enc)
theorem endsInit_holds:Rows.EndsInitCardSaid:=
 Claim7.holds_tied_plain_at .later [] [.data,.data,.data,.data,.pinned] true (true, "633d898b4c70bb082fcb870606e277ae96afd4716533644ab4cf4c7514e34967") false a7Y (fun _ h=>by cases h) a7h (fun _ h=>by cases h) endsInit_row_tie rfl ⟨rfl,rfl⟩ (by kernel_rfl) rfl
  (fun f fn hf hfn=>by
   obtain rfl:f=4:=Option.some.inj ((show Tryz.prog.funcNamed Tryz.f4.name=some 4 by kernel_rfl).symm.trans hf) |>.symm
   obtain rfl:fn=Tryz.f4:=(Option.some.inj (Tryz.func4.symm.trans hfn)).symm
   exact ⟨a6r,fun j t ht=>by
    rw[Tryz.params4]at ht
    have hm:t∈[59]:=by simpa using Array.mem_of_getElem? ht
    have hall:([59].all fun u => !Tryz.prog.wantsStandIn u)=true:=by kernel_rfl
    exact (show Tryz.prog.wantsStandIn t=false by simpa using List.all_eq_true.1 hall t hm)⟩)
  a7f
end
end Go.Proofs.YthdcogkdacnheaaGreatDoor
