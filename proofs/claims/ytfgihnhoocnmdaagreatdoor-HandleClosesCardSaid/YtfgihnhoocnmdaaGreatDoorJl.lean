import Derived.Test.YtfgihnhoocnmdaaGreatDoorJ27
import Derived.Test.YtfgihnhoocnmdaaGreatDoorCards
import Derived.Test.YtfgihnhoocnmdaaGreatDoorTie
import Derived.Lay
import Derived.SevenTiedAt
import Derived.Stop.Joined
import Derived.ProofKit
import Derived.JoinedCond
namespace Go.Proofs.YtfgihnhoocnmdaaGreatDoor
set_option linter.all false
set_option maxHeartbeats 64000000
set_option maxRecDepth 100000
section
open Go.ChangeShapes Go.WideShapes Go.ChangeAt Go.RowKit

theorem own:ownKnob Tryz.prog.godebug=none:=by kernel_rfl
theorem laidOut:laidOutB Tryz.prog=true:=by kernel_rfl
theorem b3u{n:Nat}{l:List AV}(h:TV Tryz.prog (n+3) 89 l):∃ p:GnC,l=p.cs:=by
 simp only[TV,Ir,Tryz.underlying4,Tryz.underlying3,Tryz.underlying33,Tryz.underlying89,Tryz.underlying9]at h
 obtain ⟨_,_,⟨_,_,⟨a1,rfl,wa1⟩,⟨_,_,⟨a2,rfl,wa2⟩,rfl,rfl⟩,rfl⟩,⟨_,_,⟨_,_,⟨a3,rfl,wa3⟩,⟨_,_,⟨a4,rfl,wa4⟩,rfl,rfl⟩,rfl⟩,⟨_,_,⟨a5,rfl⟩,⟨_,_,⟨a6,rfl,wa6⟩,rfl,rfl⟩,rfl⟩,rfl⟩,rfl⟩:=h
 exact ⟨⟨a1,a2,a3,a4,a5,a6⟩,rfl⟩
theorem Yb:∀ (l:List (List AV)),(∀ c∈l, ∃ p:GnC,c=p.cs)→∃ ps:List GnC,l=ps.map fun p=>p.cs
 | [],_=>⟨[],rfl⟩
 | c::l,h=>by
  obtain ⟨p,rfl⟩:=h c (by simp)
  obtain ⟨ps,rfl⟩:=Yb l (fun d hd=>h d (by simp[hd]))
  exact ⟨p::ps,rfl⟩
theorem b3y{n:Nat}{l:List AV}(h:TV Tryz.prog (n+3) 35 l):∃ p:PktC,l=p.cs:=by
 simp only[TV,Ir,Tryz.underlying3,Tryz.underlying33,Tryz.underlying35,Tryz.underlying9]at h
 obtain ⟨_,_,⟨_,_,⟨a7,rfl,wa7⟩,⟨_,_,⟨a8,rfl,wa8⟩,rfl,rfl⟩,rfl⟩,⟨_,_,⟨_,_,⟨a9,rfl,wa9⟩,⟨_,_,⟨a10,rfl,wa10⟩,rfl,rfl⟩,rfl⟩,⟨_,_,⟨a11,rfl,wa11⟩,⟨_,_,⟨a12,rfl,wa12⟩,⟨_,_,⟨a13,rfl,wa13⟩,⟨_,_,⟨a14,rfl,wa14⟩,rfl,rfl⟩,rfl⟩,rfl⟩,rfl⟩,rfl⟩,rfl⟩:=h
 exact ⟨⟨a7,a8,a9,a10,a11,a12,a13,a14⟩,rfl⟩
theorem Ye:∀ (l:List (List AV)),(∀ c∈l, ∃ p:PktC,c=p.cs)→∃ ps:List PktC,l=ps.map fun p=>p.cs
 | [],_=>⟨[],rfl⟩
 | c::l,h=>by
  obtain ⟨p,rfl⟩:=h c (by simp)
  obtain ⟨ps,rfl⟩:=Ye l (fun d hd=>h d (by simp[hd]))
  exact ⟨p::ps,rfl⟩
theorem a1s{n:Nat}{l:List AV}(h:TV Tryz.prog (n+2) 102 l):∃ p:PrP,l=p.cs:=by
 simp only[TV,Ir,Tryz.underlying102,Tryz.underlying9]at h
 obtain ⟨_,_,⟨a15,rfl,wa15⟩,⟨_,_,⟨a16,rfl,wa16⟩,rfl,rfl⟩,rfl⟩:=h
 exact ⟨⟨a15,a16⟩,rfl⟩
theorem Sy:∀ (l:List (List AV)),(∀ c∈l, ∃ p:PrP,c=p.cs)→∃ ps:List PrP,l=ps.map fun p=>p.cs
 | [],_=>⟨[],rfl⟩
 | c::l,h=>by
  obtain ⟨p,rfl⟩:=h c (by simp)
  obtain ⟨ps,rfl⟩:=Sy l (fun d hd=>h d (by simp[hd]))
  exact ⟨p::ps,rfl⟩
theorem Yd:∀ (l:List (List AV)),(∀ c∈l, ∃ p:Int,c=[AV.int .i64 p])→∃ ps:List Int,l=ps.map fun p=>[AV.int .i64 p]
 | [],_=>⟨[],rfl⟩
 | c::l,h=>by
  obtain ⟨p,rfl⟩:=h c (by simp)
  obtain ⟨ps,rfl⟩:=Yd l (fun d hd=>h d (by simp[hd]))
  exact ⟨p::ps,rfl⟩
theorem b3v{n:Nat}{l:List AV}(h:TV Tryz.prog (n+5) 27 l):∃ p:GvC,l=p.cs:=by
 simp only[TV,Ir,Tryz.underlying22,Tryz.underlying23,Tryz.underlying25,Tryz.underlying24,Tryz.underlying3,Tryz.underlying27]at h
 obtain ⟨_,_,⟨a17,rfl,wa17,ha17⟩,⟨_,_,⟨a18,rfl,wa18,ha18⟩,⟨_,_,⟨a19,rfl,wa19,ha19⟩,⟨_,_,⟨a20,rfl,wa20,ha20⟩,⟨_,_,⟨a21,rfl,wa21,ha21⟩,⟨_,_,⟨a22,rfl,wa22⟩,⟨_,_,⟨a23,rfl,wa23⟩,⟨_,_,⟨a24,rfl,wa24⟩,rfl,rfl⟩,rfl⟩,rfl⟩,rfl⟩,rfl⟩,rfl⟩,rfl⟩,rfl⟩:=h
 obtain ⟨a17x,rfl⟩:=Yb a17 (fun c hc=>b3u (n:=n+0) (ha17 c hc))
 obtain ⟨a18x,rfl⟩:=Ye a18 (fun c hc=>b3y (n:=n+0) (ha18 c hc))
 obtain ⟨a19x,rfl⟩:=Sy a19 (fun c hc=>a1s (n:=n+1) (ha19 c hc))
 obtain ⟨a20x,rfl⟩:=Sy a20 (fun c hc=>a1s (n:=n+1) (ha20 c hc))
 obtain ⟨a21x,rfl⟩:=Yd a21 (fun c hc=>by obtain ⟨s,hs,_⟩:=ha21 c hc;exact ⟨s,hs⟩)
 exact ⟨⟨a17x,a18x,a19x,a20x,a21x,a22,a23,a24⟩,rfl⟩
theorem b3k{n:Nat}{a:AV}(h:TA Tryz.prog (n+5) 27 a):∃ c:GvC,a=.agg c.cs:=by
 simp only[TA,Tryz.underlying27]at h
 obtain ⟨l,rfl,h⟩:=h
 obtain ⟨c,rfl⟩:=b3v h
 exact ⟨c,rfl⟩
theorem b3l{n:Nat}{a:AV}(h:TA Tryz.prog (n+7) 40 a):∃ c:MsgC,a=.agg c.cs:=by
 simp only[TA,Tryz.underlying40]at h
 obtain ⟨l,rfl,h⟩:=h
 obtain ⟨c,rfl⟩:=b3x h
 exact ⟨c,rfl⟩
theorem Rz:∀ (l:List (List AV)),(∀ c∈l, ∃ p:MsgC,c=p.cs)→∃ ps:List MsgC,l=ps.map fun p=>p.cs
 | [],_=>⟨[],rfl⟩
 | c::l,h=>by
  obtain ⟨p,rfl⟩:=h c (by simp)
  obtain ⟨ps,rfl⟩:=Rz l (fun d hd=>h d (by simp[hd]))
  exact ⟨p::ps,rfl⟩
theorem a3q{n:Nat}{a:AV}(h:TA Tryz.prog (n+8) 63 a):∃ ps:List MsgC,a=.sl none (Tryz.prog.cellsOf 40) (ps.map fun p=>p.cs)∧ps.length≤maxLen:=by
 rw[TA,Tryz.underlying63,TV,Tryz.underlying63]at h
 obtain ⟨els,h1,h3,h2⟩:=h
 obtain ⟨ps,rfl⟩:=Rz els (fun c hc=>b3x (h2 c hc))
 exact ⟨ps,by simpa using h1,by simpa using h3⟩
theorem a3r{n:Nat}{a:AV}(h:TA Tryz.prog (n+1) 9 a):∃ k,a=.str k∧k.length≤maxLen:=by
 simp only[TA,TV,Tryz.underlying9]at h
 obtain ⟨k,h1,h2⟩:=h
 exact ⟨k,by simpa using h1,h2⟩

theorem a1A(os:Os)(started:os.Started)(H:Type)(enc:TypeId × Value→H):
  ReturnsInHanded {} Tryz.checked os 4 .any (fun w args=>(Rows.handleClosesSpec.pre enc Tryz.prog Tryz.f4 Rows.handleClosesRow.domain false w args∧laidMetH Tryz.prog Rows.handleClosesRow.laid w)∧sizedMet enc Tryz.prog Tryz.f4 (OpenSpec.ofChange Rows.handleClosesSpec) false w args)
   (Rows.handleClosesSpec.post enc Tryz.prog Tryz.f4 false true false false):=by
 refine a3Z (C:=Tryz.checked) (X:=fun w _=>laidMetH Tryz.prog Rows.handleClosesRow.laid w) (fun _ _ _ hh h=>h.of_heap hh) own started (by kernel_rfl) Tryz.func4
  (ChangeSpec.witness_shaped (enc:=enc) (C:=Tryz.checked) (os:=os) (X:=fun w _=>laidMetH Tryz.prog Rows.handleClosesRow.laid w) false (World.laidAll Tryz.prog os Rows.handleClosesRow.laid) #[.agg #[.slice none 0 0,.slice none 0 0,.slice none 0 0,.slice none 0 0,.slice none 0 0,.int .i64 0,.int .i64 0,.int .i64 0],.agg #[.int .i64 0,.int .i64 0,.int .i64 0,.int .u8 0,.int .u8 0,.int .u8 0,.int .u8 0,.int .u8 0,.int .u8 0,.int .u8 0,.int .u8 0,.int .u8 0,.int .u8 0,.int .u8 0,.int .u8 0,.int .u8 0,.int .u8 0,.int .u8 0,.int .u8 0,.int .u8 0,.int .u8 0,.int .u8 0,.int .u8 0,.int .u8 0,.int .u8 0,.int .u8 0,.int .u8 0,.int .u8 0,.int .u8 0,.int .u8 0,.int .u8 0,.int .u8 0,.int .u8 0,.int .u8 0,.int .u8 0,.string ⟨#[]⟩,.int .i64 0,.string ⟨#[]⟩,.int .i64 0,.int .i64 0,.string ⟨#[]⟩,.int .i64 0,.int .i64 0,.string ⟨#[]⟩,.int .i64 0,.int .i64 0,.int .i64 0,.slice none 0 0,.int .i64 0,.slice none 0 0],.slice none 0 0,.string ⟨#[]⟩] 8 (World.laidAll_os _ _ _)
   (World.shaped_of_ZipB (by kernel_rfl) (by kernel_rfl)) (by kernel_rfl) (by kernel_rfl) (by kernel_rfl)
   (by rw[MakeChecks.laidMetH_plain _ _ _ (by kernel_rfl)];exact laidMet_laidAll _ (by kernel_rfl) (by kernel_rfl))) ?_
 intro W base args ds gs before hval hW _ _ hX hsh _
 refine b0N (n:=8) (tb:=4) laidOut (by kernel_rfl) (by kernel_rfl) Tryz.underlying4 rfl (fun hg hl=>?_) hval hW (a3R hX hsh) (fun l hl=>?_)
 ·subst hg
  have hl':ds.length=4:=hl
  match ds,hl' with
  | [d0,d1,d2,d3],_=>exact ⟨rfl,rfl,rfl⟩
 ·rw[Tryz.params4]at hl
  obtain ⟨_,_,h0,⟨_,_,h1,⟨_,_,h2,⟨_,_,h3,rfl,rfl⟩,rfl⟩,rfl⟩,rfl⟩:=hl
  obtain ⟨x,rfl⟩:=b3k h0
  obtain ⟨M,rfl⟩:=b3l h1
  obtain ⟨th,rfl,wth⟩:=a3q h2
  obtain ⟨data,rfl,wdata⟩:=a3r h3
  exact a1N x M th data
theorem Yf:(Rows.handleClosesRow.inPlace==Tryz.pinned.checked.prog.inPlace 4)=true:=by kernel_rfl
theorem Z7:(Rows.handleClosesRow.unfollowed==Tryz.pinned.checked.prog.unfollowed 4)=true:=by kernel_rfl
theorem a0O:(Rows.handleClosesRow.recurses==Tryz.pinned.checked.prog.recurses 4)=true:=by kernel_rfl
theorem a0X:(Rows.handleClosesRow.named==Tryz.pinned.checked.prog.varsNamed 4)=true:=by kernel_rfl
theorem Xn:joinedFacts Tryz.pinned.checked.prog 4 Tryz.f4 Rows.handleClosesSpec Rows.handleClosesRow=true:=by
 unfold joinedFacts
 rw[Yf,Z7,a0O,a0X,show laidOutB Tryz.pinned.checked.prog=true from laidOut]
 kernel_rfl
theorem a1H:Rows.handleClosesRow.wfByText (OpenSpec.ofChange Rows.handleClosesSpec)=true:=by kernel_rfl
theorem a1f:false=Rows.handleClosesRow.goesBy Tryz.pinned.checked.prog:=by kernel_rfl
theorem a1g:false=Tryz.pinned.checked.prog.looks []:=by kernel_rfl
theorem a1z:Rows.HandleClosesSaid:=
 OpenClaim.holds_of_wide 4 Tryz.f4 rfl rfl rfl rfl rfl rfl rfl ⟨rfl,rfl,rfl,rfl,rfl⟩ rfl rfl rfl rfl rfl (by kernel_rfl) Tryz.func4 Xn
  (of_decide_eq_true (by kernel_rfl)) (by unfold Func.isWrapper;first|(rw[Af (by decide +kernel)];kernel_rfl)|(rw[Ad (by decide +kernel)];exact ⟨rfl,rfl⟩))
  (fun os started H enc _=>a1A os started H enc)
theorem handleCloses_holds:Rows.HandleClosesCardSaid:=
 Claim7.holds_tied_plain_at .later [] [.data,.data,.data,.data] true (true, "20758662e404b704edd95a6ed9e8f38a95ab9e84be1e2309889fcc85fe9fea5e") false a1z (fun _ h=>by cases h) a1H (fun _ h=>by cases h) handleCloses_row_tie rfl ⟨rfl,rfl⟩ (by kernel_rfl) rfl
  (fun f fn hf hfn=>by
   obtain rfl:f=4:=Fp ((show Tryz.prog.funcNamed Tryz.f4.name=some 4 by kernel_rfl).symm.trans hf) |>.symm
   obtain rfl:fn=Tryz.f4:=(Fp (Tryz.func4.symm.trans hfn)).symm
   exact ⟨a1g,fun j t ht=>by
    rw[Tryz.params4]at ht
    have hm:t∈[27,40,63,9]:=by simpa using Array.mem_of_getElem? ht
    have hall:([27,40,63,9].all fun u => !Tryz.prog.wantsStandIn u)=true:=by kernel_rfl
    exact (show Tryz.prog.wantsStandIn t=false by simpa using Ew.1 hall t hm)⟩)
  a1f
end
end Go.Proofs.YtfgihnhoocnmdaaGreatDoor
