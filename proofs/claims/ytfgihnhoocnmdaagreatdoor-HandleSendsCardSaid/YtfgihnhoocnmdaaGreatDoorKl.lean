import Derived.Test.YtfgihnhoocnmdaaGreatDoorK24
import Derived.Test.YtfgihnhoocnmdaaGreatDoorRows
import Derived.Test.YtfgihnhoocnmdaaGreatDoorCards
import Derived.Test.YtfgihnhoocnmdaaGreatDoorTie
import Derived.LaidMore
import Derived.Lay
import Derived.SevenTiedAt
import Derived.Stop.Joined
import Derived.WalkKit
import Derived.ProofKit
import Derived.OpenShut
import Derived.JoinedCond
namespace Go.Proofs.YtfgihnhoocnmdaaGreatDoor
set_option linter.all false
set_option maxHeartbeats 9000000
section
open Go.ChangeShapes Go.WideShapes Go.ChangeAt Go.RowKit
set_option maxRecDepth 100000

theorem own:ownKnob Tryz.prog.godebug=none:=by kernel_rfl
theorem laidOut:laidOutB Tryz.prog=true:=by kernel_rfl
theorem tv_gn{n:Nat}{l:List AV}(h:TV Tryz.prog (n+3) 89 l):∃ p:GnC,l=p.cs:=by
 simp only[TV,TVF,Tryz.underlying4,Tryz.underlying3,Tryz.underlying33,Tryz.underlying89,Tryz.underlying9]at h
 obtain ⟨_,_,⟨_,_,⟨a1,rfl,wa1⟩,⟨_,_,⟨a2,rfl,wa2⟩,rfl,rfl⟩,rfl⟩,⟨_,_,⟨_,_,⟨a3,rfl,wa3⟩,⟨_,_,⟨a4,rfl,wa4⟩,rfl,rfl⟩,rfl⟩,⟨_,_,⟨a5,rfl⟩,⟨_,_,⟨a6,rfl,wa6⟩,rfl,rfl⟩,rfl⟩,rfl⟩,rfl⟩:=h
 exact ⟨⟨a1,a2,a3,a4,a5,a6⟩,rfl⟩
theorem c1F:∀ (l:List (List AV)),(∀ c∈l, ∃ p:GnC,c=p.cs)→∃ ps:List GnC,l=ps.map fun p=>p.cs
 | [],_=>⟨[],rfl⟩
 | c::l,h=>by
  obtain ⟨p,rfl⟩:=h c (by simp)
  obtain ⟨ps,rfl⟩:=c1F l (fun d hd=>h d (by simp[hd]))
  exact ⟨p::ps,rfl⟩
theorem tv_pkt{n:Nat}{l:List AV}(h:TV Tryz.prog (n+3) 35 l):∃ p:PktC,l=p.cs:=by
 simp only[TV,TVF,Tryz.underlying3,Tryz.underlying33,Tryz.underlying35,Tryz.underlying9]at h
 obtain ⟨_,_,⟨_,_,⟨a7,rfl,wa7⟩,⟨_,_,⟨a8,rfl,wa8⟩,rfl,rfl⟩,rfl⟩,⟨_,_,⟨_,_,⟨a9,rfl,wa9⟩,⟨_,_,⟨a10,rfl,wa10⟩,rfl,rfl⟩,rfl⟩,⟨_,_,⟨a11,rfl,wa11⟩,⟨_,_,⟨a12,rfl,wa12⟩,⟨_,_,⟨a13,rfl,wa13⟩,⟨_,_,⟨a14,rfl,wa14⟩,rfl,rfl⟩,rfl⟩,rfl⟩,rfl⟩,rfl⟩,rfl⟩:=h
 exact ⟨⟨a7,a8,a9,a10,a11,a12,a13,a14⟩,rfl⟩
theorem b9f:∀ (l:List (List AV)),(∀ c∈l, ∃ p:PktC,c=p.cs)→∃ ps:List PktC,l=ps.map fun p=>p.cs
 | [],_=>⟨[],rfl⟩
 | c::l,h=>by
  obtain ⟨p,rfl⟩:=h c (by simp)
  obtain ⟨ps,rfl⟩:=b9f l (fun d hd=>h d (by simp[hd]))
  exact ⟨p::ps,rfl⟩
theorem tv_prp{n:Nat}{l:List AV}(h:TV Tryz.prog (n+2) 102 l):∃ p:PrP,l=p.cs:=by
 simp only[TV,TVF,Tryz.underlying102,Tryz.underlying9]at h
 obtain ⟨_,_,⟨a15,rfl,wa15⟩,⟨_,_,⟨a16,rfl,wa16⟩,rfl,rfl⟩,rfl⟩:=h
 exact ⟨⟨a15,a16⟩,rfl⟩
theorem b4I:∀ (l:List (List AV)),(∀ c∈l, ∃ p:PrP,c=p.cs)→∃ ps:List PrP,l=ps.map fun p=>p.cs
 | [],_=>⟨[],rfl⟩
 | c::l,h=>by
  obtain ⟨p,rfl⟩:=h c (by simp)
  obtain ⟨ps,rfl⟩:=b4I l (fun d hd=>h d (by simp[hd]))
  exact ⟨p::ps,rfl⟩
theorem b9e:∀ (l:List (List AV)),(∀ c∈l, ∃ p:Int,c=[AV.int .i64 p])→∃ ps:List Int,l=ps.map fun p=>[AV.int .i64 p]
 | [],_=>⟨[],rfl⟩
 | c::l,h=>by
  obtain ⟨p,rfl⟩:=h c (by simp)
  obtain ⟨ps,rfl⟩:=b9e l (fun d hd=>h d (by simp[hd]))
  exact ⟨p::ps,rfl⟩
theorem tv_gv{n:Nat}{l:List AV}(h:TV Tryz.prog (n+5) 27 l):∃ p:GvC,l=p.cs:=by
 simp only[TV,TVF,Tryz.underlying22,Tryz.underlying23,Tryz.underlying25,Tryz.underlying24,Tryz.underlying3,Tryz.underlying27]at h
 obtain ⟨_,_,⟨a17,rfl,wa17,ha17⟩,⟨_,_,⟨a18,rfl,wa18,ha18⟩,⟨_,_,⟨a19,rfl,wa19,ha19⟩,⟨_,_,⟨a20,rfl,wa20,ha20⟩,⟨_,_,⟨a21,rfl,wa21,ha21⟩,⟨_,_,⟨a22,rfl,wa22⟩,⟨_,_,⟨a23,rfl,wa23⟩,⟨_,_,⟨a24,rfl,wa24⟩,rfl,rfl⟩,rfl⟩,rfl⟩,rfl⟩,rfl⟩,rfl⟩,rfl⟩,rfl⟩:=h
 obtain ⟨a17x,rfl⟩:=c1F a17 (fun c hc=>tv_gn (n:=n+0) (ha17 c hc))
 obtain ⟨a18x,rfl⟩:=b9f a18 (fun c hc=>tv_pkt (n:=n+0) (ha18 c hc))
 obtain ⟨a19x,rfl⟩:=b4I a19 (fun c hc=>tv_prp (n:=n+1) (ha19 c hc))
 obtain ⟨a20x,rfl⟩:=b4I a20 (fun c hc=>tv_prp (n:=n+1) (ha20 c hc))
 obtain ⟨a21x,rfl⟩:=b9e a21 (fun c hc=>by obtain ⟨s,hs,_⟩:=ha21 c hc;exact ⟨s,hs⟩)
 exact ⟨⟨a17x,a18x,a19x,a20x,a21x,a22,a23,a24⟩,rfl⟩
theorem ta_gv{n:Nat}{a:AV}(h:TA Tryz.prog (n+5) 27 a):∃ c:GvC,a=.agg c.cs:=by
 simp only[TA,Tryz.underlying27]at h
 obtain ⟨l,rfl,h⟩:=h
 obtain ⟨c,rfl⟩:=tv_gv h
 exact ⟨c,rfl⟩
theorem tv_edc{n:Nat}{l:List AV}(h:TV Tryz.prog (n+2) 33 l):∃ p:EdC,l=p.cs:=by
 simp only[TV,TVF,Tryz.underlying3,Tryz.underlying33,Tryz.underlying9]at h
 obtain ⟨_,_,⟨a25,rfl,wa25⟩,⟨_,_,⟨a26,rfl,wa26⟩,rfl,rfl⟩,rfl⟩:=h
 exact ⟨⟨a25,a26⟩,rfl⟩
theorem b9d:∀ (l:List (List AV)),(∀ c∈l, ∃ p:EdC,c=p.cs)→∃ ps:List EdC,l=ps.map fun p=>p.cs
 | [],_=>⟨[],rfl⟩
 | c::l,h=>by
  obtain ⟨p,rfl⟩:=h c (by simp)
  obtain ⟨ps,rfl⟩:=b9d l (fun d hd=>h d (by simp[hd]))
  exact ⟨p::ps,rfl⟩
theorem ta_edl{n:Nat}{a:AV}(h:TA Tryz.prog (n+3) 74 a):∃ ps:List EdC,a=.sl none (Tryz.prog.cellsOf 33) (ps.map fun p=>p.cs)∧ps.length≤maxLen:=by
 rw[TA,Tryz.underlying74,TV,Tryz.underlying74]at h
 obtain ⟨els,h1,h3,h2⟩:=h
 obtain ⟨ps,rfl⟩:=b9d els (fun c hc=>tv_edc (h2 c hc))
 exact ⟨ps,by simpa using h1,by simpa using h3⟩
theorem ta_str{n:Nat}{a:AV}(h:TA Tryz.prog (n+1) 9 a):∃ k,a=.str k∧k.length≤maxLen:=by
 simp only[TA,TV,Tryz.underlying9]at h
 obtain ⟨k,h1,h2⟩:=h
 exact ⟨k,by simpa using h1,h2⟩
theorem ta_int{n:Nat}{a:AV}(h:TA Tryz.prog (n+1) 3 a):∃ k,a=.int .i64 k:=by
 simp only[TA,TV,Tryz.underlying3]at h
 obtain ⟨k,h1,_⟩:=h
 exact ⟨k,by simpa using h1⟩

theorem a6V(os:Os)(started:os.Started)(H:Type)(enc:TypeId × Value→H):
  ReturnsInHanded {} Tryz.checked os 5 .any (fun w args=>(Rows.handleSendsSpec.pre enc Tryz.prog Tryz.f5 Rows.handleSendsRow.domain false w args∧laidMetH Tryz.prog Rows.handleSendsRow.laid w)∧sizedMet enc Tryz.prog Tryz.f5 (OpenSpec.ofChange Rows.handleSendsSpec) false w args)
   (Rows.handleSendsSpec.post enc Tryz.prog Tryz.f5 false true false false):=by
 refine hand_and_shaped (C:=Tryz.checked) (X:=fun w _=>laidMetH Tryz.prog Rows.handleSendsRow.laid w) (fun _ _ _ hh h=>h.of_heap hh) own started (by kernel_rfl) Tryz.func5
  (ChangeSpec.witness_shaped (enc:=enc) (C:=Tryz.checked) (os:=os) (X:=fun w _=>laidMetH Tryz.prog Rows.handleSendsRow.laid w) false (World.laidAll Tryz.prog os Rows.handleSendsRow.laid) #[.agg #[.slice none 0 0,.slice none 0 0,.slice none 0 0,.slice none 0 0,.slice none 0 0,.int .i64 0,.int .i64 0,.int .i64 0],.slice none 0 0,.string ⟨#[]⟩,.int .i64 0,.int .i64 0] 8 (World.laidAll_os _ _ _)
   (World.shaped_of_ZipB (by kernel_rfl) (by kernel_rfl)) (by kernel_rfl) (by kernel_rfl) (by kernel_rfl)
   (by rw[MakeChecks.laidMetH_plain _ _ _ (by kernel_rfl)];exact laidMet_laidAll _ (by kernel_rfl) (by kernel_rfl))) ?_
 intro W base args ds gs before hval hW _ _ hX hsh _
 refine row_of_CP (n:=6) (tb:=4) laidOut (by kernel_rfl) (by kernel_rfl) Tryz.underlying4 rfl (fun hg hl=>?_) hval hW (glob_of hX hsh) (fun l hl=>?_)
 ·subst hg
  have hl':ds.length=5:=hl
  match ds,hl' with
  | [d0,d1,d2,d3,d4],_=>exact ⟨rfl,rfl,rfl⟩
 ·rw[Tryz.params5]at hl
  obtain ⟨_,_,h0,⟨_,_,h1,⟨_,_,h2,⟨_,_,h3,⟨_,_,h4,rfl,rfl⟩,rfl⟩,rfl⟩,rfl⟩,rfl⟩:=hl
  obtain ⟨x,rfl⟩:=ta_gv h0
  obtain ⟨e,rfl,we⟩:=ta_edl h1
  obtain ⟨data,rfl,wdata⟩:=ta_str h2
  obtain ⟨th,rfl⟩:=ta_int h3
  obtain ⟨ta,rfl⟩:=ta_int h4
  exact b0C b4Y x e data th ta
theorem a8F:(Rows.handleSendsRow.inPlace==Tryz.pinned.checked.prog.inPlace 5)=true:=by kernel_rfl
theorem a8G:(Rows.handleSendsRow.unfollowed==Tryz.pinned.checked.prog.unfollowed 5)=true:=by kernel_rfl
theorem a8H:(Rows.handleSendsRow.recurses==Tryz.pinned.checked.prog.recurses 5)=true:=by kernel_rfl
theorem a8J:(Rows.handleSendsRow.named==Tryz.pinned.checked.prog.varsNamed 5)=true:=by kernel_rfl
theorem a5p:joinedFacts Tryz.pinned.checked.prog 5 Tryz.f5 Rows.handleSendsSpec Rows.handleSendsRow=true:=by
 unfold joinedFacts
 rw[a8F,a8G,a8H,a8J,show laidOutB Tryz.pinned.checked.prog=true from laidOut]
 kernel_rfl
theorem a6W:Rows.handleSendsRow.wfByText (OpenSpec.ofChange Rows.handleSendsSpec)=true:=by kernel_rfl
theorem a6S:false=Rows.handleSendsRow.goesBy Tryz.pinned.checked.prog:=by kernel_rfl
theorem a6d:false=Tryz.pinned.checked.prog.looks []:=by kernel_rfl
theorem a7O:Rows.HandleSendsSaid:=
 OpenClaim.holds_of_wide 5 Tryz.f5 rfl rfl rfl rfl rfl rfl rfl ⟨rfl,rfl,rfl,rfl,rfl⟩ rfl rfl rfl rfl rfl (by kernel_rfl) Tryz.func5 a5p
  (of_decide_eq_true (by kernel_rfl)) (by unfold Func.isWrapper;first|(rw[if_pos (by decide +kernel)];kernel_rfl)|(rw[if_neg (by decide +kernel)];exact ⟨rfl,rfl⟩))
  (fun os started H enc _=>a6V os started H enc)
theorem handleSends_holds:Rows.HandleSendsCardSaid:=
 Claim7.holds_tied_plain_at .later [] [.data,.data,.data,.data] true (true, "20758662e404b704edd95a6ed9e8f38a95ab9e84be1e2309889fcc85fe9fea5e") false a7O (fun _ h=>by cases h) a6W (fun _ h=>by cases h) handleSends_row_tie rfl ⟨rfl,rfl⟩ (by kernel_rfl) rfl
  (fun f fn hf hfn=>by
   obtain rfl:f=5:=Option.some.inj ((show Tryz.prog.funcNamed Tryz.f5.name=some 5 by kernel_rfl).symm.trans hf) |>.symm
   obtain rfl:fn=Tryz.f5:=(Option.some.inj (Tryz.func5.symm.trans hfn)).symm
   exact ⟨a6d,fun j t ht=>by
    rw[Tryz.params5]at ht
    have hm:t∈[27,74,9,3,3]:=by simpa using Array.mem_of_getElem? ht
    have hall:([27,74,9,3,3].all fun u => !Tryz.prog.wantsStandIn u)=true:=by kernel_rfl
    exact (show Tryz.prog.wantsStandIn t=false by simpa using List.all_eq_true.1 hall t hm)⟩)
  a6S
end
end Go.Proofs.YtfgihnhoocnmdaaGreatDoor
