import Derived.Test.YtfgihnhoocnmdaaGreatDoorJ20
namespace Go.Proofs.YtfgihnhoocnmdaaGreatDoor
set_option linter.all false
set_option maxHeartbeats 64000000
set_option maxRecDepth 100000
section
open Go.RowKit
theorem a3X{a b:Hs}:hI a=hI b↔a=b:=by
 constructor
 ·intro h
  have:∀ {a b:Hs},hI a=hI b→a=b:=by
   intro a
   induction a with
   | nil=>intro b h;cases b with
    | nil=>rfl
    | cons=>simp[hI]at h
   | cons x a ih=>
    intro b h
    cases b with
    | nil=>simp[hI]at h
    | cons y b=>
     simp only[hI,CX,List.cons.injEq]at h
     rw[ih h.2,UInt8.toNat_inj.1 (by omega:x.toNat=y.toNat)]
  exact this h
 ·rintro rfl;rfl
abbrev Om:List Kd:=[.i,.i,.i,.i,.i,.i,.i,.i,.i,.i,.i,.i,.i,.i,.i,.i,.i,.i,.i,.i,.i,.i,.i,.i,.i,.i,.i,.i,.i,.i,.i,.i]
theorem Xd(a:Hs)(r:List Int)(ha:a.length=32)(hr:r.length=32):Bb Om (Ae a) (r.map (AV.int .u8 ·))=some (decide (hI a=r)):=by
 have:=O0 (hI a) r (by rw[O9,ha,hr])
 rw[O9,ha]at this
 rw[← this,hI,EX];rfl
theorem a3u(a b:Hs)(ha:a.length=32)(hb:b.length=32):Bb Om (Ae a) (Ae b)=some (decide (a=b)):=by
 have e:Ae b=(hI b).map (AV.int .u8 ·):=by rw[hI,EX];rfl
 rw[e,Xd a (hI b) ha (by rw[O9,hb])]
 congr 1
 exact decide_eq_decide.2 a3X
def BZ(o:Option Nat)(x:LfC):List AV:=[.str x.k,.str x.v,.int .i64 x.i,.sl o 32 (AL x.p)]
def BW(o:Option Nat)(l:List LfC):List (List AV):=l.map (BZ o)
theorem Fc(o:Option Nat)(l:List LfC):(BW o l).length=l.length:=by simp[BW]
theorem Fv(o:Option Nat)(l:List LfC)(i:Nat)(h:i<l.length):(BW o l).getD i []=BZ o (l.getD i default):=by simp[BW,h]
theorem Nu(l:List LfC):Fe l=BW none l:=rfl
instance:DecidableEq LfC:=fun a b=>decidable_of_iff (a.k=b.k∧a.v=b.v∧a.i=b.i∧a.p=b.p) ⟨fun ⟨h1,h2,h3,h4⟩=>LfC.ext4 h1 h2 h3 h4,fun h=>by subst h;exact ⟨rfl,rfl,rfl,rfl⟩⟩
theorem a4T(a b:LfC):(decide (a.k=b.k)&&(decide (a.v=b.v)&&(decide (a.i=b.i)&&decide (a.p=b.p))))=decide (a=b):=by
 rw[FE]
 simp only[AP,Bs]
 exact ⟨fun ⟨h1,h2,h3,h4⟩=>LfC.ext4 h1 h2 h3 h4,fun h=>by subst h;exact ⟨rfl,rfl,rfl,rfl⟩⟩
theorem XO(a:List Hs)(i:Nat)(h:i<a.length):(AL a).getD i []=Ae (a.getD i []):=by simp[List.getD,h]
theorem XF{a:List Hs}(h:∀ x∈a,x.length=32){i:Nat}(hi:i<a.length):(a.getD i []).length=32:=h _ (by rw[List.getD,Aw hi];exact Di _)
theorem Cy{A B:Prop}(h:B)(e:A=B:=by (simp (disch:=omega) only[*, ↓Ed,Eu, ↓reduceIte,reduceCtorEq,Nat.reduceAdd,Nat.reduceEqDiff,Nat.reduceLT,Nat.reduceLeDiff,Int.reduceToNat,Int.reduceEq,Int.reduceLT,Int.reduceLE,Ap,Ao,Ax,AJ,AY,Int.reduceAdd,AH,AN,Cm,Fc,Fv,Ca,BZ];first|done|rfl)):A:=e▸h
theorem a9u(a b:List Hs)(ha:∀ x∈a,x.length=32)(hb':∀ x∈b,x.length=32)(hl:a.length≤1000)(hl2:b.length≤1000):CP Tryz.prog 221 [.sl none 32 (AL a),.sl none 32 (AL b)] (.bool (decide (a=b))):=by
 refine a7w _ _ (by simp) ?_
 by_cases hn:a.length=b.length
 rotate_left
 ·have f1:Ac (decide ((a.length:Int)=b.length)=false):=fo
  rw[A0 (fun e=>hn (by rw[e]))]
  clear hn ha hb'
  have l1:=Cm a
  have l2:=Cm b
  generalize AL a=A at *
  generalize AL b=B at *
  simp only[Ry];refine Cy ?_
  repeat' ((first|exact tt|refine na fun b=>?_|refine nb fun b hb=>?_|refine iq ?_|(refine jq ?_ ?_<;>intro h h')|exact wZ|refine Aa ?_ ?_)<;>try refine Cy ?_)
 have f1:Ac (decide ((a.length:Int)=b.length)=true):=fo
 have l1:=Cm a
 have l2:=Cm b
 have hga:=XO a
 have hgb:=XO b
 have h3a:=fun i h=>XF (i:=i) ha h
 have h3b:=fun i h=>XF (i:=i) hb' h
 clear ha hb'
 generalize AL a=A at *
 generalize AL b=B at *
 simp only[Ry];refine Cy ?_
 repeat' ((first|exact tt|refine na fun b=>?_|refine nb fun b hb=>?_|refine iq ?_|(refine jq ?_ ?_<;>intro h h')|exact wZ|refine Aa ?_ ?_)<;>try refine Cy ?_)
 refine A2 (fun k:Nat=>⟨lk [(0,.sl none 32 A),(1,.sl none 32 B),(12,.int .i64 (a.length:Int)),(13,.int .i64 (k:Int))],lk []⟩) (fun k=>k≤a.length∧Ac (a.take k=b.take k)) (fun k=>a.length - k) 0 ⟨by omega,rfl⟩ (An qd) ?_
 rintro k ⟨g1,g2⟩
 by_cases hk:k<a.length
 ·have f5:Ac (decide ((k:Int)<a.length)=true):=fo
  have e1:a[k]?=some (a.getD k []):=by simp[List.getD,hk]
  have e2:b[k]?=some (b.getD k []):=by simp[List.getD,show k<b.length by omega]
  have q1:=hga k hk
  have q2:=hgb k (by omega)
  have hE:=a3u _ _ (h3a k hk) (h3b k (by omega))
  obtain ⟨z1,z2,z3,z4⟩:=BN (h3a k hk)
  obtain ⟨y1,y2,y3,y4⟩:=BN (h3b k (by omega))
  have hN:decide (a.getD k []=b.getD k [])=true→Ac (a.take (k+1)=b.take (k+1)):=fun h=>by
   show _=_
   rw[List.take_add_one,List.take_add_one,e1,e2,show a.take k=b.take k from g2,of_decide_eq_true h]
  have hF:decide (a.getD k []=b.getD k [])=false→decide (a=b)=false:=fun h=>A0 (fun e=>of_decide_eq_false h (by rw[e]))
  clear g2 e1 e2 hga hgb h3a h3b
  generalize decide (a.getD k []=b.getD k [])=D at *
  generalize Ae (a.getD k [])=X at *
  generalize Ae (b.getD k [])=Y at *
  cases D with
  | true=>
   have hN:=hN rfl
   clear hF
   refine Cy ?_
   repeat' ((first|exact tt|refine na fun b=>?_|refine nb fun b hb=>?_|refine iq ?_|(refine jq ?_ ?_<;>intro h h')|exact wZ|refine Aa ?_ ?_)<;>try refine Cy ?_)
   all_goals exact AC (k+1) ⟨An BA,⟨by omega,hN⟩,by omega⟩
  | false=>
   have hF:=hF rfl
   rw[hF]
   clear hN hF
   refine Cy ?_
   repeat' ((first|exact tt|refine na fun b=>?_|refine nb fun b hb=>?_|refine iq ?_|(refine jq ?_ ?_<;>intro h h')|exact wZ|refine Aa ?_ ?_)<;>try refine Cy ?_)
 ·have f5:Ac (decide ((k:Int)<a.length)=false):=fo
  have:a=b:=by
   have:=show a.take k=b.take k from g2
   rwa [B0 (by omega),B0 (by omega)]at this
  rw[AO this]
  clear g2 this hga hgb h3a h3b
  refine Cy ?_
  repeat' ((first|exact tt|refine na fun b=>?_|refine nb fun b hb=>?_|refine iq ?_|(refine jq ?_ ?_<;>intro h h')|exact wZ|refine Aa ?_ ?_)<;>try refine Cy ?_)
def Bw(p:PfC):Prop:=p.l.length≤1000∧∀ i,i<p.l.length→(p.l.getD i default).k.length≤100000∧(p.l.getD i default).v.length≤100000∧(p.l.getD i default).p.length≤1000
theorem Zo(o1 o2:Option Nat)(a b:LfC)(ha:a.p.length≤1000)(hb':b.p.length≤1000):CP Tryz.prog 198 [.agg (BZ o1 a),.agg (BZ o2 b)] (.bool (decide (a=b))):=by
 have hE:=a9u a.p b.p a.h b.h ha hb'
 rw[← a4T a b]
 refine a7l _ _ (by simp) ?_
 unfold BZ
 generalize decide (a.p=b.p)=D at *
 generalize AL a.p=X at *
 generalize AL b.p=Y at *
 cases h1:decide (a.k=b.k)
 ·simp only[Nc];refine Cy ?_
  repeat' ((first|exact tt|refine na fun b=>?_|refine nb fun b hb=>?_|refine iq ?_|(refine jq ?_ ?_<;>intro h h')|exact wZ|refine Aa ?_ ?_)<;>try refine Cy ?_)
  all_goals rfl
 cases h2:decide (a.v=b.v)
 ·simp only[Nc];refine Cy ?_
  repeat' ((first|exact tt|refine na fun b=>?_|refine nb fun b hb=>?_|refine iq ?_|(refine jq ?_ ?_<;>intro h h')|exact wZ|refine Aa ?_ ?_)<;>try refine Cy ?_)
  all_goals rfl
 cases h3:decide (a.i=b.i)
 ·simp only[Nc];refine Cy ?_
  repeat' ((first|exact tt|refine na fun b=>?_|refine nb fun b hb=>?_|refine iq ?_|(refine jq ?_ ?_<;>intro h h')|exact wZ|refine Aa ?_ ?_)<;>try refine Cy ?_)
  all_goals rfl
 simp only[Nc];refine Cy ?_
 repeat' ((first|exact tt|refine Ab hE ?_|refine Ag hE ?_|refine na fun b=>?_|refine nb fun b hb=>?_|refine iq ?_|(refine jq ?_ ?_<;>intro h h')|exact wZ|refine Aa ?_ ?_)<;>try refine Cy ?_)
 all_goals simp
theorem a9o(o1 o2:Option Nat)(a b:List LfC)(ha:∀ i,i<a.length→(a.getD i default).p.length≤1000)(hb':∀ i,i<b.length→(b.getD i default).p.length≤1000)(hl:a.length≤1000)(hl2:b.length≤1000):
  CP Tryz.prog 197 [.sl none 4 (BW o1 a),.sl none 4 (BW o2 b),.fn 198] (.bool (decide (a=b))):=by
 have hbd:K9 Tryz.prog 198=true:=by kernel_rfl
 refine YT _ _ (by simp) ?_
 by_cases hn:a.length=b.length
 rotate_left
 ·have f1:Ac (decide ((a.length:Int)=b.length)=false):=fo
  rw[A0 (fun e=>hn (by rw[e]))]
  clear hn ha hb'
  simp only[OK];refine Cy ?_
  repeat' ((first|exact tt|refine na fun b=>?_|refine nb fun b hb=>?_|refine iq ?_|(refine jq ?_ ?_<;>intro h h')|exact wZ|refine Aa ?_ ?_)<;>try refine Cy ?_)
 have f1:Ac (decide ((a.length:Int)=b.length)=true):=fo
 simp only[OK];refine Cy ?_
 repeat' ((first|exact tt|refine na fun b=>?_|refine nb fun b hb=>?_|refine iq ?_|(refine jq ?_ ?_<;>intro h h')|exact wZ|refine Aa ?_ ?_)<;>try refine Cy ?_)
 refine A2 (fun k:Nat=>⟨lk [(0,.sl none 4 (BW o1 a)),(1,.sl none 4 (BW o2 b)),(2,.fn 198),(15,.sl none 4 (BW o1 a)),(16,.int .i64 (a.length:Int)),(17,.int .i64 (k:Int))],lk []⟩) (fun k=>k≤a.length∧Ac (a.take k=b.take k)) (fun k=>a.length - k) 0 ⟨by omega,rfl⟩ (An qd) ?_
 rintro k ⟨g1,g2⟩
 by_cases hk:k<a.length
 ·have f5:Ac (decide ((k:Int)<a.length)=true):=fo
  have e1:a[k]?=some (a.getD k default):=by simp[List.getD,hk]
  have e2:b[k]?=some (b.getD k default):=by simp[List.getD,show k<b.length by omega]
  have hA:=Zo o1 o2 (a.getD k default) (b.getD k default) (ha k hk) (hb' k (by omega))
  have hA':=Zo none none (a.getD k default) (b.getD k default) (ha k hk) (hb' k (by omega))
  have hN:decide (a.getD k default=b.getD k default)=true→Ac (a.take (k+1)=b.take (k+1)):=fun h=>by
   show _=_
   rw[List.take_add_one,List.take_add_one,e1,e2,show a.take k=b.take k from g2,of_decide_eq_true h]
  have hF:decide (a.getD k default=b.getD k default)=false→decide (a=b)=false:=fun h=>A0 (fun e=>of_decide_eq_false h (by rw[e]))
  clear g2 e1 e2 ha hb'
  generalize decide (a.getD k default=b.getD k default)=D at *
  obtain ⟨⟨x1,x2,x3,x4,x5⟩,hx⟩:∃ x,a.getD k default=x:=⟨_,rfl⟩
  obtain ⟨⟨y1,y2,y3,y4,y5⟩,hy⟩:∃ x,b.getD k default=x:=⟨_,rfl⟩
  rw[hx,hy]at hA hA'
  simp only[BZ]at hA hA'
  cases D with
  | true=>
   have hN:=hN rfl
   clear hF
   simp (disch:=omega) only[hx,hy,BZ, ↓Ed,Eu, ↓reduceIte,reduceCtorEq,Nat.reduceAdd,Nat.reduceEqDiff,Nat.reduceLT,Nat.reduceLeDiff,Int.reduceToNat,Int.reduceEq,Int.reduceLT,Int.reduceLE,Ap,Ao,Ax,AJ,AY,Int.reduceAdd,AH,AN,Cm,Fc,Fv,Ca,BZ]
   repeat' ((first|exact tt|refine And.intro hbd ?_|refine Ab hA ?_|refine Ab hA' ?_|refine na fun b=>?_|refine nb fun b hb=>?_|refine iq ?_|(refine jq ?_ ?_<;>intro h h')|exact wZ|refine Aa ?_ ?_)<;>try refine Cy ?_)
   all_goals exact AC (k+1) ⟨An BA,⟨by omega,hN⟩,by omega⟩
  | false=>
   have hF:=hF rfl
   rw[hF]
   clear hN hF
   simp (disch:=omega) only[hx,hy,BZ, ↓Ed,Eu, ↓reduceIte,reduceCtorEq,Nat.reduceAdd,Nat.reduceEqDiff,Nat.reduceLT,Nat.reduceLeDiff,Int.reduceToNat,Int.reduceEq,Int.reduceLT,Int.reduceLE,Ap,Ao,Ax,AJ,AY,Int.reduceAdd,AH,AN,Cm,Fc,Fv,Ca,BZ]
   repeat' ((first|exact tt|refine And.intro hbd ?_|refine Ab hA ?_|refine Ab hA' ?_|refine na fun b=>?_|refine nb fun b hb=>?_|refine iq ?_|(refine jq ?_ ?_<;>intro h h')|exact wZ|refine Aa ?_ ?_)<;>try refine Cy ?_)
 ·have f5:Ac (decide ((k:Int)<a.length)=false):=fo
  have:a=b:=by
   have:=show a.take k=b.take k from g2
   rwa [B0 (by omega),B0 (by omega)]at this
  rw[AO this]
  clear g2 this ha hb'
  refine Cy ?_
  repeat' ((first|exact tt|refine na fun b=>?_|refine nb fun b hb=>?_|refine iq ?_|(refine jq ?_ ?_<;>intro h h')|exact wZ|refine Aa ?_ ?_)<;>try refine Cy ?_)
theorem Zq(o1 o2:Option Nat)(p q:PfC)(hp:Bw p)(hq:Bw q):CP Tryz.prog 157 [.agg [.int .i64 p.c,.sl none 4 (BW o1 p.l)],.agg [.int .i64 q.c,.sl none 4 (BW o2 q.l)]] (.bool (decide (p.c=q.c∧p.l=q.l))):=by
 have hE:=a9o o1 o2 p.l q.l (fun i hi=>(hp.2 i hi).2.2) (fun i hi=>(hq.2 i hi).2.2) hp.1 hq.1
 have e:decide (p.c=q.c∧p.l=q.l)=(decide (p.c=q.c)&&decide (p.l=q.l)):=by simp
 rw[e]
 refine S5 _ _ (by simp) ?_
 clear e hp hq
 generalize decide (p.l=q.l)=D at *
 cases h1:decide (p.c=q.c)
 ·simp only[Nb];refine Cy ?_
  repeat' ((first|exact tt|refine na fun b=>?_|refine nb fun b hb=>?_|refine iq ?_|(refine jq ?_ ?_<;>intro h h')|exact wZ|refine Aa ?_ ?_)<;>try refine Cy ?_)
  all_goals rfl
 simp only[Nb];refine Cy ?_
 repeat' ((first|exact tt|refine Ab hE ?_|refine Ag hE ?_|refine na fun b=>?_|refine nb fun b hb=>?_|refine iq ?_|(refine jq ?_ ?_<;>intro h h')|exact wZ|refine Aa ?_ ?_)<;>try refine Cy ?_)
 all_goals simp
end
section
open Go.Shelf Go.RowKit Go.Lib
abbrev zLf:Value:=.agg #[.string ⟨#[]⟩,.string ⟨#[]⟩,.int .i64 0,.slice none 0 0]
theorem lfRow:RowT (BZ none) 4 where
 len:=fun _=>rfl
 no:=fun x c h=>by
  simp only[BZ,AZ,B8,Cb]at h
  rcases h with rfl|rfl|rfl|rfl<;>exact ⟨fun _ _ _ e=>(by cases e),fun _ e=>(by cases e)⟩
def CF(cap:Nat)(l:List LfC):List AV:=hc 4 cap (l.map (BZ none))
theorem a2O(b off n c:Nat)(cs:List Value)(w:World)(hn:0<n)(hbig:n≤1000000)(hcl:cs.length=n * 4)(Ae:∀ j v,cs[j]?=some v→w.cell? ⟨b,off+j,none⟩=some v):
  Calls Tryz.prog 199 #[.slice (some ⟨b,off,none⟩) n c] w fun e w'=>
   e=.returned (.slice (some ⟨w.heap.size+1,0,none⟩) n (grownCap (w.alloc (.cells #[] 145)) n 0 145))∧
   w'=(w.alloc (.cells #[] 145)).drew.alloc (.cells (cs.toArray++Builtin.zeroCells zLf.cells (grownCap (w.alloc (.cells #[] 145)) n 0 145 - n)) 145):=by
 obtain ⟨i0,hi0,hz0,hzs,hzb⟩:=info_parts (P:=Tryz.prog) (e:=145) (z:=zLf) (size:=4) (bytes:=64) (by kernel_rfl)
 have u:=Tryz.underlying36
 have q22:∀ (w:World) (a:Option Addr) (n c n' c':Nat),(binOp .eql 36 (.slice a n c) (.slice none n' c')).run Tryz.prog w=.ok (.bool a.isNone) w:=fun w a n c n' c'=>Lib.run_eql_slice_nil w _ _ a n c n' c' u
 have hrun:∀ ty,(Builtin.append_ #[36,36] ty #[.slice (some ⟨w.heap.size,0,none⟩) 0 0,.slice (some ⟨b,off,none⟩) n c]).run Tryz.prog (w.alloc (.cells #[] 145))=_:=fun ty=>
  run_append_grow (w:=w.alloc (.cells #[] 145)) 36 ty 145 i0 _ u hi0 hz0 ⟨w.heap.size,0,none⟩ 0 0 [] (by simp) (fun j v h=>by simp at h) ⟨b,off,none⟩ n c cs (by rw[hzs];exact hcl) (fun j v h=>by
   rw[Addr.add_lit];exact Lib.cell?_alloc_some _ (Ae j v h)) (by omega) (by omega) (by rw[hzb];exact growslice_fits (by omega) (by omega))
 have hA:Hid (∀ ty,(Builtin.append_ #[36,36] ty #[.slice (some ⟨w.heap.size,0,none⟩) 0 0,.slice (some ⟨b,off,none⟩) n c]).run Tryz.prog (w.alloc (.cells #[] 145))=_):=hrun
 clear hrun Ae
 go_enter Tryz.func199,Tryz.ntmps199
 go_wp2_with (at_builtin;refine Lib.wpList_append_run _ rfl _ _ _ _ rfl _ _ rfl rfl _ _ (hA.out _) ?_)
 go_ret
 exact ⟨rfl,rfl⟩
theorem b2P(l:List LfC)(hn:0<l.length)(hb:l.length≤1000000):
  CT Tryz.prog 199 [.sl none 4 (BW none l)] (lk [])
   (fun r o=>∃ b c,l.length≤c∧r=.hsl b 145 4 l.length c∧o=lk [(b,CF c l)]):=by
 intro W U vs hlen hv hI
 obtain ⟨v0,rfl⟩:∃ v0,vs=[v0]:=by
  match vs,hlen with
  | [v0],_=>exact ⟨v0,rfl⟩
 have h0:=hv 0 v0 _ rfl rfl
 have hll:(BW none l).length=l.length:=Fc _ _
 cases h0 with
 | sl A cap own _ sb so _ f hcap hmax hA _ hc hvv=>
 rw[hll]at *
 obtain rfl:=hA hn
 obtain ⟨cs,Ae⟩:∃ cs:List Value,cs=(List.range (l.length * 4)).map fun t=>f (t / 4) (t % 4):=⟨_,rfl⟩
 have hcl:cs.length=l.length * 4:=by rw[Ae];simp
 have hce:∀ t,t<l.length * 4→cs[t]?=some (f (t / 4) (t % 4)):=fun t ht=>by rw[Ae,B7,List.getElem?_range ht];rfl
 have hat:∀ t,t<l.length * 4→t / 4<l.length∧t % 4<4∧t / 4 * 4+t % 4=t:=fun t ht=>by omega
 have hcell:∀ j v,cs[j]?=some v→W.cell? ⟨sb,so+j,none⟩=some v∧v.oneCell'=true:=fun j v h=>by
  have hj:=(AM.1 h).1
  rw[hce j (by omega)]at h
  obtain ⟨q1,q2,q3⟩:=hat j (by omega)
  obtain ⟨c1,c2,c3⟩:=hc (j / 4) (j % 4) q1 q2
  rw[show so+j=so+j / 4 * 4+j % 4 by omega,c1]
  exact ⟨h,Fp h▸c2⟩
 refine (a2O sb so l.length cap cs W hn hb hcl (fun j v h=>(hcell j v h).1)).mono ?_
 rintro e W' ⟨rfl,rfl⟩
 have hge:=grownCap_ge (W.alloc (.cells #[] 145)) l.length 0 145
 have hcm:=grownCap_le_maxLen (W.alloc (.cells #[] 145)) l.length 0 145 (by unfold maxLen;omega)
 generalize grownCap (W.alloc (.cells #[] 145)) l.length 0 145=G at *
 obtain ⟨A,hAd⟩:∃ A:Array Value,A=cs.toArray++Builtin.zeroCells zLf.cells (G - l.length):=⟨_,rfl⟩
 rw[← hAd]
 have hAs:A.size=G * 4:=by
  rw[hAd,G2,size_zeroCells,Ck,hcl]
  show _+(_ - _) * 4=_;omega
 have hA:∀ j,j<l.length * 4→A[j]?=cs[j]?:=fun j hj=>by
  rw[hAd,HK (by rw[Ck];omega),EW]
 have h1A:∀ v∈A,v.oneCell'=true:=fun v hv'=>by
  rw[hAd]at hv'
  rcases Array.mem_append.1 hv' with h|h
  ·obtain ⟨j,hj,rfl⟩:=Do (show v∈cs by simpa using h)
   exact (hcell j _ (Aw hj)).2
  ·have:=Nz h
   have h9:v=.string ⟨#[]⟩∨v=.int .i64 0∨v=.slice none 0 0:=by simpa[zLf,Value.cells]using this
   rcases h9 with h9|h9|h9<;>rw[h9]<;>rfl
 have hread:∀ j c,(CF G l)[j]?=some c→VR W U (A.getD j undef) c:=fun j c hc'=>by
  rcases II (sz:=4) (by omega) (lfRow.all l) hc' with ⟨e,q1,q2⟩ | ⟨rfl,_⟩
  ·have hk:j / 4<l.length:=by simpa using (AM.1 q1).1
   have h5:=hvv (j / 4) e (j % 4) c q1 q2
   rw[Cu,hA j (by omega),hce j (by omega)]
   exact h5
  ·exact .any _
 have hno:∀ (j t k:Nat) (l':List (List AV)),(CF G l)[j]?≠some (.sl (some t) k l'):=fun j t k l' h=>(Fh (by omega) (lfRow.all _) (lfRow.noOwn _) h).1 t k l' rfl
 have hhd:∀ (u:Nat),CG (CF G l)≠some u:=fun u=>Jw (fun c hc=>(Fh (by omega) (lfRow.all _) (lfRow.noOwn _) hc).2) u
 have hE0:=Ext.alloc W U (.cells #[] 145) (fun _=>False)
 have hE:=hE0.drew
 have hlc':(CF G l).length=G * 4:=by rw[CF,lfRow.len_hc];congr 1;omega
 have h6:=(hI.ext hE).newo (vs:=A) (cs:=CF G l) (ty:=145) (by rw[hlc',hAs]) (fun u hu=>absurd hu (hhd u)) (fun j u hu=>⟨h1A u (Array.mem_of_getElem? hu),fun z hz=>⟨by
  have:=(hread j z hz).keep hE.keeps
  rwa [Cu,hu,Cp]at this,fun e k l' hz'=>absurd (hz'▸hz) (hno j e k l')⟩⟩)
 have hsz:((W.alloc (.cells #[] 145)).drew).heap.size=W.heap.size+1:=by simp
 rw[hsz,SB]at h6
 refine ⟨_,_,_,_,rfl,⟨W.heap.size+1,G,by omega,rfl,rfl⟩,(fun b cs' h=>by cases h),h6.res1 (.hsl _ _ _ _ _ (by omega) hcm ⟨_,_,by
  have:=heap_alloc_new ((W.alloc (.cells #[] 145)).drew) (.cells A 145)
  rw[hsz]at this
  exact this⟩) (Sole.plain fun _ _ _ e=>by cases e)⟩
theorem a2J{d:Option Nat}{s:St}{K:St→Prop}{f:Nat}{vs:List AV}{l:List LfC}(h:CT Tryz.prog f vs (lk []) (fun r o=>∃ b c,l.length≤c∧r=.hsl b 145 4 l.length c∧o=lk [(b,CF c l)]))
  (h1:∀ b c,s.o b=none→l.length≤c→KS (St.put ⟨s.t,BG [(b,CF c l)] s.o⟩ d (.hsl b 145 4 l.length c)) K):Dg Tryz.prog f vs d s K:=by
 refine ⟨lk [],_,fun b cs h=>(by cases h),h, ?_⟩
 rintro r o2 ⟨b,c,hc,rfl,rfl⟩ hf
 exact h1 b c (hf b (CF c l) (by simp[lk]) (by simp[lk])) hc
end
section
open Go.RowKit
def Wk(a a':AV):Prop:=∀ (W:World) (U:Nat→Nat→Prop) (v:Value),VR W U v a→VR W U v a'
theorem Wk.rfl{a:AV}:Wk a a:=fun _ _ _ h=>h
theorem QD(e sz:Nat):Wk (.nils e sz) (.sl none sz []):=fun _ _ _ h=>h.alias
theorem T7(o:Option Nat)(sz:Nat)(els:List (List AV)):Wk (.sl o sz els) (.sl none sz els):=fun _ _ _ h=>h.alias
def K5:List AV→List AV→Prop
 | [],[]=>True
 | a::l,a'::l'=>Wk a a'∧K5 l l'
 | _,_=>False
theorem T8:∀ {l l':List AV},K5 l l'→l.length=l'.length∧∀ (i:Nat) (c d:AV),l[i]?=some c→l'[i]?=some d→Wk c d
 | [],[],_=>⟨by simp,fun i c d h=>by simp at h⟩
 | a::l,a'::l',h=>by
  obtain ⟨h1,h2⟩:=T8 h.2
  refine ⟨by simp[h1],fun i c d hc hd=>?_⟩
  cases i with
  | zero=>simp at hc hd;subst hc hd;exact h.1
  | succ i=>exact h2 i c d (by simpa using hc) (by simpa using hd)
 | [],_::_,h=>h.elim
 | _::_,[],h=>h.elim
theorem QC{cs ds:List AV}(h:K5 cs ds):Wk (.agg cs) (.agg ds):=by
 obtain ⟨h1,h2⟩:=T8 h
 intro W U v hv
 cases hv with
 | agg vs _ hl h' h3=>
  refine .agg vs ds (by omega) (fun i u d hu hd=>?_) h3
  have hi:i<cs.length:=by have:=(AM.1 hd).1;omega
  exact h2 i _ d (Aw hi) hd W U u (h' i u _ hu (Aw hi))
def XY:AV→Prop
 | .sl (some _) _ _=>False
 | _=>True
theorem a8w{W:World}{U:Nat→Nat→Prop}{B:Nat→Prop}{v:Value}{r:AV}(h:XY r):Own1 W U B v r:=by
 unfold Own1
 split
 ·exact h.elim
 ·trivial
theorem G4{P:Program}{f:Nat}{xs:List AV}{r r':AV}(h:Wk r r')(hn:XY r')(hc:CP P f xs r):CP P f xs r':=by
 intro W U vs hG hl hv
 refine (hc W U vs hG hl hv).mono fun e W' ⟨v,U',e1,e2,e3,e4⟩=>⟨v,U',e1,h W' U' v e2,a8w hn,e4⟩
theorem Yj:lk []=(fun _=>none:Nat→Option (List AV)):=funext fun _=>rfl
theorem Uf{P:Program}{ac:ACode}{rs:List AR}{f n:Nat}{xs:List AV}{r:AV}(h:MY P ac rs f n)(hl:xs.length≤n)(hw:BK P ac (Mh rs (lk []) (fun r' _=>r'=r)) ⟨lk (num 0 (xs.map AV.alias)),lk []⟩):CP P f xs r:=
 a1J (h _ _ _ hl (by rw[Yj]at hw;exact hw))
end
section
open Go.RowKit Go.Lib
theorem Qm{A B:Prop}(h:B)(e:A=B:=by (simp (disch:=omega) only[*, ↓Ed,Eu, ↓reduceIte,reduceCtorEq,Nat.reduceAdd,Nat.reduceEqDiff,Nat.reduceLT,Nat.reduceLeDiff,Int.reduceToNat,Int.reduceEq,Int.reduceLT,Int.reduceLE,Ap];first|done|rfl)):A:=e▸h
theorem JC(a lo hi:Int):CP Tryz.prog 94 [.int .i64 a,.int .i64 lo,.int .i64 hi] (.bool (decide (lo≤a∧a≤hi))):=by
 refine a6Y _ _ (by simp) ?_
 by_cases h1:lo≤a<;>by_cases h2:a≤hi
 ·rw[AO ⟨h1,h2⟩]
  simp only[Rp];refine Qm ?_
  repeat' ((first|exact tt|refine na fun b=>?_|refine nb fun b hb=>?_|refine iq ?_|(refine jq ?_ ?_<;>intro h h')|exact wZ|refine Aa ?_ ?_)<;>try refine Qm ?_)
  all_goals (exfalso;simp only[Ac,Hn]at *;omega)
 all_goals rw[A0 (fun h=>by omega)]
 all_goals (simp only[Rp];refine Qm ?_;try exact tt)
 all_goals repeat' ((first|exact tt|refine na fun b=>?_|refine nb fun b hb=>?_|refine iq ?_|(refine jq ?_ ?_<;>intro h h')|exact wZ|refine Aa ?_ ?_)<;>try refine Qm ?_)
 all_goals (exfalso;simp only[Ac,Hn]at *;omega)
end
section
open Go.RowKit Go.Shelf
theorem CK{A B:Prop}(h:B)(e:A=B:=by (simp (disch:=omega) only[*, ↓Ed,Eu, ↓reduceIte,reduceCtorEq,Nat.reduceAdd,Nat.reduceEqDiff,Nat.reduceLT,Nat.reduceLeDiff,Int.reduceToNat,Int.reduceEq,Int.reduceLT,Int.reduceLE,Ap,Ao,Ax,AJ,AY,Int.reduceAdd,AH,AN,Ca,decide_true,Gt,eqC_i,eqC_s,eqC_nil,oand_some];first|done|rfl)):A:=e▸h
theorem IU(k:Int):CP Tryz.prog 91 [.int .i64 k] (.bool (decide (1≤k∧k≤5))):=by
 have h:=JC k 1 5
 refine a6Z _ _ (by simp) ?_
 simp only[VQ];refine CK ?_
 repeat' ((first|exact tt|refine Ab h ?_|refine na fun b=>?_|refine nb fun b hb=>?_|refine iq ?_|(refine jq ?_ ?_<;>intro h h')|exact wZ|refine Aa ?_ ?_)<;>try refine CK ?_)
abbrev Ny:AV:=.agg [.int .i64 2,.int .i64 0,.int .i64 0,.int .u8 0,.int .u8 0,.int .u8 0,.int .u8 0,.int .u8 0,.int .u8 0,.int .u8 0,.int .u8 0,.int .u8 0,.int .u8 0,.int .u8 0,.int .u8 0,.int .u8 0,.int .u8 0,.int .u8 0,.int .u8 0,.int .u8 0,.int .u8 0,.int .u8 0,.int .u8 0,.int .u8 0,.int .u8 0,.int .u8 0,.int .u8 0,.int .u8 0,.int .u8 0,.int .u8 0,.int .u8 0,.int .u8 0,.int .u8 0,.int .u8 0,.int .u8 0,.str [113],.int .i64 1,.str [112],.int .i64 0,.int .i64 1,.str [],.int .i64 1,.int .i64 0,.str [],.int .i64 0,.int .i64 1,.int .i64 0,.nils 145 4,.int .i64 0,.nils 145 4]
abbrev p0:PktC:=⟨[113],1,[112],0,1,[],1,0⟩
theorem Yz{c:UInt8}(h:97≤c.toNat∧c.toNat≤122):Gm [c]=true:=by
 refine a5u ⟨by simp,by simp,fun k hk=>?_⟩
 obtain rfl:k=0:=by simpa using hk
 exact .inl (by simpa using h)
theorem LU:Ba [112] 0=true:=by simp[Ba,Yz]
theorem SR:Ba [113] 1=true:=by simp[Ba,Yz]
theorem a5h:BO p0=true:=by simp[BO,LU,SR]
end
section
open Go.RowKit Go.Lib
theorem XJ(cap:Nat)(l:List LfC)(i j:Nat)(hi:i<l.length)(hj:j<4):∃ r,(CF cap l).drop (i * 4+j)=(BZ none (l.getD i default)).getD j .undef::r:=by
 have h:=lfRow.drop_take cap l i default hi
 have e:((CF cap l).drop (i * 4+j))[0]?=(BZ none (l.getD i default))[j]?:=by
  rw[← h,CW hj,CC,CC];rfl
 generalize (CF cap l).drop (i * 4+j)=X at e
 have hl:(BZ none (l.getD i default)).length=4:=rfl
 cases X with
 | nil=>
  have e2:(BZ none (l.getD i default))[j]?=some _:=Aw (by omega)
  rw[e2]at e;cases e
 | cons c r=>exact ⟨r,by
   simp only[G5]at e
   rw[List.getD, ← e];rfl⟩
theorem b0H(cap:Nat)(l:List LfC)(i:Nat)(hi:i<l.length)(K:AV→Prop):RK (A5 none ((CF cap l).drop (i * 4+3))) K=K (.sl none 32 (AL (l.getD i default).p)):=by
 obtain ⟨r,h⟩:=XJ cap l i 3 hi (by omega)
 rw[h,l_onef,RK_eq];rfl
theorem a4n(cap:Nat)(l:List LfC)(h:l.length≤cap):(CF cap l).length=cap * 4:=by rw[CF,lfRow.len_hc];congr 1;omega
theorem a0x:∀ (cs:List AV) (o:Nat) (v:AV),cs[o]?=some v→splice cs o [v]=cs
 | [],_,_,h=>by simp at h
 | c::r,0,v,h=>by simp only[G5,Az]at h;subst h;simp[splice]
 | c::r,o+1,v,h=>by simp only[splice,a0x r o v (by simpa using h)]
theorem a4o(cap:Nat)(l:List LfC)(i:Nat)(hi:i<l.length):splice (CF cap l) (i * 4+3) [.sl none 32 (AL (l.getD i default).p)]=CF cap l:=by
 obtain ⟨r,h⟩:=XJ cap l i 3 hi (by omega)
 refine a0x _ _ _ ?_
 rw[← Nat.add_zero (i * 4+3), ← CC,h];rfl
theorem a4q(x:Hs):GC (Ae x)=true:=by
 unfold Ae
 induction x with
 | nil=>rfl
 | cons b r ih=>simpa[GC,Bg]using ih
theorem NU{s:St}{rs:List AR}{c:Int}{g e cap:Nat}{l:List LfC}(h:BR s rs (.agg [.int .i64 c,.hsl g e 4 l.length cap]))(hg:s.o g=some (CF cap l)):J8 s rs (lk []) (fun r' _=>r'=.agg [.int .i64 c,.sl none 4 (BW none l)]):=by
 rw[Yj]
 refine b0G (o3:=[(g,CF cap l)]) h (fun b cs hb=>?_) ?_
 ·rw[lk_cons]at hb
  split at hb
  ·rename_i e;subst e;rw[hg];exact hb
  ·cases hb
 ·refine ⟨[.int .i64 c,.sl none 4 (BW none l)],rfl,fun i x d h1 h2=>?_,rfl⟩
  match i with
  | 0=>simp at h1 h2;subst h1 h2;rfl
  | 1=>
   simp at h1 h2;subst h1 h2
   refine ⟨BW none l,by simp[lk,CF,BW],lfRow.all l,by simp[BW], ?_⟩
   rw[B0 (by simp[BW])]
  | i+2=>simp at h1
theorem a9j(p:List Hs)(hp:p.length≤1000)(h32:∀ x∈p,x.length=32):CP Tryz.prog 200 [.sl none 32 (AL p)] (.sl none 32 (AL p)):=by
 obtain ⟨i0,hi,hz0,hz1,hz2⟩:=info_parts (P:=Tryz.prog) (e:=29) (z:=.agg (Array.replicate 32 (.int .u8 0))) (size:=32) (bytes:=32) (by kernel_rfl)
 refine G4 (T7 _ _ _) trivial (Ud Tryz.cln200 i0 _ 32 32 hi hz0 hz1 hz2 rfl (by omega) Tryz.sizeOf29 (AL p) (by rw[Cm];omega) (by rw[Cm];unfold maxLen;omega) (fun e he=>?_) (fun e he=>?_))
 ·obtain ⟨x,hx,rfl⟩:=Dp.1 he
  simpa using h32 x hx
 ·obtain ⟨x,hx,rfl⟩:=Dp.1 he
  exact a4q x
theorem Ij{A B:Prop}(h:B)(e:A=B:=by (simp (disch:=omega) only[*, ↓Ed,Eu, ↓reduceIte,reduceCtorEq,Nat.reduceAdd,Nat.reduceEqDiff,Nat.reduceLT,Nat.reduceLeDiff,Int.reduceToNat,Int.reduceEq,Int.reduceLT,Int.reduceLE,Ap,Ao,Ax,AJ,AY,Int.reduceAdd,AH,AN,Cm,Fc,Fv,Ca, ↓b0H];first|done|rfl)):A:=e▸h
theorem JB(c:Int)(l:List LfC)(hl:l.length≤1000)(hp:∀ i,i<l.length→(l.getD i default).p.length≤1000):
  CP Tryz.prog 158 [.agg [.int .i64 c,.sl none 4 (BW none l)]] (.agg [.int .i64 c,.sl none 4 (BW none l)]):=by
 rcases Gv l.length with h0|h0
 ·obtain rfl:=Dn h0
  show CP _ _ [.agg [.int .i64 c,.sl none 4 []]] (.agg [.int .i64 c,.sl none 4 []])
  have hC:CP Tryz.prog 199 [.sl none 4 []] (.sl none 4 []):=by
   obtain ⟨i0,hi,hz0,hz1,hz2⟩:=info_parts (P:=Tryz.prog) (e:=145) (z:=zLf) (size:=4) (bytes:=64) (by kernel_rfl)
   exact G4 (T7 _ _ _) trivial (Ud Tryz.cln199 i0 _ 4 64 hi hz0 hz1 hz2 rfl (by omega) Tryz.sizeOf145 [] (by simp) (by simp) (by simp) (by simp))
  have f1:Ac (decide (((0:Nat):Int)<((0:Nat):Int))=false):=rfl
  refine YN _ _ (by simp) ?_
  simp only[Lm];refine Ij ?_
  repeat' ((first|exact tt|refine Ab hC ?_|refine na fun b=>?_|refine nb fun b hb=>?_|refine iq ?_|(refine jq ?_ ?_<;>intro h h')|exact wZ|refine Aa ?_ ?_)<;>try refine Ij ?_)
  rename_i b1
  obtain ⟨e1,e2⟩:=hb
  refine A2 (fun _:Nat=>⟨lk [(1,.ptr b1 0),(2,.ptr b 0),(10,.int .i64 0),(11,.int .i64 0)],lk [(b1,[.int .i64 c,.sl none 4 []]),(b,[.int .i64 0,.sl (some 145) 4 []])]⟩) (fun _=>True) (fun _=>0) 0 trivial (An qd) ?_
  intro i hi
  refine Ij ?_
  repeat' ((first|exact tt|refine na fun b=>?_|refine nb fun b hb=>?_|refine iq ?_|(refine jq ?_ ?_<;>intro h h')|exact wZ|refine Aa ?_ ?_)<;>try refine Ij ?_)
 have hC:=b2P l h0 (by omega)
 refine Uf a7I (by simp) ?_
 simp only[Lm];refine Ij ?_
 repeat' ((first|exact tt|((refine a2J hC (fun g cap hn hc=>?_))<;>(try simp only[Bt,Bu,Bc]at hn))|refine na fun b=>?_|refine nb fun b hb=>?_|refine iq ?_|(refine jq ?_ ?_<;>intro h h')|exact wZ|refine Aa ?_ ?_)<;>try refine Ij ?_)
 rename_i b1
 obtain ⟨e1,e2⟩:=hb
 refine A2 (fun i:Nat=>⟨lk [(1,.ptr b1 0),(2,.ptr b 0),(10,.int .i64 (l.length:Int)),(11,.int .i64 (i:Int))],lk [(b1,[.int .i64 c,.hsl g 145 4 l.length cap]),(b,[.int .i64 0,.sl (some 145) 4 []]),(g,CF cap l)]⟩) (fun i=>i≤l.length) (fun i=>l.length - i) 0 (by omega) (An qd) ?_
 intro i hi
 by_cases hil:i<l.length
 ·have g1:Ac (decide ((i:Int)<l.length)=true):=fo
  have hCP:=a9j (l.getD i default).p (hp i hil) (l.getD i default).h
  clear hC hp
  refine Ij ?_
  repeat' ((first|exact tt|refine Ab hCP ?_|refine Ag hCP ?_|refine na fun b=>?_|refine nb fun b hb=>?_|refine iq ?_|(refine jq ?_ ?_<;>intro h h')|exact wZ|refine Aa ?_ ?_)<;>try refine Ij ?_)
  refine ⟨by rw[a4n _ _ hc];omega, ?_⟩
  rw[a4o cap l i hil]
  exact AC (i+1) ⟨An qd,hil,by omega⟩
 ·obtain rfl:i=l.length:=by omega
  have g1:Ac (decide ((l.length:Int)<l.length)=false):=fo
  clear hC hp
  refine Ij ?_
  repeat' ((first|exact tt|refine na fun b=>?_|refine nb fun b hb=>?_|refine iq ?_|(refine jq ?_ ?_<;>intro h h')|exact wZ|refine Aa ?_ ?_)<;>try refine Ij ?_)
  exact NU (g:=g) (e:=145) (cap:=cap) NR (by simp[lk, *])
end
section
open Go.RowKit
def FW(m:MsgC):MsgC:=if 1≤m.k∧m.k≤5 then (if m.k=1 then ⟨m.k,m.h,default,[],0,0,zeroF,zeroF⟩ else ⟨m.k,default,m.p,if m.k=3 then m.a else [],if m.k=4∨m.k=5 then m.nx else 0,m.ht,m.pr,if m.k=5 then m.cl else zeroF⟩) else ⟨m.k,default,default,[],0,0,zeroF,zeroF⟩
def IP:AV→AV
 | .nils _ sz=>.sl none sz []
 | a=>a
theorem a1C:∀ l:List AV,K5 l (l.map IP)
 | []=>trivial
 | a::l=>⟨by cases a<;>first|exact Wk.rfl|exact QD _ _,a1C l⟩
theorem MJ{l r:List AV}(h:l.map IP=r):Wk (.agg l) (.agg r):=QC (h▸a1C l)
theorem LW(x:HdC):x.rt.map IP=x.rt:=by
 unfold HdC.rt
 rw[EX]
 rfl
theorem Gq{A B:Prop}(h:B)(e:A=B:=by (simp (disch:=omega) only[*, ↓Ed,Eu, ↓reduceIte,reduceCtorEq,Nat.reduceAdd,Nat.reduceEqDiff,Nat.reduceLT,Nat.reduceLeDiff,Int.reduceToNat,Int.reduceEq,Int.reduceLT,Int.reduceLE,Ap,Ao,Ax,AJ,AY,Int.reduceAdd,AH,AN,Ca, ↓Ht, ↓H0, ↓SK, ↓Gi, ↓Gj, ↓GM, ↓SL, ↓SN, ↓Ff, ↓Gk, ↓Gl, ↓Py, ↓Ez, ↓EL,DZ,C4,PktC.cs,PfC.cs,BF,Co];first|done|rfl)):A:=e▸h
theorem NF(k:Int):CP Tryz.prog 159 [.int .i64 k] (.bool (decide (k=4)||decide (k=5))):=by
 refine YO _ _ (by simp) ?_
 cases h1:decide (k=4)
 all_goals (simp only[Rq];refine Gq ?_;try exact tt)
 all_goals repeat' ((first|exact tt|refine na fun b=>?_|refine nb fun b hb=>?_|refine iq ?_|(refine jq ?_ ?_<;>intro h h')|exact wZ|refine Aa ?_ ?_)<;>try refine Gq ?_)
 all_goals rfl

theorem a9N(k:Int)(hk:¬ (1≤k∧k≤5))(h:HdC)(p:PktC)(a:List UInt8)(nx ht:Int)(pr cl:PfC)(hp:Bw pr)(hc:Bw cl):CP Tryz.prog 93 [.agg (AD ⟨k,h,p,a,nx,ht,pr,cl⟩)] (.agg [.int .i64 k,.int .i64 0,.int .i64 0,.int .u8 0,.int .u8 0,.int .u8 0,.int .u8 0,.int .u8 0,.int .u8 0,.int .u8 0,.int .u8 0,.int .u8 0,.int .u8 0,.int .u8 0,.int .u8 0,.int .u8 0,.int .u8 0,.int .u8 0,.int .u8 0,.int .u8 0,.int .u8 0,.int .u8 0,.int .u8 0,.int .u8 0,.int .u8 0,.int .u8 0,.int .u8 0,.int .u8 0,.int .u8 0,.int .u8 0,.int .u8 0,.int .u8 0,.int .u8 0,.int .u8 0,.int .u8 0,.str [],.int .i64 0,.str [],.int .i64 0,.int .i64 0,.str [],.int .i64 0,.int .i64 0,.str [],.int .i64 0,.int .i64 0,.int .i64 0,.nils 145 4,.int .i64 0,.nils 145 4]):=by
 have hK:=IU k
 rw[A0 hk]at hK
 refine Kz _ _ (by simp) ?_
 simp only[Jl,Cz.z0];refine Gq ?_
 repeat' ((first|exact tt|refine Ab hK ?_|refine Ag hK ?_|refine na fun b=>?_|refine nb fun b hb=>?_|refine iq ?_|(refine jq ?_ ?_<;>intro h h')|exact wZ|refine Aa ?_ ?_)<;>try refine Gq ?_)
theorem a9I(h:HdC)(p:PktC)(a:List UInt8)(nx ht:Int)(pr cl:PfC)(hp:Bw pr)(hc:Bw cl):CP Tryz.prog 93 [.agg (AD ⟨1,h,p,a,nx,ht,pr,cl⟩)] (.agg (.int .i64 1::(h.cs++[.str [],.int .i64 0,.str [],.int .i64 0,.int .i64 0,.str [],.int .i64 0,.int .i64 0,.str [],.int .i64 0,.int .i64 0,.int .i64 0,.nils 145 4,.int .i64 0,.nils 145 4]))):=by
 have hK:=IU 1
 rw[AO (by omega)]at hK
 have f1:Ac (decide ((1:Int)=1)=true):=rfl
 have f3:Ac (decide ((1:Int)=3)=false):=rfl
 have f5:Ac (decide ((1:Int)=5)=false):=rfl
 have hN:=NF 1
 rw[show (decide ((1:Int)=4)||decide ((1:Int)=5))=false from rfl]at hN
 have hsp:splice [.int .u8 0,.int .u8 0,.int .u8 0,.int .u8 0,.int .u8 0,.int .u8 0,.int .u8 0,.int .u8 0,.int .u8 0,.int .u8 0,.int .u8 0,.int .u8 0,.int .u8 0,.int .u8 0,.int .u8 0,.int .u8 0,.int .u8 0,.int .u8 0,.int .u8 0,.int .u8 0,.int .u8 0,.int .u8 0,.int .u8 0,.int .u8 0,.int .u8 0,.int .u8 0,.int .u8 0,.int .u8 0,.int .u8 0,.int .u8 0,.int .u8 0,.int .u8 0,.str [],.int .i64 0,.str [],.int .i64 0,.int .i64 0,.str [],.int .i64 0,.int .i64 0,.str [],.int .i64 0,.int .i64 0,.int .i64 0,.nils 145 4,.int .i64 0,.nils 145 4] 0 h.rt=h.rt++[.str [],.int .i64 0,.str [],.int .i64 0,.int .i64 0,.str [],.int .i64 0,.int .i64 0,.str [],.int .i64 0,.int .i64 0,.int .i64 0,.nils 145 4,.int .i64 0,.nils 145 4]:=by
  show splice ([.int .u8 0,.int .u8 0,.int .u8 0,.int .u8 0,.int .u8 0,.int .u8 0,.int .u8 0,.int .u8 0,.int .u8 0,.int .u8 0,.int .u8 0,.int .u8 0,.int .u8 0,.int .u8 0,.int .u8 0,.int .u8 0,.int .u8 0,.int .u8 0,.int .u8 0,.int .u8 0,.int .u8 0,.int .u8 0,.int .u8 0,.int .u8 0,.int .u8 0,.int .u8 0,.int .u8 0,.int .u8 0,.int .u8 0,.int .u8 0,.int .u8 0,.int .u8 0]++[.str [],.int .i64 0,.str [],.int .i64 0,.int .i64 0,.str [],.int .i64 0,.int .i64 0,.str [],.int .i64 0,.int .i64 0,.int .i64 0,.nils 145 4,.int .i64 0,.nils 145 4]) 0 h.rt=_
  rw[a0w _ _ _ (by simp[BF])]
 have hld:∀ K,RK (A5 (some 50) (.int .i64 1 :: .int .i64 h.h :: .int .i64 h.t::(h.rt++[.str [],.int .i64 0,.str [],.int .i64 0,.int .i64 0,.str [],.int .i64 0,.int .i64 0,.str [],.int .i64 0,.int .i64 0,.int .i64 0,.nils 145 4,.int .i64 0,.nils 145 4]))) K=K (.agg (.int .i64 1 :: .int .i64 h.h :: .int .i64 h.t::(h.rt++[.str [],.int .i64 0,.str [],.int .i64 0,.int .i64 0,.str [],.int .i64 0,.int .i64 0,.str [],.int .i64 0,.int .i64 0,.int .i64 0,.nils 145 4,.int .i64 0,.nils 145 4]))):=fun K=>LQ (cs:=.int .i64 1 :: .int .i64 h.h :: .int .i64 h.t::(h.rt++[.str [],.int .i64 0,.str [],.int .i64 0,.int .i64 0,.str [],.int .i64 0,.int .i64 0,.str [],.int .i64 0,.int .i64 0,.int .i64 0,.nils 145 4,.int .i64 0,.nils 145 4])) (r:=[]) (by simp) (by simp[BF]) K
 have htk:List.take 47 (h.rt++[.str [],.int .i64 0,.str [],.int .i64 0,.int .i64 0,.str [],.int .i64 0,.int .i64 0,.str [],.int .i64 0,.int .i64 0,.int .i64 0,.nils 145 4,.int .i64 0,.nils 145 4])=h.rt++[.str [],.int .i64 0,.str [],.int .i64 0,.int .i64 0,.str [],.int .i64 0,.int .i64 0,.str [],.int .i64 0,.int .i64 0,.int .i64 0,.nils 145 4,.int .i64 0,.nils 145 4]:=B0 (by simp[BF])
 have hsp3:splice [.int .u8 0,.int .u8 0,.int .u8 0,.int .u8 0,.int .u8 0,.int .u8 0,.int .u8 0,.int .u8 0,.int .u8 0,.int .u8 0,.int .u8 0,.int .u8 0,.int .u8 0,.int .u8 0,.int .u8 0,.int .u8 0,.int .u8 0,.int .u8 0,.int .u8 0,.int .u8 0,.int .u8 0,.int .u8 0,.int .u8 0,.int .u8 0,.int .u8 0,.int .u8 0,.int .u8 0,.int .u8 0,.int .u8 0,.int .u8 0,.int .u8 0,.int .u8 0,.str [],.int .i64 0,.str [],.int .i64 0,.int .i64 0,.str [],.int .i64 0,.int .i64 0,.str [],.int .i64 0,.int .i64 0,.int .i64 0,.sl (some 145) 4 [],.int .i64 0,.sl (some 145) 4 []] 0 (h.rt++[.str [],.int .i64 0,.str [],.int .i64 0,.int .i64 0,.str [],.int .i64 0,.int .i64 0,.str [],.int .i64 0,.int .i64 0,.int .i64 0,.nils 145 4,.int .i64 0,.nils 145 4])=h.rt++[.str [],.int .i64 0,.str [],.int .i64 0,.int .i64 0,.str [],.int .i64 0,.int .i64 0,.str [],.int .i64 0,.int .i64 0,.int .i64 0,.nils 145 4,.int .i64 0,.nils 145 4]:=TO _ _ (by simp[BF])
 have hma:List.map AV.store (h.rt++[.str [],.int .i64 0,.str [],.int .i64 0,.int .i64 0,.str [],.int .i64 0,.int .i64 0,.str [],.int .i64 0,.int .i64 0,.int .i64 0,.nils 145 4,.int .i64 0,.nils 145 4])=h.rt++[.str [],.int .i64 0,.str [],.int .i64 0,.int .i64 0,.str [],.int .i64 0,.int .i64 0,.str [],.int .i64 0,.int .i64 0,.int .i64 0,.nils 145 4,.int .i64 0,.nils 145 4]:=by rw[FI,Co];rfl
 refine Kz _ _ (by simp) ?_
 simp (disch:=omega) only[Jl,Cz.z0,hsp, ↓hld,htk,hsp3,hma, ↓Ed,Eu, ↓reduceIte,reduceCtorEq,Nat.reduceAdd,Nat.reduceEqDiff,Nat.reduceLT,Nat.reduceLeDiff,Int.reduceToNat,Int.reduceEq,Int.reduceLT,Int.reduceLE,Ap,Ao,Ax,AJ,AY,Int.reduceAdd,AH,AN,Ca, ↓Ht, ↓H0, ↓SK, ↓Gi, ↓Gj, ↓GM, ↓SL, ↓SN, ↓Ff, ↓Gk, ↓Gl, ↓Py, ↓Ez, ↓EL,DZ,C4,PktC.cs,PfC.cs,BF,Co]
 repeat' ((first|exact tt|refine Ab hK ?_|refine Ag hK ?_|refine Ab hN ?_|refine Ag hN ?_|refine na fun b=>?_|refine nb fun b hb=>?_|refine iq ?_|(refine jq ?_ ?_<;>intro h h')|exact wZ|refine Aa ?_ ?_)<;>try refine Gq ?_)
 all_goals rfl
theorem a9J(h:HdC)(p:PktC)(a:List UInt8)(nx ht:Int)(pr cl:PfC)(hp:Bw pr)(hc:Bw cl):CP Tryz.prog 93 [.agg (AD ⟨2,h,p,a,nx,ht,pr,cl⟩)] (.agg [.int .i64 2,.int .i64 0,.int .i64 0,.int .u8 0,.int .u8 0,.int .u8 0,.int .u8 0,.int .u8 0,.int .u8 0,.int .u8 0,.int .u8 0,.int .u8 0,.int .u8 0,.int .u8 0,.int .u8 0,.int .u8 0,.int .u8 0,.int .u8 0,.int .u8 0,.int .u8 0,.int .u8 0,.int .u8 0,.int .u8 0,.int .u8 0,.int .u8 0,.int .u8 0,.int .u8 0,.int .u8 0,.int .u8 0,.int .u8 0,.int .u8 0,.int .u8 0,.int .u8 0,.int .u8 0,.int .u8 0,.str p.s,.int .i64 p.sc,.str p.d,.int .i64 p.dc,.int .i64 p.q,.str p.x,.int .i64 p.th,.int .i64 p.ta,.str [],.int .i64 0,.int .i64 ht,.int .i64 pr.c,.sl none 4 (Fe pr.l),.int .i64 0,.nils 145 4]):=by
 have hK:=IU 2
 rw[AO (by omega)]at hK
 have f1:Ac (decide ((2:Int)=1)=false):=rfl
 have f3:Ac (decide ((2:Int)=3)=false):=rfl
 have f5:Ac (decide ((2:Int)=5)=false):=rfl
 have hN:=NF 2
 rw[show (decide ((2:Int)=4)||decide ((2:Int)=5))=false from rfl]at hN
 have hC:=JB pr.c pr.l hp.1 (fun i hi=>(hp.2 i hi).2.2)
 have hD:=JB cl.c cl.l hc.1 (fun i hi=>(hc.2 i hi).2.2)
 simp only[← Nu]at hC hD
 refine Kz _ _ (by simp) ?_
 simp only[Jl,Cz.z0];refine Gq ?_
 repeat' ((first|exact tt|refine Ab hK ?_|refine Ag hK ?_|refine Ab hN ?_|refine Ag hN ?_|refine Ab hC ?_|refine Ag hC ?_|refine Ab hD ?_|refine Ag hD ?_|refine na fun b=>?_|refine nb fun b hb=>?_|refine iq ?_|(refine jq ?_ ?_<;>intro h h')|exact wZ|refine Aa ?_ ?_)<;>try refine Gq ?_)
theorem a9K(h:HdC)(p:PktC)(a:List UInt8)(nx ht:Int)(pr cl:PfC)(hp:Bw pr)(hc:Bw cl):CP Tryz.prog 93 [.agg (AD ⟨3,h,p,a,nx,ht,pr,cl⟩)] (.agg [.int .i64 3,.int .i64 0,.int .i64 0,.int .u8 0,.int .u8 0,.int .u8 0,.int .u8 0,.int .u8 0,.int .u8 0,.int .u8 0,.int .u8 0,.int .u8 0,.int .u8 0,.int .u8 0,.int .u8 0,.int .u8 0,.int .u8 0,.int .u8 0,.int .u8 0,.int .u8 0,.int .u8 0,.int .u8 0,.int .u8 0,.int .u8 0,.int .u8 0,.int .u8 0,.int .u8 0,.int .u8 0,.int .u8 0,.int .u8 0,.int .u8 0,.int .u8 0,.int .u8 0,.int .u8 0,.int .u8 0,.str p.s,.int .i64 p.sc,.str p.d,.int .i64 p.dc,.int .i64 p.q,.str p.x,.int .i64 p.th,.int .i64 p.ta,.str a,.int .i64 0,.int .i64 ht,.int .i64 pr.c,.sl none 4 (Fe pr.l),.int .i64 0,.nils 145 4]):=by
 have hK:=IU 3
 rw[AO (by omega)]at hK
 have f1:Ac (decide ((3:Int)=1)=false):=rfl
 have f3:Ac (decide ((3:Int)=3)=true):=rfl
 have f5:Ac (decide ((3:Int)=5)=false):=rfl
 have hN:=NF 3
 rw[show (decide ((3:Int)=4)||decide ((3:Int)=5))=false from rfl]at hN
 have hC:=JB pr.c pr.l hp.1 (fun i hi=>(hp.2 i hi).2.2)
 have hD:=JB cl.c cl.l hc.1 (fun i hi=>(hc.2 i hi).2.2)
 simp only[← Nu]at hC hD
 refine Kz _ _ (by simp) ?_
 simp only[Jl,Cz.z0];refine Gq ?_
 repeat' ((first|exact tt|refine Ab hK ?_|refine Ag hK ?_|refine Ab hN ?_|refine Ag hN ?_|refine Ab hC ?_|refine Ag hC ?_|refine Ab hD ?_|refine Ag hD ?_|refine na fun b=>?_|refine nb fun b hb=>?_|refine iq ?_|(refine jq ?_ ?_<;>intro h h')|exact wZ|refine Aa ?_ ?_)<;>try refine Gq ?_)
theorem a9L(h:HdC)(p:PktC)(a:List UInt8)(nx ht:Int)(pr cl:PfC)(hp:Bw pr)(hc:Bw cl):CP Tryz.prog 93 [.agg (AD ⟨4,h,p,a,nx,ht,pr,cl⟩)] (.agg [.int .i64 4,.int .i64 0,.int .i64 0,.int .u8 0,.int .u8 0,.int .u8 0,.int .u8 0,.int .u8 0,.int .u8 0,.int .u8 0,.int .u8 0,.int .u8 0,.int .u8 0,.int .u8 0,.int .u8 0,.int .u8 0,.int .u8 0,.int .u8 0,.int .u8 0,.int .u8 0,.int .u8 0,.int .u8 0,.int .u8 0,.int .u8 0,.int .u8 0,.int .u8 0,.int .u8 0,.int .u8 0,.int .u8 0,.int .u8 0,.int .u8 0,.int .u8 0,.int .u8 0,.int .u8 0,.int .u8 0,.str p.s,.int .i64 p.sc,.str p.d,.int .i64 p.dc,.int .i64 p.q,.str p.x,.int .i64 p.th,.int .i64 p.ta,.str [],.int .i64 nx,.int .i64 ht,.int .i64 pr.c,.sl none 4 (Fe pr.l),.int .i64 0,.nils 145 4]):=by
 have hK:=IU 4
 rw[AO (by omega)]at hK
 have f1:Ac (decide ((4:Int)=1)=false):=rfl
 have f3:Ac (decide ((4:Int)=3)=false):=rfl
 have f5:Ac (decide ((4:Int)=5)=false):=rfl
 have hN:=NF 4
 rw[show (decide ((4:Int)=4)||decide ((4:Int)=5))=true from rfl]at hN
 have hC:=JB pr.c pr.l hp.1 (fun i hi=>(hp.2 i hi).2.2)
 have hD:=JB cl.c cl.l hc.1 (fun i hi=>(hc.2 i hi).2.2)
 simp only[← Nu]at hC hD
 refine Kz _ _ (by simp) ?_
 simp only[Jl,Cz.z0];refine Gq ?_
 repeat' ((first|exact tt|refine Ab hK ?_|refine Ag hK ?_|refine Ab hN ?_|refine Ag hN ?_|refine Ab hC ?_|refine Ag hC ?_|refine Ab hD ?_|refine Ag hD ?_|refine na fun b=>?_|refine nb fun b hb=>?_|refine iq ?_|(refine jq ?_ ?_<;>intro h h')|exact wZ|refine Aa ?_ ?_)<;>try refine Gq ?_)
theorem a9M(h:HdC)(p:PktC)(a:List UInt8)(nx ht:Int)(pr cl:PfC)(hp:Bw pr)(hc:Bw cl):CP Tryz.prog 93 [.agg (AD ⟨5,h,p,a,nx,ht,pr,cl⟩)] (.agg [.int .i64 5,.int .i64 0,.int .i64 0,.int .u8 0,.int .u8 0,.int .u8 0,.int .u8 0,.int .u8 0,.int .u8 0,.int .u8 0,.int .u8 0,.int .u8 0,.int .u8 0,.int .u8 0,.int .u8 0,.int .u8 0,.int .u8 0,.int .u8 0,.int .u8 0,.int .u8 0,.int .u8 0,.int .u8 0,.int .u8 0,.int .u8 0,.int .u8 0,.int .u8 0,.int .u8 0,.int .u8 0,.int .u8 0,.int .u8 0,.int .u8 0,.int .u8 0,.int .u8 0,.int .u8 0,.int .u8 0,.str p.s,.int .i64 p.sc,.str p.d,.int .i64 p.dc,.int .i64 p.q,.str p.x,.int .i64 p.th,.int .i64 p.ta,.str [],.int .i64 nx,.int .i64 ht,.int .i64 pr.c,.sl none 4 (Fe pr.l),.int .i64 cl.c,.sl none 4 (Fe cl.l)]):=by
 have hK:=IU 5
 rw[AO (by omega)]at hK
 have f1:Ac (decide ((5:Int)=1)=false):=rfl
 have f3:Ac (decide ((5:Int)=3)=false):=rfl
 have f5:Ac (decide ((5:Int)=5)=true):=rfl
 have hN:=NF 5
 rw[show (decide ((5:Int)=4)||decide ((5:Int)=5))=true from rfl]at hN
 have hC:=JB pr.c pr.l hp.1 (fun i hi=>(hp.2 i hi).2.2)
 have hD:=JB cl.c cl.l hc.1 (fun i hi=>(hc.2 i hi).2.2)
 simp only[← Nu]at hC hD
 refine Kz _ _ (by simp) ?_
 simp only[Jl,Cz.z0];refine Gq ?_
 repeat' ((first|exact tt|refine Ab hK ?_|refine Ag hK ?_|refine Ab hN ?_|refine Ag hN ?_|refine Ab hC ?_|refine Ag hC ?_|refine Ab hD ?_|refine Ag hD ?_|refine na fun b=>?_|refine nb fun b hb=>?_|refine iq ?_|(refine jq ?_ ?_<;>intro h h')|exact wZ|refine Aa ?_ ?_)<;>try refine Gq ?_)
theorem a9H(m:MsgC)(hp:Bw m.pr)(hc:Bw m.cl):CP Tryz.prog 93 [.agg (AD m)] (.agg (AD (FW m))):=by
 obtain ⟨k,h,p,a,nx,ht,pr,cl⟩:=m
 by_cases hk:1≤k∧k≤5
 ·have h5:k=1∨k=2∨k=3∨k=4∨k=5:=by omega
  rcases h5 with rfl|rfl|rfl|rfl|rfl
  ·exact G4 (MJ (by simp[LW,IP,FW,AD,Gg,C3,zeroF,Fe];repeat' (first|rfl|refine ⟨?_, ?_⟩))) trivial (a9I h p a nx ht pr cl hp hc)
  ·exact G4 (MJ (by simp[LW,IP,FW,AD,Gg,C3,zeroF,Fe,Mi];repeat' (first|rfl|refine ⟨?_, ?_⟩))) trivial (a9J h p a nx ht pr cl hp hc)
  ·exact G4 (MJ (by simp[LW,IP,FW,AD,Gg,C3,zeroF,Fe,Mi];repeat' (first|rfl|refine ⟨?_, ?_⟩))) trivial (a9K h p a nx ht pr cl hp hc)
  ·exact G4 (MJ (by simp[LW,IP,FW,AD,Gg,C3,zeroF,Fe,Mi];repeat' (first|rfl|refine ⟨?_, ?_⟩))) trivial (a9L h p a nx ht pr cl hp hc)
  ·exact G4 (MJ (by simp[LW,IP,FW,AD,Gg,C3,zeroF,Fe,Mi];repeat' (first|rfl|refine ⟨?_, ?_⟩))) trivial (a9M h p a nx ht pr cl hp hc)
 ·exact G4 (MJ (by simp[LW,IP,FW,AD,Gg,C3,zeroF,Fe,Mi,hk];repeat' (first|rfl|refine ⟨?_, ?_⟩))) trivial (a9N k hk h p a nx ht pr cl hp hc)
end
section
open Go.RowKit
abbrev rI(r:List Int):List AV:=r.map (AV.int .u8 ·)
theorem P3{r:List Int}(h:r.length=32):(rI r).map AV.store=rI r∧splice Ip 0 (rI r)=rI r∧(rI r).take 32=rI r∧(rI r).length=32:=by
 have hl:(rI r).length=32:=by rw[Ax,h]
 exact ⟨by rw[EX];rfl,I4 Ip _ (by rw[hl];rfl),B0 (by omega),hl⟩
theorem Ux{α:Type}[Inhabited α](q:α→Bool){l:List α}{k:Nat}(hk:k<l.length):(l.take (k+1)).all q=((l.take k).all q&&q (l.getD k default)):=by
 have e:l.take (k+1)=l.take k++[l.getD k default]:=by
  rw[List.take_add_one,Aw hk]
  simp[List.getD,hk]
 rw[e,List.all_append];simp
theorem Uw{α:Type}[Inhabited α]{q:α→Bool}{l:List α}{k:Nat}(hk:k<l.length)(h:q (l.getD k default)=false):l.all q=false:=by
 rw[List.all_eq_false]
 exact ⟨l[k],Di hk,by simpa[List.getD,hk]using h⟩
theorem F1{A B:Prop}(h:B)(e:A=B:=by (simp (disch:=omega) only[*, ↓Ed,Eu, ↓reduceIte,reduceCtorEq,Nat.reduceAdd,Nat.reduceEqDiff,Nat.reduceLT,Nat.reduceLeDiff,Int.reduceToNat,Int.reduceEq,Int.reduceLT,Int.reduceLE,Ap,Ao,Ax,AJ,AY,Int.reduceAdd,AH,AN,Cm,Fc,Fv,Ca,BZ];first|done|rfl)):A:=e▸h
theorem PS(p:PfC)(hp:Bw p):CP Tryz.prog 95 [.agg p.cs] (.bool (D7 p)):=by
 obtain ⟨c,l⟩:=p
 obtain ⟨hl,hs⟩:=hp
 simp only at hl hs
 refine YS _ _ (by simp) ?_
 unfold D7
 rw[show (PfC.mk c l).cs=[.int .i64 c,.sl none 4 (BW none l)] from rfl]
 simp only
 by_cases h0:0≤c∧c≤1073741824∧l.length≤2
 rotate_left
 ·rw[A0 h0,Bool.false_and]
  have f1:Ac (¬ (0≤c∧c≤1073741824∧l.length≤2)):=h0
  clear h0 hs
  simp only[OJ];refine F1 ?_
  repeat' ((first|exact tt|refine na fun b=>?_|refine nb fun b hb=>?_|refine iq ?_|(refine jq ?_ ?_<;>intro h h')|exact wZ|refine Aa ?_ ?_)<;>try refine F1 ?_)
  all_goals (exfalso;simp only[Ac,Hn]at *;omega)
 rw[AO h0,Gt]
 obtain ⟨h1,h2,h3⟩:=h0
 obtain ⟨n,rfl⟩:∃ n:Nat,c=(n:Int):=⟨c.toNat,by omega⟩
 have f1:Ac (decide ((n:Int)<0)=false):=fo
 have f2:Ac (decide (1073741824<(n:Int))=false):=fo
 have f3:Ac (decide (2<(l.length:Int))=false):=fo
 simp only[OJ];refine F1 ?_
 repeat' ((first|exact tt|refine na fun b=>?_|refine nb fun b hb=>?_|refine iq ?_|(refine jq ?_ ?_<;>intro h h')|exact wZ|refine Aa ?_ ?_)<;>try refine F1 ?_)
 clear f1 f2 f3
 refine A2 (fun k:Nat=>⟨lk [(1,.ptr b 0),(20,.sl none 4 (BW none l)),(21,.int .i64 (l.length:Int)),(22,.int .i64 (k:Int))],lk [(b,[.int .i64 (n:Int),.sl none 4 (BW none l)])]⟩) (fun k=>k≤l.length∧Ac ((l.take k).all (Hr n)=true)) (fun k=>l.length - k) 0 ⟨by omega,rfl⟩ (An BA) ?_
 rintro k ⟨g1,g2⟩
 by_cases hk:k<l.length
 rotate_left
 ·have f5:Ac (decide ((k:Int)<l.length)=false):=fo
  have:l.all (Hr n)=true:=by
   have:=show (l.take k).all (Hr n)=true from g2
   rwa [B0 (by omega)]at this
  rw[this]
  clear g2 this hs
  refine F1 ?_
  repeat' ((first|exact tt|refine na fun b=>?_|refine nb fun b hb=>?_|refine iq ?_|(refine jq ?_ ?_<;>intro h h')|exact wZ|refine Aa ?_ ?_)<;>try refine F1 ?_)
 have f5:Ac (decide ((k:Int)<l.length)=true):=fo
 obtain ⟨s1,s2,s3⟩:=hs k hk
 have hN:Hr n (l.getD k default)=true→Ac ((l.take (k+1)).all (Hr n)=true):=fun h=>by
  show _=_
  rw[Ux _ hk,show (l.take k).all (Hr n)=true from g2,h];rfl
 have hF:Hr n (l.getD k default)=false→l.all (Hr n)=false:=fun h=>Uw hk h
 clear g2 hs
 obtain ⟨⟨xk,xv,xi,xp,x32⟩,hx⟩:∃ x,l.getD k default=x:=⟨_,rfl⟩
 rw[hx]at hN hF s1 s2 s3
 simp only at s1 s2 s3
 have hS:=ZF xk xv (by omega) (by omega)
 rw[show Hr n ⟨xk,xv,xi,xp,x32⟩=(ET xk xv&&(decide (0≤xi∧xi<(n:Int))&&decide (xp.length=BU (n:Int).toNat xi.toNat))) from rfl]at hN hF
 change CP _ _ _ (.bool (ET xk xv)) at hS
 have hlp:=Cm xp
 cases hz:ET xk xv with
 | false=>
  have hF:=hF (by rw[hz];rfl)
  rw[hz]at hS
  rw[hF]
  clear hN hF
  refine F1 ?_
  repeat' ((first|exact tt|refine Ab hS ?_|refine Ag hS ?_|refine na fun b=>?_|refine nb fun b hb=>?_|refine iq ?_|(refine jq ?_ ?_<;>intro h h')|exact wZ|refine Aa ?_ ?_)<;>try refine F1 ?_)
 | true=>
  rw[hz]at hS hN hF
  by_cases hi:0≤xi∧xi<n
  rotate_left
  ·have hF:=hF (by rw[A0 hi];rfl)
   rw[hF]
   have f6:Ac (¬ (0≤xi∧xi<n)):=hi
   clear hN hF hi
   refine F1 ?_
   repeat' ((first|exact tt|refine Ab hS ?_|refine Ag hS ?_|refine na fun b=>?_|refine nb fun b hb=>?_|refine iq ?_|(refine jq ?_ ?_<;>intro h h')|exact wZ|refine Aa ?_ ?_)<;>try refine F1 ?_)
   all_goals (exfalso;simp only[Ac,Hn]at *;omega)
  ·rw[AO hi]at hN hF
   obtain ⟨i1,i2⟩:=hi
   obtain ⟨i,rfl⟩:∃ i:Nat,xi=(i:Int):=⟨xi.toNat,by omega⟩
   rw[Dh,Dh]at hN hF
   have f6:Ac (decide ((i:Int)<0)=false):=fo
   have f7:Ac (decide ((n:Int)≤i)=false):=fo
   have hD:=Zr n i (by omega) (by omega)
   have e8:decide ((xp.length:Int)=(BU n i:Int))=decide (xp.length=BU n i):=by rw[decide_eq_decide];omega
   cases hd:decide (xp.length=BU n i) with
   | true=>
    rw[hd]at e8
    have hN1:=hN (by rw[hd];rfl)
    clear hN hF
    generalize BU n i=dd at *
    generalize AL xp=X at *
    refine F1 ?_
    repeat' ((first|exact tt|refine Ab hS ?_|refine Ag hS ?_|refine Ab hD ?_|refine Ag hD ?_|refine na fun b=>?_|refine nb fun b hb=>?_|refine iq ?_|(refine jq ?_ ?_<;>intro h h')|exact wZ|refine Aa ?_ ?_)<;>try refine F1 ?_)
    all_goals exact AC (k+1) ⟨An BA,⟨by omega,hN1⟩,by omega⟩
   | false=>
    rw[hd]at e8
    have hF:=hF (by rw[hd];rfl)
    rw[hF]
    clear hN hF
    generalize BU n i=dd at *
    generalize AL xp=X at *
    refine F1 ?_
    repeat' ((first|exact tt|refine Ab hS ?_|refine Ag hS ?_|refine Ab hD ?_|refine Ag hD ?_|refine na fun b=>?_|refine nb fun b hb=>?_|refine iq ?_|(refine jq ?_ ?_<;>intro h h')|exact wZ|refine Aa ?_ ?_)<;>try refine F1 ?_)
end
end Go.Proofs.YtfgihnhoocnmdaaGreatDoor
