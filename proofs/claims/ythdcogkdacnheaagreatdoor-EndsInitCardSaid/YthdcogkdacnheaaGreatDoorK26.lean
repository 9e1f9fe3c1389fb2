import Derived.Test.YthdcogkdacnheaaGreatDoorK25
import Derived.Test.YthdcogkdacnheaaGreatDoorK21
namespace Go.Proofs.YthdcogkdacnheaaGreatDoor
set_option linter.all false
set_option maxHeartbeats 9000000
section
open Go.RowKit Go.Lib
set_option maxRecDepth 100000
theorem set_perm{L:List PrP}{k:List UInt8}(h:a1I L k=false)(v:List UInt8):(a3o L k v).Perm ((k,v)::L):=by
 rw[setS_f h]
 unfold a6n
 have h1:(L.take (a0z L k)++[(k,v)]++L.drop (a0z L k)).Perm ((k,v)::(L.take (a0z L k)++L.drop (a0z L k))):=by
  rw[List.append_assoc];exact List.perm_middle
 rwa [List.take_append_drop]at h1
theorem key_q{w:Int}{p:List UInt8}{c:Int}(hk:4≤w∧w≤7)(hm:a1E p c=true):OfQ (ofP w p c 0) w p c 0:=by
 rcases @ofP_q w p c 0 with h|h
 ·exact absurd h (ofP_some hk hm)
 ·exact h
theorem key_inj{w w':Int}{p p':List UInt8}{c c':Int}(hk:4≤w∧w≤7)(hk':4≤w'∧w'≤7)(hm:a1E p c=true)(hm':a1E p' c'=true)(e:ofP w p c 0=ofP w' p' c' 0):w=w'∧p=p'∧c=c':=by
 have a:=key_q hk hm
 rw[e]at a
 have:=a.inj (key_q hk' hm')
 exact ⟨this.1,this.2.1,this.2.2.1⟩
theorem okG_parts{x:GnC}(h:okG x=true):a1E x.p x.c=true∧a1E x.q x.d=true∧1≤x.n∧x.n≤1099511627777:=by
 simp only[okG,Bool.and_eq_true,decide_eq_true_eq]at h
 exact ⟨h.1.1,h.1.2,h.2.1,h.2.2⟩
theorem own_may{x:GnC}(h:okG x=true):(a8r x).may=true:=by
 have:=okG_parts h
 simp[Es.may,a8r,this.2.1]
theorem a7U:∀ (l:List GnC) (s:List a1C),a6m s l=0→(∀ x∈l,okG x=true∧a2B x ∉ s)∧(l.map a2B).Nodup
 | [],s,_=>⟨(fun x h=>by cases h),List.nodup_nil⟩
 | x::r,s,h=>by
  rw[a6m]at h
  by_cases h1:okG x=false
  ·rw[if_pos h1]at h;cases h
  rw[if_neg h1,b0g]at h
  by_cases h2:a2B x∈s
  ·rw[if_pos (decide_eq_true h2)]at h;cases h
  rw[if_neg (by simp[h2])]at h
  have ih:=a7U r _ h
  refine ⟨fun y hy=>?_, ?_⟩
  ·rcases List.mem_cons.1 hy with rfl|hy
   ·exact ⟨by simpa using h1,h2⟩
   ·exact ⟨(ih.1 y hy).1,fun hs=>(ih.1 y hy).2 (List.mem_append_left _ hs)⟩
  ·rw[List.map_cons,List.nodup_cons]
   refine ⟨fun hx=>?_,ih.2⟩
   obtain ⟨y,hy,e⟩:=List.mem_map.1 hx
   exact (ih.1 y hy).2 (by rw[e];simp)
structure GoodG (l:List GnC):Prop where
 len:l.length≤6
 ok:∀ i,i<l.length→okG (l.getD i default)=true
 apart:∀ i j,i<j→j<l.length→a2B (l.getD i default)≠a2B (l.getD j default)
theorem good_of{l:List GnC}(h:a9g l=0):GoodG l:=by
 unfold a9g at h
 by_cases h6:6<l.length
 ·rw[if_pos h6]at h;cases h
 rw[if_neg h6]at h
 have hz:=a7U l [] h
 refine ⟨by omega,fun i hi=>?_,fun i j hij hj=>?_⟩
 ·have e:l.getD i default=l[i]:=by simp[List.getD,hi]
  rw[e];exact (hz.1 _ (List.getElem_mem hi)).1
 ·have e1:l.getD i default=l[i]:=by simp[List.getD,show i<l.length by omega]
  have e2:l.getD j default=l[j]:=by simp[List.getD,hj]
  rw[e1,e2]
  have:=List.pairwise_iff_getElem.1 hz.2 i j (by simp;omega) (by simpa using hj) hij
  simpa using this
def b1d(x:GnC)(w:Nat):List UInt8:=if w=7 then (a8r x).enc else pn x.n
noncomputable def b2f (x:GnC) (w:Nat):PrP:=(ofP (w:Int) x.p x.c 0,b1d x w)
noncomputable def a6v (l:List GnC):Nat→List PrP
 | 0=>[]
 | i+1=>b2f (l.getD i default) 6::b2f (l.getD i default) 5::b2f (l.getD i default) 4::b2f (l.getD i default) 7::a6v l i
theorem ents_mem{l:List GnC}{q:PrP}:∀ {i:Nat},q∈a6v l i↔∃ j w,j<i∧(4≤w∧w≤7)∧q=b2f (l.getD j default) w
 | 0=>by simp[a6v]
 | i+1=>by
  simp only[a6v,List.mem_cons,ents_mem (i:=i)]
  constructor
  ·rintro (h|h|h|h | ⟨j,w,h1,h2,h3⟩)
   ·exact ⟨i,6,by omega,by omega,h⟩
   ·exact ⟨i,5,by omega,by omega,h⟩
   ·exact ⟨i,4,by omega,by omega,h⟩
   ·exact ⟨i,7,by omega,by omega,h⟩
   ·exact ⟨j,w,by omega,h2,h3⟩
  ·rintro ⟨j,w,h1,h2,h3⟩
   by_cases e:j=i
   ·subst e
    obtain rfl|rfl|rfl|rfl:w=4∨w=5∨w=6∨w=7:=by omega
    ·exact .inr (.inr (.inl h3))
    ·exact .inr (.inl h3)
    ·exact .inl h3
    ·exact .inr (.inr (.inr (.inl h3)))
   ·exact .inr (.inr (.inr (.inr ⟨j,w,by omega,h2,h3⟩)))
theorem enc_own{x:GnC}(h:okG x=true):a3d (a8r x)=((a8r x).enc,0):=by simp[a3d,own_may h]
theorem lay_step{L S:List PrP}(hr:a2a L)(hp:L.Perm S){k v:List UInt8}(hk:∀ q∈S,q.1≠k):a2a (a3o L k v)∧(a3o L k v).Perm ((k,v)::S):=by
 have hh:a1I L k=false:=by
  cases h:a1I L k with
  | false=>rfl
  | true=>exact absurd rfl (hk _ (hp.mem_iff.1 (found_mem h)))
 exact ⟨setS_rise hr k v,(set_perm hh v).trans (hp.cons _)⟩
theorem ini_perm{l:List GnC}(g:GoodG l):∀ {i:Nat},i≤l.length→a2a (a1Z l i)∧(a1Z l i).Perm (a6v l i)
 | 0,_=>⟨a9F,List.Perm.refl _⟩
 | i+1,hi=>by
  obtain ⟨h1,h2⟩:=ini_perm g (i:=i) (by omega)
  have hok:=okG_parts (g.ok i (by omega))
  have hold:∀ w:Nat,4≤w∧w≤7→∀ q∈a6v l i,q.1≠ofP (w:Int) (l.getD i default).p (l.getD i default).c 0:=by
   rintro w hw q hq e
   obtain ⟨j,w',hj,hw',rfl⟩:=ents_mem.1 hq
   have:=key_inj (by omega) (by omega) (okG_parts (g.ok j (by omega))).1 hok.1 e
   exact g.apart j i hj (by omega) (by simp only[a2B];rw[this.2.1,this.2.2])
  have hnew:∀ w w':Nat,4≤w∧w≤7→4≤w'∧w'≤7→w≠w'→(b2f (l.getD i default) w).1≠ofP (w':Int) (l.getD i default).p (l.getD i default).c 0:=by
   rintro w w' hw hw' hne e
   have:=key_inj (by omega) (by omega) hok.1 hok.1 e
   omega
  have e7:a8E (a1Z l i) (l.getD i default)=a3o (a1Z l i) (ofP ((7:Nat):Int) (l.getD i default).p (l.getD i default).c 0) (b1d (l.getD i default) 7):=by
   unfold a8E b1d;rw[enc_own (g.ok i (by omega)),if_pos rfl];rfl
  have s7:=lay_step h1 h2 (v:=b1d (l.getD i default) 7) (hold 7 (by omega))
  rw[← e7]at s7
  have s4:=lay_step s7.1 s7.2 (k:=ofP ((4:Nat):Int) (l.getD i default).p (l.getD i default).c 0) (v:=pn (l.getD i default).n) (fun q hq=>by
   rcases List.mem_cons.1 hq with rfl|hq
   ·exact hnew 7 4 (by omega) (by omega) (by omega)
   ·exact hold 4 (by omega) q hq)
  have s5:=lay_step s4.1 s4.2 (k:=ofP ((5:Nat):Int) (l.getD i default).p (l.getD i default).c 0) (v:=pn (l.getD i default).n) (fun q hq=>by
   rcases List.mem_cons.1 hq with rfl|hq
   ·exact hnew 4 5 (by omega) (by omega) (by omega)
   rcases List.mem_cons.1 hq with rfl|hq
   ·exact hnew 7 5 (by omega) (by omega) (by omega)
   ·exact hold 5 (by omega) q hq)
  have s6:=lay_step s5.1 s5.2 (k:=ofP ((6:Nat):Int) (l.getD i default).p (l.getD i default).c 0) (v:=pn (l.getD i default).n) (fun q hq=>by
   rcases List.mem_cons.1 hq with rfl|hq
   ·exact hnew 5 6 (by omega) (by omega) (by omega)
   rcases List.mem_cons.1 hq with rfl|hq
   ·exact hnew 4 6 (by omega) (by omega) (by omega)
   rcases List.mem_cons.1 hq with rfl|hq
   ·exact hnew 7 6 (by omega) (by omega) (by omega)
   ·exact hold 6 (by omega) q hq)
  exact s6
theorem a7j(l:List GnC):∀ i,(a6v l i).length=4 * i
 | 0=>rfl
 | i+1=>by simp only[a6v,List.length_cons,a7j l i];omega
theorem ini_N{l:List GnC}(g:GoodG l){i:Nat}(hi:i≤l.length):StI (a1Z l i):=by
 obtain ⟨h1,h2⟩:=ini_perm g hi
 refine ⟨h1,fun q hq=>?_, ?_⟩
 ·obtain ⟨j,w,hj,hw,rfl⟩:=ents_mem.1 (h2.mem_iff.1 hq)
  have ho:=g.ok j (by omega)
  have hp:=okG_parts ho
  show a1T (ofP (w:Int) (l.getD j default).p (l.getD j default).c 0) (b1d (l.getD j default) w)=true
  rw[mayPr_of (by omega),hp.1]
  unfold b1d
  split
  ·exact ⟨enc_pos (own_may ho),enc_len (own_may ho)⟩
  ·exact ⟨b0K _ (by omega),by have:=a0M (l.getD j default).n;omega⟩
 ·have:=h2.length_eq
  rw[a7j]at this
  have:=g.len
  omega
theorem ini_len{l:List GnC}(g:GoodG l){i:Nat}(hi:i≤l.length):(a1Z l i).length=4 * i:=by
 rw[(ini_perm g hi).2.length_eq,a7j]
theorem ini_found{l:List GnC}(g:GoodG l){i j:Nat}(hi:i≤l.length)(hj:j<i){w:Nat}(hw:4≤w∧w≤7):
  a1I (a1Z l i) (ofP (w:Int) (l.getD j default).p (l.getD j default).c 0)=true∧a4g (a1Z l i) (ofP (w:Int) (l.getD j default).p (l.getD j default).c 0)=b1d (l.getD j default) w:=by
 obtain ⟨h1,h2⟩:=ini_perm g hi
 exact mem_found h1 (h2.mem_iff.2 (ents_mem.2 ⟨j,w,hj,hw,rfl⟩))
theorem ini_get{l:List GnC}(g:GoodG l){i j:Nat}(hi:i≤l.length)(hj:j<i):a2R (a1Z l i) (l.getD j default).p (l.getD j default).c=(a8r (l.getD j default),true):=by
 have h:=ini_found g hi hj (w:=7) (by omega)
 have e:((7:Nat):Int)=7:=rfl
 rw[e]at h
 unfold a2R
 rw[h.1,h.2]
 have:b1d (l.getD j default) 7=(a8r (l.getD j default)).enc:=by unfold b1d;rw[if_pos rfl]
 rw[this,dec_back (own_may (g.ok j (by omega)))]
 simp
theorem ini_next{l:List GnC}(g:GoodG l){i j:Nat}(hi:i≤l.length)(hj:j<i){w:Nat}(hw:4≤w∧w≤6):a6w (a1Z l i) (w:Int) (l.getD j default).p (l.getD j default).c=(l.getD j default).n:=by
 have h:=ini_found g hi hj (w:=w) (by omega)
 have hn:=okG_parts (g.ok j (by omega))
 have hx:=a9x [] [] (l.getD j default).n (by omega)
 simp only[List.nil_append,List.append_nil,List.length_nil]at hx
 have hv:b1d (l.getD j default) w=pn (l.getD j default).n:=by unfold b1d;rw[if_neg (by omega)]
 have hx':nx (pn (l.getD j default).n) 0=((l.getD j default).n,((pn (l.getD j default).n).length:Int),0):=hx
 unfold a6w
 rw[h.2,hv,hx',if_pos]
 refine ⟨?_,rfl,by simp⟩
 simp only[okK,Bool.and_eq_true,decide_eq_true_eq];omega
theorem ents_count{l:List GnC}(g:GoodG l)(L:List PrP)(hL:∀ j,j<l.length→(a2R L (l.getD j default).p (l.getD j default).c).2=true):∀ {i:Nat},i≤l.length→((a6v l i).filter (okS L)).length=i
 | 0,_=>rfl
 | i+1,hi=>by
  have ih:=ents_count g L hL (i:=i) (by omega)
  have hp:=(okG_parts (g.ok i (by omega))).1
  have hs:∀ w:Nat,4≤w∧w≤7→okS L (b2f (l.getD i default) w)=decide (w=7):=by
   intro w hw
   have hr:a0R (b2f (l.getD i default) w).1=_:=readP_of (key_q (w:=(w:Int)) (by omega) hp)
   unfold okS rdE
   rw[hr]
   simp only[hL i (by omega),Bool.and_true,decide_true,Bool.true_and]
   rw[decide_eq_decide];omega
  simp only[a6v,List.filter_cons,hs 6 (by omega),hs 5 (by omega),hs 4 (by omega),hs 7 (by omega)]
  simp[ih]
theorem ini_ends{l:List GnC}(g:GoodG l):(a2b (a1Z l l.length) (a1Z l l.length)).length=l.length:=by
 obtain ⟨h1,h2⟩:=ini_perm g (Nat.le_refl l.length)
 unfold a2b
 rw[List.length_map,(h2.filter _).length_eq]
 exact ents_count g _ (fun j hj=>by rw[ini_get g (Nat.le_refl _) hj]) (Nat.le_refl _)
end
section
open Go.RowKit Go.Lib
set_option maxRecDepth 100000
theorem putR_own{x:GnC}(h:okG x=true):b3r x.p x.c (a8r x)=0:=(put_law (L:=[])).1.2 (by rw[(okG_parts h).1,own_may h];rfl)
theorem putE_own{x:GnC}(h:okG x=true)(L:List PrP):b3q L x.p x.c (a8r x)=a8E L x:=by
 rw[put_law.2,if_pos (by rw[(okG_parts h).1,own_may h];rfl)];rfl
theorem okN_own{x:GnC}(h:okG x=true){m:Nat}(hm:m<3):okN ((4+m:Nat):Int) x.n=true:=by
 have:=okG_parts h
 simp only[okN,okK,Bool.and_eq_true,decide_eq_true_eq];omega
theorem setN_own{x:GnC}(h:okG x=true){m:Nat}(hm:m<3)(L:List PrP):b3u (a2T L x m) ((4+m:Nat):Int) x.p x.c x.n=a2T L x (m+1):=by
 rw[setN_law.2,if_pos (by rw[(okG_parts h).1,okN_own h hm];rfl)];rfl
theorem setNR_own{x:GnC}(h:okG x=true){m:Nat}(hm:m<3):a9a ((4+m:Nat):Int) x.p x.c x.n=0:=(setN_law (L:=[])).1.2 (by rw[(okG_parts h).1,okN_own h hm];rfl)
theorem stI_put{L:List PrP}(h:StI L)(k v:List UInt8)(hl:L.length≤999):StI (a6T L k v):=by
 have:=(StN.put (i:=999) ⟨h.rise,h.may,hl⟩ k v)
 exact ⟨this.rise,this.may,this.len⟩
theorem iniA_I{x:GnC}(h:okG x=true){L:List PrP}(hI:StI L)(hl:L.length≤900):StI (a8E L x)∧(a8E L x).length≤L.length+1:=by
 have e:=putE_own h L
 unfold b3q at e
 rw[enc_own h,if_pos rfl]at e
 rw[← e]
 exact ⟨stI_put hI _ _ (by omega),a9E _ _ _⟩
theorem iniB_I{x:GnC}(h:okG x=true){L:List PrP}(hI:StI L)(hl:L.length≤900):∀ {m:Nat},m≤3→StI (a2T L x m)∧(a2T L x m).length≤L.length+m
 | 0,_=>⟨hI,Nat.le_refl _⟩
 | m+1,hm=>by
  obtain ⟨h1,h2⟩:=iniB_I h hI hl (m:=m) (by omega)
  have e:=setN_own h (m:=m) (by omega) L
  unfold b3u at e
  rw[if_pos (okN_own h (by omega))]at e
  rw[← e]
  have h3:=a9E (a2T L x m) (ofP ((4+m:Nat):Int) x.p x.c 0) (pn x.n)
  exact ⟨stI_put h1 _ _ (by omega),by omega⟩
theorem sxIno{A B:Prop}(h:B)(e:A=B:=by (simp (disch:=omega) only[*, ↓Ed,Eu, ↓reduceIte,reduceCtorEq,Nat.reduceAdd,Nat.reduceEqDiff,Nat.reduceLT,Nat.reduceLeDiff,Int.reduceToNat,Int.reduceEq,Int.reduceLT,Int.reduceLE,w64,a0l,a0k,GnC.cs];first|done|rfl)):A:=e▸h
set_option maxHeartbeats 8000000 in
theorem b3A(s:Nat)(l:List GnC)(hl:a6P l)(hb:l.length≤20)(hz:a9g l=0):CT Tryz.prog 29 [.ptr s 0,.sl none 6 (gns l)] (lk (stO s [] none)) (b1K s [] (a1Z l l.length) none 0):=by
 have hC:=a7F l hl (by omega)
 rw[hz]at hC
 refine a4v _ _ _ (by simp) ?_
 have g:=good_of hz
 simp (disch:=omega) only[a3Q,a0d, ↓Ed,Eu, ↓reduceIte,reduceCtorEq,Nat.reduceAdd,Nat.reduceEqDiff,Nat.reduceLT,Nat.reduceLeDiff,Int.reduceToNat,Int.reduceEq,Int.reduceLT,Int.reduceLE,w64,a0l,a0k,GnC.cs]
 repeat' ((first|refine CallO_pure (hC) ?_|refine NewB_intro0 (fun b=>?_)|(refine NewB_intro (fun b hb=>?_);simp only[ln_cons2,ln_nil,and_true]at hb)|(with_reducible apply wA;focus exact OM_a)|((first|refine gW_sp ?_|refine condW_sp ?_|refine pickW_sp ?_);(try refine Sp_n ?_);(first|refine wT ?_|refine wF ?_|refine wL (fun h h'=>?_) (fun h h'=>?_)|refine wE (fun h h'=>?_) (fun h h'=>?_)|refine Sp_split (fun h=>?_) (fun h=>?_))<;>(try (exfalso;omega)))|refine TreeW_intro (by rfl) ?_|refine TreeW_all ?_|refine a0a ?_|refine Two_intro ?_ ?_|exact wZ|fail)<;>(try refine sxIno ?_)<;>(try exact True.intro))
 clear hC hz
 refine wpx_loop (fun q:Nat × StS=>⟨lk [(0,.ptr s 0),(14,.sl none 6 (gns l)),(15,.int .i64 l.length),(16,.int .i64 (q.1:Int))],lk (stO s (a1Z l q.1) q.2)⟩) (fun q=>q.1≤l.length∧stOk s (a1Z l q.1) q.2) (fun q=>l.length - q.1) (0,none) ⟨by simp,rfl⟩ (Le_lit (by simp[LeL,lk,a0d,a1Z])) ?_
 rintro ⟨i,x⟩ ⟨i1,hx⟩
 simp only at i1 hx
 by_cases hil:i<l.length
 rotate_left
 ·obtain rfl:i=l.length:=by omega
  have f1:a0f (decide ((l.length:Int)<l.length)=false):=by simp only[a0f,Bool.not_eq_true',Bool.not_eq_false',decide_eq_true_eq,decide_eq_false_iff_not];omega
  rcases x with _ | ⟨g,cap⟩
  ·simp (disch:=omega) only[a0d, ↓Ed,Eu, ↓reduceIte,reduceCtorEq,Nat.reduceAdd,Nat.reduceEqDiff,Nat.reduceLT,Nat.reduceLeDiff,Int.reduceToNat,Int.reduceEq,Int.reduceLT,Int.reduceLE,w64,a0l,a0k,GnC.cs]
   repeat' ((first|refine NewB_intro0 (fun b=>?_)|(refine NewB_intro (fun b hb=>?_);simp only[ln_cons2,ln_nil,and_true]at hb)|(with_reducible apply wA;focus exact OM_a)|((first|refine gW_sp ?_|refine condW_sp ?_|refine pickW_sp ?_);(try refine Sp_n ?_);(first|refine wT ?_|refine wF ?_|refine wL (fun h h'=>?_) (fun h h'=>?_)|refine wE (fun h h'=>?_) (fun h h'=>?_)|refine Sp_split (fun h=>?_) (fun h=>?_))<;>(try (exfalso;omega)))|refine TreeW_intro (by rfl) ?_|refine TreeW_all ?_|refine a0a ?_|refine Two_intro ?_ ?_|exact wZ|fail)<;>(try refine sxIno ?_)<;>(try exact True.intro))
   all_goals exact ro_st (L:=[]) (x:=none) none ⟨hx,fun _=>rfl⟩ (by simp[a0P,arR,lk]) (by simp[*,LeL,lk,a0d,ov_cons,ov_nil,del_cons,del_nil])
  ·have hgs:=hx.1
   simp (disch:=omega) only[a0b, ↓Ed,Eu, ↓reduceIte,reduceCtorEq,Nat.reduceAdd,Nat.reduceEqDiff,Nat.reduceLT,Nat.reduceLeDiff,Int.reduceToNat,Int.reduceEq,Int.reduceLT,Int.reduceLE,w64,a0l,a0k,GnC.cs]
   repeat' ((first|refine NewB_intro0 (fun b=>?_)|(refine NewB_intro (fun b hb=>?_);simp only[ln_cons2,ln_nil,and_true]at hb)|(with_reducible apply wA;focus exact OM_a)|((first|refine gW_sp ?_|refine condW_sp ?_|refine pickW_sp ?_);(try refine Sp_n ?_);(first|refine wT ?_|refine wF ?_|refine wL (fun h h'=>?_) (fun h h'=>?_)|refine wE (fun h h'=>?_) (fun h h'=>?_)|refine Sp_split (fun h=>?_) (fun h=>?_))<;>(try (exfalso;omega)))|refine TreeW_intro (by rfl) ?_|refine TreeW_all ?_|refine a0a ?_|refine Two_intro ?_ ?_|exact wZ|fail)<;>(try refine sxIno ?_)<;>(try exact True.intro))
   all_goals exact ro_st (L:=[]) (x:=none) (some (g,cap)) ⟨hx,fun h=>by cases h⟩ (by simp[a0P,arR,lk]) (by simp[*,LeL,lk,a0d,a0b,ov_cons,ov_nil,del_cons,del_nil])
 have f1:a0f (decide ((i:Int)<l.length)=true):=by simp only[a0f,Bool.not_eq_true',Bool.not_eq_false',decide_eq_true_eq,decide_eq_false_iff_not];omega
 have ok:=g.ok i hil
 have hli:=hl i hil
 have hI:=ini_N g (i:=i) (by omega)
 have hll:(a1Z l i).length≤900:=by rw[ini_len g (by omega)];omega
 have hs1:a1Z l (i+1)=a2T (a8E (a1Z l i) (l.getD i default)) (l.getD i default) 3:=rfl
 have hA:=iniA_I ok hI hll
 have hB:=fun m (hm:m≤3)=>(iniB_I ok hA.1 (by have:=hA.2;have:=ini_len g (i:=i) (by omega);have:=g.len;omega) hm).1
 have hP:=b2B s (a1Z l i) hI (l.getD i default).p (l.getD i default).c (by omega) (a8r (l.getD i default)) (by simp only[a8r];omega) x hx
 rw[putE_own ok,putR_own ok]at hP
 have hSN:=fun m (hm:m<3)=>setN_own ok hm (a8E (a1Z l i) (l.getD i default))
 have hSR:=fun m (hm:m<3)=>setNR_own ok hm
 have iniA_ne:∀ (_ _:Unit), ¬ stOk s (a8E (a1Z l i) (l.getD i default)) none:=by
  intro _ _ h
  have h':a8E (a1Z l i) (l.getD i default)=[]:=h
  have:=a9b (a1Z l i) (ofP 7 (l.getD i default).p (l.getD i default).c 0) (a3d (a8r (l.getD i default))).1
  unfold a8E at h'
  rw[h']at this;cases this
 obtain ⟨y,hy⟩:∃ y,l.getD i default=y:=⟨_,rfl⟩
 rw[hy]at hs1 hB hP hSN hSR iniA_ne hli
 obtain ⟨hp,hq⟩:=hli
 clear ok hI hll hA g
 generalize hL3:a1Z l (i+1)=L3 at *
 generalize a1Z l i=L0 at *
 generalize a8E L0 y=L1 at *
 obtain ⟨p,c,q',d,o,n⟩:=y
 simp only[a8r]at hp hq hP hSN hSR
 have hS:=hP
 clear hP
 rcases x with _ | ⟨g,cap⟩
 ·simp only[a0d]at hS ⊢
  simp (disch:=omega) only[hy, ↓Ed,Eu, ↓reduceIte,reduceCtorEq,Nat.reduceAdd,Nat.reduceEqDiff,Nat.reduceLT,Nat.reduceLeDiff,Int.reduceToNat,Int.reduceEq,Int.reduceLT,Int.reduceLE,w64,a0l,a0k,GnC.cs]
  repeat' ((first|((refine c_set0 hS (fun h0=>?_) (fun gb gc hn h2 hc=>?_))<;>(try simp only[ln_cons2,ln_nil,and_true]at hn))|((refine c_set1 hS (fun gc hc=>?_) (fun gb gc hn h2 hc=>?_))<;>(try simp only[ln_cons2,ln_nil,and_true]at hn))|refine NewB_intro0 (fun b=>?_)|(refine NewB_intro (fun b hb=>?_);simp only[ln_cons2,ln_nil,and_true]at hb)|(with_reducible apply wA;focus exact OM_a)|((first|refine gW_sp ?_|refine condW_sp ?_|refine pickW_sp ?_);(try refine Sp_n ?_);(first|refine wT ?_|refine wF ?_|refine wL (fun h h'=>?_) (fun h h'=>?_)|refine wE (fun h h'=>?_) (fun h h'=>?_)|refine Sp_split (fun h=>?_) (fun h=>?_))<;>(try (exfalso;omega)))|refine TreeW_intro (by rfl) ?_|refine TreeW_all ?_|refine a0a ?_|refine Two_intro ?_ ?_|exact wZ|fail)<;>(try refine sxIno ?_)<;>(try exact True.intro))
  all_goals first
  | (exfalso;exact iniA_ne () () h0)
  | refine wpx_loop (fun q:Nat × Nat × Nat=>⟨lk [(0,.ptr s 0),(7,.ptr b 0),(8,.int .i64 ((4+q.1:Nat):Int)),(14,.sl none 6 (gns l)),(15,.int .i64 l.length),(16,.int .i64 (i:Int))],lk ((b,[.str p,.int .i64 c,.str q',.int .i64 d,.bool o,.int .i64 n])::stO s (a2T L1 ⟨p,c,q',d,o,n⟩ q.1) (some (q.2.1,q.2.2)))⟩) (fun q=>q.1≤3∧stOk s (a2T L1 ⟨p,c,q',d,o,n⟩ q.1) (some (q.2.1,q.2.2))∧(¬ q.2.1=b∧¬ b=q.2.1)) (fun q=>3 - q.1) (0,gb,gc) ⟨by simp,⟨h2,hc⟩,by simp[*]⟩ (Le_lit (by first|(simp[LeL,lk,a0b,a2T, *];done)|fail)) ?_
  | refine wpx_loop (fun q:Nat × Nat × Nat=>⟨lk [(0,.ptr s 0),(7,.ptr b 0),(8,.int .i64 ((4+q.1:Nat):Int)),(14,.sl none 6 (gns l)),(15,.int .i64 l.length),(16,.int .i64 (i:Int))],lk ((b,[.str p,.int .i64 c,.str q',.int .i64 d,.bool o,.int .i64 n])::stO s (a2T L1 ⟨p,c,q',d,o,n⟩ q.1) (some (q.2.1,q.2.2)))⟩) (fun q=>q.1≤3∧stOk s (a2T L1 ⟨p,c,q',d,o,n⟩ q.1) (some (q.2.1,q.2.2))∧(¬ q.2.1=b∧¬ b=q.2.1)) (fun q=>3 - q.1) (0,g,gc) ⟨by simp,⟨hgs,hc⟩,by simp[*]⟩ (Le_lit (by first|(simp[LeL,lk,a0b,a2T, *];done)|fail)) ?_
  all_goals
   clear hS
   rintro ⟨m,g1,c1⟩ ⟨m1,hx1,hd⟩
   simp only at m1 hx1 hd
   have hIB:=hB m m1
   have hN:=a7G ((4+m:Nat):Int)
   by_cases hm3:m<3
   ·have hk:okK ((4+m:Nat):Int)=true:=by simp only[okK,Bool.and_eq_true,decide_eq_true_eq];omega
    rw[hk]at hN
    have hS:=a4S s (a2T L1 ⟨p,c,q',d,o,n⟩ m) hIB ((4+m:Nat):Int) p c (by omega) n (some (g1,c1)) hx1
    rw[hSN m hm3,hSR m hm3]at hS
    clear hIB hB hSN hSR hk
    generalize hL4:a2T L1 ⟨p,c,q',d,o,n⟩ (m+1)=L4 at *
    generalize a2T L1 ⟨p,c,q',d,o,n⟩ m=L5 at *
    have hg1:=hx1.1
    have e4:((4+m:Nat):Int)+1=((4+(m+1):Nat):Int):=by omega
    generalize hkk:((4+m:Nat):Int)=kk at *
    simp only[a0b]at hS ⊢
    simp (disch:=omega) only[↓Ed,Eu, ↓reduceIte,reduceCtorEq,Nat.reduceAdd,Nat.reduceEqDiff,Nat.reduceLT,Nat.reduceLeDiff,Int.reduceToNat,Int.reduceEq,Int.reduceLT,Int.reduceLE,w64,a0l,a0k,GnC.cs]
    repeat' ((first|refine CallO_pure (hN) ?_|((refine c_set0 hS (fun h0=>?_) (fun gb gc hn h2 hc=>?_))<;>(try simp only[ln_cons2,ln_nil,and_true]at hn))|((refine c_set1 hS (fun gc hc=>?_) (fun gb gc hn h2 hc=>?_))<;>(try simp only[ln_cons2,ln_nil,and_true]at hn))|refine NewB_intro0 (fun b=>?_)|(refine NewB_intro (fun b hb=>?_);simp only[ln_cons2,ln_nil,and_true]at hb)|(with_reducible apply wA;focus exact OM_a)|((first|refine gW_sp ?_|refine condW_sp ?_|refine pickW_sp ?_);(try refine Sp_n ?_);(first|refine wT ?_|refine wF ?_|refine wL (fun h h'=>?_) (fun h h'=>?_)|refine wE (fun h h'=>?_) (fun h h'=>?_)|refine Sp_split (fun h=>?_) (fun h=>?_))<;>(try (exfalso;omega)))|refine TreeW_intro (by rfl) ?_|refine TreeW_all ?_|refine a0a ?_|refine Two_intro ?_ ?_|exact wZ|fail)<;>(try refine sxIno ?_)<;>(try exact True.intro))
    all_goals first
    | exact Round_lit (m+1,gb,gc) ⟨Le_lit (by first|(simp[LeL,lk,a0b, *];done)|fail),⟨by simp only;omega,by simp only[hL4];exact ⟨h2,hc⟩,by simp[*]⟩,by simp only;omega⟩
    | exact Round_lit (m+1,g1,gc) ⟨Le_lit (by first|(simp[LeL,lk,a0b, *];done)|fail),⟨by simp only;omega,by simp only[hL4];exact ⟨hg1,hc⟩,by simp[*]⟩,by simp only;omega⟩
   ·obtain rfl:m=3:=by omega
    have hk:okK ((4+3:Nat):Int)=false:=rfl
    rw[hk]at hN
    clear hIB hB hSN hSR hk
    simp only[a0b]
    rw[← hs1]at hx1 ⊢
    have hg1:=hx1.1
    clear hs1
    simp (disch:=omega) only[a0b, ↓Ed,Eu, ↓reduceIte,reduceCtorEq,Nat.reduceAdd,Nat.reduceEqDiff,Nat.reduceLT,Nat.reduceLeDiff,Int.reduceToNat,Int.reduceEq,Int.reduceLT,Int.reduceLE,w64,a0l,a0k,GnC.cs]
    repeat' ((first|refine CallO_pure (hN) ?_|refine NewB_intro0 (fun b=>?_)|(refine NewB_intro (fun b hb=>?_);simp only[ln_cons2,ln_nil,and_true]at hb)|(with_reducible apply wA;focus exact OM_a)|((first|refine gW_sp ?_|refine condW_sp ?_|refine pickW_sp ?_);(try refine Sp_n ?_);(first|refine wT ?_|refine wF ?_|refine wL (fun h h'=>?_) (fun h h'=>?_)|refine wE (fun h h'=>?_) (fun h h'=>?_)|refine Sp_split (fun h=>?_) (fun h=>?_))<;>(try (exfalso;omega)))|refine TreeW_intro (by rfl) ?_|refine TreeW_all ?_|refine a0a ?_|refine Two_intro ?_ ?_|exact wZ|fail)<;>(try refine sxIno ?_)<;>(try exact True.intro))
    all_goals exact Round_lit (i+1,some (g1,c1)) ⟨Le_lit (by first|(simp[LeL,lk,a0b, *];done)|fail),⟨hil,by simp only[hL3];exact hx1⟩,by simp only;omega⟩
 ·have hgs:=hx.1
  simp only[a0b]at hS ⊢
  simp (disch:=omega) only[hy, ↓Ed,Eu, ↓reduceIte,reduceCtorEq,Nat.reduceAdd,Nat.reduceEqDiff,Nat.reduceLT,Nat.reduceLeDiff,Int.reduceToNat,Int.reduceEq,Int.reduceLT,Int.reduceLE,w64,a0l,a0k,GnC.cs]
  repeat' ((first|((refine c_set0 hS (fun h0=>?_) (fun gb gc hn h2 hc=>?_))<;>(try simp only[ln_cons2,ln_nil,and_true]at hn))|((refine c_set1 hS (fun gc hc=>?_) (fun gb gc hn h2 hc=>?_))<;>(try simp only[ln_cons2,ln_nil,and_true]at hn))|refine NewB_intro0 (fun b=>?_)|(refine NewB_intro (fun b hb=>?_);simp only[ln_cons2,ln_nil,and_true]at hb)|(with_reducible apply wA;focus exact OM_a)|((first|refine gW_sp ?_|refine condW_sp ?_|refine pickW_sp ?_);(try refine Sp_n ?_);(first|refine wT ?_|refine wF ?_|refine wL (fun h h'=>?_) (fun h h'=>?_)|refine wE (fun h h'=>?_) (fun h h'=>?_)|refine Sp_split (fun h=>?_) (fun h=>?_))<;>(try (exfalso;omega)))|refine TreeW_intro (by rfl) ?_|refine TreeW_all ?_|refine a0a ?_|refine Two_intro ?_ ?_|exact wZ|fail)<;>(try refine sxIno ?_)<;>(try exact True.intro))
  all_goals first
  | (exfalso;exact iniA_ne () () h0)
  | refine wpx_loop (fun q:Nat × Nat × Nat=>⟨lk [(0,.ptr s 0),(7,.ptr b 0),(8,.int .i64 ((4+q.1:Nat):Int)),(14,.sl none 6 (gns l)),(15,.int .i64 l.length),(16,.int .i64 (i:Int))],lk ((b,[.str p,.int .i64 c,.str q',.int .i64 d,.bool o,.int .i64 n])::stO s (a2T L1 ⟨p,c,q',d,o,n⟩ q.1) (some (q.2.1,q.2.2)))⟩) (fun q=>q.1≤3∧stOk s (a2T L1 ⟨p,c,q',d,o,n⟩ q.1) (some (q.2.1,q.2.2))∧(¬ q.2.1=b∧¬ b=q.2.1)) (fun q=>3 - q.1) (0,gb,gc) ⟨by simp,⟨h2,hc⟩,by simp[*]⟩ (Le_lit (by first|(simp[LeL,lk,a0b,a2T, *];done)|fail)) ?_
  | refine wpx_loop (fun q:Nat × Nat × Nat=>⟨lk [(0,.ptr s 0),(7,.ptr b 0),(8,.int .i64 ((4+q.1:Nat):Int)),(14,.sl none 6 (gns l)),(15,.int .i64 l.length),(16,.int .i64 (i:Int))],lk ((b,[.str p,.int .i64 c,.str q',.int .i64 d,.bool o,.int .i64 n])::stO s (a2T L1 ⟨p,c,q',d,o,n⟩ q.1) (some (q.2.1,q.2.2)))⟩) (fun q=>q.1≤3∧stOk s (a2T L1 ⟨p,c,q',d,o,n⟩ q.1) (some (q.2.1,q.2.2))∧(¬ q.2.1=b∧¬ b=q.2.1)) (fun q=>3 - q.1) (0,g,gc) ⟨by simp,⟨hgs,hc⟩,by simp[*]⟩ (Le_lit (by first|(simp[LeL,lk,a0b,a2T, *];done)|fail)) ?_
  all_goals
   clear hS
   rintro ⟨m,g1,c1⟩ ⟨m1,hx1,hd⟩
   simp only at m1 hx1 hd
   have hIB:=hB m m1
   have hN:=a7G ((4+m:Nat):Int)
   by_cases hm3:m<3
   ·have hk:okK ((4+m:Nat):Int)=true:=by simp only[okK,Bool.and_eq_true,decide_eq_true_eq];omega
    rw[hk]at hN
    have hS:=a4S s (a2T L1 ⟨p,c,q',d,o,n⟩ m) hIB ((4+m:Nat):Int) p c (by omega) n (some (g1,c1)) hx1
    rw[hSN m hm3,hSR m hm3]at hS
    clear hIB hB hSN hSR hk
    generalize hL4:a2T L1 ⟨p,c,q',d,o,n⟩ (m+1)=L4 at *
    generalize a2T L1 ⟨p,c,q',d,o,n⟩ m=L5 at *
    have hg1:=hx1.1
    have e4:((4+m:Nat):Int)+1=((4+(m+1):Nat):Int):=by omega
    generalize hkk:((4+m:Nat):Int)=kk at *
    simp only[a0b]at hS ⊢
    simp (disch:=omega) only[↓Ed,Eu, ↓reduceIte,reduceCtorEq,Nat.reduceAdd,Nat.reduceEqDiff,Nat.reduceLT,Nat.reduceLeDiff,Int.reduceToNat,Int.reduceEq,Int.reduceLT,Int.reduceLE,w64,a0l,a0k,GnC.cs]
    repeat' ((first|refine CallO_pure (hN) ?_|((refine c_set0 hS (fun h0=>?_) (fun gb gc hn h2 hc=>?_))<;>(try simp only[ln_cons2,ln_nil,and_true]at hn))|((refine c_set1 hS (fun gc hc=>?_) (fun gb gc hn h2 hc=>?_))<;>(try simp only[ln_cons2,ln_nil,and_true]at hn))|refine NewB_intro0 (fun b=>?_)|(refine NewB_intro (fun b hb=>?_);simp only[ln_cons2,ln_nil,and_true]at hb)|(with_reducible apply wA;focus exact OM_a)|((first|refine gW_sp ?_|refine condW_sp ?_|refine pickW_sp ?_);(try refine Sp_n ?_);(first|refine wT ?_|refine wF ?_|refine wL (fun h h'=>?_) (fun h h'=>?_)|refine wE (fun h h'=>?_) (fun h h'=>?_)|refine Sp_split (fun h=>?_) (fun h=>?_))<;>(try (exfalso;omega)))|refine TreeW_intro (by rfl) ?_|refine TreeW_all ?_|refine a0a ?_|refine Two_intro ?_ ?_|exact wZ|fail)<;>(try refine sxIno ?_)<;>(try exact True.intro))
    all_goals first
    | exact Round_lit (m+1,gb,gc) ⟨Le_lit (by first|(simp[LeL,lk,a0b, *];done)|fail),⟨by simp only;omega,by simp only[hL4];exact ⟨h2,hc⟩,by simp[*]⟩,by simp only;omega⟩
    | exact Round_lit (m+1,g1,gc) ⟨Le_lit (by first|(simp[LeL,lk,a0b, *];done)|fail),⟨by simp only;omega,by simp only[hL4];exact ⟨hg1,hc⟩,by simp[*]⟩,by simp only;omega⟩
   ·obtain rfl:m=3:=by omega
    have hk:okK ((4+3:Nat):Int)=false:=rfl
    rw[hk]at hN
    clear hIB hB hSN hSR hk
    simp only[a0b]
    rw[← hs1]at hx1 ⊢
    have hg1:=hx1.1
    clear hs1
    simp (disch:=omega) only[a0b, ↓Ed,Eu, ↓reduceIte,reduceCtorEq,Nat.reduceAdd,Nat.reduceEqDiff,Nat.reduceLT,Nat.reduceLeDiff,Int.reduceToNat,Int.reduceEq,Int.reduceLT,Int.reduceLE,w64,a0l,a0k,GnC.cs]
    repeat' ((first|refine CallO_pure (hN) ?_|refine NewB_intro0 (fun b=>?_)|(refine NewB_intro (fun b hb=>?_);simp only[ln_cons2,ln_nil,and_true]at hb)|(with_reducible apply wA;focus exact OM_a)|((first|refine gW_sp ?_|refine condW_sp ?_|refine pickW_sp ?_);(try refine Sp_n ?_);(first|refine wT ?_|refine wF ?_|refine wL (fun h h'=>?_) (fun h h'=>?_)|refine wE (fun h h'=>?_) (fun h h'=>?_)|refine Sp_split (fun h=>?_) (fun h=>?_))<;>(try (exfalso;omega)))|refine TreeW_intro (by rfl) ?_|refine TreeW_all ?_|refine a0a ?_|refine Two_intro ?_ ?_|exact wZ|fail)<;>(try refine sxIno ?_)<;>(try exact True.intro))
    all_goals exact Round_lit (i+1,some (g1,c1)) ⟨Le_lit (by first|(simp[LeL,lk,a0b, *];done)|fail),⟨hil,by simp only[hL3];exact hx1⟩,by simp only;omega⟩
set_option maxHeartbeats 8000000 in
theorem b1O(s:Nat)(l:List GnC)(hl:a6P l)(hb:l.length≤20)(z:Int)(hz:a9g l=z)(h0:¬ z=0):CT Tryz.prog 29 [.ptr s 0,.sl none 6 (gns l)] (lk (stO s [] none)) (b1K s [] [] none z):=by
 have hC:=a7F l hl (by omega)
 rw[hz]at hC
 refine a4v _ _ _ (by simp) ?_
 have f1:a0f (decide (z=0)=false):=by simp only[a0f,Bool.not_eq_true',Bool.not_eq_false',decide_eq_true_eq,decide_eq_false_iff_not];exact h0
 simp (disch:=omega) only[a3Q,a0d, ↓Ed,Eu, ↓reduceIte,reduceCtorEq,Nat.reduceAdd,Nat.reduceEqDiff,Nat.reduceLT,Nat.reduceLeDiff,Int.reduceToNat,Int.reduceEq,Int.reduceLT,Int.reduceLE,w64,a0l,a0k,GnC.cs]
 repeat' ((first|refine CallO_pure (hC) ?_|refine NewB_intro0 (fun b=>?_)|(refine NewB_intro (fun b hb=>?_);simp only[ln_cons2,ln_nil,and_true]at hb)|(with_reducible apply wA;focus exact OM_a)|((first|refine gW_sp ?_|refine condW_sp ?_|refine pickW_sp ?_);(try refine Sp_n ?_);(first|refine wT ?_|refine wF ?_|refine wL (fun h h'=>?_) (fun h h'=>?_)|refine wE (fun h h'=>?_) (fun h h'=>?_)|refine Sp_split (fun h=>?_) (fun h=>?_))<;>(try (exfalso;omega)))|refine TreeW_intro (by rfl) ?_|refine TreeW_all ?_|refine a0a ?_|refine Two_intro ?_ ?_|exact wZ|fail)<;>(try refine sxIno ?_)<;>(try exact True.intro))
 all_goals exact ro_st (L:=[]) (x:=none) none ⟨rfl,fun _=>rfl⟩ (by simp[a0P,arR,lk]) (by simp[*,LeL,lk,a0d,ov_cons,ov_nil,del_cons,del_nil])
end
section
open Go.RowKit Go.Lib
set_option maxRecDepth 100000
structure EndsIn (l:List GnC) (L:List PrP):Prop where
 I:StI L
 get:∀ i,i<l.length→a2R L (l.getD i default).p (l.getD i default).c=(a8r (l.getD i default),true)
 nx4:∀ i,i<l.length→a6w L 4 (l.getD i default).p (l.getD i default).c=(l.getD i default).n
 nx5:∀ i,i<l.length→a6w L 5 (l.getD i default).p (l.getD i default).c=(l.getD i default).n
 nx6:∀ i,i<l.length→a6w L 6 (l.getD i default).p (l.getD i default).c=(l.getD i default).n
 len:(L.length:Int)=4 * (l.length:Int)
 all:(a0N (a2b L L)).length=l.length
theorem ends_in{l:List GnC}(g:GoodG l):EndsIn l (a1Z l l.length) where
 I:=ini_N g (Nat.le_refl _)
 get:=fun i hi=>ini_get g (Nat.le_refl _) hi
 nx4:=fun i hi=>ini_next g (Nat.le_refl _) hi (w:=4) (by omega)
 nx5:=fun i hi=>ini_next g (Nat.le_refl _) hi (w:=5) (by omega)
 nx6:=fun i hi=>ini_next g (Nat.le_refl _) hi (w:=6) (by omega)
 len:=by rw[ini_len g (Nat.le_refl _)];omega
 all:=by rw[a1Y];exact ini_ends g
theorem sxLei{A B:Prop}(h:B)(e:A=B:=by (simp (disch:=omega) only[*, ↓Ed,Eu, ↓reduceIte,reduceCtorEq,Nat.reduceAdd,Nat.reduceEqDiff,Nat.reduceLT,Nat.reduceLeDiff,Int.reduceToNat,Int.reduceEq,Int.reduceLT,Int.reduceLE,w64,a0l,a0k,GnC.cs];first|done|rfl)):A:=e▸h
open Classical in
set_option maxHeartbeats 16000000 in
theorem a9W(l:List GnC):CP Tryz.prog 4 [.sl none 6 (gns l)] (.bool true):=by
 have hF:=a3n
 have hLS:=a8t l
 refine a3y _ _ (by simp) ?_
 by_cases hl:a9t l
 rotate_left
 ·rw[decide_eq_false hl]at hLS
  simp (disch:=omega) only[a0J, ↓Ed,Eu, ↓reduceIte,reduceCtorEq,Nat.reduceAdd,Nat.reduceEqDiff,Nat.reduceLT,Nat.reduceLeDiff,Int.reduceToNat,Int.reduceEq,Int.reduceLT,Int.reduceLE,w64,a0l,a0k,GnC.cs]
  repeat' ((first|refine CallO_pure (hF) ?_|refine CallO_pure (hLS) ?_|refine NewB_intro0 (fun b=>?_)|(refine NewB_intro (fun b hb=>?_);simp only[ln_cons2,ln_nil,and_true]at hb)|(with_reducible apply wA;focus exact OM_a)|((first|refine gW_sp ?_|refine condW_sp ?_|refine pickW_sp ?_);(try refine Sp_n ?_);(first|refine wT ?_|refine wF ?_|refine wL (fun h h'=>?_) (fun h h'=>?_)|refine wE (fun h h'=>?_) (fun h h'=>?_)|refine Sp_split (fun h=>?_) (fun h=>?_))<;>(try (exfalso;omega)))|refine TreeW_intro (by rfl) ?_|refine TreeW_all ?_|refine a0a ?_|refine Two_intro ?_ ?_|exact wZ|fail)<;>(try refine sxLei ?_)<;>(try exact True.intro))
 rw[decide_eq_true hl]at hLS
 have hlg:a6P l:=fun i hi=>by have:=hl.2 i hi;omega
 have h10:=hl.1
 have hC:=a8W l hlg (by omega)
 have hE:=a7F l hlg (by omega)
 have hD:=b3i l hlg (by omega)
 have hl2:=hl.2
 clear hl
 by_cases h0:a9g l=0
 rotate_left
 ·have hI:=fun s=>b1O s l hlg (by omega) (a9g l) rfl h0
  simp only[a0d]at hI
  have hN:=fun s=>a9K s [] none rfl
  have hN2:=fun s g c (h1:¬ g=s∧¬ s=g) (h2:([]:List PrP).length≤c)=>a9K s [] (some (g,c)) ⟨h1,h2⟩
  simp only[a0d]at hN
  simp only[a0b]at hN2
  have e0:(((([]:List PrP).length:Nat):Int))=0:=rfl
  simp only[e0]at hN hN2
  clear hD hl2 hlg
  have f1:a0f (decide (a9g l=0)=false):=by simp only[a0f,Bool.not_eq_true',Bool.not_eq_false',decide_eq_true_eq,decide_eq_false_iff_not];exact h0
  clear h0
  generalize a9g l=z at *
  simp (disch:=omega) only[a0J, ↓Ed,Eu, ↓reduceIte,reduceCtorEq,Nat.reduceAdd,Nat.reduceEqDiff,Nat.reduceLT,Nat.reduceLeDiff,Int.reduceToNat,Int.reduceEq,Int.reduceLT,Int.reduceLE,w64,a0l,a0k,GnC.cs]
  repeat' ((first|refine CallO_pure (hF) ?_|refine CallO_pure (hLS) ?_|refine CallO_new (b0Z) ?_|refine CallO_pure (hC) ?_|refine CallO_pure (hE) ?_|refine c1 (hN _) ?_|refine c2 (hN2 _ _ _ h2 hc) ?_|((refine c_set0 (hI _) (fun h0=>?_) (fun gb gc hn h2 hc=>?_))<;>(try simp only[ln_cons2,ln_nil,and_true]at hn))|refine NewB_intro0 (fun b=>?_)|(refine NewB_intro (fun b hb=>?_);simp only[ln_cons2,ln_nil,and_true]at hb)|(with_reducible apply wA;focus exact OM_a)|((first|refine gW_sp ?_|refine condW_sp ?_|refine pickW_sp ?_);(try refine Sp_n ?_);(first|refine wT ?_|refine wF ?_|refine wL (fun h h'=>?_) (fun h h'=>?_)|refine wE (fun h h'=>?_) (fun h h'=>?_)|refine Sp_split (fun h=>?_) (fun h=>?_))<;>(try (exfalso;omega)))|refine TreeW_intro (by rfl) ?_|refine TreeW_all ?_|refine a0a ?_|refine Two_intro ?_ ?_|exact wZ|fail)<;>(try refine sxLei ?_)<;>(try exact True.intro))
 ·have g:=good_of h0
  have hI:=fun s=>b3A s l hlg (by omega) h0
  simp only[a0d]at hI
  rw[h0]at hC hE
  have hIn:=ends_in g
  have hkP:=a9z (a1Z l l.length) (by have:=hIn.I.len;omega) none
  clear g h0 hlg
  generalize hio:b2S l.length=io at *
  generalize a1Z l l.length=L at *
  simp (disch:=omega) only[a0J, ↓Ed,Eu, ↓reduceIte,reduceCtorEq,Nat.reduceAdd,Nat.reduceEqDiff,Nat.reduceLT,Nat.reduceLeDiff,Int.reduceToNat,Int.reduceEq,Int.reduceLT,Int.reduceLE,w64,a0l,a0k,GnC.cs]
  repeat' ((first|refine CallO_pure (hF) ?_|refine CallO_pure (hLS) ?_|refine CallO_new (b0Z) ?_|refine CallO_pure (hC) ?_|refine CallO_pure (hE) ?_|((refine c_set0 (hI _) (fun h0=>?_) (fun gb gc hn h2 hc=>?_))<;>(try simp only[ln_cons2,ln_nil,and_true]at hn))|refine NewB_intro0 (fun b=>?_)|(refine NewB_intro (fun b hb=>?_);simp only[ln_cons2,ln_nil,and_true]at hb)|(with_reducible apply wA;focus exact OM_a)|((first|refine gW_sp ?_|refine condW_sp ?_|refine pickW_sp ?_);(try refine Sp_n ?_);(first|refine wT ?_|refine wF ?_|refine wL (fun h h'=>?_) (fun h h'=>?_)|refine wE (fun h h'=>?_) (fun h h'=>?_)|refine Sp_split (fun h=>?_) (fun h=>?_))<;>(try (exfalso;omega)))|refine TreeW_intro (by rfl) ?_|refine TreeW_all ?_|refine a0a ?_|refine Two_intro ?_ ?_|exact wZ|fail)<;>(try refine sxLei ?_)<;>(try exact True.intro))
  all_goals first
  | refine wpx_loop (fun k:Nat=>⟨lk [(0,.sl none 6 (gns l)),(3,.ptr b 0),(7,.int .i64 (k:Int))],lk (stO b L none)⟩) (fun k=>k≤l.length) (fun k=>l.length - k) 0 (by omega) (Le_lit (by first|(simp[LeL,lk,a0d, *];done)|fail)) ?_
  | refine wpx_loop (fun k:Nat=>⟨lk [(0,.sl none 6 (gns l)),(3,.ptr b 0),(7,.int .i64 (k:Int))],lk (stO b L (some (gb,gc)))⟩) (fun k=>k≤l.length) (fun k=>l.length - k) 0 (by omega) (Le_lit (by first|(simp[LeL,lk,a0b, *];done)|fail)) ?_
  ·intro k hk
   have hL0:L=[]:=h0
   have hln0:l.length=0:=by have:=hIn.len;rw[hL0]at this;simp only[List.length_nil]at this;omega
   obtain rfl:k=l.length:=by omega
   clear hL0 hln0
   have f1:a0f (decide ((l.length:Int)<l.length)=false):=by simp only[a0f,Bool.not_eq_true',Bool.not_eq_false',decide_eq_true_eq,decide_eq_false_iff_not];omega
   have hLn:=a9K b L none h0
   have hAl:=b0X b L hIn.I none h0
   rw[all_eq hIn.I.rise]at hAl
   have hal:=hIn.all
   have hPr:=a7L b L (by have:=hIn.I.len;omega) none h0
   have hln:=hIn.len
   rw[hln]at hLn
   clear hIn hI hl2
   generalize a0N (a2b L L)=al at *
   have hle:(enR al).length=l.length:=by rw[List.length_map];exact hal
   simp only[a0d]at hLn hAl hPr ⊢
   simp (disch:=omega) only[↓Ed,Eu, ↓reduceIte,reduceCtorEq,Nat.reduceAdd,Nat.reduceEqDiff,Nat.reduceLT,Nat.reduceLeDiff,Int.reduceToNat,Int.reduceEq,Int.reduceLT,Int.reduceLE,w64,a0l,a0k,GnC.cs]
   repeat' ((first|refine c1 (hLn) ?_|refine c1 (hAl) ?_|refine c1 (hPr) ?_|(refine r1 hLn ?_)|(refine r1 hAl ?_)|(refine r1 hPr ?_)|refine CallW_intro (hD) ?_|refine CallO_pure (hD) ?_|refine CallO_pure (hkP) ?_|refine NewB_intro0 (fun b=>?_)|(refine NewB_intro (fun b hb=>?_);simp only[ln_cons2,ln_nil,and_true]at hb)|(with_reducible apply wA;focus exact OM_a)|((first|refine gW_sp ?_|refine condW_sp ?_|refine pickW_sp ?_);(try refine Sp_n ?_);(first|refine wT ?_|refine wF ?_|refine wL (fun h h'=>?_) (fun h h'=>?_)|refine wE (fun h h'=>?_) (fun h h'=>?_)|refine Sp_split (fun h=>?_) (fun h=>?_))<;>(try (exfalso;omega)))|refine TreeW_intro (by rfl) ?_|refine TreeW_all ?_|refine a0a ?_|refine Two_intro ?_ ?_|exact wZ|fail)<;>(try refine sxLei ?_)<;>(try exact True.intro))
  ·intro k hk
   have hgs:¬ gb=b∧¬ b=gb:=h2
   by_cases hkl:k<l.length
   rotate_left
   ·obtain rfl:k=l.length:=by omega
    have f1:a0f (decide ((l.length:Int)<l.length)=false):=by simp only[a0f,Bool.not_eq_true',Bool.not_eq_false',decide_eq_true_eq,decide_eq_false_iff_not];omega
    have hLn:=a9K b L (some (gb,gc)) ⟨h2,hc⟩
    have hAl:=b0X b L hIn.I (some (gb,gc)) ⟨h2,hc⟩
    rw[all_eq hIn.I.rise]at hAl
    have hal:=hIn.all
    have hPr:=a7L b L (by have:=hIn.I.len;omega) (some (gb,gc)) ⟨h2,hc⟩
    have hln:=hIn.len
    rw[hln]at hLn
    clear hIn hI hl2
    generalize a0N (a2b L L)=al at *
    have hle:(enR al).length=l.length:=by rw[List.length_map];exact hal
    simp only[a0b]at hLn hAl hPr ⊢
    simp (disch:=omega) only[↓Ed,Eu, ↓reduceIte,reduceCtorEq,Nat.reduceAdd,Nat.reduceEqDiff,Nat.reduceLT,Nat.reduceLeDiff,Int.reduceToNat,Int.reduceEq,Int.reduceLT,Int.reduceLE,w64,a0l,a0k,GnC.cs]
    repeat' ((first|refine c2 (hLn) ?_|refine c2 (hAl) ?_|refine c2 (hPr) ?_|refine r2 (hLn) ?_|refine r2 (hAl) ?_|refine r2 (hPr) ?_|refine CallW_intro (hD) ?_|refine CallO_pure (hD) ?_|refine CallO_pure (hkP) ?_|refine NewB_intro0 (fun b=>?_)|(refine NewB_intro (fun b hb=>?_);simp only[ln_cons2,ln_nil,and_true]at hb)|(with_reducible apply wA;focus exact OM_a)|((first|refine gW_sp ?_|refine condW_sp ?_|refine pickW_sp ?_);(try refine Sp_n ?_);(first|refine wT ?_|refine wF ?_|refine wL (fun h h'=>?_) (fun h h'=>?_)|refine wE (fun h h'=>?_) (fun h h'=>?_)|refine Sp_split (fun h=>?_) (fun h=>?_))<;>(try (exfalso;omega)))|refine TreeW_intro (by rfl) ?_|refine TreeW_all ?_|refine a0a ?_|refine Two_intro ?_ ?_|exact wZ|fail)<;>(try refine sxLei ?_)<;>(try exact True.intro))
   have f1:a0f (decide ((k:Int)<l.length)=true):=by simp only[a0f,Bool.not_eq_true',Bool.not_eq_false',decide_eq_true_eq,decide_eq_false_iff_not];omega
   have hli:=hl2 k hkl
   have hG:=a1g b L hIn.I (l.getD k default).p (l.getD k default).c (by omega) (some (gb,gc)) ⟨h2,hc⟩
   rw[hIn.get k hkl]at hG
   have hN4:=a7K b L hIn.I 4 (l.getD k default).p (l.getD k default).c (by omega) (some (gb,gc)) ⟨h2,hc⟩
   have hN5:=a7K b L hIn.I 5 (l.getD k default).p (l.getD k default).c (by omega) (some (gb,gc)) ⟨h2,hc⟩
   have hN6:=a7K b L hIn.I 6 (l.getD k default).p (l.getD k default).c (by omega) (some (gb,gc)) ⟨h2,hc⟩
   rw[hIn.nx4 k hkl]at hN4
   rw[hIn.nx5 k hkl]at hN5
   rw[hIn.nx6 k hkl]at hN6
   clear hIn hI hl2
   obtain ⟨⟨p,c,q,d,o,n⟩,hgd⟩:∃ a,l.getD k default=a:=⟨_,rfl⟩
   rw[hgd]at hG hN4 hN5 hN6
   simp only[a8r]at hG hN4 hN5 hN6
   simp only[a0b]at hG hN4 hN5 hN6 ⊢
   simp (disch:=omega) only[hgd, ↓Ed,Eu, ↓reduceIte,reduceCtorEq,Nat.reduceAdd,Nat.reduceEqDiff,Nat.reduceLT,Nat.reduceLeDiff,Int.reduceToNat,Int.reduceEq,Int.reduceLT,Int.reduceLE,w64,a0l,a0k,GnC.cs]
   repeat' ((first|refine c2 (hG) ?_|refine r2 (hN4) ?_|refine r2 (hN5) ?_|refine r2 (hN6) ?_|refine NewB_intro0 (fun b=>?_)|(refine NewB_intro (fun b hb=>?_);simp only[ln_cons2,ln_nil,and_true]at hb)|(with_reducible apply wA;focus exact OM_a)|((first|refine gW_sp ?_|refine condW_sp ?_|refine pickW_sp ?_);(try refine Sp_n ?_);(first|refine wT ?_|refine wF ?_|refine wL (fun h h'=>?_) (fun h h'=>?_)|refine wE (fun h h'=>?_) (fun h h'=>?_)|refine Sp_split (fun h=>?_) (fun h=>?_))<;>(try (exfalso;omega)))|refine TreeW_intro (by rfl) ?_|refine TreeW_all ?_|refine a0a ?_|refine Two_intro ?_ ?_|exact wZ|fail)<;>(try refine sxLei ?_)<;>(try exact True.intro))
   all_goals exact Round_lit (k+1) ⟨Le_lit (by first|(simp[LeL,lk,a0b, *];done)|fail),by omega,by omega⟩
end
section
set_option linter.all false
end
end Go.Proofs.YthdcogkdacnheaaGreatDoor
