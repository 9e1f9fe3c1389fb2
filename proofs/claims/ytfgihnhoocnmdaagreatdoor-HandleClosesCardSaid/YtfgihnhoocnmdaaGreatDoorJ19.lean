import Derived.Test.YtfgihnhoocnmdaaGreatDoorJ18
import Derived.Lib.Join
namespace Go.Proofs.YtfgihnhoocnmdaaGreatDoor
set_option linter.all false
set_option maxHeartbeats 64000000
set_option maxRecDepth 100000
open Go.RowKit
section
open Go.RowKit Go.Lib
def E6(L:List PrP)(i:Nat):List PrP:=L.take i++L.drop (i+1)
theorem WS(L:List PrP)(i:Nat)(h:i<L.length):(E6 L i).length=L.length - 1:=by simp[E6];omega
theorem b2E(g cap i:Nat)(L:List PrP)(hi:i<L.length):
  CT Tryz.prog 209 [.hsl g 115 2 L.length cap,.int .i64 (i:Int),.int .i64 ((i:Int)+1)] (lk [(g,Aq cap L)])
   (fun r o=>r=.hsl g 115 2 (L.length - 1) cap∧o=lk [(g,Aq cap (E6 L i))]):=by
 intro W U vs hlen hv hI
 obtain ⟨v0,v1,v2,rfl⟩:∃ v0 v1 v2,vs=[v0,v1,v2]:=by
  match vs,hlen with
  | [v0,v1,v2],_=>exact ⟨v0,v1,v2,rfl⟩
 have h0:=hv 0 v0 _ rfl rfl
 have h1:=hv 1 v1 _ rfl rfl
 have h2:=hv 2 v2 _ rfl rfl
 cases h0 with
 | hsl _ _ _ _ _ n1 n2 hm=>
 cases h1
 cases h2
 obtain ⟨_,_,c3⟩:=hm
 obtain ⟨cur,ty,g1,g2,g3,g4,g5⟩:=hI.obc (b:=g) (cs:=Aq cap L) (by simp[lk]) ⟨_,_,_,c3⟩
 have hty:ty.1=115:=by
  have h:=c3.symm.trans g1
  simp only[Az,Obj.cells.injEq]at h
  exact h.2.1.symm
 rw[hty]at g1
 have s1:cur.size=cap * 2:=by rw[g2,Aq,prRow.len_hc];congr 1;omega
 obtain ⟨cs,Ae⟩:∃ cs:List Value,cs=cur.toList.take (L.length * 2):=⟨_,rfl⟩
 have hlc:cur.toList.length=cur.size:=EU
 have hcl:cs.length=L.length * 2:=by rw[Ae,BL];omega
 have hce:∀ j v,cs[j]?=some v→cur[j]?=some v∧j<L.length * 2:=fun j v h=>by
  have hj:=(AM.1 h).1
  rw[Ae,CW (by omega)]at h
  exact ⟨by simpa using h,by omega⟩
 have hcell:∀ j v,cs[j]?=some v→W.cell? ⟨g,j,none⟩=some v:=fun j v h=>by rw[cell_of_row W g j cur _ (0,0) g1];exact (hce j v h).1
 have one:∀ (j:Nat) (v:Value),cur[j]?=some v→v.oneCell'=true:=fun j v h=>by
  have hj:=(BH.1 h).1
  have:=(g3 j _ (Aw (l:=Aq cap L) (by omega))).2
  rwa [Cu,h,Cp]at this
 have h1c:∀ v∈cs,v.oneCell'=true:=fun v h=>by
  obtain ⟨j,hj,rfl⟩:=Do h
  exact one j _ (hce j _ (Aw hj)).1
 have e0:(Value.int .i64 ((i:Int)+1))=.int .i64 ((i+1:Nat):Int):=by simp
 rw[e0]
 refine (a2Y g L.length cap i (i+1) cs W rfl hi n1 (by unfold maxLen at n2;omega) hcl hcell (fun j hj=>by simp[World.frozen?,g1]) h1c).mono ?_
 rintro e W' ⟨rfl,rfl⟩
 have hz2:zPr.cells.toList.length=2:=rfl
 have hdl:(cs.drop ((i+1) * 2)).length=(L.length - (i+1)) * 2:=by rw[Cc,hcl];omega
 obtain ⟨D,hD⟩:∃ D,D=cs.drop ((i+1) * 2):=⟨_,rfl⟩
 rw[← hD]at hdl ⊢
 have hg1:W.drew.heap[g]?=some (.cells cur 115 (0,0)):=g1
 rw[H9 g 115 (0,0) D _ cur W.drew hg1 (by omega)]
 rw[H9 g 115 (0,0) zPr.cells.toList _ _ _ (setRow_heap W.drew g cur _ _ (0,0) hg1) (by rw[Ck];simp only[Ao,BL,Cc];omega),setRow_setRow]
 have htk:(cur.toList.take (i * 2)).length=i * 2:=by rw[BL];omega
 have hA:((cur.toList.take (i * 2)++D++cur.toList.drop (i * 2+D.length)).toArray.toList.take ((L.length - 1) * 2)++zPr.cells.toList++(cur.toList.take (i * 2)++D++cur.toList.drop (i * 2+D.length)).toArray.toList.drop ((L.length - 1) * 2+zPr.cells.toList.length))=
   cur.toList.take (i * 2)++D++zPr.cells.toList++cur.toList.drop (L.length * 2):=by
  rw[hz2]
  simp only[]
  rw[List.take_append_of_le_length (by rw[Ao,htk,hdl];omega),B0 (by rw[Ao,htk,hdl];omega)]
  rw[List.drop_append,List.drop_of_length_le (by rw[Ao,htk,hdl];omega),Bj,List.drop_drop,Ao,htk,hdl]
  congr 2;omega
 rw[hA]
 obtain ⟨A,hAd⟩:∃ A,A=(cur.toList.take (i * 2)++D++zPr.cells.toList++cur.toList.drop (L.length * 2)).toArray:=⟨_,rfl⟩
 rw[← hAd]
 have hAs:A.size=cur.size:=by
  rw[hAd,Ck]
  simp only[Ao,htk,hdl,hz2,Cc]
  omega
 have hlo:∀ j,j<i * 2→A[j]?=cur[j]?:=fun j hj=>by
  rw[hAd,EW,DC,DC,CB (by omega),CW hj];simp
 have hmi:∀ j,i * 2≤j→j<(L.length - 1) * 2→A[j]?=cur[j+2]?:=fun j hj hj2=>by
  rw[hAd,EW,DC,DC,Cj (by omega),CB (by omega),hD,CC,Ae,CW (by omega),htk,show (i+1) * 2+(j - i * 2)=j+2 by omega];simp
 have hone:∀ v∈A,v.oneCell'=true:=fun v hv'=>by
  rw[hAd]at hv'
  have hcm:∀ v∈cur.toList,v.oneCell'=true:=fun v h=>by
   obtain ⟨j,hj,rfl⟩:=Do h
   exact one j _ (by rw[← Em];exact Aw hj)
  rcases Bv.1 (by simpa only[List.mem_toArray]using hv') with h|h
  ·rcases Bv.1 h with h|h
   ·rcases Bv.1 h with h|h
    ·exact hcm v (EZ h)
    ·rw[hD]at h;exact h1c v (EY h)
   ·have h9:v=.string ⟨#[]⟩:=by simpa[zPr,Value.cells]using h
    rw[h9];rfl
  ·exact hcm v (EY h)
 have hdn:=WS L i hi
 have hread:∀ j c,(Aq cap (E6 L i))[j]?=some c→VR W U (A.getD j undef) c:=fun j c hc=>by
  rcases II (sz:=2) (by omega) (prRow.all (E6 L i)) hc with ⟨e,q1,q2⟩ | ⟨rfl,_⟩
  ·have hk:j / 2<L.length - 1:=by
    have:=(AM.1 q1).1
    rwa [Ax,hdn]at this
   obtain ⟨y,hy,rfl⟩:∃ y,(E6 L i)[j / 2]?=some y∧D9 y=e:=by rw[B7]at q1;exact BM.1 q1
   have hold:∀ k,L[k]?=some y→VR W U (cur.getD (k * 2+j % 2) undef) c:=fun k hk'=>by
    have h5:=Ge (sz:=2) (cap:=cap) (prRow.all L) (i:=k) (j:=j % 2) (e:=D9 y) (by rw[B7,hk'];rfl) (by omega)
    exact (g3 (k * 2+j % 2) c (by rw[Aq,h5];exact q2)).1
   unfold E6 at hy
   have htl:(L.take i).length=i:=by rw[BL];omega
   by_cases hji:j<i * 2
   ·rw[CB (by omega),CW (by omega)]at hy
    have:=hold _ hy
    rw[show j / 2 * 2+j % 2=j by omega]at this
    rwa [Cu,hlo j hji, ← Cu]
   ·rw[Cj (by omega),htl,CC]at hy
    have:=hold _ hy
    rw[show (i+1+(j / 2 - i)) * 2+j % 2=j+2 by omega]at this
    rwa [Cu,hmi j (by omega) (by omega), ← Cu]
  ·exact .any _
 have hno:∀ (j t k:Nat) (l:List (List AV)),(Aq cap (E6 L i))[j]?≠some (.sl (some t) k l):=fun j t k l h=>(Fh (by omega) (prRow.all _) (prRow.noOwn _) h).1 t k l rfl
 have hhd:∀ (u:Nat),CG (Aq cap (E6 L i))≠some u:=fun u=>Jw (fun c hc=>(Fh (by omega) (prRow.all _) (prRow.noOwn _) hc).2) u
 have hlc':(Aq cap (E6 L i)).length=cap * 2:=by rw[Aq,prRow.len_hc,hdn];congr 1;omega
 have hE:Ext W U W.drew U:=(Ext.refl W U).drew
 have h6:=(hI.ext hE).seto (b:=g) (cs:=Aq cap L) (cs':=Aq cap (E6 L i)) (vs':=A) (by simp[lk]) hg1 (by rw[hlc', ← s1,g2]) hAs
  (fun j c hc=>⟨(hread j c hc).keep hE.keeps,by
   have:=(AM.1 hc).1
   rw[Cu,Dz (by omega)]
   exact hone _ (Array.getElem_mem _)⟩) (fun u hu=>absurd hu (hhd u)) (fun j t k l hj=>absurd hj (hno j t k l))
 have ho:upd (lk [(g,Aq cap L)]) g (some (Aq cap (E6 L i)))=lk [(g,Aq cap (E6 L i))]:=by
  funext b;simp only[upd,lk];split<;>rfl
 simp only[ho]at h6
 refine ⟨_,U,_,_,rfl,⟨rfl,rfl⟩,fun b cs' h=>?_,h6.res1 (.hsl _ _ _ _ _ (by omega) n2 ⟨_,_,setRow_heap W.drew g cur A _ (0,0) hg1⟩) (Sole.plain fun _ _ _ e=>by cases e)⟩
 simp only[lk_cons]at h ⊢
 by_cases q1:b=g
 ·rw[Af q1];exact ⟨_,rfl⟩
 ·rw[Ad q1]at h;cases h
theorem a3k{L:List PrP}{k:List UInt8}(h:A9 L k=true):DF L k=E6 L (AE L k):=by unfold DF E6;rw[Af h]
theorem a3j{L:List PrP}{k:List UInt8}(h:A9 L k=false):DF L k=L:=by unfold DF;rw[Ad (by simp[h])]
theorem My{A B:Prop}(h:B)(e:A=B:=by (simp (disch:=omega) only[*, ↓Ed,Eu, ↓reduceIte,reduceCtorEq,Nat.reduceAdd,Nat.reduceEqDiff,Nat.reduceLT,Nat.reduceLeDiff,Int.reduceToNat,Int.reduceEq,Int.reduceLT,Int.reduceLE,Ap, ↓Eb, ↓Ec, ↓Ee];first|done|rfl)):A:=e▸h
theorem b3i(s:Nat)(L:List PrP)(hI:StI L)(k:List UInt8)(x:Bl)(hx:stOk s L x):
  CT Tryz.prog 164 [.ptr s 0,.str k] (lk (AF s L x)) (fun r o=>r=.bool (A9 L k)∧o=lk (AF s (DF L k) x)):=by
 have hF:=TU s L hI.rise (by have:=hI.len;omega) k x hx
 cases hh:A9 L k
 ·rw[a3j hh]
  rw[hh]at hF
  refine YV _ _ _ (by simp) ?_
  rcases x with _ | ⟨g,cap⟩
  ·clear hI hx hh
   simp only[Ce]at hF ⊢
   simp only[OL];refine My ?_
   repeat' ((first|exact tt|refine c1 hF ?_|refine na fun b=>?_|refine nb fun b hb=>?_|refine iq ?_|(refine jq ?_ ?_<;>intro h h')|exact wZ|refine Aa ?_ ?_)<;>try refine My ?_)
   all_goals exact AG Mc (A6 _)
  ·have hgs:=hx.1
   clear hI hx hh
   simp only[AA]at hF ⊢
   simp only[OL];refine My ?_
   repeat' ((first|exact tt|refine c2 hF ?_|refine na fun b=>?_|refine nb fun b hb=>?_|refine iq ?_|(refine jq ?_ ?_<;>intro h h')|exact wZ|refine Aa ?_ ?_)<;>try refine My ?_)
   all_goals exact AG KI (A6 _)
 rw[hh]at hF
 have hp:=Jv hh
 rw[a3k hh]
 have hdl:=WS L _ hp
 rcases x with _ | ⟨g,cap⟩
 ·obtain rfl:L=[]:=hx
  simp at hp
 have hgs:=hx.1
 have hib:AE L k≤1000000:=by have:=hI.len;omega
 have hD:=b2E g cap (AE L k) L hp
 rw[← hdl]at hD
 simp only[AA]at hF ⊢
 generalize AE L k=i at *
 generalize E6 L i=L2 at *
 clear hI hx hh hp hdl
 refine YV _ _ _ (by simp) ?_
 simp only[OL];refine My ?_
 repeat' ((first|exact tt|refine c2 hF ?_|refine c1 hD ?_|refine na fun b=>?_|refine nb fun b hb=>?_|refine iq ?_|(refine jq ?_ ?_<;>intro h h')|exact wZ|refine Aa ?_ ?_)<;>try refine My ?_)
 all_goals
  refine AG ?_ (Lv rfl)
  simp[Am,lk,BR,Br, *]
end
theorem a8K(own:Option Nat)(z:List UInt8)(l:List (List UInt8))(hn:l.length≤140737488355328)(hl:(Lib.join l z).length≤140737488355328):CP Tryz.prog 204 [.sl own 1 (l.map fun p=>[AV.str p]),.str z] (.str (Lib.join l z)):=by
 intro W U us hG hlen hu
 match us,hlen with
 | [v,w],_=>
  have hw:=(hu 1 w _ rfl rfl).str_inv
  subst hw
  have hv:=hu 0 v _ rfl rfl
  generalize hels:(l.map fun p=>[AV.str p])=els at hv
  cases hv with
  | sl A cap _ _ b o _ f hcap hmax hA hs hc hvv=>
   by_cases h0:l=[]
   ·subst h0
    simp at hels
    subst hels
    refine (Tryz.strings_Join_none A cap ⟨z.toArray⟩ W).mono ?_
    rintro e W' ⟨rfl,rfl⟩
    exact ⟨_,U,rfl,.str [],trivial,Ext.refl _ _⟩
   ·have hll:els.length=l.length:=by simp[← hels]
    have hlt:0<els.length:=by rw[hll];exact List.length_pos_iff.2 h0
    obtain rfl:=hA hlt
    have hx:els.length=(l.map fun p=>(⟨p.toArray⟩:ByteArray)).length:=by simp[hll]
    have hj:((l.map fun p=>(⟨p.toArray⟩:ByteArray)).map (·.data.toList))=l:=by simp[EX,Function.comp_def]
    have hbk:b<W.heap.size:=World.block_lt_of_cell? W ⟨b,o+0 * 1+0,none⟩ (hc 0 0 hlt (by omega)).1
    have:=Tryz.strings_Join b o cap (l.map fun p=>(⟨p.toArray⟩:ByteArray)) ⟨z.toArray⟩ W (fun j x hx=>by
     simp only[B7,BM]at hx
     obtain ⟨p,hp,rfl⟩:=hx
     have hjl:j<els.length:=by rw[hll];exact (AM.1 hp).1
     have h1:=(hc j 0 hjl (by omega)).1
     have h2:=hvv j [AV.str p] 0 (.str p) (by rw[← hels];simp[hp]) rfl
     rw[show o+j * 1+0=o+j by omega]at h1
     rw[h1]
     generalize f j 0=y at h2
     cases h2
     rfl) hbk (by rw[← hx,hll];exact hn) (by rw[← hx];exact hcap) (by rw[hj];exact hl)
    rw[hj, ← hx]at this
    refine this.mono ?_
    rintro e W' ⟨rfl,hB⟩
    exact ⟨_,U,rfl,.str _,trivial,⟨hB,fun _ _ _=>Iff.rfl⟩⟩
theorem Pi:∀ l:List (List UInt8),Lib.join l []=l.flatten
 | []=>rfl
 | [x]=>by simp[Lib.join,List.intercalate]
 | x::y::l=>by
  have:=Pi (y::l)
  simp only[Lib.join,List.intercalate]at this ⊢
  simp[List.intersperse,this]
theorem ZX:∀ n,Lib.repeatL [0] n=List.replicate n 0
 | 0=>rfl
 | n+1=>by rw[Lib.repeatL,ZX n,J7];rfl
theorem a8Y(n:Nat)(hn:n≤1000000):CP Tryz.prog 205 [.str [0],.int .i64 (n:Int)] (.str (List.replicate n 0)):=
 MQ (vs:=[.string ⟨#[0]⟩,.int .i64 (n:Int)]) (v:=.string ⟨(List.replicate n (0:UInt8)).toArray⟩) rfl (by simp) rfl fun W=>
  (Tryz.strings_Repeat ⟨#[0]⟩ n W (by omega) (by have:(⟨#[0]⟩:ByteArray).size=1:=rfl;rw[this];omega)).mono fun e w' ⟨h1,h2⟩=>⟨by rw[h1, ← ZX],h2⟩
theorem b0I:∀ a:Fin 32,1≤a.val→IntKind.wrap .u64 ((BitVec.ofInt 64 (IntKind.wrap .u64 (0 - (a.val:Int))) &&& BitVec.ofInt 64 31).toNat:Int)=((32 - a.val:Nat):Int):=by decide
theorem rl1(a:Nat)(h:1≤a∧a≤31):IntKind.wrap .u64 ((BitVec.ofInt (IntKind.bits .u64) (IntKind.wrap .u64 (0 - (a:Int))) &&& BitVec.ofInt (IntKind.bits .u64) 31).toNat:Int)=((32 - a:Nat):Int):=b0I ⟨a,by omega⟩ h.1
theorem rl2(a:Nat)(h:1≤a∧a≤31):IntKind.wrap .u64 (32 - ((32 - a:Nat):Int))=(a:Int):=by
 show (32 - ((32 - a:Nat):Int)) % 18446744073709551616=a
 omega
theorem nn(n:Nat):(0≤(n:Int))=True:=by simp
theorem Z8(x:Wd)(a:Nat):(x <<< (32 - a)) ||| (x >>> a)=Cv x a:=rfl
theorem b2B{A B:Prop}(h:B)(e:A=B:=by (simp (disch:=omega) only[*, ↓Ed,Eu, ↓reduceIte,reduceCtorEq,Nat.reduceAdd,Nat.reduceEqDiff,Nat.reduceLT,Nat.reduceLeDiff,Int.reduceToNat,Int.reduceEq,Int.reduceLT,Int.reduceLE,Ap,Ao,Ax,J1,J2,G0,Dh,nn,Z8];first|done|rfl)):A:=e▸h
theorem NE(x:Wd)(a:Nat)(h:1≤a∧a≤31):CP Tryz.prog 250 [aW x,.int .i64 (0 - (a:Int))] (aW (Cv x a)):=by
 refine a5I _ _ (by simp) ?_
 simp only[US,rl1 a h,rl2 a h,J1,J2,G0,Dh,nn, ↓Ed,Eu, ↓reduceIte,reduceCtorEq,Nat.reduceAdd,Nat.reduceEqDiff,Nat.reduceLT,Nat.reduceLeDiff,Int.reduceToNat,Int.reduceEq,Int.reduceLT,Int.reduceLE,Ap,Ao,Ax,J1,J2,G0,Dh,nn,Z8]
 repeat' ((first|exact tt|refine na fun b=>?_|refine nb fun b hb=>?_|refine iq ?_|(refine jq ?_ ?_<;>intro h h')|exact wZ|refine Aa ?_ ?_)<;>try refine b2B ?_)
abbrev QI:List AV:=[.int .u32 0,.int .u32 0,.int .u32 0,.int .u32 0,.int .u32 0,.int .u32 0,.int .u32 0,.int .u32 0,.int .u32 0,.int .u32 0,.int .u32 0,.int .u32 0,.int .u32 0,.int .u32 0,.int .u32 0,.int .u32 0,.int .u32 0,.int .u32 0,.int .u32 0,.int .u32 0,.int .u32 0,.int .u32 0,.int .u32 0,.int .u32 0,.int .u32 0,.int .u32 0,.int .u32 0,.int .u32 0,.int .u32 0,.int .u32 0,.int .u32 0,.int .u32 0,.int .u32 0,.int .u32 0,.int .u32 0,.int .u32 0,.int .u32 0,.int .u32 0,.int .u32 0,.int .u32 0,.int .u32 0,.int .u32 0,.int .u32 0,.int .u32 0,.int .u32 0,.int .u32 0,.int .u32 0,.int .u32 0,.int .u32 0,.int .u32 0,.int .u32 0,.int .u32 0,.int .u32 0,.int .u32 0,.int .u32 0,.int .u32 0,.int .u32 0,.int .u32 0,.int .u32 0,.int .u32 0,.int .u32 0,.int .u32 0,.int .u32 0,.int .u32 0]
theorem a1F(s:List UInt8):(Dl s 0).map aW=QI:=rfl
theorem a0I:([.int .u32 1116352408,.int .u32 1899447441,.int .u32 3049323471,.int .u32 3921009573,.int .u32 961987163,.int .u32 1508970993,.int .u32 2453635748,.int .u32 2870763221,.int .u32 3624381080,.int .u32 310598401,.int .u32 607225278,.int .u32 1426881987,.int .u32 1925078388,.int .u32 2162078206,.int .u32 2614888103,.int .u32 3248222580,.int .u32 3835390401,.int .u32 4022224774,.int .u32 264347078,.int .u32 604807628,.int .u32 770255983,.int .u32 1249150122,.int .u32 1555081692,.int .u32 1996064986,.int .u32 2554220882,.int .u32 2821834349,.int .u32 2952996808,.int .u32 3210313671,.int .u32 3336571891,.int .u32 3584528711,.int .u32 113926993,.int .u32 338241895,.int .u32 666307205,.int .u32 773529912,.int .u32 1294757372,.int .u32 1396182291,.int .u32 1695183700,.int .u32 1986661051,.int .u32 2177026350,.int .u32 2456956037,.int .u32 2730485921,.int .u32 2820302411,.int .u32 3259730800,.int .u32 3345764771,.int .u32 3516065817,.int .u32 3600352804,.int .u32 4094571909,.int .u32 275423344,.int .u32 430227734,.int .u32 506948616,.int .u32 659060556,.int .u32 883997877,.int .u32 958139571,.int .u32 1322822218,.int .u32 1537002063,.int .u32 1747873779,.int .u32 1955562222,.int .u32 2024104815,.int .u32 2227730452,.int .u32 2361852424,.int .u32 2428436474,.int .u32 2756734187,.int .u32 3204031479,.int .u32 3329325298]:List AV)=shaK.map aW:=rfl
theorem a1l(i:Nat):(4 * (i:Int)).toNat=4 * i:=by omega
theorem a1m(i:Nat):(4 * (i:Int)+1).toNat=4 * i+1:=by omega
theorem a1n(i:Nat):(4 * (i:Int)+2).toNat=4 * i+2:=by omega
theorem a1o(i:Nat):(4 * (i:Int)+3).toNat=4 * i+3:=by omega
theorem a3H(i k:Nat):((i:Int) - (k:Int)).toNat=i - k:=by omega
theorem Xq(i:Nat):((i:Int) - 16).toNat=i - 16:=by omega
theorem Xr(i:Nat):((i:Int) - 15).toNat=i - 15:=by omega
theorem Xs(i:Nat):((i:Int) - 7).toNat=i - 7:=by omega
theorem a0M(i:Nat):((i:Int) - 2).toNat=i - 2:=by omega
theorem M2(l:List Wd)(i:Nat)(hi:i<l.length)(K:AV→Prop):RK (A5 none ((l.map aW).drop i)) K=K (aW (l.getD i 0)):=by
 rw[Jc (by simpa using hi)]
 apply propext
 simp[RK,A5,AV.alias,List.getD,hi]
theorem Ox(l:List Wd)(i:Nat)(x:Wd)(hi:i<l.length):splice (l.map aW) i [aW x]=(l.set i x).map aW:=by
 induction l generalizing i with
 | nil=>simp at hi
 | cons y l ih=>cases i with
  | zero=>simp[splice]
  | succ i=>simp only[CX,splice,List.set_cons_succ];rw[ih i (by simpa using hi)]
theorem a0l(s:List UInt8)(i n:Nat)(h:n<i∧i≤64)(K:AV→Prop):RK (A5 none (((Dl s i).map aW).drop n)) K=K (aW ((BJ s i).getD n 0)):=by
 rw[M2 _ _ (by rw[P9 s i h.2];omega),b1V s i n h.1]
theorem Ml(s:List UInt8)(i:Nat)(h:i≤64):((Dl s i).map aW).length=64:=by rw[Ax,P9 s i h]
theorem I4:∀ (z X:List AV),z.length=X.length→splice z 0 X=X
 | [],[],_=>rfl
 | [],_::_,h=>by simp at h
 | _::_,[],h=>by simp at h
 | _::z,x::X,h=>by
  show x::splice z 0 X=x::X
  rw[I4 z X (by simpa using h)]
theorem Mv(l:List Wd):(l.map aW).map AV.store=l.map aW:=by
 rw[EX];rfl
theorem GX{A B:Prop}(h:B)(e:A=B:=by (simp (disch:=omega) only[*, ↓Ed,Eu, ↓reduceIte,reduceCtorEq,Nat.reduceAdd,Nat.reduceEqDiff,Nat.reduceLT,Nat.reduceLeDiff,Int.reduceToNat,Int.reduceEq,Int.reduceLT,Int.reduceLE,Ap,Ao,Ax,J1,Oc,Of,Ob,Od,J2,G0,Oe,Dh,nn,a3H,Xq,Xr,Xs,a0M,a1l,a1m,a1n,a1o,AN,AH,Int.reduceAdd,a0l,Ml];first|done|rfl)):A:=e▸h
theorem ZH(w:Wd)(a b c:Nat)(ha:1≤a∧a≤31)(hb:1≤b∧b≤31)(hc:1≤c∧c≤31):CP Tryz.prog 228 [aW w,.int .i64 (a:Int),.int .i64 (b:Int),.int .i64 (c:Int)] (aW ((Cv w a ^^^ Cv w b) ^^^ Cv w c)):=by
 refine a7v _ _ (by simp) ?_
 simp only[Wb];refine GX ?_
 repeat' ((first|exact tt|refine Ab (NE w a ha) ?_|refine Ab (NE w b hb) ?_|refine Ab (NE w c hc) ?_|refine na fun b=>?_|refine nb fun b hb=>?_|refine iq ?_|(refine jq ?_ ?_<;>intro h h')|exact wZ|refine Aa ?_ ?_)<;>try refine GX ?_)
theorem ZG(w:Wd)(a b c:Nat)(ha:1≤a∧a≤31)(hb:1≤b∧b≤31):CP Tryz.prog 249 [aW w,.int .i64 (a:Int),.int .i64 (b:Int),.int .i64 (c:Int)] (aW ((Cv w a ^^^ Cv w b) ^^^ w >>> c)):=by
 refine a7t _ _ (by simp) ?_
 simp only[V9];refine GX ?_
 repeat' ((first|exact tt|refine Ag (NE w a ha) ?_|refine Ag (NE w b hb) ?_|refine na fun b=>?_|refine nb fun b hb=>?_|refine iq ?_|(refine jq ?_ ?_<;>intro h h')|exact wZ|refine Aa ?_ ?_)<;>try refine GX ?_)
theorem b0c(w:Wd):CP Tryz.prog 249 [aW w,.int .i64 7,.int .i64 18,.int .i64 3] (aW ((Cv w 7 ^^^ Cv w 18) ^^^ w >>> 3)):=ZG w 7 18 3 (by omega) (by omega)
theorem b0d(w:Wd):CP Tryz.prog 249 [aW w,.int .i64 17,.int .i64 19,.int .i64 10] (aW ((Cv w 17 ^^^ Cv w 19) ^^^ w >>> 10)):=ZG w 17 19 10 (by omega) (by omega)
theorem b0f(s:List UInt8)(hs:s.length=64):CP Tryz.prog 227 [.str s] (.agg ((BJ s 64).map aW)):=by
 refine a7u _ _ (by simp) ?_
 simp only[Wa,Cz.z3];refine GX ?_
 repeat' ((first|exact tt|refine na fun b=>?_|refine nb fun b hb=>?_|refine iq ?_|(refine jq ?_ ?_<;>intro h h')|exact wZ|refine Aa ?_ ?_)<;>try refine GX ?_)
 rename_i r
 obtain ⟨z,hz,hzl⟩:∃ z:List AV,QI=z∧z.length=64:=⟨_,rfl,rfl⟩
 refine A2 (fun i:Nat=>⟨lk [(0,.str s),(2,.ptr r 0),(3,.ptr b 0),(5,.int .i64 (i:Int))],lk [(r,z),(b,(Dl s i).map aW)]⟩) (fun i=>i≤64) (fun i=>64 - i) 0 (by omega) (An (by rw[← hz,a1F s];simp[Am,lk,hb])) ?_
 clear hz
 intro i hi
 by_cases hlt:i<64
 ·have f1:Ac (decide ((i:Int)<64)=true):=fo
  have l64:(Dl s i).length=64:=P9 s i hi
  by_cases h16:i<16
  ·have f2:Ac (decide ((i:Int)<16)=true):=fo
   have hS:=Ox (Dl s i) i (Ji s i) (by omega)
   rw[Qa s i hlt (Ji s i) (by rw[Af h16])]at hS
   have hX:=Ml s i hi
   generalize (Dl s i).map aW=X at *
   clear l64
   simp only[Ji,Lc]at hS
   refine GX ?_
   repeat' ((first|exact tt|refine na fun b=>?_|refine nb fun b hb=>?_|refine iq ?_|(refine jq ?_ ?_<;>intro h h')|exact wZ|refine Aa ?_ ?_)<;>try refine GX ?_)
   all_goals exact AC (i+1) ⟨An (by simp[Am,lk,hb]),by omega,by omega⟩
  ·have f2:Ac (decide ((i:Int)<16)=false):=fo
   have hS:=Ox (Dl s i) i (Jz (BJ s i) i) (by omega)
   rw[Qa s i hlt (Jz (BJ s i) i) (by rw[Ad h16])]at hS
   have hX:=Ml s i hi
   clear l64
   simp only[Jz]at hS
   refine GX ?_
   repeat' ((first|exact tt|refine Ag (b0c _) ?_|refine Ag (b0d _) ?_|refine na fun b=>?_|refine nb fun b hb=>?_|refine iq ?_|(refine jq ?_ ?_<;>intro h h')|exact wZ|refine Aa ?_ ?_)<;>try refine GX ?_)
   all_goals exact AC (i+1) ⟨An (by simp[Am,lk,hb]),by omega,by omega⟩
 ·have f1:Ac (decide ((i:Int)<64)=false):=fo
  obtain rfl:i=64:=by omega
  have hX:(Dl s 64)=BJ s 64:=by simp[Dl]
  have hL:((BJ s 64).map aW).length=64:=by rw[Ax,HD]
  rw[hX]
  have hT:List.take 64 ((BJ s 64).map aW)=(BJ s 64).map aW:=B0 (by omega)
  have hP:=I4 z ((BJ s 64).map aW) (by omega)
  have hS:=Mv (BJ s 64)
  clear hX
  generalize (BJ s 64).map aW=X at *
  refine GX ?_
  repeat' ((first|exact tt|refine na fun b=>?_|refine nb fun b hb=>?_|refine iq ?_|(refine jq ?_ ?_<;>intro h h')|exact wZ|refine Aa ?_ ?_)<;>try refine GX ?_)
theorem P8(s:List UInt8)(n:Nat)(h:n<64)(K:AV→Prop):RK (A5 none (((BJ s 64).map aW).drop n)) K=K (aW ((BJ s 64).getD n 0)):=M2 _ _ (by rw[HD];exact h) K
theorem Pm(n:Nat)(h:n<64)(K:AV→Prop):RK (A5 none ((shaK.map aW).drop n)) K=K (aW (shaK.getD n 0)):=M2 _ _ h K
theorem b0g(w:Wd):CP Tryz.prog 228 [aW w,.int .i64 6,.int .i64 11,.int .i64 25] (aW ((Cv w 6 ^^^ Cv w 11) ^^^ Cv w 25)):=ZH w 6 11 25 (by omega) (by omega) (by omega)
theorem b0h(w:Wd):CP Tryz.prog 228 [aW w,.int .i64 2,.int .i64 13,.int .i64 22] (aW ((Cv w 2 ^^^ Cv w 13) ^^^ Cv w 22)):=ZH w 2 13 22 (by omega) (by omega) (by omega)
def CZ(h s:S8)(i:Nat):List AV:=[aW (if 0<i then h.a+s.a else h.a),aW (if 1<i then h.b+s.b else h.b),aW (if 2<i then h.c+s.c else h.c),aW (if 3<i then h.d+s.d else h.d),
 aW (if 4<i then h.e+s.e else h.e),aW (if 5<i then h.f+s.f else h.f),aW (if 6<i then h.g+s.g else h.g),aW (if 7<i then h.h+s.h else h.h)]
abbrev z8:List AV:=[.int .u32 0,.int .u32 0,.int .u32 0,.int .u32 0,.int .u32 0,.int .u32 0,.int .u32 0,.int .u32 0]
theorem JU{A B:Prop}(h:B)(e:A=B:=by (simp (disch:=omega) only[*, ↓Ed,Eu, ↓reduceIte,reduceCtorEq,Nat.reduceAdd,Nat.reduceEqDiff,Nat.reduceLT,Nat.reduceLeDiff,Int.reduceToNat,Int.reduceEq,Int.reduceLT,Int.reduceLE,Ap,Ao,Ax,J1,Oc,Of,Ob,Od,J2,G0,Oe,Dh,nn,AN,AH,Int.reduceAdd,P8,Pm,HD,S8.c8,CZ];first|done|rfl)):A:=e▸h
theorem a9P(h:S8)(c:List UInt8)(hc:c.length=64):CP Tryz.prog 208 [.agg h.c8,.str c] (.agg (Kw h c).c8):=by
 refine a7s _ _ (by simp) ?_
 have hS:=b0f c hc
 simp (disch:=omega) only[V8,a0I, ↓Ed,Eu, ↓reduceIte,reduceCtorEq,Nat.reduceAdd,Nat.reduceEqDiff,Nat.reduceLT,Nat.reduceLeDiff,Int.reduceToNat,Int.reduceEq,Int.reduceLT,Int.reduceLE,Ap,Ao,Ax,J1,Oc,Of,Ob,Od,J2,G0,Oe,Dh,nn,AN,AH,Int.reduceAdd,P8,Pm,HD,S8.c8,CZ]
 repeat' ((first|exact tt|refine Ab hS ?_|refine na fun b=>?_|refine nb fun b hb=>?_|refine iq ?_|(refine jq ?_ ?_<;>intro h h')|exact wZ|refine Aa ?_ ?_)<;>try refine JU ?_)
 rename_i bh br hbr
 clear hS
 have hL:((BJ c 64).map aW).length=64:=by rw[Ax,HD]
 refine A2 (fun i:Nat=>⟨lk [(2,.ptr bh 0),(4,.ptr br 0),(5,.ptr b 0),(13,.agg ((BJ c 64).map aW)),(14,.int .i64 (i:Int))],lk [(bh,h.c8),(br,z8),(b,(Fi h (BJ c 64) i).c8)]⟩) (fun i=>i≤64) (fun i=>64 - i) 0 (by omega) (An (by simp[Am,lk,hb,hbr,Fi])) ?_
 intro i hi
 by_cases hlt:i<64
 ·have f1:Ac (decide ((i:Int)<64)=true):=fo
  have hR:Fi h (BJ c 64) (i+1)=N1 (Fi h (BJ c 64) i) (shaK.getD i 0) ((BJ c 64).getD i 0):=rfl
  generalize Fi h (BJ c 64) i=S at *
  simp (disch:=omega) only[hb,hbr,hL,a0I, ↓Ed,Eu, ↓reduceIte,reduceCtorEq,Nat.reduceAdd,Nat.reduceEqDiff,Nat.reduceLT,Nat.reduceLeDiff,Int.reduceToNat,Int.reduceEq,Int.reduceLT,Int.reduceLE,Ap,Ao,Ax,J1,Oc,Of,Ob,Od,J2,G0,Oe,Dh,nn,AN,AH,Int.reduceAdd,P8,Pm,HD,S8.c8,CZ]
  repeat' ((first|exact tt|refine Ag (b0g _) ?_|refine Ag (b0h _) ?_|refine na fun b=>?_|refine nb fun b hb=>?_|refine iq ?_|(refine jq ?_ ?_<;>intro h h')|exact wZ|refine Aa ?_ ?_)<;>try refine JU ?_)
  all_goals exact AC (i+1) ⟨An (by simp[-List.getD_eq_getElem?_getD,Am,lk,hb,hbr,hR,N1,stepT,TS]),by omega,by omega⟩
 have f1:Ac (decide ((i:Int)<64)=false):=fo
 obtain rfl:i=64:=by omega
 have hM:Kw h c=J9 h (Fi h (BJ c 64) 64):=rfl
 rw[hM]
 generalize Fi h (BJ c 64) 64=S at *
 clear hL hM hlt hi
 refine JU ?_
 repeat' ((first|exact tt|refine na fun b=>?_|refine nb fun b hb=>?_|refine iq ?_|(refine jq ?_ ?_<;>intro h h')|exact wZ|refine Aa ?_ ?_)<;>try refine JU ?_)
 clear f1
 refine A2 (fun i:Nat=>⟨lk [(2,.ptr bh 0),(4,.ptr br 0),(5,.ptr b 0),(85,.int .i64 (i:Int))],lk [(bh,CZ h S i),(br,z8),(b,S.c8)]⟩) (fun i=>i≤8) (fun i=>8 - i) 0 (by omega) (An (by simp[Am,lk,hb,hbr,CZ])) ?_
 intro i hi
 by_cases hlt:i<8
 ·have hc8:i=0∨i=1∨i=2∨i=3∨i=4∨i=5∨i=6∨i=7:=by omega
  rcases hc8 with rfl|rfl|rfl|rfl|rfl|rfl|rfl|rfl
  all_goals (refine JU ?_;try exact tt)
  all_goals repeat' ((first|exact tt|refine na fun b=>?_|refine nb fun b hb=>?_|refine iq ?_|(refine jq ?_ ?_<;>intro h h')|exact wZ|refine Aa ?_ ?_)<;>try refine JU ?_)
  all_goals first|exact AC 1 ⟨An (by simp[Am,lk,hb,hbr,CZ]),by omega,by omega⟩|exact AC 2 ⟨An (by simp[Am,lk,hb,hbr,CZ]),by omega,by omega⟩|exact AC 3 ⟨An (by simp[Am,lk,hb,hbr,CZ]),by omega,by omega⟩|exact AC 4 ⟨An (by simp[Am,lk,hb,hbr,CZ]),by omega,by omega⟩|exact AC 5 ⟨An (by simp[Am,lk,hb,hbr,CZ]),by omega,by omega⟩|exact AC 6 ⟨An (by simp[Am,lk,hb,hbr,CZ]),by omega,by omega⟩|exact AC 7 ⟨An (by simp[Am,lk,hb,hbr,CZ]),by omega,by omega⟩|exact AC 8 ⟨An (by simp[Am,lk,hb,hbr,CZ]),by omega,by omega⟩
 have f1:Ac (decide ((i:Int)<8)=false):=fo
 obtain rfl:i=8:=by omega
 have hA:CZ h S 8=(J9 h S).c8:=rfl
 rw[hA]
 generalize J9 h S=R
 clear hA hlt hi
 refine JU ?_
 repeat' ((first|exact tt|refine na fun b=>?_|refine nb fun b hb=>?_|refine iq ?_|(refine jq ?_ ?_<;>intro h h')|exact wZ|refine Aa ?_ ?_)<;>try refine JU ?_)
theorem k0:((0:Nat):Int)=0:=rfl
theorem k1:((1:Nat):Int)=1:=rfl
theorem k2:((2:Nat):Int)=2:=rfl
theorem k3:((3:Nat):Int)=3:=rfl
theorem k4:((4:Nat):Int)=4:=rfl
theorem Pk:((5:Nat):Int)=5:=rfl
theorem k6:((6:Nat):Int)=6:=rfl
theorem k7:((7:Nat):Int)=7:=rfl
def B9(n k:Nat):UInt8:=UInt8.ofNat (n * 8 / 2 ^ (8 * k))
def GJ(n i:Nat):List AV:=[Bg (if 7<i then B9 n 7 else 0),Bg (if 6<i then B9 n 6 else 0),Bg (if 5<i then B9 n 5 else 0),Bg (if 4<i then B9 n 4 else 0),Bg (if 3<i then B9 n 3 else 0),Bg (if 2<i then B9 n 2 else 0),Bg (if 1<i then B9 n 1 else 0),Bg (if 0<i then B9 n 0 else 0)]
theorem a4S(n:Nat)(h:n≤281474976710656):IntKind.wrap .u64 (IntKind.wrap .u64 (n:Int) * 2 ^ (min 3 (IntKind.bits .u64)))=((n * 8:Nat):Int):=by
 show ((n:Int) % 18446744073709551616 * 8) % 18446744073709551616=_
 omega
theorem Po(m k:Nat):IntKind.wrap .u8 (((m:Nat):Int).fdiv (2 ^ k))=((UInt8.ofNat (m / 2 ^ k)).toNat:Int):=by
 show ((m:Int).fdiv (2 ^ k)) % 256=_
 rw[Ty,Int.fdiv_eq_ediv_of_nonneg _ (Int.natCast_nonneg _),UInt8.toNat_ofNat']
 rfl
theorem JV{A B:Prop}(h:B)(e:A=B:=by (simp (disch:=omega) only[*, ↓Ed,Eu, ↓reduceIte,reduceCtorEq,Nat.reduceAdd,Nat.reduceEqDiff,Nat.reduceLT,Nat.reduceLeDiff,Int.reduceToNat,Int.reduceEq,Int.reduceLT,Int.reduceLE,Ap,Ao,Ax,Dh,nn,AN,AH,Int.reduceAdd,GJ,Int.reduceSub,Int.reduceMul,Po,a4S,k0,k1,k2,k3,k4,Pk,k6,k7];first|done|rfl)):A:=e▸h
theorem a9F(n:Nat)(h:n≤281474976710656):CP Tryz.prog 206 [.int .i64 (n:Int)] (.str (len8 n)):=by
 refine a7r _ _ (by simp) ?_
 simp only[V7];refine JV ?_
 repeat' ((first|exact tt|refine na fun b=>?_|refine nb fun b hb=>?_|refine iq ?_|(refine jq ?_ ?_<;>intro h h')|exact wZ|refine Aa ?_ ?_)<;>try refine JV ?_)
 refine A2 (fun i:Nat=>⟨lk [(0,.int .i64 (n:Int)),(3,.ptr b 0),(5,.int .i64 (i:Int))],lk [(b,GJ n i)]⟩) (fun i=>i≤8) (fun i=>8 - i) 0 (by omega) (An (by simp[Am,lk,GJ,Bg])) ?_
 intro i hi
 by_cases hlt:i<8
 ·have f1:Ac (decide ((i:Int)<8)=true):=fo
  have hc8:i=0∨i=1∨i=2∨i=3∨i=4∨i=5∨i=6∨i=7:=by omega
  rcases hc8 with rfl|rfl|rfl|rfl|rfl|rfl|rfl|rfl
  all_goals (refine JV ?_;try exact tt)
  all_goals repeat' ((first|exact tt|refine na fun b=>?_|refine nb fun b hb=>?_|refine iq ?_|(refine jq ?_ ?_<;>intro h h')|exact wZ|refine Aa ?_ ?_)<;>try refine JV ?_)
  all_goals first|exact AC 1 ⟨An (by simp[Am,lk,GJ,Bg,B9,IntKind.bits]),by omega,by omega⟩|exact AC 2 ⟨An (by simp[Am,lk,GJ,Bg,B9,IntKind.bits]),by omega,by omega⟩|exact AC 3 ⟨An (by simp[Am,lk,GJ,Bg,B9,IntKind.bits]),by omega,by omega⟩|exact AC 4 ⟨An (by simp[Am,lk,GJ,Bg,B9,IntKind.bits]),by omega,by omega⟩|exact AC 5 ⟨An (by simp[Am,lk,GJ,Bg,B9,IntKind.bits]),by omega,by omega⟩|exact AC 6 ⟨An (by simp[Am,lk,GJ,Bg,B9,IntKind.bits]),by omega,by omega⟩|exact AC 7 ⟨An (by simp[Am,lk,GJ,Bg,B9,IntKind.bits]),by omega,by omega⟩|exact AC 8 ⟨An (by simp[Am,lk,GJ,Bg,B9,IntKind.bits]),by omega,by omega⟩
 have f1:Ac (decide ((i:Int)<8)=false):=fo
 obtain rfl:i=8:=by omega
 refine JV ?_
 repeat' ((first|exact tt|refine MO (len8 n) rfl rfl ?_|refine na fun b=>?_|refine nb fun b hb=>?_|refine iq ?_|(refine jq ?_ ?_<;>intro h h')|exact wZ|refine Aa ?_ ?_)<;>try refine JV ?_)
abbrev Ae(l:List UInt8):List AV:=l.map Bg
theorem L9(l:List UInt8)(hl:l.length=32):CP Tryz.prog 123 [.agg (Ae l)] (.str l):=by
 refine a7p _ _ (by simp) ?_
 have hs:(Ae l).map AV.store=Ae l:=by rw[EX];rfl
 have ht:List.take 32 (Ae l)=Ae l:=B0 (by simp[hl])
 have h0:0<(Ae l).length:=by simp[hl]
 simp only[V5];refine JV ?_
 repeat' ((first|exact tt|refine MO l rfl hl ?_|refine na fun b=>?_|refine nb fun b hb=>?_|refine iq ?_|(refine jq ?_ ?_<;>intro h h')|exact wZ|refine Aa ?_ ?_)<;>try refine JV ?_)
theorem b4h{A:Prop}(h:A:=by first|(simp[Am,lk,GJ,Bg,B9,IntKind.bits];done)|fail):A:=h
theorem Nt(n:Nat):(len8 n).length=8:=by simp[len8]
theorem Qu(n:Nat):(n:Int).tmod 64=((n % 64:Nat):Int):=rfl
theorem tm2(n:Nat):(119 - ((n % 64:Nat):Int)).tmod 64=(((119 - n % 64) % 64:Nat):Int):=by
 rw[show (119 - ((n % 64:Nat):Int))=((119 - n % 64:Nat):Int) by omega];rfl
theorem Qy(i:Nat):(i:Int).tdiv 4=((i / 4:Nat):Int):=rfl
theorem Qv(i:Nat):(i:Int).tmod 4=((i % 4:Nat):Int):=rfl
theorem sh4(i:Nat):(24 - ((i % 4:Nat):Int) * 8).toNat=24 - 8 * (i % 4):=by omega
theorem QZ(l:List UInt8)(i:Nat)(x:UInt8)(hi:i<l.length):splice (l.map Bg) i [Bg x]=(l.set i x).map Bg:=by
 induction l generalizing i with
 | nil=>simp at hi
 | cons y l ih=>cases i with
  | zero=>simp[splice]
  | succ i=>simp only[CX,splice,List.set_cons_succ];rw[ih i (by simpa using hi)]
abbrev Ip:List AV:=[.int .u8 0,.int .u8 0,.int .u8 0,.int .u8 0,.int .u8 0,.int .u8 0,.int .u8 0,.int .u8 0,.int .u8 0,.int .u8 0,.int .u8 0,.int .u8 0,.int .u8 0,.int .u8 0,.int .u8 0,.int .u8 0,.int .u8 0,.int .u8 0,.int .u8 0,.int .u8 0,.int .u8 0,.int .u8 0,.int .u8 0,.int .u8 0,.int .u8 0,.int .u8 0,.int .u8 0,.int .u8 0,.int .u8 0,.int .u8 0,.int .u8 0,.int .u8 0]
theorem GY{A B:Prop}(h:B)(e:A=B:=by (simp (disch:=omega) only[*, ↓Ed,Eu, ↓reduceIte,reduceCtorEq,Nat.reduceAdd,Nat.reduceEqDiff,Nat.reduceLT,Nat.reduceLeDiff,Int.reduceToNat,Int.reduceEq,Int.reduceLT,Int.reduceLE,Ap,Ao,Ax,List.length_replicate,AJ,AY,Cc,BL,Nt,Dh,nn,AN,AH,Int.reduceAdd,Pi,Qu,tm2,Qy,Qv,sh4,G0,QB];first|done|rfl)):A:=e▸h
theorem a9g:CP Tryz.prog 207 [] (.agg sha0.c8):=by
 refine a7q _ _ (by simp) ?_
 simp only[V6];refine GY ?_
 repeat' ((first|exact tt|refine na fun b=>?_|refine nb fun b hb=>?_|refine iq ?_|(refine jq ?_ ?_<;>intro h h')|exact wZ|refine Aa ?_ ?_)<;>try refine GY ?_)
 all_goals rfl
theorem L8(g:AV)(l:List (List UInt8))(hg:g.alias=.sl none 1 (l.map fun p=>[.str p]))(hn:l.length≤1000000)(hl:l.flatten.length≤140737488355328):CP Tryz.prog 163 [g] (.agg (Ae (BB l.flatten))):=by
 have hJ:=a8K none [] l (by omega) (by rw[Pi];exact hl)
 rw[Pi]at hJ
 generalize l.flatten=s at *
 have hR:=a8Y ((119 - s.length % 64) % 64) (by omega)
 have hL:=a9F s.length (by omega)
 refine a7o _ _ (by simp) ?_
 simp only[V4,Cz.z2];refine GY ?_
 repeat' ((first|exact tt|refine Ab hJ ?_|refine Ab hR ?_|refine Ab hL ?_|refine Ab a9g ?_|refine na fun b=>?_|refine nb fun b hb=>?_|refine iq ?_|(refine jq ?_ ?_<;>intro h h')|exact wZ|refine Aa ?_ ?_)<;>try refine GY ?_)
 rename_i br
 clear hJ hR hL
 obtain ⟨N,hN,hN1⟩:∃ N,(BQ s).length=64 * N∧(BQ s).length / 64=N:=⟨_,(ZJ s).1,rfl⟩
 have hSh:BB s=CJ (Ef (BQ s) N):=by rw[← hN1];rfl
 have hPd:BQ s=s++([128]++List.replicate ((119 - s.length % 64) % 64) 0++len8 s.length):=by simp[BQ]
 obtain ⟨z,hz,hzl⟩:∃ z:List AV,Ip=z∧z.length=32:=⟨_,rfl,rfl⟩
 have hPl:(BQ s).length≤140737488355328+200:=by rw[hPd];simp[len8];omega
 refine A2 (fun k:Nat=>⟨lk [(2,.ptr br 0),(3,.str ((BQ s).drop (64 * k))),(5,.ptr b 0)],lk [(br,z),(b,(Ef (BQ s) k).c8)]⟩) (fun k=>k≤N) (fun k=>N - k) 0 (by omega) (An (by rw[← hz,hPd];simp[Am,lk,hb,Ef])) ?_
 clear hz hPd hN1
 rw[hSh]
 clear hSh
 intro k hk
 by_cases hlt:k<N
 ·have hne:(BQ s).drop (64 * k)≠[]:=fun e=>by
   have:=congrArg List.length e
   rw[Cc]at this
   simp at this;omega
  have f1:Ac (decide ((BQ s).drop (64 * k)=[])=false):=by simp only[Ac,Hn];exact hne
  have hR:Ef (BQ s) (k+1)=Kw (Ef (BQ s) k) (((BQ s).drop (64 * k)).take 64):=rfl
  have hM:=a9P (Ef (BQ s) k) (((BQ s).drop (64 * k)).take 64) (by rw[BL,Cc];omega)
  have hdl:((BQ s).drop (64 * k)).length=64 * N - 64 * k:=by rw[Cc,hN]
  have hdd:((BQ s).drop (64 * k)).drop 64=(BQ s).drop (64 * (k+1)):=by rw[List.drop_drop];congr 1
  rw[← hR]at hM
  have hdt:((BQ s).drop (64 * k)).take (64 * N - 64 * k)=(BQ s).drop (64 * k):=B0 (by omega)
  generalize hS':Ef (BQ s) (k+1)=S' at *
  generalize Ef (BQ s) k=S at *
  generalize (BQ s).drop (64 * k)=q at *
  clear hne hR
  refine GY ?_
  repeat' ((first|exact tt|refine Ag hM ?_|refine na fun b=>?_|refine nb fun b hb=>?_|refine iq ?_|(refine jq ?_ ?_<;>intro h h')|exact wZ|refine Aa ?_ ?_)<;>try refine GY ?_)
  all_goals exact AC (k+1) ⟨An (by simp[Am,lk,hb, *]),by omega,by omega⟩
 obtain rfl:k=N:=by omega
 have hne:(BQ s).drop (64 * k)=[]:=Jd (by omega)
 have f1:Ac (decide ((BQ s).drop (64 * k)=[])=true):=by simp only[Ac,Hn];exact hne
 generalize Ef (BQ s) k=S at *
 rw[hne]at f1 ⊢
 clear hne hN hlt hk hPl
 refine GY ?_
 repeat' ((first|exact tt|refine na fun b=>?_|refine nb fun b hb=>?_|refine iq ?_|(refine jq ?_ ?_<;>intro h h')|exact wZ|refine Aa ?_ ?_)<;>try refine GY ?_)
 rename_i bs hbs
 clear f1
 have hO:(Er S 0).map Bg=Ip:=rfl
 have h8:S.c8=S.l.map aW:=rfl
 refine A2 (fun i:Nat=>⟨lk [(2,.ptr br 0),(5,.ptr bs 0),(6,.ptr b 0),(32,.int .i64 (i:Int))],lk [(br,z),(bs,S.l.map aW),(b,(Er S i).map Bg)]⟩) (fun i=>i≤32) (fun i=>32 - i) 0 (by omega) (An (by rw[hO];simp[Am,lk,hb,hbs])) ?_
 clear hO h8
 intro i hi
 by_cases hlt:i<32
 ·have f1:Ac (decide ((i:Int)<32)=true):=fo
  have h4:i / 4<8:=by omega
  have hld:=M2 S.l (i / 4) h4
  have hst:=QZ (Er S i) i (JA S i) (by rw[PL S i hi];exact hlt)
  rw[Zb S i hlt _ rfl]at hst
  have hlen:((Er S i).map Bg).length=32:=by rw[Ax,PL S i hi]
  have hlen8:(S.l.map aW).length=8:=rfl
  have hB:JA S i=wB ((S.l.getD (i / 4) 0) >>> (24 - 8 * (i % 4))):=rfl
  rw[hB]at hst
  simp only[Bg]at hst
  generalize S.l=sl at *
  generalize (Er S i).map Bg=X at *
  clear hB
  refine GY ?_
  repeat' ((first|exact tt|refine na fun b=>?_|refine nb fun b hb=>?_|refine iq ?_|(refine jq ?_ ?_<;>intro h h')|exact wZ|refine Aa ?_ ?_)<;>try refine GY ?_)
  all_goals exact AC (i+1) ⟨An (by simp[Am,lk,hb,hbs]),by omega,by omega⟩
 have f1:Ac (decide ((i:Int)<32)=false):=fo
 obtain rfl:i=32:=by omega
 have hT:List.take 32 (Ae (CJ S))=Ae (CJ S):=B0 (by simp[CJ])
 have hst:(Ae (CJ S)).map AV.store=Ae (CJ S):=by rw[EX];rfl
 have hP:=I4 z (Ae (CJ S)) (by rw[hzl];simp[CJ])
 have hL:(Ae (CJ S)).length=32:=by simp[CJ]
 rw[show (Er S 32).map Bg=Ae (CJ S) by rw[Za]]
 generalize Ae (CJ S)=X at *
 generalize S.l.map aW=Y at *
 refine GY ?_
 repeat' ((first|exact tt|refine na fun b=>?_|refine nb fun b hb=>?_|refine iq ?_|(refine jq ?_ ?_<;>intro h h')|exact wZ|refine Aa ?_ ?_)<;>try refine GY ?_)
theorem t32(n:Nat):(32 - (n:Int)).toNat=32 - n:=by omega
theorem a2D(l:List UInt8)(i:Nat)(h:i<l.length):(l.map Bh).getD i []=Bh (l.getD i 0):=by simp[List.getD,h]
theorem a2E(b:UInt8)(K:AV→Prop):RK (A5 none (Bh b)) K=K (.int .u8 (b.toNat:Int)):=by simp[RK,A5,Bh,AV.alias]
theorem Ek{A B:Prop}(h:B)(e:A=B:=by (simp (disch:=omega) only[*, ↓Ed,Eu, ↓reduceIte,reduceCtorEq,Nat.reduceAdd,Nat.reduceEqDiff,Nat.reduceLT,Nat.reduceLeDiff,Int.reduceToNat,Int.reduceEq,Int.reduceLT,Int.reduceLE,Ap,Ao,Ax,J1,Oc,Of,Ob,Od,J2,G0,Oe,Dh,nn,Xq,Xr,Xs,a0M,a1l,a1m,a1n,a1o,AN,AH,Int.reduceAdd,a0l,Ml,P8,Pm,HD,S8.c8,CZ,t32,b0M,a2D,Mv,a2E];first|done|rfl)):A:=e▸h
theorem b0b(x:Wd)(n:Nat)(h:1≤n∧n≤31):CP Tryz.prog 195 [aW x,.int .i64 (n:Int)] (aW (Cv x n)):=by
 refine a6W _ _ (by simp) ?_
 simp only[VO];refine Ek ?_
 repeat' ((first|exact tt|refine na fun b=>?_|refine nb fun b hb=>?_|refine iq ?_|(refine jq ?_ ?_<;>intro h h')|exact wZ|refine Aa ?_ ?_)<;>try refine Ek ?_)
 all_goals omega
theorem H6(x:Wd)(k:Int)(n:Nat)(hk:k=(n:Int))(h:1≤n∧n≤31):CP Tryz.prog 195 [aW x,.int .i64 k] (aW (Cv x n)):=by subst hk;exact b0b x n h
theorem a9k:CP Tryz.prog 152 [] (.agg (shaK.map aW)):=by
 refine a6S _ _ (by simp) ?_
 simp only[VK,Cz.z3];refine Ek ?_
 repeat' ((first|exact tt|refine na fun b=>?_|refine nb fun b hb=>?_|refine iq ?_|(refine jq ?_ ?_<;>intro h h')|exact wZ|refine Aa ?_ ?_)<;>try refine Ek ?_)
 all_goals rfl
abbrev UN(l:List UInt8):AV:=.sl none 1 (l.map Bh)
theorem b0a(h:S8)(s:List UInt8)(hs:s.length=64):CP Tryz.prog 153 [.agg h.c8,UN s,.agg (shaK.map aW)] (.agg (Kw h s).c8):=by
 refine a6V _ _ (by simp) ?_
 have hk64:(shaK.map aW).length=64:=rfl
 have h0k:0<(shaK.map aW).length:=by rw[hk64];omega
 have hst:=Mv shaK
 generalize hK:shaK.map aW=KK at *
 simp only[VN,Cz.z3];refine Ek ?_
 repeat' ((first|exact tt|refine na fun b=>?_|refine nb fun b hb=>?_|refine iq ?_|(refine jq ?_ ?_<;>intro h h')|exact wZ|refine Aa ?_ ?_)<;>try refine Ek ?_)
 rename_i bh bk hbk br hbr
 subst hK
 clear hst
 refine A2 (fun i:Nat=>⟨lk [(1,UN s),(3,.ptr bh 0),(5,.ptr bk 0),(6,.ptr br 0),(7,.ptr b 0),(8,.int .i64 (i:Int))],lk [(bh,h.c8),(bk,shaK.map aW),(br,z8),(b,(Dl s i).map aW)]⟩) (fun i=>i≤64) (fun i=>64 - i) 0 (by omega) (An (by rw[a1F s];simp[Am,lk,hb,hbk,hbr])) ?_
 intro i hi
 by_cases hlt:i<64
 ·have f1:Ac (decide ((i:Int)<64)=true):=fo
  have l64:(Dl s i).length=64:=P9 s i hi
  by_cases h16:i<16
  ·have f2:Ac (decide ((i:Int)<16)=true):=fo
   have hS:=Ox (Dl s i) i (Ji s i) (by omega)
   rw[Qa s i hlt (Ji s i) (by rw[Af h16])]at hS
   have hX:=Ml s i hi
   generalize (Dl s i).map aW=X at *
   clear l64 hk64 h0k
   simp only[Ji,Lc]at hS
   refine Ek ?_
   repeat' ((first|exact tt|refine na fun b=>?_|refine nb fun b hb=>?_|refine iq ?_|(refine jq ?_ ?_<;>intro h h')|exact wZ|refine Aa ?_ ?_)<;>try refine Ek ?_)
   all_goals exact AC (i+1) ⟨An (by simp[Am,lk,hb,hbk,hbr]),by omega,by omega⟩
  ·have f2:Ac (decide ((i:Int)<16)=false):=fo
   have hS:=Ox (Dl s i) i (Jz (BJ s i) i) (by omega)
   rw[Qa s i hlt (Jz (BJ s i) i) (by rw[Ad h16])]at hS
   have hX:=Ml s i hi
   clear l64 hk64 h0k
   simp only[Jz]at hS
   refine Ek ?_
   repeat' ((first|exact tt|refine Ag (H6 _ 7 7 rfl (by omega)) ?_|refine Ag (H6 _ 18 18 rfl (by omega)) ?_|refine Ag (H6 _ 17 17 rfl (by omega)) ?_|refine Ag (H6 _ 19 19 rfl (by omega)) ?_|refine na fun b=>?_|refine nb fun b hb=>?_|refine iq ?_|(refine jq ?_ ?_<;>intro h h')|exact wZ|refine Aa ?_ ?_)<;>try refine Ek ?_)
   all_goals exact AC (i+1) ⟨An (by simp[Am,lk,hb,hbk,hbr]),by omega,by omega⟩
 have f1:Ac (decide ((i:Int)<64)=false):=fo
 obtain rfl:i=64:=by omega
 rw[show (Dl s 64)=BJ s 64 by simp[Dl]]
 refine Ek ?_
 repeat' ((first|exact tt|refine na fun b=>?_|refine nb fun b hb=>?_|refine iq ?_|(refine jq ?_ ?_<;>intro h h')|exact wZ|refine Aa ?_ ?_)<;>try refine Ek ?_)
 rename_i bw hbw
 clear f1 hlt hi
 refine A2 (fun i:Nat=>⟨lk [(3,.ptr bh 0),(5,.ptr bk 0),(6,.ptr br 0),(7,.ptr bw 0),(11,.ptr b 0),(12,.int .i64 (i:Int))],lk [(bh,h.c8),(bk,shaK.map aW),(br,z8),(bw,(BJ s 64).map aW),(b,(Fi h (BJ s 64) i).c8)]⟩) (fun i=>i≤64) (fun i=>64 - i) 0 (by omega) (An (by simp[Am,lk,hb,hbk,hbr,hbw,Fi])) ?_
 intro i hi
 by_cases hlt:i<64
 ·have f1:Ac (decide ((i:Int)<64)=true):=fo
  have hR:Fi h (BJ s 64) (i+1)=N1 (Fi h (BJ s 64) i) (shaK.getD i 0) ((BJ s 64).getD i 0):=rfl
  generalize Fi h (BJ s 64) i=S at *
  clear hk64 h0k
  refine Ek ?_
  repeat' ((first|exact tt|refine Ag (H6 _ 6 6 rfl (by omega)) ?_|refine Ag (H6 _ 11 11 rfl (by omega)) ?_|refine Ag (H6 _ 25 25 rfl (by omega)) ?_|refine Ag (H6 _ 2 2 rfl (by omega)) ?_|refine Ag (H6 _ 13 13 rfl (by omega)) ?_|refine Ag (H6 _ 22 22 rfl (by omega)) ?_|refine na fun b=>?_|refine nb fun b hb=>?_|refine iq ?_|(refine jq ?_ ?_<;>intro h h')|exact wZ|refine Aa ?_ ?_)<;>try refine Ek ?_)
  all_goals exact AC (i+1) ⟨An (by simp[-List.getD_eq_getElem?_getD,Am,lk,hb,hbk,hbr,hbw,hR,N1,stepT,TS]),by omega,by omega⟩
 have f1:Ac (decide ((i:Int)<64)=false):=fo
 obtain rfl:i=64:=by omega
 have hM:Kw h s=J9 h (Fi h (BJ s 64) 64):=rfl
 rw[hM]
 generalize Fi h (BJ s 64) 64=S at *
 clear hk64 h0k hM hlt hi
 refine Ek ?_
 repeat' ((first|exact tt|refine na fun b=>?_|refine nb fun b hb=>?_|refine iq ?_|(refine jq ?_ ?_<;>intro h h')|exact wZ|refine Aa ?_ ?_)<;>try refine Ek ?_)
 clear f1
 refine A2 (fun i:Nat=>⟨lk [(3,.ptr bh 0),(6,.ptr br 0),(11,.ptr b 0),(17,.int .i64 (i:Int))],lk [(bh,CZ h S i),(br,z8),(b,S.c8)]⟩) (fun i=>i≤8) (fun i=>8 - i) 0 (by omega) (An (by simp[Am,lk,hb,hbk,hbr,hbw,CZ])) ?_
 intro i hi
 by_cases hlt:i<8
 ·have hc8:i=0∨i=1∨i=2∨i=3∨i=4∨i=5∨i=6∨i=7:=by omega
  rcases hc8 with rfl|rfl|rfl|rfl|rfl|rfl|rfl|rfl
  all_goals (refine Ek ?_;try exact tt)
  all_goals repeat' ((first|exact tt|refine na fun b=>?_|refine nb fun b hb=>?_|refine iq ?_|(refine jq ?_ ?_<;>intro h h')|exact wZ|refine Aa ?_ ?_)<;>try refine Ek ?_)
  all_goals first|exact AC 1 ⟨An (by simp[Am,lk,hb,hbk,hbr,hbw,CZ]),by omega,by omega⟩|exact AC 2 ⟨An (by simp[Am,lk,hb,hbk,hbr,hbw,CZ]),by omega,by omega⟩|exact AC 3 ⟨An (by simp[Am,lk,hb,hbk,hbr,hbw,CZ]),by omega,by omega⟩|exact AC 4 ⟨An (by simp[Am,lk,hb,hbk,hbr,hbw,CZ]),by omega,by omega⟩|exact AC 5 ⟨An (by simp[Am,lk,hb,hbk,hbr,hbw,CZ]),by omega,by omega⟩|exact AC 6 ⟨An (by simp[Am,lk,hb,hbk,hbr,hbw,CZ]),by omega,by omega⟩|exact AC 7 ⟨An (by simp[Am,lk,hb,hbk,hbr,hbw,CZ]),by omega,by omega⟩|exact AC 8 ⟨An (by simp[Am,lk,hb,hbk,hbr,hbw,CZ]),by omega,by omega⟩
 have f1:Ac (decide ((i:Int)<8)=false):=fo
 obtain rfl:i=8:=by omega
 have hA:CZ h S 8=(J9 h S).c8:=rfl
 rw[hA]
 generalize J9 h S=R
 clear hA hlt hi
 refine Ek ?_
 repeat' ((first|exact tt|refine na fun b=>?_|refine nb fun b hb=>?_|refine iq ?_|(refine jq ?_ ?_<;>intro h h')|exact wZ|refine Aa ?_ ?_)<;>try refine Ek ?_)
theorem TJ(i:Nat):(24 - 8 * ((i % 4:Nat):Int)).toNat=24 - 8 * (i % 4):=by omega
theorem IM(n:Nat):len8 n=[B9 n 7,B9 n 6,B9 n 5,B9 n 4,B9 n 3,B9 n 2,B9 n 1,B9 n 0]:=rfl
theorem TK:shaK.length=64:=rfl
theorem TN:splice QI 0 (shaK.map aW)=shaK.map aW:=I4 QI _ rfl
theorem Sv(n:Nat)(h:n≤281474976710656):IntKind.wrap .u64 (IntKind.wrap .u64 (n:Int) * 8)=((n * 8:Nat):Int):=by
 show ((n:Int) % 18446744073709551616 * 8) % 18446744073709551616=_
 omega
theorem a2h(l:List UInt8)(i:Nat)(hi:i<l.length)(K:AV→Prop):RK (A5 none ((l.map Bg).drop i)) K=K (Bg (l.getD i 0)):=by
 rw[Jc (by simpa using hi)]
 apply propext
 simp[RK,A5,Bg,AV.alias,List.getD,hi]
def GF(l:List UInt8)(i:Nat):List UInt8:=l.take i++List.replicate (32 - i) 0
theorem Xx(l:List UInt8)(i:Nat)(hl:l.length=32)(h:i≤32):(GF l i).length=32:=by simp[GF];omega
theorem a3J(l:List UInt8)(i:Nat)(hl:l.length=32)(h:i<32):(GF l i).set i (l.getD i 0)=GF l (i+1):=by
 unfold GF
 have e:(l.take i).length=i:=by simp;omega
 rw[List.set_append_right _ _ (by rw[e];exact A8 i),e,Nat.sub_self,show 32 - i=(32 - (i+1))+1 by omega,J7,List.set_cons_zero,List.take_succ,Aw (by omega)]
 simp[-List.take_append_getElem,List.getD,show i<l.length by omega]
theorem DN{A B:Prop}(h:B)(e:A=B:=by (simp (disch:=omega) only[*, ↓Ed,Eu, ↓reduceIte,reduceCtorEq,Nat.reduceAdd,Nat.reduceEqDiff,Nat.reduceLT,Nat.reduceLeDiff,Int.reduceToNat,Int.reduceEq,Int.reduceLT,Int.reduceLE,Ap,Ao,Ax,List.length_replicate,AJ,AY,Dh,nn,AN,AH,Int.reduceAdd,Int.reduceSub,Int.reduceMul,Qu,Qy,Qv,TJ,G0,QB,Po,Sv,k0,k1,k2,k3,k4,Pk,k6,k7,Mv,BL,Nt,TK,TN];first|done|rfl)):A:=e▸h
theorem NK(l:List UInt8)(hl:l.length=32):CP Tryz.prog 85 [.agg (Ae l)] (.str l):=by
 refine a6P _ _ (by simp) ?_
 have hs:(Ae l).map AV.store=Ae l:=by rw[EX];rfl
 have h0:0<(Ae l).length:=by simp[hl]
 simp only[VJ];refine DN ?_
 repeat' ((first|exact tt|refine na fun b=>?_|refine nb fun b hb=>?_|refine iq ?_|(refine jq ?_ ?_<;>intro h h')|exact wZ|refine Aa ?_ ?_)<;>try refine DN ?_)
 rename_i bl
 clear hs h0
 refine A2 (fun i:Nat=>⟨lk [(1,.ptr bl 0),(3,.osl b 0 32),(4,.int .i64 (i:Int))],lk [(bl,Ae l),(b,(GF l i).map Bg)]⟩) (fun i=>i≤32) (fun i=>32 - i) 0 (by omega) (An (by simp[Am,lk,hb,GF,Bg])) ?_
 intro i hi
 by_cases hlt:i<32
 ·have f1:Ac (decide ((i:Int)<32)=true):=fo
  have hld:∀ K:AV→Prop,RK (A5 none ((Ae l).drop i)) K=K (Bg (l.getD i 0)):=a2h l i (by omega)
  have hst:=QZ (GF l i) i (l.getD i 0) (by rw[Xx l i hl hi];exact hlt)
  rw[a3J l i hl hlt]at hst
  have hlen:((GF l i).map Bg).length=32:=by rw[Ax,Xx l i hl hi]
  have hlen2:(Ae l).length=32:=by rw[Ax,hl]
  have Ca:(Bg (l.getD i 0)).alias=Bg (l.getD i 0):=rfl
  have hce:(Bg (l.getD i 0)).cells=[Bg (l.getD i 0)]:=rfl
  generalize (GF l i).map Bg=X at *
  generalize Bg (l.getD i 0)=y at *
  generalize Ae l=Y at *
  refine DN ?_
  repeat' ((first|exact tt|refine na fun b=>?_|refine nb fun b hb=>?_|refine iq ?_|(refine jq ?_ ?_<;>intro h h')|exact wZ|refine Aa ?_ ?_)<;>try refine DN ?_)
  all_goals exact AC (i+1) ⟨An (by simp[Am,lk,hb]),by omega,by omega⟩
 have f1:Ac (decide ((i:Int)<32)=false):=fo
 obtain rfl:i=32:=by omega
 rw[show GF l 32=l by simp[GF];exact B0 (by omega)]
 refine DN ?_
 repeat' ((first|exact tt|refine MO l (B0 (by simp[hl])) hl ?_|refine na fun b=>?_|refine nb fun b hb=>?_|refine iq ?_|(refine jq ?_ ?_<;>intro h h')|exact wZ|refine Aa ?_ ?_)<;>try refine DN ?_)
theorem NJ(s:List UInt8)(hl:s.length≤100000000000000):CP Tryz.prog 86 [.str s] (.agg (Ae (BB s))):=by
 refine a6O _ _ (by simp) ?_
 have hmx:maxLen=9223372036854775807:=rfl
 simp only[VI,Cz.z2,Cz.z3];refine DN ?_
 repeat' ((first|exact tt|refine na fun b=>?_|refine nb fun b hb=>?_|refine iq ?_|(refine jq ?_ ?_<;>intro h h')|exact wZ|refine Aa ?_ ?_)<;>try refine DN ?_)
 obtain ⟨z,hz,hzl⟩:∃ z:List AV,Ip=z∧z.length=32:=⟨_,rfl,rfl⟩
 refine A2 (fun k:Nat=>⟨lk [(0,.str s),(2,.ptr b 0),(3,.sl (some 5) 1 ((s++128::List.replicate k 0).map Bh))],lk [(b,z)]⟩) (fun k=>k≤(119 - s.length % 64) % 64) (fun k=>(119 - s.length % 64) % 64 - k) 0 (by omega) (An (by rw[← hz];simp[Am,lk,Bh])) ?_
 clear hz
 intro k hk
 have hq:(s++128::List.replicate k (0:UInt8)).length=s.length+(k+1):=by simp
 by_cases hlt:k<(119 - s.length % 64) % 64
 ·have f1:Ac (decide ((((s++128::List.replicate k (0:UInt8)).length % 64:Nat):Int)=56)=false):=fo
  have hn:(s++128::List.replicate k (0:UInt8)).map Bh++[[.int .u8 0]]=(s++128::List.replicate (k+1) 0).map Bh:=by
   rw[List.replicate_succ'];simp[Bh]
  generalize (s++128::List.replicate k (0:UInt8))=q at *
  simp (disch:=omega) only[hn,Bj, ↓Ed,Eu, ↓reduceIte,reduceCtorEq,Nat.reduceAdd,Nat.reduceEqDiff,Nat.reduceLT,Nat.reduceLeDiff,Int.reduceToNat,Int.reduceEq,Int.reduceLT,Int.reduceLE,Ap,Ao,Ax,List.length_replicate,AJ,AY,Dh,nn,AN,AH,Int.reduceAdd,Int.reduceSub,Int.reduceMul,Qu,Qy,Qv,TJ,G0,QB,Po,Sv,k0,k1,k2,k3,k4,Pk,k6,k7,Mv,BL,Nt,TK,TN]
  repeat' ((first|exact tt|refine na fun b=>?_|refine nb fun b hb=>?_|refine iq ?_|(refine jq ?_ ?_<;>intro h h')|exact wZ|refine Aa ?_ ?_)<;>try refine DN ?_)
  all_goals exact AC (k+1) ⟨An BA,by omega,by omega⟩
 obtain rfl:k=(119 - s.length % 64) % 64:=by omega
 have f1:Ac (decide ((((s++128::List.replicate ((119 - s.length % 64) % 64) (0:UInt8)).length % 64:Nat):Int)=56)=true):=fo
 have hP:(s++128::List.replicate ((119 - s.length % 64) % 64) 0)++len8 s.length=BQ s:=by simp[BQ]
 obtain ⟨N,hN,hN1⟩:∃ N,(BQ s).length=64 * N∧(BQ s).length / 64=N:=⟨_,(ZJ s).1,rfl⟩
 have hSh:BB s=CJ (Ef (BQ s) N):=by rw[← hN1];rfl
 clear hN1 hlt hk
 rw[hSh]
 clear hSh
 generalize (s++128::List.replicate ((119 - s.length % 64) % 64) (0:UInt8))=q at *
 simp (disch:=omega) only[Bj, ↓Ed,Eu, ↓reduceIte,reduceCtorEq,Nat.reduceAdd,Nat.reduceEqDiff,Nat.reduceLT,Nat.reduceLeDiff,Int.reduceToNat,Int.reduceEq,Int.reduceLT,Int.reduceLE,Ap,Ao,Ax,List.length_replicate,AJ,AY,Dh,nn,AN,AH,Int.reduceAdd,Int.reduceSub,Int.reduceMul,Qu,Qy,Qv,TJ,G0,QB,Po,Sv,k0,k1,k2,k3,k4,Pk,k6,k7,Mv,BL,Nt,TK,TN]
 repeat' ((first|exact tt|refine na fun b=>?_|refine nb fun b hb=>?_|refine iq ?_|(refine jq ?_ ?_<;>intro h h')|exact wZ|refine Aa ?_ ?_)<;>try refine DN ?_)
 clear f1
 refine A2 (fun j:Nat=>⟨lk [(2,.ptr b 0),(3,.sl (some 5) 1 ((q++(len8 s.length).take j).map Bh)),(4,.int .u64 ((s.length * 8:Nat):Int)),(5,.int .i64 (7 - (j:Int)))],lk [(b,z)]⟩) (fun j=>j≤8) (fun j=>8 - j) 0 (by omega) (An BA) ?_
 intro j hj
 by_cases hlt:j<8
 ·have hc8:j=0∨j=1∨j=2∨j=3∨j=4∨j=5∨j=6∨j=7:=by omega
  rcases hc8 with rfl|rfl|rfl|rfl|rfl|rfl|rfl|rfl
  all_goals (refine DN ?_;try exact tt)
  all_goals repeat' ((first|exact tt|refine na fun b=>?_|refine nb fun b hb=>?_|refine iq ?_|(refine jq ?_ ?_<;>intro h h')|exact wZ|refine Aa ?_ ?_)<;>try refine DN ?_)
  all_goals first|exact AC 1 ⟨An (by simp[Am,lk,IM,B9,Bh,IntKind.bits]),by omega,by omega⟩|exact AC 2 ⟨An (by simp[Am,lk,IM,B9,Bh,IntKind.bits]),by omega,by omega⟩|exact AC 3 ⟨An (by simp[Am,lk,IM,B9,Bh,IntKind.bits]),by omega,by omega⟩|exact AC 4 ⟨An (by simp[Am,lk,IM,B9,Bh,IntKind.bits]),by omega,by omega⟩|exact AC 5 ⟨An (by simp[Am,lk,IM,B9,Bh,IntKind.bits]),by omega,by omega⟩|exact AC 6 ⟨An (by simp[Am,lk,IM,B9,Bh,IntKind.bits]),by omega,by omega⟩|exact AC 7 ⟨An (by simp[Am,lk,IM,B9,Bh,IntKind.bits]),by omega,by omega⟩|exact AC 8 ⟨An (by simp[Am,lk,IM,B9,Bh,IntKind.bits]),by omega,by omega⟩
 obtain rfl:j=8:=by omega
 rw[show q++(len8 s.length).take 8=BQ s by rw[B0 (by simp[len8]),hP]]
 have hpb:64 * N≤100000000000300:=by rw[← hN, ← hP,Ao,Nt,hq];omega
 clear hP hq hlt hj
 generalize BQ s=p at *
 refine DN ?_
 repeat' ((first|exact tt|refine Ab a9k ?_|refine na fun b=>?_|refine nb fun b hb=>?_|refine iq ?_|(refine jq ?_ ?_<;>intro h h')|exact wZ|refine Aa ?_ ?_)<;>try refine DN ?_)
 rename_i br bh hbh
 refine A2 (fun k:Nat=>⟨lk [(2,.ptr br 0),(3,.sl (some 5) 1 (p.map Bh)),(6,.ptr bh 0),(7,.ptr b 0),(8,.int .i64 (64 * (k:Int)))],lk [(br,z),(bh,(Ef p k).c8),(b,shaK.map aW)]⟩) (fun k=>k≤N) (fun k=>N - k) 0 (by omega) (An (by simp[Am,lk,hb,hbh,Ef,sha0,wI])) ?_
 intro k hk
 by_cases hlt:k<N
 ·have f1:Ac (decide (64 * (k:Int)<(p.length:Int))=true):=fo
  have hR:Ef p (k+1)=Kw (Ef p k) ((p.drop (64 * k)).take 64):=rfl
  have hM:=b0a (Ef p k) ((p.drop (64 * k)).take 64) (by rw[BL,Cc];omega)
  have hch:List.drop (64 * k) (List.take (64 * k+64) (p.map Bh))=((p.drop (64 * k)).take 64).map Bh:=by
   rw[List.drop_take,show 64 * k+64 - 64 * k=64 by omega,List.map_take,List.map_drop]
  have t1:(64 * (k:Int)).toNat=64 * k:=by omega
  have t2:(64 * (k:Int)+64).toNat=64 * k+64:=by omega
  have t3:List.take 64 (shaK.map aW)=shaK.map aW:=rfl
  rw[← hR]at hM
  generalize hS':Ef p (k+1)=S' at *
  generalize Ef p k=S at *
  generalize (p.drop (64 * k)).take 64=c at *
  clear hR
  refine DN ?_
  repeat' ((first|exact tt|refine Ag hM ?_|refine na fun b=>?_|refine nb fun b hb=>?_|refine iq ?_|(refine jq ?_ ?_<;>intro h h')|exact wZ|refine Aa ?_ ?_)<;>try refine DN ?_)
  all_goals exact AC (k+1) ⟨An (by simp[Am,lk,hb,hbh,hS'];omega),by omega,by omega⟩
 obtain rfl:k=N:=by omega
 have f1:Ac (decide (64 * (k:Int)<(p.length:Int))=false):=fo
 generalize Ef p k=S at *
 refine DN ?_
 repeat' ((first|exact tt|refine na fun b=>?_|refine nb fun b hb=>?_|refine iq ?_|(refine jq ?_ ?_<;>intro h h')|exact wZ|refine Aa ?_ ?_)<;>try refine DN ?_)
 rename_i bk hbk
 clear f1 hlt hk hN
 have hO:(Er S 0).map Bg=Ip:=rfl
 refine A2 (fun i:Nat=>⟨lk [(2,.ptr br 0),(6,.ptr bh 0),(9,.ptr b 0),(10,.int .i64 (i:Int))],lk [(br,z),(bh,S.l.map aW),(b,(Er S i).map Bg)]⟩) (fun i=>i≤32) (fun i=>32 - i) 0 (by omega) (An (by rw[hO];simp[Am,lk,hb,hbh,hbk])) ?_
 clear hO
 intro i hi
 by_cases hlt:i<32
 ·have f1:Ac (decide ((i:Int)<32)=true):=fo
  have h4:i / 4<8:=by omega
  have hld:=M2 S.l (i / 4) h4
  have hst:=QZ (Er S i) i (JA S i) (by rw[PL S i hi];exact hlt)
  rw[Zb S i hlt _ rfl]at hst
  have hlen:((Er S i).map Bg).length=32:=by rw[Ax,PL S i hi]
  have hlen8:(S.l.map aW).length=8:=rfl
  have hB:JA S i=wB ((S.l.getD (i / 4) 0) >>> (24 - 8 * (i % 4))):=rfl
  rw[hB]at hst
  simp only[Bg]at hst
  generalize S.l=sl at *
  generalize (Er S i).map Bg=X at *
  clear hB
  refine DN ?_
  repeat' ((first|exact tt|refine na fun b=>?_|refine nb fun b hb=>?_|refine iq ?_|(refine jq ?_ ?_<;>intro h h')|exact wZ|refine Aa ?_ ?_)<;>try refine DN ?_)
  all_goals exact AC (i+1) ⟨An (by simp[Am,lk,hb,hbh,hbk]),by omega,by omega⟩
 have f1:Ac (decide ((i:Int)<32)=false):=fo
 obtain rfl:i=32:=by omega
 have hT:List.take 32 (Ae (CJ S))=Ae (CJ S):=B0 (by simp[CJ])
 have hst:(Ae (CJ S)).map AV.store=Ae (CJ S):=by rw[EX];rfl
 have hP:=I4 z (Ae (CJ S)) (by rw[hzl];simp[CJ])
 have hL:(Ae (CJ S)).length=32:=by simp[CJ]
 rw[show (Er S 32).map Bg=Ae (CJ S) by rw[Za]]
 generalize Ae (CJ S)=X at *
 generalize S.l.map aW=Y at *
 refine DN ?_
 repeat' ((first|exact tt|refine na fun b=>?_|refine nb fun b hb=>?_|refine iq ?_|(refine jq ?_ ?_<;>intro h h')|exact wZ|refine Aa ?_ ?_)<;>try refine DN ?_)
theorem qr9{A:Prop}(h:A:=by first|(simp[Am,lk,IM,B9,Bh,IntKind.bits];done)|fail):A:=h
def Hi(n:Nat)(k:Nat):List AV:=((List.replicate (8 - k) (0:UInt8))++(eight n).drop (8 - k)).map Bg
theorem w8m(v:Nat):IntKind.wrap .u8 (Int.tmod (v:Int) 256)=((v % 256:Nat):Int):=by
 rw[Int.tmod_eq_emod_of_nonneg (by omega)]
 show ((v:Int) % 256) % 256=_
 omega
theorem w8d(v:Nat):Int.tdiv (v:Int) 256=((v / 256:Nat):Int):=by
 rw[Int.tdiv_eq_ediv_of_nonneg (by omega)];omega
theorem w8q(v:Nat)(h:v≤72057594037927935):IntKind.wrap .i64 (Int.tdiv (v:Int) 256)=((v / 256:Nat):Int):=by
 rw[w8d]
 exact Ap (by omega)
theorem WY(n k:Nat)(h:k<8):splice (Hi n k) (7 - k) [.int .u8 ((n / 256 ^ k % 256:Nat):Int)]=Hi n (k+1):=by
 have hc:k=0∨k=1∨k=2∨k=3∨k=4∨k=5∨k=6∨k=7:=by omega
 rcases hc with rfl|rfl|rfl|rfl|rfl|rfl|rfl|rfl
 all_goals simp[Hi,eight,splice,List.replicate,Bg]
theorem Mw{A B:Prop}(h:B)(e:A=B:=by (simp (disch:=omega) only[*, ↓Ed,Eu, ↓reduceIte,reduceCtorEq,Nat.reduceAdd,Nat.reduceEqDiff,Nat.reduceLT,Nat.reduceLeDiff,Int.reduceToNat,Int.reduceEq,Int.reduceLT,Int.reduceLE,Ap,Ao,Ax,Int.reduceAdd];first|done|rfl)):A:=e▸h
theorem PO(n:Nat)(h:n≤72057594037927935):CP Tryz.prog 87 [.int .i64 (n:Int)] (.str (eight n)):=by
 refine a6B _ _ (by simp) ?_
 have f1:Ac (decide ((n:Int)<0)=false):=fo
 have f2:Ac (decide ((72057594037927935:Int)<n)=false):=fo
 simp only[Vx];refine Mw ?_
 repeat' ((first|exact tt|refine na fun b=>?_|refine nb fun b hb=>?_|refine iq ?_|(refine jq ?_ ?_<;>intro h h')|exact wZ|refine Aa ?_ ?_)<;>try refine Mw ?_)
 refine A2 (fun k:Nat=>⟨lk [(0,.int .i64 ((n / 256 ^ k:Nat):Int)),(3,.osl b 0 8),(4,.int .i64 (7 - (k:Int)))],lk [(b,Hi n k)]⟩) (fun k=>k≤8) (fun k=>8 - k) 0 (by omega) (An (by simp[Am,lk,Hi,Bg,eight,List.replicate])) ?_
 clear f1 f2
 intro k hk
 by_cases hk8:k<8
 rotate_left
 ·obtain rfl:k=8:=by omega
  have f1:Ac (decide ((0:Int)≤7 - ((8:Nat):Int))=false):=by simp[Ac]
  refine Mw ?_
  repeat' ((first|exact tt|refine MO (eight n) rfl rfl ?_|refine na fun b=>?_|refine nb fun b hb=>?_|refine iq ?_|(refine jq ?_ ?_<;>intro h h')|exact wZ|refine Aa ?_ ?_)<;>try refine Mw ?_)
 have f1:Ac (decide ((0:Int)≤7 - (k:Int))=true):=fo
 have e0:(7 - (k:Int)).toNat * 1=7 - k:=by omega
 have e1:=w8q (n / 256 ^ k) (En (Nat.div_le_self _ _) h)
 have e2:n / 256 ^ k / 256=n / 256 ^ (k+1):=by rw[Nat.div_div_eq_div_mul, ← F8]
 have e3:=WY n k hk8
 have e4:7 - (k:Int) - 1=7 - ((k+1:Nat):Int):=by omega
 have e5:7 - k+1≤(Hi n k).length:=by simp[Hi,eight]
 refine Mw ?_
 repeat' ((first|exact tt|refine na fun b=>?_|refine nb fun b hb=>?_|refine iq ?_|(refine jq ?_ ?_<;>intro h h')|exact wZ|refine Aa ?_ ?_)<;>try refine Mw ?_)
 rw[w8m,e3]
 exact AC (k+1) ⟨An BA,by omega,by omega⟩
end Go.Proofs.YtfgihnhoocnmdaaGreatDoor
