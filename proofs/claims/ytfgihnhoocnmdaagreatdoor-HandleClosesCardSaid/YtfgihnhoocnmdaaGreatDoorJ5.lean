import Derived.Laws.StructEq
import Derived.ChangeKeysEq
import Derived.Test.YtfgihnhoocnmdaaGreatDoorJ4
import Derived.MapKept
namespace Go.Proofs.YtfgihnhoocnmdaaGreatDoor
set_option linter.all false
set_option maxHeartbeats 64000000
set_option maxRecDepth 100000
open Go.RowKit
theorem R5:∀ {k l:List Kd} {a b c d:List AV} {r:Bool},a.length=k.length→b.length=k.length→Bb (k++l) (a++c) (b++d)=some r→∃ x y,Bb k a b=some x∧Bb l c d=some y∧r=(x&&y)
 | [],l,a,b,c,d,r,h1,h2,h=>by
  obtain rfl:=Dn h1
  obtain rfl:=Dn h2
  exact ⟨true,r,rfl,h,by simp⟩
 | k::ks,l,a,b,c,d,r,h1,h2,h=>by
  match a,b,h1,h2 with
  | x::a,y::b,h1,h2=>
   simp only[Bi,Bb]at h ⊢
   split at h
   ·rename_i u v g1 g2
    obtain ⟨p,q,h3,h4,rfl⟩:=R5 (by simpa using h1) (by simpa using h2) g2
    simp only[Az]at h
    subst h
    exact ⟨u&&p,q,by rw[g1,h3],h4,by rw[Bool.and_assoc]⟩
   ·cases h
structure CellsR (P:Program) (W:World) (U:Nat→Nat→Prop) (t:TypeId) (x:Value) (cs:List AV):Prop where
 len:cs.length=Bd P t
 size:x.cells.size=cs.length
 vr:∀ (j:Nat) (v:Value) (c:AV),x.cells[j]?=some v→cs[j]?=some c→VR W U v c∧v.oneCell'=true
 form:(∃ xs,x=.agg xs)↔∃ d,P.underlying t=some d∧FU d=true
section
variable {P:Program} {W:World} {U:Nat→Nat→Prop}
theorem LP:∀ (n:Nat) (t:TypeId) (ks:List Kd),CM P n t=some ks→ks.length=Bd P t
 | 0,t,ks,h=>by simp[CM]at h
 | n+1,t,ks,h=>by
  unfold CM at h
  have hch:∀ (fs:List Field) (a tot:Nat) (ks:List Kd),E4 P a fs=some tot→Hm (CM P n) fs=some ks→a+ks.length=tot:=by
   intro fs
   induction fs with
   | nil=>intro a tot ks h1 h2;simp[E4]at h1;simp[Hm]at h2;subst h2;simpa using h1
   | cons f fs ih=>
    intro a tot ks h1 h2
    simp only[E4]at h1
    split at h1
    ·simp only[Hm]at h2
     split at h2
     ·rename_i k1 k2 e1 e2
      simp only[Az]at h2
      subst h2
      have:=ih _ _ _ h1 e2
      have:=LP n _ _ e1
      simp only[Ao];omega
     ·cases h2
    ·cases h1
  split at h
  ·split at h
   ·cases h;simp_all
   ·cases h
  ·split at h
   ·cases h;simp_all
   ·cases h
  ·split at h
   ·cases h;simp_all
   ·cases h
  ·split at h
   ·rename_i hc
    have:=hch _ _ _ _ hc.2 h
    omega
   ·cases h
  ·split at h
   ·rename_i hc
    simp only[BM]at h
    obtain ⟨k,hk,rfl⟩:=h
    have:=LP n _ _ hk
    rw[hc.1,List.length_flatten,List.map_replicate,List.sum_replicate_nat,this]
   ·cases h
  ·cases h
theorem NM{n:Nat}{t:TypeId}{ks:List Kd}(hk:CM P n t=some ks)(hi:(P.info? t).isSome=true){zs:Array Value}{es:List AV}{off:Nat}(hle:off+Bd P t≤es.length)(g1:zs.size=es.length)
  (g3:∀ (j:Nat) (v:Value) (c:AV),zs[j]?=some v→es[j]?=some c→VR W U v c∧v.oneCell'=true):
  ∃ v,(part t zs off).run P W=.ok v W∧CellsR P W U t v ((es.drop off).take (Bd P t)):=by
 cases hinf:P.info? t with
 | none=>simp[hinf]at hi
 | some inf=>
  have hsz:inf.size=Bd P t:=by simp[Bd,hinf]
  have single:(∃ dd,P.underlying t=some dd∧FU dd=false)→Bd P t=1→∃ v,(part t zs off).run P W=.ok v W∧CellsR P W U t v ((es.drop off).take (Bd P t)):=by
   rintro ⟨dd,hu,hag⟩ h1
   have hlt:off<zs.size:=by omega
   have hz:zs[off]?=some zs[off]:=Dz hlt
   have hes:es[off]?=some (es[off]'(by omega)):=Aw (by omega)
   obtain ⟨k1,k2⟩:=g3 off _ _ hz hes
   have hc1:(zs[off]).cells = #[zs[off]]:=by
    revert k2
    cases zs[off]<;>simp[Value.oneCell',Value.cells]
   have htk:(es.drop off).take (Bd P t)=[es[off]'(by omega)]:=by
    rw[h1,Jc (by omega)];rfl
   refine ⟨zs[off], ?_, ?_⟩
   ·simp[part,IW hu,hag,hz]
   ·rw[htk]
    refine ⟨by simp[h1],by rw[hc1];rfl,fun j v c hv hc=>?_, ?_⟩
    ·rw[hc1]at hv
     cases j with
     | zero=>simp at hv hc;subst hv;subst hc;exact ⟨k1,k2⟩
     | succ j=>simp at hv
    ·constructor
     ·rintro ⟨xs',hx⟩
      rw[hx]at k2;simp[Value.oneCell']at k2
     ·rintro ⟨d',hx,hd'⟩
      rw[hu]at hx
      cases hx
      rw[hag]at hd';cases hd'
  have whole:(∃ dd,P.underlying t=some dd∧FU dd=true)→∃ v,(part t zs off).run P W=.ok v W∧CellsR P W U t v ((es.drop off).take (Bd P t)):=by
   rintro ⟨dd,hu,hag⟩
   refine ⟨.agg (zs.extract off (off+inf.size)),by simp[part,IW hu,hag,sizeOf,typeInfo,hinf], ?_⟩
   refine ⟨by simp;omega,by simp[Value.cells,hsz];omega,fun j v c hv hc=>?_,⟨fun _=>⟨dd,hu,hag⟩,fun _=>⟨_,rfl⟩⟩⟩
   simp only[Value.cells,Array.getElem?_extract]at hv
   rw[HM,CC]at hc
   split at hv
   ·split at hc
    ·exact g3 (off+j) v c hv hc
    ·cases hc
   ·cases hv
  cases n with
  | zero=>simp[CM]at hk
  | succ n=>
   unfold CM at hk
   split at hk
   ·rename_i hu;split at hk
    ·rename_i h1;exact single ⟨_,hu,rfl⟩ h1
    ·cases hk
   ·rename_i k hu;split at hk
    ·rename_i h1;exact single ⟨_,hu,rfl⟩ h1
    ·cases hk
   ·rename_i hu;split at hk
    ·rename_i h1;exact single ⟨_,hu,rfl⟩ h1
    ·cases hk
   ·rename_i gs hu;exact whole ⟨_,hu,rfl⟩
   ·rename_i m e hu;exact whole ⟨_,hu,rfl⟩
   ·cases hk
theorem Xg{n d:Nat}{e:TypeId}{k:List Kd}(hk:CM P n e=some k)(hi:(P.info? e).isSome=true)
  (ih:∀ (x y:Value) (cs ds:List AV) (r:Bool),CellsR P W U e x cs→CellsR P W U e y ds→Bb k cs ds=some r→(Op.equalIn d e x y).run P W=.ok r W)
  (xs ys:Array Value) (cs ds:List AV) (h1:xs.size=cs.length) (h2:ys.size=ds.length) (h3:∀ (j:Nat) (v:Value) (c:AV),xs[j]?=some v→cs[j]?=some c→VR W U v c∧v.oneCell'=true)
  (h4:∀ (j:Nat) (v:Value) (c:AV),ys[j]?=some v→ds[j]?=some c→VR W U v c∧v.oneCell'=true):
  ∀ (m i:Nat) (r:Bool),cs.length=(i+m) * Bd P e→ds.length=(i+m) * Bd P e→Bb (List.replicate m k).flatten (cs.drop (i * Bd P e)) (ds.drop (i * Bd P e))=some r→
   (Op.eqItems d e (P.cellsOf e) xs ys (List.range' i m)).run P W=.ok r W
 | 0,i,r,hl1,hl2,he=>by
  rw[Jd (by simp at hl1;omega),Jd (by simp at hl2;omega)]at he
  simp only[List.replicate_zero,List.flatten_nil,Bb,Az]at he
  subst he
  simp[Op.eqItems]
 | m+1,i,r,hl1,hl2,he=>by
  have hkl:=LP n _ _ hk
  have hle:i * Bd P e+Bd P e≤(i+(m+1)) * Bd P e:=by
   have:(i+1) * Bd P e≤(i+(m+1)) * Bd P e:=Dq _ (by omega)
   rw[Bp,F7]at this;exact this
  have hnx:i * Bd P e+Bd P e=(i+1) * Bd P e:=by rw[Bp,F7]
  have e1:cs.drop (i * Bd P e)=(cs.drop (i * Bd P e)).take (Bd P e)++cs.drop ((i+1) * Bd P e):=by rw[← hnx, ← List.drop_drop,HN]
  have e2:ds.drop (i * Bd P e)=(ds.drop (i * Bd P e)).take (Bd P e)++ds.drop ((i+1) * Bd P e):=by rw[← hnx, ← List.drop_drop,HN]
  rw[J7,List.flatten_cons,e1,e2]at he
  obtain ⟨x,y,q1,q2,rfl⟩:=R5 (by simp;omega) (by simp;omega) he
  obtain ⟨v1,r1,c1⟩:=NM hk hi (off:=i * Bd P e) (by omega) h1 h3
  obtain ⟨v2,r2,c2⟩:=NM hk hi (off:=i * Bd P e) (by omega) h2 h4
  have hr:=ih v1 v2 _ _ x c1 c2 q1
  have hrest:=Xg hk hi ih xs ys cs ds h1 h2 h3 h4 m (i+1) y (by rw[hl1];congr 1;omega) (by rw[hl2];congr 1;omega) q2
  have hce:P.cellsOf e=Bd P e:=rfl
  rw[List.range'_succ]
  simp only[Op.eqItems,hce,Sem.run_bind,r1,Result.andThen_ok,r2,hr,Sem.run_ite]
  cases x
  ·simp
  ·simpa[hce]using hrest
theorem Xf{n d:Nat}(ih:∀ (t:TypeId) (x y:Value) (ks:List Kd) (cs ds:List AV) (r:Bool),CM P n t=some ks→CellsR P W U t x cs→CellsR P W U t y ds→Bb ks cs ds=some r→(Op.equalIn d t x y).run P W=.ok r W)
  (xs ys:Array Value) (cs ds:List AV) (h1:xs.size=cs.length) (h2:ys.size=ds.length) (h3:∀ (j:Nat) (v:Value) (c:AV),xs[j]?=some v→cs[j]?=some c→VR W U v c∧v.oneCell'=true)
  (h4:∀ (j:Nat) (v:Value) (c:AV),ys[j]?=some v→ds[j]?=some c→VR W U v c∧v.oneCell'=true):
  ∀ (fs:List Field) (a tot:Nat) (ks:List Kd) (r:Bool),E4 P a fs=some tot→cs.length=tot→ds.length=tot→Hm (CM P n) fs=some ks→Bb ks (cs.drop a) (ds.drop a)=some r→(Op.eqFields d xs ys fs).run P W=.ok r W
 | [],a,tot,ks,r,hc,hl1,hl2,hf,he=>by
  simp only[Hm,Az]at hf
  subst hf
  simp only[E4,Az]at hc
  subst hc
  rw[Jd (by omega),Jd (by omega)]at he
  simp only[Bb,Az]at he
  subst he
  simp[Op.eqFields]
 | f::fs,a,tot,ks,r,hc,hl1,hl2,hf,he=>by
  obtain ⟨kf,kr,hkf,hkr,rfl⟩:∃ kf kr,CM P n f.type=some kf∧Hm (CM P n) fs=some kr∧ks=kf++kr:=by
   simp only[Hm]at hf
   split at hf
   ·rename_i a b e1 e2;exact ⟨a,b,e1,e2,by simpa using hf.symm⟩
   ·cases hf
  have hkl:=LP n _ _ hkf
  simp only[E4]at hc
  split at hc
  ·rename_i hcond
   obtain ⟨ho,hn,hi⟩:=hcond
   have hge:a+Bd P f.type≤tot:=by
    have:∀ (l:List Field) (a t:Nat),E4 P a l=some t→a≤t:=by
     intro l
     induction l with
     | nil=>intro a t h;simp[E4]at h;omega
     | cons g l ih2=>
      intro a t h
      simp only[E4]at h
      split at h
      ·have:=ih2 _ _ h;omega
      ·cases h
    exact this _ _ _ hc
   have e1:cs.drop a=(cs.drop a).take (Bd P f.type)++cs.drop (a+Bd P f.type):=by rw[← List.drop_drop,HN]
   have e2:ds.drop a=(ds.drop a).take (Bd P f.type)++ds.drop (a+Bd P f.type):=by rw[← List.drop_drop,HN]
   rw[e1,e2]at he
   obtain ⟨x,y,q1,q2,rfl⟩:=R5 (by simp;omega) (by simp;omega) he
   have part1:∀ (zs:Array Value) (es:List AV),zs.size=es.length→es.length=tot→(∀ (j:Nat) (v:Value) (c:AV),zs[j]?=some v→es[j]?=some c→VR W U v c∧v.oneCell'=true)→
     ∃ v,(part f.type zs f.offset).run P W=.ok v W∧CellsR P W U f.type v ((es.drop a).take (Bd P f.type)):=fun zs es g1 g2 g3=>by
    have:=NM hkf hi (off:=a) (by omega) g1 g3
    rwa [ho]
   obtain ⟨v1,r1,c1⟩:=part1 xs cs h1 hl1 h3
   obtain ⟨v2,r2,c2⟩:=part1 ys ds h2 hl2 h4
   have hr:=ih f.type v1 v2 _ _ _ x hkf c1 c2 q1
   have hrest:=Xf ih xs ys cs ds h1 h2 h3 h4 fs _ tot _ y hc hl1 hl2 hkr q2
   simp only[Op.eqFields,Af hn,Sem.run_bind,r1,Result.andThen_ok,r2,hr,Sem.run_ite]
   cases x
   ·simp
   ·simpa using hrest
  ·cases hc

theorem O1:∀ (n d:Nat),n≤d→∀ (t:TypeId) (x y:Value) (ks:List Kd) (cs ds:List AV) (r:Bool),CM P n t=some ks→CellsR P W U t x cs→CellsR P W U t y ds→Bb ks cs ds=some r→(Op.equalIn d t x y).run P W=.ok r W
 | 0,d,_,t,x,y,ks,cs,ds,r,ht,_,_,_=>by simp[CM]at ht
 | n+1,0,hd,t,x,y,ks,cs,ds,r,ht,hx,hy,he=>by omega
 | n+1,d+1,hd,t,x,y,ks,cs,ds,r,ht,hx,hy,he=>by
  have ih:=fun t x y ks cs ds r=>O1 n d (by omega) t x y ks cs ds r
  have single:∀ k,ks=[k]→Bd P t=1→(∀ d,P.underlying t=some d→FU d=false)→∃ c c',VR W U x c∧VR W U y c'∧DV k c c'=some r:=by
   intro k hk h1 hns
   subst hk
   have one:∀ (z:Value) (es:List AV),CellsR P W U t z es→∃ c,es=[c]∧VR W U z c:=by
    intro z es hz
    have hl:es.length=1:=by rw[hz.len,h1]
    match es,hl with
    | [c],_=>
     refine ⟨c,rfl, ?_⟩
     have hna:¬ ∃ xs,z=.agg xs:=fun h=>by
      obtain ⟨dd,hd1,hd2⟩:=hz.form.1 h
      rw[hns dd hd1]at hd2;cases hd2
     have hc:z.cells = #[z]:=by
      cases z<;>first|rfl|exact absurd ⟨_,rfl⟩ hna
     exact (hz.vr 0 z c (by rw[hc];rfl) rfl).1
   obtain ⟨c,rfl,k1⟩:=one x cs hx
   obtain ⟨c',rfl,k2⟩:=one y ds hy
   refine ⟨c,c',k1,k2, ?_⟩
   simp only[Bb]at he
   split at he
   ·rename_i u v q1 q2
    simp only[Az]at q2 he
    subst q2 he
    rw[q1];simp
   ·cases he
  unfold CM at ht
  split at ht
  ·rename_i hu
   split at ht
   ·rename_i h1
    obtain ⟨c,c',k1,k2,k3⟩:=single .b (by simpa using ht.symm) h1 (by intro d hd;rw[hu]at hd;cases hd;rfl)
    unfold DV at k3
    split at k3<;>simp_all
    rw[k1.bool_inv,k2.bool_inv,run_equal_bool hu]
    simp[k3]
   ·cases ht
  ·rename_i kk hu
   split at ht
   ·rename_i h1
    obtain ⟨c,c',k1,k2,k3⟩:=single .i (by simpa using ht.symm) h1 (by intro d hd;rw[hu]at hd;cases hd;rfl)
    unfold DV at k3
    split at k3<;>simp_all
    obtain ⟨rfl,rfl⟩:=k3
    rw[k1.int_inv,k2.int_inv,run_equalIn_int W d t _ kk _ _ hu]
    rfl
   ·cases ht
  ·rename_i hu
   split at ht
   ·rename_i h1
    obtain ⟨c,c',k1,k2,k3⟩:=single .s (by simpa using ht.symm) h1 (by intro d hd;rw[hu]at hd;cases hd;rfl)
    unfold DV at k3
    split at k3<;>simp_all
    rw[k1.str_inv,k2.str_inv,run_equalIn_string W d t _ _ hu,Qx,Qx,M6]
    simp[k3]
   ·cases ht
  ·rename_i fs hu
   split at ht
   ·rename_i hc
    obtain ⟨hs,hch⟩:=hc
    obtain ⟨xs,rfl⟩:=hx.form.2 ⟨_,hu,rfl⟩
    obtain ⟨ys,rfl⟩:=hy.form.2 ⟨_,hu,rfl⟩
    have hfo:P.fieldsOf t=fs:=by simp[Program.fieldsOf,hu]
    rw[run_equalIn_struct W d t xs ys (by rw[hfo];exact hu) hs,hfo]
    exact Xf ih xs ys cs ds hx.size hy.size hx.vr hy.vr fs.toList 0 _ _ r hch hx.len hy.len ht (by simpa using he)
   ·cases ht
  ·rename_i m e hu
   split at ht
   ·rename_i hc
    simp only[BM]at ht
    obtain ⟨k,hk,rfl⟩:=ht
    obtain ⟨xs,rfl⟩:=hx.form.2 ⟨_,hu,rfl⟩
    obtain ⟨ys,rfl⟩:=hy.form.2 ⟨_,hu,rfl⟩
    obtain ⟨inf,hinf⟩:=Option.isSome_iff_exists.1 hc.2
    rw[run_equalIn_array (w:=W) d xs ys hu hinf,List.range_eq_range']
    exact Xg hk hc.2 (fun x y cs ds r=>ih e x y k cs ds r hk) xs ys cs ds hx.size hy.size hx.vr hy.vr m 0 r (by rw[hx.len,hc.1,AH]) (by rw[hy.len,hc.1,AH]) (by simpa using he)
   ·cases ht
  ·cases ht

theorem Ni:∀ {ks:List Kd} {cs ds:List AV} {b:Bool},Bb ks cs ds=some b→cs.length=ks.length∧ds.length=ks.length
 | [],[],[],_,_=>⟨rfl,rfl⟩
 | k::ks,c::cs,d::ds,b,h=>by
  simp only[Bb]at h
  split at h
  ·rename_i x y h1 h2
   have:=Ni h2
   simp[this]
  ·cases h
 | [],_::_,_,_,h=>by simp[Bb]at h
 | [],[],_::_,_,h=>by simp[Bb]at h
 | _::_,[],_,_,h=>by simp[Bb]at h
 | _::_,_::_,[],_,h=>by simp[Bb]at h
theorem a0c{N:Nat}{W0:World}{U0:Nat→Nat→Prop}{M:Nat→Prop}{a:Act}{s:St}{o:Oper}{r:AV}(h:Inv N W0 U0 M a W U s){op:BinOp}{t ty:TypeId}{td:TypeDesc}{x y:Operand}{X Y:Opd}{ks:List Kd}(ho:o.op=.binOp op t x y ty)(hop:op=.eql∨op=.neq)
  (ht:P.underlying t=some td) (htd:FU td=true) (hg:P.eqGuardType P.depth t=false) (hk:CM P 8 t=some ks) (hx:Au x=some X) (hy:Au y=some Y) (hr:AU P s (.aeq (IK op) ks X Y) r):VOK P a o W U r:=by
 obtain ⟨cs,ds,b,hv,hu,he,rfl⟩:=hr
 obtain ⟨l1,l2⟩:=Ni he
 have kl:=LP 8 t ks hk
 have cell:∀ {z:Value} {es:List AV},VR W U z (.agg es)→es.length=ks.length→∃ vs:List Value,z=.agg vs.toArray∧CellsR P W U t z es:=by
  intro z es hz hl
  cases hz with
  | agg vs _ hvl hvr h1=>
   refine ⟨vs,rfl,by omega,by simp[Value.cells,hvl],fun j v c hv hc=>?_,⟨fun _=>⟨_,ht,htd⟩,fun _=>⟨_,rfl⟩⟩⟩
   have hv':vs[j]?=some v:=by simpa[Value.cells]using hv
   exact ⟨hvr j v c hv' hc,h1 v (Dd hv')⟩
 obtain ⟨vs,e1,c1⟩:=cell (AW h hx hv) l1
 obtain ⟨us,e2,c2⟩:=cell (AW h hy hu) l2
 have hrun:=O1 8 10000 (by omega) t _ _ ks cs ds b hk c1 c2 he
 rw[e1,e2]at hrun
 rcases hop with rfl|rfl
 ·refine VOK.same (v:=.bool b) ?_ (.bool _) (by simp[IK])
  simp only[execOp,ho,e1,e2,Sem.run_bind,run_eqGuard_agg W _ t x y _ _ hg,Result.andThen_ok,run_eql_struct,hrun]
  simp
 ·refine VOK.same (v:=.bool (!b)) ?_ (.bool _) (by simp[IK])
  simp only[execOp,ho,e1,e2,Sem.run_bind,run_eqGuard_agg W _ t x y _ _ hg,Result.andThen_ok,run_neq_struct,hrun]
  simp
end
section
variable {P:Program} {W:World} {U:Nat→Nat→Prop}
theorem Xb{k:Kd}{c d:AV}{v u:Value}(h:DV k c d=some true)(hv:VR W U v c)(hu:VR W U u d):v=u:=by
 unfold DV at h
 split at h
 ·rw[hv.int_inv,hu.int_inv]
  split at h
  ·rename_i e;subst e
   have:=of_decide_eq_true (Fp h)
   rw[this]
  ·cases h
 ·rw[hv.bool_inv,hu.bool_inv]
  rw[of_decide_eq_true (Fp h)]
 ·rw[hv.str_inv,hu.str_inv]
  rw[of_decide_eq_true (Fp h)]
 ·cases h
theorem R4{k:Kd}{c d:AV}{v:Value}{b:Bool}(h:DV k c d=some b)(hv:VR W U v c)(n:Nat):Instr.sameBits n v v=true∧(v.cells = #[v]∧∀ xs,v ≠ .agg xs):=by
 unfold DV at h
 split at h
 ·rw[hv.int_inv];cases n<;>simp[Instr.sameBits,Value.cells]
 ·rw[hv.bool_inv];cases n<;>simp[Instr.sameBits,Value.cells]
 ·rw[hv.str_inv];cases n<;>(refine ⟨?_,rfl,fun _ e=>by cases e⟩;simp only[Instr.sameBits,beq_toListBytes,beq_self_eq_true])
 ·cases h
theorem Xe:∀ {ks:List Kd} {cs ds:List AV} {vs us:List Value},Bb ks cs ds=some true→vs.length=cs.length→us.length=ds.length→(∀ (i:Nat) (v:Value) (c:AV),vs[i]?=some v→cs[i]?=some c→VR W U v c)→
  (∀ (i:Nat) (v:Value) (c:AV),us[i]?=some v→ds[i]?=some c→VR W U v c)→vs=us
 | [],[],[],vs,us,_,h1,h2,_,_=>by
  obtain rfl:=Dn (l:=vs) (by simpa using h1)
  obtain rfl:=Dn (l:=us) (by simpa using h2)
  rfl
 | k::ks,c::cs,d::ds,v::vs,u::us,h,h1,h2,h3,h4=>by
  simp only[Bb]at h
  split at h
  ·rename_i x y g1 g2
   simp only[Az,AP]at h
   obtain ⟨rfl,rfl⟩:=h
   have e1:=Xb g1 (h3 0 v c rfl rfl) (h4 0 u d rfl rfl)
   have e2:=Xe (vs:=vs) (us:=us) g2 (by simpa using h1) (by simpa using h2) (fun i v c hv hc=>h3 (i+1) v c (by simpa using hv) (by simpa using hc)) (fun i v c hv hc=>h4 (i+1) v c (by simpa using hv) (by simpa using hc))
   rw[e1,e2]
  ·cases h
 | k::ks,c::cs,d::ds,[],us,h,h1,h2,h3,h4=>by simp at h1
 | k::ks,c::cs,d::ds,v::vs,[],h,h1,h2,h3,h4=>by simp at h2
 | [],_::_,_,_,_,h,_,_,_,_=>by simp[Bb]at h
 | [],[],_::_,_,_,h,_,_,_,_=>by simp[Bb]at h
 | _::_,[],_,_,_,h,_,_,_,_=>by simp[Bb]at h
 | _::_,_::_,[],_,_,h,_,_,_,_=>by simp[Bb]at h
theorem Xc:∀ {ks:List Kd} {cs ds:List AV} {vs:List Value} {b:Bool},Bb ks cs ds=some b→vs.length=cs.length→(∀ (i:Nat) (v:Value) (c:AV),vs[i]?=some v→cs[i]?=some c→VR W U v c)→∀ n, ∀ v∈vs,Instr.sameBits n v v=true
 | [],[],[],vs,_,_,h1,_,n=>by
  obtain rfl:=Dn (l:=vs) (by simpa using h1)
  simp
 | k::ks,c::cs,d::ds,v::vs,b,h,h1,h3,n=>by
  simp only[Bb]at h
  split at h
  ·rename_i x y g1 g2
   intro w hw
   rcases AZ.1 hw with rfl|hw
   ·exact (R4 g1 (h3 0 _ c rfl rfl) n).1
   ·exact Xc g2 (by simpa using h1) (fun i v c hv hc=>h3 (i+1) v c (by simpa using hv) (by simpa using hc)) n w hw
  ·cases h
 | k::ks,c::cs,d::ds,[],b,h,h1,h3,n=>by simp
 | [],_::_,_,_,_,h,_,_,_=>by simp[Bb]at h
 | [],[],_::_,_,_,h,_,_,_=>by simp[Bb]at h
 | _::_,[],_,_,_,h,_,_,_=>by simp[Bb]at h
 | _::_,_::_,[],_,_,h,_,_,_=>by simp[Bb]at h
theorem LN{kt:TypeId}{ks:List Kd}{ag:Bool}(hk:Fu P kt=some (ks,ag)):∃ d,P.underlying kt=some d∧FU d=ag∧CM P 8 kt=some ks:=by
 unfold Fu at hk
 split at hk
 ·rename_i d ks' h1 h2
  simp only[Az,G9]at hk
  obtain ⟨rfl,rfl⟩:=hk
  exact ⟨d,h1,rfl,h2⟩
 ·cases hk
theorem Sn{kt:TypeId}{ks:List Kd}{ag:Bool}{x y:Value}{a b:AV}{r:Bool}(hk:Fu P kt=some (ks,ag))(hx:VR W U x a)(hy:VR W U y b)(he:Fa ks ag a b=some r):
  (∃ cs ds,CellsR P W U kt x cs∧CellsR P W U kt y ds∧Bb ks cs ds=some r)∧(r=true→x=y)∧Instr.sameBits 10000 x x=true:=by
 obtain ⟨d,hd,hag,hks⟩:=LN hk
 have kl:=LP 8 kt ks hks
 unfold Fa at he
 split at he
 ·rename_i cs ds
  obtain ⟨l1,l2⟩:=Ni he
  have cell:∀ {z:Value} {es:List AV},VR W U z (.agg es)→es.length=ks.length→∃ vs:List Value,z=.agg vs.toArray∧vs.length=es.length∧(∀ (i:Nat) (v:Value) (c:AV),vs[i]?=some v→es[i]?=some c→VR W U v c)∧CellsR P W U kt z es:=by
   intro z es hz hl
   cases hz with
   | agg vs _ hvl hvr h1=>
    refine ⟨vs,rfl,hvl,hvr,by omega,by simp[Value.cells,hvl],fun j v c hv hc=>?_,⟨fun _=>⟨d,hd,hag⟩,fun _=>⟨_,rfl⟩⟩⟩
    have hv':vs[j]?=some v:=by simpa[Value.cells]using hv
    exact ⟨hvr j v c hv' hc,h1 v (Dd hv')⟩
  obtain ⟨vs,rfl,n1,v1,c1⟩:=cell hx l1
  obtain ⟨us,rfl,n2,v2,c2⟩:=cell hy l2
  refine ⟨⟨cs,ds,c1,c2,he⟩,fun hr=>?_, ?_⟩
  ·subst hr
   rw[Xe he n1 n2 v1 v2]
  ·have:=Xc he n1 v1 9999
   simp only[Instr.sameBits,beq_self_eq_true,Gt,Ew,List.toList_toArray]
   rintro ⟨p,q⟩ hpq
   obtain ⟨i,hi,e⟩:=Do hpq
   simp only[List.getElem_zip,G9]at e
   obtain ⟨rfl,rfl⟩:=e
   exact this _ (Di _)
 ·obtain ⟨l1,l2⟩:=Ni he
  have l1:ks.length=1:=by simpa using l1.symm
  match ks,l1 with
  | [k],_=>
   have he1:DV k a b=some r:=by
    simp only[Bb]at he
    split at he
    ·rename_i u v q1 q2
     simp only[Az]at q2 he
     subst q2 he
     rw[q1];simp
    ·cases he
   have he2:∃ r',DV k b a=some r':=by
    unfold DV at he1
    split at he1
    ·split at he1
     ·rename_i e;subst e;exact ⟨_,by simp[DV];rfl⟩
     ·cases he1
    ·exact ⟨_,rfl⟩
    ·exact ⟨_,rfl⟩
    ·cases he1
   obtain ⟨r',he2⟩:=he2
   obtain ⟨b1,b2,b3⟩:=R4 he1 hx 10000
   obtain ⟨d1,d2,d3⟩:=R4 he2 hy 10000
   have form:∀ {z:Value},(∀ xs,z ≠ .agg xs)→((∃ xs,z=.agg xs)↔∃ d,P.underlying kt=some d∧FU d=true):=by
    intro z hz
    constructor
    ·rintro ⟨xs,rfl⟩;exact absurd rfl (hz xs)
    ·rintro ⟨d',e1,e2⟩
     rw[hd]at e1;cases e1
     rw[hag]at e2;cases e2
   have one:∀ {z:Value} {c:AV} {k:Kd} {c':AV} {t:Bool},VR W U z c→DV k c c'=some t→z.cells = #[z]→(∀ xs,z ≠ .agg xs)→CellsR P W U kt z [c]:=by
    intro z c k c' t hz ht hc hna
    refine ⟨by simpa using kl,by rw[hc];rfl,fun j v u hv hu=>?_,form hna⟩
    rw[hc]at hv
    cases j with
    | zero=>
     simp at hv hu
     subst hv hu
     refine ⟨hz, ?_⟩
     unfold DV at ht
     split at ht
     ·rw[hz.int_inv];rfl
     ·rw[hz.bool_inv];rfl
     ·rw[hz.str_inv];rfl
     ·cases ht
    | succ j=>simp at hv
   refine ⟨⟨[a],[b],one hx he1 b2 b3,one hy he2 d2 d3,he⟩,fun hr=>?_,b1⟩
   subst hr
   exact Xb he1 hx hy
 ·cases he
theorem WC{n:Nat}:∀ (fs:List Field) (a tot:Nat) (ks:List Kd),E4 P a fs=some tot→Hm (CM P n) fs=some ks→∀ f∈fs,f.name ≠ "_" ∧ (P.info? f.type).isSome=true∧f.offset+Bd P f.type≤tot∧∃ kf,CM P n f.type=some kf
 | [],_,_,_,_,_,f,hf=>by cases hf
 | g::fs,a,tot,ks,hc,hk,f,hf=>by
  have hge:∀ (l:List Field) (a t:Nat),E4 P a l=some t→a≤t:=by
   intro l
   induction l with
   | nil=>intro a t h;simp[E4]at h;omega
   | cons g l ih2=>
    intro a t h
    simp only[E4]at h
    split at h
    ·have:=ih2 _ _ h;omega
    ·cases h
  simp only[E4]at hc
  split at hc
  ·rename_i hcond
   obtain ⟨h1,h2,h3⟩:=hcond
   simp only[Hm]at hk
   split at hk
   ·rename_i k1 k2 e1 e2
    rcases AZ.1 hf with rfl|hf
    ·exact ⟨h2,h3,by have:=hge _ _ _ hc;omega,_,e1⟩
    ·exact WC fs _ tot _ hc e2 f hf
   ·cases hk
  ·cases hc
theorem WE(em:Bool):∀ (n d:Nat),n≤d→∀ (t:TypeId) (x:Value) (ks:List Kd) (cs:List AV),CM P n t=some ks→CellsR P W U t x cs→(Instr.checkKey em d t x).run P W=.ok () W
 | 0,d,_,t,x,ks,cs,ht,_=>by simp[CM]at ht
 | n+1,0,hd,t,x,ks,cs,ht,hx=>by omega
 | n+1,d+1,hd,t,x,ks,cs,ht,hx=>by
  have ih:=fun t x ks cs=>WE em n d (by omega) t x ks cs
  unfold CM at ht
  unfold Instr.checkKey
  split at ht
  ·rename_i hu;simp[run_underlying hu]
  ·rename_i kk hu;simp[run_underlying hu]
  ·rename_i hu;simp[run_underlying hu]
  ·rename_i fs hu
   split at ht
   ·rename_i hc
    obtain ⟨xs,rfl⟩:=hx.form.2 ⟨_,hu,rfl⟩
    have each:=WC fs.toList 0 _ ks hc.2 ht
    simp only[Sem.run_bind,run_underlying hu,Result.andThen_ok]
    rw[← Array.forIn_toList]
    generalize fs.toList=L at each
    induction L with
    | nil=>simp
    | cons f L ihL=>
     obtain ⟨e1,e2,e3,kf,e4⟩:=each f (by simp)
     obtain ⟨v,p1,p2⟩:=NM (zs:=xs) e4 e2 (off:=f.offset) (by rw[hx.len];exact e3) hx.size hx.vr
     have p3:=ih f.type v kf _ e4 p2
     simp only[List.forIn_cons,Sem.run_bind,e1,ne_eq,Ct,Bo,Result.andThen_ok,p1,p3,Sem.run_pure]
     simpa using ihL (fun y hy=>each y (by simp[hy]))
   ·cases ht
  ·rename_i m e hu
   split at ht
   ·rename_i hc
    simp only[BM]at ht
    obtain ⟨k,hk,rfl⟩:=ht
    obtain ⟨xs,rfl⟩:=hx.form.2 ⟨_,hu,rfl⟩
    obtain ⟨inf,hinf⟩:=Option.isSome_iff_exists.1 hc.2
    simp only[Sem.run_bind,run_underlying hu,Result.andThen_ok]
    simp only[Std.Legacy.Range.forIn_eq_forIn_range',Std.Legacy.Range.size,Nat.sub_zero,Nat.add_one_sub_one,Nat.div_one]
    have each:∀ j∈List.range' 0 m,(j+1) * Bd P e≤cs.length:=fun j hj=>by
     rw[List.mem_range'_1]at hj
     rw[hx.len,hc.1]
     exact Dq _ (by omega)
    generalize List.range' 0 m=L at each
    induction L with
    | nil=>simp
    | cons j L ihL=>
     have hj:=each j (by simp)
     obtain ⟨v,p1,p2⟩:=NM (zs:=xs) hk hc.2 (off:=j * Bd P e) (by rw[Bp,F7]at hj;exact hj) hx.size hx.vr
     have p3:=ih e v k _ hk p2
     have hce:P.cellsOf e=Bd P e:=rfl
     simp only[List.forIn_cons,Sem.run_bind,run_sizeOf W hinf,hce,Result.andThen_ok,p1,p3,Sem.run_pure]
     simpa using ihL (fun y hy=>each y (by simp[hy]))
   ·cases ht
  ·cases ht
theorem a0k{kt:TypeId}{ks:List Kd}{ag:Bool}{x y:Value}{a b:AV}{r:Bool}{d:TypeDesc}(hk:Fu P kt=some (ks,ag))(hd:P.underlying kt=some d)(hx:VR W U x a)(hy:VR W U y b)(he:Fa ks ag a b=some r):
  Instr.sameNow d x y=none∨Instr.sameNow d x y=some r:=by
 obtain ⟨d',hd',hag,hks⟩:=LN hk
 rw[hd]at hd';cases hd'
 unfold Fa at he
 split at he
 ·cases hx
  left
  cases d<;>simp[Instr.sameNow]
 ·obtain ⟨l1,_⟩:=Ni he
  have l1:ks.length=1:=by simpa using l1.symm
  match ks,l1 with
  | [k],_=>
   have he1:DV k a b=some r:=by
    simp only[Bb]at he
    split at he
    ·rename_i u v q1 q2
     simp only[Az]at q2 he
     subst q2 he
     rw[q1];simp
    ·cases he
   unfold DV at he1
   split at he1
   ·rw[hx.int_inv,hy.int_inv]
    cases d<;>first|(left;rfl)|skip
    right
    split at he1
    ·rename_i e
     simp only[Instr.sameNow,Af e]
     rw[← he1];rfl
    ·cases he1
   ·rw[hx.bool_inv,hy.bool_inv]
    cases d<;>first|(left;rfl)|skip
    right
    simp only[Instr.sameNow]
    rw[← he1,UI]
   ·rw[hx.str_inv,hy.str_inv]
    cases d<;>first|(left;rfl)|skip
    right
    simp only[Instr.sameNow]
    rw[← he1]
    congr 1
    rw[beq_toListBytes,Qx,Qx,M6]
   ·cases he1
 ·cases he
theorem Xm{kt:TypeId}{ks:List Kd}{ag:Bool}(hk:Fu P kt=some (ks,ag)){d:TypeDesc}(hd:P.underlying kt=some d){x:Value}{a:AV}(hx:VR W U x a):∀ (es:List MapEntry) (kl:List AV) (i:Nat) (f:Option Nat),es.length=kl.length→
  (∀ (j:Nat) (e:MapEntry) (c:AV),es[j]?=some e→kl[j]?=some c→VR W U e.key c)→Js ks ag a kl i=some f→
  (Instr.findNow d x es i=none∨Instr.findNow d x es i=some (f.map fun j=>(j,(es.getD (j - i) default).val)))∧(Instr.findAsking kt x es i).run P W=.ok (f.map fun j=>(j,(es.getD (j - i) default).val)) W∧
   ∀ j,f=some j→i≤j∧j - i<es.length∧(es.getD (j - i) default).key=x∧Instr.sameBits 10000 x x=true
 | [],[],i,f,_,_,hf=>by
  simp only[Js,Az]at hf
  subst hf
  exact ⟨.inr rfl,by simp[Instr.findAsking],fun j hj=>by cases hj⟩
 | e::es,c::kl,i,f,hl,hv,hf=>by
  have hc:=hv 0 e c rfl rfl
  simp only[Js]at hf
  split at hf
  ·rename_i he
   simp only[Az]at hf
   subst hf
   obtain ⟨⟨cs,ds,c1,c2,c3⟩,hsame,hb⟩:=Sn hk hx hc he
   obtain ⟨_,_,_,hks⟩:=LN hk
   have hrun:=O1 8 10000 (by omega) kt _ _ ks cs ds true hks c1 c2 c3
   refine ⟨?_, ?_,fun j hj=>?_⟩
   ·rcases a0k hk hd hx hc he with h1|h1
    ·exact .inl (by simp only[Instr.findNow,h1])
    ·exact .inr (by simp only[Instr.findNow,h1];simp)
   ·simp only[Instr.findAsking,show Op.equal kt x e.key=Op.equalIn 10000 kt x e.key from rfl,Sem.run_bind,hrun]
    simp
   ·cases hj
    exact ⟨A8 _,by simp,by simpa using (hsame rfl).symm,hb⟩
  ·rename_i he
   obtain ⟨⟨cs,ds,c1,c2,c3⟩,hsame,hb⟩:=Sn hk hx hc he
   obtain ⟨_,_,_,hks⟩:=LN hk
   have hrun:=O1 8 10000 (by omega) kt _ _ ks cs ds false hks c1 c2 c3
   obtain ⟨g1,g2,g3⟩:=Xm hk hd hx es kl (i+1) f (by simpa using hl) (fun j e c h1 h2=>hv (j+1) e c (by simpa using h1) (by simpa using h2)) hf
   have hres:(f.map fun j=>(j,((e::es).getD (j - i) default).val))=f.map fun j=>(j,(es.getD (j - (i+1)) default).val):=by
    cases f with
    | none=>rfl
    | some j=>
     have:=(g3 j rfl).1
     have e1:j - i=(j - (i+1))+1:=by omega
     simp only[BE,e1,List.getD_cons_succ]
   rw[hres]
   refine ⟨?_, ?_,fun j hj=>?_⟩
   ·rcases a0k hk hd hx hc he with h1|h1
    ·exact .inl (by simp only[Instr.findNow,h1])
    ·simp only[Instr.findNow,h1]
     exact g1
   ·simp only[Instr.findAsking,show Op.equal kt x e.key=Op.equalIn 10000 kt x e.key from rfl,Sem.run_bind,hrun]
    simpa using g2
   ·obtain ⟨q1,q2,q3,q4⟩:=g3 j hj
    have e1:j - i=(j - (i+1))+1:=by omega
    refine ⟨by omega,by simp;omega, ?_,q4⟩
    rw[e1,List.getD_cons_succ];exact q3
  ·cases hf
 | [],_::_,_,_,h,_,_=>by simp at h
 | _::_,[],_,_,h,_,_=>by simp at h
theorem a3E{kt:TypeId}{ks:List Kd}{ag:Bool}(hk:Fu P kt=some (ks,ag)){x:Value}{a:AV}(hx:VR W U x a){es:List MapEntry}{kl:List AV}{f:Option Nat}(hl:es.length=kl.length)
  (hv:∀ (j:Nat) (e:MapEntry) (c:AV),es[j]?=some e→kl[j]?=some c→VR W U e.key c) (hf:Js ks ag a kl 0=some f):
  (Instr.findKey kt x es).run P W=.ok (f.map fun j=>(j,(es.getD j default).val)) W∧∀ j,f=some j→j<es.length∧(es.getD j default).key=x∧(Instr.keyThatStays (es.getD j default).key x).run P W=.ok x W:=by
 obtain ⟨d,hd,_,_⟩:=LN hk
 obtain ⟨h1,h2,h3⟩:=Xm hk hd hx es kl 0 f hl hv hf
 simp only[Nat.sub_zero]at h1 h2 h3
 refine ⟨?_,fun j hj=>?_⟩
 ·simp only[Instr.findKey,Sem.run_bind,run_underlying hd,Result.andThen_ok]
  rcases h1 with h1|h1
  ·rw[h1];exact h2
  ·rw[h1];simp
 ·obtain ⟨_,q2,q3,q4⟩:=h3 j hj
  refine ⟨q2,q3, ?_⟩
  rw[q3]
  simp[Instr.keyThatStays,q4]
end
def C7(W:World)(b:Nat)(x:Obj):World:={ W with heap:=W.heap.setIfInBounds b x }
theorem JK{W:World}{b:Nat}(x:Obj)(h:b<W.heap.size):(C7 W b x).heap[b]?=some x:=by simp[C7,h]
theorem KO{W:World}{b b':Nat}(x:Obj)(h:b'≠b):(C7 W b x).heap[b']?=W.heap[b']?:=by simp[C7,Array.getElem?_setIfInBounds,Ne.symm h]
theorem a2M{W:World}{b o:Nat}{v:Value}(h:W.cell? ⟨b,o,none⟩=some v):DR W b:=by
 unfold World.cell? at h
 split at h
 ·rename_i cs ty fr e;exact ⟨cs,ty,fr,e⟩
 ·cases h
section
variable {P:Program} {N:Nat} {W0:World} {U0:Nat→Nat→Prop} {M:Nat→Prop} {a:Act} {W:World} {U:Nat→Nat→Prop} {s:St} {o:Oper} {r:AV}
theorem IY{b:Nat}(x:Obj)(hm:¬ DR W b)(hU:U b 0):Keeps W U (C7 W b x) U:=by
 refine ⟨fun b' o' v hc hu=>?_,fun b' ty' hb'=>?_,fun b' es clk e hu=>⟨(KO x (by rintro rfl;exact hu hU)).trans e,hu⟩⟩
 ·have hne:b'≠b:=by rintro rfl;exact hm (a2M hc)
  refine ⟨?_,hu⟩
  rw[World.cell?_of_block (w:=W) (a:=⟨b',o',none⟩) (KO x hne)]
  exact hc
 ·obtain ⟨c1,c3,c4⟩:=hb'
  have hne:b'≠b:=by rintro rfl;exact hm ⟨_,_,_,c4⟩
  exact ⟨c1,c3,(KO x hne).trans c4⟩
theorem Inv.setm(h:Inv N W0 U0 M a W U s){b:Nat}{cs cs':List AV}(hb:s.o b=some cs)(hnc:¬ DR W b){x:Obj}(hR:ObR (C7 W b x) U b cs')(hno:∀ (j e sz:Nat) (els:List (List AV)),cs'[j]?≠some (.sl (some e) sz els)):
  Inv N W0 U0 M a (C7 W b x) U { s with o:=upd s.o b (some cs') }:=by
 obtain ⟨q1,q4,q5⟩:=h.ob b cs hb
 have hK:Keeps W U (C7 W b x) U:=IY x hnc (q4 0)
 have hcat:∀ {ℓ:Loc} {e sz:Nat} {els:List (List AV)},St.at { s with o:=upd s.o b (some cs') } ℓ=some (.sl (some e) sz els)→s.at ℓ=some (.sl (some e) sz els)∧AQ a (C7 W b x) ℓ=AQ a W ℓ:=by
  intro ℓ e sz els hl0
  cases ℓ with
  | t i=>exact ⟨hl0,rfl⟩
  | o b' j=>
   simp only[St.at,upd]at hl0
   by_cases hbb:b'=b
   ·subst hbb
    simp only[Bo,CY]at hl0
    exact absurd hl0 (hno j e sz els)
   ·rw[Ad hbb]at hl0
    refine ⟨hl0, ?_⟩
    simp only[AQ,KO x hbb]
 refine ⟨h.sz,h.df, ?_,fun i v hv'=>(h.tv i v hv').keep hK, ?_, ?_, ?_, ?_⟩
 ·exact {
   os:=h.fr.os
   tape:=h.fr.tape
   output:=h.fr.output
   size:=by simpa[C7]using h.fr.size
   block:=fun k hk hm=>by
    have hne:k≠b:=by rintro rfl;rcases q5 with q5|q5;omega;exact hm q5
    rw[KO x hne]
    exact h.fr.block k hk hm
   u:=h.fr.u
   keeps:=h.fr.keeps.trans hK
   g0:=h.fr.g0
   gm:=h.fr.gm }
 ·intro b' cs0 hb'
  simp only[upd]at hb'
  by_cases hbb:b'=b
  ·subst hbb
   simp only[Bo,Az]at hb'
   subst hb'
   exact ⟨hR,q4,q5⟩
  ·rw[Ad hbb]at hb'
   obtain ⟨g1,g4,g5⟩:=h.ob b' cs0 hb'
   exact ⟨g1.move hK (KO x hbb),g4,g5⟩
 ·intro ℓ v hv'
  unfold Own1
  split
  ·rename_i e sz els
   obtain ⟨g1,g2⟩:=hcat hv'
   rw[g2]
   have:=h.ow ℓ _ g1
   simp only[Own1]at this
   rcases this with this | ⟨g,cap,cur,p1,p2,p3,p4⟩
   ·exact .inl this
   ·have hne:g≠b:=by
     rintro rfl
     have:=h.no ℓ e sz els g1 g (by rw[p1];rfl)
     rw[hb]at this
     cases this
    exact .inr ⟨g,cap,cur,p1,p2,p3.move (KO x hne),p4⟩
  ·trivial
 ·intro ℓ ℓ' e sz els e' sz' els' hne h1 h2
  obtain ⟨g1,g2⟩:=hcat h1
  obtain ⟨g3,g4⟩:=hcat h2
  rw[g2,g4]
  exact h.ap ℓ ℓ' _ _ _ _ _ _ hne g1 g3
 ·intro ℓ e sz els h1 g hg
  obtain ⟨g1,g2⟩:=hcat h1
  rw[g2]at hg
  have h3:=h.no ℓ e sz els g1 g hg
  simp only[upd]
  by_cases hgb:g=b
  ·subst hgb
   rw[hb]at h3
   cases h3
  ·rw[Ad hgb]
   exact h3
theorem Inv.newm(h:Inv N W0 U0 M a W U s){x:Obj}{cs:List AV}(hR:ObR (W.alloc x) (fun k i=>if k=W.heap.size then True else U k i) W.heap.size cs)(hno:∀ (j e sz:Nat) (els:List (List AV)),cs[j]?≠some (.sl (some e) sz els)):
  Inv N W0 U0 M a (W.alloc x) (fun k i=>if k=W.heap.size then True else U k i) { s with o:=upd s.o W.heap.size (some cs) }:=by
 have hE:=Ext.alloc W U x (fun _=>True)
 have h1:=h.ext hE
 have hnone:s.o W.heap.size=none:=by
  cases hs:s.o W.heap.size with
  | none=>rfl
  | some c=>have:=h.ob_lt _ _ hs;omega
 have hat:∀ {ℓ:Loc} {e sz:Nat} {els:List (List AV)},St.at { s with o:=upd s.o W.heap.size (some cs) } ℓ=some (.sl (some e) sz els)→s.at ℓ=some (.sl (some e) sz els):=by
  intro ℓ e sz els hl'
  cases ℓ with
  | t i=>exact hl'
  | o b j=>
   simp only[St.at,upd]at hl'
   by_cases hb:b=W.heap.size
   ·subst hb
    simp only[Bo,CY]at hl'
    exact absurd hl' (hno j e sz els)
   ·rw[Ad hb]at hl'
    exact hl'
 refine ⟨h1.sz,h1.df,h1.fr,h1.tv, ?_, ?_, ?_, ?_⟩
 ·intro b cs0 hb
  simp only[upd]at hb
  by_cases hbb:b=W.heap.size
  ·subst hbb
   simp only[Bo,Az]at hb
   subst hb
   exact ⟨hR,fun o=>by simp,.inl h.fr.size⟩
  ·rw[Ad hbb]at hb
   exact h1.ob b cs0 hb
 ·intro ℓ v hv'
  unfold Own1
  split
  ·exact h1.ow ℓ _ (hat hv')
  ·trivial
 ·intro ℓ ℓ' e sz els e' sz' els' hne h2 h3
  exact h1.ap ℓ ℓ' _ _ _ _ _ _ hne (hat h2) (hat h3)
 ·intro ℓ e sz els h2 g hg
  have hs:=hat h2
  have:=h1.no ℓ e sz els hs g hg
  simp only[upd]
  by_cases hgb:g=W.heap.size
  ·exfalso
   rw[Jn hE.b h.ob_lt hs]at hg
   have h5:=h.ow ℓ _ hs
   simp only[Own1]at h5
   have:=h5.lt hg
   omega
  ·rw[Ad hgb]
   exact this
theorem Inv.mapR(h:Inv N W0 U0 M a W U s){b:Nat}{kl vl:List AV}{bs:List Nat}{clk:Nat}(hb:s.o b=some [.mp kl vl bs clk]):
  (∃ es:Array MapEntry,W.heap[b]?=some (.map es clk)∧es.size=kl.length∧vl.length=kl.length∧bs.length=kl.length∧bs.Pairwise (· < ·)∧(∀ x∈bs,x<clk)∧
   ∀ (i:Nat) (e:MapEntry),es[i]?=some e→(∀ k,kl[i]?=some k→VR W U e.key k)∧(∀ v,vl[i]?=some v→VR W U e.val v)∧∀ n,bs[i]?=some n→e.born=n)∧¬ DR W b:=by
 obtain ⟨h1,_,_⟩:=h.ob b _ hb
 obtain ⟨es,h2,h3⟩:=h1
 refine ⟨⟨es,h2,h3⟩, ?_⟩
 rintro ⟨c1,c2,c3,c4⟩
 rw[h2]at c4;cases c4
theorem Inv.mapv(h:Inv N W0 U0 M a W U s){m:Operand}{X:Opd}{b:Nat}(hm:Au m=some X)(hx:X.ev s=some (.mapv b)):a.eval m=.map (some b):=by
 have:=AW h hm hx
 generalize a.eval m=v at this
 cases this;rfl
theorem a1G{e:TypeId}{z:AV}(hz:MN P e=some z):∃ zv,(zeroValue e).run P W=.ok zv W∧VR W U zv z∧z.alias=z:=by
 unfold MN at hz
 have run:∀ {v:Value},(P.info? e).bind (·.zero)=some v→(zeroValue e).run P W=.ok v W:=by
  intro v hv
  simp only[F9]at hv
  obtain ⟨i,h1,h2⟩:=hv
  simp[zeroValue,typeInfo,h1,h2]
 split at hz
 ·rename_i xs z' h1 h2
  simp only[Az]at hz
  subst hz
  obtain ⟨i,zv,g1,g2,g3⟩:=KX h2
  rw[g1,CY,g2]at h1
  cases h1
  obtain ⟨q1,q2⟩:=KW g3
  refine ⟨_,run (by rw[g1,CY,g2]), ?_,rfl⟩
  have:(Value.agg xs)=.agg xs.toList.toArray:=by simp
  rw[this]
  refine .agg _ _ (by simpa[Value.cells]using q1) (fun j v c hv hc=>?_) (fun v hv=>?_)
  ·rw[B7,BM]at hc
   obtain ⟨c',hc,rfl⟩:=hc
   exact (Gs (q2 j v c' (by simpa[Value.cells]using hv) hc) W U).1.alias
  ·obtain ⟨j,hj⟩:=Iq.1 hv
   have hlt:j<z'.length:=by
    have:=(AM.1 hj).1
    simp[Value.cells]at q1
    simp at this;omega
   exact (Gs (q2 j v _ (by simpa[Value.cells]using hj) (Aw hlt)) W U).2.1
 ·rename_i v c _ h1 h2
  split at hz
  ·rename_i ho
   simp only[Az]at hz
   subst hz
   obtain ⟨i,zv,g1,g2,g3⟩:=KX h2
   rw[g1,CY,g2]at h1
   cases h1
   have hc:v.cells = #[v]:=by
    revert ho
    cases v<;>simp[Value.oneCell',Value.cells]
   obtain ⟨q1,q2⟩:=KW g3
   rw[hc]at q2
   refine ⟨v,run (by rw[g1,CY,g2]),(Gs (q2 0 v c rfl rfl) W U).1.alias, ?_⟩
   cases c<;>rfl
  ·cases hz
 ·cases hz
theorem getD_get{α:Type}{l:List α}{i:Nat}{d:α}(h:i<l.length):l[i]?=some (l.getD i d):=by
 rw[Aw h,List.getD,Aw h];rfl
theorem Ow{es:Array MapEntry}{i:Nat}(h:i<es.size):es[i]?=some (es.toList.getD i default):=by
 rw[← Em];exact getD_get (by simpa using h)
theorem VR.tup2{v u:Value}{c d:AV}(h1:VR W U v c)(h2:VR W U u d):VR W U (.tuple #[v,u]) (.tup [c,d]):=by
 have:(Value.tuple #[v,u])=.tuple [v,u].toArray:=rfl
 rw[this]
 refine .tup _ _ rfl fun i x y hx hy=>?_
 match i with
 | 0=>simp at hx hy;subst hx hy;exact h1
 | 1=>simp at hx hy;subst hx hy;exact h2
 | i+2=>simp at hx
theorem Nl{kt:TypeId}{ks:List Kd}{ag:Bool}(hk:Fu P kt=some (ks,ag)){x:Value}{a:AV}(hx:VR W U x a){es:List MapEntry}{kl:List AV}{f:Option Nat}(hl:es.length=kl.length)
  (hv:∀ (j:Nat) (e:MapEntry) (c:AV),es[j]?=some e→kl[j]?=some c→VR W U e.key c) (hf:B2 ks ag a kl=some f):
  (∀ em,(Instr.checkKey em 10000 kt x).run P W=.ok () W)∧(Instr.findKey kt x es).run P W=.ok (f.map fun j=>(j,(es.getD j default).val)) W∧∀ j,f=some j→j<es.length∧(es.getD j default).key=x∧(Instr.keyThatStays (es.getD j default).key x).run P W=.ok x W:=by
 simp only[B2,F9]at hf
 obtain ⟨r,h1,h2⟩:=hf
 obtain ⟨⟨cs,ds,c1,_⟩,_⟩:=Sn hk hx hx h1
 obtain ⟨_,_,_,hks⟩:=LN hk
 exact ⟨fun em=>WE em 8 10000 (by omega) kt x ks cs hks c1,a3E hk hx hl hv h2⟩
theorem b1w(h:Inv N W0 U0 M a W U s){t k e:TypeId}{m x:Operand}{ok ag:Bool}{ks:List Kd}{z:AV}{X Y:Opd}(ho:o.op=.lookup t m x ok)(ht:P.underlying t=some (.map k e))(hm:Au m=some X)(hx:Au x=some Y)(hk:Fu P k=some (ks,ag))(hz:MN P e=some z)
  (hr:AU P s (.mq z ok ks ag X Y) r):VOK P a o W U r:=by
 obtain ⟨p,q,hp,hq,hr⟩:=hr
 have hkx:=AW h hx hq
 obtain ⟨zv,z1,z2,z3⟩:=a1G (W:=W) (U:=U) hz
 obtain ⟨b,es,clk,kl,vl,f,hmv,g1,g2,g3,hkey,hval,hf,rfl⟩ | ⟨hmv,hf,rfl⟩:(∃ (b:Nat) (es:Array MapEntry) (clk:Nat) (kl vl:List AV) (f:Option Nat),a.eval m=.map (some b)∧W.heap[b]?=some (.map es clk)∧es.size=kl.length∧vl.length=kl.length∧
   (∀ (j:Nat) (en:MapEntry) (c:AV),es.toList[j]?=some en→kl[j]?=some c→VR W U en.key c)∧(∀ (j:Nat) (en:MapEntry) (c:AV),es[j]?=some en→vl[j]?=some c→VR W U en.val c)∧B2 ks ag q kl=some f∧
   r=(match f with
    | some i=>if ok then .tup [vl.getD i .undef,.bool true] else (vl.getD i .undef).alias
    | none=>if ok then .tup [z,.bool false] else z.alias))∨(a.eval m=.map none∧B2 ks ag q []=some none∧r=(if ok then .tup [z,.bool false] else z.alias)):=by
  cases p<;>try exact hr.elim
  ·obtain ⟨kl,vl,bs,clk,f,hb,hf,rfl⟩:=hr
   obtain ⟨⟨es,g1,g2,g3,g4,g5,g6,g7⟩,hnc⟩:=h.mapR hb
   exact .inl ⟨_,es,clk,kl,vl,f,h.mapv hm hp,g1,g2,g3,fun j en c h1 h2=>(g7 j en (by rw[← Em];exact h1)).1 c h2,fun j en c h1 h2=>(g7 j en h1).2.1 c h2,hf,rfl⟩
  ·obtain ⟨hf,rfl⟩:=hr
   refine .inr ⟨?_,hf,rfl⟩
   have:=AW h hm hp
   generalize a.eval m=v at this
   cases this;rfl
  ·obtain ⟨f,hf,rfl⟩:=hr
   have:=AW h hm hp
   generalize a.eval m=v at this
   cases this with
   | rom b es clk _ _ hh hu h1 h2 hk hv=>exact .inl ⟨b,es,clk,_,_,f,rfl,hh,h1,h2,fun j en c e1 e2=>hk j en c (by rw[← Em];exact e1) e2,hv,hf,rfl⟩
 rotate_left
 ·obtain ⟨hchk,r1,r2⟩:=Nl hk hkx (es:=[]) (kl:=[]) rfl (fun j en c h1=>by simp at h1) hf
  have hchk:=hchk true
  have hrun:(execOp a.eval o).run P W=.ok (.value (if ok then .tuple #[zv,.bool false] else zv)) W:=by
   simp only[execOp,ho,hmv]
   simp only[Option.map_none]at r1
   cases ok<;>simp[Instr.lookup,run_underlying ht,hchk,r1,z1,Result.andThen]
  cases ok with
  | true=>exact VOK.same hrun (z2.tup2 (.bool false)) (by simp)
  | false=>exact VOK.same hrun (by simpa[z3]using z2) (by intro e' sz els;rw[Ad (by decide)];exact FK z e' sz els)
 obtain ⟨hchk,r1,r2⟩:=Nl hk hkx (es:=es.toList) (by simpa using g2) hkey hf
 have hchk:=hchk es.isEmpty
 have hrun:(execOp a.eval o).run P W=.ok (.value (match f with
   | some j=>if ok then .tuple #[(es.toList.getD j default).val,.bool true] else (es.toList.getD j default).val
   | none=>if ok then .tuple #[zv,.bool false] else zv)) W:=by
  simp only[execOp,ho,hmv]
  cases f with
  | none=>cases ok<;>simp[Instr.lookup,run_underlying ht,MapKept.run_getObj_map g1,hchk,r1,z1,Result.andThen]
  | some j=>cases ok<;>simp[Instr.lookup,run_underlying ht,MapKept.run_getObj_map g1,hchk,r1,Result.andThen]
 cases f with
 | none=>
  cases ok with
  | true=>exact VOK.same hrun (z2.tup2 (.bool false)) (by simp)
  | false=>exact VOK.same hrun (by simpa[z3]using z2) (by intro e' sz els;rw[Ad (by decide)];exact FK z e' sz els)
 | some j=>
  obtain ⟨q1,q2,_⟩:=r2 j rfl
  have hjl:j<vl.length:=by simp at q1;omega
  have hv:=hval j _ _ (Ow (by simpa using q1)) (getD_get (d:=.undef) hjl)
  cases ok with
  | true=>exact VOK.same hrun (hv.tup2 (.bool true)) (by simp)
  | false=>exact VOK.same hrun hv.alias (fun e' sz els=>FK _ e' sz els)
end
section
variable {P:Program} {N:Nat} {W0:World} {U0:Nat→Nat→Prop} {M:Nat→Prop} {a:Act} {W W':World} {U:Nat→Nat→Prop} {s:St} {o:Oper} {r:AV}
theorem LV{q:Nat}{z:AV}{ks:List Kd}{ag:Bool}{m k v:Opd}{b:Nat}{cs:List AV}(h:EB s q z ks ag m k v=some (b,r,cs)):
  ∃ kv vv kl vl bs clk,m.ev s=some (.mapv b)∧k.ev s=some kv∧v.ev s=some vv∧s.o b=some [.mp kl vl bs clk]∧Fw q z ks ag kv vv [.mp kl vl bs clk]=some (r,cs):=by
 unfold EB at h
 split at h
 ·rename_i b' kv vv h1 h2 h3
  simp only[F9,BM,G9]at h
  obtain ⟨cs0,h4,x,h5,rfl,rfl,rfl⟩:=h
  have:∃ kl vl bs clk,cs0=[.mp kl vl bs clk]:=by
   unfold Fw at h5
   split at h5
   ·exact ⟨_,_,_,_,rfl⟩
   ·cases h5
  obtain ⟨kl,vl,bs,clk,rfl⟩:=this
  exact ⟨kv,vv,kl,vl,bs,clk,h1,h2,h3,h4,h5⟩
 ·cases h
structure MpR (W:World) (U:Nat→Nat→Prop) (es:Array MapEntry) (kl vl:List AV) (bs:List Nat) (clk:Nat):Prop where
 g2:es.size=kl.length
 g3:vl.length=kl.length
 g4:bs.length=kl.length
 g5:bs.Pairwise (· < ·)
 g6:∀ x∈bs,x<clk
 g7:∀ (i:Nat) (e:MapEntry),es[i]?=some e→(∀ k,kl[i]?=some k→VR W U e.key k)∧(∀ v,vl[i]?=some v→VR W U e.val v)∧∀ n,bs[i]?=some n→e.born=n
theorem MpR.ob{es:Array MapEntry}{kl vl:List AV}{bs:List Nat}{clk b:Nat}(h:MpR W U es kl vl bs clk)(hk:Keeps W U W' U)(hb:W'.heap[b]?=some (.map es clk)):ObR W' U b [.mp kl vl bs clk]:=
 ⟨es,hb,h.g2,h.g3,h.g4,h.g5,h.g6,fun i e hi=>let ⟨a,b,c⟩:=h.g7 i e hi; ⟨fun k hx=>(a k hx).keep hk,fun v hx=>(b v hx).keep hk,c⟩⟩
theorem MpR.push{es:Array MapEntry}{kl vl:List AV}{bs:List Nat}{clk:Nat}(h:MpR W U es kl vl bs clk){x v:Value}{kv vv:AV}(hx:VR W U x kv)(hv:VR W U v vv):
  MpR W U (es.push ⟨x,v,clk⟩) (kl++[kv]) (vl++[vv]) (bs++[clk]) (clk+1) where
 g2:=by simp[h.g2]
 g3:=by simp[h.g3]
 g4:=by simp[h.g4]
 g5:=by
  rw[List.pairwise_append]
  exact ⟨h.g5,by simp,fun a ha b hb=>by simp at hb;subst hb;exact h.g6 a ha⟩
 g6:=fun x hx=>by
  rw[Bv]at hx
  rcases hx with hx|hx
  ·have:=h.g6 x hx;omega
  ·simp at hx;omega
 g7:=fun i e hi=>by
  rw[Array.getElem?_push]at hi
  have e2:=h.g2
  have e3:=h.g3
  have e4:=h.g4
  split at hi
  ·rename_i hi'
   cases hi
   refine ⟨fun k hk=>?_,fun w hw=>?_,fun n hn=>?_⟩
   ·rw[hi',e2,Cj (A8 _)]at hk
    simp at hk;subst hk;exact hx
   ·rw[hi',e2, ← e3,Cj (A8 _)]at hw
    simp at hw;subst hw;exact hv
   ·rw[hi',e2, ← e4,Cj (A8 _)]at hn
    simp at hn;exact hn
  ·have hlt:i<es.size:=(BH.1 hi).1
   obtain ⟨a1,a2,a3⟩:=h.g7 i e hi
   refine ⟨fun k hk=>a1 k ?_,fun w hw=>a2 w ?_,fun n hn=>a3 n ?_⟩
   ·rwa [CB (by omega)]at hk
   ·rwa [CB (by omega)]at hw
   ·rwa [CB (by omega)]at hn
theorem MpR.set{es es':Array MapEntry}{kl vl:List AV}{bs:List Nat}{clk:Nat}(h:MpR W U es kl vl bs clk){j:Nat}{v:Value}{vv:AV}(hv:VR W U v vv)(hsz:es'.size=es.size)
  (he:∀ (i:Nat) (e':MapEntry),es'[i]?=some e'→∃ e,es[i]?=some e∧e'.key=e.key∧e'.born=e.born∧e'.val=if i=j then v else e.val):MpR W U es' kl (vl.set j vv) bs clk where
 g2:=hsz.trans h.g2
 g3:=by simp[h.g3]
 g4:=h.g4
 g5:=h.g5
 g6:=h.g6
 g7:=fun i e' hi=>by
  obtain ⟨e,h1,h2,h3,h4⟩:=he i e' hi
  obtain ⟨a1,a2,a3⟩:=h.g7 i e h1
  refine ⟨fun k hk=>h2▸a1 k hk,fun w hw=>?_,fun n hn=>h3.trans (a3 n hn)⟩
  rw[List.getElem?_set]at hw
  by_cases hij:j=i
  ·rw[Af hij]at hw
   split at hw
   ·cases hw
    rw[h4,Af hij.symm];exact hv
   ·cases hw
  ·rw[Ad hij]at hw
   rw[h4,Ad (Ne.symm hij)];exact a2 w hw
theorem MpR.erase{es:Array MapEntry}{kl vl:List AV}{bs:List Nat}{clk:Nat}(h:MpR W U es kl vl bs clk){j:Nat}(hj:j<es.size):MpR W U (es.eraseIdxIfInBounds j) (kl.eraseIdx j) (vl.eraseIdx j) (bs.eraseIdx j) clk where
 g2:=by
  have:=h.g2
  rw[Array.eraseIdxIfInBounds,dif_pos hj,Array.size_eraseIdx,List.length_eraseIdx,Af (by omega),this]
 g3:=by
  have:=h.g2;have:=h.g3
  rw[List.length_eraseIdx,Af (by omega),List.length_eraseIdx,Af (by omega)];omega
 g4:=by
  have:=h.g2;have:=h.g4
  rw[List.length_eraseIdx,Af (by omega),List.length_eraseIdx,Af (by omega)];omega
 g5:=h.g5.sublist (List.eraseIdx_sublist _ _)
 g6:=fun x hx=>h.g6 x (List.mem_of_mem_eraseIdx hx)
 g7:=fun i e hi=>by
  have hi':(es.toList.eraseIdx j)[i]?=some e:=by
   have:(es.eraseIdxIfInBounds j).toList=es.toList.eraseIdx j:=by
    rw[Array.eraseIdxIfInBounds,dif_pos hj];simp
   rw[← this,Em];exact hi
  rw[List.getElem?_eraseIdx]at hi'
  simp only[List.getElem?_eraseIdx]
  split at hi'
  ·rename_i hlt
   simp only[hlt,Bo]
   exact h.g7 i e (by rw[← Em];exact hi')
  ·rename_i hlt
   simp only[hlt,BV]
   exact h.g7 (i+1) e (by rw[← Em];exact hi')
theorem Inv.mpR(h:Inv N W0 U0 M a W U s){b:Nat}{kl vl:List AV}{bs:List Nat}{clk:Nat}(hb:s.o b=some [.mp kl vl bs clk]):(∃ es:Array MapEntry,W.heap[b]?=some (.map es clk)∧MpR W U es kl vl bs clk)∧¬ DR W b:=by
 obtain ⟨⟨es,g1,g2,g3,g4,g5,g6,g7⟩,hn⟩:=h.mapR hb
 exact ⟨⟨es,g1,g2,g3,g4,g5,g6,g7⟩,hn⟩
theorem H3{x:AV}(hx:∀ e sz els,x ≠ .sl (some e) sz els):∀ (j e sz:Nat) (els:List (List AV)),[x][j]?≠some (.sl (some e) sz els):=by
 intro j e sz els hj
 cases j with
 | zero=>simp at hj;exact hx _ _ _ hj
 | succ j=>simp at hj
theorem b1x(h:Inv N W0 U0 M a W U s){t k e:TypeId}{m x v:Operand}{ag:Bool}{ks:List Kd}{z:AV}{X Y V:Opd}(ho:o.op=.mapUpdate t m x v)(hod:o.dst=none)(ht:P.underlying t=some (.map k e))(hm:Au m=some X)(hx:Au x=some Y)(hv:Au v=some V)
  (hk:Fu P k=some (ks,ag)) {b:Nat} {cs:List AV} (hr:EB s 0 z ks ag X Y V=some (b,r,cs)) {next:Act→World→Prop} {Q:Exit→Act→World→Prop}
  (hn:∀ a' W' U',Inv N W0 U0 M a' W' U' { s with o:=upd s.o b (some cs) }→next a' W'):o.wp P a W next Q:=by
 obtain ⟨kv,vv,kl,vl,bs,clk,e1,e2,e3,e4,e5⟩:=LV hr
 obtain ⟨⟨es,g1,G⟩,hnc⟩:=h.mpR e4
 have hkx:=AW h hx e2
 have hvv:=AW h hv e3
 have hmv:=h.mapv hm e1
 have hkey:∀ (j:Nat) (en:MapEntry) (c:AV),es.toList[j]?=some en→kl[j]?=some c→VR W U en.key c:=fun j en c h1 h2=>(G.g7 j en (by rw[← Em];exact h1)).1 c h2
 simp only[Fw,BM]at e5
 obtain ⟨f,hf,e6⟩:=e5
 obtain ⟨hchk,r1,r2⟩:=Nl hk hkx (es:=es.toList) (by simpa using G.g2) hkey hf
 have hlt:b<W.heap.size:=(BH.1 g1).1
 cases f with
 | none=>
  simp only[G9]at e6
  obtain ⟨rfl,rfl⟩:=e6
  have hrun:(execOp a.eval o).run P W=.ok .skip (C7 W b (.map (es.push ⟨a.eval x,a.eval v,clk⟩) (clk+1))):=by
   simp only[execOp,ho,hmv]
   simp[Instr.mapUpdate,run_underlying ht,MapKept.run_getObj_map g1,hchk,r1,MapKept.run_setObj_map _ g1,Result.andThen,C7]
  unfold Oper.wp
  rw[hrun,Oper.upon_skip,hod]
  exact hn _ _ U (h.setm e4 hnc ((G.push hkx.alias hvv.alias).ob (IY _ hnc ((h.ob _ _ e4).2.1 0)) (JK _ hlt)) (H3 (by simp)))
 | some j=>
  simp only[G9]at e6
  obtain ⟨rfl,rfl⟩:=e6
  obtain ⟨q1,q2,q3⟩:=r2 j rfl
  have hj:j<es.size:=by simpa using q1
  have hej:=Ow hj
  have hrun:(execOp a.eval o).run P W=.ok .skip (C7 W b (.map (es.modify j fun e=>{ e with key:=a.eval x,val:=a.eval v }) clk)):=by
   simp only[execOp,ho,hmv]
   simp[-List.getD_eq_getElem?_getD,Instr.mapUpdate,run_underlying ht,MapKept.run_getObj_map g1,hchk,r1,hej,q3,MapKept.run_setObj_map _ g1,Result.andThen,C7]
  unfold Oper.wp
  rw[hrun,Oper.upon_skip,hod]
  refine hn _ _ U (h.setm e4 hnc ((G.set (j:=j) hvv.alias (by simp) (fun i e' hi=>?_)).ob (IY _ hnc ((h.ob _ _ e4).2.1 0)) (JK _ hlt)) (H3 (by simp)))
  rw[Array.getElem?_modify]at hi
  split at hi
  ·rename_i hij
   subst hij
   rw[hej]at hi
   cases hi
   exact ⟨_,hej,q2.symm,rfl,by simp⟩
  ·rename_i hij
   exact ⟨e',hi,rfl,rfl,by rw[Ad (fun e=>hij e.symm)]⟩
theorem b1y(h:Inv N W0 U0 M a W U s){t k e:TypeId}{m x:Operand}{ag:Bool}{ks:List Kd}{z:AV}{X Y V:Opd}{d:Option Nat}(ho:o.op=.mapEntry t m x)(hod:o.dst=d)(hd:∀ j,d=some j→j<N)(ht:P.underlying t=some (.map k e))(hm:Au m=some X)(hx:Au x=some Y)
  (hk:Fu P k=some (ks,ag)) (hz:MN P e=some z) {b:Nat} {cs:List AV} (hr:EB s 1 z ks ag X Y V=some (b,r,cs)) {next:Act→World→Prop} {Q:Exit→Act→World→Prop}
  (hn:∀ a' W' U',Inv N W0 U0 M a' W' U' (St.put { s with o:=upd s.o b (some cs) } d r)→next a' W'):o.wp P a W next Q:=by
 obtain ⟨kv,vv,kl,vl,bs,clk,e1,e2,e3,e4,e5⟩:=LV hr
 obtain ⟨⟨es,g1,G⟩,hnc⟩:=h.mpR e4
 have hkx:=AW h hx e2
 have hmv:=h.mapv hm e1
 have hkey:∀ (j:Nat) (en:MapEntry) (c:AV),es.toList[j]?=some en→kl[j]?=some c→VR W U en.key c:=fun j en c h1 h2=>(G.g7 j en (by rw[← Em];exact h1)).1 c h2
 simp only[Fw,BM]at e5
 obtain ⟨f,hf,e6⟩:=e5
 obtain ⟨hchk,r1,r2⟩:=Nl hk hkx (es:=es.toList) (by simpa using G.g2) hkey hf
 obtain ⟨zv,z1,z2,z3⟩:=a1G (W:=W) (U:=U) hz
 have hlt:b<W.heap.size:=(BH.1 g1).1
 cases f with
 | none=>
  simp only[G9]at e6
  obtain ⟨rfl,rfl⟩:=e6
  have hrun:(execOp a.eval o).run P W=.ok (.value (.tuple #[zv,.int .i64 (clk:Nat)])) (C7 W b (.map (es.push ⟨a.eval x,zv,clk⟩) (clk+1))):=by
   simp only[execOp,ho,hmv]
   simp[Instr.mapEntry,run_underlying ht,MapKept.run_getObj_map g1,hchk,r1,z1,MapKept.run_setObj_map _ g1,Result.andThen,C7,goInt]
  unfold Oper.wp
  rw[hrun,Oper.upon_value,hod]
  have hK:=IY (U:=U) (.map (es.push ⟨a.eval x,zv,clk⟩) (clk+1)) hnc ((h.ob _ _ e4).2.1 0)
  exact hn _ _ U ((h.setm e4 hnc ((G.push hkx.alias z2).ob hK (JK _ hlt)) (H3 (by simp))).putO hd ((z2.keep hK).tup2 (.int _ _)) fun j _=>Sole.plain (by simp))
 | some j=>
  simp only[G9]at e6
  obtain ⟨rfl,rfl⟩:=e6
  obtain ⟨q1,q2,q3⟩:=r2 j rfl
  have hj:j<es.size:=by simpa using q1
  have hej:=Ow hj
  have hjv:j<vl.length:=by have:=G.g2;have:=G.g3;omega
  have hjb:j<bs.length:=by have:=G.g2;have:=G.g4;omega
  obtain ⟨_,a2,a3⟩:=G.g7 j _ hej
  have hval:=a2 _ (getD_get (d:=.undef) hjv)
  have hborn:=a3 _ (getD_get (d:=0) hjb)
  have hrun:(execOp a.eval o).run P W=.ok (.value (.tuple #[(es.toList.getD j default).val,.int .i64 (bs.getD j 0:Nat)])) (C7 W b (.map (es.modify j fun e=>{ e with key:=a.eval x }) clk)):=by
   simp only[execOp,ho,hmv]
   simp[-List.getD_eq_getElem?_getD,Instr.mapEntry,run_underlying ht,MapKept.run_getObj_map g1,hchk,r1,hej,q3,MapKept.run_setObj_map _ g1,Result.andThen,C7,goInt,hborn]
  unfold Oper.wp
  rw[hrun,Oper.upon_value,hod]
  have hK:=IY (U:=U) (.map (es.modify j fun e=>{ e with key:=a.eval x }) clk) hnc ((h.ob _ _ e4).2.1 0)
  have G':MpR W U (es.modify j fun e=>{ e with key:=a.eval x }) kl vl bs clk:=by
   have:=G.set (es':=es.modify j fun e=>{ e with key:=a.eval x }) (j:=j) (v:=(es.toList.getD j default).val) (vv:=vl.getD j .undef) hval (by simp) (fun i e' hi=>?_)
   ·rwa [show vl.set j (vl.getD j .undef)=vl from by rw[List.getD,Aw hjv];simp]at this
   ·rw[Array.getElem?_modify]at hi
    split at hi
    ·rename_i hij
     subst hij
     rw[hej]at hi
     cases hi
     exact ⟨_,hej,q2.symm,rfl,by simp⟩
    ·rename_i hij
     exact ⟨e',hi,rfl,rfl,by rw[Ad (fun e=>hij e.symm)]⟩
  exact hn _ _ U ((h.setm e4 hnc (G'.ob hK (JK _ hlt)) (H3 (by simp))).putO hd ((hval.keep hK).tup2 (.int _ _)) fun j _=>Sole.plain (by simp))
theorem Xk{n:Int}:∀ {bs:List Nat} {i j:Nat},GB n bs i=some j→i≤j∧j - i<bs.length∧bs[j - i]?=some n.toNat∧(n.toNat:Int)=n
 | b::r,i,j,h=>by
  simp only[GB]at h
  split at h
  ·rename_i e
   cases h
   subst e
   exact ⟨A8 _,by simp,by simp,by simp⟩
  ·obtain ⟨h1,h2,h3,h4⟩:=Xk h
   have e1:j - i=(j - (i+1))+1:=by omega
   exact ⟨by omega,by simp;omega,by rw[e1];simpa using h3,h4⟩
theorem b1z(h:Inv N W0 U0 M a W U s){t:TypeId}{m x v:Operand}{X Y V:Opd}(ho:o.op=.entryStore t m x v)(hod:o.dst=none)(hm:Au m=some X)(hx:Au x=some Y)(hv:Au v=some V){z:AV}{ks:List Kd}{ag:Bool}
  {b:Nat} {cs:List AV} (hr:EB s 2 z ks ag X Y V=some (b,r,cs)) {next:Act→World→Prop} {Q:Exit→Act→World→Prop}
  (hn:∀ a' W' U',Inv N W0 U0 M a' W' U' { s with o:=upd s.o b (some cs) }→next a' W'):o.wp P a W next Q:=by
 obtain ⟨kv,vv,kl,vl,bs,clk,e1,e2,e3,e4,e5⟩:=LV hr
 obtain ⟨⟨es,g1,G⟩,hnc⟩:=h.mpR e4
 have hkx:=AW h hx e2
 have hvv:=AW h hv e3
 have hmv:=h.mapv hm e1
 simp only[Fw]at e5
 split at e5
 ·rename_i n
  simp only[BM,G9]at e5
  obtain ⟨j,hf,rfl,rfl⟩:=e5
  obtain ⟨_,q1,q2,q3⟩:=Xk hf
  simp only[Nat.sub_zero]at q1 q2
  have hj:j<es.size:=by have:=G.g2;have:=G.g4;omega
  have hej:=Ow hj
  have hlt:b<W.heap.size:=(BH.1 g1).1
  have hbj:=(G.g7 j _ hej).2.2 _ q2
  have hidx:es.findIdx? (fun e=>(e.born:Int)==n)=some j:=by
   rw[Array.findIdx?_eq_some_iff_getElem]
   refine ⟨hj, ?_,fun i hi=>?_⟩
   ·have:es[j]=es.toList.getD j default:=by
     have:=hej;rw[Dz hj]at this;exact Fp this
    rw[this,hbj,q3];simp
   ·have hie:es[i]?=some es[i]:=Dz (by omega)
    have hib:i<bs.length:=by have:=G.g2;have:=G.g4;omega
    have:=(G.g7 i _ hie).2.2 _ (Aw hib)
    rw[this]
    have hlt2:bs[i]<bs[j]:=J6.1 G.g5 i j hib q1 hi
    have:bs[j]=n.toNat:=by rw[Aw q1]at q2;exact Fp q2
    simp;omega
  have hsx:a.eval x=.int .i64 n:=hkx.int_inv
  have hrun:(execOp a.eval o).run P W=.ok .skip (C7 W b (.map (es.modify j fun e=>{ e with val:=a.eval v }) clk)):=by
   simp only[execOp,ho,hmv,hsx]
   simp[Instr.entryStore,asInt,asIntOf,MapKept.run_getObj_map g1,hidx,MapKept.run_setObj_map _ g1,Result.andThen,C7]
  unfold Oper.wp
  rw[hrun,Oper.upon_skip,hod]
  refine hn _ _ U (h.setm e4 hnc ((G.set (j:=j) hvv.alias (by simp) (fun i e' hi=>?_)).ob (IY _ hnc ((h.ob _ _ e4).2.1 0)) (JK _ hlt)) (H3 (by simp)))
  rw[Array.getElem?_modify]at hi
  split at hi
  ·rename_i hij
   subst hij
   rw[hej]at hi
   cases hi
   exact ⟨_,hej,rfl,rfl,by simp⟩
  ·rename_i hij
   exact ⟨e',hi,rfl,rfl,by rw[Ad (fun e=>hij e.symm)]⟩
 ·cases e5
theorem b1A(h:Inv N W0 U0 M a W U s){t k e k':TypeId}{m x:Operand}{ag:Bool}{ks:List Kd}{z:AV}{X Y V:Opd}(ho:o.op=.call { callee:=.builtin .delete,args:=⟨[m,x]⟩,argTypes:=⟨[t,k']⟩ })(hod:o.dst=none)(ht:P.underlying t=some (.map k e))(hm:Au m=some X)(hx:Au x=some Y)
  (hk:Fu P k=some (ks,ag)) {b:Nat} {cs:List AV} (hr:EB s 3 z ks ag X Y V=some (b,r,cs)) {next:Act→World→Prop} {Q:Exit→Act→World→Prop}
  (hn:∀ a' W' U',Inv N W0 U0 M a' W' U' { s with o:=upd s.o b (some cs) }→next a' W'):o.wp P a W next Q:=by
 obtain ⟨kv,vv,kl,vl,bs,clk,e1,e2,e3,e4,e5⟩:=LV hr
 obtain ⟨⟨es,g1,G⟩,hnc⟩:=h.mpR e4
 have hkx:=AW h hx e2
 have hmv:=h.mapv hm e1
 have hkey:∀ (j:Nat) (en:MapEntry) (c:AV),es.toList[j]?=some en→kl[j]?=some c→VR W U en.key c:=fun j en c h1 h2=>(G.g7 j en (by rw[← Em];exact h1)).1 c h2
 simp only[Fw,BM]at e5
 obtain ⟨f,hf,e6⟩:=e5
 obtain ⟨hchk,r1,r2⟩:=Nl hk hkx (es:=es.toList) (by simpa using G.g2) hkey hf
 have hlt:b<W.heap.size:=(BH.1 g1).1
 cases f with
 | none=>
  simp only[G9]at e6
  obtain ⟨rfl,rfl⟩:=e6
  have hrun:(execOp a.eval o).run P W=.ok (.value (.tuple #[])) (C7 W b (.map es clk)):=by
   simp[execOp,ho,hmv,resolve,invoke,builtin,Builtin.delete_,run_underlying ht,MapKept.run_getObj_map g1,hchk,r1,MapKept.run_setObj_map _ g1,Result.andThen,C7]
  unfold Oper.wp
  rw[hrun,Oper.upon_value,hod]
  exact hn _ _ U (h.setm e4 hnc (G.ob (IY _ hnc ((h.ob _ _ e4).2.1 0)) (JK _ hlt)) (H3 (by simp)))
 | some j=>
  simp only[G9]at e6
  obtain ⟨rfl,rfl⟩:=e6
  obtain ⟨q1,q2,q3⟩:=r2 j rfl
  have hj:j<es.size:=by simpa using q1
  have hrun:(execOp a.eval o).run P W=.ok (.value (.tuple #[])) (C7 W b (.map (es.eraseIdxIfInBounds j) clk)):=by
   simp[execOp,ho,hmv,resolve,invoke,builtin,Builtin.delete_,run_underlying ht,MapKept.run_getObj_map g1,hchk,r1,MapKept.run_setObj_map _ g1,Result.andThen,C7]
  unfold Oper.wp
  rw[hrun,Oper.upon_value,hod]
  exact hn _ _ U (h.setm e4 hnc ((G.erase hj).ob (IY _ hnc ((h.ob _ _ e4).2.1 0)) (JK _ hlt)) (H3 (by simp)))
end
end Go.Proofs.YtfgihnhoocnmdaaGreatDoor
