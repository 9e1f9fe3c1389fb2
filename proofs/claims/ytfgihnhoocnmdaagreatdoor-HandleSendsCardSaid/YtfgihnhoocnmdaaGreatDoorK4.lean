import Derived.Test.YtfgihnhoocnmdaaGreatDoorK1
import Derived.Laws.StructEq
import Derived.ChangeKeysEq
import Derived.Test.YtfgihnhoocnmdaaGreatDoorK3
import Derived.MapKept
namespace Go.Proofs.YtfgihnhoocnmdaaGreatDoor
set_option linter.all false
set_option maxHeartbeats 9000000
section
open Go.RowKit

theorem a6l:∀ {k l:List Kd} {a b c d:List AV} {r:Bool},a.length=k.length→b.length=k.length→eqC (k++l) (a++c) (b++d)=some r→∃ x y,eqC k a b=some x∧eqC l c d=some y∧r=(x&&y)
 | [],l,a,b,c,d,r,h1,h2,h=>by
  obtain rfl:=List.eq_nil_of_length_eq_zero h1
  obtain rfl:=List.eq_nil_of_length_eq_zero h2
  exact ⟨true,r,rfl,h,by simp⟩
 | k::ks,l,a,b,c,d,r,h1,h2,h=>by
  match a,b,h1,h2 with
  | x::a,y::b,h1,h2=>
   simp only[List.cons_append,eqC]at h ⊢
   split at h
   ·rename_i u v g1 g2
    obtain ⟨p,q,h3,h4,rfl⟩:=a6l (by simpa using h1) (by simpa using h2) g2
    simp only[Option.some.injEq]at h
    subst h
    exact ⟨u&&p,q,by rw[g1,h3],h4,by rw[Bool.and_assoc]⟩
   ·cases h
structure CellsR (P:Program) (W:World) (U:Nat→Nat→Prop) (t:TypeId) (x:Value) (cs:List AV):Prop where
 len:cs.length=a0n P t
 size:x.cells.size=cs.length
 vr:∀ (j:Nat) (v:Value) (c:AV),x.cells[j]?=some v→cs[j]?=some c→VR W U v c∧v.oneCell'=true
 form:(∃ xs,x=.agg xs)↔∃ d,P.underlying t=some d∧a2a d=true
section
variable {P:Program} {W:World} {U:Nat→Nat→Prop}
theorem a2o:∀ (n:Nat) (t:TypeId) (ks:List Kd),a0A P n t=some ks→ks.length=a0n P t
 | 0,t,ks,h=>by simp[a0A]at h
 | n+1,t,ks,h=>by
  unfold a0A at h
  have hch:∀ (fs:List Field) (a tot:Nat) (ks:List Kd),a1C P a fs=some tot→a3b (a0A P n) fs=some ks→a+ks.length=tot:=by
   intro fs
   induction fs with
   | nil=>intro a tot ks h1 h2;simp[a1C]at h1;simp[a3b]at h2;subst h2;simpa using h1
   | cons f fs ih=>
    intro a tot ks h1 h2
    simp only[a1C]at h1
    split at h1
    ·simp only[a3b]at h2
     split at h2
     ·rename_i k1 k2 e1 e2
      simp only[Option.some.injEq]at h2
      subst h2
      have:=ih _ _ _ h1 e2
      have:=a2o n _ _ e1
      simp only[List.length_append];omega
     ·cases h2
    ·cases h1
  split at h
  ·split at h
   ·cases h;simp_all
   ·cases h
  ·split at h
   ·cases h;simp_all
   ·cases h
  ·split at h
   ·cases h;simp_all
   ·cases h
  ·split at h
   ·rename_i hc
    have:=hch _ _ _ _ hc.2 h
    omega
   ·cases h
  ·split at h
   ·rename_i hc
    simp only[Option.map_eq_some_iff]at h
    obtain ⟨k,hk,rfl⟩:=h
    have:=a2o n _ _ hk
    rw[hc.1,List.length_flatten,List.map_replicate,List.sum_replicate_nat,this]
   ·cases h
  ·cases h
theorem part_sound{n:Nat}{t:TypeId}{ks:List Kd}(hk:a0A P n t=some ks)(hi:(P.info? t).isSome=true){zs:Array Value}{es:List AV}{off:Nat}(hle:off+a0n P t≤es.length)(g1:zs.size=es.length)
  (g3:∀ (j:Nat) (v:Value) (c:AV),zs[j]?=some v→es[j]?=some c→VR W U v c∧v.oneCell'=true):
  ∃ v,(part t zs off).run P W=.ok v W∧CellsR P W U t v ((es.drop off).take (a0n P t)):=by
 cases hinf:P.info? t with
 | none=>simp[hinf]at hi
 | some inf=>
  have hsz:inf.size=a0n P t:=by simp[a0n,hinf]
  have single:(∃ dd,P.underlying t=some dd∧a2a dd=false)→a0n P t=1→∃ v,(part t zs off).run P W=.ok v W∧CellsR P W U t v ((es.drop off).take (a0n P t)):=by
   rintro ⟨dd,hu,hag⟩ h1
   have hlt:off<zs.size:=by omega
   have hz:zs[off]?=some zs[off]:=Array.getElem?_eq_getElem hlt
   have hes:es[off]?=some (es[off]'(by omega)):=List.getElem?_eq_getElem (by omega)
   obtain ⟨k1,k2⟩:=g3 off _ _ hz hes
   have hc1:(zs[off]).cells = #[zs[off]]:=by
    revert k2
    cases zs[off]<;>simp[Value.oneCell',Value.cells]
   have htk:(es.drop off).take (a0n P t)=[es[off]'(by omega)]:=by
    rw[h1,List.drop_eq_getElem_cons (by omega)];rfl
   refine ⟨zs[off], ?_, ?_⟩
   ·simp[part,run_isAgg hu,hag,hz]
   ·rw[htk]
    refine ⟨by simp[h1],by rw[hc1];rfl,fun j v c hv hc=>?_, ?_⟩
    ·rw[hc1]at hv
     cases j with
     | zero=>simp at hv hc;subst hv;subst hc;exact ⟨k1,k2⟩
     | succ j=>simp at hv
    ·constructor
     ·rintro ⟨xs',hx⟩
      rw[hx]at k2;simp[Value.oneCell']at k2
     ·rintro ⟨d',hx,hd'⟩
      rw[hu]at hx
      cases hx
      rw[hag]at hd';cases hd'
  have whole:(∃ dd,P.underlying t=some dd∧a2a dd=true)→∃ v,(part t zs off).run P W=.ok v W∧CellsR P W U t v ((es.drop off).take (a0n P t)):=by
   rintro ⟨dd,hu,hag⟩
   refine ⟨.agg (zs.extract off (off+inf.size)),by simp[part,run_isAgg hu,hag,sizeOf,typeInfo,hinf], ?_⟩
   refine ⟨by simp;omega,by simp[Value.cells,hsz];omega,fun j v c hv hc=>?_,⟨fun _=>⟨dd,hu,hag⟩,fun _=>⟨_,rfl⟩⟩⟩
   simp only[Value.cells,Array.getElem?_extract]at hv
   rw[List.getElem?_take,List.getElem?_drop]at hc
   split at hv
   ·split at hc
    ·exact g3 (off+j) v c hv hc
    ·cases hc
   ·cases hv
  cases n with
  | zero=>simp[a0A]at hk
  | succ n=>
   unfold a0A at hk
   split at hk
   ·rename_i hu;split at hk
    ·rename_i h1;exact single ⟨_,hu,rfl⟩ h1
    ·cases hk
   ·rename_i k hu;split at hk
    ·rename_i h1;exact single ⟨_,hu,rfl⟩ h1
    ·cases hk
   ·rename_i hu;split at hk
    ·rename_i h1;exact single ⟨_,hu,rfl⟩ h1
    ·cases hk
   ·rename_i gs hu;exact whole ⟨_,hu,rfl⟩
   ·rename_i m e hu;exact whole ⟨_,hu,rfl⟩
   ·cases hk
theorem equalIn_items{n d:Nat}{e:TypeId}{k:List Kd}(hk:a0A P n e=some k)(hi:(P.info? e).isSome=true)
  (ih:∀ (x y:Value) (cs ds:List AV) (r:Bool),CellsR P W U e x cs→CellsR P W U e y ds→eqC k cs ds=some r→(Op.equalIn d e x y).run P W=.ok r W)
  (xs ys:Array Value) (cs ds:List AV) (h1:xs.size=cs.length) (h2:ys.size=ds.length) (h3:∀ (j:Nat) (v:Value) (c:AV),xs[j]?=some v→cs[j]?=some c→VR W U v c∧v.oneCell'=true)
  (h4:∀ (j:Nat) (v:Value) (c:AV),ys[j]?=some v→ds[j]?=some c→VR W U v c∧v.oneCell'=true):
  ∀ (m i:Nat) (r:Bool),cs.length=(i+m) * a0n P e→ds.length=(i+m) * a0n P e→eqC (List.replicate m k).flatten (cs.drop (i * a0n P e)) (ds.drop (i * a0n P e))=some r→
   (Op.eqItems d e (P.cellsOf e) xs ys (List.range' i m)).run P W=.ok r W
 | 0,i,r,hl1,hl2,he=>by
  rw[List.drop_eq_nil_of_le (by simp at hl1;omega),List.drop_eq_nil_of_le (by simp at hl2;omega)]at he
  simp only[List.replicate_zero,List.flatten_nil,eqC,Option.some.injEq]at he
  subst he
  simp[Op.eqItems]
 | m+1,i,r,hl1,hl2,he=>by
  have hkl:=a2o n _ _ hk
  have hle:i * a0n P e+a0n P e≤(i+(m+1)) * a0n P e:=by
   have:(i+1) * a0n P e≤(i+(m+1)) * a0n P e:=Nat.mul_le_mul_right _ (by omega)
   rw[Nat.add_mul,Nat.one_mul]at this;exact this
  have hnx:i * a0n P e+a0n P e=(i+1) * a0n P e:=by rw[Nat.add_mul,Nat.one_mul]
  have e1:cs.drop (i * a0n P e)=(cs.drop (i * a0n P e)).take (a0n P e)++cs.drop ((i+1) * a0n P e):=by rw[← hnx, ← List.drop_drop,List.take_append_drop]
  have e2:ds.drop (i * a0n P e)=(ds.drop (i * a0n P e)).take (a0n P e)++ds.drop ((i+1) * a0n P e):=by rw[← hnx, ← List.drop_drop,List.take_append_drop]
  rw[List.replicate_succ,List.flatten_cons,e1,e2]at he
  obtain ⟨x,y,q1,q2,rfl⟩:=a6l (by simp;omega) (by simp;omega) he
  obtain ⟨v1,r1,c1⟩:=part_sound hk hi (off:=i * a0n P e) (by omega) h1 h3
  obtain ⟨v2,r2,c2⟩:=part_sound hk hi (off:=i * a0n P e) (by omega) h2 h4
  have hr:=ih v1 v2 _ _ x c1 c2 q1
  have hrest:=equalIn_items hk hi ih xs ys cs ds h1 h2 h3 h4 m (i+1) y (by rw[hl1];congr 1;omega) (by rw[hl2];congr 1;omega) q2
  have hce:P.cellsOf e=a0n P e:=rfl
  rw[List.range'_succ]
  simp only[Op.eqItems,hce,Sem.run_bind,r1,Result.andThen_ok,r2,hr,Sem.run_ite]
  cases x
  ·simp
  ·simpa[hce]using hrest
theorem equalIn_fields{n d:Nat}(ih:∀ (t:TypeId) (x y:Value) (ks:List Kd) (cs ds:List AV) (r:Bool),a0A P n t=some ks→CellsR P W U t x cs→CellsR P W U t y ds→eqC ks cs ds=some r→(Op.equalIn d t x y).run P W=.ok r W)
  (xs ys:Array Value) (cs ds:List AV) (h1:xs.size=cs.length) (h2:ys.size=ds.length) (h3:∀ (j:Nat) (v:Value) (c:AV),xs[j]?=some v→cs[j]?=some c→VR W U v c∧v.oneCell'=true)
  (h4:∀ (j:Nat) (v:Value) (c:AV),ys[j]?=some v→ds[j]?=some c→VR W U v c∧v.oneCell'=true):
  ∀ (fs:List Field) (a tot:Nat) (ks:List Kd) (r:Bool),a1C P a fs=some tot→cs.length=tot→ds.length=tot→a3b (a0A P n) fs=some ks→eqC ks (cs.drop a) (ds.drop a)=some r→(Op.eqFields d xs ys fs).run P W=.ok r W
 | [],a,tot,ks,r,hc,hl1,hl2,hf,he=>by
  simp only[a3b,Option.some.injEq]at hf
  subst hf
  simp only[a1C,Option.some.injEq]at hc
  subst hc
  rw[List.drop_eq_nil_of_le (by omega),List.drop_eq_nil_of_le (by omega)]at he
  simp only[eqC,Option.some.injEq]at he
  subst he
  simp[Op.eqFields]
 | f::fs,a,tot,ks,r,hc,hl1,hl2,hf,he=>by
  obtain ⟨kf,kr,hkf,hkr,rfl⟩:∃ kf kr,a0A P n f.type=some kf∧a3b (a0A P n) fs=some kr∧ks=kf++kr:=by
   simp only[a3b]at hf
   split at hf
   ·rename_i a b e1 e2;exact ⟨a,b,e1,e2,by simpa using hf.symm⟩
   ·cases hf
  have hkl:=a2o n _ _ hkf
  simp only[a1C]at hc
  split at hc
  ·rename_i hcond
   obtain ⟨ho,hn,hi⟩:=hcond
   have hge:a+a0n P f.type≤tot:=by
    have:∀ (l:List Field) (a t:Nat),a1C P a l=some t→a≤t:=by
     intro l
     induction l with
     | nil=>intro a t h;simp[a1C]at h;omega
     | cons g l ih2=>
      intro a t h
      simp only[a1C]at h
      split at h
      ·have:=ih2 _ _ h;omega
      ·cases h
    exact this _ _ _ hc
   have e1:cs.drop a=(cs.drop a).take (a0n P f.type)++cs.drop (a+a0n P f.type):=by rw[← List.drop_drop,List.take_append_drop]
   have e2:ds.drop a=(ds.drop a).take (a0n P f.type)++ds.drop (a+a0n P f.type):=by rw[← List.drop_drop,List.take_append_drop]
   rw[e1,e2]at he
   obtain ⟨x,y,q1,q2,rfl⟩:=a6l (by simp;omega) (by simp;omega) he
   have part1:∀ (zs:Array Value) (es:List AV),zs.size=es.length→es.length=tot→(∀ (j:Nat) (v:Value) (c:AV),zs[j]?=some v→es[j]?=some c→VR W U v c∧v.oneCell'=true)→
     ∃ v,(part f.type zs f.offset).run P W=.ok v W∧CellsR P W U f.type v ((es.drop a).take (a0n P f.type)):=fun zs es g1 g2 g3=>by
    have:=part_sound hkf hi (off:=a) (by omega) g1 g3
    rwa [ho]
   obtain ⟨v1,r1,c1⟩:=part1 xs cs h1 hl1 h3
   obtain ⟨v2,r2,c2⟩:=part1 ys ds h2 hl2 h4
   have hr:=ih f.type v1 v2 _ _ _ x hkf c1 c2 q1
   have hrest:=equalIn_fields ih xs ys cs ds h1 h2 h3 h4 fs _ tot _ y hc hl1 hl2 hkr q2
   simp only[Op.eqFields,if_pos hn,Sem.run_bind,r1,Result.andThen_ok,r2,hr,Sem.run_ite]
   cases x
   ·simp
   ·simpa using hrest
  ·cases hc

theorem a1F:∀ (n d:Nat),n≤d→∀ (t:TypeId) (x y:Value) (ks:List Kd) (cs ds:List AV) (r:Bool),a0A P n t=some ks→CellsR P W U t x cs→CellsR P W U t y ds→eqC ks cs ds=some r→(Op.equalIn d t x y).run P W=.ok r W
 | 0,d,_,t,x,y,ks,cs,ds,r,ht,_,_,_=>by simp[a0A]at ht
 | n+1,0,hd,t,x,y,ks,cs,ds,r,ht,hx,hy,he=>by omega
 | n+1,d+1,hd,t,x,y,ks,cs,ds,r,ht,hx,hy,he=>by
  have ih:=fun t x y ks cs ds r=>a1F n d (by omega) t x y ks cs ds r
  have single:∀ k,ks=[k]→a0n P t=1→(∀ d,P.underlying t=some d→a2a d=false)→∃ c c',VR W U x c∧VR W U y c'∧eq1 k c c'=some r:=by
   intro k hk h1 hns
   subst hk
   have one:∀ (z:Value) (es:List AV),CellsR P W U t z es→∃ c,es=[c]∧VR W U z c:=by
    intro z es hz
    have hl:es.length=1:=by rw[hz.len,h1]
    match es,hl with
    | [c],_=>
     refine ⟨c,rfl, ?_⟩
     have hna:¬ ∃ xs,z=.agg xs:=fun h=>by
      obtain ⟨dd,hd1,hd2⟩:=hz.form.1 h
      rw[hns dd hd1]at hd2;cases hd2
     have hc:z.cells = #[z]:=by
      cases z<;>first|rfl|exact absurd ⟨_,rfl⟩ hna
     exact (hz.vr 0 z c (by rw[hc];rfl) rfl).1
   obtain ⟨c,rfl,k1⟩:=one x cs hx
   obtain ⟨c',rfl,k2⟩:=one y ds hy
   refine ⟨c,c',k1,k2, ?_⟩
   simp only[eqC]at he
   split at he
   ·rename_i u v q1 q2
    simp only[Option.some.injEq]at q2 he
    subst q2 he
    rw[q1];simp
   ·cases he
  unfold a0A at ht
  split at ht
  ·rename_i hu
   split at ht
   ·rename_i h1
    obtain ⟨c,c',k1,k2,k3⟩:=single .b (by simpa using ht.symm) h1 (by intro d hd;rw[hu]at hd;cases hd;rfl)
    unfold eq1 at k3
    split at k3<;>simp_all
    rw[k1.bool_inv,k2.bool_inv,run_equal_bool hu]
    simp[k3]
   ·cases ht
  ·rename_i kk hu
   split at ht
   ·rename_i h1
    obtain ⟨c,c',k1,k2,k3⟩:=single .i (by simpa using ht.symm) h1 (by intro d hd;rw[hu]at hd;cases hd;rfl)
    unfold eq1 at k3
    split at k3<;>simp_all
    obtain ⟨rfl,rfl⟩:=k3
    rw[k1.int_inv,k2.int_inv,run_equalIn_int W d t _ kk _ _ hu]
    rfl
   ·cases ht
  ·rename_i hu
   split at ht
   ·rename_i h1
    obtain ⟨c,c',k1,k2,k3⟩:=single .s (by simpa using ht.symm) h1 (by intro d hd;rw[hu]at hd;cases hd;rfl)
    unfold eq1 at k3
    split at k3<;>simp_all
    rw[k1.str_inv,k2.str_inv,run_equalIn_string W d t _ _ hu,a3p,a3p,a7D]
    simp[k3]
   ·cases ht
  ·rename_i fs hu
   split at ht
   ·rename_i hc
    obtain ⟨hs,hch⟩:=hc
    obtain ⟨xs,rfl⟩:=hx.form.2 ⟨_,hu,rfl⟩
    obtain ⟨ys,rfl⟩:=hy.form.2 ⟨_,hu,rfl⟩
    have hfo:P.fieldsOf t=fs:=by simp[Program.fieldsOf,hu]
    rw[run_equalIn_struct W d t xs ys (by rw[hfo];exact hu) hs,hfo]
    exact equalIn_fields ih xs ys cs ds hx.size hy.size hx.vr hy.vr fs.toList 0 _ _ r hch hx.len hy.len ht (by simpa using he)
   ·cases ht
  ·rename_i m e hu
   split at ht
   ·rename_i hc
    simp only[Option.map_eq_some_iff]at ht
    obtain ⟨k,hk,rfl⟩:=ht
    obtain ⟨xs,rfl⟩:=hx.form.2 ⟨_,hu,rfl⟩
    obtain ⟨ys,rfl⟩:=hy.form.2 ⟨_,hu,rfl⟩
    obtain ⟨inf,hinf⟩:=Option.isSome_iff_exists.1 hc.2
    rw[run_equalIn_array (w:=W) d xs ys hu hinf,List.range_eq_range']
    exact equalIn_items hk hc.2 (fun x y cs ds r=>ih e x y k cs ds r hk) xs ys cs ds hx.size hy.size hx.vr hy.vr m 0 r (by rw[hx.len,hc.1,Nat.zero_add]) (by rw[hy.len,hc.1,Nat.zero_add]) (by simpa using he)
   ·cases ht
  ·cases ht

theorem a6k:∀ {ks:List Kd} {cs ds:List AV} {b:Bool},eqC ks cs ds=some b→cs.length=ks.length∧ds.length=ks.length
 | [],[],[],_,_=>⟨rfl,rfl⟩
 | k::ks,c::cs,d::ds,b,h=>by
  simp only[eqC]at h
  split at h
  ·rename_i x y h1 h2
   have:=a6k h2
   simp[this]
  ·cases h
 | [],_::_,_,_,h=>by simp[eqC]at h
 | [],[],_::_,_,h=>by simp[eqC]at h
 | _::_,[],_,_,h=>by simp[eqC]at h
 | _::_,_::_,[],_,h=>by simp[eqC]at h
theorem s_aeq{N:Nat}{W0:World}{U0:Nat→Nat→Prop}{M:Nat→Prop}{a:Act}{s:St}{o:Oper}{r:AV}(h:Inv N W0 U0 M a W U s){op:BinOp}{t ty:TypeId}{td:TypeDesc}{x y:Operand}{X Y:Opd}{ks:List Kd}(ho:o.op=.binOp op t x y ty)(hop:op=.eql∨op=.neq)
  (ht:P.underlying t=some td) (htd:a2a td=true) (hg:P.eqGuardType P.depth t=false) (hk:a0A P 8 t=some ks) (hx:a0j x=some X) (hy:a0j y=some Y) (hr:opR P s (.aeq (a7K op) ks X Y) r):VOK P a o W U r:=by
 obtain ⟨cs,ds,b,hv,hu,he,rfl⟩:=hr
 obtain ⟨l1,l2⟩:=a6k he
 have kl:=a2o 8 t ks hk
 have cell:∀ {z:Value} {es:List AV},VR W U z (.agg es)→es.length=ks.length→∃ vs:List Value,z=.agg vs.toArray∧CellsR P W U t z es:=by
  intro z es hz hl
  cases hz with
  | agg vs _ hvl hvr h1=>
   refine ⟨vs,rfl,by omega,by simp[Value.cells,hvl],fun j v c hv hc=>?_,⟨fun _=>⟨_,ht,htd⟩,fun _=>⟨_,rfl⟩⟩⟩
   have hv':vs[j]?=some v:=by simpa[Value.cells]using hv
   exact ⟨hvr j v c hv' hc,h1 v (List.mem_of_getElem? hv')⟩
 obtain ⟨vs,e1,c1⟩:=cell (a0a h hx hv) l1
 obtain ⟨us,e2,c2⟩:=cell (a0a h hy hu) l2
 have hrun:=a1F 8 10000 (by omega) t _ _ ks cs ds b hk c1 c2 he
 rw[e1,e2]at hrun
 rcases hop with rfl|rfl
 ·refine VOK.same (v:=.bool b) ?_ (.bool _) (by simp[a7K])
  simp only[execOp,ho,e1,e2,Sem.run_bind,run_eqGuard_agg W _ t x y _ _ hg,Result.andThen_ok,run_eql_struct,hrun]
  simp
 ·refine VOK.same (v:=.bool (!b)) ?_ (.bool _) (by simp[a7K])
  simp only[execOp,ho,e1,e2,Sem.run_bind,run_eqGuard_agg W _ t x y _ _ hg,Result.andThen_ok,run_neq_struct,hrun]
  simp
end
end
section
open Go.RowKit

section
variable {P:Program} {W:World} {U:Nat→Nat→Prop}
theorem eq1_same{k:Kd}{c d:AV}{v u:Value}(h:eq1 k c d=some true)(hv:VR W U v c)(hu:VR W U u d):v=u:=by
 unfold eq1 at h
 split at h
 ·rw[hv.int_inv,hu.int_inv]
  split at h
  ·rename_i e;subst e
   have:=of_decide_eq_true (Option.some.inj h)
   rw[this]
  ·cases h
 ·rw[hv.bool_inv,hu.bool_inv]
  rw[of_decide_eq_true (Option.some.inj h)]
 ·rw[hv.str_inv,hu.str_inv]
  rw[of_decide_eq_true (Option.some.inj h)]
 ·cases h
theorem eq1_bits{k:Kd}{c d:AV}{v:Value}{b:Bool}(h:eq1 k c d=some b)(hv:VR W U v c)(n:Nat):Instr.sameBits n v v=true∧(v.cells = #[v]∧∀ xs,v ≠ .agg xs):=by
 unfold eq1 at h
 split at h
 ·rw[hv.int_inv];cases n<;>simp[Instr.sameBits,Value.cells]
 ·rw[hv.bool_inv];cases n<;>simp[Instr.sameBits,Value.cells]
 ·rw[hv.str_inv];cases n<;>(refine ⟨?_,rfl,fun _ e=>by cases e⟩;simp only[Instr.sameBits,beq_toListBytes,beq_self_eq_true])
 ·cases h
theorem a9Q:∀ {ks:List Kd} {cs ds:List AV} {vs us:List Value},eqC ks cs ds=some true→vs.length=cs.length→us.length=ds.length→(∀ (i:Nat) (v:Value) (c:AV),vs[i]?=some v→cs[i]?=some c→VR W U v c)→
  (∀ (i:Nat) (v:Value) (c:AV),us[i]?=some v→ds[i]?=some c→VR W U v c)→vs=us
 | [],[],[],vs,us,_,h1,h2,_,_=>by
  obtain rfl:=List.eq_nil_of_length_eq_zero (l:=vs) (by simpa using h1)
  obtain rfl:=List.eq_nil_of_length_eq_zero (l:=us) (by simpa using h2)
  rfl
 | k::ks,c::cs,d::ds,v::vs,u::us,h,h1,h2,h3,h4=>by
  simp only[eqC]at h
  split at h
  ·rename_i x y g1 g2
   simp only[Option.some.injEq,Bool.and_eq_true]at h
   obtain ⟨rfl,rfl⟩:=h
   have e1:=eq1_same g1 (h3 0 v c rfl rfl) (h4 0 u d rfl rfl)
   have e2:=a9Q (vs:=vs) (us:=us) g2 (by simpa using h1) (by simpa using h2) (fun i v c hv hc=>h3 (i+1) v c (by simpa using hv) (by simpa using hc)) (fun i v c hv hc=>h4 (i+1) v c (by simpa using hv) (by simpa using hc))
   rw[e1,e2]
  ·cases h
 | k::ks,c::cs,d::ds,[],us,h,h1,h2,h3,h4=>by simp at h1
 | k::ks,c::cs,d::ds,v::vs,[],h,h1,h2,h3,h4=>by simp at h2
 | [],_::_,_,_,_,h,_,_,_,_=>by simp[eqC]at h
 | [],[],_::_,_,_,h,_,_,_,_=>by simp[eqC]at h
 | _::_,[],_,_,_,h,_,_,_,_=>by simp[eqC]at h
 | _::_,_::_,[],_,_,h,_,_,_,_=>by simp[eqC]at h
theorem a9P:∀ {ks:List Kd} {cs ds:List AV} {vs:List Value} {b:Bool},eqC ks cs ds=some b→vs.length=cs.length→(∀ (i:Nat) (v:Value) (c:AV),vs[i]?=some v→cs[i]?=some c→VR W U v c)→∀ n, ∀ v∈vs,Instr.sameBits n v v=true
 | [],[],[],vs,_,_,h1,_,n=>by
  obtain rfl:=List.eq_nil_of_length_eq_zero (l:=vs) (by simpa using h1)
  simp
 | k::ks,c::cs,d::ds,v::vs,b,h,h1,h3,n=>by
  simp only[eqC]at h
  split at h
  ·rename_i x y g1 g2
   intro w hw
   rcases List.mem_cons.1 hw with rfl|hw
   ·exact (eq1_bits g1 (h3 0 _ c rfl rfl) n).1
   ·exact a9P g2 (by simpa using h1) (fun i v c hv hc=>h3 (i+1) v c (by simpa using hv) (by simpa using hc)) n w hw
  ·cases h
 | k::ks,c::cs,d::ds,[],b,h,h1,h3,n=>by simp
 | [],_::_,_,_,_,h,_,_,_=>by simp[eqC]at h
 | [],[],_::_,_,_,h,_,_,_=>by simp[eqC]at h
 | _::_,[],_,_,_,h,_,_,_=>by simp[eqC]at h
 | _::_,_::_,[],_,_,h,_,_,_=>by simp[eqC]at h
theorem keyB_cases{kt:TypeId}{ks:List Kd}{ag:Bool}(hk:a9p P kt=some (ks,ag)):∃ d,P.underlying kt=some d∧a2a d=ag∧a0A P 8 kt=some ks:=by
 unfold a9p at hk
 split at hk
 ·rename_i d ks' h1 h2
  simp only[Option.some.injEq,Prod.mk.injEq]at hk
  obtain ⟨rfl,rfl⟩:=hk
  exact ⟨d,h1,rfl,h2⟩
 ·cases hk
theorem key_cells{kt:TypeId}{ks:List Kd}{ag:Bool}{x y:Value}{a b:AV}{r:Bool}(hk:a9p P kt=some (ks,ag))(hx:VR W U x a)(hy:VR W U y b)(he:a4x ks ag a b=some r):
  (∃ cs ds,CellsR P W U kt x cs∧CellsR P W U kt y ds∧eqC ks cs ds=some r)∧(r=true→x=y)∧Instr.sameBits 10000 x x=true:=by
 obtain ⟨d,hd,hag,hks⟩:=keyB_cases hk
 have kl:=a2o 8 kt ks hks
 unfold a4x at he
 split at he
 ·rename_i cs ds
  obtain ⟨l1,l2⟩:=a6k he
  have cell:∀ {z:Value} {es:List AV},VR W U z (.agg es)→es.length=ks.length→∃ vs:List Value,z=.agg vs.toArray∧vs.length=es.length∧(∀ (i:Nat) (v:Value) (c:AV),vs[i]?=some v→es[i]?=some c→VR W U v c)∧CellsR P W U kt z es:=by
   intro z es hz hl
   cases hz with
   | agg vs _ hvl hvr h1=>
    refine ⟨vs,rfl,hvl,hvr,by omega,by simp[Value.cells,hvl],fun j v c hv hc=>?_,⟨fun _=>⟨d,hd,hag⟩,fun _=>⟨_,rfl⟩⟩⟩
    have hv':vs[j]?=some v:=by simpa[Value.cells]using hv
    exact ⟨hvr j v c hv' hc,h1 v (List.mem_of_getElem? hv')⟩
  obtain ⟨vs,rfl,n1,v1,c1⟩:=cell hx l1
  obtain ⟨us,rfl,n2,v2,c2⟩:=cell hy l2
  refine ⟨⟨cs,ds,c1,c2,he⟩,fun hr=>?_, ?_⟩
  ·subst hr
   rw[a9Q he n1 n2 v1 v2]
  ·have:=a9P he n1 v1 9999
   simp only[Instr.sameBits,beq_self_eq_true,Bool.true_and,List.all_eq_true,List.toList_toArray]
   rintro ⟨p,q⟩ hpq
   obtain ⟨i,hi,e⟩:=List.getElem_of_mem hpq
   simp only[List.getElem_zip,Prod.mk.injEq]at e
   obtain ⟨rfl,rfl⟩:=e
   exact this _ (List.getElem_mem _)
 ·obtain ⟨l1,l2⟩:=a6k he
  have l1:ks.length=1:=by simpa using l1.symm
  match ks,l1 with
  | [k],_=>
   have he1:eq1 k a b=some r:=by
    simp only[eqC]at he
    split at he
    ·rename_i u v q1 q2
     simp only[Option.some.injEq]at q2 he
     subst q2 he
     rw[q1];simp
    ·cases he
   have he2:∃ r',eq1 k b a=some r':=by
    unfold eq1 at he1
    split at he1
    ·split at he1
     ·rename_i e;subst e;exact ⟨_,by simp[eq1];rfl⟩
     ·cases he1
    ·exact ⟨_,rfl⟩
    ·exact ⟨_,rfl⟩
    ·cases he1
   obtain ⟨r',he2⟩:=he2
   obtain ⟨b1,b2,b3⟩:=eq1_bits he1 hx 10000
   obtain ⟨d1,d2,d3⟩:=eq1_bits he2 hy 10000
   have form:∀ {z:Value},(∀ xs,z ≠ .agg xs)→((∃ xs,z=.agg xs)↔∃ d,P.underlying kt=some d∧a2a d=true):=by
    intro z hz
    constructor
    ·rintro ⟨xs,rfl⟩;exact absurd rfl (hz xs)
    ·rintro ⟨d',e1,e2⟩
     rw[hd]at e1;cases e1
     rw[hag]at e2;cases e2
   have one:∀ {z:Value} {c:AV} {k:Kd} {c':AV} {t:Bool},VR W U z c→eq1 k c c'=some t→z.cells = #[z]→(∀ xs,z ≠ .agg xs)→CellsR P W U kt z [c]:=by
    intro z c k c' t hz ht hc hna
    refine ⟨by simpa using kl,by rw[hc];rfl,fun j v u hv hu=>?_,form hna⟩
    rw[hc]at hv
    cases j with
    | zero=>
     simp at hv hu
     subst hv hu
     refine ⟨hz, ?_⟩
     unfold eq1 at ht
     split at ht
     ·rw[hz.int_inv];rfl
     ·rw[hz.bool_inv];rfl
     ·rw[hz.str_inv];rfl
     ·cases ht
    | succ j=>simp at hv
   refine ⟨⟨[a],[b],one hx he1 b2 b3,one hy he2 d2 d3,he⟩,fun hr=>?_,b1⟩
   subst hr
   exact eq1_same he1 hx hy
 ·cases he
theorem chain_each{n:Nat}:∀ (fs:List Field) (a tot:Nat) (ks:List Kd),a1C P a fs=some tot→a3b (a0A P n) fs=some ks→∀ f∈fs,f.name ≠ "_" ∧ (P.info? f.type).isSome=true∧f.offset+a0n P f.type≤tot∧∃ kf,a0A P n f.type=some kf
 | [],_,_,_,_,_,f,hf=>by cases hf
 | g::fs,a,tot,ks,hc,hk,f,hf=>by
  have hge:∀ (l:List Field) (a t:Nat),a1C P a l=some t→a≤t:=by
   intro l
   induction l with
   | nil=>intro a t h;simp[a1C]at h;omega
   | cons g l ih2=>
    intro a t h
    simp only[a1C]at h
    split at h
    ·have:=ih2 _ _ h;omega
    ·cases h
  simp only[a1C]at hc
  split at hc
  ·rename_i hcond
   obtain ⟨h1,h2,h3⟩:=hcond
   simp only[a3b]at hk
   split at hk
   ·rename_i k1 k2 e1 e2
    rcases List.mem_cons.1 hf with rfl|hf
    ·exact ⟨h2,h3,by have:=hge _ _ _ hc;omega,_,e1⟩
    ·exact chain_each fs _ tot _ hc e2 f hf
   ·cases hk
  ·cases hc
theorem a3Q(em:Bool):∀ (n d:Nat),n≤d→∀ (t:TypeId) (x:Value) (ks:List Kd) (cs:List AV),a0A P n t=some ks→CellsR P W U t x cs→(Instr.checkKey em d t x).run P W=.ok () W
 | 0,d,_,t,x,ks,cs,ht,_=>by simp[a0A]at ht
 | n+1,0,hd,t,x,ks,cs,ht,hx=>by omega
 | n+1,d+1,hd,t,x,ks,cs,ht,hx=>by
  have ih:=fun t x ks cs=>a3Q em n d (by omega) t x ks cs
  unfold a0A at ht
  unfold Instr.checkKey
  split at ht
  ·rename_i hu;simp[run_underlying hu]
  ·rename_i kk hu;simp[run_underlying hu]
  ·rename_i hu;simp[run_underlying hu]
  ·rename_i fs hu
   split at ht
   ·rename_i hc
    obtain ⟨xs,rfl⟩:=hx.form.2 ⟨_,hu,rfl⟩
    have each:=chain_each fs.toList 0 _ ks hc.2 ht
    simp only[Sem.run_bind,run_underlying hu,Result.andThen_ok]
    rw[← Array.forIn_toList]
    generalize fs.toList=L at each
    induction L with
    | nil=>simp
    | cons f L ihL=>
     obtain ⟨e1,e2,e3,kf,e4⟩:=each f (by simp)
     obtain ⟨v,p1,p2⟩:=part_sound (zs:=xs) e4 e2 (off:=f.offset) (by rw[hx.len];exact e3) hx.size hx.vr
     have p3:=ih f.type v kf _ e4 p2
     simp only[List.forIn_cons,Sem.run_bind,e1,ne_eq,not_false_eq_true,if_true,Result.andThen_ok,p1,p3,Sem.run_pure]
     simpa using ihL (fun y hy=>each y (by simp[hy]))
   ·cases ht
  ·rename_i m e hu
   split at ht
   ·rename_i hc
    simp only[Option.map_eq_some_iff]at ht
    obtain ⟨k,hk,rfl⟩:=ht
    obtain ⟨xs,rfl⟩:=hx.form.2 ⟨_,hu,rfl⟩
    obtain ⟨inf,hinf⟩:=Option.isSome_iff_exists.1 hc.2
    simp only[Sem.run_bind,run_underlying hu,Result.andThen_ok]
    simp only[Std.Legacy.Range.forIn_eq_forIn_range',Std.Legacy.Range.size,Nat.sub_zero,Nat.add_one_sub_one,Nat.div_one]
    have each:∀ j∈List.range' 0 m,(j+1) * a0n P e≤cs.length:=fun j hj=>by
     rw[List.mem_range'_1]at hj
     rw[hx.len,hc.1]
     exact Nat.mul_le_mul_right _ (by omega)
    generalize List.range' 0 m=L at each
    induction L with
    | nil=>simp
    | cons j L ihL=>
     have hj:=each j (by simp)
     obtain ⟨v,p1,p2⟩:=part_sound (zs:=xs) hk hc.2 (off:=j * a0n P e) (by rw[Nat.add_mul,Nat.one_mul]at hj;exact hj) hx.size hx.vr
     have p3:=ih e v k _ hk p2
     have hce:P.cellsOf e=a0n P e:=rfl
     simp only[List.forIn_cons,Sem.run_bind,run_sizeOf W hinf,hce,Result.andThen_ok,p1,p3,Sem.run_pure]
     simpa using ihL (fun y hy=>each y (by simp[hy]))
   ·cases ht
  ·cases ht
theorem same_now{kt:TypeId}{ks:List Kd}{ag:Bool}{x y:Value}{a b:AV}{r:Bool}{d:TypeDesc}(hk:a9p P kt=some (ks,ag))(hd:P.underlying kt=some d)(hx:VR W U x a)(hy:VR W U y b)(he:a4x ks ag a b=some r):
  Instr.sameNow d x y=none∨Instr.sameNow d x y=some r:=by
 obtain ⟨d',hd',hag,hks⟩:=keyB_cases hk
 rw[hd]at hd';cases hd'
 unfold a4x at he
 split at he
 ·cases hx
  left
  cases d<;>simp[Instr.sameNow]
 ·obtain ⟨l1,_⟩:=a6k he
  have l1:ks.length=1:=by simpa using l1.symm
  match ks,l1 with
  | [k],_=>
   have he1:eq1 k a b=some r:=by
    simp only[eqC]at he
    split at he
    ·rename_i u v q1 q2
     simp only[Option.some.injEq]at q2 he
     subst q2 he
     rw[q1];simp
    ·cases he
   unfold eq1 at he1
   split at he1
   ·rw[hx.int_inv,hy.int_inv]
    cases d<;>first|(left;rfl)|skip
    right
    split at he1
    ·rename_i e
     simp only[Instr.sameNow,if_pos e]
     rw[← he1];rfl
    ·cases he1
   ·rw[hx.bool_inv,hy.bool_inv]
    cases d<;>first|(left;rfl)|skip
    right
    simp only[Instr.sameNow]
    rw[← he1,a9M]
   ·rw[hx.str_inv,hy.str_inv]
    cases d<;>first|(left;rfl)|skip
    right
    simp only[Instr.sameNow]
    rw[← he1]
    congr 1
    rw[beq_toListBytes,a3p,a3p,a7D]
   ·cases he1
 ·cases he
theorem find_sound{kt:TypeId}{ks:List Kd}{ag:Bool}(hk:a9p P kt=some (ks,ag)){d:TypeDesc}(hd:P.underlying kt=some d){x:Value}{a:AV}(hx:VR W U x a):∀ (es:List MapEntry) (kl:List AV) (i:Nat) (f:Option Nat),es.length=kl.length→
  (∀ (j:Nat) (e:MapEntry) (c:AV),es[j]?=some e→kl[j]?=some c→VR W U e.key c)→a8D ks ag a kl i=some f→
  (Instr.findNow d x es i=none∨Instr.findNow d x es i=some (f.map fun j=>(j,(es.getD (j - i) default).val)))∧(Instr.findAsking kt x es i).run P W=.ok (f.map fun j=>(j,(es.getD (j - i) default).val)) W∧
   ∀ j,f=some j→i≤j∧j - i<es.length∧(es.getD (j - i) default).key=x∧Instr.sameBits 10000 x x=true
 | [],[],i,f,_,_,hf=>by
  simp only[a8D,Option.some.injEq]at hf
  subst hf
  exact ⟨.inr rfl,by simp[Instr.findAsking],fun j hj=>by cases hj⟩
 | e::es,c::kl,i,f,hl,hv,hf=>by
  have hc:=hv 0 e c rfl rfl
  simp only[a8D]at hf
  split at hf
  ·rename_i he
   simp only[Option.some.injEq]at hf
   subst hf
   obtain ⟨⟨cs,ds,c1,c2,c3⟩,hsame,hb⟩:=key_cells hk hx hc he
   obtain ⟨_,_,_,hks⟩:=keyB_cases hk
   have hrun:=a1F 8 10000 (by omega) kt _ _ ks cs ds true hks c1 c2 c3
   refine ⟨?_, ?_,fun j hj=>?_⟩
   ·rcases same_now hk hd hx hc he with h1|h1
    ·exact .inl (by simp only[Instr.findNow,h1])
    ·exact .inr (by simp only[Instr.findNow,h1];simp)
   ·simp only[Instr.findAsking,show Op.equal kt x e.key=Op.equalIn 10000 kt x e.key from rfl,Sem.run_bind,hrun]
    simp
   ·cases hj
    exact ⟨Nat.le_refl _,by simp,by simpa using (hsame rfl).symm,hb⟩
  ·rename_i he
   obtain ⟨⟨cs,ds,c1,c2,c3⟩,hsame,hb⟩:=key_cells hk hx hc he
   obtain ⟨_,_,_,hks⟩:=keyB_cases hk
   have hrun:=a1F 8 10000 (by omega) kt _ _ ks cs ds false hks c1 c2 c3
   obtain ⟨g1,g2,g3⟩:=find_sound hk hd hx es kl (i+1) f (by simpa using hl) (fun j e c h1 h2=>hv (j+1) e c (by simpa using h1) (by simpa using h2)) hf
   have hres:(f.map fun j=>(j,((e::es).getD (j - i) default).val))=f.map fun j=>(j,(es.getD (j - (i+1)) default).val):=by
    cases f with
    | none=>rfl
    | some j=>
     have:=(g3 j rfl).1
     have e1:j - i=(j - (i+1))+1:=by omega
     simp only[Option.map_some,e1,List.getD_cons_succ]
   rw[hres]
   refine ⟨?_, ?_,fun j hj=>?_⟩
   ·rcases same_now hk hd hx hc he with h1|h1
    ·exact .inl (by simp only[Instr.findNow,h1])
    ·simp only[Instr.findNow,h1]
     exact g1
   ·simp only[Instr.findAsking,show Op.equal kt x e.key=Op.equalIn 10000 kt x e.key from rfl,Sem.run_bind,hrun]
    simpa using g2
   ·obtain ⟨q1,q2,q3,q4⟩:=g3 j hj
    have e1:j - i=(j - (i+1))+1:=by omega
    refine ⟨by omega,by simp;omega, ?_,q4⟩
    rw[e1,List.getD_cons_succ];exact q3
  ·cases hf
 | [],_::_,_,_,h,_,_=>by simp at h
 | _::_,[],_,_,h,_,_=>by simp at h
theorem findKey_sound{kt:TypeId}{ks:List Kd}{ag:Bool}(hk:a9p P kt=some (ks,ag)){x:Value}{a:AV}(hx:VR W U x a){es:List MapEntry}{kl:List AV}{f:Option Nat}(hl:es.length=kl.length)
  (hv:∀ (j:Nat) (e:MapEntry) (c:AV),es[j]?=some e→kl[j]?=some c→VR W U e.key c) (hf:a8D ks ag a kl 0=some f):
  (Instr.findKey kt x es).run P W=.ok (f.map fun j=>(j,(es.getD j default).val)) W∧∀ j,f=some j→j<es.length∧(es.getD j default).key=x∧(Instr.keyThatStays (es.getD j default).key x).run P W=.ok x W:=by
 obtain ⟨d,hd,_,_⟩:=keyB_cases hk
 obtain ⟨h1,h2,h3⟩:=find_sound hk hd hx es kl 0 f hl hv hf
 simp only[Nat.sub_zero]at h1 h2 h3
 refine ⟨?_,fun j hj=>?_⟩
 ·simp only[Instr.findKey,Sem.run_bind,run_underlying hd,Result.andThen_ok]
  rcases h1 with h1|h1
  ·rw[h1];exact h2
  ·rw[h1];simp
 ·obtain ⟨_,q2,q3,q4⟩:=h3 j hj
  refine ⟨q2,q3, ?_⟩
  rw[q3]
  simp[Instr.keyThatStays,q4]
end
end
section
open Go.RowKit

def a5z(W:World)(b:Nat)(x:Obj):World:={ W with heap:=W.heap.setIfInBounds b x }
theorem setB_same{W:World}{b:Nat}(x:Obj)(h:b<W.heap.size):(a5z W b x).heap[b]?=some x:=by simp[a5z,h]
theorem setB_other{W:World}{b b':Nat}(x:Obj)(h:b'≠b):(a5z W b x).heap[b']?=W.heap[b']?:=by simp[a5z,Array.getElem?_setIfInBounds,Ne.symm h]
theorem cellsAt_of_cell{W:World}{b o:Nat}{v:Value}(h:W.cell? ⟨b,o,none⟩=some v):a0D W b:=by
 unfold World.cell? at h
 split at h
 ·rename_i cs ty fr e;exact ⟨cs,ty,fr,e⟩
 ·cases h
section
variable {P:Program} {N:Nat} {W0:World} {U0:Nat→Nat→Prop} {M:Nat→Prop} {a:Act} {W:World} {U:Nat→Nat→Prop} {s:St} {o:Oper} {r:AV}
theorem setB_keeps{b:Nat}(x:Obj)(hm:¬ a0D W b)(hU:U b 0):Keeps W U (a5z W b x) U:=by
 refine ⟨fun b' o' v hc hu=>?_,fun b' ty' hb'=>?_,fun b' es clk e hu=>⟨(setB_other x (by rintro rfl;exact hu hU)).trans e,hu⟩⟩
 ·have hne:b'≠b:=by rintro rfl;exact hm (cellsAt_of_cell hc)
  refine ⟨?_,hu⟩
  rw[World.cell?_of_block (w:=W) (a:=⟨b',o',none⟩) (setB_other x hne)]
  exact hc
 ·obtain ⟨c1,c3,c4⟩:=hb'
  have hne:b'≠b:=by rintro rfl;exact hm ⟨_,_,_,c4⟩
  exact ⟨c1,c3,(setB_other x hne).trans c4⟩
theorem Inv.setm(h:Inv N W0 U0 M a W U s){b:Nat}{cs cs':List AV}(hb:s.o b=some cs)(hnc:¬ a0D W b){x:Obj}(hR:ObR (a5z W b x) U b cs')(hno:∀ (j e sz:Nat) (els:List (List AV)),cs'[j]?≠some (.sl (some e) sz els)):
  Inv N W0 U0 M a (a5z W b x) U { s with o:=upd s.o b (some cs') }:=by
 obtain ⟨q1,q4,q5⟩:=h.ob b cs hb
 have hK:Keeps W U (a5z W b x) U:=setB_keeps x hnc (q4 0)
 have hcat:∀ {ℓ:Loc} {e sz:Nat} {els:List (List AV)},St.at { s with o:=upd s.o b (some cs') } ℓ=some (.sl (some e) sz els)→s.at ℓ=some (.sl (some e) sz els)∧cat a (a5z W b x) ℓ=cat a W ℓ:=by
  intro ℓ e sz els hl0
  cases ℓ with
  | t i=>exact ⟨hl0,rfl⟩
  | o b' j=>
   simp only[St.at,upd]at hl0
   by_cases hbb:b'=b
   ·subst hbb
    simp only[if_true,Option.bind_some]at hl0
    exact absurd hl0 (hno j e sz els)
   ·rw[if_neg hbb]at hl0
    refine ⟨hl0, ?_⟩
    simp only[cat,setB_other x hbb]
 refine ⟨h.sz,h.df, ?_,fun i v hv'=>(h.tv i v hv').keep hK, ?_, ?_, ?_, ?_⟩
 ·exact {
   os:=h.fr.os
   tape:=h.fr.tape
   output:=h.fr.output
   size:=by simpa[a5z]using h.fr.size
   block:=fun k hk hm=>by
    have hne:k≠b:=by rintro rfl;rcases q5 with q5|q5;omega;exact hm q5
    rw[setB_other x hne]
    exact h.fr.block k hk hm
   u:=h.fr.u
   keeps:=h.fr.keeps.trans hK
   g0:=h.fr.g0
   gm:=h.fr.gm }
 ·intro b' cs0 hb'
  simp only[upd]at hb'
  by_cases hbb:b'=b
  ·subst hbb
   simp only[if_true,Option.some.injEq]at hb'
   subst hb'
   exact ⟨hR,q4,q5⟩
  ·rw[if_neg hbb]at hb'
   obtain ⟨g1,g4,g5⟩:=h.ob b' cs0 hb'
   exact ⟨g1.move hK (setB_other x hbb),g4,g5⟩
 ·intro ℓ v hv'
  unfold Own1
  split
  ·rename_i e sz els
   obtain ⟨g1,g2⟩:=hcat hv'
   rw[g2]
   have:=h.ow ℓ _ g1
   simp only[Own1]at this
   rcases this with this | ⟨g,cap,cur,p1,p2,p3,p4⟩
   ·exact .inl this
   ·have hne:g≠b:=by
     rintro rfl
     have:=h.no ℓ e sz els g1 g (by rw[p1];rfl)
     rw[hb]at this
     cases this
    exact .inr ⟨g,cap,cur,p1,p2,p3.move (setB_other x hne),p4⟩
  ·trivial
 ·intro ℓ ℓ' e sz els e' sz' els' hne h1 h2
  obtain ⟨g1,g2⟩:=hcat h1
  obtain ⟨g3,g4⟩:=hcat h2
  rw[g2,g4]
  exact h.ap ℓ ℓ' _ _ _ _ _ _ hne g1 g3
 ·intro ℓ e sz els h1 g hg
  obtain ⟨g1,g2⟩:=hcat h1
  rw[g2]at hg
  have h3:=h.no ℓ e sz els g1 g hg
  simp only[upd]
  by_cases hgb:g=b
  ·subst hgb
   rw[hb]at h3
   cases h3
  ·rw[if_neg hgb]
   exact h3
theorem Inv.newm(h:Inv N W0 U0 M a W U s){x:Obj}{cs:List AV}(hR:ObR (W.alloc x) (fun k i=>if k=W.heap.size then True else U k i) W.heap.size cs)(hno:∀ (j e sz:Nat) (els:List (List AV)),cs[j]?≠some (.sl (some e) sz els)):
  Inv N W0 U0 M a (W.alloc x) (fun k i=>if k=W.heap.size then True else U k i) { s with o:=upd s.o W.heap.size (some cs) }:=by
 have hE:=Ext.alloc W U x (fun _=>True)
 have h1:=h.ext hE
 have hnone:s.o W.heap.size=none:=by
  cases hs:s.o W.heap.size with
  | none=>rfl
  | some c=>have:=h.ob_lt _ _ hs;omega
 have hat:∀ {ℓ:Loc} {e sz:Nat} {els:List (List AV)},St.at { s with o:=upd s.o W.heap.size (some cs) } ℓ=some (.sl (some e) sz els)→s.at ℓ=some (.sl (some e) sz els):=by
  intro ℓ e sz els hl'
  cases ℓ with
  | t i=>exact hl'
  | o b j=>
   simp only[St.at,upd]at hl'
   by_cases hb:b=W.heap.size
   ·subst hb
    simp only[if_true,Option.bind_some]at hl'
    exact absurd hl' (hno j e sz els)
   ·rw[if_neg hb]at hl'
    exact hl'
 refine ⟨h1.sz,h1.df,h1.fr,h1.tv, ?_, ?_, ?_, ?_⟩
 ·intro b cs0 hb
  simp only[upd]at hb
  by_cases hbb:b=W.heap.size
  ·subst hbb
   simp only[if_true,Option.some.injEq]at hb
   subst hb
   exact ⟨hR,fun o=>by simp,.inl h.fr.size⟩
  ·rw[if_neg hbb]at hb
   exact h1.ob b cs0 hb
 ·intro ℓ v hv'
  unfold Own1
  split
  ·exact h1.ow ℓ _ (hat hv')
  ·trivial
 ·intro ℓ ℓ' e sz els e' sz' els' hne h2 h3
  exact h1.ap ℓ ℓ' _ _ _ _ _ _ hne (hat h2) (hat h3)
 ·intro ℓ e sz els h2 g hg
  have hs:=hat h2
  have:=h1.no ℓ e sz els hs g hg
  simp only[upd]
  by_cases hgb:g=W.heap.size
  ·exfalso
   rw[cat_ext hE.b h.ob_lt hs]at hg
   have h5:=h.ow ℓ _ hs
   simp only[Own1]at h5
   have:=h5.lt hg
   omega
  ·rw[if_neg hgb]
   exact this
theorem Inv.mapR(h:Inv N W0 U0 M a W U s){b:Nat}{kl vl:List AV}{bs:List Nat}{clk:Nat}(hb:s.o b=some [.mp kl vl bs clk]):
  (∃ es:Array MapEntry,W.heap[b]?=some (.map es clk)∧es.size=kl.length∧vl.length=kl.length∧bs.length=kl.length∧bs.Pairwise (· < ·)∧(∀ x∈bs,x<clk)∧
   ∀ (i:Nat) (e:MapEntry),es[i]?=some e→(∀ k,kl[i]?=some k→VR W U e.key k)∧(∀ v,vl[i]?=some v→VR W U e.val v)∧∀ n,bs[i]?=some n→e.born=n)∧¬ a0D W b:=by
 obtain ⟨h1,_,_⟩:=h.ob b _ hb
 obtain ⟨es,h2,h3⟩:=h1
 refine ⟨⟨es,h2,h3⟩, ?_⟩
 rintro ⟨c1,c2,c3,c4⟩
 rw[h2]at c4;cases c4
theorem Inv.mapv(h:Inv N W0 U0 M a W U s){m:Operand}{X:Opd}{b:Nat}(hm:a0j m=some X)(hx:X.ev s=some (.mapv b)):a.eval m=.map (some b):=by
 have:=a0a h hm hx
 generalize a.eval m=v at this
 cases this;rfl
theorem zeroAV_sound{e:TypeId}{z:AV}(hz:a7z P e=some z):∃ zv,(zeroValue e).run P W=.ok zv W∧VR W U zv z∧z.alias=z:=by
 unfold a7z at hz
 have run:∀ {v:Value},(P.info? e).bind (·.zero)=some v→(zeroValue e).run P W=.ok v W:=by
  intro v hv
  simp only[Option.bind_eq_some_iff]at hv
  obtain ⟨i,h1,h2⟩:=hv
  simp[zeroValue,typeInfo,h1,h2]
 split at hz
 ·rename_i xs z' h1 h2
  simp only[Option.some.injEq]at hz
  subst hz
  obtain ⟨i,zv,g1,g2,g3⟩:=zeroOf_spec h2
  rw[g1,Option.bind_some,g2]at h1
  cases h1
  obtain ⟨q1,q2⟩:=zVRs_get g3
  refine ⟨_,run (by rw[g1,Option.bind_some,g2]), ?_,rfl⟩
  have:(Value.agg xs)=.agg xs.toList.toArray:=by simp
  rw[this]
  refine .agg _ _ (by simpa[Value.cells]using q1) (fun j v c hv hc=>?_) (fun v hv=>?_)
  ·rw[List.getElem?_map,Option.map_eq_some_iff]at hc
   obtain ⟨c',hc,rfl⟩:=hc
   exact (zVR_sound (q2 j v c' (by simpa[Value.cells]using hv) hc) W U).1.alias
  ·obtain ⟨j,hj⟩:=List.mem_iff_getElem?.1 hv
   have hlt:j<z'.length:=by
    have:=(List.getElem?_eq_some_iff.1 hj).1
    simp[Value.cells]at q1
    simp at this;omega
   exact (zVR_sound (q2 j v _ (by simpa[Value.cells]using hj) (List.getElem?_eq_getElem hlt)) W U).2.1
 ·rename_i v c _ h1 h2
  split at hz
  ·rename_i ho
   simp only[Option.some.injEq]at hz
   subst hz
   obtain ⟨i,zv,g1,g2,g3⟩:=zeroOf_spec h2
   rw[g1,Option.bind_some,g2]at h1
   cases h1
   have hc:v.cells = #[v]:=by
    revert ho
    cases v<;>simp[Value.oneCell',Value.cells]
   obtain ⟨q1,q2⟩:=zVRs_get g3
   rw[hc]at q2
   refine ⟨v,run (by rw[g1,Option.bind_some,g2]),(zVR_sound (q2 0 v c rfl rfl) W U).1.alias, ?_⟩
   cases c<;>rfl
  ·cases hz
 ·cases hz
theorem getD_get{α:Type}{l:List α}{i:Nat}{d:α}(h:i<l.length):l[i]?=some (l.getD i d):=by
 rw[List.getElem?_eq_getElem h,List.getD,List.getElem?_eq_getElem h];rfl
theorem arr_getD{es:Array MapEntry}{i:Nat}(h:i<es.size):es[i]?=some (es.toList.getD i default):=by
 rw[← Array.getElem?_toList];exact getD_get (by simpa using h)
theorem VR.tup2{v u:Value}{c d:AV}(h1:VR W U v c)(h2:VR W U u d):VR W U (.tuple #[v,u]) (.tup [c,d]):=by
 have:(Value.tuple #[v,u])=.tuple [v,u].toArray:=rfl
 rw[this]
 refine .tup _ _ rfl fun i x y hx hy=>?_
 match i with
 | 0=>simp at hx hy;subst hx hy;exact h1
 | 1=>simp at hx hy;subst hx hy;exact h2
 | i+2=>simp at hx
theorem findM_sound{kt:TypeId}{ks:List Kd}{ag:Bool}(hk:a9p P kt=some (ks,ag)){x:Value}{a:AV}(hx:VR W U x a){es:List MapEntry}{kl:List AV}{f:Option Nat}(hl:es.length=kl.length)
  (hv:∀ (j:Nat) (e:MapEntry) (c:AV),es[j]?=some e→kl[j]?=some c→VR W U e.key c) (hf:a0S ks ag a kl=some f):
  (∀ em,(Instr.checkKey em 10000 kt x).run P W=.ok () W)∧(Instr.findKey kt x es).run P W=.ok (f.map fun j=>(j,(es.getD j default).val)) W∧∀ j,f=some j→j<es.length∧(es.getD j default).key=x∧(Instr.keyThatStays (es.getD j default).key x).run P W=.ok x W:=by
 simp only[a0S,Option.bind_eq_some_iff]at hf
 obtain ⟨r,h1,h2⟩:=hf
 obtain ⟨⟨cs,ds,c1,_⟩,_⟩:=key_cells hk hx hx h1
 obtain ⟨_,_,_,hks⟩:=keyB_cases hk
 exact ⟨fun em=>a3Q em 8 10000 (by omega) kt x ks cs hks c1,findKey_sound hk hx hl hv h2⟩
theorem c0d(h:Inv N W0 U0 M a W U s){t k e:TypeId}{m x:Operand}{ok ag:Bool}{ks:List Kd}{z:AV}{X Y:Opd}(ho:o.op=.lookup t m x ok)(ht:P.underlying t=some (.map k e))(hm:a0j m=some X)(hx:a0j x=some Y)(hk:a9p P k=some (ks,ag))(hz:a7z P e=some z)
  (hr:opR P s (.mq z ok ks ag X Y) r):VOK P a o W U r:=by
 obtain ⟨p,q,hp,hq,hr⟩:=hr
 have hkx:=a0a h hx hq
 obtain ⟨zv,z1,z2,z3⟩:=zeroAV_sound (W:=W) (U:=U) hz
 obtain ⟨b,es,clk,kl,vl,f,hmv,g1,g2,g3,hkey,hval,hf,rfl⟩ | ⟨hmv,hf,rfl⟩:(∃ (b:Nat) (es:Array MapEntry) (clk:Nat) (kl vl:List AV) (f:Option Nat),a.eval m=.map (some b)∧W.heap[b]?=some (.map es clk)∧es.size=kl.length∧vl.length=kl.length∧
   (∀ (j:Nat) (en:MapEntry) (c:AV),es.toList[j]?=some en→kl[j]?=some c→VR W U en.key c)∧(∀ (j:Nat) (en:MapEntry) (c:AV),es[j]?=some en→vl[j]?=some c→VR W U en.val c)∧a0S ks ag q kl=some f∧
   r=(match f with
    | some i=>if ok then .tup [vl.getD i .undef,.bool true] else (vl.getD i .undef).alias
    | none=>if ok then .tup [z,.bool false] else z.alias))∨(a.eval m=.map none∧a0S ks ag q []=some none∧r=(if ok then .tup [z,.bool false] else z.alias)):=by
  cases p<;>try exact hr.elim
  ·obtain ⟨kl,vl,bs,clk,f,hb,hf,rfl⟩:=hr
   obtain ⟨⟨es,g1,g2,g3,g4,g5,g6,g7⟩,hnc⟩:=h.mapR hb
   exact .inl ⟨_,es,clk,kl,vl,f,h.mapv hm hp,g1,g2,g3,fun j en c h1 h2=>(g7 j en (by rw[← Array.getElem?_toList];exact h1)).1 c h2,fun j en c h1 h2=>(g7 j en h1).2.1 c h2,hf,rfl⟩
  ·obtain ⟨hf,rfl⟩:=hr
   refine .inr ⟨?_,hf,rfl⟩
   have:=a0a h hm hp
   generalize a.eval m=v at this
   cases this;rfl
  ·obtain ⟨f,hf,rfl⟩:=hr
   have:=a0a h hm hp
   generalize a.eval m=v at this
   cases this with
   | rom b es clk _ _ hh hu h1 h2 hk hv=>exact .inl ⟨b,es,clk,_,_,f,rfl,hh,h1,h2,fun j en c e1 e2=>hk j en c (by rw[← Array.getElem?_toList];exact e1) e2,hv,hf,rfl⟩
 rotate_left
 ·obtain ⟨hchk,r1,r2⟩:=findM_sound hk hkx (es:=[]) (kl:=[]) rfl (fun j en c h1=>by simp at h1) hf
  have hchk:=hchk true
  have hrun:(execOp a.eval o).run P W=.ok (.value (if ok then .tuple #[zv,.bool false] else zv)) W:=by
   simp only[execOp,ho,hmv]
   simp only[Option.map_none]at r1
   cases ok<;>simp[Instr.lookup,run_underlying ht,hchk,r1,z1,Result.andThen]
  cases ok with
  | true=>exact VOK.same hrun (z2.tup2 (.bool false)) (by simp)
  | false=>exact VOK.same hrun (by simpa[z3]using z2) (by intro e' sz els;rw[if_neg (by decide)];exact a0m z e' sz els)
 obtain ⟨hchk,r1,r2⟩:=findM_sound hk hkx (es:=es.toList) (by simpa using g2) hkey hf
 have hchk:=hchk es.isEmpty
 have hrun:(execOp a.eval o).run P W=.ok (.value (match f with
   | some j=>if ok then .tuple #[(es.toList.getD j default).val,.bool true] else (es.toList.getD j default).val
   | none=>if ok then .tuple #[zv,.bool false] else zv)) W:=by
  simp only[execOp,ho,hmv]
  cases f with
  | none=>cases ok<;>simp[Instr.lookup,run_underlying ht,MapKept.run_getObj_map g1,hchk,r1,z1,Result.andThen]
  | some j=>cases ok<;>simp[Instr.lookup,run_underlying ht,MapKept.run_getObj_map g1,hchk,r1,Result.andThen]
 cases f with
 | none=>
  cases ok with
  | true=>exact VOK.same hrun (z2.tup2 (.bool false)) (by simp)
  | false=>exact VOK.same hrun (by simpa[z3]using z2) (by intro e' sz els;rw[if_neg (by decide)];exact a0m z e' sz els)
 | some j=>
  obtain ⟨q1,q2,_⟩:=r2 j rfl
  have hjl:j<vl.length:=by simp at q1;omega
  have hv:=hval j _ _ (arr_getD (by simpa using q1)) (getD_get (d:=.undef) hjl)
  cases ok with
  | true=>exact VOK.same hrun (hv.tup2 (.bool true)) (by simp)
  | false=>exact VOK.same hrun hv.alias (fun e' sz els=>a0m _ e' sz els)
end
end
end Go.Proofs.YtfgihnhoocnmdaaGreatDoor
