import Derived.Test.YtfgihnhoocnmdaaGreatDoorJ3
namespace Go.Proofs.YtfgihnhoocnmdaaGreatDoor
set_option linter.all false
set_option maxHeartbeats 64000000
set_option maxRecDepth 100000
open Go.RowKit
theorem XL(a:AV):CG a.cells=none:=by
 cases a<;>try rfl
 rename_i cs
 cases cs with
 | nil=>rfl
 | cons c cs=>cases c<;>rfl
theorem Pa{cs vs:List AV}{off u:Nat}(hv:CG vs=none)(h:CG (splice cs off vs)=some u):CG cs=some u:=by
 cases off with
 | zero=>
  cases vs with
  | nil=>cases cs<;>exact h
  | cons v vs=>
   cases cs with
   | nil=>exact h
   | cons c cs=>
    rw[splice]at h
    cases v<;>first|(simp[CG]at h;done)|(simp[CG]at hv;done)
 | succ n=>
  cases cs with
  | nil=>exact h
  | cons c cs=>
   rw[splice]at h
   cases c<;>first|exact h|(simp[CG]at h;done)
section
variable {P:Program} {N:Nat} {W0:World} {U0:Nat→Nat→Prop} {M:Nat→Prop} {a:Act} {W W':World} {U U':Nat→Nat→Prop} {s:St} {o:Oper} {r:AV}

theorem Inv.seto(h:Inv N W0 U0 M a W U s){b:Nat}{cs cs':List AV}{vs vs':Array Value}{ty:TypeId}(hb:s.o b=some cs)(hh:W.heap[b]?=some (.cells vs ty (0,0)))(hl:cs'.length=cs.length)(hl':vs'.size=vs.size)
  (hv:∀ (j:Nat) (c:AV),cs'[j]?=some c→VR W U (vs'.getD j undef) c∧(vs'.getD j undef).oneCell'=true)
  (hty:∀ u,CG cs'=some u→CG cs=some u)
  (hown:∀ (j e sz:Nat) (els:List (List AV)),cs'[j]?=some (.sl (some e) sz els)→cs[j]?=some (.sl (some e) sz els)∧vs'.getD j undef=vs.getD j undef):
  Inv N W0 U0 M a (W.setRow b vs') U { s with o:=upd s.o b (some cs') }:=by
 obtain ⟨vs0,ty0,q1,q2,q3,q4,q5⟩:=h.obc hb ⟨_,_,_,hh⟩
 rw[hh]at q1
 cases q1
 have hnew:=setRow_heap W b vs vs' _ (0,0) hh
 have hK:Keeps W U (W.setRow b vs') U:=by
  refine ⟨fun b' o' v hc hu=>?_,fun b' ty' hb'=>?_,fun b' es' clk' e' hu=>by
   have hne:b'≠b:=by rintro rfl;exact hu (q4 0)
   exact ⟨(setRow_other W b b' _ hne).trans e',hu⟩⟩
  ·have hne:b'≠b:=by rintro rfl;exact hu (q4 o')
   refine ⟨?_,hu⟩
   rw[World.cell?_of_block (w:=W) (a:=⟨b',o',none⟩) (setRow_other W b b' _ hne)]
   exact hc
  ·by_cases hne:b'=b
   ·subst hne
    obtain ⟨c1,c3,c4⟩:=hb'
    have e4:=hh.symm.trans c4
    cases e4;exact ⟨_,_,hnew⟩
   ·obtain ⟨c1,c3,c4⟩:=hb'
    exact ⟨c1,c3,(setRow_other W b b' _ hne).trans c4⟩
 have hcat:∀ {ℓ:Loc} {e sz:Nat} {els:List (List AV)},St.at { s with o:=upd s.o b (some cs') } ℓ=some (.sl (some e) sz els)→s.at ℓ=some (.sl (some e) sz els)∧AQ a (W.setRow b vs') ℓ=AQ a W ℓ:=by
  intro ℓ e sz els hl0
  cases ℓ with
  | t i=>exact ⟨hl0,rfl⟩
  | o b' j=>
   simp only[St.at,upd]at hl0
   by_cases hbb:b'=b
   ·subst hbb
    simp only[Bo,CY]at hl0
    obtain ⟨g1,g2⟩:=hown j e sz els hl0
    refine ⟨by simp[St.at,hb,g1], ?_⟩
    simp only[AQ,hnew,hh]
    exact g2
   ·rw[Ad hbb]at hl0
    refine ⟨hl0, ?_⟩
    simp only[AQ,setRow_other W b b' _ hbb]
 refine ⟨h.sz,h.df, ?_,fun i v hv'=>(h.tv i v hv').keep hK, ?_, ?_, ?_, ?_⟩
 ·exact {
   os:=h.fr.os
   tape:=h.fr.tape
   output:=h.fr.output
   size:=by simpa using h.fr.size
   block:=fun k hk hm=>by
    have hne:k≠b:=by rintro rfl;rcases q5 with q5|q5;omega;exact hm q5
    rw[setRow_other W b k _ hne]
    exact h.fr.block k hk hm
   u:=h.fr.u
   keeps:=h.fr.keeps.trans hK
   g0:=h.fr.g0
   gm:=h.fr.gm }
 ·intro b' cs0 hb'
  simp only[upd]at hb'
  by_cases hbb:b'=b
  ·subst hbb
   simp only[Bo,Az]at hb'
   subst hb'
   exact ⟨ObR.of ⟨vs',⟨ty0.1,fun u hu=>ty0.2 u (hty u hu)⟩,hnew,by omega,fun j c hc=>⟨(hv j c hc).1.keep hK,(hv j c hc).2⟩⟩,q4,q5⟩
  ·rw[Ad hbb]at hb'
   obtain ⟨g1,g4,g5⟩:=h.ob b' cs0 hb'
   exact ⟨g1.move hK (setRow_other W b b' _ hbb),g4,g5⟩
 ·intro ℓ v hv'
  unfold Own1
  split
  ·rename_i e sz els
   obtain ⟨g1,g2⟩:=hcat hv'
   rw[g2]
   have:=h.ow ℓ _ g1
   simp only[Own1]at this
   rcases this with this | ⟨g,cap,cur,p1,p2,p3,p4⟩
   ·exact .inl this
   ·have hne:g≠b:=by
     rintro rfl
     have:=h.no ℓ e sz els g1 g (by rw[p1];rfl)
     rw[hb]at this
     cases this
    exact .inr ⟨g,cap,cur,p1,p2,p3.move (setRow_other W b g _ hne),p4⟩
  ·trivial
 ·intro ℓ ℓ' e sz els e' sz' els' hne h1 h2
  obtain ⟨g1,g2⟩:=hcat h1
  obtain ⟨g3,g4⟩:=hcat h2
  rw[g2,g4]
  exact h.ap ℓ ℓ' _ _ _ _ _ _ hne g1 g3
 ·intro ℓ e sz els h1 g hg
  obtain ⟨g1,g2⟩:=hcat h1
  rw[g2]at hg
  have h3:=h.no ℓ e sz els g1 g hg
  simp only[upd]
  by_cases hgb:g=b
  ·subst hgb
   rw[hb]at h3
   cases h3
  ·rw[Ad hgb]
   exact h3

theorem b1N(h:Inv N W0 U0 M a W U s){t:TypeId}{n:Nat}{x v:Operand}{X V:Opd}{no:Option Nat}(ho:o.op=.store t x v)(hod:o.dst=none)(hsz:(P.info? t).map (·.size)=some n)(hno:no.getD 1=n)(hn0:0<n)(hx:Au x=some X)(hv:HQ P t v=some V)
  (hr:AU P s (.sto no X V) r) {next:Act→World→Prop} {Q:Exit→Act→World→Prop}
  (hn:∀ a' W' U',Inv N W0 U0 M a' W' U' (B6 none (.sto no X V) r s)→next a' W'):o.wp P a W next Q:=by
 obtain ⟨b,off,c,cs,h1,h2,h3,h4,h5,rfl⟩:=hr
 have hpx:=AW h hx h1
 have hpv:=M8 h hv h2
 obtain ⟨vs,ty,q1,q2,q3,q4,q5⟩:=h.obc h3 hpx.ptr_at
 obtain ⟨w1,w2⟩:=Ng hpv (.inl (by omega))
 have hadr:a.eval x=.pointer (some ⟨b,off,none⟩):=by
  generalize a.eval x=val at hpx
  cases hpx
  rfl
 have hone:∀ u∈(a.eval v).cells.toList,u.oneCell'=true:=by
  intro u hu
  obtain ⟨k,hk⟩:=Iq.1 hu
  exact (w2 k u (by simpa using hk)).1
 have hst:=run_storeCells_at P b off ty (a.eval v).cells.toList 0 vs W q1 (by rw[EU];omega) hone
 have hrun:(execOp a.eval o).run P W=.ok .skip (W.setRow b (vs.toList.take (off+0)++(a.eval v).cells.toList++vs.toList.drop (off+0+(a.eval v).cells.toList.length)).toArray):=by
  cases hi:P.info? t with
  | none=>simp[hi]at hsz
  | some i=>
   have hin:i.size=n:=by simpa[hi]using hsz
   have Ae:¬ (a.eval v).cells.size≠i.size:=by omega
   simp only[execOp,ho,Instr.storeAt,hadr,Instr.sureAddr,Sem.run_bind,Sem.run_pure,Result.andThen_ok,storeVar,sizeOf,typeInfo,run_program,hi,Sem.run_ite,Ae,BV,hst]
 unfold Oper.wp
 rw[hrun,Oper.upon_skip,hod]
 refine hn _ _ U ?_
 have heff:B6 none (.sto no X V) .undef s={ s with o:=upd s.o b (some (splice cs off c.cells)) }:=by
  simp only[B6,h1,h2,h3,BE]
 rw[heff]
 have hcl:c.cells.length=(a.eval v).cells.size:=by omega
 have hgetv:∀ j,(vs.toList.take (off+0)++(a.eval v).cells.toList++vs.toList.drop (off+0+(a.eval v).cells.toList.length)).toArray.getD j undef=
   if off≤j∧j<off+(a.eval v).cells.size then (a.eval v).cells.getD (j - off) undef else vs.getD j undef:=by
  intro j
  have hoff:off≤vs.size:=by omega
  simp only[Nat.add_zero,EU,Cu,EW]
  by_cases hj1:j<off
  ·rw[Ad (by omega),DC,CB (by simp;omega),HM,Af hj1]
   simp
  ·by_cases hj2:j<off+(a.eval v).cells.size
   ·rw[Af (by omega),DC,Cj (by simp;omega),CB (by simp;omega)]
    congr 1
    simp
    congr 1
    omega
   ·rw[Ad (by omega),Cj (by simp;omega),CC]
    congr 1
    simp
    congr 1
    omega
 refine h.seto h3 q1 (Mr _ _ _ h5) ?_ (fun j y hy=>?_) (fun u hu=>Pa (XL _) hu) (fun j e sz els hj=>?_)
 ·simp
  omega
 ·rw[ER _ _ _ h5]at hy
  rw[hgetv]
  by_cases hj:off≤j∧j<off+c.cells.length
  ·rw[Af hj]at hy
   rw[Af (by omega)]
   have hk:j - off<(a.eval v).cells.size:=by omega
   have hg:(a.eval v).cells[j - off]?=some ((a.eval v).cells.getD (j - off) undef):=by simp[hk]
   exact ⟨((w2 _ _ hg).2 y hy).1,(w2 _ _ hg).1⟩
  ·rw[Ad hj]at hy
   rw[Ad (by omega)]
   exact q3 j y hy
 ·rw[ER _ _ _ h5]at hj
  by_cases hjj:off≤j∧j<off+c.cells.length
  ·rw[Af hjj]at hj
   exfalso
   have hk:j - off<(a.eval v).cells.size:=by omega
   have hg:(a.eval v).cells[j - off]?=some ((a.eval v).cells.getD (j - off) undef):=by simp[hk]
   exact ((w2 _ _ hg).2 _ hj).2 _ _ _ rfl
  ·rw[Ad hjj]at hj
   rw[hgetv,Ad (by omega)]
   exact ⟨hj,rfl⟩

theorem Inv.newo(h:Inv N W0 U0 M a W U s){vs:Array Value}{cs:List AV}{ty:TypeId}(hl:vs.size=cs.length)(hty:∀ u,CG cs=some u→ty=u)(hv:∀ (j:Nat) (u:Value),vs[j]?=some u→u.oneCell'=true∧∀ x,cs[j]?=some x→VR W U u x∧∀ e sz els,x=.sl (some e) sz els→u=.slice none 0 0∧els=[]):
  Inv N W0 U0 M a (W.alloc (.cells vs ty)) (fun k i=>if k=W.heap.size then True else U k i) { s with o:=upd s.o W.heap.size (some cs) }:=by
 have hE:=Ext.alloc W U (.cells vs ty) (fun _=>True)
 have h1:=h.ext hE
 have hnone:s.o W.heap.size=none:=by
  cases hs:s.o W.heap.size with
  | none=>rfl
  | some c=>have:=h.ob_lt _ _ hs;omega
 have hnew:=heap_alloc_new W (.cells vs ty)
 have hat:∀ {ℓ:Loc} {v:AV},St.at { s with o:=upd s.o W.heap.size (some cs) } ℓ=some v→s.at ℓ=some v∨∃ j,ℓ=.o W.heap.size j∧cs[j]?=some v:=by
  intro ℓ v hl'
  cases ℓ with
  | t i=>exact .inl hl'
  | o b j=>
   simp only[St.at,upd]at hl'
   by_cases hb:b=W.heap.size
   ·subst hb
    exact .inr ⟨j,rfl,by simpa using hl'⟩
   ·rw[Ad hb]at hl'
    exact .inl hl'
 have hget:∀ j c,cs[j]?=some c→vs[j]?=some (vs.getD j undef):=by
  intro j c hc
  have:j<cs.length:=(AM.1 hc).1
  have:j<vs.size:=by omega
  simp[this]
 have hcatn:∀ j,AQ a (W.alloc (.cells vs ty)) (.o W.heap.size j)=vs.getD j undef:=by
  intro j
  simp only[AQ,hnew]
 refine ⟨h1.sz,h1.df,h1.fr,h1.tv, ?_, ?_, ?_, ?_⟩
 ·intro b cs0 hb
  simp only[upd]at hb
  by_cases hbb:b=W.heap.size
  ·subst hbb
   simp only[Bo,Az]at hb
   subst hb
   refine ⟨ObR.of ⟨vs,⟨ty,hty⟩,hnew,hl,fun j c hc=>?_⟩,fun o=>by simp,.inl h.fr.size⟩
   have:=hv j _ (hget j c hc)
   exact ⟨(this.2 c hc).1.keep hE.keeps,this.1⟩
  ·rw[Ad hbb]at hb
   exact h1.ob b cs0 hb
 ·intro ℓ v hv'
  rcases hat hv' with hs | ⟨j,rfl,hc⟩
  ·exact h1.ow ℓ v hs
  ·rw[hcatn]
   unfold Own1
   split
   ·rename_i e sz els
    obtain ⟨g1,g2⟩:=((hv j _ (hget j _ hc)).2 _ hc).2 e sz els rfl
    exact .inl ⟨g1,by simp[g2]⟩
   ·trivial
 ·intro ℓ ℓ' e sz els e' sz' els' hne h2 h3 g hg
  rcases hat h2 with hs | ⟨j,rfl,hc⟩
  ·rcases hat h3 with hs' | ⟨j',rfl,hc'⟩
   ·exact h1.ap ℓ ℓ' _ _ _ _ _ _ hne hs hs' g hg
   ·rw[hcatn,((hv j' _ (hget j' _ hc')).2 _ hc').2 _ _ _ rfl |>.1]
    simp[Value.ownBlock]
  ·rw[hcatn,((hv j _ (hget j _ hc)).2 _ hc).2 _ _ _ rfl |>.1]at hg
   simp[Value.ownBlock]at hg
 ·intro ℓ e sz els h2 g hg
  rcases hat h2 with hs | ⟨j,rfl,hc⟩
  ·have:=h1.no ℓ e sz els hs g hg
   simp only[upd]
   by_cases hgb:g=W.heap.size
   ·exfalso
    rw[Jn hE.b h.ob_lt hs]at hg
    have h5:=h.ow ℓ _ hs
    simp only[Own1]at h5
    have:=h5.lt hg
    omega
   ·rw[Ad hgb]
    exact this
  ·rw[hcatn,((hv j _ (hget j _ hc)).2 _ hc).2 _ _ _ rfl |>.1]at hg
   simp[Value.ownBlock]at hg

theorem a0i(h:Inv N W0 U0 M a W U s){d:Option Nat}(hd:∀ j,d=some j→j<N)(hod:o.dst=d){vs:Array Value}{cs:List AV}{ty:TypeId}(hl:vs.size=cs.length)(hty:∀ u,CG cs=some u→ty=u)
  (hv:∀ (j:Nat) (u:Value),vs[j]?=some u→u.oneCell'=true∧∀ x,cs[j]?=some x→VR W U u x∧∀ e sz els,x=.sl (some e) sz els→u=.slice none 0 0∧els=[])
  (hrun:(execOp a.eval o).run P W=.ok (.value (.pointer (some ⟨W.heap.size,0,none⟩))) (W.alloc (.cells vs ty))) {K:St→Prop} (hK:NB s d cs K) {next:Act→World→Prop} {Q:Exit→Act→World→Prop}
  (hn:∀ a' W' U' s',Inv N W0 U0 M a' W' U' s'→K s'→next a' W'):o.wp P a W next Q:=by
 have hnone:s.o W.heap.size=none:=by
  cases hs:s.o W.heap.size with
  | none=>rfl
  | some c=>have:=h.ob_lt _ _ hs;omega
 unfold Oper.wp
 rw[hrun,Oper.upon_value,hod]
 exact hn _ _ _ _ ((h.newo hl hty hv).putO hd (.ptr _ _ ⟨_,_,_,heap_alloc_new W _⟩) fun j _=>Sole.plain (by simp)) (hK _ hnone)

theorem b1C(h:Inv N W0 U0 M a W U s){d:Option Nat}{t:TypeId}{z:List AV}(ho:o.op=.alloc t)(hd:∀ j,d=some j→j<N)(hod:o.dst=d)(hz:zeroOf P t=some z)(hh:(CG z).isNone=true){K:St→Prop}(hK:NB s d (I8 t z) K){next:Act→World→Prop}{Q:Exit→Act→World→Prop}
  (hn:∀ a' W' U' s',Inv N W0 U0 M a' W' U' s'→K s'→next a' W'):o.wp P a W next Q:=by
 obtain ⟨i,zv,hi,hzv,hzc⟩:=KX hz
 obtain ⟨hz1,hz2⟩:=KW hzc
 refine a0i h hd hod (vs:=zv.cells) (cs:=I8 t z) (ty:=t) (by rw[b3o];simpa using hz1) (b3n hh) (fun j u hu=>?_) ?_ hK hn
 ·have hj:j<z.length:=by
   have:=(BH.1 hu).1
   simp at hz1
   omega
  have:=hz2 j u z[j] (by simpa using hu) (Aw hj)
  obtain ⟨q1,q2,q3⟩:=Gs this W U
  refine ⟨q2,fun x hx=>?_⟩
  rcases b3m hx with hx' | ⟨hx',rfl⟩
  ·rw[Aw hj]at hx'
   cases hx'
   exact ⟨q1,q3⟩
  ·rw[Aw hj,Az]at hx'
   rw[hx']at q1
   refine ⟨?_,fun _ _ _ e=>by cases e⟩
   cases q1
   exact .nilT t
 ·simp[execOp,ho,Instr.alloc,zeroValue,typeInfo,hi,hzv,newVar,newRow]

theorem ZW{α:Type}(z:List α):∀ (m j:Nat),j<m * z.length→(List.replicate m z).flatten[j]?=z[j % z.length]?
 | 0,j,h=>by simp at h
 | m+1,j,h=>by
  rw[J7,List.flatten_cons]
  by_cases hj:j<z.length
  ·rw[CB hj,Nat.mod_eq_of_lt hj]
  ·have hj':z.length≤j:=by omega
   rw[Cj hj',ZW z m (j - z.length) (by rw[Nat.succ_mul]at h;omega),Nat.mod_eq_sub_mod hj']
theorem b1t(h:Inv N W0 U0 M a W U s){d:Option Nat}{t e sz:Nat}{x:Operand}{X:Opd}{z:List AV}{i:TypeInfo}(ho:o.op=.makeSlice t x x)(hd:∀ j,d=some j→j<N)(hod:o.dst=d)(ht:isSlice P t=some (e,sz))(hx:Au x=some X)
  (hz:zeroOf P e=some z) (hi:P.info? e=some i) (hzl:z.length=sz) (hpos:0<sz) (hh:(CG z).isNone=true) {K:St→Prop} (hK:∃ p,X.ev s=some p∧SP s d z i.bytes p K) {next:Act→World→Prop} {Q:Exit→Act→World→Prop}
  (hn:∀ a' W' U' s',Inv N W0 U0 M a' W' U' s'→K s'→next a' W'):o.wp P a W next Q:=by
 obtain ⟨p,hp,hK⟩:=hK
 cases p<;>try exact hK.elim
 rename_i k m
 obtain ⟨⟨hm0,hmx,hmb⟩,hK⟩:=hK
 obtain ⟨n,rfl⟩:=Int.eq_ofNat_of_zero_le hm0
 obtain ⟨i',hu,hi',hsz⟩:=LJ ht
 rw[hi]at hi'
 cases hi'
 obtain ⟨i',zv,hi',hzv,hzc⟩:=KX hz
 rw[hi]at hi'
 cases hi'
 obtain ⟨hz1,hz2⟩:=KW hzc
 have hxv:=(AW h hx hp).int_inv
 have hbytes:(i.bytes:Int) * (n:Int)≤281474976710656:=by
  rw[Int.mul_comm];omega
 have hrun0:=run_make (P:=P) W t e i zv hu hi hzv k k n n (by omega) (Int.le_refl _) hbytes (by omega)
 simp only[Dh]at hrun0
 have hzs:zv.cells.size=z.length:=by simpa using hz1
 have hl:(madeCells zv.cells (n * i.size)).size=((List.replicate n z).flatten).length:=by
  rw[size_madeCells,hsz, ← hzl]
  simp[List.length_flatten]
 have hv:∀ (j:Nat) (u:Value),(madeCells zv.cells (n * i.size))[j]?=some u→u.oneCell'=true∧∀ x,((List.replicate n z).flatten)[j]?=some x→VR W U u x∧∀ e sz els,x=.sl (some e) sz els→u=.slice none 0 0∧els=[]:=by
  intro j u hu'
  have hj:j<n * i.size:=by
   have:=(BH.1 hu').1
   rwa [size_madeCells]at this
  have hjz:j % z.length<z.length:=EE _ (by omega)
  have hu2:zv.cells.toList[j % z.length]?=some u:=by
   have:u=zv.cells[j % zv.cells.size]! := by
    simp[madeCells,hj]at hu'
    exact hu'.symm
   rw[this,hzs]
   simp[hzs,hjz]
  have hq:=hz2 _ u z[j % z.length] hu2 (Aw hjz)
  obtain ⟨q1,q2,q3⟩:=Gs hq W U
  refine ⟨q2,fun y hy=>?_⟩
  rw[ZW z n j (by rw[hzl, ← hsz];exact hj),Aw hjz]at hy
  cases hy
  exact ⟨q1,q3⟩
 have hnone:s.o W.heap.size=none:=by
  cases hs:s.o W.heap.size with
  | none=>rfl
  | some c=>have:=h.ob_lt _ _ hs;omega
 have hrun:(execOp a.eval o).run P W=.ok (.value (.slice (some ⟨W.heap.size,0,none⟩) n n)) (W.alloc (.cells (madeCells zv.cells (n * i.size)) e)):=by
  simp[execOp,ho,hxv,hrun0]
 unfold Oper.wp
 rw[hrun,Oper.upon_value,hod]
 have hmax:n≤maxLen:=by simp only[maxLen];omega
 have hty:∀ u,CG (List.replicate n z).flatten=some u→e=u:=by
  intro u hu
  cases n with
  | zero=>cases hu
  | succ n=>
   rw[J7,List.flatten_cons]at hu
   cases z with
   | nil=>simp at hzl;omega
   | cons c z=>cases c<;>first|(simp[CG]at hu;done)|(simp[CG]at hh;done)
 exact hn _ _ _ _ ((h.newo hl hty hv).putO hd (.osl W.heap.size 0 n n (A8 _) hmax ⟨_,_,_,heap_alloc_new W _⟩) fun j _=>Sole.plain (by simp)) (by simpa using hK _ hnone)

theorem b1c(h:Inv N W0 U0 M a W U s){d:Option Nat}{t:TypeId}{x:Operand}{X:Opd}(ho:o.op=.box t x)(hd:∀ j,d=some j→j<N)(hod:o.dst=d)(hx:Au x=some X){K:St→Prop}
  (hK:∃ v,X.ev s=some v∧(0<v.cells.length)∧NB s d v.cells K) {next:Act→World→Prop} {Q:Exit→Act→World→Prop}
  (hn:∀ a' W' U' s',Inv N W0 U0 M a' W' U' s'→K s'→next a' W'):o.wp P a W next Q:=by
 obtain ⟨v,hv,hp,hK⟩:=hK
 have hvr:=AW h hx hv
 obtain ⟨q1,q2⟩:=Ng hvr (.inl hp)
 refine a0i h hd hod (vs:=(a.eval x).cells) (cs:=v.cells) (ty:=t) q1 (fun u hu=>by rw[XL]at hu;cases hu) (fun j u hu=>⟨(q2 j u hu).1,fun y hy=>⟨((q2 j u hu).2 y hy).1,fun e sz els he=>absurd he (((q2 j u hu).2 y hy).2 e sz els)⟩⟩) ?_ hK hn
 simp[execOp,ho,Instr.box,newVar,newRow]
end
section
variable {P:Program} {N:Nat} {W0:World} {U0:Nat→Nat→Prop} {M:Nat→Prop} {a:Act} {W:World} {U:Nat→Nat→Prop} {s:St} {o:Oper} {r:AV}

theorem OwnRow.toB{B B':Nat→Prop}{v:Value}{e sz n:Nat}(h:OwnRow W U B v e sz n)(hb:∀ g,v.ownBlock=some g→B' g):OwnRow W U B' v e sz n:=by
 rcases h with h | ⟨g,cap,cur,rfl,_,h⟩
 ·exact .inl h
 ·exact .inr ⟨g,cap,cur,rfl,hb g rfl,h⟩
theorem OwnRow.inB{B:Nat→Prop}{v:Value}{e sz n g:Nat}(h:OwnRow W U B v e sz n)(hg:v.ownBlock=some g):B g:=by
 rcases h with ⟨rfl,_⟩ | ⟨g',cap,cur,rfl,hB,h⟩
 ·simp[Value.ownBlock]at hg
 ·simp[Value.ownBlock]at hg;subst hg;exact hB
theorem OwnRow.move{W':World}{U':Nat→Nat→Prop}{B:Nat→Prop}{v:Value}{e sz n:Nat}(h:OwnRow W U B v e sz n)(hb:∀ g,v.ownBlock=some g→g<W.heap.size→W'.heap[g]?=W.heap[g]?∧∀ o,U' g o↔U g o):OwnRow W' U' B v e sz n:=by
 rcases h with h | ⟨g,cap,cur,rfl,hB,hh,h1,h2,h3,h4,h5⟩
 ·exact .inl h
 ·obtain ⟨e1,e2⟩:=hb g rfl hh.lt
  exact .inr ⟨g,cap,cur,rfl,hB,hh.move e1,h1,h2,h3,fun o ho hu=>h4 o ho ((e2 o).1 hu),fun o ho=>(e2 o).2 (h5 o ho)⟩
theorem Inv.own(h:Inv N W0 U0 M a W U s){ℓ:Loc}{e sz:Nat}{els:List (List AV)}(hl:s.at ℓ=some (.sl (some e) sz els)):OwnRow W U (fun g=>W0.heap.size≤g∨M g) (AQ a W ℓ) e sz els.length:=h.ow ℓ _ hl

theorem M3{o1:Nat→Option (List AV)}{ℓ:Loc}{v:AV}(h:St.at ⟨fun _=>none,o1⟩ ℓ=some v):∃ b j,ℓ=.o b j:=by
 cases ℓ with
 | t i=>simp[St.at]at h
 | o b j=>exact ⟨b,j,rfl⟩
theorem It{o1:Nat→Option (List AV)}(ho:∀ b cs,o1 b=some cs→s.o b=some cs){ℓ:Loc}{v:AV}(h:St.at ⟨fun _=>none,o1⟩ ℓ=some v):s.at ℓ=some v:=by
 obtain ⟨b,j,rfl⟩:=M3 h
 simp only[St.at,F9]at h ⊢
 obtain ⟨cs,h1,h2⟩:=h
 exact ⟨cs,ho b cs h1,h2⟩

theorem Inv.hand(h:Inv N W0 U0 M a W U s){o1:Nat→Option (List AV)}(ho:∀ b cs,o1 b=some cs→s.o b=some cs):Inv 0 W U (CO W o1) { tmps := #[],defers:=[] } W U ⟨fun _=>none,o1⟩ where
 sz:=rfl
 df:=rfl
 fr:=⟨rfl,rfl,rfl,A8 _,fun _ _ _=>rfl,fun _ _ _ _=>Iff.rfl,Keeps.refl _ _,h.fr.glob,fun x hx hm=>by
  have hu:=(h.fr.glob x hx).2
  rcases hm with ⟨cs,Ae⟩ | ⟨b,j,e,sz,els,h1,h2⟩
  ·obtain ⟨_,h4,_⟩:=h.ob _ cs (ho _ cs Ae)
   exact hu 0 (h4 0)
  ·have hw:Own1 W U (fun g=>W0.heap.size≤g∨M g) (AQ a W (.o b j)) (.sl (some e) sz els):=h.ow _ _ (It ho h1)
   have hc:(AQ a W (.o b j)).ownBlock=some x.1:=h2
   rcases hw with ⟨e1,_⟩ | ⟨g,cap,cur,e1,_,_,_,_,_,_,e2⟩
   ·rw[e1]at hc;cases hc
   ·rw[e1]at hc
    have:g=x.1:=by simpa[Value.ownBlock]using hc
    subst this
    exact hu _ (e2 _ (A8 _))⟩
 tv:=fun i v hv=>by cases hv
 ob:=fun b cs hb=>by
  obtain ⟨h1,h4,_⟩:=h.ob b cs (ho b cs hb)
  exact ⟨h1,h4,.inr (.inl ⟨cs,hb⟩)⟩
 ow:=fun ℓ v hv=>by
  obtain ⟨b,j,rfl⟩:=M3 hv
  have h1:=h.ow _ v (It ho hv)
  unfold Own1 at h1 ⊢
  split
  ·exact OwnRow.toB h1 fun g hg=>.inr (.inr ⟨b,j,_,_,_,hv,hg⟩)
  ·trivial
 ap:=fun ℓ ℓ' e sz els e' sz' els' hne h1 h2=>by
  obtain ⟨b,j,rfl⟩:=M3 h1
  obtain ⟨b',j',rfl⟩:=M3 h2
  exact h.ap _ _ _ _ _ _ _ _ hne (It ho h1) (It ho h2)
 no:=fun ℓ e sz els h1 g hg=>by
  obtain ⟨b,j,rfl⟩:=M3 h1
  have h2:=h.no _ e sz els (It ho h1) g hg
  cases h3:o1 g with
  | none=>exact h3
  | some cs=>rw[ho g cs h3]at h2;cases h2

theorem Inv.back(h:Inv N W0 U0 M a W U s){o1 o2:Nat→Option (List AV)}(ho:∀ b cs,o1 b=some cs→s.o b=some cs){v:Value}{W':World}{U':Nat→Nat→Prop}
  (h':Inv 1 W U (CO W o1) { tmps := #[v],defers:=[] } W' U' ⟨upd (fun _=>none) 0 (some r),o2⟩) (hdom:∀ b cs,o1 b=some cs→∃ cs',o2 b=some cs') {d:Option Nat} (hd:∀ j,d=some j→j<N):
  Inv N W0 U0 M (a.put d v) W' U' (St.put ⟨s.t,fun b=>(o2 b).or (s.o b)⟩ d r):=by
 have F:=h'.fr
 have hM:∀ k,CO W o1 k→(W0.heap.size≤k∨M k)∧k<W.heap.size:=by
  rintro k (⟨cs,hk⟩ | ⟨b,j,e,sz,els,hat,hg⟩)
  ·obtain ⟨h1,_,h5⟩:=h.ob k cs (ho k cs hk)
   exact ⟨h5,h1.lt⟩
  ·have h1:=h.own (It ho hat)
   exact ⟨h1.inB hg,h1.lt hg⟩
 -- rows and blocks that stayed with the caller
 have hrow:∀ {ℓ:Loc} {e sz:Nat} {els:List (List AV)},s.at ℓ=some (.sl (some e) sz els)→(∀ b j,ℓ=.o b j→o1 b=none)→∀ g,(AQ a W ℓ).ownBlock=some g→¬ CO W o1 g:=by
  rintro ℓ e sz els hl hn g hg (⟨cs,hk⟩ | ⟨b,j,e',sz',els',hat,hg'⟩)
  ·have:=h.no ℓ e sz els hl g hg
   rw[ho g cs hk]at this;cases this
  ·refine h.ap ℓ (.o b j) e sz els e' sz' els' ?_ hl (It ho hat) g hg hg'
   rintro rfl
   simp only[St.at,hn b j rfl,Option.bind_none]at hat
   cases hat
 have hblk:∀ b cs,s.o b=some cs→o1 b=none→¬ CO W o1 b:=by
  rintro b cs hb hn (⟨cs',hk⟩ | ⟨b',j,e',sz',els',hat,hg'⟩)
  ·rw[hn]at hk;cases hk
  ·have:=h.no (.o b' j) _ _ _ (It ho hat) b hg'
   rw[hb]at this;cases this
 have hsame:∀ g,g<W.heap.size→¬ CO W o1 g→W'.heap[g]?=W.heap[g]?∧∀ k,U' g k↔U g k:=fun g hg hn=>⟨F.block g hg hn,F.u g hg hn⟩
 -- a place of the merged state: an old one,or one of the callee's
 have hat:∀ {ℓ:Loc} {x:AV},St.at ⟨s.t,fun b=>(o2 b).or (s.o b)⟩ ℓ=some x→
   (s.at ℓ=some x∧(∀ b j,ℓ=.o b j→o1 b=none∧o2 b=none))∨(∃ b j,ℓ=.o b j∧St.at ⟨upd (fun _=>none) 0 (some r),o2⟩ ℓ=some x):=by
  intro ℓ x hx
  cases ℓ with
  | t i=>exact .inl ⟨hx,fun b j e=>by cases e⟩
  | o b j=>
   cases h2:o2 b with
   | some cs=>
    refine .inr ⟨b,j,rfl, ?_⟩
    simpa only[St.at,h2,Option.or_some,Option.some_or]using hx
   | none=>
    refine .inl ⟨?_,fun b' j' e=>?_⟩
    ·simpa only[St.at,h2,Option.none_or]using hx
    ·cases e
     refine ⟨?_,h2⟩
     cases h1:o1 b with
     | none=>rfl
     | some cs=>obtain ⟨cs',h3⟩:=hdom b cs h1;rw[h2]at h3;cases h3
 have hcat:∀ {ℓ:Loc} {x:AV},s.at ℓ=some x→(∀ b j,ℓ=.o b j→o1 b=none∧o2 b=none)→AQ a W' ℓ=AQ a W ℓ:=by
  intro ℓ x hx hn
  cases ℓ with
  | t i=>rfl
  | o b j=>
   simp only[St.at,F9]at hx
   obtain ⟨cs,h1,_⟩:=hx
   simp only[AQ,(hsame b (h.ob_lt b cs h1) (hblk b cs h1 (hn b j rfl).1)).1]
 have hcat':∀ {b j:Nat},AQ { tmps := #[v],defers:=[] } W' (.o b j)=AQ a W' (.o b j):=rfl
 have hB:∀ g,(W.heap.size≤g∨CO W o1 g)→(W0.heap.size≤g∨M g):=fun g hg=>hg.elim (fun hg=>.inl (En h.fr.size hg)) fun hg=>(hM g hg).1
 have hbase:Inv N W0 U0 M a W' U' ⟨s.t,fun b=>(o2 b).or (s.o b)⟩:=by
  refine ⟨h.sz,h.df, ?_,fun i x hx=>(h.tv i x hx).keep F.keeps, ?_, ?_, ?_, ?_⟩
  ·exact {
    os:=F.os.trans h.fr.os
    tape:=F.tape.trans h.fr.tape
    output:=F.output.trans h.fr.output
    size:=En h.fr.size F.size
    block:=fun k hk hm=>by
     have hn:¬ CO W o1 k:=fun hk'=>(hM k hk').1.elim (by omega) hm
     exact (F.block k (Nat.lt_of_lt_of_le hk h.fr.size) hn).trans (h.fr.block k hk hm)
    u:=fun k hk hm x=>by
     have hn:¬ CO W o1 k:=fun hk'=>(hM k hk').1.elim (by omega) hm
     exact (F.u k (Nat.lt_of_lt_of_le hk h.fr.size) hn x).trans (h.fr.u k hk hm x)
    keeps:=h.fr.keeps.trans F.keeps
    g0:=h.fr.g0
    gm:=h.fr.gm }
  ·intro b cs hb
   cases h2:o2 b with
   | some cs2=>
    simp only[h2,Option.some_or,Az]at hb
    subst hb
    obtain ⟨q1,q4,q5⟩:=h'.ob b cs2 h2
    exact ⟨q1,q4,hB b q5⟩
   | none=>
    simp only[h2,Option.none_or]at hb
    have hn:o1 b=none:=by
     cases h1:o1 b with
     | none=>rfl
     | some cs1=>obtain ⟨cs',h3⟩:=hdom b cs1 h1;rw[h2]at h3;cases h3
    obtain ⟨e1,e2⟩:=hsame b (h.ob_lt b cs hb) (hblk b cs hb hn)
    obtain ⟨q1,q4,q5⟩:=h.ob b cs hb
    exact ⟨q1.move F.keeps e1,fun x=>(e2 x).2 (q4 x),q5⟩
  ·intro ℓ x hx
   rcases hat hx with ⟨g1,g2⟩ | ⟨b,j,rfl,g1⟩
   ·unfold Own1
    split
    ·rw[hcat g1 g2]
     exact (h.own g1).move fun g hg hlt=>hsame g hlt (hrow g1 (fun b j e=>(g2 b j e).1) g hg)
    ·trivial
   ·have h3:=h'.ow (.o b j) x g1
    unfold Own1 at h3 ⊢
    split
    ·exact OwnRow.toB h3 fun g hg=>hB g (OwnRow.inB h3 hg)
    ·trivial
  ·intro ℓ ℓ' e sz els e' sz' els' hne h1 h2 g hg hg'
   rcases hat h1 with ⟨g1,g2⟩ | ⟨b,j,rfl,g1⟩<;>rcases hat h2 with ⟨g3,g4⟩ | ⟨b',j',rfl,g3⟩
   ·rw[hcat g1 g2]at hg
    rw[hcat g3 g4]at hg'
    exact h.ap ℓ ℓ' _ _ _ _ _ _ hne g1 g3 g hg hg'
   ·rw[hcat g1 g2]at hg
    have q:=(h'.own g3).inB (g:=g) hg'
    exact q.elim (fun q=>by have:=(h.own g1).lt hg;omega) (hrow g1 (fun b j e=>(g2 b j e).1) g hg)
   ·rw[hcat g3 g4]at hg'
    have q:=(h'.own g1).inB (g:=g) hg
    exact q.elim (fun q=>by have:=(h.own g3).lt hg';omega) (hrow g3 (fun b j e=>(g4 b j e).1) g hg')
   ·exact h'.ap _ _ _ _ _ _ _ _ hne g1 g3 g hg hg'
  ·intro ℓ e sz els h1 g hg
   show (o2 g).or (s.o g)=none
   rcases hat h1 with ⟨g1,g2⟩ | ⟨b,j,rfl,g1⟩
   ·rw[hcat g1 g2]at hg
    rw[h.no ℓ e sz els g1 g hg]
    cases h2:o2 g with
    | none=>rfl
    | some cs=>
     obtain ⟨_,_,q5⟩:=h'.ob g cs h2
     exact (q5.elim (fun q=>by have:=(h.own g1).lt hg;omega) (hrow g1 (fun b j e=>(g2 b j e).1) g hg)).elim
   ·have h2:o2 g=none:=h'.no (.o b j) e sz els g1 g hg
    rw[h2]
    cases h3:s.o g with
    | none=>rfl
    | some cs=>
     have q:=(h'.own g1).inB (g:=g) hg
     exfalso
     rcases q with q|q
     ·have:=h.ob_lt g cs h3;omega
     have hn:o1 g=none:=by
      cases h4:o1 g with
      | none=>rfl
      | some cs1=>obtain ⟨cs',h5⟩:=hdom g cs1 h4;rw[h2]at h5;cases h5
     exact hblk g cs h3 hn q
 refine hbase.putO hd (h'.tv 0 r (by simp[upd])) fun i hi=>?_
 intro e sz els hr
 subst hr
 have hr0:St.at ⟨upd (fun _=>none) 0 (some (.sl (some e) sz els)),o2⟩ (.t 0)=some (.sl (some e) sz els):=by simp[St.at,upd]
 have h1:=h'.own hr0
 have h1':OwnRow W' U' (fun g=>W.heap.size≤g∨CO W o1 g) v e sz els.length:=h1
 refine ⟨OwnRow.toB h1' fun g hg=>hB g (h1'.inB hg),fun g hg=>⟨?_,fun ℓ hl ⟨e2,sz2,els2,hl2⟩ hg2=>?_⟩⟩
 ·show (o2 g).or (s.o g)=none
  have h2:o2 g=none:=h'.no (.t 0) _ _ _ hr0 g hg
  rw[h2]
  cases h3:s.o g with
  | none=>rfl
  | some cs=>
   exfalso
   rcases h1'.inB hg with q|q
   ·have:=h.ob_lt g cs h3;omega
   have hn:o1 g=none:=by
    cases h4:o1 g with
    | none=>rfl
    | some cs1=>obtain ⟨cs',h5⟩:=hdom g cs1 h4;rw[h2]at h5;cases h5
   exact hblk g cs h3 hn q
 ·rcases hat hl2 with ⟨g1,g2⟩ | ⟨b,j,rfl,g1⟩
  ·rw[hcat g1 g2]at hg2
   exact (h1'.inB hg).elim (fun q=>by have:=(h.own g1).lt hg2;omega) (hrow g1 (fun b j e=>(g2 b j e).1) g hg2)
  ·exact h'.ap (.t 0) (.o b j) _ _ _ _ _ _ (by simp) hr0 g1 g hg hg2

theorem Ug{f:Nat}{aS_:List AV}(h:CP P f aS_ r):CT P f aS_ (fun _=>none) (fun r' o'=>r'=r∧o'=fun _=>none):=by
 intro W U vs hl hv hI
 refine (h W U vs hI.fr.g0 hl hv).mono ?_
 rintro e W' ⟨v,U',rfl,hvr,hown,hE⟩
 refine ⟨v,U',r,fun _=>none,rfl,⟨rfl,rfl⟩,fun b cs hb=>(by cases hb), ?_⟩
 have hat:∀ {ℓ:Loc} {x:AV},St.at ⟨upd (fun _=>none) 0 (some r),fun _=>none⟩ ℓ=some x→ℓ=.t 0∧x=r:=by
  intro ℓ x hx
  cases ℓ with
  | t i=>
   simp only[St.at,upd]at hx
   by_cases hi:i=0
   ·subst hi;simp at hx;exact ⟨rfl,hx.symm⟩
   ·simp[hi]at hx
  | o b j=>simp[St.at]at hx
 refine ⟨rfl,rfl,⟨hE.b.os,hE.b.tape,hE.b.output,hE.b.size,fun k hk _=>hE.b.block k hk,fun k hk _=>hE.u k hk,hE.keeps,hI.fr.g0,hI.fr.gm⟩,fun i x hx=>?_,fun b cs hb=>(by cases hb),fun ℓ x hx=>?_,fun ℓ ℓ' e sz els e' sz' els' hne h1 h2=>?_,fun ℓ e sz els h1 g hg=>rfl⟩
 ·obtain ⟨h1,rfl⟩:=hat (ℓ:=.t i) hx
  cases h1
  exact hvr
 ·obtain ⟨rfl,rfl⟩:=hat hx
  unfold Own1 at hown ⊢
  split
  ·exact OwnRow.toB hown fun g hg=>.inl (OwnRow.inB hown hg)
  ·trivial
 ·obtain ⟨rfl,_⟩:=hat h1
  obtain ⟨rfl,_⟩:=hat h2
  exact absurd rfl hne

theorem a0f(h:Inv N W0 U0 M a W U s){f:Nat}{fn:Func}{args:Array Operand}{argTypes:Array TypeId}{ps:List Opd}{d:Option Nat}{xf:Operand}(ho:o.op=.call { callee:=.value xf,args,argTypes })(hxf:a.eval xf=.func (.func f) #[] #[])(hod:o.dst=d)(hd:∀ j,d=some j→j<N)
  (hf:P.funcs[f]?=some fn) (hb:fn.body.isSome=true) (hnm:(fn.name == "runtime.NumGoroutine")=false) (hp:FM P argTypes.toList args.toList=some ps) {K:St→Prop} (hK:kW P d (.callo f ps) s K) {next:Act→World→Prop} {Q:Exit→Act→World→Prop}
  (hn:∀ a' W' U' s',Inv N W0 U0 M a' W' U' s'→K s'→next a' W'):o.wp P a W next Q:=by
 obtain ⟨vs,hvs,o1,Q1,hsub,hCT,hcont⟩:=hK
 obtain ⟨e1,e2⟩:=UP hp
 obtain ⟨g1,g2⟩:=R6 hvs
 have hC:=hCT W U (args.toList.map a.eval) (by simp only[Ax];omega) (fun i v c hv hc=>by
  simp only[B7,BM]at hv hc
  obtain ⟨x,hx,rfl⟩:=hv
  obtain ⟨y,hy,rfl⟩:=hc
  obtain ⟨p,t,q1,q2⟩:=e2 i x hx
  obtain ⟨y',q3,q4⟩:=g2 i p q1
  rw[hy]at q3
  cases q3
  exact (M8 h q2 q4).alias) (h.hand hsub)
 have hbn:fn.body.isNone=false:=by
  cases hbb:fn.body with
  | none=>simp[hbb]at hb
  | some c=>rfl
 have hrun:(execOp a.eval o).run P W=.ok (.enter f (args.toList.map a.eval).toArray) W:=by
  have hargs:args.map a.eval=(args.toList.map a.eval).toArray:=by
   apply Array.ext'
   simp
  simp only[execOp,ho,resolve,hxf,Deferred.ofValue,Sem.run_bind,Sem.run_pure,Result.andThen_ok,invoke,callFunc,run_program,hf,hnm,D3,BV,hbn]
  simp[hargs]
 unfold Oper.wp
 rw[hrun,Oper.upon_enter]
 refine hC.mono ?_
 rintro e W' ⟨v,U',r',o',rfl,hq,hdom,hinv⟩
 rw[hod]
 refine hn _ _ _ _ (h.back hsub hinv hdom hd) (hcont r' o' hq fun b cs hb' hn'=>?_)
 cases hs:s.o b with
 | none=>rfl
 | some cs1=>
  exfalso
  obtain ⟨_,_,q5⟩:=hinv.ob b cs hb'
  rcases q5 with q5 | ⟨cs',q5⟩ | ⟨b',j,e',sz',els',hat,hg'⟩
  ·have:=h.ob_lt b cs1 hs;omega
  ·rw[hn']at q5;cases q5
  ·have:=h.no (.o b' j) _ _ _ (It hsub hat) b hg'
   rw[hs]at this;cases this

theorem TH(h:Inv N W0 U0 M a W U s){f:Nat}{fn:Func}{args:Array Operand}{argTypes:Array TypeId}{ps:List Opd}{d:Option Nat}(ho:o.op=.call { callee:=.value (.func f),args,argTypes })(hod:o.dst=d)(hd:∀ j,d=some j→j<N)
  (hf:P.funcs[f]?=some fn) (hb:fn.body.isSome=true) (hnm:(fn.name == "runtime.NumGoroutine")=false) (hp:FM P argTypes.toList args.toList=some ps) {K:St→Prop} (hK:kW P d (.callo f ps) s K) {next:Act→World→Prop} {Q:Exit→Act→World→Prop}
  (hn:∀ a' W' U' s',Inv N W0 U0 M a' W' U' s'→K s'→next a' W'):o.wp P a W next Q:=a0f h ho rfl hod hd hf hb hnm hp hK hn
theorem b1f(h:Inv N W0 U0 M a W U s){k:Nat}{args:Array Operand}{argTypes:Array TypeId}{ps:List Opd}{d:Option Nat}(ho:o.op=.call { callee:=.value (.tmp k),args,argTypes })(hod:o.dst=d)(hd:∀ j,d=some j→j<N)
  (hp:FM P argTypes.toList args.toList=some ps) {K:St→Prop} (hK:kW P d (.callv (.t k) ps) s K) {next:Act→World→Prop} {Q:Exit→Act→World→Prop}
  (hn:∀ a' W' U' s',Inv N W0 U0 M a' W' U' s'→K s'→next a' W'):o.wp P a W next Q:=by
 obtain ⟨p,hx,ws,h1,f,rfl,hb,hC⟩:=hK
 have hv:=h.tv k _ hx
 generalize hval:a.tmps.getD k undef=val at hv
 cases hv
 unfold K9 at hb
 cases hfn:P.funcs[f]? with
 | none=>simp[hfn]at hb
 | some fn=>
  simp only[hfn,BE,Cp,AP,G3]at hb
  exact a0f h ho hval hod hd hfn hb.1 hb.2 hp (K:=K) ⟨ws,h1,hC⟩ hn
theorem Inv.strip(h:Inv N W0 U0 M a W U s){b off:Nat}{cs:List AV}(hb:s.o b=some cs){e sz:Nat}{els:List (List AV)}(hc:cs[off]?=some (.sl (some e) sz els)):
  Inv N W0 U0 M a W U { s with o:=upd s.o b (some (splice cs off [.sl none sz els])) }:=by
 have hlt:off<cs.length:=(AM.1 hc).1
 have hle:off+[AV.sl none sz els].length≤cs.length:=by simp;omega
 have hat:∀ {ℓ:Loc} {e' sz':Nat} {els':List (List AV)},St.at { s with o:=upd s.o b (some (splice cs off [.sl none sz els])) } ℓ=some (.sl (some e') sz' els')→s.at ℓ=some (.sl (some e') sz' els'):=by
  intro ℓ e' sz' els' hl
  cases ℓ with
  | t i=>exact hl
  | o b' j=>
   simp only[St.at,upd]at hl ⊢
   by_cases hbb:b'=b
   ·subst hbb
    simp only[Bo,CY,ER _ _ _ hle]at hl
    rw[hb]
    simp only[CY]
    split at hl
    ·rename_i hj
     have:j - off=0:=by simp at hj;omega
     rw[this]at hl
     simp at hl
    ·exact hl
   ·rw[Ad hbb]at hl;exact hl
 refine ⟨h.sz,h.df,h.fr,h.tv,fun b' cs' hb'=>?_,fun ℓ v hl=>?_,fun ℓ ℓ' _ _ _ _ _ _ hne h1 h2=>h.ap ℓ ℓ' _ _ _ _ _ _ hne (hat h1) (hat h2),fun ℓ _ _ _ h1 g hg=>?_⟩
 ·simp only[upd]at hb'
  by_cases hbb:b'=b
  ·subst hbb
   simp only[Bo,Az]at hb'
   subst hb'
   obtain ⟨vs,ty,q1,q2,q3,q4,q5⟩:=h.obs hb hc (by simp) (by simp)
   refine ⟨ObR.of ⟨vs,⟨ty.1,fun u hu=>ty.2 u (Pa (vs:=[_]) rfl hu)⟩,q1,by rw[Mr _ _ _ hle];exact q2,fun j c hj=>?_⟩,q4,q5⟩
   rw[ER _ _ _ hle]at hj
   split at hj
   ·rename_i hjj
    have e0:j=off:=by simp at hjj;omega
    subst e0
    simp at hj
    subst hj
    exact ⟨(q3 j _ hc).1.reown,(q3 j _ hc).2⟩
   ·exact q3 j c hj
  ·rw[Ad hbb]at hb';exact h.ob b' cs' hb'
 ·unfold Own1
  split
  ·exact h.own (hat hl)
  ·trivial
 ·have:=h.no ℓ _ _ _ (hat h1) g hg
  simp only[upd]
  by_cases hgb:g=b
  ·subst hgb;rw[hb]at this;cases this
  ·rw[Ad hgb];exact this
theorem Inv.grant(h:Inv N W0 U0 M a W U s){b off:Nat}{cs:List AV}(hb:s.o b=some cs){e sz:Nat}{els:List (List AV)}(hc:cs[off]?=some (.sl none sz els))(hrow:OwnRow W U (fun g=>W0.heap.size≤g∨M g) (AQ a W (.o b off)) e sz els.length)
  (hfree:∀ g,(AQ a W (.o b off)).ownBlock=some g→s.o g=none∧∀ ℓ,(∃ e sz els,s.at ℓ=some (.sl (some e) sz els))→(AQ a W ℓ).ownBlock≠some g):
  Inv N W0 U0 M a W U { s with o:=upd s.o b (some (splice cs off [.sl (some e) sz els])) }:=by
 have hlt:off<cs.length:=(AM.1 hc).1
 have hle:off+[AV.sl (some e) sz els].length≤cs.length:=by simp;omega
 have hat:∀ {ℓ:Loc} {e' sz':Nat} {els':List (List AV)},St.at { s with o:=upd s.o b (some (splice cs off [.sl (some e) sz els])) } ℓ=some (.sl (some e') sz' els')→
   (ℓ=.o b off∧e'=e∧sz'=sz∧els'=els)∨s.at ℓ=some (.sl (some e') sz' els'):=by
  intro ℓ e' sz' els' hl
  cases ℓ with
  | t i=>exact .inr hl
  | o b' j=>
   simp only[St.at,upd]at hl ⊢
   by_cases hbb:b'=b
   ·subst hbb
    simp only[Bo,CY,ER _ _ _ hle]at hl
    split at hl
    ·rename_i hj
     have e0:j=off:=by simp at hj;omega
     subst e0
     simp at hl
     obtain ⟨rfl,rfl,rfl⟩:=hl
     exact .inl ⟨rfl,rfl,rfl,rfl⟩
    ·right;rw[hb];exact hl
   ·right;rw[Ad hbb]at hl;exact hl
 refine ⟨h.sz,h.df,h.fr,h.tv,fun b' cs' hb'=>?_,fun ℓ v hl=>?_,fun ℓ ℓ' _ _ _ _ _ _ hne h1 h2 g hg hg'=>?_,fun ℓ _ _ _ h1 g hg=>?_⟩
 ·simp only[upd]at hb'
  by_cases hbb:b'=b
  ·subst hbb
   simp only[Bo,Az]at hb'
   subst hb'
   obtain ⟨vs,ty,q1,q2,q3,q4,q5⟩:=h.obs hb hc (by simp) (by simp)
   refine ⟨ObR.of ⟨vs,⟨ty.1,fun u hu=>ty.2 u (Pa (vs:=[_]) rfl hu)⟩,q1,by rw[Mr _ _ _ hle];exact q2,fun j c hj=>?_⟩,q4,q5⟩
   rw[ER _ _ _ hle]at hj
   split at hj
   ·rename_i hjj
    have e0:j=off:=by simp at hjj;omega
    subst e0
    simp at hj
    subst hj
    exact ⟨(q3 j _ hc).1.reown,(q3 j _ hc).2⟩
   ·exact q3 j c hj
  ·rw[Ad hbb]at hb';exact h.ob b' cs' hb'
 ·unfold Own1
  split
  ·rcases hat hl with ⟨rfl,rfl,rfl,rfl⟩|hl
   ·exact hrow
   ·exact h.own hl
  ·trivial
 ·rcases hat h1 with ⟨rfl,rfl,rfl,rfl⟩|k1<;>rcases hat h2 with ⟨rfl,rfl,rfl,rfl⟩|k2
  ·exact hne rfl
  ·exact (hfree g hg).2 ℓ' ⟨_,_,_,k2⟩ hg'
  ·exact (hfree g hg').2 ℓ ⟨_,_,_,k1⟩ hg
  ·exact h.ap ℓ ℓ' _ _ _ _ _ _ hne k1 k2 g hg hg'
 ·have hog:s.o g=none:=by
   rcases hat h1 with ⟨rfl,rfl,rfl,rfl⟩|k1
   ·exact (hfree g hg).1
   ·exact h.no ℓ _ _ _ k1 g hg
  simp only[upd]
  by_cases hgb:g=b
  ·subst hgb;rw[hb]at hog;cases hog
  ·rw[Ad hgb];exact hog

theorem TF{t:TypeId}(hn:Fq P t=some none){b off:Nat}{v:Value}(hc:W.cell? ⟨b,off,none⟩=some v):(Instr.loadAt t (.pointer (some ⟨b,off,none⟩))).run P W=.ok v W:=by
 obtain ⟨d,i,hu,hi,hd⟩:=Ot hn
 rcases hd with ⟨hd,h0⟩ | ⟨hd,_⟩
 ·cases h0
 ·simp[Instr.loadAt,Instr.sureAddr,loadVar,IW hu,hd,hc]

theorem b1p(h:Inv N W0 U0 M a W U s){r:AV}{o:Oper}{t:TypeId}{x:Operand}{X:Opd}(ho:o.op=.load t x)(hn:Fq P t=some none)(hx:Au x=some X)(hr:AU P s (.ldh X) r):VOK P a o W U r:=by
 obtain ⟨p,cs,hp,hv,hl⟩:=hr
 cases cs with
 | nil=>exact hl.elim
 | cons c rest=>
  have hl:r=Ca c:=hl
  by_cases hc:∃ e sz,c=.nils e sz
  ·obtain ⟨e,sz,rfl⟩:=hc
   obtain rfl:r=.hnil e sz:=hl
   obtain ⟨b,off,f,he,h1,h2⟩:=T2 h (AW h hx hp) hv
   have h3:=(h1 0 (by simp)).1
   have h4:=h2 0 (.nils e sz) (by simp)
   have h5:f 0=.slice none 0 0:=by generalize f 0=v at h4;cases h4;rfl
   rw[h5,Nat.add_zero]at h3
   exact VOK.same (v:=.slice none 0 0) (by simp[execOp,ho,he,TF hn h3]) (.hnil e sz) (by simp)
  ·have h6:Ca c=c.alias:=by cases c<;>first|rfl|exact absurd ⟨_,_,rfl⟩ hc
   exact NV h ho hn hx ⟨p,c::rest,hp,hv,by rw[hl,h6];rfl⟩

theorem b1q(h:Inv N W0 U0 M a W U s){d:Option Nat}{t:TypeId}{x:Operand}{X:Opd}{b off:Nat}(ho:o.op=.load t x)(hod:o.dst=d)(hd:∀ j,d=some j→j<N)(hn:Fq P t=some none)(hx:Au x=some X)(hp:X.ev s=some (.ptr b off))
  {cs:List AV} (hb:s.o b=some cs) {e sz:Nat} {els:List (List AV)} (hc:cs[off]?=some (.sl (some e) sz els)) {next:Act→World→Prop} {Q:Exit→Act→World→Prop}
  (hnx:∀ a' W' U',Inv N W0 U0 M a' W' U' (Hp s d b off cs (.sl (some e) sz els))→next a' W'):o.wp P a W next Q:=by
 have hpx:=AW h hx hp
 have hadr:a.eval x=.pointer (some ⟨b,off,none⟩):=by
  generalize a.eval x=val at hpx
  cases hpx
  rfl
 obtain ⟨vs,ty,q1,q2,q3,q4,q5⟩:=h.obs hb hc (by simp) (by simp)
 have hlt:off<cs.length:=(AM.1 hc).1
 have hcell:W.cell? ⟨b,off,none⟩=some (vs.getD off undef):=by
  rw[cell_of_row W b off vs ty (0,0) q1]
  have:off<vs.size:=by omega
  simp[this]
 have hrun:(execOp a.eval o).run P W=.ok (.value (vs.getD off undef)) W:=by
  simp[execOp,ho,hadr,TF hn hcell]
 have hcat:AQ a W (.o b off)=vs.getD off undef:=by simp only[AQ,q1]
 have hat:s.at (.o b off)=some (.sl (some e) sz els):=by simp[St.at,hb,hc]
 have hs:=h.strip hb hc
 unfold Oper.wp
 rw[hrun,Oper.upon_value,hod]
 refine hnx _ _ U (hs.putO hd (q3 off _ hc).1 fun i hi e' sz' els' he=>?_)
 cases he
 have hown:=h.own hat
 rw[hcat]at hown
 refine ⟨hown,fun g hg=>⟨?_,fun ℓ _ ⟨e2,sz2,els2,hl2⟩ hg2=>?_⟩⟩
 ·have:=h.no _ _ _ _ hat g (by rw[hcat];exact hg)
  simp only[upd]
  by_cases hgb:g=b
  ·subst hgb;rw[hb]at this;cases this
  ·rw[Ad hgb];exact this
 ·have hle:off+[AV.sl none sz els].length≤cs.length:=by simp;omega
  have hne:ℓ ≠ .o b off:=by
   rintro rfl
   simp only[St.at,upd,Bo,CY,ER _ _ _ hle]at hl2
   rw[Af (by simp)]at hl2
   simp at hl2
  have hl3:s.at ℓ=some (.sl (some e2) sz2 els2):=by
   cases ℓ with
   | t i=>exact hl2
   | o b' j=>
    simp only[St.at,upd]at hl2 ⊢
    by_cases hbb:b'=b
    ·subst hbb
     simp only[Bo,CY,ER _ _ _ hle]at hl2
     split at hl2
     ·rename_i hj
      exact absurd (by simp at hj;congr 1;omega) hne
     ·rw[hb];exact hl2
    ·rw[Ad hbb]at hl2;exact hl2
  exact h.ap (.o b off) ℓ _ _ _ _ _ _ hne.symm hat hl3 g (by rw[hcat];exact hg) hg2

theorem b2m(cs:List AV)(off:Nat)(c c':AV)(h:off<cs.length):splice (splice cs off [c]) off [c']=splice cs off [c']:=by
 have h1:off+[c].length≤cs.length:=by simp;omega
 have h2:off+[c'].length≤cs.length:=by simp;omega
 apply F5
 intro k
 rw[ER _ _ _ (by rw[Mr _ _ _ h1];exact h2),ER _ _ _ h2,ER _ _ _ h1]
 by_cases hk:off≤k∧k<off+[c'].length
 ·rw[Af hk,Af hk]
 ·rw[Ad hk,Ad hk,Ad (by simpa using hk)]

theorem Inv.stripT(h:Inv N W0 U0 M a W U s){i:Nat}{e sz:Nat}{els:List (List AV)}(hr':s.t i=some (.sl (some e) sz els)):Inv N W0 U0 M a W U { s with t:=upd s.t i (some (.sl none sz els)) }:=by
 have hv:=h.tv i _ hr'
 have hle:Le { s with t:=upd s.t i none } s:=⟨fun j v hj=>by
  by_cases hji:j=i
  ·subst hji;simp[upd]at hj
  ·simpa[upd,hji]using hj,fun _ _ hj=>hj⟩
 have h1:=h.le hle
 have hiN:i<N:=by
  rcases FJ i N with hlt|hge
  ·exact hlt
  ·exfalso
   have:a.tmps.getD i undef=undef:=by simp[Array.getD,show ¬ i<a.tmps.size by rw[h.sz];omega]
   rw[this]at hv
   cases hv
 have h2:=h1.put (d:=i) hiN (v:=a.tmps.getD i undef) (r:=.sl none sz els) hv.reown (Sole.plain (by simp))
 have hput:a.put (some i) (a.tmps.getD i undef)=a:=by
  unfold Act.put
  cases a with
  | mk tmps df=>
   simp only[Act.mk.injEq,Bc]
   apply Array.ext'
   apply F5
   intro k
   have hi':i<tmps.size:=by have:=h.sz;simp at this;omega
   simp only[Array.toList_setIfInBounds,List.getElem?_set]
   by_cases hk:i=k
   ·subst hk
    simp[hi']
   ·simp[hk]
 rw[hput]at h2
 have hs':(St.put { s with t:=upd s.t i none } (some i) (.sl none sz els))={ s with t:=upd s.t i (some (.sl none sz els)) }:=by
  simp only[St.put]
  congr 1
  funext k
  simp only[upd]
  by_cases hk:k=i<;>simp[hk]
 rw[hs']at h2
 exact h2

theorem b1O(h:Inv N W0 U0 M a W U s){t:TypeId}{x:Operand}{X:Opd}{i b off:Nat}(ho:o.op=.store t x (.tmp i))(hod:o.dst=none)(hsz:(P.info? t).map (·.size)=some 1)(hx:Au x=some X)(hp:X.ev s=some (.ptr b off))
  {cs:List AV} (hb:s.o b=some cs) (hlt:off<cs.length) {e sz:Nat} {els:List (List AV)} (hi:s.t i=some (.sl (some e) sz els)) {next:Act→World→Prop} {Q:Exit→Act→World→Prop}
  (hnx:∀ a' W' U',Inv N W0 U0 M a' W' U' (GQ s i b off cs (.sl (some e) sz els))→next a' W'):o.wp P a W next Q:=by
 have hpx:=AW h hx hp
 have hadr:a.eval x=.pointer (some ⟨b,off,none⟩):=by
  generalize a.eval x=val at hpx
  cases hpx
  rfl
 obtain ⟨vs,ty,q1,q2,q3,q4,q5⟩:=h.obc hb hpx.ptr_at
 have hvi:=h.tv i _ hi
 have hval:a.eval (.tmp i)=a.tmps.getD i undef:=rfl
 obtain ⟨v,hve⟩:∃ v,v=a.tmps.getD i undef:=⟨_,rfl⟩
 rw[← hve]at hvi hval
 have hcells:(a.eval (.tmp i)).cells = #[v]∧v.oneCell'=true:=by
  rw[hval]
  cases hvi
  exact ⟨rfl,rfl⟩
 have hst:=run_storeCells_at P b off ty [v] 0 vs W q1 (by simp;omega) (by intro u hu;simp at hu;subst hu;exact hcells.2)
 obtain ⟨row,hrow⟩:∃ row:Array Value,row=(vs.toList.take (off+0)++[v]++vs.toList.drop (off+0+[v].length)).toArray:=⟨_,rfl⟩
 rw[← hrow]at hst
 have hrun:(execOp a.eval o).run P W=.ok .skip (W.setRow b row):=by
  cases hinf:P.info? t with
  | none=>simp[hinf]at hsz
  | some inf=>
   have hin:inf.size=1:=by simpa[hinf]using hsz
   have Ae:¬ (a.eval (.tmp i)).cells.size≠inf.size:=by rw[hcells.1,hin];simp
   simp only[execOp,ho,Instr.storeAt,hadr,Instr.sureAddr,Sem.run_bind,Sem.run_pure,Result.andThen_ok,storeVar,sizeOf,typeInfo,run_program,hinf,Sem.run_ite,Ae,BV]
   rw[hcells.1]
   have hst':(storeCells ⟨b,off,none⟩ [v]).run P W=.ok () (W.setRow b row):=by simpa using hst
   simp[hst']
 have hlv:off<vs.size:=by omega
 have hget:∀ j,row.getD j undef=if j=off then v else vs.getD j undef:=by
  intro j
  subst hrow
  simp only[Nat.add_zero,Cu,EW]
  by_cases hj1:j<off
  ·rw[Ad (by omega),DC,CB (by simp;omega),HM,Af hj1]
   simp
  ·by_cases hj2:j=off
   ·subst hj2
    rw[Af rfl,DC,Cj (by simp;omega)]
    simp[Nat.min_eq_left (Nat.le_of_lt hlv)]
   ·rw[Ad hj2,Cj (by simp;omega),CC]
    congr 1
    simp
    congr 1
    omega
 have hrs:row.size=vs.size:=by subst hrow;simp;omega
 have hle:∀ c:AV,off+[c].length≤cs.length:=fun c=>by simp;omega
 have h1:=h.stripT hi
 have hb1:St.o { s with t:=upd s.t i (some (.sl none sz els)) } b=some cs:=hb
 have h2:=h1.seto (cs':=splice cs off [.sl none sz els]) (vs':=row) hb1 q1 (Mr _ _ _ (hle _)) hrs
  (fun j c hj=>by
   rw[ER _ _ _ (hle _)]at hj
   rw[hget]
   split at hj
   ·rename_i hjj
    have e0:j=off:=by simp at hjj;omega
    subst e0
    simp at hj
    subst hj
    rw[Af rfl]
    exact ⟨hvi.reown,hcells.2⟩
   ·rename_i hjj
    rw[Ad (by rintro rfl;exact hjj (by simp))]
    exact q3 j c hj) (fun u hu=>Pa (vs:=[_]) rfl hu)
  (fun j e2 sz2 els2 hj=>by
   rw[ER _ _ _ (hle _)]at hj
   rw[hget]
   split at hj
   ·rename_i hjj
    have e0:j=off:=by simp at hjj;omega
    subst e0
    simp at hj
   ·rename_i hjj
    rw[Ad (by rintro rfl;exact hjj (by simp))]
    exact ⟨hj,rfl⟩)
 have hheap:=setRow_heap W b vs row ty (0,0) q1
 have hcat:AQ a (W.setRow b row) (.o b off)=v:=by simp only[AQ,hheap];rw[hget,Af rfl]
 have hown:=h.own (ℓ:=.t i) hi
 have hcti:AQ a W (.t i)=v:=hve.symm
 rw[hcti]at hown
 have hno:∀ g,v.ownBlock=some g→s.o g=none:=fun g hg=>h.no (.t i) _ _ _ hi g (by rw[hcti];exact hg)
 have hgb:∀ g,v.ownBlock=some g→g≠b:=fun g hg e=>by have:=hno g hg;rw[e,hb]at this;cases this
 have hb2:St.o ⟨upd s.t i (some (.sl none sz els)),upd s.o b (some (splice cs off [.sl none sz els]))⟩ b=some (splice cs off [.sl none sz els]):=by simp[upd]
 have h3:=h2.grant (off:=off) (e:=e) (sz:=sz) (els:=els) hb2 (by rw[ER _ _ _ (hle _),Af (by simp)];simp)
  (by
   rw[hcat]
   exact hown.move fun g hg _=>⟨setRow_other W b g _ (hgb g hg),fun _=>Iff.rfl⟩)
  (by
   rw[hcat]
   intro g hg
   refine ⟨?_, ?_⟩
   ·show upd s.o b (some (splice cs off [.sl none sz els])) g=none
    rw[upd_ne _ _ (hgb g hg)];exact hno g hg
   ·rintro ℓ ⟨e2,sz2,els2,hl⟩ hg2
    have key:s.at ℓ=some (.sl (some e2) sz2 els2)∧ℓ ≠ .t i∧AQ a (W.setRow b row) ℓ=AQ a W ℓ:=by
     cases ℓ with
     | t k=>
      simp only[St.at,upd]at hl ⊢
      by_cases hk:k=i
      ·rw[Af hk]at hl;simp at hl
      ·rw[Ad hk]at hl
       exact ⟨hl,by simpa using hk,rfl⟩
     | o b' j=>
      simp only[St.at,upd]at hl ⊢
      by_cases hbb:b'=b
      ·subst hbb
       simp only[Bo,CY,ER _ _ _ (hle _)]at hl
       split at hl
       ·rename_i hj
        have:j - off=0:=by simp at hj;omega
        rw[this]at hl
        simp at hl
       ·rename_i hj
        rw[hb]
        refine ⟨hl,by simp, ?_⟩
        simp only[AQ,hheap,q1]
        rw[hget,Ad (by rintro rfl;exact hj (by simp))]
      ·rw[Ad hbb]at hl
       exact ⟨hl,by simp,by simp only[AQ,setRow_other W b b' _ hbb]⟩
    rw[key.2.2]at hg2
    exact h.ap (.t i) ℓ _ _ _ _ _ _ (Ne.symm key.2.1) hi key.1 g (by rw[hcti];exact hg) hg2)
 unfold Oper.wp
 rw[hrun,Oper.upon_skip,hod]
 refine hnx _ _ U ?_
 have he:GQ s i b off cs (.sl (some e) sz els)={ (⟨upd s.t i (some (.sl none sz els)),upd s.o b (some (splice cs off [.sl none sz els]))⟩:St) with o:=upd (upd s.o b (some (splice cs off [.sl none sz els]))) b (some (splice (splice cs off [.sl none sz els]) off [.sl (some e) sz els])) }:=by
  simp only[GQ,b2m _ _ _ _ hlt,St.mk.injEq,true_and]
  funext k
  simp only[upd]
  by_cases hk:k=b<;>simp[hk]
 rw[he]
 exact h3
end
end Go.Proofs.YtfgihnhoocnmdaaGreatDoor
