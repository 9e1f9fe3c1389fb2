import Derived.Test.YtfgihnhoocnmdaaGreatDoorJ5
import Derived.Maps.RangeRun
namespace Go.Proofs.YtfgihnhoocnmdaaGreatDoor
set_option linter.all false
set_option maxHeartbeats 64000000
set_option maxRecDepth 100000
open Go.RowKit
section
variable {P:Program} {N:Nat} {W0:World} {U0:Nat→Nat→Prop} {M:Nat→Prop} {a:Act} {W W':World} {U:Nat→Nat→Prop} {s:St} {o:Oper} {r:AV}
theorem b1B(h:Inv N W0 U0 M a W U s){x y:Operand}{X Y:Opd}{ts:Array TypeId}(ho:o.op=.call { callee:=.builtin .max,args:=⟨[x,y]⟩,argTypes:=ts })(hx:Au x=some X)(hy:Au y=some Y)(hr:AU P s (.mx X Y) r):VOK P a o W U r:=by
 obtain ⟨p,c,hp,hn,hb⟩:=hr
 cases p<;>try exact hb.elim
 all_goals cases c<;>try exact hb.elim
 rename_i k1 m k2 n
 have h1:=(AW h hx hp).int_inv
 have h2:=(AW h hy hn).int_inv
 obtain rfl:=(hb:r=.int k1 (if m<n then n else m))
 refine VOK.same (v:=.int k1 (if m<n then n else m)) ?_ (.int _ _) (by simp)
 simp[execOp,ho,h1,h2,resolve,invoke,builtin,Builtin.max_,Builtin.max2]
theorem run_newObj(x:Obj):(newObj x).run P W=.ok W.heap.size (W.alloc x):=rfl
theorem b0V(h:Inv N W0 U0 M a W U s){t e sz:Nat}{inf:TypeInfo}{x:Operand}{X:Opd}(ho:o.op=.call { callee:=.builtin .append,args:=⟨[.const (.slice none 0 0),x]⟩,argTypes:=⟨[t,t]⟩ })
  (ht:P.underlying t=some (.slice e)) (hi:P.info? e=some inf) (hisz:inf.size=sz) (hsz:0<sz) (hz:Fo P e=some sz) (hx:Au x=some X) (hr:AU P s (.app0 e sz inf.bytes X) r):VOK P a o W U r:=by
 obtain ⟨own,news,hxv,hb,hmx,rfl⟩:=hr
 have hw:=AW h hx hxv
 obtain ⟨z,hz1,hz2⟩:∃ z,inf.zero=some z∧z.cells.size=sz:=by
  simp only[Fo,hi,CY,BM]at hz
  exact hz
 have key:∀ v' W' U',(Builtin.append_ #[t,t] o.type #[.slice none 0 0,a.eval x]).run P W=.ok v' W'→VR W' U' v' (.sl (some e) sz news)→Own1 W' U' (W.heap.size ≤ ·) v' (.sl (some e) sz news)→Ext W U W' U'→VOK P a o W U (.sl (some e) sz news):=by
  intro v' W' U' hrun hvr hso hE
  refine ⟨v',W',U', ?_,hE,hvr,hso⟩
  unfold execOp
  simp only[ho,resolve,invoke,builtin,Sem.run_bind,Sem.run_pure,Result.andThen_ok,List.map_toArray,CX,List.map_nil]
  rw[show (#[Value.slice none 0 0,a.eval x]:Array Value)=⟨[a.eval (.const (.slice none 0 0)),a.eval x]⟩ from rfl]at hrun
  rw[show (#[t,t]:Array Nat)=⟨[t,t]⟩ from rfl]at hrun
  rw[hrun]
  rfl
 generalize hxval:a.eval x=xval at *
 cases hw with
 | sl A cap _ _ b2 o2 _ f2 hcap2 hmax2 hA2 hs2 hc2 hv2=>
  by_cases hm:news.length=0
  ·have hn1:news=[]:=Dn hm
   subst hn1
   refine key (.slice none 0 0) W U ?_ (Gs (v:=.slice none 0 0) (c:=.sl (some e) sz []) rfl W U).1 (.inl ⟨rfl,rfl⟩) (Ext.refl _ _)
   cases A<;>simp[Builtin.append_,run_underlying ht,sizeOf,typeInfo,hi,Builtin.lenOf,Builtin.firstCells,loadCells,loadCellsFrom,storeCells]
  ·obtain rfl:=hA2 (by omega)
   have hnews':∀ p v,(AB f2 news.length sz)[p]?=some v→W.cell? ((⟨b2,o2,none⟩:Addr).add p)=some v:=by
    intro p v hp
    obtain ⟨q1,q2,rfl,q4⟩:=Km hp
    rw[C0,q4, ← Nat.add_assoc]
    have e1:(p / sz * sz+p % sz) / sz=p / sz:=by rw[← q4]
    have e2:(p / sz * sz+p % sz) % sz=p % sz:=by rw[← q4]
    rw[e1,e2]
    exact (hc2 _ _ q1 q2).1
   have h1new:∀ u∈AB f2 news.length sz,u.oneCell'=true:=Nq fun i j hi hj=>(hc2 i j hi hj).2.1
   have hrun:=run_append_nil (P:=P) W t o.type e inf z ht hi hz1 ⟨b2,o2,none⟩ news.length cap (AB f2 news.length sz) (by rw[CE,hisz]) hnews' (by omega) (by simp only[maxLen]at hmx;omega) (by omega)
   have hE:Ext W U (W.drew.alloc (.cells ((AB f2 news.length sz).toArray++Builtin.zeroCells z.cells (grownCap W news.length 0 e - news.length)) e)) (fun k i=>if k=W.heap.size then news.length * sz≤i else U k i):=by
    have:=Ext.alloc W.drew U (.cells ((AB f2 news.length sz).toArray++Builtin.zeroCells z.cells (grownCap W news.length 0 e - news.length)) e) (fun i=>news.length * sz≤i)
    exact ⟨(Below.refl _ _).drew.alloc (A8 _) _,this.u⟩
   have hge:=grownCap_ge W news.length 0 e
   have hcm:=grownCap_le_maxLen W news.length 0 e hmx
   have hnew:=heap_alloc_new W.drew (.cells ((AB f2 news.length sz).toArray++Builtin.zeroCells z.cells (grownCap W news.length 0 e - news.length)) e)
   have hcsz:((AB f2 news.length sz).toArray++Builtin.zeroCells z.cells (grownCap W news.length 0 e - news.length)).size=grownCap W news.length 0 e * sz:=by
    simp only[G2,Ck,size_zeroCells,hz2,CE, ← Bp]
    congr 1
    omega
   refine key _ _ _ hrun ?_ ?_ hE
   ·refine Oq (f:=f2) hnew hge hcm hs2 (fun i j hi hj=>?_) (fun o ho hu=>?_) (fun i e' j c he hc=>(hv2 i e' j c he hc).keep hE.keeps)
    ·refine ⟨?_,(hc2 i j hi hj).2.1⟩
     have:=IF (f:=f2) hi hj
     rw[HK (by rw[Ck];exact (AM.1 this).1)]
     simpa using this
    ·have hu':news.length * sz≤o:=by simpa using hu
     omega
   ·refine .inr ⟨W.heap.size,_,_,rfl,A8 _,.of hnew,hge,hcm,hcsz,fun o ho hu=>?_,fun o ho=>?_⟩
    ·have hu':news.length * sz≤o:=by simpa using hu
     omega
    ·simpa using ho
theorem YA(h:Inv N W0 U0 M a W U s):s.o W.heap.size=none:=by
 cases hs:s.o W.heap.size with
 | none=>rfl
 | some c=>have:=h.ob_lt _ _ hs;omega
theorem b1u(h:Inv N W0 U0 M a W U s){d:Option Nat}{t:TypeId}(ho:o.op=.makeMap t none)(hd:∀ j,d=some j→j<N)(hod:o.dst=d){K:St→Prop}(hK:Yt s d K){next:Act→World→Prop}{Q:Exit→Act→World→Prop}
  (hn:∀ a' W' U' s',Inv N W0 U0 M a' W' U' s'→K s'→next a' W'):o.wp P a W next Q:=by
 have hrun:(execOp a.eval o).run P W=.ok (.value (.map (some W.heap.size))) (W.alloc (.map #[] 0)):=by
  simp[execOp,ho,Instr.makeMap,run_newObj]
 unfold Oper.wp
 rw[hrun,Oper.upon_value,hod]
 refine hn _ _ _ _ ((h.newm ?_ (H3 (by simp))).putO hd (.mapv _) fun j _=>Sole.plain (by simp)) (hK _ (YA h))
 exact ⟨#[],heap_alloc_new W _,rfl,rfl,rfl,by simp,by simp,fun i e hi=>by simp at hi⟩
theorem b1I(h:Inv N W0 U0 M a W U s){d:Option Nat}{t k e:TypeId}{x:Operand}{X:Opd}(ho:o.op=.range t x)(ht:P.underlying t=some (.map k e))(hd:∀ j,d=some j→j<N)(hod:o.dst=d)(hx:Au x=some X){K:St→Prop}{p:AV}(hp:X.ev s=some p)(hK:Z4 s d p K)
  {next:Act→World→Prop} {Q:Exit→Act→World→Prop} (hn:∀ a' W' U' s',Inv N W0 U0 M a' W' U' s'→K s'→next a' W'):o.wp P a W next Q:=by
 cases p<;>try exact hK.elim
 rename_i m
 obtain ⟨kl,vl,bs,clk,hb,hK⟩:=hK
 obtain ⟨⟨es,g1,G⟩,hnc⟩:=h.mpR hb
 have hmv:=h.mapv hx hp
 have hrun:(execOp a.eval o).run P W=.ok (.value (.pointer (some ⟨W.heap.size,0,none⟩))) (W.alloc (.mapIter (some m) clk #[] clk)):=by
  simp[execOp,ho,hmv,Instr.range,run_underlying ht,MapKept.run_getObj_map g1,run_newObj,Result.andThen]
 unfold Oper.wp
 rw[hrun,Oper.upon_value,hod]
 exact hn _ _ _ _ ((h.newm (cs:=[.mit m clk [] clk]) (heap_alloc_new W _) (H3 (by simp))).putO hd (.itp _) fun j _=>Sole.plain (by simp)) (hK _ (YA h))
theorem Inv.itp(h:Inv N W0 U0 M a W U s){x:Operand}{X:Opd}{b:Nat}(hm:Au x=some X)(hx:X.ev s=some (.itp b)):a.eval x=.pointer (some ⟨b,0,none⟩):=by
 have:=AW h hm hx
 generalize a.eval x=v at this
 cases this;rfl
theorem b1F(h:Inv N W0 U0 M a W U s){d:Option Nat}{x:Operand}{X:Opd}(ho:o.op=.next x false)(hd:∀ j,d=some j→j<N)(hod:o.dst=d)(hx:Au x=some X){K:St→Prop}{p:AV}(hp:X.ev s=some p)(hK:YH s d p K)
  {next:Act→World→Prop} {Q:Exit→Act→World→Prop} (hn:∀ a' W' U' s',Inv N W0 U0 M a' W' U' s'→K s'→next a' W'):o.wp P a W next Q:=by
 cases p<;>try exact hK.elim
 rename_i b
 obtain ⟨m,since,seen,last,kl,vl,bs,clk,hb,hm,⟨hc1,hc2⟩,hK1,hK2⟩:=hK
 subst hc1
 obtain rfl:clk=last:=hc2.symm
 obtain ⟨⟨es,g1,G⟩,hnc⟩:=h.mpR hm
 have hit:=h.itp hx hp
 have hbr:W.heap[b]?=some (.mapIter (some m) clk seen.toArray clk):=(h.ob b _ hb).1
 have hncb:¬ DR W b:=by
  rintro ⟨c1,c2,c3,c4⟩
  rw[hbr]at c4;cases c4
 have hlt:b<W.heap.size:=(BH.1 hbr).1
 have born:∀ (i:Nat) (e:MapEntry),es[i]?=some e→bs[i]?=some e.born∧i<kl.length:=fun i e hi=>by
  have hl:i<es.size:=(BH.1 hi).1
  have:=G.g2;have:=G.g4
  have hb':bs[i]?=some (bs[i]'(by omega)):=Aw (by omega)
  exact ⟨by rw[hb',(G.g7 i e hi).2.2 _ hb'],by omega⟩
 have hold:∀ e∈es.toList,e.born<clk:=fun e he=>by
  obtain ⟨i,hi⟩:=Iq.1 he
  exact G.g6 _ (Dd (born i e (by rw[← Em];exact hi)).1)
 have hrunx:(execOp a.eval o).run P W=((Instr.next (.pointer (some ⟨b,0,none⟩)) false o.type).run P W).andThen fun v w=>.ok (.value v) w:=by
  simp only[execOp,ho,hit]
  simp
 unfold Oper.wp
 rw[hrunx]
 rcases run_next_at (P:=P) W o.type b m clk clk seen.toArray es clk hbr g1 hold (A8 _) with ⟨h0,hrun⟩ | ⟨e,he,w1,hw1,hrun⟩
 ·rw[hrun]
  simp only[Result.andThen]
  rw[Oper.upon_value,hod]
  refine hn _ _ _ _ (h.putO hd (v:=.tuple #[.bool false]) (r:=.tup [.bool false]) ?_ fun j _=>Sole.plain (by simp)) (hK2 fun n hnb=>?_)
  ·have:(Value.tuple #[.bool false])=.tuple [Value.bool false].toArray:=rfl
   rw[this]
   refine .tup _ _ rfl fun i x y hx hy=>?_
   match i with
   | 0=>simp at hx hy;subst hx hy;exact .bool _
   | i+1=>simp at hx
  ·obtain ⟨i,hi⟩:=Iq.1 hnb
   have hl:i<es.size:=by have:=(AM.1 hi).1;have:=G.g2;have:=G.g4;omega
   have hei:=Dz hl
   have hbn:=(born i _ hei).1
   rw[hi]at hbn
   have hnn:n=es[i].born:=Fp hbn
   have hempty:leftOf es seen.toArray = #[]:=Array.eq_empty_of_size_eq_zero h0
   unfold leftOf at hempty
   rw[Array.filter_eq_empty_iff]at hempty
   have:=hempty es[i] (Array.getElem_mem hl)
   simp at this
   rw[hnn];exact this
 ·rw[hrun]
  simp only[Result.andThen]
  rw[Oper.upon_value,hod]
  unfold leftOf at he
  simp only[Array.toList_filter,List.mem_filter]at he
  obtain ⟨he1,he2⟩:=he
  obtain ⟨i,hi⟩:=Iq.1 he1
  have hei:es[i]?=some e:=by rw[← Em];exact hi
  obtain ⟨hbi,hik⟩:=born i e hei
  have hns:e.born ∉ seen:=by simpa using he2
  have hwU:∃ W1:World,W1=w1∧Inv N W0 U0 M a W1 U s:=by
   rcases hw1 with rfl|rfl
   ·exact ⟨_,rfl,h⟩
   ·exact ⟨_,rfl,h.ext (Ext.refl W U).drew⟩
  obtain ⟨W1,rfl,h1⟩:=hwU
  have hbr1:W1.heap[b]?=some (.mapIter (some m) clk seen.toArray clk):=(h1.ob b _ hb).1
  have hncb1:¬ DR W1 b:=by
   rintro ⟨c1,c2,c3,c4⟩
   rw[hbr1]at c4;cases c4
  have hlt1:b<W1.heap.size:=(BH.1 hbr1).1
  obtain ⟨⟨es1,g1',G1⟩,_⟩:=h1.mpR hm
  have hes:es1=es:=by
   have:W1.heap=W.heap:=by rcases hw1 with rfl|rfl<;>rfl
   rw[this,g1]at g1'
   cases g1';rfl
  subst hes
  have hkl:=G1.g3
  have hK':=IY (U:=U) (.mapIter (some m) clk (seen.toArray.push e.born) clk) hncb1 ((h1.ob _ _ hb).2.1 0)
  obtain ⟨a1,a2,_⟩:=G1.g7 i e hei
  have hkv:=a1 _ (getD_get (d:=.undef) hik)
  have hvv:=a2 _ (getD_get (d:=.undef) (by omega:i<vl.length))
  have hset:ChangeMaps.setBlock W1 b (.mapIter (some m) clk (seen.toArray.push e.born) clk)=C7 W1 b (.mapIter (some m) clk (seen.toArray.push e.born) clk):=rfl
  rw[hset]
  refine hn _ _ _ _ ((h1.setm hb hncb1 (cs':=[.mit m clk (seen++[e.born]) clk]) ?_ (H3 (by simp))).putO hd (v:=.tuple #[.bool true,e.key,e.val]) (r:=.tup [.bool true,kl.getD i .undef,vl.getD i .undef]) ?_ fun j _=>Sole.plain (by simp)) (hK1 i e.born hbi hns)
  ·show (C7 W1 b _).heap[b]?=_
   rw[JK _ hlt1];simp
  ·have:(Value.tuple #[.bool true,e.key,e.val])=.tuple [Value.bool true,e.key,e.val].toArray:=rfl
   rw[this]
   refine .tup _ _ rfl fun i' x y hx hy=>?_
   match i' with
   | 0=>simp at hx hy;subst hx hy;exact .bool _
   | 1=>simp[-List.getD_eq_getElem?_getD]at hx hy;subst hx hy;exact hkv.keep hK'
   | 2=>simp[-List.getD_eq_getElem?_getD]at hx hy;subst hx hy;exact hvv.keep hK'
   | i'+3=>simp at hx
theorem b1h(h:Inv N W0 U0 M a W U s){x:Operand}{X:Opd}(ho:o.op=.entry x)(hx:Au x=some X)(hr:AU P s (.ent X) r):VOK P a o W U r:=by
 obtain ⟨p,hp,hr⟩:=hr
 cases p<;>try exact hr.elim
 rename_i b
 obtain ⟨m,since,seen,last,kl,vl,bs,clk,i,n,hb,hm,rfl,hs,hbi,rfl⟩:=hr
 obtain ⟨⟨es,g1,G⟩,hnc⟩:=h.mpR hm
 have hit:=h.itp hx hp
 have hbr:W.heap[b]?=some (.mapIter (some m) since seen.toArray clk):=(h.ob b _ hb).1
 have hil:i<es.size:=by have:=(AM.1 hbi).1;have:=G.g2;have:=G.g4;omega
 have hei:=Dz hil
 obtain ⟨a1,a2,a3⟩:=G.g7 i _ hei
 have hbn:=a3 n hbi
 have hne:seen≠[]:=by rintro rfl;cases hs
 have hsp:seen.toArray=(seen.dropLast.toArray).push es[i].born:=by
  have:seen=seen.dropLast++[n]:=by
   have h2:=List.dropLast_concat_getLast hne
   rw[List.getLast?_eq_some_getLast hne]at hs
   rw[Fp hs]at h2
   exact h2.symm
  rw[hbn]
  conv=>lhs;rw[this]
  simp
 rw[hsp]at hbr
 have hnd:(es.toList.map (·.born)).Nodup:=by
  have e1:es.toList.map (·.born)=bs:=by
   apply F5
   intro j
   rw[B7]
   cases hj:es.toList[j]? with
   | none=>
    have:es.size≤j:=by simpa using hj
    have:=G.g2;have:=G.g4
    rw[FH (by omega)];rfl
   | some e=>
    have hej:es[j]?=some e:=by rw[← Em];exact hj
    have hl:j<bs.length:=by have:=(BH.1 hej).1;have:=G.g2;have:=G.g4;omega
    have:=(G.g7 j e hej).2.2 _ (Aw hl)
    rw[Aw hl,BE,this]
  rw[e1]
  exact G.g5.imp fun h=>Nat.ne_of_lt h
 have hrun:=run_entry_at (P:=P) W b m since seen.dropLast.toArray es clk es[i] hbr g1 (by simp) hnd
 have hik:i<kl.length:=by have:=G.g2;omega
 have hiv:i<vl.length:=by have:=G.g2;have:=G.g3;omega
 refine VOK.same (v:=.tuple #[es[i].key,es[i].val]) ?_ ((a1 _ (getD_get (d:=.undef) hik)).tup2 (a2 _ (getD_get (d:=.undef) hiv))) (by simp)
 simp only[execOp,ho,hit]
 simp[hrun]
end
section
variable {P:Program} {N:Nat} {W0:World} {U0:Nat→Nat→Prop} {M:Nat→Prop} {a:Act} {W:World} {U:Nat→Nat→Prop} {s:St} {o:Oper} {r:AV}
theorem b0W(h:Inv N W0 U0 M a W U s){t tx e i:Nat}{inf:TypeInfo}{x:Operand}{X:Opd}{d:Option Nat}(ho:o.op=.call { callee:=.builtin .append,args:=⟨[.tmp i,x]⟩,argTypes:=⟨[t,tx]⟩ })(hod:o.dst=d)(hd:∀ j,d=some j→j<N)
  (ht:P.underlying t=some (.slice e)) (hi:P.info? e=some inf) (htx:P.underlying tx=some .string) (hisz:inf.size=1) (hz:Fo P e=some 1) (hx:Au x=some X) (hr:AU P s (.apps e inf.bytes i X) r) {next:Act→World→Prop} {Q:Exit→Act→World→Prop}
  (hn:∀ a' W' U',Inv N W0 U0 M a' W' U' (B6 d (.apps e inf.bytes i X) r s)→next a' W'):o.wp P a W next Q:=by
 obtain ⟨els,l,hs0,hxv,hb0,hmx0,rfl⟩:=hr
 obtain ⟨sz,hsz1⟩:∃ sz,sz=1:=⟨_,rfl⟩
 have hsz:0<sz:=by omega
 rw[← hsz1]at hz hisz hs0
 obtain ⟨news,hnews0⟩:∃ news,news=l.map Bh:=⟨_,rfl⟩
 have hnl:news.length=l.length:=by rw[hnews0];simp
 rw[← hsz1, ← hnews0]at hn
 have hb:(els.length+news.length) * inf.bytes≤140737488355328:=by rw[hnl];exact hb0
 have hmx:els.length+news.length≤maxLen:=by rw[hnl];exact hmx0
 have hv:=h.tv i _ hs0
 have hw:=AW h hx hxv
 have hown:=h.ow (.t i) _ hs0
 simp only[Own1,AQ]at hown
 obtain ⟨z,hz1,hz2⟩:∃ z,inf.zero=some z∧z.cells.size=sz:=by
  simp only[Fo,hi,CY,BM]at hz
  exact hz
 -- it is enough to know what the append gives
 have key:∀ v' W' U',(Builtin.append_ #[t,tx] o.type #[a.eval (.tmp i),a.eval x]).run P W=.ok v' W'→Inv N W0 U0 M a W' U' { s with t:=upd s.t i none }→VR W' U' v' (.sl (some e) sz (els++news))→
   (∀ j,d=some j→Sole W0 M a W' U' { s with t:=upd s.t i none } j v' (.sl (some e) sz (els++news)))→o.wp P a W next Q:=by
  intro v' W' U' hrun hinv hvr hso
  unfold Oper.wp execOp
  simp only[ho,resolve,invoke,builtin,Sem.run_bind,Sem.run_pure,Result.andThen_ok,List.map_toArray,CX,List.map_nil]
  rw[show (#[a.eval (.tmp i),a.eval x]:Array Value)=⟨[a.eval (.tmp i),a.eval x]⟩ from rfl]at hrun
  rw[show (#[t,tx]:Array Nat)=⟨[t,tx]⟩ from rfl]at hrun
  rw[hrun]
  simp only[Result.andThen_ok,Oper.upon,hod]
  exact hn _ _ _ (hinv.putO hd hvr hso)
 have hle:Le { s with t:=upd s.t i none } s:=⟨fun j v hj=>by
  by_cases hji:j=i
  ·subst hji;simp[upd]at hj
  ·simpa[upd,hji]using hj,fun _ _ hj=>hj⟩
 have h':=h.le hle
 have hother:∀ ℓ e' sz' els',St.at { s with t:=upd s.t i none } ℓ=some (.sl (some e') sz' els')→ℓ ≠ .t i∧s.at ℓ=some (.sl (some e') sz' els'):=by
  intro ℓ e' sz' els' hl
  refine ⟨fun he=>?_,hle.at_ hl⟩
  subst he
  simp[St.at,upd]at hl
 generalize hval:a.eval (.tmp i)=val at *
 have hval':a.tmps.getD i undef=val:=hval
 rw[hval']at hv hown
 have hxs:a.eval x=.string ⟨l.toArray⟩:=hw.str_inv
 rw[hxs]at key
 obtain ⟨f2,hf2⟩:∃ f2:Nat→Nat→Value,f2=fun i _=>.int .u8 ((l.getD i 0).toNat:Int):=⟨_,rfl⟩
 have hs2:∀ e∈news,e.length=sz:=by
  intro e' he'
  rw[hnews0]at he'
  obtain ⟨b,_,rfl⟩:=Dp.1 he'
  simp[Bh,hsz1]
 have hc2:∀ i j,i<news.length→j<sz→True∧(f2 i j).oneCell'=true∧True:=fun i j _ _=>by subst hf2;exact ⟨trivial,rfl,trivial⟩
 have hv2:∀ (i:Nat) (e:List AV) (j:Nat) (c:AV),news[i]?=some e→e[j]?=some c→VR W U (f2 i j) c:=by
  intro i e' j c he hc
  rw[hnews0,B7,BM]at he
  obtain ⟨b,hb',rfl⟩:=he
  cases j with
  | succ j=>simp[Bh]at hc
  | zero=>
   simp[Bh]at hc
   subst hc
   rw[hf2]
   have:l.getD i 0=b:=by simp[List.getD,hb']
   simp only[this]
   exact .int _ _
 have hflat:AB f2 news.length sz=byteCells ⟨l.toArray⟩:=by
  rw[hf2,hsz1,hnl]
  apply F5
  intro p
  simp only[AB,byteCells,AN,Nat.div_one,B7]
  by_cases hp:p<l.length
  ·simp[hp,List.getD]
  ·simp[hp]
 have hsrc:Src P inf.size tx (.string ⟨l.toArray⟩) news.length (AB f2 news.length sz) W:=by
  rw[hflat,hisz,hsz1]
  have:=Src.ofString (P:=P) W htx ⟨l.toArray⟩
  rwa [Mp, ← hnl]at this
 have h1new:∀ u∈AB f2 news.length sz,u.oneCell'=true:=hsrc.one
 cases hv with
 | sl A1 cap1 _ _ b1 o1 _ f1 hcap1 hmax1 hA1 hs1 hc1 hv1=>
   have hsall:∀ e∈els++news,e.length=sz:=by
    intro e' he'
    rcases Bv.1 he' with he'|he'
    ·exact hs1 e' he'
    ·exact hs2 e' he'
   have hlen:(els++news).length=els.length+news.length:=Ao
   ·
    rcases hown with ⟨hnil,hn0⟩ | ⟨g,capg,cur,hsl,hB,⟨fz,hgh,hfz⟩,hgc,hgm,hgs,hgU1,hgU2⟩
    ·-- the row is nil
     have he0:els=[]:=Dn hn0
     subst he0
     simp only[Bj,AY,AH]at key hn hmx hb hlen hnil ⊢
     injection hnil with q1 q2 q3
     subst q1 q3
     by_cases hm:news.length=0
     ·have hn1:news=[]:=Dn hm
      subst hn1
      refine key (.slice none 0 0) W U ?_ h' (Gs (v:=.slice none 0 0) (c:=.sl (some e) sz []) rfl W U).1 (fun j hj e' sz' els' he'=>?_)
      ·have hl0:l=[]:=Dn (by rw[← hnl];rfl)
       subst hl0
       simp[Builtin.append_,run_underlying ht,run_underlying htx,sizeOf,typeInfo,hi,Builtin.lenOf,Builtin.firstCells,ByteArray.size]
      ·cases he'
       exact ⟨.inl ⟨rfl,rfl⟩,fun g hg=>by simp[Value.ownBlock]at hg⟩
     ·have hrun:(Builtin.append_ #[t,tx] o.type #[.slice none 0 0,.string ⟨l.toArray⟩]).run P W=.ok (.slice (some ⟨W.heap.size,0,none⟩) news.length (grownCap W news.length 0 e)) (W.drew.alloc (.cells ((AB f2 news.length sz).toArray++Builtin.zeroCells z.cells (grownCap W news.length 0 e - news.length)) e)):=by
       have:=run_append_grow_src (P:=P) W t tx o.type e inf z ht hi hz1 none 0 0 [] (by simp[Builtin.firstCells]) _ news.length (AB f2 news.length sz) hsrc (by omega) (by simp only[maxLen]at hmx;omega) (growslice_fits (by omega) (by simpa using hb))
       simpa using this
      have hE:Ext W U (W.drew.alloc (.cells ((AB f2 news.length sz).toArray++Builtin.zeroCells z.cells (grownCap W news.length 0 e - news.length)) e)) (fun k i=>if k=W.heap.size then news.length * sz≤i else U k i):=by
       have:=Ext.alloc W.drew U (.cells ((AB f2 news.length sz).toArray++Builtin.zeroCells z.cells (grownCap W news.length 0 e - news.length)) e) (fun i=>news.length * sz≤i)
       exact ⟨(Below.refl _ _).drew.alloc (A8 _) _,this.u⟩
      have hge:=grownCap_ge W news.length 0 e
      have hcm:=grownCap_le_maxLen W news.length 0 e hmx
      have hnew:=heap_alloc_new W.drew (.cells ((AB f2 news.length sz).toArray++Builtin.zeroCells z.cells (grownCap W news.length 0 e - news.length)) e)
      have hcsz:((AB f2 news.length sz).toArray++Builtin.zeroCells z.cells (grownCap W news.length 0 e - news.length)).size=grownCap W news.length 0 e * sz:=by
       simp only[G2,Ck,size_zeroCells,hz2,CE, ← Bp]
       congr 1
       omega
      refine key _ _ _ hrun (h'.ext hE) ?_ (fun j hj=>Sole.fresh h' hE ?_)
      ·refine Oq (f:=f2) hnew hge hcm hs2 (fun i j hi hj=>?_) (fun o ho hu=>?_) (fun i e' j c he hc=>(hv2 i e' j c he hc).keep hE.keeps)
       ·refine ⟨?_,(hc2 i j hi hj).2.1⟩
        have:=IF (f:=f2) hi hj
        rw[HK (by rw[Ck];exact (AM.1 this).1)]
        simpa using this
       ·have hu':news.length * sz≤o:=by simpa using hu
        omega
      ·refine .inr ⟨W.heap.size,_,_,rfl,A8 _,.of hnew,hge,hcm,hcsz,fun o ho hu=>?_,fun o ho=>?_⟩
       ·have hu':news.length * sz≤o:=by simpa using hu
        omega
       ·simpa using ho
    ·-- a row of its own
     have hb1:0<els.length→b1=g∧o1=0:=fun hp=>by
      have:=hA1 hp
      rw[this]at hsl
      injection hsl with h1 h2 h3
      injection h1 with h1
      injection h1 with h1 h2
      exact ⟨h1,h2⟩
     have hcur:∀ i j,i<els.length→j<sz→cur[i * sz+j]?=some (f1 i j):=by
      intro i j hi hj
      obtain ⟨rfl,rfl⟩:=hb1 (by omega)
      have:=(hc1 i j hi hj).1
      rw[AH]at this
      rw[← this,cell_of_row W b1 _ cur e fz hgh]
     have hold:∀ p v,(AB f1 els.length sz)[p]?=some v→W.cell? ((⟨g,0,none⟩:Addr).add p)=some v:=by
      intro p v hp
      obtain ⟨q1,q2,rfl,q4⟩:=Km hp
      rw[C0,AH,cell_of_row W g p cur e fz hgh]
      have:=hcur _ _ q1 q2
      rw[← q4]at this
      exact this
     injection hsl with hA1' hlen1 hcap1'
     subst hA1' hcap1'
     have hnog:s.o g=none:=h.no (.t i) _ _ _ hs0 g (by simp only[AQ,hval'];rfl)
     have hapg:∀ ℓ e' sz' els',St.at { s with t:=upd s.t i none } ℓ=some (.sl (some e') sz' els')→(AQ a W ℓ).ownBlock≠some g:=fun ℓ e' sz' els' hl=>by
      obtain ⟨hne,hl'⟩:=hother ℓ _ _ _ hl
      exact h.ap (.t i) ℓ _ _ _ _ _ _ (Ne.symm hne) hs0 hl' g (by simp only[AQ,hval'];rfl)
     by_cases hroom:els.length+news.length≤cap1
     ·-- in place
      have hfit:els.length * inf.size+(AB f2 news.length sz).length≤cur.size:=by
       rw[CE,hgs,hisz, ← Bp]
       exact Dq _ hroom
      have hrun:(Builtin.append_ #[t,tx] o.type #[.slice (some ⟨g,0,none⟩) els.length cap1,.string ⟨l.toArray⟩]).run P W=.ok (.slice (some ⟨g,0,none⟩) (els.length+news.length) cap1) (W.setRow g (cur.toList.take (els.length * inf.size)++AB f2 news.length sz++cur.toList.drop (els.length * inf.size+(AB f2 news.length sz).length)).toArray):=by
       have hst:=b0S (P:=P) W g (els.length * inf.size) e cur hgh hfz (AB f2 news.length sz) hfit h1new
       have hadd:(⟨g,0,none⟩:Addr).add (els.length * inf.size)=⟨g,els.length * inf.size,none⟩:=by rw[C0,AH]
       have hlen':=hsrc.len
       have hcel':=hsrc.cells
       simp only[Builtin.append_,EW,G5,List.getElem?_cons_succ,Sem.run_bind,run_underlying ht,run_underlying htx,sizeOf,typeInfo,hi,hlen',hcel',Result.andThen_ok]
       simp[hroom,hlen',hcel',hadd,hst,hi]
      rw[hisz]at hrun hfit
      have hnew:=setRow_heap W g cur (cur.toList.take (els.length * sz)++AB f2 news.length sz++cur.toList.drop (els.length * sz+(AB f2 news.length sz).length)).toArray e fz hgh
      have htk:(cur.toList.take (els.length * sz))=AB f1 els.length sz:=by
       apply F5
       intro p
       rcases FJ p (els.length * sz) with hp|hp
       ·have hp':p / sz<els.length:=(G7 hsz).2 hp
        have e4:p=p / sz * sz+p % sz:=by have:=F6 p sz;rw[EF]at this;omega
        rw[HM,Af hp,e4,IF hp' (EE _ hsz)]
        simpa using hcur _ _ hp' (EE _ hsz)
       ·rw[FH (by simp;omega),FH (by rw[CE];exact hp)]
      rw[htk]at hrun hnew
      have hcell:∀ i j,i<els.length+news.length→j<sz→(AB f1 els.length sz++AB f2 news.length sz++cur.toList.drop (els.length * sz+(AB f2 news.length sz).length)).toArray[i * sz+j]?=some (E9 els.length f1 f2 i j):=by
       intro i j hi hj
       have:=Pj (f:=f1) (g:=f2) hi hj
       rw[EW,CB (AM.1 this).1]
       exact this
      have hK:Keeps W U (W.setRow g (AB f1 els.length sz++AB f2 news.length sz++cur.toList.drop (els.length * sz+(AB f2 news.length sz).length)).toArray) (fun k i=>if k=g then (els.length+news.length) * sz≤i else U k i):=by
       refine ⟨fun b' o' v hc hu=>?_,fun b' ty ⟨c1,c3,c4⟩=>?_,fun b' es' clk' e' hu=>by
        have hne:b'≠g:=by rintro rfl;rw[hgh]at e';cases e'
        exact ⟨(setRow_other W g b' _ hne).trans e',by simp only[Ad hne];exact hu⟩⟩
       rotate_left
       ·by_cases hne:b'=g
        ·subst hne;have e4:=hgh.symm.trans c4;cases e4;exact ⟨_,_,hnew⟩
        ·exact ⟨c1,c3,(setRow_other W g b' _ hne).trans c4⟩
       by_cases hbg:b'=g
       ·subst hbg
        have hlt:o'<els.length * sz:=by
         rcases FJ o' (els.length * sz) with hl|hl
         ·exact hl
         ·exact absurd (hgU2 o' hl) hu
        have e4:o'=o' / sz * sz+o' % sz:=by have:=F6 o' sz;rw[EF]at this;omega
        have hp':o' / sz<els.length:=(G7 hsz).2 hlt
        refine ⟨?_, ?_⟩
        ·rw[cell_of_row _ b' o' _ e fz hnew]
         rw[cell_of_row W b' o' cur e fz hgh]at hc
         have h5:=hcell (o' / sz) (o' % sz) (by omega) (EE _ hsz)
         have h6:=hcur _ _ hp' (EE o' hsz)
         rw[← e4]at h5 h6
         rw[h5, ← hc,h6]
         simp[E9,hp']
        ·simp only[Bo]
         rw[Bp]
         omega
       ·refine ⟨?_,by simpa[hbg]using hu⟩
        rw[World.cell?_of_block (w:=W) (a:=⟨b',o',none⟩) (setRow_other W g b' _ hbg)]
        exact hc
      refine key _ _ (fun k i=>if k=g then (els.length+news.length) * sz≤i else U k i) hrun
       (h'.turn hB hnog hapg hK rfl rfl rfl (by simp) (fun k _ hk=>setRow_other W g k _ hk) (fun k _ hk o=>by simp[hk])) ?_ (fun j hj e' sz' els' he'=>?_)
      ·refine Ql (f:=E9 els.length f1 f2) hlen hnew hroom hgm hsall (fun i j hi hj=>⟨hcell i j hi hj, ?_⟩) (fun o ho hu=>?_) (Ph (fun i e' j c he hc=>(hv1 i e' j c he hc).keep hK) (fun i e' j c he hc=>(hv2 i e' j c he hc).keep hK))
       ·unfold E9
        by_cases hil:i<els.length
        ·rw[Af hil];exact (hc1 i j hil hj).2.1
        ·rw[Ad hil];exact (hc2 (i - els.length) j (by omega) hj).2.1
       ·simp only[Bo]at hu
        omega
      ·cases he'
       refine ⟨.inr ⟨g,cap1,_,by rw[hlen],hB,⟨fz,hnew,hfz.imp id fun q=>by simp only[Ck,Ao,Cc,EU,CE]at hfit ⊢;omega⟩,by omega,hgm, ?_,fun o ho hu=>?_,fun o ho=>?_⟩,fun g' hg'=>?_⟩
       ·simp only[Ck,Ao,Cc,EU,CE]at hfit ⊢
        omega
       ·simp only[Bo]at hu
        rw[hlen]at ho
        omega
       ·simp only[Bo]
        rw[hlen]at ho
        exact ho
       ·obtain rfl:g=g':=by simpa[Value.ownBlock]using hg'
        refine ⟨hnog,fun ℓ _ ⟨e2,sz2,els2,hl⟩=>?_⟩
        have hcat:AQ a (W.setRow g (AB f1 els.length sz++AB f2 news.length sz++cur.toList.drop (els.length * sz+(AB f2 news.length sz).length)).toArray) ℓ=AQ a W ℓ:=by
         cases ℓ with
         | t i=>rfl
         | o b j=>
          have hl2:=hl
          simp only[St.at,F9]at hl2
          obtain ⟨cs,e1,_⟩:=hl2
          have hne:b≠g:=by rintro rfl;rw[hnog]at e1;cases e1
          simp only[AQ,setRow_other W g b _ hne]
        rw[hcat]
        exact hapg ℓ _ _ _ hl
     ·-- a new row
      have hrun:(Builtin.append_ #[t,tx] o.type #[.slice (some ⟨g,0,none⟩) els.length cap1,.string ⟨l.toArray⟩]).run P W=.ok (.slice (some ⟨W.heap.size,0,none⟩) (els.length+news.length) (grownCap W (els.length+news.length) cap1 e)) (W.drew.alloc (.cells ((AB f1 els.length sz).toArray++(AB f2 news.length sz).toArray++Builtin.zeroCells z.cells (grownCap W (els.length+news.length) cap1 e - (els.length+news.length))) e)):=by
       have:=run_append_grow_src (P:=P) W t tx o.type e inf z ht hi hz1 (some ⟨g,0,none⟩) els.length cap1 (AB f1 els.length sz) (run_firstCells_some W.drew inf.size els.length ⟨g,0,none⟩ els.length cap1 _ (by rw[CE,hisz]) (by simpa using hold)) _ news.length (AB f2 news.length sz) hsrc (by omega) (by simp only[maxLen]at hmx;omega) (growslice_fits (by omega) hb)
       simpa using this
      have hge:=grownCap_ge W (els.length+news.length) cap1 e
      have hcm:=grownCap_le_maxLen W (els.length+news.length) cap1 e hmx
      have hnew:=heap_alloc_new W.drew (.cells ((AB f1 els.length sz).toArray++(AB f2 news.length sz).toArray++Builtin.zeroCells z.cells (grownCap W (els.length+news.length) cap1 e - (els.length+news.length))) e)
      have hE:Ext W U (W.drew.alloc (.cells ((AB f1 els.length sz).toArray++(AB f2 news.length sz).toArray++Builtin.zeroCells z.cells (grownCap W (els.length+news.length) cap1 e - (els.length+news.length))) e)) (fun k i=>if k=W.heap.size then (els.length+news.length) * sz≤i else U k i):=by
       have:=Ext.alloc W.drew U (.cells ((AB f1 els.length sz).toArray++(AB f2 news.length sz).toArray++Builtin.zeroCells z.cells (grownCap W (els.length+news.length) cap1 e - (els.length+news.length))) e) (fun i=>(els.length+news.length) * sz≤i)
       exact ⟨(Below.refl _ _).drew.alloc (A8 _) _,this.u⟩
      refine key _ _ _ hrun (h'.ext hE) ?_ (fun j hj=>Sole.fresh h' hE ?_)
      ·refine Ql (f:=E9 els.length f1 f2) hlen hnew hge hcm hsall (fun i j hi hj=>⟨?_, ?_⟩) (fun o ho hu=>?_) (Ph (fun i e' j c he hc=>(hv1 i e' j c he hc).keep hE.keeps) (fun i e' j c he hc=>(hv2 i e' j c he hc).keep hE.keeps))
       ·have:=Pj (f:=f1) (g:=f2) (by omega:i<els.length+news.length) hj
        rw[HK (by have h9:=(AM.1 this).1;simpa using h9)]
        simpa using this
       ·unfold E9
        by_cases hil:i<els.length
        ·rw[Af hil];exact (hc1 i j hil hj).2.1
        ·rw[Ad hil];exact (hc2 (i - els.length) j (by omega) hj).2.1
       ·have hu':(els.length+news.length) * sz≤o:=by simpa using hu
        omega
      ·refine .inr ⟨W.heap.size,_,_,by rw[hlen],A8 _,.of hnew,by omega,hcm, ?_,fun o ho hu=>?_,fun o ho=>?_⟩
       ·simp only[G2,Ck,size_zeroCells,hz2,CE, ← Bp]
        congr 1
        omega
       ·have hu':(els.length+news.length) * sz≤o:=by simpa using hu
        rw[hlen]at ho
        omega
       ·rw[hlen]at ho
        simpa using ho
end
theorem LD{α:Type}{sz:Nat}:∀ {els:List (List α)},(∀ e∈els,e.length=sz)→els.flatten.length=els.length * sz
 | [],_=>by simp
 | e::els,h=>by
  rw[List.flatten_cons,Ao,h e (by simp),LD (fun x hx=>h x (by simp[hx])),AJ,Bp];omega
theorem Xo{α:Type}{sz:Nat}:∀ {els:List (List α)},(∀ e∈els,e.length=sz)→∀ (i j:Nat) (e:List α),els[i]?=some e→j<sz→els.flatten[i * sz+j]?=e[j]?
 | [],_,i,j,e,h,_=>by simp at h
 | x::els,h,0,j,e,he,hj=>by
  simp at he;subst he
  rw[List.flatten_cons,CB (by rw[h x (by simp)];omega)];simp
 | x::els,h,i+1,j,e,he,hj=>by
  have hx:=h x (by simp)
  rw[List.flatten_cons,Cj (by rw[hx,Bp];omega),hx]
  have:(i+1) * sz+j - sz=i * sz+j:=by rw[Bp];omega
  rw[this]
  exact Xo (fun y hy=>h y (by simp[hy])) i j e (by simpa using he) hj
theorem IJ{sz cap:Nat}{els:List (List AV)}(h:∀ e∈els,e.length=sz):(hc sz cap els).length=(max cap els.length) * sz:=by
 unfold hc
 rw[Ao,List.length_replicate,LD h, ← Bp]
 congr 1;omega
theorem Ge{sz cap:Nat}{els:List (List AV)}(h:∀ e∈els,e.length=sz){i j:Nat}{e:List AV}(he:els[i]?=some e)(hj:j<sz):(hc sz cap els)[i * sz+j]?=e[j]?:=by
 have hi:i<els.length:=(AM.1 he).1
 unfold hc
 rw[CB,Xo h i j e he hj]
 rw[LD h]
 have:=Dq sz (show i+1≤els.length from hi)
 rw[Bp,F7]at this;omega
theorem II{sz cap:Nat}{els:List (List AV)}(hsz:0<sz)(h:∀ e∈els,e.length=sz){p:Nat}{c:AV}(hp:(hc sz cap els)[p]?=some c):(∃ e,els[p / sz]?=some e∧e[p % sz]?=some c)∨(c=.any∧els.length * sz≤p):=by
 have hdm:p / sz * sz+p % sz=p:=by rw[EF];exact F6 p sz
 rcases FJ p (els.length * sz) with hlt|hge
 ·have hi:p / sz<els.length:=(G7 hsz).2 hlt
  have:=Ge (cap:=cap) h (Aw hi) (EE p hsz)
  rw[hdm,hp]at this
  exact .inl ⟨_,Aw hi,this.symm⟩
 ·right
  unfold hc at hp
  rw[Cj (by rw[LD h];exact hge),List.getElem?_replicate]at hp
  split at hp
  ·exact ⟨by simpa using hp.symm,hge⟩
  ·cases hp
theorem b2a{W:World}{g:Nat}{cur:Array Value}{ty:TypeId}(h:W.heap[g]?=some (.cells cur ty (0,0))):W.setRow g cur=W:=by
 have e:W.setRow g cur={ W with heap:=W.heap }:=by
  unfold World.setRow
  congr 1
  apply Array.ext_getElem?
  intro i
  rw[Array.getElem?_modify]
  split
  ·rename_i e;subst e;rw[h];rfl
  ·rfl
 exact e
section
variable {P:Program} {N:Nat} {W0:World} {U0:Nat→Nat→Prop} {M:Nat→Prop} {a:Act} {W W':World} {U U':Nat→Nat→Prop} {s:St} {o:Oper} {r:AV}
theorem a0y(h:Inv N W0 U0 M a W U s){sz:Nat}(hsz:0<sz){v:Value}{q:AV}{news:List (List AV)}(hv:VR W U v q)(hs:Ms s.o sz q news):
  ∃ (A:Option Addr) (cap:Nat) (f:Nat→Nat→Value),v=.slice A news.length cap∧news.length≤cap∧(∀ e∈news,e.length=sz)∧(0<news.length→∃ ad,A=some ad∧∀ p u,(AB f news.length sz)[p]?=some u→W.cell? (ad.add p)=some u)∧
   (∀ i j,i<news.length→j<sz→(f i j).oneCell'=true)∧(∀ (i:Nat) (e:List AV) (j:Nat) (c:AV),news[i]?=some e→e[j]?=some c→VR W U (f i j) c):=by
 have obj:∀ (g a0 m cap cap':Nat) (A:Option Addr) (els:List (List AV)),s.o g=some (hc sz cap els)→(∀ e∈els,e.length=sz)→a0+m≤els.length→m≤cap'→(0<m→A=some ⟨g,a0 * sz,none⟩)→DR W g→news=(els.drop a0).take m→
   ∃ (A':Option Addr) (cap'':Nat) (f:Nat→Nat→Value),Value.slice A m cap'=.slice A' news.length cap''∧news.length≤cap''∧(∀ e∈news,e.length=sz)∧(0<news.length→∃ ad,A'=some ad∧∀ p u,(AB f news.length sz)[p]?=some u→W.cell? (ad.add p)=some u)∧
   (∀ i j,i<news.length→j<sz→(f i j).oneCell'=true)∧(∀ (i:Nat) (e:List AV) (j:Nat) (c:AV),news[i]?=some e→e[j]?=some c→VR W U (f i j) c):=by
  intro g a0 m cap cap' A els hg hl hm hmc hA hcell hn
  obtain ⟨vs,ty,g1,g2,g3,_,_⟩:=h.obc hg hcell
  have hlen:news.length=m:=by rw[hn];simp;omega
  have hget:∀ i,i<m→news[i]?=els[a0+i]?:=fun i hi=>by rw[hn,CW hi,CC]
  have hel:∀ i,i<m→∃ e,els[a0+i]?=some e:=fun i hi=>⟨_,Aw (by omega)⟩
  have hcells:∀ i j,i<m→j<sz→∃ e c,els[a0+i]?=some e∧e[j]?=some c∧(hc sz cap els)[(a0+i) * sz+j]?=some c:=fun i j hi hj=>by
   obtain ⟨e,he⟩:=hel i hi
   have hle:=hl e (Dd he)
   have hj':j<e.length:=by omega
   exact ⟨e,e[j],he,Aw hj',by rw[Ge hl he hj];exact Aw hj'⟩
  refine ⟨A,cap',fun i j=>vs.getD ((a0+i) * sz+j) undef,by rw[hlen],by omega,fun e he=>hl e (by rw[hn]at he;exact EY (EZ he)),fun hp=>⟨_,hA (by omega),fun p u hu=>?_⟩,fun i j hi hj=>?_,fun i e j c he hc'=>?_⟩
  ·obtain ⟨q1,q2,rfl,q4⟩:=Km hu
   rw[hlen]at q1
   obtain ⟨e,c,_,_,hx⟩:=hcells _ _ q1 q2
   have hlt:=(AM.1 hx).1
   rw[C0,cell_of_row W g _ vs _ (0,0) g1]
   have e1:a0 * sz+p=(a0+p / sz) * sz+p % sz:=by rw[Bp];omega
   rw[e1]
   have:(a0+p / sz) * sz+p % sz<vs.size:=by omega
   simp[this]
  ·obtain ⟨e,c,_,_,hx⟩:=hcells i j (by omega) hj
   exact (g3 _ _ hx).2
  ·have hi:i<m:=by have:=(AM.1 he).1;omega
   rw[hget i hi]at he
   have hj:j<sz:=by rw[← hl e (Dd he)];exact (AM.1 hc').1
   exact (g3 _ c (by rw[Ge hl he hj];exact hc')).1
 cases q<;>try exact hs.elim
 case sl own sz' els=>
  obtain ⟨rfl,rfl⟩:=hs
  cases hv with
  | sl A cap _ _ b o2 _ f hcap hmax hA hsl hcc hvv=>
   refine ⟨A,cap,f,rfl,hcap,hsl,fun hp=>⟨_,hA hp,fun p u hu=>?_⟩,fun i j hi hj=>(hcc i j hi hj).2.1,hvv⟩
   obtain ⟨q1,q2,rfl,q4⟩:=Km hu
   have e1:o2+p=o2+p / sz' * sz'+p % sz':=by omega
   rw[C0,e1]
   exact (hcc _ _ q1 q2).1
 case hsl g e sz' n cap=>
  obtain ⟨rfl,els,hg,hl,hn,rfl⟩:=hs
  cases hv with
  | hsl _ _ _ _ _ h1 h2 hm=>
   obtain ⟨c1,c2,c3⟩:=hm
   exact obj g 0 n cap cap _ els hg hl (by omega) h1 (fun _=>by simp) ⟨_,_,_,c3⟩ (by simp)
 case hss g sz' a0 m=>
  obtain ⟨rfl,cap,els,hg,hl,hn,rfl⟩:=hs
  cases hv with
  | hss A _ _ _ _ cap' h1 h2 hA hm=>exact obj g a0 m cap cap' A els hg hl hn h1 hA hm rfl
 case hnil e sz'=>
  obtain ⟨rfl,rfl⟩:=hs
  cases hv with
  | hnil=>exact ⟨none,0,fun _ _=>undef,rfl,by simp,by simp,by simp,by simp,by simp⟩
theorem Nz{z:Array Value}{n:Nat}{u:Value}(h:u∈Builtin.zeroCells z n):u∈z:=by
 simp only[Builtin.zeroCells,Array.mem_map,Array.mem_range]at h
 obtain ⟨i,hi,rfl⟩:=h
 have h0:0<z.size:=by
  rcases Gv z.size with e|e
  ·rw[e]at hi;simp at hi
  ·exact e
 have:=EE i h0
 simp[this]
theorem Inv.drop(h:Inv N W0 U0 M a W U s)(g:Nat):Inv N W0 U0 M a W U { s with o:=upd s.o g none }:=h.le ⟨fun _ _ hv=>hv,fun b cs hb=>by
 simp only[upd]at hb
 split at hb
 ·cases hb
 ·exact hb⟩
theorem Fh{sz cap:Nat}{els:List (List AV)}(hsz:0<sz)(h:∀ e∈els,e.length=sz)(hn:noOwn els){p:Nat}{c:AV}(hp:(hc sz cap els)[p]?=some c):(∀ t k l,c ≠ .sl (some t) k l)∧∀ t,c ≠ .nilT t:=by
 rcases II hsz h hp with ⟨e,h1,h2⟩ | ⟨rfl,_⟩
 ·exact hn e (Dd h1) c (Dd h2)
 ·exact ⟨fun t k l e=>(by cases e),fun t e=>(by cases e)⟩
theorem Jw{cs:List AV}(h:∀ c,cs[0]?=some c→∀ t,c ≠ .nilT t):∀ u,CG cs≠some u:=by
 intro u hu
 cases cs with
 | nil=>cases hu
 | cons c r=>
  cases c<;>simp[CG]at hu
  exact h _ rfl _ rfl
theorem a0g(h:Inv N W0 U0 M a W U s){t e sz:Nat}{inf:TypeInfo}{xd x:Operand}{io:Option Nat}{X:Opd}{d:Option Nat}(ho:o.op=.call { callee:=.builtin .append,args:=⟨[xd,x]⟩,argTypes:=⟨[t,t]⟩ })(hod:o.dst=d)(hd:∀ j,d=some j→j<N)
  (ht:P.underlying t=some (.slice e)) (hi:P.info? e=some inf) (hisz:inf.size=sz) (hsz:0<sz) (hz:Fo P e=some sz) (hzo:(zeroOf P e).isSome=true) (hx:Au x=some X) (hxd:(xd=.const (.slice none 0 0)∧io=none)∨∃ i,xd=.tmp i∧io=some i)
  {K:St→Prop} (hK:∃ p q,Se s e sz io=some p∧X.ev s=some q∧MV e sz inf.bytes s.o q (fun r o=>K (St.put ⟨s.t,o⟩ d r)) p) {next:Act→World→Prop} {Q:Exit→Act→World→Prop}
  (hn:∀ a' W' U' s',Inv N W0 U0 M a' W' U' s'→K s'→next a' W'):o.wp P a W next Q:=by
 obtain ⟨p,q,hp,hq,hH⟩:=hK
 have hw:=AW h hx hq
 have hpv:VR W U (a.eval xd) p:=by
  rcases hxd with ⟨rfl,rfl⟩ | ⟨i,rfl,rfl⟩
  ·simp only[Se,Az]at hp;subst hp;exact .hnil e sz
  ·exact h.tv i p hp
 obtain ⟨z,hz1,hz2⟩:∃ z,inf.zero=some z∧z.cells.size=sz:=by
  simp only[Fo,hi,CY,BM]at hz
  exact hz
 have hz3:∀ u∈z.cells,u.oneCell'=true:=by
  obtain ⟨zc,hzc⟩:=Option.isSome_iff_exists.1 hzo
  obtain ⟨i2,zv,q1,q2,q3⟩:=KX hzc
  rw[hi]at q1;cases q1
  rw[hz1]at q2;cases q2
  obtain ⟨q4,q5⟩:=KW q3
  intro u hu
  obtain ⟨j,hj,rfl⟩:=Array.getElem_of_mem hu
  have hj':j<zc.length:=by simp at q4;omega
  exact (Gs (q5 j _ _ (by simp[hj]) (Aw hj')) W U).2.1
 have hz4:∀ n, ∀ u∈Builtin.zeroCells z.cells n,u.oneCell'=true:=fun n u hu=>hz3 u (Nz hu)
 -- a new block
 have fresh:∀ (L:List Value) (E:List (List AV)) (cap:Nat),E.length≤cap→(∀ e∈E,e.length=sz)→noOwn E→L.length=E.length * sz→(∀ u∈L,u.oneCell'=true)→
   (∀ (i:Nat) (e:List AV) (j:Nat) (c:AV),E[i]?=some e→e[j]?=some c→VR W U (L.getD (i * sz+j) undef) c)→
   Inv N W0 U0 M a (W.drew.alloc (.cells (L.toArray++Builtin.zeroCells z.cells (cap - E.length)) e)) (fun k i=>if k=W.heap.size then True else U k i) { s with o:=upd s.o W.heap.size (some (hc sz cap E)) }:=by
  intro L E cap hc1 hl hno hL h1 hv
  have hd:=h.ext (Ext.refl W U).drew
  have hlen:=IJ (cap:=cap) hl
  refine hd.newo (vs:=L.toArray++Builtin.zeroCells z.cells (cap - E.length)) (cs:=hc sz cap E) (ty:=e) ?_ (fun u hu=>absurd hu (Jw (fun c hc=>(Fh hsz hl hno hc).2) u)) fun j u hu=>⟨?_,fun x hx=>⟨?_,fun t k l ex=>absurd ex ((Fh hsz hl hno hx).1 t k l)⟩⟩
  ·rw[hlen]
   simp only[G2,Ck,size_zeroCells,hz2,hL, ← Bp]
   congr 1;omega
  ·have:=Array.mem_of_getElem? hu
   simp only[Array.mem_append,List.mem_toArray]at this
   rcases this with h'|h'
   ·exact h1 u h'
   ·exact hz4 _ u h'
  ·rcases II hsz hl hx with ⟨e',q1,q2⟩ | ⟨rfl,_⟩
   ·have hi':j / sz<E.length:=(AM.1 q1).1
    have hdm:j / sz * sz+j % sz=j:=by rw[EF];exact F6 j sz
    have hjl:j<L.length:=by
     have:=Dq sz (show j / sz+1≤E.length from hi')
     rw[Bp,F7]at this
     have:=EE j hsz;omega
    have hv':=hv _ _ _ _ q1 q2
    rw[hdm]at hv'
    rw[HK (by simpa using hjl)]at hu
    have:L.getD j undef=u:=by simp at hu;simp[List.getD,hu]
    rw[this]at hv'
    exact hv'.keep (Ext.refl W U).drew.keeps
   ·exact .any _
 have key:∀ v' W' U' o' r',(Builtin.append_ #[t,t] o.type #[a.eval xd,a.eval x]).run P W=.ok v' W'→Inv N W0 U0 M a W' U' { s with o:=o' }→VR W' U' v' r'→(∀ e sz els,r' ≠ .sl (some e) sz els)→K (St.put ⟨s.t,o'⟩ d r')→o.wp P a W next Q:=by
  intro v' W' U' o' r' hrun hinv hvr hso hK
  unfold Oper.wp execOp
  simp only[ho,resolve,invoke,builtin,Sem.run_bind,Sem.run_pure,Result.andThen_ok,List.map_toArray,CX,List.map_nil]
  rw[show (#[a.eval xd,a.eval x]:Array Value)=⟨[a.eval xd,a.eval x]⟩ from rfl]at hrun
  rw[show (#[t,t]:Array Nat)=⟨[t,t]⟩ from rfl]at hrun
  rw[hrun]
  simp only[Result.andThen_ok,Oper.upon,hod]
  exact hn _ _ _ _ (hinv.putO hd hvr fun j _=>Sole.plain hso) hK
 generalize hval:a.eval xd=val at *
 generalize hxval:a.eval x=xval at *
 cases p<;>try exact hH.elim
 case hnil e' sz'=>
  obtain ⟨rfl,news,hs,hno,⟨hb,hmx⟩,hK0,hK1⟩:=hH
  obtain ⟨A,cap,f,rfl,hcap,hl,hA,h1,hv⟩:=a0y h hsz hw hs
  cases hpv
  by_cases hm:news.length=0
  ·have hn0:news=[]:=Dn hm
   subst hn0
   refine key (.slice none 0 0) W U s.o (.hnil e sz') ?_ h (.hnil _ _) (by simp) (hK0 rfl)
   cases A<;>simp[Builtin.append_,run_underlying ht,sizeOf,typeInfo,hi,Builtin.lenOf,Builtin.firstCells,loadCells,loadCellsFrom,storeCells]
  ·obtain ⟨ad,rfl,hnews⟩:=hA (by omega)
   have hrun:=run_append_nil (P:=P) W t o.type e inf z ht hi hz1 ad news.length cap (AB f news.length sz') (by rw[CE,hisz]) hnews (by omega) (by simp only[maxLen]at hmx;omega) (by omega)
   have hge:=grownCap_ge W news.length 0 e
   have hcm:=grownCap_le_maxLen W news.length 0 e hmx
   have hI:=fresh (AB f news.length sz') news (grownCap W news.length 0 e) hge hl hno (CE _ _ _) (Nq h1) (fun i e' j c he hc'=>by
    have hil:i<news.length:=(AM.1 he).1
    have hj:j<sz':=by rw[← hl e' (Dd he)];exact (AM.1 hc').1
    have hg:=IF (f:=f) hil hj
    have:(AB f news.length sz').getD (i * sz'+j) undef=f i j:=by simp[List.getD,hg]
    rw[this]
    exact hv i e' j c he hc')
   have hnone:s.o W.heap.size=none:=by
    cases hs:s.o W.heap.size with
    | none=>rfl
    | some c=>have:=h.ob_lt _ _ hs;omega
   exact key _ _ _ _ (.hsl W.heap.size e sz' news.length (grownCap W news.length 0 e)) hrun hI (.hsl _ _ _ _ _ hge hcm ⟨_,_,heap_alloc_new W.drew _⟩) (by simp) (hK1 (by omega) _ hnone _ hge)
 case hsl g e' sz' n cap'=>
  obtain ⟨⟨rfl,rfl⟩,news,els,hs,hno,hg,hle,hnoe,⟨hnl,hlc⟩,⟨hb,hmx⟩,hK⟩:=hH
  obtain ⟨A,cap,f,rfl,hcap,hl,hA,h1,hv⟩:=a0y h hsz hw hs
  cases hpv with
  | hsl _ _ _ _ _ hn1 hn2 hm=>
  obtain ⟨c1,c2,c3⟩:=hm
  obtain ⟨vs,ty,g1,g2,g3,g4,g5⟩:=h.obc hg ⟨_,_,_,c3⟩
  have hty:ty.1=e':=by rw[c3]at g1;cases g1;rfl
  rw[hty]at g1
  have hlen:=IJ (cap:=cap') hle
  have hvsz:vs.size=cap' * sz':=by rw[g2,hlen];congr 1;omega
  have hfull:∀ x∈els.take n++news,x.length=sz':=fun x hx=>by
   rcases Bv.1 hx with hx|hx
   ·exact hle x (EZ hx)
   ·exact hl x hx
  have hnof:noOwn (els.take n++news):=fun x hx=>by
   rcases Bv.1 hx with hx|hx
   ·exact hnoe x (EZ hx)
   ·exact hno x hx
  have hlE:(els.take n++news).length=n+news.length:=by simp;omega
  have hold:∀ i j,i<n→j<sz'→vs.getD (i * sz'+j) undef=vs.getD (i * sz'+j) undef∧i * sz'+j<vs.size∧i * sz'+j<n * sz':=fun i j hi hj=>by
   have:=Dq sz' (show i+1≤n from hi)
   have h3:=Dq sz' hn1
   rw[Bp,F7]at this
   exact ⟨rfl,by omega,by omega⟩
  have hoV:∀ (i:Nat) (x:List AV) (j:Nat) (c:AV),i<n→els[i]?=some x→x[j]?=some c→VR W U (vs.getD (i * sz'+j) undef) c:=fun i x j c hi hx hc'=>by
   have hj:j<sz':=by rw[← hle x (Dd hx)];exact (AM.1 hc').1
   exact (g3 _ c (by rw[Ge hle hx hj];exact hc')).1
  have hone:∀ j,j<vs.size→(vs.getD j undef).oneCell'=true:=fun j hj=>by
   have hj':j<(hc sz' cap' els).length:=by omega
   exact (g3 j _ (Aw hj')).2
  have hdrop:∀ {W':World} {U':Nat→Nat→Prop} {g':Nat} {cs:List AV},Inv N W0 U0 M a W' U' { s with o:=upd s.o g' (some cs) }→g≠g'→Inv N W0 U0 M a W' U' { s with o:=upd (upd s.o g none) g' (some cs) }:=fun {W' U' g' cs} hI hne=>by
   have:=hI.drop g
   rwa [show ({ s with o:=upd (upd s.o g' (some cs)) g none }:St)={ s with o:=upd (upd s.o g none) g' (some cs) } by rw[N9 _ _ _ (Ne.symm hne)]]at this
  have hgg:upd s.o g none g=none:=by simp[upd]
  by_cases hm:news.length=0
  ·have hn0:news=[]:=Dn hm
   subst hn0
   have hI:=h.seto (b:=g) (cs':=hc sz' cap' (els.take n++[])) (vs':=vs) hg g1 (by rw[IJ hfull,hlen];congr 1;simp;omega) rfl (fun j c hj=>?_) (fun u hu=>absurd hu (Jw (fun c hc'=>(Fh hsz hfull hnof hc').2) u)) (fun j t k l hj=>absurd rfl ((Fh hsz hfull hnof hj).1 t k l))
   ·rw[b2a g1]at hI
    refine key (.slice (some ⟨g,0,none⟩) n cap') W U (upd (upd s.o g none) g (some (hc sz' cap' (els.take n++[])))) (.hsl g e' sz' (n+0) cap') ?_ ?_ (.hsl _ _ _ _ _ hn1 hn2 ⟨_,_,c3⟩) (by simp) (hK g hgg cap' (by simpa using hn1))
    ·cases A<;>simp[Builtin.append_,run_underlying ht,sizeOf,typeInfo,hi,Builtin.lenOf,hn1,Builtin.firstCells,loadCells,loadCellsFrom,storeCells]
    ·have:upd (upd s.o g none) g (some (hc sz' cap' (els.take n++[])))=upd s.o g (some (hc sz' cap' (els.take n++[]))):=by funext k;simp[upd];split<;>rfl
     rw[this];exact hI
   ·have hjl:j<vs.size:=by
     have:=(AM.1 hj).1
     rw[IJ hfull]at this
     rw[hvsz]
     have h9:max cap' (els.take n++([]:List (List AV))).length=cap':=by simp;omega
     rw[h9]at this;exact this
    refine ⟨?_,hone j hjl⟩
    rcases II hsz hfull hj with ⟨x,q1,q2⟩ | ⟨rfl,_⟩
    ·have hdm:j / sz' * sz'+j % sz'=j:=by rw[EF];exact F6 j sz'
     have hi2:j / sz'<n:=by have:=(AM.1 q1).1;simp at this;omega
     rw[Jb,CW hi2]at q1
     have:=hoV _ _ _ _ hi2 q1 q2
     rwa [hdm]at this
    ·exact .any _
  ·obtain ⟨ad,rfl,hnews⟩:=hA (by omega)
   have hnsz:n * sz'≤vs.size:=by rw[hvsz];exact Dq _ hn1
   -- the row behind it: its first cells
   have hL:((vs.toList.take (n * sz'))++AB f news.length sz').length=(els.take n++news).length * sz':=by
    rw[hlE,Ao,BL,CE,Bp];simp;omega
   have hL1:∀ u∈(vs.toList.take (n * sz'))++AB f news.length sz',u.oneCell'=true:=fun u hu=>by
    rcases Bv.1 hu with hu|hu
    ·obtain ⟨j,hj,rfl⟩:=Do (EZ hu)
     have hj':j<vs.size:=by simpa using hj
     have:=hone j hj'
     simpa[hj']using this
    ·exact Nq h1 u hu
   have hLV:∀ (i:Nat) (x:List AV) (j:Nat) (c:AV),(els.take n++news)[i]?=some x→x[j]?=some c→VR W U (((vs.toList.take (n * sz'))++AB f news.length sz').getD (i * sz'+j) undef) c:=fun i x j c hx hc'=>by
    have hj:j<sz':=by rw[← hfull x (Dd hx)];exact (AM.1 hc').1
    have hle1:(vs.toList.take (n * sz')).length=n * sz':=by simp;omega
    by_cases hi':i<n
    ·rw[CB (by simp;omega),CW hi']at hx
     obtain ⟨_,o1,o2⟩:=hold i j hi' hj
     have:((vs.toList.take (n * sz'))++AB f news.length sz').getD (i * sz'+j) undef=vs.getD (i * sz'+j) undef:=by
      rw[List.getD,CB (by omega),CW o2]
      simp[o1]
     rw[this]
     exact hoV i x j c hi' hx hc'
    ·have hlt:=(AM.1 hx).1
     rw[Cj (by simp;omega)]at hx
     have e1:(els.take n).length=n:=by simp;omega
     rw[e1]at hx
     have hin:i - n<news.length:=by rw[hlE]at hlt;omega
     have hgg2:=IF (f:=f) hin hj
     have:((vs.toList.take (n * sz'))++AB f news.length sz').getD (i * sz'+j) undef=f (i - n) j:=by
      rw[List.getD,Cj (by rw[hle1];have:=Dq sz' (show n≤i by omega);omega),hle1]
      have:i * sz'+j - n * sz'=(i - n) * sz'+j:=by rw[Nat.sub_mul];have:=Dq sz' (show n≤i by omega);omega
      rw[this,hgg2];rfl
     rw[this]
     exact hv _ x j c hx hc'
   by_cases hroom:n+news.length≤cap'
   ·-- in place
    have hfit:n * inf.size+(AB f news.length sz').length≤vs.size:=by
     rw[CE,hvsz,hisz, ← Bp]
     exact Dq _ hroom
    have hrun:=run_append_room (P:=P) W t o.type e' inf ht hi g n cap' vs g1 ad news.length cap (AB f news.length sz') (by rw[CE,hisz]) hnews (Nq h1) hroom hfit
    rw[hisz]at hrun hfit
    have hsz2:(vs.toList.take (n * sz')++AB f news.length sz'++vs.toList.drop (n * sz'+(AB f news.length sz').length)).toArray.size=vs.size:=by
     simp only[Ck,Ao,BL,Cc,EU]
     omega
    have hget:∀ j,j<(n+news.length) * sz'→(vs.toList.take (n * sz')++AB f news.length sz'++vs.toList.drop (n * sz'+(AB f news.length sz').length)).toArray.getD j undef=((vs.toList.take (n * sz'))++AB f news.length sz').getD j undef:=fun j hj=>by
     rw[hlE]at hL
     rw[Cu,EW,CB (by omega)];rfl
    have hI:=h.seto (b:=g) (cs':=hc sz' cap' (els.take n++news)) (vs':=(vs.toList.take (n * sz')++AB f news.length sz'++vs.toList.drop (n * sz'+(AB f news.length sz').length)).toArray) hg g1 (by rw[IJ hfull,hlen,hlE];congr 1;omega) hsz2 (fun j c hj=>?_) (fun u hu=>absurd hu (Jw (fun c hc'=>(Fh hsz hfull hnof hc').2) u)) (fun j t k l hj=>absurd rfl ((Fh hsz hfull hnof hj).1 t k l))
    ·refine key _ _ U (upd (upd s.o g none) g (some (hc sz' cap' (els.take n++news)))) (.hsl g e' sz' (n+news.length) cap') hrun ?_ (.hsl _ _ _ _ _ hroom hn2 ⟨_,_,setRow_heap W g vs _ e' (0,0) g1⟩) (by simp) (hK g hgg cap' hroom)
     have:upd (upd s.o g none) g (some (hc sz' cap' (els.take n++news)))=upd s.o g (some (hc sz' cap' (els.take n++news))):=by funext k;simp[upd];split<;>rfl
     rw[this];exact hI
    ·rcases II hsz hfull hj with ⟨x,q1,q2⟩ | ⟨rfl,hge2⟩
     ·have hdm:j / sz' * sz'+j % sz'=j:=by rw[EF];exact F6 j sz'
      have hi2:j / sz'<n+news.length:=by have:=(AM.1 q1).1;omega
      have hjl:j<(n+news.length) * sz':=(G7 hsz).1 hi2
      rw[hget j hjl]
      have h8:=hLV _ _ _ _ q1 q2
      rw[hdm]at h8
      refine ⟨h8, ?_⟩
      rw[hlE]at hL
      exact hL1 _ (by rw[Jf,Aw (by omega)];exact Di _)
     ·refine ⟨.any _, ?_⟩
      have hjl:j<vs.size:=by
       have:=(AM.1 hj).1
       rw[IJ hfull,hlE]at this
       rw[hvsz]
       have h9:max cap' (n+news.length)=cap':=by omega
       rw[h9]at this;exact this
      rw[hlE]at hge2
      have e9:(AB f news.length sz').length=news.length * sz':=CE _ _ _
      rw[Bp]at hge2
      rw[Cu,EW,Cj (by simp;omega),CC]
      have e10:n * sz'+(AB f news.length sz').length+(j - (vs.toList.take (n * sz')++AB f news.length sz').length)=j:=by
       simp only[Ao,BL,EU,e9];omega
      rw[e10]
      have:=hone j hjl
      simpa[hjl]using this
   ·-- a new row
    have hold2:∀ p v,(vs.toList.take (n * sz'))[p]?=some v→W.cell? ((⟨g,0,none⟩:Addr).add p)=some v:=fun p v hp=>by
     rw[C0,AH,cell_of_row W g p vs e' (0,0) g1]
     have hlt:=(AM.1 hp).1
     rw[CW (by simp at hlt;omega)]at hp
     simpa using hp
    have hrun:=run_append_grow (P:=P) W t o.type e' inf z ht hi hz1 ⟨g,0,none⟩ n cap' (vs.toList.take (n * sz')) (by rw[hisz];simp;omega) hold2 ad news.length cap (AB f news.length sz') (by rw[CE,hisz]) hnews (by omega)
     (by simp only[maxLen]at hmx;omega) (growslice_fits (by omega) hb)
    have hge:=grownCap_ge W (n+news.length) cap' e'
    have hcm:=grownCap_le_maxLen W (n+news.length) cap' e' hmx
    have hI:=fresh ((vs.toList.take (n * sz'))++AB f news.length sz') (els.take n++news) (grownCap W (n+news.length) cap' e') (by rw[hlE];exact hge) hfull hnof hL hL1 hLV
    have hnone:s.o W.heap.size=none:=by
     cases hs:s.o W.heap.size with
     | none=>rfl
     | some c=>have:=h.ob_lt _ _ hs;omega
    have hne:g≠W.heap.size:=fun e1=>by rw[e1,hnone]at hg;cases hg
    have hrun':(Builtin.append_ #[t,t] o.type #[.slice (some ⟨g,0,none⟩) n cap',.slice (some ad) news.length cap]).run P W=.ok (.slice (some ⟨W.heap.size,0,none⟩) (n+news.length) (grownCap W (n+news.length) cap' e')) (W.drew.alloc (.cells (((vs.toList.take (n * sz'))++AB f news.length sz').toArray++Builtin.zeroCells z.cells (grownCap W (n+news.length) cap' e' - (els.take n++news).length)) e')):=by
     rw[hrun,hlE];simp
    exact key _ _ _ _ (.hsl W.heap.size e' sz' (n+news.length) (grownCap W (n+news.length) cap' e')) hrun' (hdrop hI hne) (.hsl _ _ _ _ _ hge hcm ⟨_,_,heap_alloc_new W.drew _⟩) (by simp) (hK _ (by simp[upd,hnone]) _ hge)
theorem a5z{els:List (List AV)}(h:Hv els=true):noOwn els:=fun e he c hc=>by
 have:=Ew.1 (Ew.1 h e he) c hc
 refine ⟨fun t k l e'=>?_,fun t e'=>?_⟩ <;> · subst e';simp at this
theorem b1l(h:Inv N W0 U0 M a W U s){t e sz n:Nat}{parts:Array (Nat × Operand)}{ps:List Opd}{d:Option Nat}(ho:o.op=.buildSlice t n parts)(hod:o.dst=d)(hd:∀ j,d=some j→j<N)(ht:isSlice P t=some (e,sz))(hp:Jk parts.toList 0=some ps)(hl:ps.length=n)(hm:n * sz≤16777216)(hpos:0<n * sz)
  (hz:Fo P e=some sz) {K:St→Prop} (hK:kW P d (.hbs e sz ps) s K) {next:Act→World→Prop} {Q:Exit→Act→World→Prop} (hn:∀ a' W' U' s',Inv N W0 U0 M a' W' U' s'→K s'→next a' W'):o.wp P a W next Q:=by
 obtain ⟨vs,hvs,⟨hall,hno⟩,hcont⟩:=hK
 obtain ⟨hmax,hvn,hsz,A,hrun,hA,hget⟩:=UM h ho ht hp hl hm hpos hz hvs hall
 have hno':=a5z hno
 have hlen:∀ x∈vs.map AV.cells,x.length=sz:=fun x hx=>by
  obtain ⟨v,hv,rfl⟩:=Dp.1 hx;exact hall v hv
 have hcl:(hc sz vs.length (vs.map AV.cells)).length=n * sz:=by rw[IJ hlen,Ax,hvn];congr 1;omega
 have hI:=h.newo (vs:=A) (cs:=hc sz vs.length (vs.map AV.cells)) (ty:=e) (by rw[hA,hcl]) (fun u hu=>absurd hu (Jw (fun c hc'=>(Fh hsz hlen hno' hc').2) u)) (fun j u hu=>by
  have hj:j<n * sz:=by rw[← hA];exact (BH.1 hu).1
  have hk:j / sz<n:=(G7 hsz).2 hj
  have hdm:j / sz * sz+j % sz=j:=by rw[EF];exact F6 j sz
  obtain ⟨v,u',q1,q2,q3,q4⟩:=hget (j / sz) (j % sz) hk (EE j hsz)
  rw[hdm,hu]at q2
  cases q2
  refine ⟨q3,fun x hx=>⟨?_,fun t' k' l' ex=>absurd ex ((Fh hsz hlen hno' hx).1 t' k' l')⟩⟩
  rcases II hsz hlen hx with ⟨x',r1,r2⟩ | ⟨rfl,_⟩
  ·rw[B7,q1]at r1
   simp only[BE,Az]at r1
   subst r1
   exact q4 x r2
  ·exact .any _)
 unfold Oper.wp
 rw[hrun]
 simp only[Oper.upon,hod]
 have hnone:s.o W.heap.size=none:=by
  cases hs:s.o W.heap.size with
  | none=>rfl
  | some c=>have:=h.ob_lt _ _ hs;omega
 refine hn _ _ _ _ (hI.putO hd (r:=.hsl W.heap.size e sz vs.length vs.length) (by rw[hvn];exact .hsl _ _ _ _ _ (A8 _) hmax ⟨_,_,heap_alloc_new W _⟩) fun j _=>Sole.plain fun _ _ _ ex=>by cases ex) (hcont _ hnone)
theorem b1m{x:Operand}{e sz:Nat}(ho:o.op=.move x∨o.op=.assign x)(hx:x=.const (.slice none 0 0))(hr:AU P s (.hnl e sz) r):VOK P a o W U r:=by
 obtain rfl:=hr
 subst hx
 refine VOK.same (v:=.slice none 0 0) ?_ (.hnil e sz) (by simp)
 rcases ho with ho|ho<;>simp[execOp,ho,Act.eval]
theorem b1n(h:Inv N W0 U0 M a W U s){t:TypeId}{e:Nat}{i:TypeInfo}{x:Operand}{lo hi:Option Operand}{X:Opd}{LO HI:Option Opd}(ho:o.op=.slice t x lo hi none)(ht:P.underlying t=some (.slice e))(hi':P.info? e=some i)
  (hx:Au x=some X) (hlo:E3 lo=some LO) (hhi:E3 hi=some HI) (hr:AU P s (.hslc i.size X LO HI) r):VOK P a o W U r:=by
 obtain ⟨p,x1,y1,hp,h1,h2,hR⟩:=hr
 have hv:=AW h hx hp
 generalize hval:a.eval x=val at hv
 cases p<;>(try (cases hn:LO.isNone<;>rw[hn]at hR<;>exact hR.elim))
 case sl own sz l=>
  have hR':sz=i.size∧(x1≤y1∧y1≤l.length)∧r=.sl none i.size ((l.take y1).drop x1):=by cases hn:LO.isNone<;>rw[hn]at hR<;>exact hR
  obtain ⟨rfl,h3,rfl⟩:=hR'
  exact a0j h ho ht hi' hx hlo hhi ⟨own,l,x1,y1,hp,h1,h2,h3,rfl⟩
 case hsl g e' sz n cap=>
  cases hv with
  | hsl _ _ _ _ _ hn1 hn2 hm=>
  obtain ⟨c1,c2,c3⟩:=hm
  cases hn:LO.isNone with
  | true=>
   rw[hn]at hR
   obtain ⟨rfl,⟨rfl,h4⟩,rfl⟩:=hR
   have hb:=Mk (P:=P) (a:=a) (W:=W) h hlo hhi (len:=n) (cap:=cap) h1 h2 (Nat.zero_le _) h4 hn1 true
   refine VOK.same (v:=.slice (some ⟨g,0,none⟩) y1 cap) ?_ (.hsl _ _ _ _ _ (by omega) hn2 ⟨c1,c2,c3⟩) (by simp)
   simp[execOp,ho,Instr.sliceAt,run_underlying ht,Instr.slice,hval,hb,sizeOf,typeInfo,hi',C0]
  | false=>
   rw[hn]at hR
   obtain ⟨rfl,⟨h3,h4⟩,rfl⟩:=hR
   have hb:=Mk (P:=P) (a:=a) (W:=W) h hlo hhi (len:=n) (cap:=cap) h1 h2 h3 h4 hn1 true
   refine VOK.same (v:=.slice (if cap=x1 then some ⟨g,0,none⟩ else some ⟨g,x1 * i.size,none⟩) (y1 - x1) (cap - x1)) ?_ (.hss _ _ _ _ _ _ (by omega) (by omega) (fun hp=>by rw[Ad (by omega)]) ⟨_,_,_,c3⟩) (by simp)
   simp[execOp,ho,Instr.sliceAt,run_underlying ht,Instr.slice,hval,hb,sizeOf,typeInfo,hi',C0]
 case hss g sz a0 m=>
  have hR':sz=i.size∧(x1≤y1∧y1≤m)∧r=.hss g sz (a0+x1) (y1 - x1):=by cases hn:LO.isNone<;>rw[hn]at hR<;>exact hR
  obtain ⟨rfl,⟨h3,h4⟩,rfl⟩:=hR'
  cases hv with
  | hss A _ _ _ _ cap hm1 hm2 hA hm=>
  have hb:=Mk (P:=P) (a:=a) (W:=W) h hlo hhi (len:=m) (cap:=cap) h1 h2 h3 h4 hm1 true
  refine VOK.same (v:=.slice (if cap=x1 then A else A.map (·.add (x1 * i.size))) (y1 - x1) (cap - x1)) ?_ (.hss _ _ _ _ _ _ (by omega) (by omega) (fun hp=>?_) hm) (by simp)
  ·simp[execOp,ho,Instr.sliceAt,run_underlying ht,Instr.slice,hval,hb,sizeOf,typeInfo,hi']
  ·rw[Ad (by omega),hA (by omega)]
   simp[C0,Bp]
 case hnil e' sz=>
  have hR':(x1=0∧y1=0)∧r=.hnil e' sz:=by cases hn:LO.isNone<;>rw[hn]at hR<;>exact hR
  obtain ⟨⟨rfl,rfl⟩,rfl⟩:=hR'
  cases hv
  have hb:=Mk (P:=P) (a:=a) (W:=W) h hlo hhi (len:=0) (cap:=0) h1 h2 (A8 0) (Nat.zero_le _) (by simp[Ko]) true
  refine VOK.same (v:=.slice none 0 0) ?_ (.hnil _ _) (by simp)
  simp[execOp,ho,Instr.sliceAt,run_underlying ht,Instr.slice,hval,hb,sizeOf,typeInfo,hi']
end
end Go.Proofs.YtfgihnhoocnmdaaGreatDoor
