import Derived.Test.YtfgihnhoocnmdaaGreatDoorK3
import Derived.Test.YtfgihnhoocnmdaaGreatDoorK5
import Derived.Test.YtfgihnhoocnmdaaGreatDoorK4
namespace Go.Proofs.YtfgihnhoocnmdaaGreatDoor
set_option linter.all false
set_option maxHeartbeats 9000000
section
open Go.RowKit
theorem flatten_len{α:Type}{sz:Nat}:∀ {els:List (List α)},(∀ e∈els,e.length=sz)→els.flatten.length=els.length * sz
 | [],_=>by simp
 | e::els,h=>by
  rw[List.flatten_cons,List.length_append,h e (by simp),flatten_len (fun x hx=>h x (by simp[hx])),List.length_cons,Nat.add_mul];omega
theorem flatten_get{α:Type}{sz:Nat}:∀ {els:List (List α)},(∀ e∈els,e.length=sz)→∀ (i j:Nat) (e:List α),els[i]?=some e→j<sz→els.flatten[i * sz+j]?=e[j]?
 | [],_,i,j,e,h,_=>by simp at h
 | x::els,h,0,j,e,he,hj=>by
  simp at he;subst he
  rw[List.flatten_cons,List.getElem?_append_left (by rw[h x (by simp)];omega)];simp
 | x::els,h,i+1,j,e,he,hj=>by
  have hx:=h x (by simp)
  rw[List.flatten_cons,List.getElem?_append_right (by rw[hx,Nat.add_mul];omega),hx]
  have:(i+1) * sz+j - sz=i * sz+j:=by rw[Nat.add_mul];omega
  rw[this]
  exact flatten_get (fun y hy=>h y (by simp[hy])) i j e (by simpa using he) hj
theorem hc_len{sz cap:Nat}{els:List (List AV)}(h:∀ e∈els,e.length=sz):(hc sz cap els).length=(max cap els.length) * sz:=by
 unfold hc
 rw[List.length_append,List.length_replicate,flatten_len h, ← Nat.add_mul]
 congr 1;omega
theorem hc_get{sz cap:Nat}{els:List (List AV)}(h:∀ e∈els,e.length=sz){i j:Nat}{e:List AV}(he:els[i]?=some e)(hj:j<sz):(hc sz cap els)[i * sz+j]?=e[j]?:=by
 have hi:i<els.length:=(List.getElem?_eq_some_iff.1 he).1
 unfold hc
 rw[List.getElem?_append_left,flatten_get h i j e he hj]
 rw[flatten_len h]
 have:=Nat.mul_le_mul_right sz (show i+1≤els.length from hi)
 rw[Nat.add_mul,Nat.one_mul]at this;omega
theorem hc_cases{sz cap:Nat}{els:List (List AV)}(hsz:0<sz)(h:∀ e∈els,e.length=sz){p:Nat}{c:AV}(hp:(hc sz cap els)[p]?=some c):(∃ e,els[p / sz]?=some e∧e[p % sz]?=some c)∨(c=.any∧els.length * sz≤p):=by
 have hdm:p / sz * sz+p % sz=p:=by rw[Nat.mul_comm];exact Nat.div_add_mod p sz
 rcases Nat.lt_or_ge p (els.length * sz) with hlt|hge
 ·have hi:p / sz<els.length:=(Nat.div_lt_iff_lt_mul hsz).2 hlt
  have:=hc_get (cap:=cap) h (List.getElem?_eq_getElem hi) (Nat.mod_lt p hsz)
  rw[hdm,hp]at this
  exact .inl ⟨_,List.getElem?_eq_getElem hi,this.symm⟩
 ·right
  unfold hc at hp
  rw[List.getElem?_append_right (by rw[flatten_len h];exact hge),List.getElem?_replicate]at hp
  split at hp
  ·exact ⟨by simpa using hp.symm,hge⟩
  ·cases hp
theorem setRow_same{W:World}{g:Nat}{cur:Array Value}{ty:TypeId}(h:W.heap[g]?=some (.cells cur ty (0,0))):W.setRow g cur=W:=by
 have e:W.setRow g cur={ W with heap:=W.heap }:=by
  unfold World.setRow
  congr 1
  apply Array.ext_getElem?
  intro i
  rw[Array.getElem?_modify]
  split
  ·rename_i e;subst e;rw[h];rfl
  ·rfl
 exact e
section
variable {P:Program} {N:Nat} {W0:World} {U0:Nat→Nat→Prop} {M:Nat→Prop} {a:Act} {W W':World} {U U':Nat→Nat→Prop} {s:St} {o:Oper} {r:AV}
theorem a8Y(h:Inv N W0 U0 M a W U s){sz:Nat}(hsz:0<sz){v:Value}{q:AV}{news:List (List AV)}(hv:VR W U v q)(hs:b9b s.o sz q news):
  ∃ (A:Option Addr) (cap:Nat) (f:Nat→Nat→Value),v=.slice A news.length cap∧news.length≤cap∧(∀ e∈news,e.length=sz)∧(0<news.length→∃ ad,A=some ad∧∀ p u,(a0e f news.length sz)[p]?=some u→W.cell? (ad.add p)=some u)∧
   (∀ i j,i<news.length→j<sz→(f i j).oneCell'=true)∧(∀ (i:Nat) (e:List AV) (j:Nat) (c:AV),news[i]?=some e→e[j]?=some c→VR W U (f i j) c):=by
 have obj:∀ (g a0 m cap cap':Nat) (A:Option Addr) (els:List (List AV)),s.o g=some (hc sz cap els)→(∀ e∈els,e.length=sz)→a0+m≤els.length→m≤cap'→(0<m→A=some ⟨g,a0 * sz,none⟩)→a0D W g→news=(els.drop a0).take m→
   ∃ (A':Option Addr) (cap'':Nat) (f:Nat→Nat→Value),Value.slice A m cap'=.slice A' news.length cap''∧news.length≤cap''∧(∀ e∈news,e.length=sz)∧(0<news.length→∃ ad,A'=some ad∧∀ p u,(a0e f news.length sz)[p]?=some u→W.cell? (ad.add p)=some u)∧
   (∀ i j,i<news.length→j<sz→(f i j).oneCell'=true)∧(∀ (i:Nat) (e:List AV) (j:Nat) (c:AV),news[i]?=some e→e[j]?=some c→VR W U (f i j) c):=by
  intro g a0 m cap cap' A els hg hl hm hmc hA hcell hn
  obtain ⟨vs,ty,g1,g2,g3,_,_⟩:=h.obc hg hcell
  have hlen:news.length=m:=by rw[hn];simp;omega
  have hget:∀ i,i<m→news[i]?=els[a0+i]?:=fun i hi=>by rw[hn,List.getElem?_take_of_lt hi,List.getElem?_drop]
  have hel:∀ i,i<m→∃ e,els[a0+i]?=some e:=fun i hi=>⟨_,List.getElem?_eq_getElem (by omega)⟩
  have hcells:∀ i j,i<m→j<sz→∃ e c,els[a0+i]?=some e∧e[j]?=some c∧(hc sz cap els)[(a0+i) * sz+j]?=some c:=fun i j hi hj=>by
   obtain ⟨e,he⟩:=hel i hi
   have hle:=hl e (List.mem_of_getElem? he)
   have hj':j<e.length:=by omega
   exact ⟨e,e[j],he,List.getElem?_eq_getElem hj',by rw[hc_get hl he hj];exact List.getElem?_eq_getElem hj'⟩
  refine ⟨A,cap',fun i j=>vs.getD ((a0+i) * sz+j) undef,by rw[hlen],by omega,fun e he=>hl e (by rw[hn]at he;exact List.mem_of_mem_drop (List.mem_of_mem_take he)),fun hp=>⟨_,hA (by omega),fun p u hu=>?_⟩,fun i j hi hj=>?_,fun i e j c he hc'=>?_⟩
  ·obtain ⟨q1,q2,rfl,q4⟩:=flatV_some hu
   rw[hlen]at q1
   obtain ⟨e,c,_,_,hx⟩:=hcells _ _ q1 q2
   have hlt:=(List.getElem?_eq_some_iff.1 hx).1
   rw[a0B,cell_of_row W g _ vs _ (0,0) g1]
   have e1:a0 * sz+p=(a0+p / sz) * sz+p % sz:=by rw[Nat.add_mul];omega
   rw[e1]
   have:(a0+p / sz) * sz+p % sz<vs.size:=by omega
   simp[this]
  ·obtain ⟨e,c,_,_,hx⟩:=hcells i j (by omega) hj
   exact (g3 _ _ hx).2
  ·have hi:i<m:=by have:=(List.getElem?_eq_some_iff.1 he).1;omega
   rw[hget i hi]at he
   have hj:j<sz:=by rw[← hl e (List.mem_of_getElem? he)];exact (List.getElem?_eq_some_iff.1 hc').1
   exact (g3 _ c (by rw[hc_get hl he hj];exact hc')).1
 cases q<;>try exact hs.elim
 case sl own sz' els=>
  obtain ⟨rfl,rfl⟩:=hs
  cases hv with
  | sl A cap _ _ b o2 _ f hcap hmax hA hsl hcc hvv=>
   refine ⟨A,cap,f,rfl,hcap,hsl,fun hp=>⟨_,hA hp,fun p u hu=>?_⟩,fun i j hi hj=>(hcc i j hi hj).2.1,hvv⟩
   obtain ⟨q1,q2,rfl,q4⟩:=flatV_some hu
   have e1:o2+p=o2+p / sz' * sz'+p % sz':=by omega
   rw[a0B,e1]
   exact (hcc _ _ q1 q2).1
 case hsl g e sz' n cap=>
  obtain ⟨rfl,els,hg,hl,hn,rfl⟩:=hs
  cases hv with
  | hsl _ _ _ _ _ h1 h2 hm=>
   obtain ⟨c1,c2,c3⟩:=hm
   exact obj g 0 n cap cap _ els hg hl (by omega) h1 (fun _=>by simp) ⟨_,_,_,c3⟩ (by simp)
 case hss g sz' a0 m=>
  obtain ⟨rfl,cap,els,hg,hl,hn,rfl⟩:=hs
  cases hv with
  | hss A _ _ _ _ cap' h1 h2 hA hm=>exact obj g a0 m cap cap' A els hg hl hn h1 hA hm rfl
 case hnil e sz'=>
  obtain ⟨rfl,rfl⟩:=hs
  cases hv with
  | hnil=>exact ⟨none,0,fun _ _=>undef,rfl,by simp,by simp,by simp,by simp,by simp⟩
theorem mem_zeroCells{z:Array Value}{n:Nat}{u:Value}(h:u∈Builtin.zeroCells z n):u∈z:=by
 simp only[Builtin.zeroCells,Array.mem_map,Array.mem_range]at h
 obtain ⟨i,hi,rfl⟩:=h
 have h0:0<z.size:=by
  rcases Nat.eq_zero_or_pos z.size with e|e
  ·rw[e]at hi;simp at hi
  ·exact e
 have:=Nat.mod_lt i h0
 simp[this]
theorem Inv.drop(h:Inv N W0 U0 M a W U s)(g:Nat):Inv N W0 U0 M a W U { s with o:=upd s.o g none }:=h.le ⟨fun _ _ hv=>hv,fun b cs hb=>by
 simp only[upd]at hb
 split at hb
 ·cases hb
 ·exact hb⟩
theorem noOwn_cell{sz cap:Nat}{els:List (List AV)}(hsz:0<sz)(h:∀ e∈els,e.length=sz)(hn:noOwn els){p:Nat}{c:AV}(hp:(hc sz cap els)[p]?=some c):(∀ t k l,c ≠ .sl (some t) k l)∧∀ t,c ≠ .nilT t:=by
 rcases hc_cases hsz h hp with ⟨e,h1,h2⟩ | ⟨rfl,_⟩
 ·exact hn e (List.mem_of_getElem? h1) c (List.mem_of_getElem? h2)
 ·exact ⟨fun t k l e=>(by cases e),fun t e=>(by cases e)⟩
theorem headT_no{cs:List AV}(h:∀ c,cs[0]?=some c→∀ t,c ≠ .nilT t):∀ u,a1p cs≠some u:=by
 intro u hu
 cases cs with
 | nil=>cases hu
 | cons c r=>
  cases c<;>simp[a1p]at hu
  exact h _ rfl _ rfl
theorem b6F(h:Inv N W0 U0 M a W U s){t e sz:Nat}{inf:TypeInfo}{xd x:Operand}{io:Option Nat}{X:Opd}{d:Option Nat}(ho:o.op=.call { callee:=.builtin .append,args:=⟨[xd,x]⟩,argTypes:=⟨[t,t]⟩ })(hod:o.dst=d)(hd:∀ j,d=some j→j<N)
  (ht:P.underlying t=some (.slice e)) (hi:P.info? e=some inf) (hisz:inf.size=sz) (hsz:0<sz) (hz:a0y P e=some sz) (hzo:(zeroOf P e).isSome=true) (hx:a0j x=some X) (hxd:(xd=.const (.slice none 0 0)∧io=none)∨∃ i,xd=.tmp i∧io=some i)
  {K:St→Prop} (hK:∃ p q,b7V s e sz io=some p∧X.ev s=some q∧b5I e sz inf.bytes s.o q (fun r o=>K (St.put ⟨s.t,o⟩ d r)) p) {next:Act→World→Prop} {Q:Exit→Act→World→Prop}
  (hn:∀ a' W' U' s',Inv N W0 U0 M a' W' U' s'→K s'→next a' W'):o.wp P a W next Q:=by
 obtain ⟨p,q,hp,hq,hH⟩:=hK
 have hw:=a0a h hx hq
 have hpv:VR W U (a.eval xd) p:=by
  rcases hxd with ⟨rfl,rfl⟩ | ⟨i,rfl,rfl⟩
  ·simp only[b7V,Option.some.injEq]at hp;subst hp;exact .hnil e sz
  ·exact h.tv i p hp
 obtain ⟨z,hz1,hz2⟩:∃ z,inf.zero=some z∧z.cells.size=sz:=by
  simp only[a0y,hi,Option.bind_some,Option.map_eq_some_iff]at hz
  exact hz
 have hz3:∀ u∈z.cells,u.oneCell'=true:=by
  obtain ⟨zc,hzc⟩:=Option.isSome_iff_exists.1 hzo
  obtain ⟨i2,zv,q1,q2,q3⟩:=zeroOf_spec hzc
  rw[hi]at q1;cases q1
  rw[hz1]at q2;cases q2
  obtain ⟨q4,q5⟩:=zVRs_get q3
  intro u hu
  obtain ⟨j,hj,rfl⟩:=Array.getElem_of_mem hu
  have hj':j<zc.length:=by simp at q4;omega
  exact (zVR_sound (q5 j _ _ (by simp[hj]) (List.getElem?_eq_getElem hj')) W U).2.1
 have hz4:∀ n, ∀ u∈Builtin.zeroCells z.cells n,u.oneCell'=true:=fun n u hu=>hz3 u (mem_zeroCells hu)
 -- a new block
 have fresh:∀ (L:List Value) (E:List (List AV)) (cap:Nat),E.length≤cap→(∀ e∈E,e.length=sz)→noOwn E→L.length=E.length * sz→(∀ u∈L,u.oneCell'=true)→
   (∀ (i:Nat) (e:List AV) (j:Nat) (c:AV),E[i]?=some e→e[j]?=some c→VR W U (L.getD (i * sz+j) undef) c)→
   Inv N W0 U0 M a (W.drew.alloc (.cells (L.toArray++Builtin.zeroCells z.cells (cap - E.length)) e)) (fun k i=>if k=W.heap.size then True else U k i) { s with o:=upd s.o W.heap.size (some (hc sz cap E)) }:=by
  intro L E cap hc1 hl hno hL h1 hv
  have hd:=h.ext (Ext.refl W U).drew
  have hlen:=hc_len (cap:=cap) hl
  refine hd.newo (vs:=L.toArray++Builtin.zeroCells z.cells (cap - E.length)) (cs:=hc sz cap E) (ty:=e) ?_ (fun u hu=>absurd hu (headT_no (fun c hc=>(noOwn_cell hsz hl hno hc).2) u)) fun j u hu=>⟨?_,fun x hx=>⟨?_,fun t k l ex=>absurd ex ((noOwn_cell hsz hl hno hx).1 t k l)⟩⟩
  ·rw[hlen]
   simp only[Array.size_append,List.size_toArray,size_zeroCells,hz2,hL, ← Nat.add_mul]
   congr 1;omega
  ·have:=Array.mem_of_getElem? hu
   simp only[Array.mem_append,List.mem_toArray]at this
   rcases this with h'|h'
   ·exact h1 u h'
   ·exact hz4 _ u h'
  ·rcases hc_cases hsz hl hx with ⟨e',q1,q2⟩ | ⟨rfl,_⟩
   ·have hi':j / sz<E.length:=(List.getElem?_eq_some_iff.1 q1).1
    have hdm:j / sz * sz+j % sz=j:=by rw[Nat.mul_comm];exact Nat.div_add_mod j sz
    have hjl:j<L.length:=by
     have:=Nat.mul_le_mul_right sz (show j / sz+1≤E.length from hi')
     rw[Nat.add_mul,Nat.one_mul]at this
     have:=Nat.mod_lt j hsz;omega
    have hv':=hv _ _ _ _ q1 q2
    rw[hdm]at hv'
    rw[Array.getElem?_append_left (by simpa using hjl)]at hu
    have:L.getD j undef=u:=by simp at hu;simp[List.getD,hu]
    rw[this]at hv'
    exact hv'.keep (Ext.refl W U).drew.keeps
   ·exact .any _
 have key:∀ v' W' U' o' r',(Builtin.append_ #[t,t] o.type #[a.eval xd,a.eval x]).run P W=.ok v' W'→Inv N W0 U0 M a W' U' { s with o:=o' }→VR W' U' v' r'→(∀ e sz els,r' ≠ .sl (some e) sz els)→K (St.put ⟨s.t,o'⟩ d r')→o.wp P a W next Q:=by
  intro v' W' U' o' r' hrun hinv hvr hso hK
  unfold Oper.wp execOp
  simp only[ho,resolve,invoke,builtin,Sem.run_bind,Sem.run_pure,Result.andThen_ok,List.map_toArray,List.map_cons,List.map_nil]
  rw[show (#[a.eval xd,a.eval x]:Array Value)=⟨[a.eval xd,a.eval x]⟩ from rfl]at hrun
  rw[show (#[t,t]:Array Nat)=⟨[t,t]⟩ from rfl]at hrun
  rw[hrun]
  simp only[Result.andThen_ok,Oper.upon,hod]
  exact hn _ _ _ _ (hinv.putO hd hvr fun j _=>Sole.plain hso) hK
 generalize hval:a.eval xd=val at *
 generalize hxval:a.eval x=xval at *
 cases p<;>try exact hH.elim
 case hnil e' sz'=>
  obtain ⟨rfl,news,hs,hno,⟨hb,hmx⟩,hK0,hK1⟩:=hH
  obtain ⟨A,cap,f,rfl,hcap,hl,hA,h1,hv⟩:=a8Y h hsz hw hs
  cases hpv
  by_cases hm:news.length=0
  ·have hn0:news=[]:=List.eq_nil_of_length_eq_zero hm
   subst hn0
   refine key (.slice none 0 0) W U s.o (.hnil e sz') ?_ h (.hnil _ _) (by simp) (hK0 rfl)
   cases A<;>simp[Builtin.append_,run_underlying ht,sizeOf,typeInfo,hi,Builtin.lenOf,Builtin.firstCells,loadCells,loadCellsFrom,storeCells]
  ·obtain ⟨ad,rfl,hnews⟩:=hA (by omega)
   have hrun:=run_append_nil (P:=P) W t o.type e inf z ht hi hz1 ad news.length cap (a0e f news.length sz') (by rw[a0c,hisz]) hnews (by omega) (by simp only[maxLen]at hmx;omega) (by omega)
   have hge:=grownCap_ge W news.length 0 e
   have hcm:=grownCap_le_maxLen W news.length 0 e hmx
   have hI:=fresh (a0e f news.length sz') news (grownCap W news.length 0 e) hge hl hno (a0c _ _ _) (flat_mem h1) (fun i e' j c he hc'=>by
    have hil:i<news.length:=(List.getElem?_eq_some_iff.1 he).1
    have hj:j<sz':=by rw[← hl e' (List.mem_of_getElem? he)];exact (List.getElem?_eq_some_iff.1 hc').1
    have hg:=flatV_get (f:=f) hil hj
    have:(a0e f news.length sz').getD (i * sz'+j) undef=f i j:=by simp[List.getD,hg]
    rw[this]
    exact hv i e' j c he hc')
   have hnone:s.o W.heap.size=none:=by
    cases hs:s.o W.heap.size with
    | none=>rfl
    | some c=>have:=h.ob_lt _ _ hs;omega
   exact key _ _ _ _ (.hsl W.heap.size e sz' news.length (grownCap W news.length 0 e)) hrun hI (.hsl _ _ _ _ _ hge hcm ⟨_,_,heap_alloc_new W.drew _⟩) (by simp) (hK1 (by omega) _ hnone _ hge)
 case hsl g e' sz' n cap'=>
  obtain ⟨⟨rfl,rfl⟩,news,els,hs,hno,hg,hle,hnoe,⟨hnl,hlc⟩,⟨hb,hmx⟩,hK⟩:=hH
  obtain ⟨A,cap,f,rfl,hcap,hl,hA,h1,hv⟩:=a8Y h hsz hw hs
  cases hpv with
  | hsl _ _ _ _ _ hn1 hn2 hm=>
  obtain ⟨c1,c2,c3⟩:=hm
  obtain ⟨vs,ty,g1,g2,g3,g4,g5⟩:=h.obc hg ⟨_,_,_,c3⟩
  have hty:ty.1=e':=by rw[c3]at g1;cases g1;rfl
  rw[hty]at g1
  have hlen:=hc_len (cap:=cap') hle
  have hvsz:vs.size=cap' * sz':=by rw[g2,hlen];congr 1;omega
  have hfull:∀ x∈els.take n++news,x.length=sz':=fun x hx=>by
   rcases List.mem_append.1 hx with hx|hx
   ·exact hle x (List.mem_of_mem_take hx)
   ·exact hl x hx
  have hnof:noOwn (els.take n++news):=fun x hx=>by
   rcases List.mem_append.1 hx with hx|hx
   ·exact hnoe x (List.mem_of_mem_take hx)
   ·exact hno x hx
  have hlE:(els.take n++news).length=n+news.length:=by simp;omega
  have hold:∀ i j,i<n→j<sz'→vs.getD (i * sz'+j) undef=vs.getD (i * sz'+j) undef∧i * sz'+j<vs.size∧i * sz'+j<n * sz':=fun i j hi hj=>by
   have:=Nat.mul_le_mul_right sz' (show i+1≤n from hi)
   have h3:=Nat.mul_le_mul_right sz' hn1
   rw[Nat.add_mul,Nat.one_mul]at this
   exact ⟨rfl,by omega,by omega⟩
  have hoV:∀ (i:Nat) (x:List AV) (j:Nat) (c:AV),i<n→els[i]?=some x→x[j]?=some c→VR W U (vs.getD (i * sz'+j) undef) c:=fun i x j c hi hx hc'=>by
   have hj:j<sz':=by rw[← hle x (List.mem_of_getElem? hx)];exact (List.getElem?_eq_some_iff.1 hc').1
   exact (g3 _ c (by rw[hc_get hle hx hj];exact hc')).1
  have hone:∀ j,j<vs.size→(vs.getD j undef).oneCell'=true:=fun j hj=>by
   have hj':j<(hc sz' cap' els).length:=by omega
   exact (g3 j _ (List.getElem?_eq_getElem hj')).2
  have hdrop:∀ {W':World} {U':Nat→Nat→Prop} {g':Nat} {cs:List AV},Inv N W0 U0 M a W' U' { s with o:=upd s.o g' (some cs) }→g≠g'→Inv N W0 U0 M a W' U' { s with o:=upd (upd s.o g none) g' (some cs) }:=fun {W' U' g' cs} hI hne=>by
   have:=hI.drop g
   rwa [show ({ s with o:=upd (upd s.o g' (some cs)) g none }:St)={ s with o:=upd (upd s.o g none) g' (some cs) } by rw[upd_comm _ _ _ (Ne.symm hne)]]at this
  have hgg:upd s.o g none g=none:=by simp[upd]
  by_cases hm:news.length=0
  ·have hn0:news=[]:=List.eq_nil_of_length_eq_zero hm
   subst hn0
   have hI:=h.seto (b:=g) (cs':=hc sz' cap' (els.take n++[])) (vs':=vs) hg g1 (by rw[hc_len hfull,hlen];congr 1;simp;omega) rfl (fun j c hj=>?_) (fun u hu=>absurd hu (headT_no (fun c hc'=>(noOwn_cell hsz hfull hnof hc').2) u)) (fun j t k l hj=>absurd rfl ((noOwn_cell hsz hfull hnof hj).1 t k l))
   ·rw[setRow_same g1]at hI
    refine key (.slice (some ⟨g,0,none⟩) n cap') W U (upd (upd s.o g none) g (some (hc sz' cap' (els.take n++[])))) (.hsl g e' sz' (n+0) cap') ?_ ?_ (.hsl _ _ _ _ _ hn1 hn2 ⟨_,_,c3⟩) (by simp) (hK g hgg cap' (by simpa using hn1))
    ·cases A<;>simp[Builtin.append_,run_underlying ht,sizeOf,typeInfo,hi,Builtin.lenOf,hn1,Builtin.firstCells,loadCells,loadCellsFrom,storeCells]
    ·have:upd (upd s.o g none) g (some (hc sz' cap' (els.take n++[])))=upd s.o g (some (hc sz' cap' (els.take n++[]))):=by funext k;simp[upd];split<;>rfl
     rw[this];exact hI
   ·have hjl:j<vs.size:=by
     have:=(List.getElem?_eq_some_iff.1 hj).1
     rw[hc_len hfull]at this
     rw[hvsz]
     have h9:max cap' (els.take n++([]:List (List AV))).length=cap':=by simp;omega
     rw[h9]at this;exact this
    refine ⟨?_,hone j hjl⟩
    rcases hc_cases hsz hfull hj with ⟨x,q1,q2⟩ | ⟨rfl,_⟩
    ·have hdm:j / sz' * sz'+j % sz'=j:=by rw[Nat.mul_comm];exact Nat.div_add_mod j sz'
     have hi2:j / sz'<n:=by have:=(List.getElem?_eq_some_iff.1 q1).1;simp at this;omega
     rw[List.append_nil,List.getElem?_take_of_lt hi2]at q1
     have:=hoV _ _ _ _ hi2 q1 q2
     rwa [hdm]at this
    ·exact .any _
  ·obtain ⟨ad,rfl,hnews⟩:=hA (by omega)
   have hnsz:n * sz'≤vs.size:=by rw[hvsz];exact Nat.mul_le_mul_right _ hn1
   -- the row behind it: its first cells
   have hL:((vs.toList.take (n * sz'))++a0e f news.length sz').length=(els.take n++news).length * sz':=by
    rw[hlE,List.length_append,List.length_take,a0c,Nat.add_mul];simp;omega
   have hL1:∀ u∈(vs.toList.take (n * sz'))++a0e f news.length sz',u.oneCell'=true:=fun u hu=>by
    rcases List.mem_append.1 hu with hu|hu
    ·obtain ⟨j,hj,rfl⟩:=List.getElem_of_mem (List.mem_of_mem_take hu)
     have hj':j<vs.size:=by simpa using hj
     have:=hone j hj'
     simpa[hj']using this
    ·exact flat_mem h1 u hu
   have hLV:∀ (i:Nat) (x:List AV) (j:Nat) (c:AV),(els.take n++news)[i]?=some x→x[j]?=some c→VR W U (((vs.toList.take (n * sz'))++a0e f news.length sz').getD (i * sz'+j) undef) c:=fun i x j c hx hc'=>by
    have hj:j<sz':=by rw[← hfull x (List.mem_of_getElem? hx)];exact (List.getElem?_eq_some_iff.1 hc').1
    have hle1:(vs.toList.take (n * sz')).length=n * sz':=by simp;omega
    by_cases hi':i<n
    ·rw[List.getElem?_append_left (by simp;omega),List.getElem?_take_of_lt hi']at hx
     obtain ⟨_,o1,o2⟩:=hold i j hi' hj
     have:((vs.toList.take (n * sz'))++a0e f news.length sz').getD (i * sz'+j) undef=vs.getD (i * sz'+j) undef:=by
      rw[List.getD,List.getElem?_append_left (by omega),List.getElem?_take_of_lt o2]
      simp[o1]
     rw[this]
     exact hoV i x j c hi' hx hc'
    ·have hlt:=(List.getElem?_eq_some_iff.1 hx).1
     rw[List.getElem?_append_right (by simp;omega)]at hx
     have e1:(els.take n).length=n:=by simp;omega
     rw[e1]at hx
     have hin:i - n<news.length:=by rw[hlE]at hlt;omega
     have hgg2:=flatV_get (f:=f) hin hj
     have:((vs.toList.take (n * sz'))++a0e f news.length sz').getD (i * sz'+j) undef=f (i - n) j:=by
      rw[List.getD,List.getElem?_append_right (by rw[hle1];have:=Nat.mul_le_mul_right sz' (show n≤i by omega);omega),hle1]
      have:i * sz'+j - n * sz'=(i - n) * sz'+j:=by rw[Nat.sub_mul];have:=Nat.mul_le_mul_right sz' (show n≤i by omega);omega
      rw[this,hgg2];rfl
     rw[this]
     exact hv _ x j c hx hc'
   by_cases hroom:n+news.length≤cap'
   ·-- in place
    have hfit:n * inf.size+(a0e f news.length sz').length≤vs.size:=by
     rw[a0c,hvsz,hisz, ← Nat.add_mul]
     exact Nat.mul_le_mul_right _ hroom
    have hrun:=run_append_room (P:=P) W t o.type e' inf ht hi g n cap' vs g1 ad news.length cap (a0e f news.length sz') (by rw[a0c,hisz]) hnews (flat_mem h1) hroom hfit
    rw[hisz]at hrun hfit
    have hsz2:(vs.toList.take (n * sz')++a0e f news.length sz'++vs.toList.drop (n * sz'+(a0e f news.length sz').length)).toArray.size=vs.size:=by
     simp only[List.size_toArray,List.length_append,List.length_take,List.length_drop,Array.length_toList]
     omega
    have hget:∀ j,j<(n+news.length) * sz'→(vs.toList.take (n * sz')++a0e f news.length sz'++vs.toList.drop (n * sz'+(a0e f news.length sz').length)).toArray.getD j undef=((vs.toList.take (n * sz'))++a0e f news.length sz').getD j undef:=fun j hj=>by
     rw[hlE]at hL
     rw[Array.getD_eq_getD_getElem?,List.getElem?_toArray,List.getElem?_append_left (by omega)];rfl
    have hI:=h.seto (b:=g) (cs':=hc sz' cap' (els.take n++news)) (vs':=(vs.toList.take (n * sz')++a0e f news.length sz'++vs.toList.drop (n * sz'+(a0e f news.length sz').length)).toArray) hg g1 (by rw[hc_len hfull,hlen,hlE];congr 1;omega) hsz2 (fun j c hj=>?_) (fun u hu=>absurd hu (headT_no (fun c hc'=>(noOwn_cell hsz hfull hnof hc').2) u)) (fun j t k l hj=>absurd rfl ((noOwn_cell hsz hfull hnof hj).1 t k l))
    ·refine key _ _ U (upd (upd s.o g none) g (some (hc sz' cap' (els.take n++news)))) (.hsl g e' sz' (n+news.length) cap') hrun ?_ (.hsl _ _ _ _ _ hroom hn2 ⟨_,_,setRow_heap W g vs _ e' (0,0) g1⟩) (by simp) (hK g hgg cap' hroom)
     have:upd (upd s.o g none) g (some (hc sz' cap' (els.take n++news)))=upd s.o g (some (hc sz' cap' (els.take n++news))):=by funext k;simp[upd];split<;>rfl
     rw[this];exact hI
    ·rcases hc_cases hsz hfull hj with ⟨x,q1,q2⟩ | ⟨rfl,hge2⟩
     ·have hdm:j / sz' * sz'+j % sz'=j:=by rw[Nat.mul_comm];exact Nat.div_add_mod j sz'
      have hi2:j / sz'<n+news.length:=by have:=(List.getElem?_eq_some_iff.1 q1).1;omega
      have hjl:j<(n+news.length) * sz':=(Nat.div_lt_iff_lt_mul hsz).1 hi2
      rw[hget j hjl]
      have h8:=hLV _ _ _ _ q1 q2
      rw[hdm]at h8
      refine ⟨h8, ?_⟩
      rw[hlE]at hL
      exact hL1 _ (by rw[List.getD_eq_getElem?_getD,List.getElem?_eq_getElem (by omega)];exact List.getElem_mem _)
     ·refine ⟨.any _, ?_⟩
      have hjl:j<vs.size:=by
       have:=(List.getElem?_eq_some_iff.1 hj).1
       rw[hc_len hfull,hlE]at this
       rw[hvsz]
       have h9:max cap' (n+news.length)=cap':=by omega
       rw[h9]at this;exact this
      rw[hlE]at hge2
      have e9:(a0e f news.length sz').length=news.length * sz':=a0c _ _ _
      rw[Nat.add_mul]at hge2
      rw[Array.getD_eq_getD_getElem?,List.getElem?_toArray,List.getElem?_append_right (by simp;omega),List.getElem?_drop]
      have e10:n * sz'+(a0e f news.length sz').length+(j - (vs.toList.take (n * sz')++a0e f news.length sz').length)=j:=by
       simp only[List.length_append,List.length_take,Array.length_toList,e9];omega
      rw[e10]
      have:=hone j hjl
      simpa[hjl]using this
   ·-- a new row
    have hold2:∀ p v,(vs.toList.take (n * sz'))[p]?=some v→W.cell? ((⟨g,0,none⟩:Addr).add p)=some v:=fun p v hp=>by
     rw[a0B,Nat.zero_add,cell_of_row W g p vs e' (0,0) g1]
     have hlt:=(List.getElem?_eq_some_iff.1 hp).1
     rw[List.getElem?_take_of_lt (by simp at hlt;omega)]at hp
     simpa using hp
    have hrun:=run_append_grow (P:=P) W t o.type e' inf z ht hi hz1 ⟨g,0,none⟩ n cap' (vs.toList.take (n * sz')) (by rw[hisz];simp;omega) hold2 ad news.length cap (a0e f news.length sz') (by rw[a0c,hisz]) hnews (by omega)
     (by simp only[maxLen]at hmx;omega) (growslice_fits (by omega) hb)
    have hge:=grownCap_ge W (n+news.length) cap' e'
    have hcm:=grownCap_le_maxLen W (n+news.length) cap' e' hmx
    have hI:=fresh ((vs.toList.take (n * sz'))++a0e f news.length sz') (els.take n++news) (grownCap W (n+news.length) cap' e') (by rw[hlE];exact hge) hfull hnof hL hL1 hLV
    have hnone:s.o W.heap.size=none:=by
     cases hs:s.o W.heap.size with
     | none=>rfl
     | some c=>have:=h.ob_lt _ _ hs;omega
    have hne:g≠W.heap.size:=fun e1=>by rw[e1,hnone]at hg;cases hg
    have hrun':(Builtin.append_ #[t,t] o.type #[.slice (some ⟨g,0,none⟩) n cap',.slice (some ad) news.length cap]).run P W=.ok (.slice (some ⟨W.heap.size,0,none⟩) (n+news.length) (grownCap W (n+news.length) cap' e')) (W.drew.alloc (.cells (((vs.toList.take (n * sz'))++a0e f news.length sz').toArray++Builtin.zeroCells z.cells (grownCap W (n+news.length) cap' e' - (els.take n++news).length)) e')):=by
     rw[hrun,hlE];simp
    exact key _ _ _ _ (.hsl W.heap.size e' sz' (n+news.length) (grownCap W (n+news.length) cap' e')) hrun' (hdrop hI hne) (.hsl _ _ _ _ _ hge hcm ⟨_,_,heap_alloc_new W.drew _⟩) (by simp) (hK _ (by simp[upd,hnone]) _ hge)
theorem noOwnB_to{els:List (List AV)}(h:a3R els=true):noOwn els:=fun e he c hc=>by
 have:=List.all_eq_true.1 (List.all_eq_true.1 h e he) c hc
 refine ⟨fun t k l e'=>?_,fun t e'=>?_⟩ <;> · subst e';simp at this
theorem b8I(h:Inv N W0 U0 M a W U s){t e sz n:Nat}{parts:Array (Nat × Operand)}{ps:List Opd}{d:Option Nat}(ho:o.op=.buildSlice t n parts)(hod:o.dst=d)(hd:∀ j,d=some j→j<N)(ht:isSlice P t=some (e,sz))(hp:a5m parts.toList 0=some ps)(hl:ps.length=n)(hm:n * sz≤16777216)(hpos:0<n * sz)
  (hz:a0y P e=some sz) {K:St→Prop} (hK:kW P d (.hbs e sz ps) s K) {next:Act→World→Prop} {Q:Exit→Act→World→Prop} (hn:∀ a' W' U' s',Inv N W0 U0 M a' W' U' s'→K s'→next a' W'):o.wp P a W next Q:=by
 obtain ⟨vs,hvs,⟨hall,hno⟩,hcont⟩:=hK
 obtain ⟨hmax,hvn,hsz,A,hrun,hA,hget⟩:=b3y h ho ht hp hl hm hpos hz hvs hall
 have hno':=noOwnB_to hno
 have hlen:∀ x∈vs.map AV.cells,x.length=sz:=fun x hx=>by
  obtain ⟨v,hv,rfl⟩:=List.mem_map.1 hx;exact hall v hv
 have hcl:(hc sz vs.length (vs.map AV.cells)).length=n * sz:=by rw[hc_len hlen,List.length_map,hvn];congr 1;omega
 have hI:=h.newo (vs:=A) (cs:=hc sz vs.length (vs.map AV.cells)) (ty:=e) (by rw[hA,hcl]) (fun u hu=>absurd hu (headT_no (fun c hc'=>(noOwn_cell hsz hlen hno' hc').2) u)) (fun j u hu=>by
  have hj:j<n * sz:=by rw[← hA];exact (Array.getElem?_eq_some_iff.1 hu).1
  have hk:j / sz<n:=(Nat.div_lt_iff_lt_mul hsz).2 hj
  have hdm:j / sz * sz+j % sz=j:=by rw[Nat.mul_comm];exact Nat.div_add_mod j sz
  obtain ⟨v,u',q1,q2,q3,q4⟩:=hget (j / sz) (j % sz) hk (Nat.mod_lt j hsz)
  rw[hdm,hu]at q2
  cases q2
  refine ⟨q3,fun x hx=>⟨?_,fun t' k' l' ex=>absurd ex ((noOwn_cell hsz hlen hno' hx).1 t' k' l')⟩⟩
  rcases hc_cases hsz hlen hx with ⟨x',r1,r2⟩ | ⟨rfl,_⟩
  ·rw[List.getElem?_map,q1]at r1
   simp only[Option.map_some,Option.some.injEq]at r1
   subst r1
   exact q4 x r2
  ·exact .any _)
 unfold Oper.wp
 rw[hrun]
 simp only[Oper.upon,hod]
 have hnone:s.o W.heap.size=none:=by
  cases hs:s.o W.heap.size with
  | none=>rfl
  | some c=>have:=h.ob_lt _ _ hs;omega
 refine hn _ _ _ _ (hI.putO hd (r:=.hsl W.heap.size e sz vs.length vs.length) (by rw[hvn];exact .hsl _ _ _ _ _ (Nat.le_refl _) hmax ⟨_,_,heap_alloc_new W _⟩) fun j _=>Sole.plain fun _ _ _ ex=>by cases ex) (hcont _ hnone)
theorem s_hnil{x:Operand}{e sz:Nat}(ho:o.op=.move x∨o.op=.assign x)(hx:x=.const (.slice none 0 0))(hr:opR P s (.hnl e sz) r):VOK P a o W U r:=by
 obtain rfl:=hr
 subst hx
 refine VOK.same (v:=.slice none 0 0) ?_ (.hnil e sz) (by simp)
 rcases ho with ho|ho<;>simp[execOp,ho,Act.eval]
theorem b6G(h:Inv N W0 U0 M a W U s){t:TypeId}{e:Nat}{i:TypeInfo}{x:Operand}{lo hi:Option Operand}{X:Opd}{LO HI:Option Opd}(ho:o.op=.slice t x lo hi none)(ht:P.underlying t=some (.slice e))(hi':P.info? e=some i)
  (hx:a0j x=some X) (hlo:a0O lo=some LO) (hhi:a0O hi=some HI) (hr:opR P s (.hslc i.size X LO HI) r):VOK P a o W U r:=by
 obtain ⟨p,x1,y1,hp,h1,h2,hR⟩:=hr
 have hv:=a0a h hx hp
 generalize hval:a.eval x=val at hv
 cases p<;>(try (cases hn:LO.isNone<;>rw[hn]at hR<;>exact hR.elim))
 case sl own sz l=>
  have hR':sz=i.size∧(x1≤y1∧y1≤l.length)∧r=.sl none i.size ((l.take y1).drop x1):=by cases hn:LO.isNone<;>rw[hn]at hR<;>exact hR
  obtain ⟨rfl,h3,rfl⟩:=hR'
  exact b3V h ho ht hi' hx hlo hhi ⟨own,l,x1,y1,hp,h1,h2,h3,rfl⟩
 case hsl g e' sz n cap=>
  cases hv with
  | hsl _ _ _ _ _ hn1 hn2 hm=>
  obtain ⟨c1,c2,c3⟩:=hm
  cases hn:LO.isNone with
  | true=>
   rw[hn]at hR
   obtain ⟨rfl,⟨rfl,h4⟩,rfl⟩:=hR
   have hb:=a1J (P:=P) (a:=a) (W:=W) h hlo hhi (len:=n) (cap:=cap) h1 h2 (Nat.zero_le _) h4 hn1 true
   refine VOK.same (v:=.slice (some ⟨g,0,none⟩) y1 cap) ?_ (.hsl _ _ _ _ _ (by omega) hn2 ⟨c1,c2,c3⟩) (by simp)
   simp[execOp,ho,Instr.sliceAt,run_underlying ht,Instr.slice,hval,hb,sizeOf,typeInfo,hi',a0B]
  | false=>
   rw[hn]at hR
   obtain ⟨rfl,⟨h3,h4⟩,rfl⟩:=hR
   have hb:=a1J (P:=P) (a:=a) (W:=W) h hlo hhi (len:=n) (cap:=cap) h1 h2 h3 h4 hn1 true
   refine VOK.same (v:=.slice (if cap=x1 then some ⟨g,0,none⟩ else some ⟨g,x1 * i.size,none⟩) (y1 - x1) (cap - x1)) ?_ (.hss _ _ _ _ _ _ (by omega) (by omega) (fun hp=>by rw[if_neg (by omega)]) ⟨_,_,_,c3⟩) (by simp)
   simp[execOp,ho,Instr.sliceAt,run_underlying ht,Instr.slice,hval,hb,sizeOf,typeInfo,hi',a0B]
 case hss g sz a0 m=>
  have hR':sz=i.size∧(x1≤y1∧y1≤m)∧r=.hss g sz (a0+x1) (y1 - x1):=by cases hn:LO.isNone<;>rw[hn]at hR<;>exact hR
  obtain ⟨rfl,⟨h3,h4⟩,rfl⟩:=hR'
  cases hv with
  | hss A _ _ _ _ cap hm1 hm2 hA hm=>
  have hb:=a1J (P:=P) (a:=a) (W:=W) h hlo hhi (len:=m) (cap:=cap) h1 h2 h3 h4 hm1 true
  refine VOK.same (v:=.slice (if cap=x1 then A else A.map (·.add (x1 * i.size))) (y1 - x1) (cap - x1)) ?_ (.hss _ _ _ _ _ _ (by omega) (by omega) (fun hp=>?_) hm) (by simp)
  ·simp[execOp,ho,Instr.sliceAt,run_underlying ht,Instr.slice,hval,hb,sizeOf,typeInfo,hi']
  ·rw[if_neg (by omega),hA (by omega)]
   simp[a0B,Nat.add_mul]
 case hnil e' sz=>
  have hR':(x1=0∧y1=0)∧r=.hnil e' sz:=by cases hn:LO.isNone<;>rw[hn]at hR<;>exact hR
  obtain ⟨⟨rfl,rfl⟩,rfl⟩:=hR'
  cases hv
  have hb:=a1J (P:=P) (a:=a) (W:=W) h hlo hhi (len:=0) (cap:=0) h1 h2 (Nat.le_refl 0) (Nat.zero_le _) (by simp[a6q]) true
  refine VOK.same (v:=.slice none 0 0) ?_ (.hnil _ _) (by simp)
  simp[execOp,ho,Instr.sliceAt,run_underlying ht,Instr.slice,hval,hb,sizeOf,typeInfo,hi']
end
end
section
open Go.RowKit

section
variable {P:Program} {N:Nat} {W0:World} {U0:Nat→Nat→Prop} {M:Nat→Prop} {a:Act} {W:World} {U:Nat→Nat→Prop} {s:St} {o:Oper} {r:AV} {R:Nat}

theorem a2t(h:Inv N W0 U0 M a W U s)(hV:VOK P a o W U r){d:Option Nat}(hod:o.dst=d)(hd:∀ j,d=some j→j<N){next:Act→World→Prop}{Q:Exit→Act→World→Prop}
  (hn:∀ a' W' U',Inv N W0 U0 M a' W' U' (s.put d r)→next a' W'):o.wp P a W next Q:=by
 obtain ⟨v,W',U',hrun,hE,hv,ho⟩:=hV
 unfold Oper.wp
 rw[hrun,Oper.upon_value,hod]
 exact hn _ _ _ ((h.ext hE).putO hd hv fun j _=>Sole.fresh h hE ho)

theorem a6a(h:Inv N W0 U0 M a W U s){ops:List Oper}{take:Bool}{x:Operand}{k:AK}(ho:o.op=.move x∨o.op=.assign x)(hk:b2u P ops o take x=some k)(hd:∀ j,o.dst=some j→j<N){K:St→Prop}(hK:kW P o.dst k s K)
  {next:Act→World→Prop} {Q:Exit→Act→World→Prop} (hn:∀ a' W' U' s',Inv N W0 U0 M a' W' U' s'→K s'→next a' W'):o.wp P a W next Q:=by
 unfold b2u at hk
 split at hk
 ·split at hk
  ·cases hk
   obtain ⟨r,hr,hK⟩:=hK
   exact a2t h (s_hnil ho rfl hr) rfl hd fun a' W' U' hi=>hn _ _ _ _ hi hK
  ·cases hk
   obtain ⟨r,hr,hK⟩:=hK
   exact a2t h (s_nil ho rfl hr) rfl hd fun a' W' U' hi=>hn _ _ _ _ hi hK
 ·split at hk
  ·split at hk
   ·cases hk
   ·rename_i hne
    cases hk
    obtain ⟨r,hr,hK⟩:=hK
    exact c0f h ho rfl hd hne hr fun a' W' U' hi=>hn _ _ _ _ hi hK
  ·cases hk
   obtain ⟨r,hr,hK⟩:=hK
   exact a2t h (b9F h ho (x:=.tmp _) rfl hr) rfl hd fun a' W' U' hi=>hn _ _ _ _ hi hK
 ·obtain ⟨X,hx,rfl⟩:=Option.map_eq_some_iff.1 hk
  obtain ⟨r,hr,hK⟩:=hK
  exact a2t h (b9F h ho hx hr) rfl hd fun a' W' U' hi=>hn _ _ _ _ hi hK

theorem cOpdT_tmp{t:TypeId}{x:Operand}{i:Nat}(hx:a6R P t x=some (.t i)):x=.tmp i:=by
 unfold a6R at hx
 split at hx
 ·split at hx
  ·simp at hx
  ·cases hx
 ·cases x<;>simp[a0j]at hx
  rw[hx]
theorem cOptOpd_none{x:Option Operand}(h:a0O x=some none):x=none:=by
 cases x with
 | none=>rfl
 | some x=>
  simp only[a0O,Option.map_eq_some_iff]at h
  obtain ⟨_,_,h⟩:=h
  cases h
theorem a7p(h:Inv N W0 U0 M a W U s){ops:List Oper}{k:AK}(hk:b1b P R ops o=some k)(hd:∀ j,o.dst=some j→j<N){K:St→Prop}(hK:kW P o.dst k s K)
  {next:Act→World→Prop} {Q:Exit→Act→World→Prop} (hn:∀ a' W' U' s',Inv N W0 U0 M a' W' U' s'→K s'→next a' W'):o.wp P a W next Q:=by
 have val:∀ {r:AV},VOK P a o W U r→K (s.put o.dst r)→o.wp P a W next Q:=fun hV hK=>a2t h hV rfl hd fun a' W' U' hi=>hn _ _ _ _ hi hK
 unfold b1b at hk
 split at hk
 case h_1 x ho=>exact a6a h (.inl ho) hk hd hK hn
 case h_2 x ho=>exact a6a h (.inr ho) hk hd hK hn
 case h_3 t ho=>
  cases hz:zeroOf P t with
  | none=>simp[hz]at hk
  | some z=>
   simp only[hz]at hk
   split at hk
   ·rename_i hh
    cases hk
    exact b6K h ho hd rfl hz hh hK hn
   ·cases hk
 case h_4 t x ho=>
  cases hx:a0j x with
  | none=>simp[hx]at hk
  | some X=>
   simp only[hx,Option.map_some,Option.some.injEq]at hk
   subst hk
   exact b8E h ho hd rfl hx hK hn
 case h_5 t x ho=>
  split at hk
  ·rename_i n X h1 h2
   cases ht:takes P R ops o t n with
   | false=>
    simp only[ht,Bool.false_eq_true,if_false,Option.some.injEq]at hk
    split at hk
    ·rename_i hh
     subst hk
     obtain rfl:n=none:=by simp only[Bool.and_eq_true]at hh;exact Option.isNone_iff_eq_none.1 hh.1
     obtain ⟨r,hr,hK⟩:=hK
     exact val (b8K h ho h1 h2 hr) hK
    split at hk
    ·subst hk
     obtain ⟨r,⟨cs,hp,hl⟩,hK⟩:=hK
     exact val (b6H h ho h1 h2 (r:=r) ⟨_,cs,hp,rfl,hl⟩) hK
    ·subst hk
     obtain ⟨r,hr,hK⟩:=hK
     exact val (b6H h ho h1 h2 hr) hK
   | true=>
    simp only[ht,if_true,Option.some.injEq]at hk
    subst hk
    have hnn:n=none:=by
     simp only[takes,Bool.and_eq_true]at ht
     exact Option.isNone_iff_eq_none.1 ht.2
    subst hnn
    obtain ⟨p,hp,hK⟩:=hK
    cases p<;>try exact hK.elim
    ·rename_i cs
     cases cs with
     | nil=>exact hK.elim
     | cons c rest=>exact val (b6H h ho h1 h2 (r:=c.alias) ⟨_,_,hp,rfl,rfl⟩) hK
    ·rename_i b off
     obtain ⟨cs,hb,c,hc,hK⟩:=hK
     by_cases hown:∃ e sz els,c=.sl (some e) sz els
     ·obtain ⟨e,sz,els,rfl⟩:=hown
      exact b8L h ho rfl hd h1 h2 hp hb hc fun a' W' U' hi=>hn _ _ _ _ hi hK
     ·by_cases hnil:∃ e sz,c=.nils e sz
      ·obtain ⟨e,sz,rfl⟩:=hnil
       obtain ⟨vs,ty,q1,q2,q3,q4,q5⟩:=h.obs hb hc (by simp) (by simp)
       have hlt:off<cs.length:=(List.getElem?_eq_some_iff.1 hc).1
       have hv:=(q3 off _ hc).1
       have hv0:vs.getD off undef=.slice none 0 0:=by generalize vs.getD off undef=val at hv;cases hv;rfl
       have hcell:W.cell? ⟨b,off,none⟩=some (.slice none 0 0):=by
        rw[cell_of_row W b off vs ty (0,0) q1, ← hv0]
        have:off<vs.size:=by omega
        simp[this]
       have hpx:=a0a h h2 hp
       have hadr:a.eval x=.pointer (some ⟨b,off,none⟩):=by
        generalize a.eval x=val at hpx
        cases hpx
        rfl
       exact a2t h ⟨.slice none 0 0,W,U,by simp[execOp,ho,hadr,run_load_one h1 hcell],Ext.refl _ _,VR.nil (some e) sz,.inl ⟨rfl,rfl⟩⟩ rfl hd fun a' W' U' hi=>hn _ _ _ _ hi hK
      have he:ldE s o.dst b off cs c=s.put o.dst c.alias:=by
       cases c<;>try rfl
       rename_i own sz els
       cases own with
       | none=>rfl
       | some e=>exact absurd ⟨e,sz,els,rfl⟩ hown
       exact absurd ⟨_,_,rfl⟩ hnil
      rw[he]at hK
      have hlt:off<cs.length:=(List.getElem?_eq_some_iff.1 hc).1
      refine val (b6H h ho h1 h2 (r:=c.alias) ⟨_,cs.drop off,hp,by simp only[view,hb,Option.map_some], ?_⟩) hK
      rw[List.drop_eq_getElem_cons hlt,(List.getElem?_eq_some_iff.1 hc).2]
      rfl
  ·cases hk
 case h_6 t x v ho=>
  split at hk
  ·rename_i n X V h1 h2 h3 h4
   split at hk
   ·rename_i hc
    have plain:K (eff o.dst (.sto n X V) .undef s)→opR P s (.sto n X V) .undef→o.wp P a W next Q:=fun hK hr=>by
     rw[h4]at hK
     exact b8X h ho h4 hc.1 rfl hc.2 h2 h3 hr fun a' W' U' hi=>hn _ _ _ _ hi hK
    cases V with
    | c w=>
     simp only[Option.some.injEq]at hk
     subst hk
     obtain ⟨r,hr,hK⟩:=hK
     obtain rfl:r=.undef:=by obtain ⟨_,_,_,_,_,_,_,_,_,e⟩:=hr;exact e
     exact plain hK hr
    | t i=>
     simp only[Option.some.injEq]at hk
     subst hk
     cases hg:gives P R t n with
     | false=>
      simp only[hg,Bool.false_eq_true,if_false]at hK
      obtain ⟨r,hr,hK⟩:=hK
      obtain rfl:r=.undef:=by obtain ⟨_,_,_,_,_,_,_,_,_,e⟩:=hr;exact e
      exact plain hK hr
     | true=>
      simp only[hg,if_true]at hK
      have hnn:n=none:=by
       simp only[gives,Bool.and_eq_true]at hg
       exact Option.isNone_iff_eq_none.1 hg.2
      subst hnn
      obtain ⟨p,hp,w,hi,hK⟩:=hK
      cases p<;>try exact hK.elim
      rename_i b off
      obtain ⟨cs,hb,⟨hlt,hl1⟩,hK⟩:=hK
      by_cases hown:∃ e sz els,w=.sl (some e) sz els
      ·obtain ⟨e,sz,els,rfl⟩:=hown
       obtain rfl:=cOpdT_tmp h3
       exact b8Y h ho h4 hc.1 h2 hp hb hlt hi fun a' W' U' hv=>hn _ _ _ _ hv hK
      ·have he:stE s i b off cs w=eff o.dst (.sto none X (.t i)) .undef s:=by
        have e2:eff o.dst (.sto none X (.t i)) .undef s={ s with o:=upd s.o b (some (splice cs off w.cells)) }:=by
         simp only[eff,hp,show (Opd.t i).ev s=some w from hi,hb,Option.map_some]
        rw[e2]
        cases w<;>try rfl
        rename_i own sz els
        cases own with
        | none=>rfl
        | some e=>exact absurd ⟨e,sz,els,rfl⟩ hown
       rw[he]at hK
       exact plain hK ⟨b,off,w,cs,hp,hi,hb,by rw[hl1];rfl,by omega,rfl⟩
   ·cases hk
  ·cases hk
 case h_7 t x f ho=>
  split at hk
  ·rename_i fs X h1 h2
   split at hk
   ·rename_i fd hf
    split at hk
    ·rename_i n hz
     cases hk
     obtain ⟨r,hr,hK⟩:=hK
     exact val (b8H h ho h1 hf hz h2 hr) hK
    ·cases hk
   ·cases hk
  ·cases hk
 case h_8 t x f ho=>
  split at hk
  ·rename_i fs X h1 h2
   split at hk
   ·rename_i fd hf
    cases hn':a9h P fd.type with
    | none=>simp[hn']at hk
    | some n=>
     simp only[hn',Option.map_some,Option.some.injEq]at hk
     subst hk
     obtain ⟨r,hr,hK⟩:=hK
     exact val (b6E h ho h1 hf hn' h2 hr) hK
   ·cases hk
  ·cases hk
 case h_9 t x i ho=>
  split at hk
  ·rename_i e sz X I h1 h2 h3
   cases hk
   obtain ⟨r,hr,hK⟩:=hK
   exact val (b8J h ho h1 h2 h3 hr) hK
  ·rename_i X I h1 h2 h3
   split at hk
   ·rename_i n e hu
    split at hk
    ·rename_i hi
     cases hk
     obtain ⟨r,hr,hK⟩:=hK
     exact val (b6x h ho hu hi h2 h3 hr) hK
    ·cases hk
   ·cases hk
  ·cases hk
 case h_10 t x i ho=>
  split at hk
  ·rename_i X I h1 h2 h3
   cases hk
   obtain ⟨r,hr,hK⟩:=hK
   exact val (b6N h ho h1 h2 h3 hr) hK
  ·rename_i n e X I h1 h2 h3
   obtain ⟨q,h4,rfl⟩:=Option.map_eq_some_iff.1 hk
   obtain ⟨r,hr,hK⟩:=hK
   exact val (b6O h ho h1 h4 h2 h3 hr) hK
  ·cases hk
 case h_11 op t x y ty ho=>
  split at hk
  ·split at hk
   ·rename_i X Y h1 h2
    cases hk
    obtain ⟨r,hr,hK⟩:=hK
    exact val (b8C h ho h1 h2 hr) hK
   ·cases hk
  ·rename_i hpl
   split at hk
   ·rename_i X Y h1 h2 h3
    cases hk
    obtain ⟨r,hr,hK⟩:=hK
    refine val (b8B h ho ?_ h1 h2 h3 hr) hK
    cases op<;>simp[a4I]at hpl<;>simp
   ·rename_i fs X Y h1 h2 h3
    split at hk
    ·rename_i hg
     obtain ⟨ks,hks,rfl⟩:=Option.map_eq_some_iff.1 hk
     obtain ⟨r,hr,hK⟩:=hK
     refine val (s_aeq h ho ?_ h1 rfl hg hks h2 h3 hr) hK
     cases op<;>simp[a4I]at hpl<;>simp
    ·cases hk
   ·rename_i m e X Y h1 h2 h3
    split at hk
    ·rename_i hg
     obtain ⟨ks,hks,rfl⟩:=Option.map_eq_some_iff.1 hk
     obtain ⟨r,hr,hK⟩:=hK
     refine val (s_aeq h ho ?_ h1 rfl hg hks h2 h3 hr) hK
     cases op<;>simp[a4I]at hpl<;>simp
    ·cases hk
   ·rename_i e X h1 h2 h3
    cases hk
    obtain ⟨r,hr,hK⟩:=hK
    refine val (b8S h ho ?_ h1 h2 h3 hr) hK
    cases op<;>simp[a4I]at hpl<;>simp
   ·cases hk
 case h_12 op t x ho=>
  cases hx:a0j x with
  | none=>simp[hx]at hk
  | some X=>
   simp only[hx,Option.map_some,Option.some.injEq]at hk
   subst hk
   obtain ⟨r,hr,hK⟩:=hK
   exact val (c0g h ho hx hr) hK
 case h_13 src dst x ho=>
  split at hk
  ·rename_i k1 k2 X h1 h2 h3
   cases hk
   obtain ⟨r,hr,hK⟩:=hK
   exact val (b6D h ho h1 h2 h3 hr) hK
  ·rename_i e X h1 h2 h3
   split at hk
   ·rename_i h4
    cases hk
    split at hK
    ·obtain ⟨p,hp,hK⟩:=hK
     cases p<;>try exact hK.elim
     ·obtain ⟨rfl,l,rfl,hK⟩:=hK
      exact val (b6A h ho h1 h2 h4 h3 ⟨_,l,hp,rfl⟩) hK
     ·obtain ⟨cs,l,hb,⟨hc,hl⟩,hK⟩:=hK
      exact val (b8A h ho h1 h2 h4 h3 hp hb hc hl) hK
    ·split at hK
     ·obtain ⟨r,⟨b,off,n,cs,l,hp,hb,⟨hc,hl⟩,rfl⟩,hK⟩:=hK
      exact val (b8A h ho h1 h2 h4 h3 hp hb hc hl) hK
     ·obtain ⟨r,hr,hK⟩:=hK
      exact val (b6A h ho h1 h2 h4 h3 hr) hK
   ·cases hk
  ·rename_i e X h1 h2 h3
   split at hk
   ·rename_i h4
    cases hk
    obtain ⟨r,hr,hK⟩:=hK
    exact val (b8U h ho h1 h2 h4 h3 hr) hK
   ·cases hk
  ·rename_i X h1 h2 h3
   cases hk
   obtain ⟨r,hr,hK⟩:=hK
   exact val (b8V h ho h1 h2 h3 hr) hK
  ·cases hk
 case h_14 t x lo hi ho=>
  split at hk
  ·rename_i X LO HI h1 h2 h3 h4
   cases hk
   obtain ⟨r,hr,hK⟩:=hK
   exact val (b8W h ho h1 h2 h3 h4 hr) hK
  ·rename_i e X LO HI h1 h2 h3 h4
   cases hi':P.info? e with
   | none=>simp[hi']at hk
   | some i=>
    simp only[hi',Option.map_some,Option.some.injEq]at hk
    split at hk
    ·subst hk
     obtain ⟨r,hr,hK⟩:=hK
     exact val (b6G h ho h1 hi' h2 h3 h4 hr) hK
    ·subst hk
     obtain ⟨r,hr,hK⟩:=hK
     exact val (b3V h ho h1 hi' h2 h3 h4 hr) hK
  ·rename_i n e X h1 h2 h3 h4
   split at hk
   ·rename_i hn
    cases hk
    obtain ⟨r,hr,hK⟩:=hK
    exact val (b8z h (by rw[ho,cOptOpd_none h3,cOptOpd_none h4]) h1 hn.2 hn.1 h2 hr) hK
   ·cases hk
  ·cases hk
 case h_15 x j ho=>
  cases hx:a0j x with
  | none=>simp[hx]at hk
  | some X=>
   simp only[hx,Option.map_some,Option.some.injEq]at hk
   subst hk
   obtain ⟨r,hr,hK⟩:=hK
   exact val (b8G h ho hx hr) hK
 case h_16 x ho=>
  cases hx:a0j x with
  | none=>simp[hx]at hk
  | some X=>
   simp only[hx,Option.map_some,Option.some.injEq]at hk
   subst hk
   obtain ⟨r,hr,hK⟩:=hK
   exact val (b6L h ho hx hr) hK
 case h_17 c x y ho=>
  split at hk
  ·rename_i C X Y h1 h2 h3
   cases hk
   obtain ⟨r,hr,hK⟩:=hK
   exact val (b6M h ho h1 h2 h3 hr) hK
  ·cases hk
 case h_18 t parts ho=>
  split at hk
  ·rename_i fs z h1 h2
   split at hk
   ·rename_i h3
    cases hp:a3T P fs parts.toList with
    | none=>simp[hp]at hk
    | some ps=>
     simp only[hp,Option.map_some,Option.some.injEq]at hk
     subst hk
     obtain ⟨r,hr,hK⟩:=hK
     exact val (b8D h ho h1 h2 h3 hp hr) hK
   ·cases hk
  ·rename_i n e z h1 h2
   split at hk
   ·rename_i inf hinf
    cases hp:a5Z P e inf.size parts.toList with
    | none=>simp[hp]at hk
    | some ps=>
     simp only[hp,Option.map_some,Option.some.injEq]at hk
     subst hk
     obtain ⟨r,hr,hK⟩:=hK
     exact val (b6B h ho h1 h2 hinf hp hr) hK
   ·cases hk
  ·cases hk
 case h_19 t n parts ho=>
  split at hk
  ·rename_i e sz ps h1 h2
   split at hk
   ·rename_i h3
    cases hk
    split at hK
    ·exact b8I h ho rfl hd h1 h2 h3.1 h3.2.1 h3.2.2.1 h3.2.2.2 hK hn
    ·obtain ⟨r,hr,hK⟩:=hK
     exact val (c0a h ho h1 h2 h3.1 h3.2.1 h3.2.2.1 h3.2.2.2 hr) hK
   ·cases hk
  ·cases hk
 case h_20 f args argTypes ho=>
  split at hk
  ·rename_i hf
   cases hfn:P.funcs[f]? with
   | none=>simp[hfn]at hf
   | some fn=>
    simp only[hfn,Option.map_some,Option.getD_some,Bool.and_eq_true,Bool.not_eq_true']at hf
    cases hp:a4k P argTypes.toList args.toList with
    | none=>simp[hp]at hk
    | some ps=>
     by_cases hR4:(R==4 && !argTypes.toList.any (objT P))=true
     ·simp only[hp,Option.map_some,Option.some.injEq,if_pos hR4]at hk
      subst hk
      obtain ⟨ws,h1,h2⟩:=hK
      exact b1S h ho rfl hd hfn hf.1 hf.2 hp (K:=K) ⟨ws,h1,h2.toO⟩ hn
     by_cases hR:0<R
     ·simp only[hp,Option.map_some,Option.some.injEq,if_neg hR4,if_pos hR]at hk
      subst hk
      exact b1S h ho rfl hd hfn hf.1 hf.2 hp hK hn
     ·simp only[hp,Option.map_some,Option.some.injEq,if_neg hR4,if_neg hR]at hk
      split at hk
      ·subst hk
       obtain ⟨r,⟨vs,h1,o1,h2,h3⟩,hK⟩:=hK
       refine b1S h ho rfl hd hfn hf.1 hf.2 hp (K:=K) ⟨vs,h1,o1,_,h2,h3, ?_⟩ hn
       intro r' o' he _
       obtain ⟨e1,e2⟩:=he
       rw[e1,e2]
       have e:(fun b=>(o1 b).or (s.o b))=s.o:=by
        funext b
        cases hb:o1 b with
        | none=>rfl
        | some cs=>exact (h2 b cs hb).symm
       rw[e]
       exact hK
      ·subst hk
       obtain ⟨r,hr,hK⟩:=hK
       exact b6C h ho rfl hd hfn hf.1 hf.2 hp hr fun a' W' U' hi=>hn _ _ _ _ hi hK
  ·cases hk
 case h_21 x t ho=>
  split at hk
  ·rename_i X h1 h2
   cases hk
   obtain ⟨r,hr,hK⟩:=hK
   exact val (b6J h ho h1 h2 hr) hK
  ·rename_i e X h1 h2
   cases hk
   obtain ⟨r,hr,hK⟩:=hK
   exact val (b6I h ho h1 h2 hr) hK
  ·cases hk
 case h_22 i x t t' ho=>
  split at hk
  ·rename_i e sz X h1 h2
   split at hk
   ·rename_i h3
    obtain ⟨rfl,h4,h5⟩:=h3
    obtain ⟨inf,g1,g2,g3⟩:=isSlice_cases h1
    simp only[g2,Option.map_some,Option.some.injEq]at hk
    split at hk
    ·rename_i h6
     simp only[Bool.and_eq_true]at h6
     subst hk
     exact b6F h ho rfl hd g1 g2 g3 h4 h5 h6.2 h2 (.inr ⟨_,rfl,rfl⟩) hK hn
    ·subst hk
     obtain ⟨r,hr,hK⟩:=hK
     exact b8y h ho rfl hd g1 g2 g3 h4 h5 h2 hr fun a' W' U' hi=>hn _ _ _ _ hi hK
   ·split at hk
    ·rename_i h3
     obtain ⟨h4,rfl,h5⟩:=h3
     obtain ⟨inf,g1,g2,g3⟩:=isSlice_cases h1
     simp only[g2,Option.map_some,Option.some.injEq]at hk
     subst hk
     obtain ⟨r,hr,hK⟩:=hK
     exact b6z h ho rfl hd g1 g2 (isStr_spec h4) g3 h5 h2 hr fun a' W' U' hi=>hn _ _ _ _ hi hK
    ·cases hk
  ·cases hk
 case h_23 x y ts ho=>
  split at hk
  ·rename_i X Y h1 h2
   cases hk
   obtain ⟨r,hr,hK⟩:=hK
   exact val (c0c h ho h1 h2 hr) hK
  ·cases hk
 case h_24 t x y ho=>
  split at hk
  ·rename_i e sz X h1 h2
   split at hk
   ·rename_i z i h3 h4
    split at hk
    ·rename_i h5
     obtain ⟨h6,h7,h8⟩:=h5
     obtain rfl:=sameOpd_eq h6
     split at hk
     ·rename_i h9
      cases hk
      exact c0b h ho hd rfl h1 h2 h3 h4 h7 h8 h9 hK hn
     ·cases hk
    ·cases hk
   ·cases hk
  ·cases hk
 case h_25 x y ts ho=>
  split at hk
  ·rename_i X Y h1 h2
   cases hk
   obtain ⟨r,hr,hK⟩:=hK
   exact val (c0e h ho h1 h2 hr) hK
  ·cases hk
 case h_26 t ho=>
  cases hk
  exact b8M h ho hd rfl hK hn
 case h_27 t m x ok ho=>
  split at hk
  ·rename_i k e X Y ht h1 h2
   split at hk
   ·rename_i ks ag z h3 h4
    cases hk
    obtain ⟨r,hr,hK⟩:=hK
    exact val (c0d h ho ht h1 h2 h3 h4 hr) hK
   ·cases hk
  ·cases hk
 case h_28 t m x v ho=>
  split at hk
  ·rename_i k e X Y V ht h1 h2 h3
   split at hk
   ·rename_i ks ag h4 h5
    cases hk
    obtain ⟨r,⟨b,cs,hr⟩,hK⟩:=hK
    simp only[eff,hr,h5,St.put]at hK
    exact b8N h ho h5 ht h1 h2 h3 h4 hr fun a' W' U' hi=>hn _ _ _ _ hi hK
   ·cases hk
  ·cases hk
 case h_29 t m x ho=>
  split at hk
  ·rename_i k e X Y ht h1 h2
   split at hk
   ·rename_i ks ag z h4 h5
    cases hk
    obtain ⟨r,⟨b,cs,hr⟩,hK⟩:=hK
    simp only[eff,hr]at hK
    exact b8O h ho rfl hd ht h1 h2 h4 h5 hr fun a' W' U' hi=>hn _ _ _ _ hi hK
   ·cases hk
  ·cases hk
 case h_30 t m x v ho=>
  split at hk
  ·rename_i X Y V h1 h2 h3 h5
   cases hk
   obtain ⟨r,⟨b,cs,hr⟩,hK⟩:=hK
   simp only[eff,hr,h5,St.put]at hK
   exact b8P h ho h5 h1 h2 h3 hr fun a' W' U' hi=>hn _ _ _ _ hi hK
  ·cases hk
 case h_31 m x t k' ho=>
  split at hk
  ·rename_i k e X Y ht h1 h2
   split at hk
   ·rename_i ks ag h4 h5
    cases hk
    obtain ⟨r,⟨b,cs,hr⟩,hK⟩:=hK
    simp only[eff,hr,h5,St.put]at hK
    exact b8Q h ho h5 ht h1 h2 h4 hr fun a' W' U' hi=>hn _ _ _ _ hi hK
   ·cases hk
  ·cases hk
 case h_32 t x ho=>
  split at hk
  ·rename_i k e X ht h1
   cases hk
   obtain ⟨p,hp,hK⟩:=hK
   exact b8T h ho ht hd rfl h1 hp hK hn
  ·cases hk
 case h_33 x ho=>
  cases hx:a0j x with
  | none=>simp[hx]at hk
  | some X=>
   simp only[hx,Option.map_some,Option.some.injEq]at hk
   subst hk
   obtain ⟨p,hp,hK⟩:=hK
   exact b8R h ho hd rfl hx hp hK hn
 case h_34 x ho=>
  cases hx:a0j x with
  | none=>simp[hx]at hk
  | some X=>
   simp only[hx,Option.map_some,Option.some.injEq]at hk
   subst hk
   obtain ⟨r,hr,hK⟩:=hK
   exact val (b8F h ho hx hr) hK
 case h_35 x t t' ho=>
  split at hk
  ·rename_i e sz X h1 h2
   split at hk
   ·rename_i h3
    obtain ⟨rfl,h4,h5⟩:=h3
    obtain ⟨inf,g1,g2,g3⟩:=isSlice_cases h1
    simp only[g2,Option.map_some,Option.some.injEq]at hk
    split at hk
    ·rename_i h6
     simp only[Bool.and_eq_true]at h6
     subst hk
     exact b6F h ho rfl hd g1 g2 g3 h4 h5 h6.2 h2 (.inl ⟨rfl,rfl⟩) hK hn
    ·subst hk
     obtain ⟨r,hr,hK⟩:=hK
     exact val (b6y h ho g1 g2 g3 h4 h5 h2 hr) hK
   ·cases hk
  ·cases hk
 case h_36 k args argTypes ho=>
  split at hk
  ·cases hp:a4k P argTypes.toList args.toList with
   | none=>simp[hp]at hk
   | some ps=>
    simp only[hp,Option.map_some,Option.some.injEq]at hk
    subst hk
    exact b5i h ho rfl hd hp hK hn
  ·cases hk
 case h_37=>cases hk

def cOp(P:Program)(R:Nat)(ops:List Oper)(o:Oper):Option AOp:=
 match o.guard with
 | none=>(b1b P R ops o).map fun k=>⟨none,o.dst,k⟩
 | some (j,want)=>match (ops[j]?).bind (·.dst),b1b P R ops o with
  | some t,some k=>some ⟨some (t,want),o.dst,k⟩
  | _,_=>none

theorem a7W(h:Inv N W0 U0 M a W U s){ops:List Oper}{A:AOp}(hc:cOp P R ops o=some A)(hd:∀ j,o.dst=some j→j<N){K:St→Prop}(hK:opW P A s K)
  {next:Act→World→Prop} {Q:Exit→Act→World→Prop} (hn:∀ a' W' U' s',Inv N W0 U0 M a' W' U' s'→K s'→next a' W'):
  if Region.wanted o (yielded ops.toArray a.tmps) then o.wp P a W next Q∨(o.asks P a W∧LetsOut Q) else next (a.put o.dst Go.undef) W:=by
 unfold cOp at hc
 split at hc
 ·rename_i hg
  cases hk:b1b P R ops o with
  | none=>simp[hk]at hc
  | some k=>
   simp only[hk,Option.map_some,Option.some.injEq]at hc
   subst hc
   rw[if_pos (by simp[Region.wanted,hg])]
   exact .inl (a7p h hk hd hK hn)
 ·rename_i j want hg
  split at hc
  ·rename_i t k h1 h2
   simp only[Option.some.injEq]at hc
   subst hc
   have hskip:K (s.put o.dst .undef)→next (a.put o.dst Go.undef) W:=fun hK=>hn _ _ U _ (h.putO hd .undef fun _ _=>Sole.plain (by simp)) hK
   have hy:yielded ops.toArray a.tmps j=match a.tmps[t]? with|some (.bool b)=>some b|_=>none:=by
    simp only[yielded,List.getElem?_toArray,h1,Option.bind_some]
    rfl
   simp only[opW]at hK
   split at hK
   ·rename_i b hb
    have hv:=h.tv t _ hb
    have hbv:a.tmps.getD t Go.undef=.bool b:=by generalize a.tmps.getD t Go.undef=val at hv;cases hv;rfl
    have hbt:a.tmps[t]?=some (.bool b):=by
     rw[Array.getD_eq_getD_getElem?]at hbv
     cases hx:a.tmps[t]? with
     | none=>rw[hx]at hbv;simp[Go.undef]at hbv
     | some y=>rw[hx]at hbv;simpa using hbv
    rw[hbt]at hy
    have hw:Region.wanted o (yielded ops.toArray a.tmps)=(b==want):=by simp[Region.wanted,hg,hy]
    rw[hw]
    by_cases hbw:b=want
    ·subst hbw
     rw[if_pos (by simp)]
     exact .inl (a7p h h2 hd (hK.1 rfl) hn)
    ·rw[if_neg (by simpa using hbw)]
     exact hskip (hK.2 (by cases b<;>cases want<;>simp_all))
   ·rename_i hb
    have hv:=h.tv t _ hb
    have hbv:a.tmps.getD t Go.undef=Go.undef:=by generalize a.tmps.getD t Go.undef=val at hv;cases hv;rfl
    have hnb:∀ b,a.tmps[t]?≠some (.bool b):=by
     intro b hb
     rw[Array.getD_eq_getD_getElem?,hb]at hbv
     simp[Go.undef]at hbv
    have hyn:yielded ops.toArray a.tmps j=none:=by
     rw[hy]
     split
     ·rename_i b hb;exact absurd hb (hnb b)
     ·rfl
    have hw:Region.wanted o (yielded ops.toArray a.tmps)=false:=by simp[Region.wanted,hg,hyn]
    rw[hw]
    exact hskip hK
   ·exact hK.elim
  ·cases hc
end
end
section
open Go.RowKit

theorem le_refl(s:St):Le s s:=⟨fun _ _ h=>h,fun _ _ h=>h⟩
theorem le_trans{a b c:St}(h:Le a b)(g:Le b c):Le a c:=⟨fun i v e=>g.1 i v (h.1 i v e),fun i v e=>g.2 i v (h.2 i v e)⟩
section
variable {P:Program} {s s':St} (h:Le s s')
include h
theorem ev_le{x:Opd}{v:AV}(e:x.ev s=some v):x.ev s'=some v:=by
 cases x with
 | t i=>exact h.1 i v e
 | c w=>exact e
theorem a9R:∀ {l:List Opd} {vs:List AV},evs s l=some vs→evs s' l=some vs
 | [],_,e=>e
 | x::r,vs,e=>by
  unfold evs at e ⊢
  split at e
  ·rename_i v ws h1 h2
   rw[ev_le h h1,a9R h2];exact e
  ·cases e
theorem b3E:∀ {l:List (Nat × Nat × Opd)} {vs:List (Nat × Nat × AV)},evp s l=some vs→evp s' l=some vs
 | [],_,e=>e
 | (a,b,x)::r,vs,e=>by
  unfold evp at e ⊢
  split at e
  ·rename_i v ws h1 h2
   rw[ev_le h h1,b3E h2];exact e
  ·cases e
theorem view_le{p:AV}{cs:List AV}(e:view s.o p=some cs):view s'.o p=some cs:=by
 cases p<;>first|exact e|skip
 rename_i b off
 simp only[view,Option.map_eq_some_iff]at e ⊢
 obtain ⟨l,h1,h2⟩:=e
 exact ⟨l,h.2 b l h1,h2⟩
theorem boundR_le{d:Nat}{x:Option Opd}{r:Nat}(e:a1U s d x r):a1U s' d x r:=by
 cases x with
 | none=>exact e
 | some x=>obtain ⟨k,n,h1,h2⟩:=e;exact ⟨k,n,ev_le h h1,h2⟩
theorem muS_le{q:Nat}{z:AV}{ks:List Kd}{ag:Bool}{m k v:Opd}{x:Nat × AV × List AV}(e:muS s q z ks ag m k v=some x):muS s' q z ks ag m k v=some x:=by
 obtain ⟨b,r,cs⟩:=x
 obtain ⟨kv,vv,kl,vl,bs,clk,e1,e2,e3,e4,e5⟩:=muS_some e
 simp only[muS,ev_le h e1,ev_le h e2,ev_le h e3,h.2 _ _ e4,Option.bind_some,e5,Option.map_some]
theorem opR_le{k:AK}{r:AV}(e:opR P s k r):opR P s' k r:=by
 cases k with
 | mv x=>obtain ⟨v,h1,h2⟩:=e;exact ⟨v,ev_le h h1,h2⟩
 | nil _ _=>exact e
 | tk i=>exact h.1 i r e
 | newv _=>exact e
 | box _=>exact e
 | callo _ _=>exact e
 | calln _ _=>exact e
 | callv _ _=>exact e
 | hbs _ _ _=>exact e
 | cro f as'=>obtain ⟨vs,h1,o1,h2,h3⟩:=e;exact ⟨vs,a9R h h1,o1,fun b cs hb=>h.2 b cs (h2 b cs hb),h3⟩
 | ldt x=>
  obtain ⟨p,h1,h2⟩:=e
  refine ⟨p,ev_le h h1, ?_⟩
  cases p<;>try exact h2.elim
  ·rename_i cs
   cases cs with
   | nil=>exact h2.elim
   | cons c rest=>exact h2
  ·obtain ⟨cs,h3,h4⟩:=h2
   exact ⟨cs,h.2 _ _ h3,h4⟩
 | stt x i=>obtain ⟨b,off,v,cs,h1,h2,h3,h4⟩:=e;exact ⟨b,off,v,cs,ev_le h h1,h.1 _ _ h2,h.2 _ _ h3,h4⟩
 | mk _ _ _=>exact e
 | vidx n size q x i=>obtain ⟨a,b,h1,h2,h3⟩:=e;exact ⟨a,b,ev_le h h1,ev_le h h2,h3⟩
 | mn x y=>obtain ⟨a,b,h1,h2,h3⟩:=e;exact ⟨a,b,ev_le h h1,ev_le h h2,h3⟩
 | mx x y=>obtain ⟨a,b,h1,h2,h3⟩:=e;exact ⟨a,b,ev_le h h1,ev_le h h2,h3⟩
 | mkm=>exact e
 | peq neg x=>obtain ⟨a,b,h1,h2⟩:=e;exact ⟨a,b,ev_le h h1,h2⟩
 | app0 e' size bytes x=>obtain ⟨own,news,h1,h2⟩:=e;exact ⟨own,news,ev_le h h1,h2⟩
 | rng _=>exact e
 | b2o _=>exact e
 | b2d x=>obtain ⟨b,off,n,cs,l,h1,h2,h3⟩:=e;exact ⟨b,off,n,cs,l,ev_le h h1,h.2 b cs h2,h3⟩
 | asl n x=>obtain ⟨b,off,h1,h2⟩:=e;exact ⟨b,off,ev_le h h1,h2⟩
 | s2b e' x=>obtain ⟨l,h1,h2⟩:=e;exact ⟨l,ev_le h h1,h2⟩
 | nxt _=>exact e
 | mq z ok ks ag m k=>
  obtain ⟨a,b,h1,h2,h3⟩:=e
  refine ⟨a,b,ev_le h h1,ev_le h h2, ?_⟩
  cases a<;>try exact h3.elim
  ·obtain ⟨kl,vl,bs,clk,f,g1,g2⟩:=h3
   exact ⟨kl,vl,bs,clk,f,h.2 _ _ g1,g2⟩
  ·exact h3
  ·exact h3
 | mu q z ks ag m k v=>obtain ⟨b,cs,h1⟩:=e;exact ⟨b,cs,muS_le h h1⟩
 | ent x=>
  obtain ⟨a,h1,h2⟩:=e
  refine ⟨a,ev_le h h1, ?_⟩
  cases a<;>try exact h2.elim
  obtain ⟨m,since,seen,last,kl,vl,bs,clk,i,n,g1,g2,g3⟩:=h2
  exact ⟨m,since,seen,last,kl,vl,bs,clk,i,n,h.2 _ _ g1,h.2 _ _ g2,g3⟩
 | ld n x=>obtain ⟨p,cs,h1,h2,h3⟩:=e;exact ⟨p,cs,ev_le h h1,view_le h h2,h3⟩
 | sto n x v=>obtain ⟨b,off,a,cs,h1,h2,h3,h4⟩:=e;exact ⟨b,off,a,cs,ev_le h h1,ev_le h h2,h.2 _ _ h3,h4⟩
 | fld off x=>obtain ⟨p,h1,h2⟩:=e;exact ⟨p,ev_le h h1,h2⟩
 | ldh x=>obtain ⟨p,cs,h1,h2,h3⟩:=e;exact ⟨p,cs,ev_le h h1,view_le h h2,h3⟩
 | ldr n x=>obtain ⟨cs,h1,h2⟩:=e;exact ⟨cs,ev_le h h1,h2⟩
 | idx size x i=>obtain ⟨p,q,h1,h2,h3⟩:=e;exact ⟨p,q,ev_le h h1,ev_le h h2,h3⟩
 | bin op x y=>obtain ⟨a,b,h1,h2,h3⟩:=e;exact ⟨a,b,ev_le h h1,ev_le h h2,h3⟩
 | aidx n size x i=>obtain ⟨p,k,m,h1,h2,h3⟩:=e;exact ⟨p,k,m,ev_le h h1,ev_le h h2,h3⟩
 | un op x=>obtain ⟨a,h1,h2⟩:=e;exact ⟨a,ev_le h h1,h2⟩
 | len b x=>obtain ⟨a,h1,h2⟩:=e;exact ⟨a,ev_le h h1,h2⟩
 | app e' size bytes i x=>obtain ⟨els,own,news,h1,h2,h3⟩:=e;exact ⟨els,own,news,h.1 _ _ h1,ev_le h h2,h3⟩
 | apps e' bytes i x=>obtain ⟨els,l,h1,h2,h3⟩:=e;exact ⟨els,l,h.1 _ _ h1,ev_le h h2,h3⟩
 | bs e' size ps=>obtain ⟨vs,h1,h2⟩:=e;exact ⟨vs,a9R h h1,h2⟩
 | bld z ps=>obtain ⟨vs,cs,h1,h2⟩:=e;exact ⟨vs,cs,b3E h h1,h2⟩
 | fldv off n x=>obtain ⟨cs,h1,h2⟩:=e;exact ⟨cs,ev_le h h1,h2⟩
 | call f as'=>obtain ⟨vs,h1,h2⟩:=e;exact ⟨vs,a9R h h1,h2⟩
 | ext j x=>obtain ⟨cs,c,h1,h2⟩:=e;exact ⟨cs,c,ev_le h h1,h2⟩
 | nilc x=>
  rcases e with ⟨cs,h1,h2⟩ | ⟨b,off,h1,h2⟩
  ·exact .inl ⟨cs,ev_le h h1,h2⟩
  ·exact .inr ⟨b,off,ev_le h h1,h2⟩
 | pick c a b=>obtain ⟨cv,av,bv,h1,h2,h3,h4⟩:=e;exact ⟨cv,av,bv,ev_le h h1,ev_le h h2,ev_le h h3,h4⟩
 | slc size x lo hi=>
  cases size with
  | none=>obtain ⟨l,a,b,h1,h2,h3,h4⟩:=e;exact ⟨l,a,b,ev_le h h1,boundR_le h h2,boundR_le h h3,h4⟩
  | some size=>obtain ⟨own,l,a,b,h1,h2,h3,h4⟩:=e;exact ⟨own,l,a,b,ev_le h h1,boundR_le h h2,boundR_le h h3,h4⟩
 | conv k x=>obtain ⟨k',n,h1,h2⟩:=e;exact ⟨k',n,ev_le h h1,h2⟩
 | b2s x=>obtain ⟨own,l,h1,h2⟩:=e;exact ⟨own,l,ev_le h h1,h2⟩
 | sidx x i=>obtain ⟨l,k,n,h1,h2,h3⟩:=e;exact ⟨l,k,n,ev_le h h1,ev_le h h2,h3⟩
 | beq neg x y=>obtain ⟨a,b,h1,h2,h3⟩:=e;exact ⟨a,b,ev_le h h1,ev_le h h2,h3⟩
 | aeq neg ks x y=>obtain ⟨a,b,c,h1,h2,h3⟩:=e;exact ⟨a,b,c,ev_le h h1,ev_le h h2,h3⟩
 | s2s x=>obtain ⟨l,h1,h2⟩:=e;exact ⟨l,ev_le h h1,h2⟩
 | hap _ _ _ _ _=>exact e
 | hnl _ _=>exact e
 | hslc size x lo hi=>obtain ⟨p,a,b,h1,h2,h3,h4⟩:=e;exact ⟨p,a,b,ev_le h h1,boundR_le h h2,boundR_le h h3,h4⟩
end
theorem HapO_mono{o:Nat→Option (List AV)}{e size bytes:Nat}{q p:AV}{K K':AV→(Nat→Option (List AV))→Prop}(hK:∀ r a,K r a→K' r a)(g:b5I e size bytes o q K p):b5I e size bytes o q K' p:=by
 cases p<;>try exact g
 ·obtain ⟨h1,news,els,h2,h3,h4,h5,h6,h7,h8,h9⟩:=g
  exact ⟨h1,news,els,h2,h3,h4,h5,h6,h7,h8,fun b hb cap' hc=>hK _ _ (h9 b hb cap' hc)⟩
 ·obtain ⟨h1,news,h2,h3,h4,h5,h6⟩:=g
  exact ⟨h1,news,h2,h3,h4,fun hn=>hK _ _ (h5 hn),fun hn b hb cap hc=>hK _ _ (h6 hn b hb cap hc)⟩
end
end Go.Proofs.YtfgihnhoocnmdaaGreatDoor
