import Derived.Test.YtfgihnhoocnmdaaGreatDoorJ2
namespace Go.Proofs.YtfgihnhoocnmdaaGreatDoor
set_option linter.all false
set_option maxHeartbeats 64000000
set_option maxRecDepth 100000
open Go.RowKit
section
variable {P:Program} {N:Nat} {W0:World} {U0:Nat→Nat→Prop} {M:Nat→Prop} {a:Act} {W W':World} {U U':Nat→Nat→Prop} {s:St} {o:Oper} {r:AV}

theorem Inv.turn(h:Inv N W0 U0 M a W U s){g:Nat}(hg:W0.heap.size≤g∨M g)(hno:s.o g=none)(how:∀ ℓ e sz els,s.at ℓ=some (.sl (some e) sz els)→(AQ a W ℓ).ownBlock≠some g)
  (hk:Keeps W U W' U') (h1:W'.os=W.os) (h2:W'.tape=W.tape) (h3:W'.output=W.output) (h4:W.heap.size≤W'.heap.size) (hb:∀ k,k<W.heap.size→k≠g→W'.heap[k]?=W.heap[k]?)
  (hu:∀ k,k<W.heap.size→k≠g→∀ o,U' k o↔U k o):Inv N W0 U0 M a W' U' s where
 sz:=h.sz
 df:=h.df
 fr:={
  os:=h1.trans h.fr.os
  tape:=h2.trans h.fr.tape
  output:=h3.trans h.fr.output
  size:=En h.fr.size h4
  block:=fun k hk' hm=>by
   have hne:k≠g:=by rintro rfl;rcases hg with hg|hg;omega;exact hm hg
   exact (hb k (Nat.lt_of_lt_of_le hk' h.fr.size) hne).trans (h.fr.block k hk' hm)
  u:=fun k hk' hm o=>by
   have hne:k≠g:=by rintro rfl;rcases hg with hg|hg;omega;exact hm hg
   exact (hu k (Nat.lt_of_lt_of_le hk' h.fr.size) hne o).trans (h.fr.u k hk' hm o)
  keeps:=h.fr.keeps.trans hk
  g0:=h.fr.g0
  gm:=h.fr.gm }
 tv:=fun i v hv=>(h.tv i v hv).keep hk
 ob:=fun b cs hbc=>by
  obtain ⟨e1,e4,e5⟩:=h.ob b cs hbc
  have hne:b≠g:=by rintro rfl;rw[hno]at hbc;cases hbc
  exact ⟨e1.move hk (hb b e1.lt hne),fun o=>(hu b e1.lt hne o).2 (e4 o),e5⟩
 ow:=fun ℓ v hv=>by
  have hcat:AQ a W' ℓ=AQ a W ℓ:=by
   cases ℓ with
   | t i=>rfl
   | o b j=>
    have hv':=hv
    simp only[St.at,F9]at hv'
    obtain ⟨cs,e1,_⟩:=hv'
    have hne:b≠g:=by rintro rfl;rw[hno]at e1;cases e1
    simp only[AQ,hb b (h.ob_lt b cs e1) hne]
  rw[hcat]
  have hh:=h.ow ℓ v hv
  unfold Own1 at *
  split at hh
  ·rename_i e sz els
   rcases hh with hh | ⟨g',cap,cur,q1,q2,q3,q4,q5,q6,q7,q8⟩
   ·exact .inl hh
   ·have hne:g'≠g:=fun e'=>how ℓ e sz els hv (by rw[q1];simp[Value.ownBlock,e'])
    have hlt:=q3.lt
    exact .inr ⟨g',cap,cur,q1,q2,q3.move (hb g' hlt hne),q4,q5,q6,fun o ho hu'=>q7 o ho ((hu g' hlt hne o).1 hu'),fun o ho=>(hu g' hlt hne o).2 (q8 o ho)⟩
  ·trivial
 ap:=fun ℓ ℓ' e sz els e' sz' els' hne e1 e2=>by
  have hcat:∀ {ℓ:Loc} {v:AV},s.at ℓ=some v→AQ a W' ℓ=AQ a W ℓ:=by
   intro ℓ v hv
   cases ℓ with
   | t i=>rfl
   | o b j=>
    simp only[St.at,F9]at hv
    obtain ⟨cs,e1,_⟩:=hv
    have hne:b≠g:=by rintro rfl;rw[hno]at e1;cases e1
    simp only[AQ,hb b (h.ob_lt b cs e1) hne]
  rw[hcat e1,hcat e2]
  exact h.ap ℓ ℓ' e sz els e' sz' els' hne e1 e2
 no:=fun ℓ e sz els e1=>by
  have hcat:AQ a W' ℓ=AQ a W ℓ:=by
   cases ℓ with
   | t i=>rfl
   | o b j=>
    have e2:=e1
    simp only[St.at,F9]at e2
    obtain ⟨cs,e3,_⟩:=e2
    have hne:b≠g:=by rintro rfl;rw[hno]at e3;cases e3
    simp only[AQ,hb b (h.ob_lt b cs e3) hne]
  rw[hcat]
  exact h.no ℓ e sz els e1

def AB(f:Nat→Nat→Value)(m sz:Nat):List Value:=(List.range (m * sz)).map fun p=>f (p / sz) (p % sz)
theorem CE(f:Nat→Nat→Value)(m sz:Nat):(AB f m sz).length=m * sz:=by simp[AB]
theorem IF{f:Nat→Nat→Value}{m sz i j:Nat}(hi:i<m)(hj:j<sz):(AB f m sz)[i * sz+j]?=some (f i j):=by
 have hlt:i * sz+j<m * sz:=by
  have:(i+1) * sz≤m * sz:=Dq _ hi
  rw[Bp]at this
  omega
 simp only[AB,B7,List.getElem?_range hlt,BE]
 have e1:(i * sz+j) / sz=i:=by
  rw[EF,Nat.mul_add_div (by omega),Nat.div_eq_of_lt hj];omega
 have e2:(i * sz+j) % sz=j:=by
  rw[EF,Nat.mul_add_mod,Nat.mod_eq_of_lt hj]
 rw[e1,e2]
theorem Km{f:Nat→Nat→Value}{m sz p:Nat}{v:Value}(h:(AB f m sz)[p]?=some v):p / sz<m∧p % sz<sz∧v=f (p / sz) (p % sz)∧p=p / sz * sz+p % sz:=by
 obtain ⟨hlt,rfl⟩:=range_map_get (f:=fun p=>f (p / sz) (p % sz)) h
 have hsz:0<sz:=by
  rcases Gv sz with h0|h0
  ·subst h0;simp at hlt
  ·exact h0
 refine ⟨(G7 hsz).2 hlt,EE _ hsz,rfl, ?_⟩
 have:=F6 p sz
 rw[EF]at this
 omega
theorem Nq{f:Nat→Nat→Value}{m sz:Nat}(h:∀ i j,i<m→j<sz→(f i j).oneCell'=true):∀ u∈AB f m sz,u.oneCell'=true:=by
 intro u hu
 obtain ⟨p,hp⟩:=Iq.1 hu
 obtain ⟨h1,h2,rfl,_⟩:=Km hp
 exact h _ _ h1 h2

theorem H9(g:Nat)(t:TypeId)(fz:Nat × Nat):∀ (vs:List Value) (k:Nat) (cur:Array Value) (w:World),w.heap[g]?=some (.cells cur t fz)→k+vs.length≤cur.size→
  w.setCells g k vs=w.setRow g (cur.toList.take k++vs++cur.toList.drop (k+vs.length)).toArray
 | [],k,cur,w,hg,_=>by
  rw[World.setCells,Jb,AY,Nat.add_zero,HN]
  exact (setRow_self w g cur t fz hg).symm
 | v::rest,k,cur,w,hg,hl=>by
  have hl':k+(rest.length+1)≤cur.size:=by simpa using hl
  rw[World.setCells,setCell_eq_setRow w g k cur t fz v hg,H9 g t fz rest (k+1) _ _ (setRow_heap w g cur _ t fz hg) (by rw[Array.size_setIfInBounds];omega),setRow_setRow]
  have e:=list_seg_step cur.toList k v rest (by rw[EU];omega)
  have e':(cur.toList.set k v).take (k+1)++rest++(cur.toList.set k v).drop (k+1+rest.length)=cur.toList.take k++v::rest++cur.toList.drop (k+(v::rest).length):=by
   simpa[Nat.add_assoc,Nat.add_comm 1]using e
  rw[Array.toList_setIfInBounds,e']
theorem b0S{P:Program}(w:World)(g k e:Nat)(cur:Array Value){fz:Nat × Nat}(hg:w.heap[g]?=some (.cells cur e fz))(hfz:fz.2=0∨cur.size≤fz.1)(vs:List Value)(hl:k+vs.length≤cur.size)(h1:∀ u∈vs,u.oneCell'=true):
  (storeCells ⟨g,k,none⟩ vs 0).run P w=.ok () (w.setRow g (cur.toList.take k++vs++cur.toList.drop (k+vs.length)).toArray):=by
 have h:=run_storeCells_cells (P:=P) g k vs 0 w (fun j hj=>by
  rw[cell_of_row w g _ cur e fz hg]
  have:k+0+j<cur.size:=by omega
  simp only[Dz this,EH]) (fun j hj=>by
  simp only[World.frozen?,hg]
  rw[Bool.and_eq_false_iff,Hf,Hf]
  rcases hfz with h|h
  ·exact .inr (by omega)
  ·exact .inl (by omega)) h1
 rw[h,Nat.add_zero,H9 g e fz vs _ cur w hg hl]
theorem b0Q{P:Program}(w:World)(t ty e:TypeId)(i:TypeInfo)(ht:P.underlying t=some (.slice e))(hi:P.info? e=some i)(g n cap:Nat)(cur:Array Value){fz:Nat × Nat}(hg:w.heap[g]?=some (.cells cur e fz))(hfz:fz.2=0∨cur.size≤fz.1)
  (a:Addr) (m c:Nat) (news:List Value) (hl:news.length=m * i.size) (hnews:∀ j u,news[j]?=some u→w.cell? (a.add j)=some u) (h1:∀ u∈news,u.oneCell'=true) (hroom:n+m≤cap) (hfit:n * i.size+news.length≤cur.size):
  (Builtin.append_ #[t,t] ty #[.slice (some ⟨g,0,none⟩) n cap,.slice (some a) m c]).run P w=.ok (.slice (some ⟨g,0,none⟩) (n+m) cap) (w.setRow g (cur.toList.take (n * i.size)++news++cur.toList.drop (n * i.size+news.length)).toArray):=by
 have h:=run_append_room_cells (P:=P) w t ty e i ht hi g 0 n cap a m c news hl hnews h1 hroom (fun j hj=>by
  rw[cell_of_row w g _ cur e fz hg]
  have:0+n * i.size+j<cur.size:=by omega
  simp only[Dz this,EH]) (fun j hj=>by
  simp only[World.frozen?,hg]
  rw[Bool.and_eq_false_iff,Hf,Hf]
  rcases hfz with h|h
  ·exact .inr (by omega)
  ·exact .inl (by omega))
 rw[h,AH,H9 g e fz news _ cur w hg hfit]
theorem Oq{g cap e:Nat}{cells:Array Value}{els:List (List AV)}{sz:Nat}{own:Option Nat}{f:Nat→Nat→Value}{fz:Nat × Nat}(hh:W.heap[g]?=some (.cells cells e fz))(hcap:els.length≤cap)(hmax:cap≤maxLen)
  (hs:∀ e∈els,e.length=sz) (hcell:∀ i j,i<els.length→j<sz→cells[i * sz+j]?=some (f i j)∧(f i j).oneCell'=true) (hU:∀ o,o<els.length * sz→¬ U g o)
  (hv:∀ (i:Nat) (e:List AV) (j:Nat) (c:AV),els[i]?=some e→e[j]?=some c→VR W U (f i j) c):VR W U (.slice (some ⟨g,0,none⟩) els.length cap) (.sl own sz els):=by
 refine .sl _ cap own els g 0 sz f hcap hmax (fun _=>rfl) hs (fun i j hi hj=>?_) hv
 obtain ⟨h1,h2⟩:=hcell i j hi hj
 rw[AH]
 refine ⟨by rw[cell_of_row W g (i * sz+j) cells e fz hh];exact h1,h2,hU _ ?_⟩
 have:(i+1) * sz≤els.length * sz:=Dq _ hi
 rw[Bp]at this
 omega

theorem Ql{g cap e n:Nat}{cells:Array Value}{els:List (List AV)}{sz:Nat}{own:Option Nat}{f:Nat→Nat→Value}{fz:Nat × Nat}(hn:els.length=n)(hh:W.heap[g]?=some (.cells cells e fz))(hcap:n≤cap)(hmax:cap≤maxLen)
  (hs:∀ e∈els,e.length=sz) (hcell:∀ i j,i<n→j<sz→cells[i * sz+j]?=some (f i j)∧(f i j).oneCell'=true) (hU:∀ o,o<n * sz→¬ U g o)
  (hv:∀ (i:Nat) (e:List AV) (j:Nat) (c:AV),els[i]?=some e→e[j]?=some c→VR W U (f i j) c):VR W U (.slice (some ⟨g,0,none⟩) n cap) (.sl own sz els):=by
 subst hn
 exact Oq hh hcap hmax hs hcell hU hv

def E9(n:Nat)(f g:Nat→Nat→Value):Nat→Nat→Value:=fun i j=>if i<n then f i j else g (i - n) j
theorem Pj{n m sz i j:Nat}{f g:Nat→Nat→Value}(hi:i<n+m)(hj:j<sz):(AB f n sz++AB g m sz)[i * sz+j]?=some (E9 n f g i j):=by
 unfold E9
 by_cases h:i<n
 ·rw[Af h,CB,IF h hj]
  have:(i+1) * sz≤n * sz:=Dq _ h
  rw[Bp]at this
  rw[CE]
  omega
 ·rw[Ad h]
  have e:i * sz+j=n * sz+((i - n) * sz+j):=by
   have:i=n+(i - n):=by omega
   rw[this,Bp]
   simp only[Nat.add_sub_cancel_left]
   omega
  rw[Cj (by rw[CE];omega),CE,e,Nat.add_sub_cancel_left,IF (by omega) hj]
theorem Ph{els news:List (List AV)}{f g:Nat→Nat→Value}(h1:∀ (i:Nat) (e:List AV) (j:Nat) (c:AV),els[i]?=some e→e[j]?=some c→VR W U (f i j) c)
  (h2:∀ (i:Nat) (e:List AV) (j:Nat) (c:AV),news[i]?=some e→e[j]?=some c→VR W U (g i j) c):∀ (i:Nat) (e:List AV) (j:Nat) (c:AV),(els++news)[i]?=some e→e[j]?=some c→VR W U (E9 els.length f g i j) c:=by
 intro i e j c he hc
 unfold E9
 by_cases h:i<els.length
 ·rw[Af h]
  rw[CB h]at he
  exact h1 i e j c he hc
 ·rw[Ad h]
  rw[Cj (by omega)]at he
  exact h2 _ e j c he hc

theorem b0U(h:Inv N W0 U0 M a W U s){t e sz i:Nat}{inf:TypeInfo}{x:Operand}{X:Opd}{d:Option Nat}(ho:o.op=.call { callee:=.builtin .append,args:=⟨[.tmp i,x]⟩,argTypes:=⟨[t,t]⟩ })(hod:o.dst=d)(hd:∀ j,d=some j→j<N)
  (ht:P.underlying t=some (.slice e)) (hi:P.info? e=some inf) (hisz:inf.size=sz) (hsz:0<sz) (hz:Fo P e=some sz) (hx:Au x=some X) (hr:AU P s (.app e sz inf.bytes i X) r) {next:Act→World→Prop} {Q:Exit→Act→World→Prop}
  (hn:∀ a' W' U',Inv N W0 U0 M a' W' U' (B6 d (.app e sz inf.bytes i X) r s)→next a' W'):o.wp P a W next Q:=by
 obtain ⟨els,own,news,hs0,hxv,hb,hmx,rfl⟩:=hr
 have hv:=h.tv i _ hs0
 have hw:=AW h hx hxv
 have hown:=h.ow (.t i) _ hs0
 simp only[Own1,AQ]at hown
 obtain ⟨z,hz1,hz2⟩:∃ z,inf.zero=some z∧z.cells.size=sz:=by
  simp only[Fo,hi,CY,BM]at hz
  exact hz
 -- it is enough to know what the append gives
 have key:∀ v' W' U',(Builtin.append_ #[t,t] o.type #[a.eval (.tmp i),a.eval x]).run P W=.ok v' W'→Inv N W0 U0 M a W' U' { s with t:=upd s.t i none }→VR W' U' v' (.sl (some e) sz (els++news))→
   (∀ j,d=some j→Sole W0 M a W' U' { s with t:=upd s.t i none } j v' (.sl (some e) sz (els++news)))→o.wp P a W next Q:=by
  intro v' W' U' hrun hinv hvr hso
  unfold Oper.wp execOp
  simp only[ho,resolve,invoke,builtin,Sem.run_bind,Sem.run_pure,Result.andThen_ok,List.map_toArray,CX,List.map_nil]
  rw[show (#[a.eval (.tmp i),a.eval x]:Array Value)=⟨[a.eval (.tmp i),a.eval x]⟩ from rfl]at hrun
  rw[show (#[t,t]:Array Nat)=⟨[t,t]⟩ from rfl]at hrun
  rw[hrun]
  simp only[Result.andThen_ok,Oper.upon,hod]
  exact hn _ _ _ (hinv.putO hd hvr hso)
 have hle:Le { s with t:=upd s.t i none } s:=⟨fun j v hj=>by
  by_cases hji:j=i
  ·subst hji;simp[upd]at hj
  ·simpa[upd,hji]using hj,fun _ _ hj=>hj⟩
 have h':=h.le hle
 have hother:∀ ℓ e' sz' els',St.at { s with t:=upd s.t i none } ℓ=some (.sl (some e') sz' els')→ℓ ≠ .t i∧s.at ℓ=some (.sl (some e') sz' els'):=by
  intro ℓ e' sz' els' hl
  refine ⟨fun he=>?_,hle.at_ hl⟩
  subst he
  simp[St.at,upd]at hl
 generalize hval:a.eval (.tmp i)=val at *
 have hval':a.tmps.getD i undef=val:=hval
 rw[hval']at hv hown
 generalize hxval:a.eval x=xval at *
 cases hw with
 | sl A cap _ _ b2 o2 _ f2 hcap2 hmax2 hA2 hs2 hc2 hv2=>
  cases hv with
  | sl A1 cap1 _ _ b1 o1 _ f1 hcap1 hmax1 hA1 hs1 hc1 hv1=>
   have hsall:∀ e∈els++news,e.length=sz:=by
    intro e' he'
    rcases Bv.1 he' with he'|he'
    ·exact hs1 e' he'
    ·exact hs2 e' he'
   have hlen:(els++news).length=els.length+news.length:=Ao
   have hnews:∀ ad,A=some ad→∀ p v,(AB f2 news.length sz)[p]?=some v→W.cell? (ad.add p)=some v:=by
    intro ad hAd p v hp
    obtain ⟨q1,q2,rfl,q4⟩:=Km hp
    have:=hA2 (Nat.lt_of_le_of_lt (Nat.zero_le _) q1)
    rw[hAd]at this
    cases this
    rw[C0,q4, ← Nat.add_assoc]
    have e1:(p / sz * sz+p % sz) / sz=p / sz:=by rw[← q4]
    have e2:(p / sz * sz+p % sz) % sz=p % sz:=by rw[← q4]
    rw[e1,e2]
    exact (hc2 _ _ q1 q2).1
   have h1new:∀ u∈AB f2 news.length sz,u.oneCell'=true:=Nq fun i j hi hj=>(hc2 i j hi hj).2.1
   cases hAc:A with
   | none=>
    -- nothing is appended
    subst hAc
    have hn0:news=[]:=by
     cases news with
     | nil=>rfl
     | cons c l=>have:=hA2 (by simp);cases this
    subst hn0
    simp only[Jb]at key hn ⊢
    refine key (.slice A1 els.length cap1) W U ?_ h' (.sl A1 cap1 _ _ b1 o1 _ f1 hcap1 hmax1 hA1 hs1 hc1 hv1) (fun j hj e' sz' els' he'=>?_)
    ·simp[Builtin.append_,run_underlying ht,sizeOf,typeInfo,hi,Builtin.lenOf,hcap1,Builtin.firstCells]
     cases A1<;>simp[storeCells]
    ·cases he'
     refine ⟨hown,fun g hg=>⟨h.no (.t i) _ _ _ hs0 g (by simp only[AQ,hval'];exact hg),fun ℓ hlj ⟨e2,sz2,els2,hl⟩=>?_⟩⟩
     obtain ⟨hne,hl'⟩:=hother ℓ _ _ _ hl
     exact h.ap (.t i) ℓ _ _ _ _ _ _ (Ne.symm hne) hs0 hl' g (by simp only[AQ,hval'];exact hg)
   | some ad=>
    subst hAc
    have hnews':=hnews ad rfl
    rcases hown with ⟨hnil,hn0⟩ | ⟨g,capg,cur,hsl,hB,⟨fz,hgh,hfz⟩,hgc,hgm,hgs,hgU1,hgU2⟩
    ·-- the row is nil
     have he0:els=[]:=Dn hn0
     subst he0
     simp only[Bj,AY,AH]at key hn hmx hb hlen hnil ⊢
     injection hnil with q1 q2 q3
     subst q1 q3
     by_cases hm:news.length=0
     ·have hn1:news=[]:=Dn hm
      subst hn1
      refine key (.slice none 0 0) W U ?_ h' (Gs (v:=.slice none 0 0) (c:=.sl (some e) sz []) rfl W U).1 (fun j hj e' sz' els' he'=>?_)
      ·simp[Builtin.append_,run_underlying ht,sizeOf,typeInfo,hi,Builtin.lenOf,Builtin.firstCells,loadCells,loadCellsFrom]
      ·cases he'
       exact ⟨.inl ⟨rfl,rfl⟩,fun g hg=>by simp[Value.ownBlock]at hg⟩
     ·have hrun:=run_append_nil (P:=P) W t o.type e inf z ht hi hz1 ad news.length cap (AB f2 news.length sz) (by rw[CE,hisz]) hnews' (by omega) (by simp only[maxLen]at hmx;omega) (by omega)
      have hE:Ext W U (W.drew.alloc (.cells ((AB f2 news.length sz).toArray++Builtin.zeroCells z.cells (grownCap W news.length 0 e - news.length)) e)) (fun k i=>if k=W.heap.size then news.length * sz≤i else U k i):=by
       have:=Ext.alloc W.drew U (.cells ((AB f2 news.length sz).toArray++Builtin.zeroCells z.cells (grownCap W news.length 0 e - news.length)) e) (fun i=>news.length * sz≤i)
       exact ⟨(Below.refl _ _).drew.alloc (A8 _) _,this.u⟩
      have hge:=grownCap_ge W news.length 0 e
      have hcm:=grownCap_le_maxLen W news.length 0 e hmx
      have hnew:=heap_alloc_new W.drew (.cells ((AB f2 news.length sz).toArray++Builtin.zeroCells z.cells (grownCap W news.length 0 e - news.length)) e)
      have hcsz:((AB f2 news.length sz).toArray++Builtin.zeroCells z.cells (grownCap W news.length 0 e - news.length)).size=grownCap W news.length 0 e * sz:=by
       simp only[G2,Ck,size_zeroCells,hz2,CE, ← Bp]
       congr 1
       omega
      refine key _ _ _ hrun (h'.ext hE) ?_ (fun j hj=>Sole.fresh h' hE ?_)
      ·refine Oq (f:=f2) hnew hge hcm hs2 (fun i j hi hj=>?_) (fun o ho hu=>?_) (fun i e' j c he hc=>(hv2 i e' j c he hc).keep hE.keeps)
       ·refine ⟨?_,(hc2 i j hi hj).2.1⟩
        have:=IF (f:=f2) hi hj
        rw[HK (by rw[Ck];exact (AM.1 this).1)]
        simpa using this
       ·have hu':news.length * sz≤o:=by simpa using hu
        omega
      ·refine .inr ⟨W.heap.size,_,_,rfl,A8 _,.of hnew,hge,hcm,hcsz,fun o ho hu=>?_,fun o ho=>?_⟩
       ·have hu':news.length * sz≤o:=by simpa using hu
        omega
       ·simpa using ho
    ·-- a row of its own
     have hb1:0<els.length→b1=g∧o1=0:=fun hp=>by
      have:=hA1 hp
      rw[this]at hsl
      injection hsl with h1 h2 h3
      injection h1 with h1
      injection h1 with h1 h2
      exact ⟨h1,h2⟩
     have hcur:∀ i j,i<els.length→j<sz→cur[i * sz+j]?=some (f1 i j):=by
      intro i j hi hj
      obtain ⟨rfl,rfl⟩:=hb1 (by omega)
      have:=(hc1 i j hi hj).1
      rw[AH]at this
      rw[← this,cell_of_row W b1 _ cur e fz hgh]
     have hold:∀ p v,(AB f1 els.length sz)[p]?=some v→W.cell? ((⟨g,0,none⟩:Addr).add p)=some v:=by
      intro p v hp
      obtain ⟨q1,q2,rfl,q4⟩:=Km hp
      rw[C0,AH,cell_of_row W g p cur e fz hgh]
      have:=hcur _ _ q1 q2
      rw[← q4]at this
      exact this
     injection hsl with hA1' hlen1 hcap1'
     subst hA1' hcap1'
     have hnog:s.o g=none:=h.no (.t i) _ _ _ hs0 g (by simp only[AQ,hval'];rfl)
     have hapg:∀ ℓ e' sz' els',St.at { s with t:=upd s.t i none } ℓ=some (.sl (some e') sz' els')→(AQ a W ℓ).ownBlock≠some g:=fun ℓ e' sz' els' hl=>by
      obtain ⟨hne,hl'⟩:=hother ℓ _ _ _ hl
      exact h.ap (.t i) ℓ _ _ _ _ _ _ (Ne.symm hne) hs0 hl' g (by simp only[AQ,hval'];rfl)
     by_cases hroom:els.length+news.length≤cap1
     ·-- in place
      have hfit:els.length * inf.size+(AB f2 news.length sz).length≤cur.size:=by
       rw[CE,hgs,hisz, ← Bp]
       exact Dq _ hroom
      have hrun:=b0Q (P:=P) W t o.type e inf ht hi g els.length cap1 cur hgh hfz ad news.length cap (AB f2 news.length sz) (by rw[CE,hisz]) hnews' h1new hroom hfit
      rw[hisz]at hrun hfit
      have hnew:=setRow_heap W g cur (cur.toList.take (els.length * sz)++AB f2 news.length sz++cur.toList.drop (els.length * sz+(AB f2 news.length sz).length)).toArray e fz hgh
      have htk:(cur.toList.take (els.length * sz))=AB f1 els.length sz:=by
       apply F5
       intro p
       rcases FJ p (els.length * sz) with hp|hp
       ·have hp':p / sz<els.length:=(G7 hsz).2 hp
        have e4:p=p / sz * sz+p % sz:=by have:=F6 p sz;rw[EF]at this;omega
        rw[HM,Af hp,e4,IF hp' (EE _ hsz)]
        simpa using hcur _ _ hp' (EE _ hsz)
       ·rw[FH (by simp;omega),FH (by rw[CE];exact hp)]
      rw[htk]at hrun hnew
      have hcell:∀ i j,i<els.length+news.length→j<sz→(AB f1 els.length sz++AB f2 news.length sz++cur.toList.drop (els.length * sz+(AB f2 news.length sz).length)).toArray[i * sz+j]?=some (E9 els.length f1 f2 i j):=by
       intro i j hi hj
       have:=Pj (f:=f1) (g:=f2) hi hj
       rw[EW,CB (AM.1 this).1]
       exact this
      have hK:Keeps W U (W.setRow g (AB f1 els.length sz++AB f2 news.length sz++cur.toList.drop (els.length * sz+(AB f2 news.length sz).length)).toArray) (fun k i=>if k=g then (els.length+news.length) * sz≤i else U k i):=by
       refine ⟨fun b' o' v hc hu=>?_,fun b' ty ⟨c1,c3,c4⟩=>?_,fun b' es' clk' e' hu=>by
        have hne:b'≠g:=by rintro rfl;rw[hgh]at e';cases e'
        exact ⟨(setRow_other W g b' _ hne).trans e',by simp only[Ad hne];exact hu⟩⟩
       rotate_left
       ·by_cases hne:b'=g
        ·subst hne;have e4:=hgh.symm.trans c4;cases e4;exact ⟨_,_,hnew⟩
        ·exact ⟨c1,c3,(setRow_other W g b' _ hne).trans c4⟩
       by_cases hbg:b'=g
       ·subst hbg
        have hlt:o'<els.length * sz:=by
         rcases FJ o' (els.length * sz) with hl|hl
         ·exact hl
         ·exact absurd (hgU2 o' hl) hu
        have e4:o'=o' / sz * sz+o' % sz:=by have:=F6 o' sz;rw[EF]at this;omega
        have hp':o' / sz<els.length:=(G7 hsz).2 hlt
        refine ⟨?_, ?_⟩
        ·rw[cell_of_row _ b' o' _ e fz hnew]
         rw[cell_of_row W b' o' cur e fz hgh]at hc
         have h5:=hcell (o' / sz) (o' % sz) (by omega) (EE _ hsz)
         have h6:=hcur _ _ hp' (EE o' hsz)
         rw[← e4]at h5 h6
         rw[h5, ← hc,h6]
         simp[E9,hp']
        ·simp only[Bo]
         rw[Bp]
         omega
       ·refine ⟨?_,by simpa[hbg]using hu⟩
        rw[World.cell?_of_block (w:=W) (a:=⟨b',o',none⟩) (setRow_other W g b' _ hbg)]
        exact hc
      refine key _ _ (fun k i=>if k=g then (els.length+news.length) * sz≤i else U k i) hrun
       (h'.turn hB hnog hapg hK rfl rfl rfl (by simp) (fun k _ hk=>setRow_other W g k _ hk) (fun k _ hk o=>by simp[hk])) ?_ (fun j hj e' sz' els' he'=>?_)
      ·refine Ql (f:=E9 els.length f1 f2) hlen hnew hroom hgm hsall (fun i j hi hj=>⟨hcell i j hi hj, ?_⟩) (fun o ho hu=>?_) (Ph (fun i e' j c he hc=>(hv1 i e' j c he hc).keep hK) (fun i e' j c he hc=>(hv2 i e' j c he hc).keep hK))
       ·unfold E9
        by_cases hil:i<els.length
        ·rw[Af hil];exact (hc1 i j hil hj).2.1
        ·rw[Ad hil];exact (hc2 (i - els.length) j (by omega) hj).2.1
       ·simp only[Bo]at hu
        omega
      ·cases he'
       refine ⟨.inr ⟨g,cap1,_,by rw[hlen],hB,⟨fz,hnew,hfz.imp id fun q=>by simp only[Ck,Ao,Cc,EU,CE]at hfit ⊢;omega⟩,by omega,hgm, ?_,fun o ho hu=>?_,fun o ho=>?_⟩,fun g' hg'=>?_⟩
       ·simp only[Ck,Ao,Cc,EU,CE]at hfit ⊢
        omega
       ·simp only[Bo]at hu
        rw[hlen]at ho
        omega
       ·simp only[Bo]
        rw[hlen]at ho
        exact ho
       ·obtain rfl:g=g':=by simpa[Value.ownBlock]using hg'
        refine ⟨hnog,fun ℓ _ ⟨e2,sz2,els2,hl⟩=>?_⟩
        have hcat:AQ a (W.setRow g (AB f1 els.length sz++AB f2 news.length sz++cur.toList.drop (els.length * sz+(AB f2 news.length sz).length)).toArray) ℓ=AQ a W ℓ:=by
         cases ℓ with
         | t i=>rfl
         | o b j=>
          have hl2:=hl
          simp only[St.at,F9]at hl2
          obtain ⟨cs,e1,_⟩:=hl2
          have hne:b≠g:=by rintro rfl;rw[hnog]at e1;cases e1
          simp only[AQ,setRow_other W g b _ hne]
        rw[hcat]
        exact hapg ℓ _ _ _ hl
     ·-- a new row
      have hrun:=run_append_grow (P:=P) W t o.type e inf z ht hi hz1 ⟨g,0,none⟩ els.length cap1 (AB f1 els.length sz) (by rw[CE,hisz]) hold ad news.length cap (AB f2 news.length sz) (by rw[CE,hisz]) hnews' (by omega)
       (by simp only[maxLen]at hmx;omega) (growslice_fits (by omega) hb)
      have hge:=grownCap_ge W (els.length+news.length) cap1 e
      have hcm:=grownCap_le_maxLen W (els.length+news.length) cap1 e hmx
      have hnew:=heap_alloc_new W.drew (.cells ((AB f1 els.length sz).toArray++(AB f2 news.length sz).toArray++Builtin.zeroCells z.cells (grownCap W (els.length+news.length) cap1 e - (els.length+news.length))) e)
      have hE:Ext W U (W.drew.alloc (.cells ((AB f1 els.length sz).toArray++(AB f2 news.length sz).toArray++Builtin.zeroCells z.cells (grownCap W (els.length+news.length) cap1 e - (els.length+news.length))) e)) (fun k i=>if k=W.heap.size then (els.length+news.length) * sz≤i else U k i):=by
       have:=Ext.alloc W.drew U (.cells ((AB f1 els.length sz).toArray++(AB f2 news.length sz).toArray++Builtin.zeroCells z.cells (grownCap W (els.length+news.length) cap1 e - (els.length+news.length))) e) (fun i=>(els.length+news.length) * sz≤i)
       exact ⟨(Below.refl _ _).drew.alloc (A8 _) _,this.u⟩
      refine key _ _ _ hrun (h'.ext hE) ?_ (fun j hj=>Sole.fresh h' hE ?_)
      ·refine Ql (f:=E9 els.length f1 f2) hlen hnew hge hcm hsall (fun i j hi hj=>⟨?_, ?_⟩) (fun o ho hu=>?_) (Ph (fun i e' j c he hc=>(hv1 i e' j c he hc).keep hE.keeps) (fun i e' j c he hc=>(hv2 i e' j c he hc).keep hE.keeps))
       ·have:=Pj (f:=f1) (g:=f2) (by omega:i<els.length+news.length) hj
        rw[HK (by have h9:=(AM.1 this).1;simpa using h9)]
        simpa using this
       ·unfold E9
        by_cases hil:i<els.length
        ·rw[Af hil];exact (hc1 i j hil hj).2.1
        ·rw[Ad hil];exact (hc2 (i - els.length) j (by omega) hj).2.1
       ·have hu':(els.length+news.length) * sz≤o:=by simpa using hu
        omega
      ·refine .inr ⟨W.heap.size,_,_,by rw[hlen],A8 _,.of hnew,by omega,hcm, ?_,fun o ho hu=>?_,fun o ho=>?_⟩
       ·simp only[G2,Ck,size_zeroCells,hz2,CE, ← Bp]
        congr 1
        omega
       ·have hu':(els.length+news.length) * sz≤o:=by simpa using hu
        rw[hlen]at ho
        omega
       ·rw[hlen]at ho
        simpa using ho
end
section
variable {P:Program} {N:Nat} {W0:World} {U0:Nat→Nat→Prop} {M:Nat→Prop} {a:Act} {W W':World} {U U':Nat→Nat→Prop} {s:St} {o:Oper} {r:AV}

theorem Ng{v:Value}{c:AV}(h:VR W U v c)(hp:0<c.cells.length∨∃ cs,c=.agg cs):v.cells.size=c.cells.length∧
  ∀ (j:Nat) (u:Value),v.cells[j]?=some u→u.oneCell'=true∧∀ x,c.cells[j]?=some x→VR W U u x∧∀ e sz els,x ≠ .sl (some e) sz els:=by
 have one:v.cells = #[v]→v.oneCell'=true→c.cells=[c.alias]→(v.cells.size=c.cells.length∧
  ∀ (j:Nat) (u:Value),v.cells[j]?=some u→u.oneCell'=true∧∀ x,c.cells[j]?=some x→VR W U u x∧∀ e sz els,x ≠ .sl (some e) sz els):=by
  intro h1 h2 h3
  refine ⟨by simp[h1,h3],fun j u hu=>?_⟩
  rw[h1]at hu
  have hj:j=0:=by
   rcases Gv j with h0|h0
   ·exact h0
   ·rw[Array.getElem?_eq_none (by simp;omega)]at hu;cases hu
  subst hj
  obtain rfl:v=u:=by simpa using hu
  refine ⟨h2,fun x hx=>?_⟩
  rw[h3]at hx
  obtain rfl:c.alias=x:=by simpa using hx
  exact ⟨h.alias,FK c⟩
 cases h with
 | agg vs cs hl hv h1=>
  refine ⟨by simp[Value.cells,AV.cells,hl],fun j u hu=>?_⟩
  have hu':vs[j]?=some u:=by simpa[Value.cells]using hu
  refine ⟨h1 u (Dd hu'),fun x hx=>?_⟩
  simp only[AV.cells,B7,BM]at hx
  obtain ⟨y,hy,rfl⟩:=hx
  exact ⟨(hv j u y hu' hy).store,b2x y⟩
 | tup=>simp[AV.cells]at hp
 | undef=>simp[AV.cells]at hp
 | any=>simp[AV.cells]at hp
 | _=>exact one rfl rfl rfl

theorem R6{xs:List Opd}{vs:List AV}(h:evs s xs=some vs):vs.length=xs.length∧∀ (i:Nat) (x:Opd),xs[i]?=some x→∃ v,vs[i]?=some v∧x.ev s=some v:=by
 induction xs generalizing vs with
 | nil=>
  simp only[evs,Az]at h
  subst h
  exact ⟨rfl,fun i x hx=>by simp at hx⟩
 | cons x r ih=>
  simp only[evs]at h
  split at h
  ·rename_i v vs' h1 h2
   simp only[Az]at h
   subst h
   obtain ⟨e1,e2⟩:=ih h2
   refine ⟨by simp[e1],fun i y hy=>?_⟩
   cases i with
   | zero=>simp at hy;subst hy;exact ⟨v,rfl,h1⟩
   | succ i=>simpa using e2 i y (by simpa using hy)
  ·cases h

theorem a2H{l:List (Nat × Operand)}{n:Nat}{ps:List Opd}(h:Jk l n=some ps):∃ xs:List Operand,l=(xs.zipIdx n).map (fun x=>(x.2,x.1))∧xs.length=ps.length∧∀ (i:Nat) (x:Operand),xs[i]?=some x→∃ p,ps[i]?=some p∧Au x=some p:=by
 induction l generalizing n ps with
 | nil=>
  simp only[Jk,Az]at h
  subst h
  exact ⟨[],rfl,rfl,fun i x hx=>by simp at hx⟩
 | cons y r ih=>
  obtain ⟨i,x⟩:=y
  simp only[Jk]at h
  split at h
  ·rename_i hi
   subst hi
   split at h
   ·rename_i p ps' h1 h2
    simp only[Az]at h
    subst h
    obtain ⟨xs,e1,e2,e3⟩:=ih h2
    refine ⟨x::xs,by simp[List.zipIdx_cons,e1],by simp[e2],fun j z hz=>?_⟩
    cases j with
    | zero=>simp at hz;subst hz;exact ⟨p,rfl,h1⟩
    | succ j=>simpa using e3 j z (by simpa using hz)
   ·cases h
  ·cases h

theorem UM(h:Inv N W0 U0 M a W U s){t e sz n:Nat}{parts:Array (Nat × Operand)}{ps:List Opd}(ho:o.op=.buildSlice t n parts)(ht:isSlice P t=some (e,sz))(hp:Jk parts.toList 0=some ps)(hl:ps.length=n)(hm:n * sz≤16777216)(hpos:0<n * sz)
  (hz:Fo P e=some sz) {vs:List AV} (hvs:evs s ps=some vs) (hall:∀ v∈vs,v.cells.length=sz):
  n≤maxLen∧vs.length=n∧0<sz∧∃ A:Array Value,(execOp a.eval o).run P W=.ok (.value (.slice (some ⟨W.heap.size,0,none⟩) n n)) (W.alloc (.cells A e))∧A.size=n * sz∧
   ∀ k j,k<n→j<sz→∃ v u,vs[k]?=some v∧A[k * sz+j]?=some u∧u.oneCell'=true∧∀ y,v.cells[j]?=some y→VR W U u y:=by
 obtain ⟨i,hu,hi,rfl⟩:=LJ ht
 obtain ⟨z,hz1,hz2⟩:∃ z,i.zero=some z∧z.cells.size=i.size:=by
  simp only[Fo,hi,CY,BM]at hz
  exact hz
 obtain ⟨xs,hx1,hx2,hx3⟩:=a2H hp
 obtain ⟨he1,he2⟩:=R6 hvs
 have hsz:0<i.size:=by
  rcases Gv i.size with h0|h0
  ·rw[h0]at hpos;simp at hpos
  ·exact h0
 have hVR:∀ (k:Nat) (x:Operand),xs[k]?=some x→∃ v,vs[k]?=some v∧VR W U (a.eval x) v:=by
  intro k x hk
  obtain ⟨p,hp1,hp2⟩:=hx3 k x hk
  obtain ⟨v,hv1,hv2⟩:=he2 k p hp1
  exact ⟨v,hv1,AW h hp2 hv2⟩
 have hcz:∀ (k:Nat) (x:Operand),xs[k]?=some x→∃ v,vs[k]?=some v∧v.cells.length=i.size∧(a.eval x).cells.size=i.size∧∀ (j:Nat) (u:Value),(a.eval x).cells[j]?=some u→u.oneCell'=true∧∀ y,v.cells[j]?=some y→VR W U u y:=by
  intro k x hk
  obtain ⟨v,hv1,hv2⟩:=hVR k x hk
  have hc:=hall v (Dd hv1)
  obtain ⟨q1,q2⟩:=Ng hv2 (.inl (by omega))
  exact ⟨v,hv1,hc,by omega,fun j u hu'=>⟨(q2 j u hu').1,fun y hy=>((q2 j u hu').2 y hy).1⟩⟩
 have hcells:∀ v∈xs.map a.eval,v.cells.size=i.size:=by
  intro v hv
  obtain ⟨x,hx,rfl⟩:=Dp.1 hv
  obtain ⟨k,hk⟩:=Iq.1 hx
  obtain ⟨_,_,_,hh,_⟩:=hcz k x hk
  exact hh
 have hlist:(parts.map fun (i,x)=>(i,a.eval x)).toList=((xs.map a.eval).zipIdx 0).map fun x=>(x.2,x.1):=by
  rw[Array.toList_map,hx1,List.zipIdx_map,EX,EX]
  rfl
 have hnl:(xs.map a.eval).length=n:=by simp[hx2,hl]
 have hf:=Go.Great.fill_whole hsz (xs.map a.eval) ((Array.range (n * i.size)).map (z.cells[· % z.cells.size]!)) hcells (by rw[hnl];simp)
 rw[← hlist]at hf
 have hrun:=run_buildSlice (P:=P) W t e n _ _ i z hu hi hz1 (by omega) (by omega) hf
 have hvn:vs.length=n:=by omega
 have hget:∀ k j,k<n→j<i.size→∃ x v u,xs[k]?=some x∧vs[k]?=some v∧(a.eval x).cells[j]?=some u∧u.oneCell'=true∧(∀ y,v.cells[j]?=some y→VR W U u y)∧
   (((xs.map a.eval).flatMap fun v=>v.cells.toList).toArray)[k * i.size+j]?=some u:=by
  intro k j hk hj
  have hxk:k<xs.length:=by omega
  obtain ⟨v,q1,q2,q3,q4⟩:=hcz k xs[k] (Aw hxk)
  have hjs:j<(a.eval xs[k]).cells.size:=by omega
  have hu':=Dz hjs
  refine ⟨xs[k],v,_,Aw hxk,q1,hu',(q4 j _ hu').1,(q4 j _ hu').2, ?_⟩
  rw[EW,Go.Great.flat_get hsz _ hcells]
  have e1:(k * i.size+j) / i.size=k:=by
   rw[EF,Nat.mul_add_div hsz,Nat.div_eq_of_lt hj];omega
  have e2:(k * i.size+j) % i.size=j:=by
   rw[EF,Nat.mul_add_mod,Nat.mod_eq_of_lt hj]
  rw[e1,e2]
  simp[hxk,hjs]
 have hmax:n≤maxLen:=by
  have:n * 1≤n * i.size:=Nat.mul_le_mul_left _ hsz
  simp only[maxLen]
  omega
 refine ⟨hmax,hvn,hsz,_,by simp only[execOp,ho,Sem.run_bind,hrun,Result.andThen_ok];rfl, ?_,fun k j hk hj=>?_⟩
 ·rw[Ck, ← hnl]
  have h9:∀ l:List Value,(∀ v∈l,v.cells.size=i.size)→(l.flatMap fun v=>v.cells.toList).length=l.length * i.size:=by
   intro l
   induction l with
   | nil=>simp
   | cons v l ih=>
    intro h
    rw[List.flatMap_cons,Ao,ih (fun x hx=>h x (by simp[hx])),EU,h v (by simp),AJ,Bp];omega
  exact h9 _ hcells
 ·obtain ⟨x,v,u,_,q2,_,q4,q5,q6⟩:=hget k j hk hj
  exact ⟨v,u,q2,q6,q4,q5⟩
theorem b1d(h:Inv N W0 U0 M a W U s){t e sz n:Nat}{parts:Array (Nat × Operand)}{ps:List Opd}(ho:o.op=.buildSlice t n parts)(ht:isSlice P t=some (e,sz))(hp:Jk parts.toList 0=some ps)(hl:ps.length=n)(hm:n * sz≤16777216)(hpos:0<n * sz)
  (hz:Fo P e=some sz) (hr:AU P s (.bs e sz ps) r):VOK P a o W U r:=by
 obtain ⟨vs,hvs,hall,rfl⟩:=hr
 obtain ⟨hmax,hvn,hsz,A,hrun,hA,hget⟩:=UM h ho ht hp hl hm hpos hz hvs hall
 have hE:=Ext.alloc W U (.cells A e) (fun j=>n * sz≤j)
 have hnew:=heap_alloc_new W (.cells A e)
 refine ⟨_,_,_,hrun,hE, ?_, ?_⟩
 ·refine Ql (f:=fun k j=>A.getD (k * sz+j) undef) (by simp[hvn]) hnew (A8 _) hmax (fun c hc=>?_) (fun k j hk hj=>?_) (fun q hq hu'=>?_) (fun k c j y hc hy=>?_)
  ·obtain ⟨v,hv,rfl⟩:=Dp.1 hc
   exact hall v hv
  ·obtain ⟨v,u,_,q6,q4,_⟩:=hget k j hk hj
   rw[Cu,q6]
   exact ⟨rfl,q4⟩
  ·have:n * sz≤q:=by simpa using hu'
   omega
  ·simp only[B7,BM]at hc
   obtain ⟨v',hv',rfl⟩:=hc
   have hk:k<n:=by have:=(AM.1 hv').1;omega
   have hj:j<sz:=by
    have h1:=(AM.1 hy).1
    have h2:=hall v' (Dd hv')
    omega
   obtain ⟨v,u,q2,q6,_,q5⟩:=hget k j hk hj
   rw[q2]at hv'
   cases hv'
   rw[Cu,q6]
   exact (q5 y hy).keep hE.keeps
 ·refine .inr ⟨W.heap.size,n,_,by simp[hvn],A8 _,.of hnew,by simp[hvn],hmax,hA,fun q hq hu'=>?_,fun q hq=>?_⟩
  ·have:n * sz≤q:=by simpa using hu'
   simp[hvn]at hq
   omega
  ·simp[hvn]at hq
   simpa using hq
theorem KW{vs:List Value}{cs:List AV}(h:KV vs cs=true):vs.length=cs.length∧∀ (j:Nat) (v:Value) (c:AV),vs[j]?=some v→cs[j]?=some c→QJ v c=true:=by
 induction vs generalizing cs with
 | nil=>cases cs with
  | nil=>exact ⟨rfl,fun j v c hv=>by simp at hv⟩
  | cons=>simp[KV]at h
 | cons v vs ih=>cases cs with
  | nil=>simp[KV]at h
  | cons c cs=>
   simp only[KV,AP]at h
   obtain ⟨h1,h2⟩:=ih h.2
   refine ⟨by simp[h1],fun j u x hu hx=>?_⟩
   cases j with
   | zero=>simp at hu hx;subst hu hx;exact h.1
   | succ j=>exact h2 j u x (by simpa using hu) (by simpa using hx)
theorem KX{t:TypeId}{z:List AV}(h:zeroOf P t=some z):∃ i zv,P.info? t=some i∧i.zero=some zv∧KV zv.cells.toList z=true:=by
 unfold zeroOf at h
 split at h
 ·rename_i cs zv h1 h2
  split at h
  ·rename_i h3
   simp only[Az]at h
   subst h
   cases hi:P.info? t with
   | none=>simp[hi]at h2
   | some i=>exact ⟨i,zv,rfl,by simpa[hi]using h2,h3⟩
  ·cases h
 ·cases h

theorem ER(cs:List AV)(off:Nat)(vs:List AV)(h:off+vs.length≤cs.length)(k:Nat):(splice cs off vs)[k]?=if off≤k∧k<off+vs.length then vs[k - off]? else cs[k]?:=by
 fun_induction splice cs off vs generalizing k with
 | case1 cs=>simp
 | case2 v vs=>simp at h
 | case3 v vs c r ih=>
  have h':0+vs.length≤r.length:=by simp at h;omega
  cases k with
  | zero=>simp
  | succ k=>
   simp only[List.getElem?_cons_succ,ih h' k,AJ,Nat.zero_le,true_and,AH,Nat.sub_zero]
   by_cases hk:k<vs.length
   ·rw[Af hk,Af (by omega)]
   ·rw[Ad hk,Ad (by omega)]
 | case4 n vs=>simp at h
 | case5 n vs c r ih=>
  have h':n+vs.length≤r.length:=by simp at h;omega
  cases k with
  | zero=>simp
  | succ k=>
   simp only[List.getElem?_cons_succ,ih h' k]
   by_cases hk:n≤k∧k<n+vs.length
   ·rw[Af hk,Af (by omega)]
    congr 1
    omega
   ·rw[Ad hk,Ad (by omega)]
theorem Mr(cs:List AV)(off:Nat)(vs:List AV)(h:off+vs.length≤cs.length):(splice cs off vs).length=cs.length:=by
 fun_induction splice cs off vs with
 | case1 cs=>rfl
 | case2 v vs=>rfl
 | case3 v vs c r ih=>simp[ih (by simp at h;omega)]
 | case4 n vs=>rfl
 | case5 n vs c r ih=>simp[ih (by simp at h;omega)]

def VCs(W:World)(U:Nat→Nat→Prop)(vs:Array Value)(cs:List AV):Prop:=
 vs.size=cs.length∧∀ (j:Nat) (u:Value),vs[j]?=some u→u.oneCell'=true∧∀ x,cs[j]?=some x→VR W U u x

theorem VCs.fold{vs:Array Value}{cs:List AV}(h:VCs W U vs cs){v:Value}{c:AV}(hv:VCs W U v.cells c.cells){off:Nat}(hl:off+c.cells.length≤cs.length):
  VCs W U (v.cells.zipIdx.foldl (fun cs (x:Value × Nat)=>cs.setIfInBounds (off+x.2) x.1) vs) (splice cs off c.cells):=by
 have hz:v.cells.zipIdx.foldl (fun cs (x:Value × Nat)=>cs.setIfInBounds (off+x.2) x.1) vs=(v.cells.toList.zipIdx 0).foldl (fun cs (x:Value × Nat)=>cs.setIfInBounds (off+x.2) x.1) vs:=by
  rw[← Array.foldl_toList]
  simp
 obtain ⟨h1,h2⟩:=Go.Great.foldl_set off v.cells.toList 0 vs
 rw[hz]
 refine ⟨by rw[h1,Mr _ _ _ hl];exact h.1,fun j u hu=>?_⟩
 rw[h2]at hu
 have hvl:v.cells.toList.length=c.cells.length:=by simpa using hv.1
 rw[ER _ _ _ hl]
 by_cases hj:off+0≤j∧j<off+0+v.cells.toList.length∧j<vs.size
 ·rw[Af hj]at hu
  rw[Af (by omega)]
  exact hv.2 (j - off) u (by simpa using hu)
 ·rw[Ad hj]at hu
  have hjs:j<vs.size:=(BH.1 hu).1
  rw[Ad (by omega)]
  exact h.2 j u hu

theorem a5e{fs:List Field}(h:fs.all (fun f=>(P.info? f.type).isSome)=true):∃ places,fs.mapM (fun f=>(P.info? f.type).map fun i=>(f.offset,i.size))=some places∧∀ (j:Nat) (f:Field),fs[j]?=some f→places[j]?=(P.info? f.type).map fun i=>(f.offset,i.size):=by
 induction fs with
 | nil=>exact ⟨[],rfl,fun j f hf=>by simp at hf⟩
 | cons f fs ih=>
  simp only[List.all_cons,AP]at h
  obtain ⟨pl,h1,h2⟩:=ih h.2
  obtain ⟨i,hi⟩:=Option.isSome_iff_exists.1 h.1
  refine ⟨(f.offset,i.size)::pl,by simp[List.mapM_cons,hi,h1],fun j g hg=>?_⟩
  cases j with
  | zero=>simp at hg;subst hg;simp[hi]
  | succ j=>simpa using h2 j g (by simpa using hg)

theorem b1a(h:Inv N W0 U0 M a W U s){t:TypeId}{fs:Array Field}{parts:Array (Nat × Operand)}{z:List AV}{ps:List (Nat × Nat × Opd)}(ho:o.op=.build t parts)(ht:P.underlying t=some (.struct fs))(hz:zeroOf P t=some z)
  (hall:(fs.toList.all fun f=>(P.info? f.type).isSome)=true) (hp:Kf P fs parts.toList=some ps) (hr:AU P s (.bld (z.map JY) ps) r):VOK P a o W U r:=by
 obtain ⟨vs,cs,hvs,hfill,rfl⟩:=hr
 obtain ⟨i,zv,hi,hzv,hzc⟩:=KX hz
 obtain ⟨hz1,hz2⟩:=KW hzc
 obtain ⟨pl,hpl1,hpl2⟩:=a5e hall
 have hzero:VCs W U zv.cells (z.map JY):=by
  refine ⟨by simpa using hz1,fun j u hu=>?_⟩
  have hj:j<z.length:=by
   have:=(BH.1 hu).1
   simp at hz1
   omega
  have:=hz2 j u z[j] (by simpa using hu) (Aw hj)
  obtain ⟨q1,q2,q3⟩:=Gs this W U
  refine ⟨q2,fun x hx=>?_⟩
  simp only[B7,Aw hj,BE,Az]at hx
  subst hx
  unfold JY
  split
  ·rename_i hz'
   obtain ⟨rfl,_⟩:=q3 _ _ _ hz'
   exact .nils _ _
  ·exact q1.alias
 have key:∀ (l:List (Nat × Operand)) (ps:List (Nat × Nat × Opd)) (vs:List (Nat × Nat × AV)) (cells:Array Value) (cs0 cs:List AV),Kf P fs l=some ps→D5 s ps=some vs→VCs W U cells cs0→Fs cs0 vs cs→
   ∃ cells',Instr.fill (pl.toArray[·]?) cells (l.map fun x=>(x.1,a.eval x.2))=some cells'∧VCs W U cells' cs:=by
  intro l
  induction l with
  | nil=>
   intro ps vs cells cs0 cs h1 h2 h3 h4
   simp only[Kf,Az]at h1
   subst h1
   simp only[D5,Az]at h2
   subst h2
   simp only[Fs]at h4
   subst h4
   exact ⟨cells,rfl,h3⟩
  | cons x l ih=>
   intro ps vs cells cs0 cs h1 h2 h3 h4
   obtain ⟨k,x⟩:=x
   simp only[Kf]at h1
   split at h1
   ·rename_i f hf
    split at h1
    ·rename_i n y ys g1 g2 g3
     simp only[Az]at h1
     subst h1
     simp only[D5]at h2
     split at h2
     ·rename_i v vs' e1 e2
      simp only[Az]at h2
      subst h2
      simp only[Fs]at h4
      obtain ⟨⟨f1,f0,f2⟩,f3⟩:=h4
      have hv:=M8 h g2 e1
      obtain ⟨w1,w2⟩:=Ng hv (.inl (by omega))
      have hc:VCs W U (a.eval x).cells v.cells:=⟨w1,fun j u hu=>⟨(w2 j u hu).1,fun y hy=>((w2 j u hu).2 y hy).1⟩⟩
      obtain ⟨cells',q1,q2⟩:=ih ys vs' _ _ cs g3 e2 (h3.fold hc (off:=f.offset) (by omega)) f3
      refine ⟨cells', ?_,q2⟩
      cases hif:P.info? f.type with
      | none=>simp[hif]at g1
      | some fi=>
       have hn:fi.size=n:=by simpa[hif]using g1
       have hplk:pl.toArray[k]?=some (f.offset,n):=by
        have:=hpl2 k f (by simpa using hf)
        rw[hif]at this
        simpa[hn]using this
       simp only[CX,Instr.fill,hplk]
       rw[Ad]
       ·exact q1
       ·have:=hc.1
        have:=h3.1
        simp
        omega
     ·cases h2
    ·cases h1
   ·cases h1
 obtain ⟨cells',q1,q2⟩:=key parts.toList ps vs zv.cells _ cs hp hvs hzero hfill
 have hb:P.built t (parts.map fun (i,x)=>(i,a.eval x)).toList=some cells':=by
  simp only[Program.built,hi,ht,hzv,hpl1,Array.toList_map]
  exact q1
 refine VOK.same (v:=.agg cells') (by simp only[execOp,ho,Sem.run_bind,run_build W t _ cells' hb,Result.andThen_ok];rfl) ?_ (by simp)
 have hlst:cells'=cells'.toList.toArray:=by simp
 rw[hlst]
 refine .agg _ _ (by simpa using q2.1) (fun j v c hv hc=>(q2.2 j v (by simpa using hv)).2 c hc) (fun v hv=>?_)
 obtain ⟨k,hk⟩:=Iq.1 hv
 exact (q2.2 k v (by simpa using hk)).1


theorem b1b(h:Inv N W0 U0 M a W U s){t:TypeId}{n e:Nat}{inf:TypeInfo}{parts:Array (Nat × Operand)}{z:List AV}{ps:List (Nat × Nat × Opd)}(ho:o.op=.build t parts)(ht:P.underlying t=some (.array n e))(hz:zeroOf P t=some z)
  (hinf:P.info? e=some inf) (hp:Ke P e inf.size parts.toList=some ps) (hr:AU P s (.bld (z.map JY) ps) r):VOK P a o W U r:=by
 obtain ⟨vs,cs,hvs,hfill,rfl⟩:=hr
 obtain ⟨i,zv,hi,hzv,hzc⟩:=KX hz
 obtain ⟨hz1,hz2⟩:=KW hzc
 have hzero:VCs W U zv.cells (z.map JY):=by
  refine ⟨by simpa using hz1,fun j u hu=>?_⟩
  have hj:j<z.length:=by
   have:=(BH.1 hu).1
   simp at hz1
   omega
  have:=hz2 j u z[j] (by simpa using hu) (Aw hj)
  obtain ⟨q1,q2,q3⟩:=Gs this W U
  refine ⟨q2,fun x hx=>?_⟩
  simp only[B7,Aw hj,BE,Az]at hx
  subst hx
  unfold JY
  split
  ·rename_i hz'
   obtain ⟨rfl,_⟩:=q3 _ _ _ hz'
   exact .nils _ _
  ·exact q1.alias
 have key:∀ (l:List (Nat × Operand)) (ps:List (Nat × Nat × Opd)) (vs:List (Nat × Nat × AV)) (cells:Array Value) (cs0 cs:List AV),Ke P e inf.size l=some ps→D5 s ps=some vs→VCs W U cells cs0→Fs cs0 vs cs→
   ∃ cells',Instr.fill (fun i=>some (i * inf.size,inf.size)) cells (l.map fun x=>(x.1,a.eval x.2))=some cells'∧VCs W U cells' cs:=by
  intro l
  induction l with
  | nil=>
   intro ps vs cells cs0 cs h1 h2 h3 h4
   simp only[Ke,Az]at h1
   subst h1
   simp only[D5,Az]at h2
   subst h2
   simp only[Fs]at h4
   subst h4
   exact ⟨cells,rfl,h3⟩
  | cons x l ih=>
   intro ps vs cells cs0 cs h1 h2 h3 h4
   obtain ⟨k,x⟩:=x
   simp only[Ke]at h1
   split at h1
   ·rename_i y ys g2 g3
    simp only[Az]at h1
    subst h1
    simp only[D5]at h2
    split at h2
    ·rename_i v vs' e1 e2
     simp only[Az]at h2
     subst h2
     simp only[Fs]at h4
     obtain ⟨⟨f1,f0,f2⟩,f3⟩:=h4
     have hv:=M8 h g2 e1
     obtain ⟨w1,w2⟩:=Ng hv (.inl (by omega))
     have hc:VCs W U (a.eval x).cells v.cells:=⟨w1,fun j u hu=>⟨(w2 j u hu).1,fun y hy=>((w2 j u hu).2 y hy).1⟩⟩
     obtain ⟨cells',q1,q2⟩:=ih ys vs' _ _ cs g3 e2 (h3.fold hc (off:=k * inf.size) (by omega)) f3
     refine ⟨cells', ?_,q2⟩
     simp only[CX,Instr.fill]
     rw[Ad]
     ·exact q1
     ·have:=hc.1
      have:=h3.1
      simp
      omega
    ·cases h2
   ·cases h1
 obtain ⟨cells',q1,q2⟩:=key parts.toList ps vs zv.cells _ cs hp hvs hzero hfill
 have hb:P.built t (parts.map fun (i,x)=>(i,a.eval x)).toList=some cells':=by
  simp only[Program.built,hi,ht,hzv,hinf,BE,Array.toList_map]
  exact q1
 refine VOK.same (v:=.agg cells') (by simp only[execOp,ho,Sem.run_bind,run_build W t _ cells' hb,Result.andThen_ok];rfl) ?_ (by simp)
 have hlst:cells'=cells'.toList.toArray:=by simp
 rw[hlst]
 refine .agg _ _ (by simpa using q2.1) (fun j v c hv hc=>(q2.2 j v (by simpa using hv)).2 c hc) (fun v hv=>?_)
 obtain ⟨k,hk⟩:=Iq.1 hv
 exact (q2.2 k v (by simpa using hk)).1


theorem UP{ts:List TypeId}{xs:List Operand}{ps:List Opd}(h:FM P ts xs=some ps):xs.length=ps.length∧∀ (i:Nat) (x:Operand),xs[i]?=some x→∃ p t,ps[i]?=some p∧HQ P t x=some p:=by
 induction ts generalizing xs ps with
 | nil=>cases xs with
  | nil=>
   simp only[FM,Az]at h
   subst h
   exact ⟨rfl,fun i x hx=>by simp at hx⟩
  | cons=>simp[FM]at h
 | cons t ts ih=>cases xs with
  | nil=>simp[FM]at h
  | cons x xs=>
   simp only[FM]at h
   split at h
   ·rename_i y ys h1 h2
    simp only[Az]at h
    subst h
    obtain ⟨e1,e2⟩:=ih h2
    refine ⟨by simp[e1],fun i z hz=>?_⟩
    cases i with
    | zero=>simp at hz;subst hz;exact ⟨y,t,rfl,h1⟩
    | succ i=>simpa using e2 i z (by simpa using hz)
   ·cases h

theorem b1e(h:Inv N W0 U0 M a W U s){f:Nat}{fn:Func}{args:Array Operand}{argTypes:Array TypeId}{ps:List Opd}{d:Option Nat}(ho:o.op=.call { callee:=.value (.func f),args,argTypes })(hod:o.dst=d)(hd:∀ j,d=some j→j<N)
  (hf:P.funcs[f]?=some fn) (hb:fn.body.isSome=true) (hnm:(fn.name == "runtime.NumGoroutine")=false) (hp:FM P argTypes.toList args.toList=some ps) (hr:AU P s (.call f ps) r) {next:Act→World→Prop} {Q:Exit→Act→World→Prop}
  (hn:∀ a' W' U',Inv N W0 U0 M a' W' U' (s.put d r)→next a' W'):o.wp P a W next Q:=by
 obtain ⟨vs,hvs,hcp⟩:=hr
 obtain ⟨e1,e2⟩:=UP hp
 obtain ⟨g1,g2⟩:=R6 hvs
 have hC:=hcp W U (args.toList.map a.eval) h.fr.glob (by simp only[Ax];omega) (fun i v c hv hc=>by
  simp only[B7,BM]at hv hc
  obtain ⟨x,hx,rfl⟩:=hv
  obtain ⟨y,hy,rfl⟩:=hc
  obtain ⟨p,t,q1,q2⟩:=e2 i x hx
  obtain ⟨y',q3,q4⟩:=g2 i p q1
  rw[hy]at q3
  cases q3
  exact (M8 h q2 q4).alias)
 have hbn:fn.body.isNone=false:=by
  cases hbb:fn.body with
  | none=>simp[hbb]at hb
  | some c=>rfl
 have hrun:(execOp a.eval o).run P W=.ok (.enter f (args.toList.map a.eval).toArray) W:=by
  have hargs:args.map a.eval=(args.toList.map a.eval).toArray:=by
   apply Array.ext'
   simp
  simp only[execOp,ho,resolve,Act.eval,Deferred.ofValue,Sem.run_bind,Sem.run_pure,Result.andThen_ok,invoke,callFunc,run_program,hf,hnm,D3,BV,hbn]
  simp[hargs]
 unfold Oper.wp
 rw[hrun,Oper.upon_enter]
 refine hC.mono ?_
 rintro e W' ⟨v,U',rfl,hv,hown,hE⟩
 rw[hod]
 exact hn _ _ _ ((h.ext hE).putO hd hv fun j _=>Sole.fresh h hE hown)

theorem b1P(h:Inv N W0 U0 M a W U s){i:Nat}{d:Option Nat}(ho:o.op=.move (.tmp i)∨o.op=.assign (.tmp i))(hod:o.dst=d)(hd:∀ j,d=some j→j<N)(hdi:d≠some i)(hr:AU P s (.tk i) r){next:Act→World→Prop}{Q:Exit→Act→World→Prop}
  (hn:∀ a' W' U',Inv N W0 U0 M a' W' U' (B6 d (.tk i) r s)→next a' W'):o.wp P a W next Q:=by
 have hr':s.t i=some r:=hr
 have hv:=h.tv i r hr'
 have hrun:(execOp a.eval o).run P W=.ok (.value (a.eval (.tmp i))) W:=by
  rcases ho with ho|ho<;>simp[execOp,ho]
 unfold Oper.wp
 rw[hrun,Oper.upon_value,hod]
 have hval:a.eval (.tmp i)=a.tmps.getD i undef:=rfl
 rw[hval]
 by_cases hs:∃ e sz els,r=.sl (some e) sz els
 ·obtain ⟨e,sz,els,rfl⟩:=hs
  refine hn _ _ U ?_
  simp only[B6]
  -- the source is left with the right to read
  have hle:Le { s with t:=upd s.t i none } s:=⟨fun j v hj=>by
   by_cases hji:j=i
   ·subst hji;simp[upd]at hj
   ·simpa[upd,hji]using hj,fun _ _ hj=>hj⟩
  have h1:=h.le hle
  have hiN:i<N:=by
   rcases FJ i N with hlt|hge
   ·exact hlt
   ·exfalso
    have:a.tmps.getD i undef=undef:=by simp[Array.getD,show ¬ i<a.tmps.size by rw[h.sz];omega]
    rw[this]at hv
    cases hv
  have h2:=h1.put (d:=i) hiN (v:=a.tmps.getD i undef) (r:=.sl none sz els) hv.reown (Sole.plain (by simp))
  have hput:a.put (some i) (a.tmps.getD i undef)=a:=by
   unfold Act.put
   cases a with
   | mk tmps df=>
    simp only[Act.mk.injEq,Bc]
    apply Array.ext'
    apply F5
    intro k
    have hi':i<tmps.size:=by have:=h.sz;simp at this;omega
    simp only[Array.toList_setIfInBounds,List.getElem?_set]
    by_cases hk:i=k
    ·subst hk
     simp[hi']
    ·simp[hk]
  rw[hput]at h2
  have hs':(St.put { s with t:=upd s.t i none } (some i) (.sl none sz els))={ s with t:=upd s.t i (some (.sl none sz els)) }:=by
   simp only[St.put]
   congr 1
   funext k
   simp only[upd]
   by_cases hk:k=i<;>simp[hk]
  rw[hs']at h2
  refine h2.putO hd hv (fun j hj e' sz' els' he=>?_)
  cases he
  refine ⟨?_,fun g hg=>⟨h.no (.t i) _ _ _ hr' g hg,fun ℓ hlj ⟨e2,sz2,els2,hl⟩=>?_⟩⟩
  ·have:=h.ow (.t i) _ hr'
   exact this
  ·have hli:ℓ ≠ .t i:=by
    rintro rfl
    simp[St.at,upd]at hl
   have hl':s.at ℓ=some (.sl (some e2) sz2 els2):=by
    cases ℓ with
    | t k=>
     have hk:k≠i:=fun e=>hli (by rw[e])
     simpa[St.at,upd,hk]using hl
    | o b k=>exact hl
   exact h.ap (.t i) ℓ _ _ _ _ _ _ (Ne.symm hli) hr' hl' g hg
 ·have he:B6 d (.tk i) r s=s.put d r.alias:=by
   unfold B6
   cases r with
   | sl own sz els=>cases own with
    | none=>rfl
    | some e=>exact absurd ⟨e,sz,els,rfl⟩ hs
   | _=>rfl
  refine hn _ _ U ?_
  rw[he]
  exact h.putO hd hv.alias fun j _=>Sole.plain (FK r)

end
end Go.Proofs.YtfgihnhoocnmdaaGreatDoor
