import Derived.Test.YtfgihnhoocnmdaaGreatDoorJ7
namespace Go.Proofs.YtfgihnhoocnmdaaGreatDoor
set_option linter.all false
set_option maxHeartbeats 64000000
set_option maxRecDepth 100000
open Go.RowKit
def Iw(P:Program)(R:Nat)(all:List Oper):List Oper→Option (List AOp)
 | []=>some []
 | o::r=>match OA P R all o,Iw P R all r with
  | some x,some xs=>some (x::xs)
  | _,_=>none
theorem M9{P:Program}{R:Nat}{all l:List Oper}{As:List AOp}(h:Iw P R all l=some As):As.length=l.length∧∀ (i:Nat) (o:Oper),l[i]?=some o→∃ A,As[i]?=some A∧OA P R all o=some A:=by
 induction l generalizing As with
 | nil=>
  simp only[Iw,Az]at h
  subst h
  exact ⟨rfl,fun i o ho=>by simp at ho⟩
 | cons o l ih=>
  simp only[Iw]at h
  split at h
  ·rename_i x xs h1 h2
   simp only[Az]at h
   subst h
   obtain ⟨e1,e2⟩:=ih h2
   refine ⟨by simp[e1],fun i p hp=>?_⟩
   cases i with
   | zero=>simp at hp;subst hp;exact ⟨x,rfl,h1⟩
   | succ i=>simpa using e2 i p (by simpa using hp)
  ·cases h
def Ly(N:Nat)(o:Oper):Bool:=match o.dst with
 | some d=>decide (d<N)
 | none=>true
theorem RZ{N:Nat}{o:Oper}(h:Ly N o=true):∀ j,o.dst=some j→j<N:=by
 intro j hj
 simpa[Ly,hj]using h

section
variable {P:Program} {N:Nat} {W0:World} {U0:Nat→Nat→Prop} {M:Nat→Prop} {a:Act} {W:World} {U:Nat→Nat→Prop} {s:St} {R:Nat}

theorem a0m{all:List Oper}(hd:∀ o∈all,Ly N o=true){K:St→Prop}{Q:Exit→Act→World→Prop}(hn:∀ a' W' U' s',Inv N W0 U0 M a' W' U' s'→K s'→Q .normal a' W'):
  ∀ (l:List Oper) (As:List AOp) (k:Nat) (a:Act) (W:World) (U:Nat→Nat→Prop) (s:St),(∀ j,l[j]?=all[k+j]?)→Iw P R all l=some As→Inv N W0 U0 M a W U s→IR P As s K→wpOps P all.toArray Q (List.range' k l.length) a W
 | [],As,k,a,W,U,s,_,hc,h,hK=>by
  simp only[Iw,Az]at hc
  subst hc
  exact hn _ _ _ _ h hK
 | o::l,As,k,a,W,U,s,hl,hc,h,hK=>by
  simp only[Iw]at hc
  split at hc
  ·rename_i x xs h1 h2
   simp only[Az]at hc
   subst hc
   have hk:all[k]?=some o:=by simpa using (hl 0).symm
   rw[AJ,List.range'_succ,wpOps_cons]
   unfold wpOp
   have hk':all.toArray[k]?=some o:=by simpa using hk
   rw[hk']
   have hmem:o∈all:=Dd hk
   refine Tb h h1 (RZ (hd o hmem)) hK fun a' W' U' s' hi hK'=>?_
   exact a0m hd hn l xs (k+1) a' W' U' s' (fun j=>by have:=hl (j+1);simpa[Nat.add_assoc,Nat.add_comm 1 j]using this) h2 hi hK'
  ·cases hc

structure Wr where
 t:List (Nat × Option AV)
 o:Option (Nat→Option (List AV))
def CI(d:Option Nat)(r:AV):List (Nat × Option AV):=
 match d with
 | some d=>[(d,some r)]
 | none=>[]
def Wr.app(w:Wr)(s:St):St:={ t:=w.t.foldl (fun f x=>upd f x.1 x.2) s.t,o:=w.o.getD s.o }
def Kr(s:St)(d:Option Nat)(b off:Nat)(cs:List AV):AV→Wr
 | .sl (some e) sz els=>⟨CI d (.sl (some e) sz els),some (upd s.o b (some (splice cs off [.sl none sz els])))⟩
 | .nils e sz=>⟨CI d (.sl (some e) sz []),none⟩
 | c=>⟨CI d c.alias,none⟩
def I5(s:St)(i b off:Nat)(cs:List AV):AV→Wr
 | .sl (some e) sz els=>⟨[(i,some (.sl none sz els))],some (upd s.o b (some (splice cs off [.sl (some e) sz els])))⟩
 | v=>⟨[],some (upd s.o b (some (splice cs off v.cells)))⟩
def Db(d:Option Nat)(k:AK)(r:AV)(s:St):Wr:=
 match k with
 | .tk i=>match r with
  | .sl (some _) sz els=>⟨(i,some (.sl none sz els))::CI d r,none⟩
  | _=>⟨CI d r.alias,none⟩
 | .app _ _ _ i _=>⟨(i,none)::CI d r,none⟩
 | .apps _ _ i _=>⟨(i,none)::CI d r,none⟩
 | .sto _ x v=>match x.ev s,v.ev s with
  | some (.ptr b off),some a=>⟨[],some (upd s.o b ((s.o b).map (splice · off a.cells)))⟩
  | _,_=>⟨[],none⟩
 | .ldt x=>match x.ev s with
  | some (.ptr b off)=>match s.o b with
   | some cs=>Kr s d b off cs r
   | none=>⟨[],none⟩
  | _=>⟨CI d r.alias,none⟩
 | .stt x i=>match x.ev s,s.t i with
  | some (.ptr b off),some v=>match s.o b with
   | some cs=>I5 s i b off cs v
   | none=>⟨[],none⟩
  | _,_=>⟨[],none⟩
 | .mu q z ks ag m k v=>match EB s q z ks ag m k v with
  | some (b,_,cs)=>⟨CI d r,some (upd s.o b (some cs))⟩
  | none=>⟨[],none⟩
 | _=>⟨CI d r,none⟩
theorem EP(d:Option Nat)(r:AV)(s:St):(Wr.mk (CI d r) none).app s=s.put d r:=by
 cases d<;>rfl
theorem a4N{s s':St}(h:s.o=s'.o)(d:Option Nat)(b off:Nat)(cs:List AV)(c:AV):Kr s' d b off cs c=Kr s d b off cs c:=by
 cases c with
 | sl own sz els=>cases own<;>simp[Kr,h]
 | _=>simp[Kr]
theorem b2u{s s':St}(h:s.o=s'.o)(i b off:Nat)(cs:List AV)(v:AV):I5 s' i b off cs v=I5 s i b off cs v:=by
 cases v with
 | sl own sz els=>cases own<;>simp[I5,h]
 | _=>simp[I5,h]
theorem b2v{s:St}{i b off:Nat}{cs:List AV}{v:AV}:∀ y∈(I5 s i b off cs v).t,y.1=i:=by
 intro y hy
 cases v with
 | sl own sz els=>cases own<;>simp[I5]at hy;simp[hy]
 | _=>simp[I5]at hy
theorem a4M(s:St)(d:Option Nat)(b off:Nat)(cs:List AV)(c:AV):(Kr s d b off cs c).app s=Hp s d b off cs c:=by
 cases c<;>try exact EP d _ s
 rename_i own sz els
 cases own with
 | none=>exact EP d _ s
 | some e=>cases d<;>rfl
theorem b2t(s:St)(i b off:Nat)(cs:List AV)(v:AV):(I5 s i b off cs v).app s=GQ s i b off cs v:=by
 cases v<;>try rfl
 rename_i own sz els
 cases own<;>rfl
theorem QF(d:Option Nat)(k:AK)(r:AV)(s:St):(Db d k r s).app s=B6 d k r s:=by
 cases k<;>try exact EP d r s
 case tk i=>
  cases r<;>try exact EP d _ s
  rename_i own sz els
  cases own with
  | none=>exact EP d _ s
  | some e=>cases d<;>rfl
 case app e size bytes i x=>cases d<;>rfl
 case apps e bytes i x=>cases d<;>rfl
 case sto n x v=>
  simp only[Db,B6]
  split<;>simp[Wr.app, *]
 case mu q z ks ag m k v=>
  simp only[Db,B6]
  cases hm:EB s q z ks ag m k v with
  | none=>rfl
  | some x=>
   obtain ⟨b,r',cs⟩:=x
   cases d<;>rfl
 case ldt x=>
  simp only[Db,B6]
  cases hx:x.ev s with
  | none=>exact EP d _ s
  | some p=>
   cases p<;>try exact EP d _ s
   rename_i b off
   simp only
   cases hb:s.o b with
   | none=>rfl
   | some cs=>exact a4M ..
 case stt x i=>
  simp only[Db,B6]
  cases hx:x.ev s with
  | none=>rfl
  | some p=>
   cases hv:s.t i with
   | none=>cases p<;>rfl
   | some v=>
    cases p<;>try rfl
    rename_i b off
    simp only
    cases hb:s.o b with
    | none=>rfl
    | some cs=>exact b2t ..

def AK.det:AK→Bool
 | .newv _=>false
 | .box _=>false
 | .callo _ _=>false
 | .calln _ _=>false
 | .callv _ _=>false
 | .hbs _ _ _=>false
 | .hap _ _ _ _ _=>false
 | .mk _ _ _=>false
 | .mkm | .rng _ | .nxt _ | .b2o _=>false
 | _=>true
def I2:Option Opd→List Nat
 | some x=>x.slots
 | none=>[]
def AK.rd:AK→List Nat
 | .mv x | .ld _ x | .ldh x | .ldr _ x | .fld _ x | .un _ x | .len _ x | .fldv _ _ x | .ext _ x | .nilc x | .conv _ x | .b2s x | .s2s x | .box x=>x.slots
 | .nil _ _ | .newv _ | .mkm | .hnl _ _=>[]
 | .hap _ _ _ i x=>i.toList++x.slots
 | .hslc _ x lo hi=>x.slots++I2 lo++I2 hi
 | .rng x | .nxt x | .ent x | .peq _ x | .app0 _ _ _ x | .b2o x | .b2d x | .asl _ x | .s2b _ x=>x.slots
 | .mx x v | .mq _ _ _ _ x v=>x.slots++v.slots
 | .mu _ _ _ _ c a b=>c.slots++a.slots++b.slots
 | .ldt x | .mk _ _ x=>x.slots
 | .stt x i=>i::x.slots
 | .tk i=>[i]
 | .vidx _ _ _ x v | .mn x v | .sto _ x v | .idx _ x v | .aidx _ _ x v | .bin _ x v | .sidx x v | .beq _ x v | .aeq _ _ x v=>x.slots++v.slots
 | .app _ _ _ i x=>i::x.slots
 | .apps _ _ i x=>i::x.slots
 | .bs _ _ ps | .hbs _ _ ps=>ps.flatMap Opd.slots
 | .bld _ ps=>ps.flatMap fun x=>x.2.2.slots
 | .call _ aS_ | .cro _ aS_ | .callo _ aS_ | .calln _ aS_=>aS_.flatMap Opd.slots
 | .callv x aS_=>x.slots++aS_.flatMap Opd.slots
 | .pick c a b=>c.slots++a.slots++b.slots
 | .slc _ x lo hi=>x.slots++I2 lo++I2 hi
def AK.rh:AK→Bool
 | .ld _ _ | .ldh _ | .sto _ _ _ | .ldt _ | .stt _ _ | .mq _ _ _ _ _ _ | .mu _ _ _ _ _ _ _ | .ent _ | .cro _ _ | .b2d _=>true
 | _=>false
def AK.wh:AK→Bool
 | .sto _ _ _ | .ldt _ | .stt _ _ | .mu _ _ _ _ _ _ _=>true
 | _=>false
def AK.wt:AK→List Nat
 | .tk i=>[i]
 | .app _ _ _ i _=>[i]
 | .apps _ _ i _=>[i]
 | .stt _ i=>[i]
 | _=>[]
def AOp.rd(A:AOp):List Nat:=(match A.g with|some (j,_)=>[j]|none=>[])++A.k.rd
def AOp.wt(A:AOp):List Nat:=A.k.wt++A.d.toList
def Is(x y:AOp):Bool:=
 x.wt.all (fun i => !y.rd.contains i && !y.wt.contains i)&&y.wt.all (fun i => !x.rd.contains i) && !(x.k.wh&&(y.k.rh||y.k.wh)) && !(y.k.wh&&x.k.rh)

def Eg(P:Program)(A:AOp)(s:St)(w:Wr):Prop:=
 match A.g with
 | none=>∃ r,AU P s A.k r∧w=Db A.d A.k r s
 | some (j,want)=>match s.t j with
  | some (.bool b)=>if b=want then ∃ r,AU P s A.k r∧w=Db A.d A.k r s else w=⟨CI A.d .undef,none⟩
  | some .undef=>w=⟨CI A.d .undef,none⟩
  | _=>False

theorem Jy{d:Option Nat}{k:AK}(hk:k.det=true){K:St→Prop}:kW P d k s K↔∃ r,AU P s k r∧K (B6 d k r s):=by
 cases k
 case ldt x=>
  constructor
  ·rintro ⟨p,hp,h⟩
   cases p<;>try exact h.elim
   ·rename_i cs
    cases cs with
    | nil=>exact h.elim
    | cons c rest=>
     refine ⟨c,⟨_,hp,rfl⟩, ?_⟩
     simp only[B6,hp];exact h
   ·obtain ⟨cs,hb,c,hc,h⟩:=h
    refine ⟨c,⟨_,hp,cs,hb,hc⟩, ?_⟩
    simp only[B6,hp,hb];exact h
  ·rintro ⟨r,⟨p,hp,hr⟩,h⟩
   refine ⟨p,hp, ?_⟩
   cases p<;>try exact hr.elim
   ·rename_i cs
    cases cs with
    | nil=>exact hr.elim
    | cons c rest=>
     obtain rfl:r=c:=hr
     simp only[B6,hp]at h;exact h
   ·obtain ⟨cs,hb,hc⟩:=hr
    simp only[B6,hp,hb]at h
    exact ⟨cs,hb,r,hc,h⟩
 case stt x i=>
  constructor
  ·rintro ⟨p,hp,v,hv,h⟩
   cases p<;>try exact h.elim
   obtain ⟨cs,hb,hl,h⟩:=h
   refine ⟨.undef,⟨_,_,v,cs,hp,hv,hb,hl,rfl⟩, ?_⟩
   simp only[B6,hp,hv,hb];exact h
  ·rintro ⟨r,⟨b,off,v,cs,hp,hv,hb,hl,rfl⟩,h⟩
   simp only[B6,hp,hv,hb]at h
   exact ⟨_,hp,v,hv,cs,hb,hl,h⟩
 all_goals first|exact Iff.rfl|simp[AK.det]at hk
theorem a0H{A:AOp}(hk:A.k.det=true){K:St→Prop}(h:De P A s K):∃ w,Eg P A s w∧K (w.app s):=by
 unfold De at h
 unfold Eg
 split at h
 ·rename_i hg
  rw[hg]
  obtain ⟨r,h1,h2⟩:=(Jy hk).1 h
  exact ⟨_,⟨r,h1,rfl⟩,by rw[QF];exact h2⟩
 ·rename_i j want hg
  rw[hg]
  simp only
  split at h
  ·rename_i b hb
   rw[hb]
   by_cases hbw:b=want
   ·obtain ⟨r,h1,h2⟩:=(Jy hk).1 (h.1 hbw)
    exact ⟨_,by simp only[];rw[Af hbw];exact ⟨r,h1,rfl⟩,by rw[QF];exact h2⟩
   ·exact ⟨⟨CI A.d .undef,none⟩,by simp[hbw],by rw[EP];exact h.2 (by cases b<;>cases want<;>simp_all)⟩
  ·rename_i hb
   rw[hb]
   exact ⟨⟨CI A.d .undef,none⟩,rfl,by rw[EP];exact h⟩
  ·exact h.elim
theorem Y2{A:AOp}(hk:A.k.det=true){w:Wr}(h:Eg P A s w):De P A s (fun s'=>s'=w.app s):=by
 unfold Eg at h
 unfold De
 split at h
 ·rename_i hg
  rw[hg]
  obtain ⟨r,h1,rfl⟩:=h
  exact (Jy hk).2 ⟨r,h1,by rw[QF]⟩
 ·rename_i j want hg
  rw[hg]
  simp only
  split at h
  ·rename_i b hb
   rw[hb]
   by_cases hbw:b=want
   ·rw[Af hbw]at h
    obtain ⟨r,h1,rfl⟩:=h
    refine ⟨fun _=>(Jy hk).2 ⟨r,h1,by rw[QF]⟩,fun hb'=>?_⟩
    subst hbw
    cases b<;>simp at hb'
   ·rw[Ad hbw]at h
    subst h
    exact ⟨fun hb'=>absurd hb' hbw,fun _=>by rw[EP]⟩
  ·rename_i hb
   rw[hb]
   subst h
   rw[EP]
  ·exact h.elim

theorem LB{s s':St}{xs:List Opd}(h:∀ i∈xs.flatMap Opd.slots,s.t i=s'.t i):evs s xs=evs s' xs:=by
 induction xs with
 | nil=>rfl
 | cons x xs ih=>
  simp only[List.flatMap_cons,Bv]at h
  simp only[evs,Opd.ev_congr (s:=s) (s':=s') (x:=x) fun i hi=>h i (.inl hi),ih fun i hi=>h i (.inr hi)]
theorem a3x{s s':St}{xs:List (Nat × Nat × Opd)}(h:∀ i∈xs.flatMap (fun x=>x.2.2.slots),s.t i=s'.t i):D5 s xs=D5 s' xs:=by
 induction xs with
 | nil=>rfl
 | cons x xs ih=>
  obtain ⟨p,q,x⟩:=x
  simp only[List.flatMap_cons,Bv]at h
  simp only[D5,Opd.ev_congr (s:=s) (s':=s') (x:=x) fun i hi=>h i (.inl hi),ih fun i hi=>h i (.inr hi)]
theorem La{s s':St}{d r:Nat}{x:Option Opd}(h:∀ i∈I2 x,s.t i=s'.t i)(hb:FL s d x r):FL s' d x r:=by
 cases x with
 | none=>exact hb
 | some x=>
  obtain ⟨k,n,h1,h2⟩:=hb
  exact ⟨k,n,by rw[← Opd.ev_congr (s:=s) (s':=s') (x:=x) h];exact h1,h2⟩

theorem Y0{s s':St}{k:AK}{r:AV}(h:∀ i∈k.rd,s.t i=s'.t i)(hh:k.rh=true→s.o=s'.o)(hr:AU P s k r):AU P s' k r∧∀ d,Db d k r s'=Db d k r s:=by
  have e1:∀ x:Opd,(∀ i∈x.slots,i∈k.rd)→x.ev s'=x.ev s:=fun x hx=>(Opd.ev_congr fun i hi=>h i (hx i hi)).symm
  cases k
  case sto n x v=>
    have hx:=e1 x (by simp[AK.rd];intro i hi;exact .inl hi)
    have hv:=e1 v (by simp[AK.rd];intro i hi;exact .inr hi)
    have ho:=hh rfl
    refine ⟨?_,fun d=>by simp only[Db,hx,hv, ← ho]⟩
    simp only[AU,hx,hv, ← ho]at hr ⊢
    exact hr
  case tk i=>
    refine ⟨?_,fun d=>rfl⟩
    simp only[AU]at hr ⊢
    rw[← h i (by simp[AK.rd])]
    exact hr
  case app e size bytes i x=>
    refine ⟨?_,fun d=>rfl⟩
    have hx:=e1 x (by simp only[AK.rd,AZ];intro j hj;exact .inr hj)
    simp only[AU,hx]at hr ⊢
    rw[← h i (by simp[AK.rd])]
    exact hr
  case apps e bytes i x=>
    refine ⟨?_,fun d=>rfl⟩
    have hx:=e1 x (by simp only[AK.rd,AZ];intro j hj;exact .inr hj)
    simp only[AU,hx]at hr ⊢
    rw[← h i (by simp[AK.rd])]
    exact hr
  case ld n x=>
    refine ⟨?_,fun d=>rfl⟩
    simp only[AU,e1 x (by simp[AK.rd]), ← hh rfl]at hr ⊢
    exact hr
  case ldh x=>
    refine ⟨?_,fun d=>rfl⟩
    simp only[AU,e1 x (by simp[AK.rd]), ← hh rfl]at hr ⊢
    exact hr
  case bs e size ps=>
    refine ⟨?_,fun d=>rfl⟩
    simp only[AU]at hr ⊢
    rw[← LB (s:=s) (s':=s') h]
    exact hr
  case call f ps=>
    refine ⟨?_,fun d=>rfl⟩
    simp only[AU]at hr ⊢
    rw[← LB (s:=s) (s':=s') h]
    exact hr
  case cro f ps=>
    refine ⟨?_,fun d=>rfl⟩
    simp only[AU, ← hh rfl]at hr ⊢
    rw[← LB (s:=s) (s':=s') h]
    exact hr
  case bld z ps=>
    refine ⟨?_,fun d=>rfl⟩
    simp only[AU]at hr ⊢
    rw[← a3x (s:=s) (s':=s') h]
    exact hr
  case slc size x lo hi=>
    refine ⟨?_,fun d=>rfl⟩
    have hx:=e1 x (by simp only[AK.rd,Bv];intro j hj;exact .inl (.inl hj))
    have hlo:∀ i∈I2 lo,s.t i=s'.t i:=fun i hi=>h i (by simp only[AK.rd,Bv];exact .inl (.inr hi))
    have hhi:∀ i∈I2 hi,s.t i=s'.t i:=fun i hi=>h i (by simp only[AK.rd,Bv];exact .inr hi)
    cases size with
    | none=>
      obtain ⟨l,p,q,h1,h2,h3,h4⟩:=hr
      exact ⟨l,p,q,by rw[hx];exact h1,La hlo h2,La hhi h3,h4⟩
    | some size=>
      obtain ⟨own,l,p,q,h1,h2,h3,h4⟩:=hr
      exact ⟨own,l,p,q,by rw[hx];exact h1,La hlo h2,La hhi h3,h4⟩
  case nil e sz=>exact ⟨hr,fun d=>rfl⟩
  case newv=>exact hr.elim
  case hap=>exact hr.elim
  case hnl e sz=>exact ⟨hr,fun d=>rfl⟩
  case hslc size x lo hi=>
    refine ⟨?_,fun d=>rfl⟩
    have hx:=e1 x (by simp only[AK.rd,Bv];intro j hj;exact .inl (.inl hj))
    have hlo:∀ i∈I2 lo,s.t i=s'.t i:=fun i hi=>h i (by simp only[AK.rd,Bv];exact .inl (.inr hi))
    have hhi:∀ i∈I2 hi,s.t i=s'.t i:=fun i hi=>h i (by simp only[AK.rd,Bv];exact .inr hi)
    obtain ⟨v,p,q,h1,h2,h3,h4⟩:=hr
    exact ⟨v,p,q,by rw[hx];exact h1,La hlo h2,La hhi h3,h4⟩
  case callo=>exact hr.elim
  case calln=>exact hr.elim
  case callv=>exact hr.elim
  case hbs=>exact hr.elim
  case ldt x=>
    have hx:=e1 x (by simp[AK.rd])
    have ho:=hh rfl
    refine ⟨?_,fun d=>?_⟩
    · simp only[AU,hx, ← ho]at hr ⊢
      exact hr
    · simp only[Db,hx, ← ho]
      split
      · split
        · exact a4N ho ..
        · rfl
      · rfl
  case stt x i=>
    have hx:=e1 x (by simp only[AK.rd,AZ];intro j hj;exact .inr hj)
    have hi:=h i (by simp[AK.rd])
    have ho:=hh rfl
    refine ⟨?_,fun d=>?_⟩
    · simp only[AU,hx, ← ho, ← hi]at hr ⊢
      exact hr
    · simp only[Db,hx, ← ho, ← hi]
      split
      · rename_i v _ _
        split
        · exact b2u ho ..
        · rfl
      · rfl
  case box=>exact hr.elim
  case mk=>exact hr.elim
  case mkm=>exact hr.elim
  case rng=>exact hr.elim
  case b2o=>exact hr.elim
  case b2d x=>
    refine ⟨?_,fun d=>rfl⟩
    simp only[AU,e1 x (by simp[AK.rd]), ← hh rfl]at hr ⊢
    exact hr
  case nxt=>exact hr.elim
  case mq z ok ks ag x y=>
    have hx:=e1 x (by simp only[AK.rd,Bv];intro j hj;exact .inl hj)
    have hy:=e1 y (by simp only[AK.rd,Bv];intro j hj;exact .inr hj)
    refine ⟨?_,fun d=>rfl⟩
    simp only[AU,hx,hy, ← hh rfl]at hr ⊢
    exact hr
  case ent x=>
    have hx:=e1 x (by simp[AK.rd])
    refine ⟨?_,fun d=>rfl⟩
    simp only[AU,hx, ← hh rfl]at hr ⊢
    exact hr
  case mu q z ks ag x y v=>
    have hx:=e1 x (by simp only[AK.rd,Bv];intro j hj;exact .inl (.inl hj))
    have hy:=e1 y (by simp only[AK.rd,Bv];intro j hj;exact .inl (.inr hj))
    have hv:=e1 v (by simp only[AK.rd,Bv];intro j hj;exact .inr hj)
    have hm:EB s' q z ks ag x y v=EB s q z ks ag x y v:=by simp only[EB,hx,hy,hv, ← hh rfl]
    refine ⟨?_,fun d=>by simp only[Db,hm, ← hh rfl]⟩
    simp only[AU,hm]at hr ⊢
    exact hr
  case pick c x y=>
    refine ⟨?_,fun d=>rfl⟩
    simp only[AU,e1 c (by simp only[AK.rd,Bv];intro j hj;exact .inl (.inl hj)),e1 x (by simp only[AK.rd,Bv];intro j hj;exact .inl (.inr hj)),e1 y (by simp only[AK.rd,Bv];intro j hj;exact .inr hj)]at hr ⊢
    exact hr
  all_goals first
    | (rename_i x y
       refine ⟨?_,fun d=>rfl⟩
       have hx:=e1 x (by simp only[AK.rd,Bv];intro j hj;exact .inl hj)
       have hy:=e1 y (by simp only[AK.rd,Bv];intro j hj;exact .inr hj)
       simp only[AU,hx,hy]at hr ⊢
       exact hr)
    | (rename_i x
       refine ⟨?_,fun d=>rfl⟩
       have hx:=e1 x (fun j hj=>hj)
       simp only[AU,hx]at hr ⊢
       exact hr)
    | skip

theorem Qh{s s':St}{A:AOp}{w:Wr}(h:∀ i∈A.rd,s.t i=s'.t i)(hh:A.k.rh=true→s.o=s'.o)(hs:Eg P A s w):Eg P A s' w:=by
 have hk:∀ i∈A.k.rd,s.t i=s'.t i:=fun i hi=>h i (by simp[AOp.rd,hi])
 have go:(∃ r,AU P s A.k r∧w=Db A.d A.k r s)→∃ r,AU P s' A.k r∧w=Db A.d A.k r s':=by
  rintro ⟨r,h1,rfl⟩
  obtain ⟨h2,h3⟩:=Y0 hk hh h1
  exact ⟨r,h2,(h3 A.d).symm⟩
 unfold Eg at *
 split at hs
 ·exact go hs
 ·rename_i j want hg
  rw[← h j (by simp[AOp.rd,hg])]
  split at hs
  ·split at hs
   ·rename_i hb;rw[Af hb];exact go hs
   ·rename_i hb;rw[Ad hb];exact hs
  ·exact hs
  ·exact hs.elim

theorem FP{l:List (Nat × Option AV)}{f:Nat→Option AV}{j:Nat}(h:∀ x∈l,x.1≠j):(l.foldl (fun f x=>upd f x.1 x.2) f) j=f j:=by
 induction l generalizing f with
 | nil=>rfl
 | cons x l ih=>
  simp only[List.foldl_cons]
  rw[ih fun y hy=>h y (by simp[hy]),upd_ne _ _ (Ne.symm (h x (by simp)))]
theorem Xp{l:List (Nat × Option AV)}{f g:Nat→Option AV}{j:Nat}(h:∃ x∈l,x.1=j):(l.foldl (fun f x=>upd f x.1 x.2) f) j=(l.foldl (fun f x=>upd f x.1 x.2) g) j:=by
 induction l generalizing f g with
 | nil=>obtain ⟨x,hx,_⟩:=h;cases hx
 | cons x l ih=>
  simp only[List.foldl_cons]
  by_cases hl:∃ y∈l,y.1=j
  ·exact ih hl
  ·have hl':∀ y∈l,y.1≠j:=fun y hy e=>hl ⟨y,hy,e⟩
   rw[FP hl',FP hl']
   obtain ⟨y,hy,hyj⟩:=h
   rcases AZ.1 hy with rfl|hy
   ·rw[hyj,upd_same,upd_same]
   ·exact absurd hyj (hl' y hy)
theorem Wr.app_comm{w1 w2:Wr}(h:∀ x∈w1.t, ∀ y∈w2.t,x.1≠y.1)(ho:w1.o=none∨w2.o=none)(s:St):w2.app (w1.app s)=w1.app (w2.app s):=by
 unfold Wr.app
 congr 1
 ·funext j
  simp only
  by_cases h1:∃ x∈w1.t,x.1=j
  ·have h2:∀ y∈w2.t,y.1≠j:=fun y hy e=>by
    obtain ⟨x,hx,hxj⟩:=h1
    exact h x hx y hy (hxj.trans e.symm)
   rw[FP h2]
   exact Xp h1
  ·have h1':∀ x∈w1.t,x.1≠j:=fun x hx e=>h1 ⟨x,hx,e⟩
   rw[FP (l:=w1.t) h1']
   by_cases h2:∃ y∈w2.t,y.1=j
   ·exact Xp h2
   ·have h2':∀ y∈w2.t,y.1≠j:=fun y hy e=>h2 ⟨y,hy,e⟩
    rw[FP h2',FP h2',FP h1']
 ·rcases ho with ho|ho<;>simp[ho]

theorem JF{d:Option Nat}{r:AV}{x:Nat × Option AV}(h:x∈CI d r):x.1∈d.toList:=by
 cases d with
 | none=>simp[CI]at h
 | some d=>simp[CI]at h;subst h;simp
theorem a4O{d:Option Nat}{b off:Nat}{cs:List AV}{c:AV}:∀ y∈(Kr s d b off cs c).t,y.1∈d.toList:=by
 intro y hy
 cases c with
 | sl own sz els=>cases own<;>exact JF hy
 | _=>exact JF hy
theorem a1E{d:Option Nat}{k:AK}{r:AV}:(∀ x∈(Db d k r s).t,x.1∈k.wt++d.toList)∧(k.wh=false→(Db d k r s).o=none):=by
 have base:∀ r':AV,(∀ x∈CI d r',x.1∈k.wt++d.toList):=fun r' x hx=>J4 _ (JF hx)
 cases k<;>try exact ⟨base r,fun _=>rfl⟩
 case tk i=>
  simp only[Db]
  split
  ·refine ⟨fun x hx=>?_,fun _=>rfl⟩
   rcases AZ.1 hx with rfl|hx
   ·simp[AK.wt]
   ·exact base _ x hx
  ·exact ⟨base _,fun _=>rfl⟩
 case app e size bytes i x=>
  refine ⟨fun x hx=>?_,fun _=>rfl⟩
  simp only[Db]at hx
  rcases AZ.1 hx with rfl|hx
  ·simp[AK.wt]
  ·exact base _ x hx
 case apps e bytes i x=>
  refine ⟨fun x hx=>?_,fun _=>rfl⟩
  simp only[Db]at hx
  rcases AZ.1 hx with rfl|hx
  ·simp[AK.wt]
  ·exact base _ x hx
 case sto n x v=>
  simp only[Db]
  split
  ·exact ⟨fun x hx=>by simp at hx,fun h=>by simp[AK.wh]at h⟩
  ·exact ⟨fun x hx=>by simp at hx,fun h=>by simp[AK.wh]at h⟩
 case mu q z ks ag m k v=>
  refine ⟨fun y hy=>?_,fun h=>by simp[AK.wh]at h⟩
  simp only[Db]at hy
  split at hy
  ·exact base _ y hy
  ·cases hy
 case ldt x=>
  refine ⟨fun y hy=>?_,fun h=>by simp[AK.wh]at h⟩
  simp only[Db]at hy
  split at hy
  ·split at hy
   ·exact J4 _ (a4O y hy)
   ·cases hy
  ·exact base _ y hy
 case stt x i=>
  refine ⟨fun y hy=>?_,fun h=>by simp[AK.wh]at h⟩
  simp only[Db]at hy
  split at hy
  ·split at hy
   ·rw[b2v y hy];simp[AK.wt]
   ·cases hy
  ·cases hy
theorem N0{A:AOp}{w:Wr}(h:Eg P A s w):(∀ x∈w.t,x.1∈A.wt)∧(A.k.wh=false→w.o=none):=by
 have sk:(∀ x∈(Wr.mk (CI A.d .undef) none).t,x.1∈A.wt)∧(A.k.wh=false→(Wr.mk (CI A.d .undef) none).o=none):=⟨fun x hx=>J4 _ (JF hx),fun _=>rfl⟩
 unfold Eg at h
 split at h
 ·obtain ⟨r,_,rfl⟩:=h
  exact a1E
 ·split at h
  ·split at h
   ·obtain ⟨r,_,rfl⟩:=h
    exact a1E
   ·subst h;exact sk
  ·subst h;exact sk
  ·exact h.elim

theorem a3a{x y:AOp}(hap:Is x y=true){w1 w2:Wr}(h1:Eg P x s w1)(h2:Eg P y (w1.app s) w2):Eg P y s w2∧Eg P x (w2.app s) w1∧w2.app (w1.app s)=w1.app (w2.app s):=by
 simp only[Is,AP,Ew,G3,List.contains_eq_mem,Hf]at hap
 obtain ⟨⟨⟨a1,a2⟩,a3⟩,a4⟩:=hap
 obtain ⟨s1,o1⟩:=N0 h1
 have hy:Eg P y s w2:=by
  refine Qh (fun i hi=>?_) (fun hr=>?_) h2
  ·exact FP fun z hz e=>(a1 z.1 (s1 z hz)).1 (e▸hi)
  ·have:x.k.wh=false:=by
    cases hw:x.k.wh with
    | false=>rfl
    | true=>simp[hw,hr]at a3
   simp[Wr.app,o1 this]
 obtain ⟨s2,o2⟩:=N0 hy
 refine ⟨hy, ?_, ?_⟩
 ·refine Qh (fun i hi=>?_) (fun hr=>?_) h1
  ·exact (FP fun z hz e=>(a2 z.1 (s2 z hz)) (e▸hi)).symm
  ·have:y.k.wh=false:=by
    cases hw:y.k.wh with
    | false=>rfl
    | true=>simp[hw,hr]at a4
   simp[Wr.app,o2 this]
 ·refine Wr.app_comm (fun z hz q hq e=>(a1 z.1 (s1 z hz)).2 (e▸s2 q hq)) ?_ s
  cases hw:x.k.wh with
  | false=>exact .inl (o1 hw)
  | true=>
   refine .inr (o2 ?_)
   cases hw2:y.k.wh with
   | false=>rfl
   | true=>simp[hw,hw2]at a3

def AOp.alc(A:AOp):Bool:=A.g.isNone&&(match A.k with | .newv _ | .mk _ _ _ | .mkm | .hbs _ _ _ | .box _=>true|_=>false)
def AOp.nw(A:AOp):Bool:=A.g.isNone&&(match A.k with | .newv _=>true|_=>false)
theorem a5C{A:AOp}(h:A.nw=true):A.alc=true:=by
 obtain ⟨g,d,k⟩:=A
 simp only[AOp.nw,AOp.alc,AP]at h ⊢
 refine ⟨h.1, ?_⟩
 cases k<;>first|rfl|simp at h
theorem a1Z{A:AOp}(h:A.nw=true):∃ d cells,A=⟨none,d,.newv cells⟩:=by
 obtain ⟨g,d,k⟩:=A
 simp only[AOp.nw,AP]at h
 cases g with
 | some _=>simp at h
 | none=>cases k<;>first|exact ⟨d,_,rfl⟩|simp at h
open Classical in
noncomputable def Gw (s:St):AK→Option (List AV × (Nat→AV))
 | .newv cells=>some (cells,fun b=>.ptr b 0)
 | .mkm=>some ([.mp [] [] [] 0],fun b=>.mapv b)
 | .box x=>match x.ev s with
  | some v=>if 0<v.cells.length then some (v.cells,fun b=>.ptr b 0) else none
  | none=>none
 | .hbs e size ps=>match evs s ps with
  | some vs=>if (∀ v∈vs,v.cells.length=size)∧Hv (vs.map AV.cells)=true then some (hc size vs.length (vs.map AV.cells),fun b=>.hsl b e size vs.length vs.length) else none
  | none=>none
 | .mk z bytes x=>match x.ev s with
  | some (.int _ m)=>if 0≤m∧m≤140737488355328∧m * bytes≤140737488355328 then some ((List.replicate m.toNat z).flatten,fun b=>.osl b 0 m.toNat) else none
  | _=>none
 | _=>none
theorem K7{A:AOp}(h:A.alc=true){K:St→Prop}:De P A s K↔∃ c r,Gw s A.k=some (c,r)∧∀ b,s.o b=none→K (St.put { s with o:=upd s.o b (some c) } A.d (r b)):=by
 obtain ⟨g,d,k⟩:=A
 simp only[AOp.alc,AP]at h
 cases g with
 | some _=>simp at h
 | none=>
  cases k<;>try (simp at h;done)
  case newv cells=>exact ⟨fun h=>⟨_,_,rfl,h⟩,fun ⟨c,r,e,h⟩=>by cases e;exact h⟩
  case mkm=>exact ⟨fun h=>⟨_,_,rfl,h⟩,fun ⟨c,r,e,h⟩=>by cases e;exact h⟩
  case box x=>
   constructor
   ·rintro ⟨v,hp,h1,h2⟩
    exact ⟨_,_,by simp only[Gw,hp];rw[Af h1],h2⟩
   ·rintro ⟨c,r,e,h⟩
    simp only[Gw]at e
    split at e
    ·rename_i v hp
     split at e
     ·rename_i h1
      cases e
      exact ⟨_,hp,h1,h⟩
     ·cases e
    ·cases e
  case hbs e size ps=>
   constructor
   ·rintro ⟨vs,hp,h1,h2⟩
    exact ⟨_,_,by simp only[Gw,hp];rw[Af h1],h2⟩
   ·rintro ⟨c,r,e,h⟩
    simp only[Gw]at e
    split at e
    ·rename_i vs hp
     split at e
     ·rename_i h1
      cases e
      exact ⟨_,hp,h1,h⟩
     ·cases e
    ·cases e
  case mk z bytes x=>
   constructor
   ·rintro ⟨p,hp,h⟩
    cases p<;>try exact h.elim
    obtain ⟨h1,h2⟩:=h
    exact ⟨_,_,by simp only[Gw,hp];rw[Af h1],h2⟩
   ·rintro ⟨c,r,e,h⟩
    simp only[Gw]at e
    split at e
    ·rename_i m hp
     split at e
     ·rename_i h1
      cases e
      exact ⟨_,hp,h1,h⟩
     ·cases e
    ·cases e
theorem Uv{s s':St}{k:AK}(h:∀ i∈k.rd,s.t i=s'.t i):Gw s k=Gw s' k:=by
 cases k<;>try rfl
 case mk z bytes x=>simp only[Gw,Opd.ev_congr (s:=s) (s':=s') (x:=x) h]
 case box x=>simp only[Gw,Opd.ev_congr (s:=s) (s':=s') (x:=x) h]
 case hbs e size ps=>simp only[Gw,LB (s:=s) (s':=s') (xs:=ps) h]
def AOp.co(A:AOp):Bool:=A.g.isNone&&(match A.k with | .callo _ _ | .calln _ _ | .hap _ _ _ _ _=>true|_=>false)
def AOp.big(A:AOp):Bool:=A.alc||A.co
def C8(P:Program)(A:AOp)(s:St)(K:St→Prop):Prop:=if A.big=true then De P A s K else ∃ w,Eg P A s w∧K (w.app s)
theorem Qi{A:AOp}{K K':St→Prop}(h:∀ s',K s'→K' s')(H:C8 P A s K):C8 P A s K':=by
 unfold C8 at H ⊢
 split
 ·rename_i ha
  rw[Af ha]at H
  rw[AOp.big,Bool.or_eq_true]at ha
  rcases ha with ha|ha
  ·obtain ⟨c,r,e,H⟩:=(K7 ha).1 H
   exact (K7 ha).2 ⟨c,r,e,fun b hb=>h _ (H b hb)⟩
  ·obtain ⟨g,d,k⟩:=A
   simp only[AOp.co,AP]at ha
   cases g with
   | some _=>simp at ha
   | none=>
    cases k<;>try (simp at ha;done)
    ·obtain ⟨ws,h1,o1,Q,h2,h3,h4⟩:=H
     exact ⟨ws,h1,o1,Q,h2,h3,fun r o2 hq hf=>h _ (h4 r o2 hq hf)⟩
    ·obtain ⟨ws,h1,Q,h3,h4⟩:=H
     exact ⟨ws,h1,Q,h3,fun r o2 hq hf=>h _ (h4 r o2 hq hf)⟩
    ·obtain ⟨p,q,h1,h2,h3⟩:=H
     exact ⟨p,q,h1,h2,Um (fun r a hka=>h _ hka) h3⟩
 ·rename_i ha
  rw[Ad ha]at H
  obtain ⟨w,h1,h2⟩:=H
  exact ⟨w,h1,h _ h2⟩
theorem a0G{A:AOp}{K:St→Prop}(hd:(A.k.det||A.big)=true)(h:De P A s K):C8 P A s K:=by
 unfold C8
 split
 ·exact h
 ·rename_i ha
  rw[Bool.or_eq_true]at hd
  exact a0H (hd.resolve_right ha) h
def aw(b:Nat)(d:Option Nat)(r:AV)(cells:List AV)(o:Nat→Option (List AV)):Wr:=⟨CI d r,some (upd o b (some cells))⟩
theorem UG(b:Nat)(d:Option Nat)(r:AV)(cells:List AV)(s:St):(aw b d r cells s.o).app s=St.put { s with o:=upd s.o b (some cells) } d r:=by
 cases d<;>rfl
theorem Y1{s s':St}{k:AK}{r:AV}(hw:k.wh=false)(h:∀ i∈k.rd,s.t i=s'.t i)(ho:∀ b cs,s.o b=some cs→s'.o b=some cs)(hr:AU P s k r):AU P s' k r∧∀ d,Db d k r s'=Db d k r s:=by
 have h1:AU P ⟨s.t,s'.o⟩ k r:=a8r (s:=s) (s':=⟨s.t,s'.o⟩) ⟨fun _ _ e=>e,ho⟩ hr
 have h2:=Y0 (s:=⟨s.t,s'.o⟩) (s':=s') h (fun _=>rfl) h1
 refine ⟨h2.1,fun d=>(h2.2 d).trans ?_⟩
 cases k<;>first|rfl|simp[AK.wh]at hw
theorem a0F{s s':St}{A:AOp}{w:Wr}(hw:A.k.wh=false)(h:∀ i∈A.rd,s.t i=s'.t i)(ho:∀ b cs,s.o b=some cs→s'.o b=some cs)(hs:Eg P A s w):Eg P A s' w:=by
 obtain ⟨g,d,k⟩:=A
 simp only[Eg]at hs ⊢
 have hk:∀ i∈k.rd,s.t i=s'.t i:=fun i hi=>h i (by simp[AOp.rd,hi])
 cases g with
 | none=>
  obtain ⟨r,h1,rfl⟩:=hs
  obtain ⟨q1,q2⟩:=Y1 hw hk ho h1
  exact ⟨r,q1,(q2 d).symm⟩
 | some jw=>
  obtain ⟨j,want⟩:=jw
  have hj:s.t j=s'.t j:=h j (by simp[AOp.rd])
  simp only[← hj]
  simp only at hs
  split at hs
  ·rename_i b hb
   split at hs
   ·rename_i hb'
    rw[Af hb']
    obtain ⟨r,h1,rfl⟩:=hs
    obtain ⟨q1,q2⟩:=Y1 hw hk ho h1
    exact ⟨r,q1,(q2 d).symm⟩
   ·rename_i hb'
    rw[Ad hb']
    exact hs
  ·exact hs
  ·exact hs.elim
inductive Cls
 | p|n|a|c|h
def AOp.cls(A:AOp):Cls:=match A.g with
 | some _=>.p
 | none=>match A.k with
  | .newv _=>.n
  | .mk _ _ _ | .mkm | .hbs _ _ _ | .box _=>.a
  | .hap _ _ _ none _ | .calln _ _=>.h
  | .callo _ _ | .hap _ _ _ _ _=>.c
  | _=>.p
def Jh(x y:AOp):Bool:=Is x y&&(match x.cls with
 | .p=>match y.cls with
  | .p=>true
  | .c => !x.k.rh && !x.k.wh
  | .h => !x.k.wh
  | _ => !x.k.wh
 | .c=>false
 | .h=>false
 | _=>match y.cls with
  | .n => !x.k.wh
  | _=>false)
def AOp.hn(A:AOp):Bool:=A.g.isNone&&(match A.k with | .hap _ _ _ none _ | .calln _ _=>true|_=>false)
theorem WK(A:AOp):(A.cls=.p∧A.alc=false∧A.nw=false∧A.co=false)∨(A.cls=.n∧A.alc=true∧A.nw=true∧A.co=false)∨(A.cls=.a∧A.alc=true∧A.nw=false∧A.co=false)∨(A.cls=.c∧A.co=true)∨(A.cls=.h∧A.co=true∧A.hn=true):=by
 obtain ⟨g,d,k⟩:=A
 cases g with
 | some q=>exact .inl ⟨rfl,rfl,rfl,rfl⟩
 | none=>cases k<;>first|exact .inl ⟨rfl,rfl,rfl,rfl⟩|exact .inr (.inl ⟨rfl,rfl,rfl,rfl⟩)|exact .inr (.inr (.inl ⟨rfl,rfl,rfl,rfl⟩))|exact .inr (.inr (.inr (.inl ⟨rfl,rfl⟩)))|exact .inr (.inr (.inr (.inr ⟨rfl,rfl,rfl⟩)))|(rename_i i _;cases i;exact .inr (.inr (.inr (.inr ⟨rfl,rfl,rfl⟩)));exact .inr (.inr (.inr (.inl ⟨rfl,rfl⟩))))
theorem a2f{x y:AOp}(h:Jh x y=true):Is x y=true∧(x.alc=false∨y.nw=true)∧(y.alc=false∨x.k.wh=false)∧x.co=false∧(y.co=false∨(x.alc=false∧x.k.rh=false∧x.k.wh=false)∨(x.alc=false∧x.k.wh=false∧y.hn=true)):=by
 simp only[Jh,AP]at h
 obtain ⟨h1,h2⟩:=h
 refine ⟨h1, ?_⟩
 rcases WK x with ⟨e1,e2,e3,e4⟩ | ⟨e1,e2,e3,e4⟩ | ⟨e1,e2,e3,e4⟩ | ⟨e1,e2⟩ | ⟨e1,e2,e3⟩<;>rcases WK y with ⟨f1,f2,f3,f4⟩ | ⟨f1,f2,f3,f4⟩ | ⟨f1,f2,f3,f4⟩ | ⟨f1,f2⟩ | ⟨f1,f2,f3⟩<;>simp_all
theorem a0N{x y:AOp}(hap:Is x y=true)(hxa:x.alc=false)(hxc:x.co=false)(hwh:x.k.wh=false)(hy:y.hn=true){K:St→Prop}(h:C8 P x s fun s1=>C8 P y s1 K):C8 P y s fun s2=>C8 P x s2 K:=by
 have hxb:x.big=false:=by simp[AOp.big,hxc,hxa]
 obtain ⟨g,d,k⟩:=y
 cases g with
 | some q=>simp[AOp.hn]at hy
 | none=>
  have hk:(∃ e size bytes xx,k=.hap e size bytes none xx)∨∃ f xs,k=.calln f xs:=by
   cases k<;>try (simp[AOp.hn]at hy;done)
   ·exact .inr ⟨_,_,rfl⟩
   rename_i e size bytes i xx
   cases i with
   | none=>exact .inl ⟨_,_,_,_,rfl⟩
   | some i=>simp[AOp.hn]at hy
  have hyb:(AOp.mk none d k).big=true:=by rcases hk with ⟨e,size,bytes,xx,rfl⟩ | ⟨f,xs,rfl⟩<;>rfl
  simp only[Is,AP,Ew,G3,List.contains_eq_mem,Hf]at hap
  obtain ⟨⟨⟨a1,a2⟩,_⟩,_⟩:=hap
  unfold C8 at h ⊢
  simp only[hxb,hyb,Bo,D3,BV]at h ⊢
  obtain ⟨w,hst,h⟩:=h
  obtain ⟨sl,so⟩:=N0 hst
  have hwo:=so hwh
  have happ:(w.app s).o=s.o:=by simp[Wr.app,hwo]
  have eqv:∀ (o2:Nat→Option (List AV)) (r:AV),St.put ⟨(w.app s).t,o2⟩ d r=w.app (St.put ⟨s.t,o2⟩ d r):=fun o2 r=>by
   rw[← EP d r ⟨(w.app s).t,o2⟩, ← EP d r ⟨s.t,o2⟩]
   have hc:=Wr.app_comm (w1:=w) (w2:=⟨CI d r,none⟩) (fun z hz q hq e=>?_) (.inr rfl) ⟨s.t,o2⟩
   ·rw[← hc]
    congr 1
    simp[Wr.app,hwo]
   ·have h4:=JF (show q∈CI d r from hq)
    exact (a1 z.1 (sl z hz)).2 (e▸(by rw[AOp.wt];exact J4 _ h4))
  have stp:∀ (o2:Nat→Option (List AV)) (r:AV),(∀ b cs,s.o b=some cs→o2 b=some cs)→Eg P x (St.put ⟨s.t,o2⟩ d r) w:=fun o2 r ho=>by
   refine a0F (s:=s) hwh (fun i hi=>?_) (fun b cs hb=>by cases d<;>exact ho b cs hb) hst
   cases hd:d with
   | none=>rfl
   | some j=>
    have:i≠j:=fun e=>a2 j (by simp[AOp.wt,hd]) (e▸hi)
    simp[St.put,upd,this]
  rcases hk with ⟨e,size,bytes,xx,rfl⟩ | ⟨f,xs,rfl⟩
  rotate_left
  ·simp only[De,kW]at h ⊢
   obtain ⟨ws,hw,Q,hct,hK⟩:=h
   refine ⟨ws, ?_,Q,hct,fun r o2 hq hfr=>?_⟩
   ·rw[← hw]
    refine LB fun i hi=>?_
    have hi':i∈AOp.rd ⟨none,d,.calln f xs⟩:=hi
    exact (FP (f:=s.t) fun z hz e=>(a1 z.1 (sl z hz)).1 (e▸hi')).symm
   ·have h3:=hK r o2 hq (fun b cs h1=>by rw[happ];exact hfr b cs h1)
    refine ⟨w,stp _ r fun b cs hb=>?_, ?_⟩
    ·cases h5:o2 b with
     | none=>exact hb
     | some z=>rw[hfr b z h5]at hb;cases hb
    ·rw[← eqv, ← happ];exact h3
  simp only[De,kW]at h ⊢
  obtain ⟨p,q,hp,hq,hH⟩:=h
  obtain rfl:AV.hnil e size=p:=Fp hp
  refine ⟨_,q,rfl, ?_, ?_⟩
  ·rw[← hq]
   exact Opd.ev_congr fun j hj=>(FP (f:=s.t) fun z hz e=>(a1 z.1 (sl z hz)).1 (e▸by simp[AOp.rd,AK.rd,hj])).symm
  ·rw[happ]at hH
   obtain ⟨h1,news,h2,h3,h4,h5,h6⟩:=hH
   refine ⟨h1,news,h2,h3,h4,fun hn=>⟨w,stp _ _ fun _ _ hb=>hb,by rw[← eqv];exact h5 hn⟩,fun hn g hg cap hc=>⟨w,stp _ _ fun b cs hb=>?_,by rw[← eqv];exact h6 hn g hg cap hc⟩⟩
   have:b≠g:=by rintro rfl;rw[hg]at hb;cases hb
   simp[upd,this,hb]
theorem b2y{x y:AOp}(hap:Is x y=true)(hxa:x.alc=false)(hxc:x.co=false)(hrh:x.k.rh=false)(hwh:x.k.wh=false)(hy:y.co=true){K:St→Prop}(h:C8 P x s fun s1=>C8 P y s1 K):C8 P y s fun s2=>C8 P x s2 K:=by
 by_cases hhn:y.hn=true
 ·exact a0N hap hxa hxc hwh hhn h
 have hxb:x.big=false:=by simp[AOp.big,hxc,hxa]
 have hyb:y.big=true:=by simp[AOp.big,hy]
 simp only[Is,AP,Ew,G3,List.contains_eq_mem,Hf]at hap
 obtain ⟨⟨⟨a1,a2⟩,_⟩,_⟩:=hap
 unfold C8 at h ⊢
 simp only[hxb,hyb,Bo,D3,BV]at h ⊢
 obtain ⟨w,hst,h⟩:=h
 obtain ⟨sl,so⟩:=N0 hst
 have hwo:=so hwh
 have happ:(w.app s).o=s.o:=by simp[Wr.app,hwo]
 obtain ⟨g,d,k⟩:=y
 cases g with
 | some q=>simp[AOp.co]at hy
 | none=>
  have eqv:∀ (o2:Nat→Option (List AV)) (r:AV),St.put ⟨(w.app s).t,o2⟩ d r=w.app (St.put ⟨s.t,o2⟩ d r):=fun o2 r=>by
   rw[← EP d r ⟨(w.app s).t,o2⟩, ← EP d r ⟨s.t,o2⟩]
   have hc:=Wr.app_comm (w1:=w) (w2:=⟨CI d r,none⟩) (fun z hz q hq e=>?_) (.inr rfl) ⟨s.t,o2⟩
   ·rw[← hc]
    congr 1
    simp[Wr.app,hwo]
   ·have h4:=JF (show q∈CI d r from hq)
    exact (a1 z.1 (sl z hz)).2 (e▸(by rw[AOp.wt];exact J4 _ h4))
  have stp:∀ (o2:Nat→Option (List AV)) (r:AV),Eg P x (St.put ⟨s.t,o2⟩ d r) w:=fun o2 r=>by
   refine Qh (s:=s) (fun i hi=>?_) (fun e=>by rw[hrh]at e;cases e) hst
   cases hd:d with
   | none=>rfl
   | some j=>
    have:i≠j:=fun e=>a2 j (by simp[AOp.wt,hd]) (e▸hi)
    simp[St.put,upd,this]
  have hk:(∃ f xs,k=.callo f xs)∨∃ e size bytes i x,k=.hap e size bytes i x:=by
   cases k<;>simp[AOp.co]at hy
   ·exact .inl ⟨_,_,rfl⟩
   ·exact absurd rfl hhn
   ·exact .inr ⟨_,_,_,_,_,rfl⟩
  rcases hk with ⟨f,xs,rfl⟩ | ⟨e,size,bytes,i,xx,rfl⟩
  rotate_left
  ·simp only[De,kW]at h ⊢
   obtain ⟨p,q,hp,hq,hH⟩:=h
   have hslot:∀ j,j∈AOp.rd ⟨none,d,.hap e size bytes i xx⟩→(w.app s).t j=s.t j:=fun j hj=>FP (f:=s.t) fun z hz e=>(a1 z.1 (sl z hz)).1 (e▸hj)
   refine ⟨p,q, ?_, ?_, ?_⟩
   ·cases i with
    | none=>exact hp
    | some i=>rw[← hp];exact (hslot i (by simp[AOp.rd,AK.rd])).symm
   ·rw[← hq]
    exact Opd.ev_congr fun j hj=>(hslot j (by simp[AOp.rd,AK.rd,hj])).symm
   ·rw[happ]at hH
    refine Um (fun r a hka=>?_) hH
    exact ⟨w,stp a r,by rw[← eqv];exact hka⟩
  simp only[De,kW]at h ⊢
  obtain ⟨ws,hw,o1,Q,hsub,hct,hK⟩:=h
  have hev:evs s xs=some ws:=by
   rw[← hw]
   refine LB fun i hi=>?_
   have hi':i∈AOp.rd ⟨none,d,.callo f xs⟩:=hi
   exact (FP (f:=s.t) fun z hz e=>(a1 z.1 (sl z hz)).1 (e▸hi')).symm
  refine ⟨ws,hev,o1,Q,fun b cs hb=>(by rw[← happ];exact hsub b cs hb),hct,fun r o2 hq hfr=>?_⟩
  have h3:=hK r o2 hq (fun b cs h1 h2=>by rw[happ];exact hfr b cs h1 h2)
  refine ⟨w,Qh (s:=s) (fun i hi=>?_) (fun e=>by rw[hrh]at e;cases e) hst, ?_⟩
  ·cases hd:d with
   | none=>rfl
   | some j=>
    have:i≠j:=fun e=>a2 j (by simp[AOp.wt,hd]) (e▸hi)
    simp[St.put,upd,this]
  ·have e:St.put ⟨(w.app s).t,fun b=>(o2 b).or ((w.app s).o b)⟩ d r=w.app (St.put ⟨s.t,fun b=>(o2 b).or (s.o b)⟩ d r):=by
    rw[← EP d r ⟨(w.app s).t,fun b=>(o2 b).or ((w.app s).o b)⟩, ← EP d r ⟨s.t,fun b=>(o2 b).or (s.o b)⟩]
    have hc:=Wr.app_comm (w1:=w) (w2:=⟨CI d r,none⟩) (fun z hz q hq e=>?_) (.inr rfl) ⟨s.t,fun b=>(o2 b).or (s.o b)⟩
    ·rw[← hc]
     congr 1
     simp[Wr.app,hwo]
    ·have h4:=JF (show q∈CI d r from hq)
     exact (a1 z.1 (sl z hz)).2 (e▸(by rw[AOp.wt];exact J4 _ h4))
   rw[← e];exact h3
theorem b2z{x y:AOp}(hap:Jh x y=true){K:St→Prop}(h:C8 P x s fun s1=>C8 P y s1 K):C8 P y s fun s2=>C8 P x s2 K:=by
 obtain ⟨hap,hxy,hyx,hxc,hyc0⟩:=a2f hap
 have hxb:x.big=x.alc:=by simp[AOp.big,hxc]
 by_cases hyc1:y.co=true
 ·rcases hyc0.resolve_left (by simp[hyc1]) with ⟨q1,q2,q3⟩ | ⟨q1,q2,q3⟩
  ·exact b2y hap q1 hxc q2 q3 hyc1 h
  ·exact a0N hap q1 hxc q2 q3 h
 have hyc:y.co=false:=by simpa using hyc1
 have hyb:y.big=y.alc:=by simp[AOp.big,hyc]
 have hap':=hap
 simp only[Is,AP,Ew,G3,List.contains_eq_mem,Hf]at hap'
 obtain ⟨⟨⟨a1,a2⟩,_⟩,_⟩:=hap'
 unfold C8 at h ⊢
 simp only[hxb,hyb]at h ⊢
 by_cases hx:x.alc=true
 ·have hyn:y.nw=true:=hxy.resolve_left (by simp[hx])
  have hy:y.alc=true:=a5C hyn
  rw[Af hx]at h
  rw[Af hy]
  obtain ⟨d2,c2,rfl⟩:=a1Z hyn
  obtain ⟨c1,r1,e1,h⟩:=(K7 hx).1 h
  simp only[Bo,hx,hy]at h ⊢
  intro b2 hb2
  refine (K7 hx).2 ⟨c1,r1, ?_, ?_⟩
  ·rw[← e1]
   refine (Uv fun i hi=>?_).symm
   cases d2 with
   | none=>rfl
   | some i2=>
    have:i≠i2:=fun e=>(a2 i2 (by simp[AOp.wt,AK.wt])) (e▸by simp[AOp.rd,hi])
    simp[St.put,upd,this]
  intro b1 hb1
  have hne:b1≠b2:=by
   rintro rfl
   cases d2<;>simp[St.put,upd]at hb1
  have hb1':s.o b1=none:=by
   cases d2<;>simpa[St.put,upd,hne]using hb1
  have h3:=h b1 hb1' b2 (by cases x.d<;>simpa[St.put,upd,Ne.symm hne]using hb2)
  have e:St.put { St.put { s with o:=upd s.o b1 (some c1) } x.d (r1 b1) with o:=upd (St.put { s with o:=upd s.o b1 (some c1) } x.d (r1 b1)).o b2 (some c2) } d2 (.ptr b2 0)=
    St.put { St.put { s with o:=upd s.o b2 (some c2) } d2 (.ptr b2 0) with o:=upd (St.put { s with o:=upd s.o b2 (some c2) } d2 (.ptr b2 0)).o b1 (some c1) } x.d (r1 b1):=by
   cases hd1:x.d with
   | none=>cases d2<;>simp only[St.put,N9 s.o (some c1) (some c2) hne]
   | some i1=>cases d2 with
    | none=>simp only[St.put,N9 s.o (some c1) (some c2) hne]
    | some i2=>
     have hi:i1≠i2:=fun e=>by
      have:=(a1 i1 (by simp[AOp.wt,hd1])).2
      apply this;simp[AOp.wt,AK.wt,e]
     simp only[St.put,N9 s.o (some c1) (some c2) hne,N9 s.t (some (r1 b1)) (some (AV.ptr b2 0)) hi]
  rw[← e];exact h3
 ·rw[Ad hx]at h
  obtain ⟨w,hst,h⟩:=h
  by_cases hy:y.alc=true
  ·rw[Af hy]at h ⊢
   have hwh:x.k.wh=false:=hyx.resolve_left (by simp[hy])
   obtain ⟨c2,r2,e2,h⟩:=(K7 hy).1 h
   obtain ⟨sl,so⟩:=N0 hst
   have hwo:=so hwh
   have happ:(w.app s).o=s.o:=by simp[Wr.app,hwo]
   refine (K7 hy).2 ⟨c2,r2, ?_, ?_⟩
   ·rw[← e2]
    exact Uv fun i hi=>(FP fun z hz e=>(a1 z.1 (sl z hz)).1 (e▸by simp[AOp.rd,hi])).symm
   intro b hb
   have h3:=h b (by rw[happ];exact hb)
   rw[Ad hx]
   refine ⟨w,a0F (s:=s) hwh (fun i hi=>?_) (fun b' cs e=>?_) hst, ?_⟩
   ·cases hd2:y.d with
    | none=>rfl
    | some i2=>
     have:i≠i2:=fun e=>a2 i2 (by simp[AOp.wt,hd2]) (e▸hi)
     simp[St.put,upd,this]
   ·have:b'≠b:=by rintro rfl;rw[hb]at e;cases e
    cases y.d<;>simpa[St.put,upd,this]using e
   ·rw[← UG b y.d (r2 b) c2 s,Wr.app_comm (w1:=aw b y.d (r2 b) c2 s.o) (w2:=w) (fun z hz q hq e=>?_) (.inr hwo) s]
    ·have:=UG b y.d (r2 b) c2 (w.app s)
     rw[happ]at this
     rw[this]
     rw[happ]at h3
     exact h3
    ·have h4:=JF (show z∈CI y.d (r2 b) from hz)
     exact (a1 q.1 (sl q hq)).2 (e▸(by rw[AOp.wt];exact J4 _ h4))
  ·rw[Ad hy]at h ⊢
   obtain ⟨w2,h2,hK⟩:=h
   obtain ⟨q1,q2,q3⟩:=a3a hap hst h2
   exact ⟨w2,q1,(Ad hx).mpr ⟨w,q2,by rw[← q3];exact hK⟩⟩

def Hg(ops:Array Oper):Nat→Nat→Nat→Bool
 | 0,_,_=>false
 | f+1,j,i=>match ops[j]? with
  | some o=>o.after.any fun e=>Region.binds .any e&&(e.on==i||Hg ops f e.on i)
  | none=>false
def Ja(ops:Array Oper)(listed:Array Bool):Prop:=∀ (m:Nat) (om:Oper),ops[m]?=some om→listed.getD m false=true→∀ e∈om.after,Region.binds .any e=true→listed.getD e.on false=true
theorem WT{ops:Array Oper}{listed:Array Bool}(hc:Ja ops listed){i:Nat}:∀ (f m:Nat),listed.getD m false=true→Hg ops f m i=true→listed.getD i false=true
 | 0,_,_,h=>by simp[Hg]at h
 | f+1,m,hm,h=>by
  rw[Hg]at h
  split at h
  ·rename_i o ho
   rw[Array.any_eq_true]at h
   obtain ⟨k,hk,h⟩:=h
   simp only[AP,Bool.or_eq_true,beq_iff_eq]at h
   have hl:=hc m o ho hm _ (Array.getElem_mem hk) h.1
   rcases h.2 with e|e
   ·rw[← e];exact hl
   ·exact WT hc f _ hl e
  ·cases h
theorem a2Z{ops:Array Oper}{listed:Array Bool}(hc:Ja ops listed){i j:Nat}(hi:listed.getD i false=false)(hj:j∈Region.ready .any ops listed)(f:Nat):Hg ops f j i=false:=by
 obtain ⟨_,o,ho,hall⟩:=mem_ready.1 hj
 cases f with
 | zero=>rfl
 | succ f=>
  rw[Hg,ho]
  apply Bool.eq_false_iff.2
  intro h
  simp only[Array.any_eq_true,AP,Bool.or_eq_true,beq_iff_eq]at h
  obtain ⟨k,hk,h1,h2⟩:=h
  have hl:=hall _ (Array.getElem_mem hk) h1
  rcases h2 with e|e
  ·rw[e,hi]at hl;cases hl
  ·have:=WT hc f _ hl e
   rw[hi]at this;cases this
theorem RH{ops:Array Oper}{listed:Array Bool}(hc:Ja ops listed){j:Nat}(hj:j∈Region.ready .any ops listed):Ja ops (listed.setIfInBounds j true):=by
 intro m om hm hl e he hb
 by_cases hmj:j=m
 ·subst hmj
  obtain ⟨_,o,ho,hall⟩:=mem_ready.1 hj
  rw[hm]at ho;cases ho
  exact getD_set_true (hall e he hb)
 ·rw[getD_set_ne false hmj]at hl
  exact getD_set_true (hc m om hm hl e he hb)
def Jo(ops:Array Oper)(listed:Array Bool):Nat:=(List.range ops.size).countP fun j => !listed.getD j true
theorem WO{p q:Nat→Bool}:∀ {l:List Nat} {i:Nat},i∈l→(∀ j,q j=true→p j=true)→p i=true→q i=false→l.countP q+1≤l.countP p
 | x::l,i,hi,h,h1,h2=>by
  have hle:∀ l:List Nat,l.countP q≤l.countP p:=fun l=>List.countP_mono_left fun x _=>h x
  by_cases e:x=i
  ·subst e
   rw[List.countP_cons,List.countP_cons,Af h1,Ad (by simp[h2])]
   have:=hle l
   omega
  ·have:=WO (l:=l) (i:=i) (by simpa[Ne.symm e]using hi) h h1 h2
   rw[List.countP_cons,List.countP_cons]
   by_cases hq:q x=true
   ·rw[Af hq,Af (h x hq)];omega
   ·rw[Ad hq];split<;>omega
theorem Ki{ops:Array Oper}{listed:Array Bool}{i:Nat}(hi:i<ops.size)(hu:listed.getD i true=false):Jo ops (listed.setIfInBounds i true)+1≤Jo ops listed:=by
 refine WO (i:=i) (List.mem_range.2 hi) (fun j hj=>?_) (by simp only[hu,Bool.not_false]) ?_
 ·by_cases hij:i=j
  ·subst hij;simp only[hu,Bool.not_false]
  ·rw[getD_set_ne true hij]at hj;exact hj
 ·have hlt:i<listed.size:=by
   rcases FJ i listed.size with h'|h'
   ·exact h'
   ·simp[Array.getElem?_eq_none h']at hu
  simp[hlt]
theorem GO{ops:Array Oper}{listed:Array Bool}{i:Nat}(h:i∈Region.ready .any ops listed):i<ops.size∧listed.getD i true=false∧listed.getD i false=false:=by
 obtain ⟨h0,o,ho,_⟩:=mem_ready.1 h
 refine ⟨(BH.1 ho).1,h0, ?_⟩
 rcases FJ i listed.size with h'|h'
 ·simpa[h']using h0
 ·simp[Array.getElem?_eq_none h']
theorem WJ(ops:Array Oper)(n:Nat):Ja ops (Array.replicate n false):=fun m om _ h=>by
 exfalso
 rcases FJ m n with h'|h'
 ·simp[h']at h
 ·simp[h']at h
theorem OQ(ops:Array Oper)(listed:Array Bool):Jo ops listed≤ops.size:=by
 have:=List.countP_le_length (p:=fun j => !listed.getD j true) (l:=List.range ops.size)
 simpa[Jo]using this
def Jg(P:Program)(ops:Array Oper)(As:List AOp)(K:St→Prop):Nat→Array Bool→St→Prop
 | 0,_,s=>K s
 | fuel+1,listed,s=>(Region.ready .any ops listed=[]→K s)∧
  ∀ i∈Region.ready .any ops listed, ∃ A,As[i]?=some A∧C8 P A s (Jg P ops As K fuel (listed.setIfInBounds i true))

theorem UA{ops:Array Oper}{As:List AOp}{K:St→Prop}{i:Nat}{Ai:AOp}(hi:As[i]?=some Ai)(hlen:As.length=ops.size):
  ∀ (fuel:Nat) (listed:Array Bool) (s:St),Ja ops listed→Jo ops listed≤fuel+1→
   (∀ j Aj,As[j]?=some Aj→j≠i→listed.getD j true=false→Hg ops 4 j i=false→Jh Ai Aj=true)→
   i∈Region.ready .any ops listed→C8 P Ai s (Jg P ops As K fuel (listed.setIfInBounds i true))→Jg P ops As K (fuel+1) listed s:=by
 intro fuel
 induction fuel with
 | zero=>
  intro listed s hcl hcn _ hr H
  refine ⟨fun h=>(by rw[h]at hr;cases hr),fun j hj=>?_⟩
  by_cases hji:j=i
  ·subst hji;exact ⟨Ai,hi,H⟩
  ·have h1:=Ki (GO hr).1 (GO hr).2.1
   have hj':=GO (ready_mono hj hji)
   have h2:=Ki hj'.1 hj'.2.1
   omega
 | succ fuel ih=>
  intro listed s hcl hcn hfree hr H
  refine ⟨fun h=>(by rw[h]at hr;cases hr),fun j hj=>?_⟩
  by_cases hji:j=i
  ·subst hji;exact ⟨Ai,hi,H⟩
  ·have hjl:=GO hj
   have hAj:∃ Aj,As[j]?=some Aj:=⟨As[j]'(by omega),Aw (by omega)⟩
   obtain ⟨Aj,hAj⟩:=hAj
   have hap:=hfree j Aj hAj hji hjl.2.1 (a2Z hcl (GO hr).2.2 hj 4)
   have H2:C8 P Ai s fun s1=>C8 P Aj s1 (Jg P ops As K fuel ((listed.setIfInBounds i true).setIfInBounds j true)):=
    Qi (fun s1 h1=>by
     obtain ⟨A,hA,hs⟩:=h1.2 j (ready_mono hj hji)
     rw[hAj]at hA
     cases hA
     exact hs) H
   refine ⟨Aj,hAj,Qi (fun s2 h2=>?_) (b2z hap H2)⟩
   have hcn':=Ki hjl.1 hjl.2.1
   refine ih (listed.setIfInBounds j true) s2 (RH hcl hj) (by omega) (fun k Ak hAk hki hun hno=>?_) (ready_mono hr (Ne.symm hji)) ?_
   ·by_cases hjk:j=k
    ·subst hjk
     have hlt:j<listed.size:=by
      rcases FJ j listed.size with h'|h'
      ·exact h'
      ·have:=hjl.2.1;simp[Array.getElem?_eq_none h']at this
     simp[hlt]at hun
    ·rw[getD_set_ne true hjk]at hun
     exact hfree k Ak hAk hki hun hno
   ·rw[Array.setIfInBounds_comm _ _ hji]
    exact h2

def Ju(ops:Array Oper)(As:List AOp)(listed:Array Bool)(i:Nat):Bool:=
  match As[i]? with
  | some Ai=>(List.range As.length).all fun j=>j==i||listed.getD j true||
      (match As[j]? with
       | some Aj=>Jh Ai Aj||Hg ops 4 j i
       | none=>true)
  | none=>false
def LS(ops:Array Oper)(As:List AOp):Nat→Nat→Array Bool→Bool
 | 0,_,_=>true
 | fuel+1,k,listed=>(Region.ready .any ops listed).contains k&&Ju ops As listed k&&LS ops As fuel (k+1) (listed.setIfInBounds k true)

theorem Xt{ops:Array Oper}{As:List AOp}{listed:Array Bool}{i:Nat}{Ai:AOp}(hi:As[i]?=some Ai)(h:Ju ops As listed i=true):
  ∀ j Aj,As[j]?=some Aj→j≠i→listed.getD j true=false→Hg ops 4 j i=false→Jh Ai Aj=true:=by
 intro j Aj hAj hji hun hno
 simp only[Ju,hi,Ew,List.mem_range]at h
 have hj:j<As.length:=(AM.1 hAj).1
 have:=h j hj
 rw[hAj,hun]at this
 simpa[beq_eq_false_iff_ne.2 hji,hno]using this

theorem X7{ops:List Oper}{As:List AOp}{K:St→Prop}(hlen:As.length=ops.length)(hdet:∀ A∈As,(A.k.det||A.big)=true):∀ (l:List Oper) (Al:List AOp) (k:Nat) (listed:Array Bool) (s:St),l.length=Al.length→(∀ j,Al[j]?=As[k+j]?)→
  Ja ops.toArray listed→Jo ops.toArray listed≤l.length→
  LS ops.toArray As l.length k listed=true→IR P Al s K→Jg P ops.toArray As K l.length listed s
 | [],[],_,_,_,_,_,_,_,_,h=>h
 | [],_::_,_,_,_,hl,_,_,_,_,_=>by simp at hl
 | _::_,[],_,_,_,hl,_,_,_,_,_=>by simp at hl
 | o::l,A::Al,k,listed,s,hl,h2,hcl,hcn,hB,h=>by
  have hA:As[k]?=some A:=by simpa using (h2 0).symm
  simp only[AJ,LS,AP]at hB
  obtain ⟨⟨hr,hf⟩,hB'⟩:=hB
  have hr':k∈Region.ready .any ops.toArray listed:=by simpa using hr
  have hc1:=Ki (GO hr').1 (GO hr').2.1
  refine UA hA (by simpa using hlen) l.length listed s hcl hcn (Xt hA hf) hr' ?_
  refine Qi (fun s' h'=>?_) (a0G (hdet A (Dd hA)) h)
  exact X7 hlen hdet l Al (k+1) _ _ (by simpa using hl) (fun j=>by have:=h2 (j+1);simpa[Nat.add_assoc,Nat.add_comm 1 j]using this) (RH hcl hr') (by simp only[AJ]at hcn;omega) hB' h'

def P4(ops:Array Oper)(A:AOp)(k:Nat):List AOp→Nat→Bool
 | [],_=>true
 | B::r,j=>(Jh A B||Hg ops 4 j k)&&P4 ops A k r (j+1)
def lexB(ops:Array Oper):List Oper→List AOp→Nat→Bool
 | o::l,A::Al,k=>o.after.toList.all (fun e => !(Region.binds .any e)||Nat.blt e.on k)&&P4 ops A k Al (k+1)&&lexB ops l Al (k+1)
 | _,_,_=>true
theorem ZY{ops:Array Oper}{A:AOp}{k:Nat}:∀ {l:List AOp} {j:Nat},P4 ops A k l j=true→∀ (m:Nat) (B:AOp),l[m]?=some B→(Jh A B||Hg ops 4 (j+m) k)=true
 | [],_,_,m,B,hB=>by simp at hB
 | C::r,j,h,m,B,hB=>by
  simp only[P4,AP]at h
  cases m with
  | zero=>simp at hB;subst hB;exact h.1
  | succ m=>
   have:=ZY h.2 m B (by simpa using hB)
   rw[show j+(m+1)=j+1+m by omega];exact this
theorem Kb(a b:Nat):Nat.blt a b=decide (a<b):=by
 rw[FE,decide_eq_true_iff]
 rw[Nat.blt_eq]
theorem X8{ops:Array Oper}{As:List AOp}(hlen:As.length=ops.size):∀ (l:List Oper) (Al:List AOp) (k:Nat) (listed:Array Bool),(∀ j,l[j]?=ops[k+j]?)→(∀ j,Al[j]?=As[k+j]?)→
  listed.size=ops.size→(∀ j,j<ops.size→listed.getD j true=Nat.blt j k)→lexB ops l Al k=true→LS ops As l.length k listed=true
 | [],_,_,_,_,_,_,_,_=>rfl
 | o::l,Al,k,listed,h1,h2,hs,hl,hB=>by
  have ho:ops[k]?=some o:=by simpa using (h1 0).symm
  have hk:k<ops.size:=(BH.1 ho).1
  cases Al with
  | nil=>
   exfalso
   have:=h2 0
   simp only[List.getElem?_nil,Nat.add_zero]at this
   have:=List.getElem?_eq_none_iff.1 this.symm
   omega
  | cons A Al=>
   have hA:As[k]?=some A:=by simpa using (h2 0).symm
   simp only[lexB,AP,Ew]at hB
   obtain ⟨⟨b1,b2⟩,b3⟩:=hB
   have hkk:listed.getD k true=false:=by rw[hl k hk];simp[Kb]
   simp only[AJ,LS,AP]
   refine ⟨⟨?_, ?_⟩, ?_⟩
   ·rw[List.contains_iff_mem]
    refine mem_ready.2 ⟨hkk,o,ho,fun e he hb=>?_⟩
    have:=b1 e (by simpa using he)
    rw[hb]at this
    have hlt:e.on<k:=by simpa[Kb]using this
    have h3:=hl e.on (by omega)
    have h4:Nat.blt e.on k=true:=by simpa[Kb]using hlt
    rw[h4]at h3
    have h5:e.on<listed.size:=by omega
    simpa[h5]using h3
   ·simp only[Ju,hA,Ew,List.mem_range]
    intro j hj
    rw[hlen]at hj
    by_cases hjk:j=k
    ·simp[hjk]
    ·rw[hl j hj]
     by_cases hlt:j<k
     ·have h4:Nat.blt j k=true:=by simpa[Kb]using hlt
      simp[h4]
     ·obtain ⟨m,rfl⟩:∃ m,j=k+1+m:=⟨j - (k+1),by omega⟩
      have hAj:As[k+1+m]?=some (As[k+1+m]'(by omega)):=Aw (by omega)
      have h5:Al[m]?=some (As[k+1+m]'(by omega)):=by
       have:=h2 (m+1)
       rw[← hAj,show k+1+m=k+(m+1) by omega, ← this]
       simp
      have h6:=ZY b2 m _ h5
      rw[hAj]
      simp only[h6,Bool.or_true]
   ·refine X8 hlen l Al (k+1) _ (fun j=>?_) (fun j=>?_) (by simp[hs]) (fun j hj=>?_) b3
    ·have:=h1 (j+1);rw[show k+1+j=k+(j+1) by omega, ← this];simp
    ·have:=h2 (j+1);rw[show k+1+j=k+(j+1) by omega, ← this];simp
    ·by_cases hjk:k=j
     ·subst hjk
      have:k<listed.size:=by omega
      have h4:Nat.blt k (k+1)=true:=by simp[Kb]
      rw[h4];simp[this]
     ·rw[getD_set_ne true hjk,hl j hj]
      rw[FE]
      simp[Kb]
      omega
def JZ(ops:Array Oper)(As:List AOp):Nat→Array Bool→OT
 | 0,_=>.nil
 | fuel+1,listed=>
  match Region.ready .any ops listed with
  | []=>.nil
  | r::rs=>match (r::rs).find? fun i=>Ju ops As listed i with
   | some i=>.op (As[i]?.getD default) (JZ ops As fuel (listed.setIfInBounds i true))
   | none=>rs.foldl (fun t i=>.two t (.op (As[i]?.getD default) (JZ ops As fuel (listed.setIfInBounds i true)))) (.op (As[r]?.getD default) (JZ ops As fuel (listed.setIfInBounds r true)))
def TX(ops:Array Oper)(As:List AOp):Nat→Array Bool→Nat→Option Nat
 | 0,_,b=>some b
 | _+1,_,0=>none
 | fuel+1,listed,b+1=>
  match Region.ready .any ops listed with
  | []=>some b
  | r::rs=>match (r::rs).find? fun i=>Ju ops As listed i with
   | some i=>TX ops As fuel (listed.setIfInBounds i true) b
   | none=>(r::rs).foldl (fun ob i=>match ob with
    | some b=>TX ops As fuel (listed.setIfInBounds i true) b
    | none=>none) (some b)
theorem Y9{s:St}{K:St→Prop}(f:Nat→OT):∀ (rs:List Nat) (t:OT),D1 P (rs.foldl (fun t i=>.two t (f i)) t) s K→D1 P t s K∧∀ i∈rs,D1 P (f i) s K
 | [],t,h=>⟨h,fun i hi=>by cases hi⟩
 | r::rs,t,h=>by
  obtain ⟨h1,h2⟩:=Y9 f rs (.two t (f r)) h
  refine ⟨h1.1,fun i hi=>?_⟩
  rcases AZ.1 hi with rfl|hi
  ·exact h1.2
  ·exact h2 i hi
theorem a1q{ops:Array Oper}{As:List AOp}{K:St→Prop}(hlen:As.length=ops.size)(hdet:∀ A∈As,(A.k.det||A.big)=true):∀ (fuel:Nat) (listed:Array Bool) (s:St),Ja ops listed→Jo ops listed≤fuel→
  D1 P (JZ ops As fuel listed) s K→Jg P ops As K fuel listed s
 | 0,_,_,_,_,h=>h
 | fuel+1,listed,s,hcl,hcn,h=>by
  have step:∀ i,i∈Region.ready .any ops listed→D1 P (.op (As[i]?.getD default) (JZ ops As fuel (listed.setIfInBounds i true))) s K→
    ∃ A,As[i]?=some A∧C8 P A s (Jg P ops As K fuel (listed.setIfInBounds i true)):=by
   intro i hi hw
   have hil:=GO hi
   have hA:As[i]?=some (As[i]'(by omega)):=Aw (by omega)
   rw[hA]at hw
   refine ⟨_,hA,Qi (fun s' h'=>?_) (a0G (hdet _ (Di _)) hw)⟩
   have hc1:=Ki hil.1 hil.2.1
   exact a1q hlen hdet fuel _ s' (RH hcl hi) (by omega) h'
  rw[JZ]at h
  split at h
  ·rename_i h0
   exact ⟨fun _=>h,fun i hi=>by rw[h0]at hi;cases hi⟩
  ·rename_i r rs h0
   split at h
   ·rename_i i hf
    have hi:i∈Region.ready .any ops listed:=by rw[h0];exact List.mem_of_find?_eq_some hf
    have hfr:Ju ops As listed i=true:=List.find?_some (p:=fun i=>Ju ops As listed i) hf
    obtain ⟨A,hA,hst⟩:=step i hi h
    exact UA hA hlen fuel listed s hcl hcn (Xt hA hfr) hi hst
   ·obtain ⟨h1,h2⟩:=Y9 (P:=P) (s:=s) (K:=K) (fun i=>.op (As[i]?.getD default) (JZ ops As fuel (listed.setIfInBounds i true))) rs _ h
    refine ⟨fun e=>(by rw[h0]at e;cases e),fun i hi=>?_⟩
    rw[h0]at hi
    rcases AZ.1 hi with rfl|hi'
    ·exact step i (by rw[h0];simp) h1
    ·exact step i (by rw[h0];exact hi) (h2 i hi')

theorem Ou{all:List Oper}{As:List AOp}(hc:Iw P R all all=some As)(hdet:∀ A∈As,(A.k.det||A.big)=true)(hd:∀ o∈all,Ly N o=true){K:St→Prop}{Q:Exit→Act→World→Prop}(hn:∀ a' W' U' s',Inv N W0 U0 M a' W' U' s'→K s'→Q .normal a' W'):
  ∀ (fuel:Nat) (listed:Array Bool) (a:Act) (W:World) (U:Nat→Nat→Prop) (s:St),Inv N W0 U0 M a W U s→Jo all.toArray listed≤fuel→Jg P all.toArray As K fuel listed s→wpAny P .any all.toArray Q fuel listed a W
 | 0,listed,_,_,_,_,hi,hcn,h=>⟨by
   apply List.eq_nil_iff_forall_not_mem.2
   intro j hj
   have:=Ki (GO hj).1 (GO hj).2.1
   omega,hn _ _ _ _ hi h⟩
 | fuel+1,listed,a,W,U,s,hi,hcn,h=>by
  refine ⟨fun h0=>hn _ _ _ _ hi (h.1 h0),fun i hr=>?_⟩
  obtain ⟨A,hA,hst⟩:=h.2 i hr
  obtain ⟨_,oi,hoi,_⟩:=mem_ready.1 hr
  have hoi':all[i]?=some oi:=by simpa using hoi
  obtain ⟨_,hg⟩:=M9 hc
  obtain ⟨A',hA',hcA⟩:=hg i oi hoi'
  rw[hA]at hA'
  cases hA'
  have hc1:=Ki (GO hr).1 (GO hr).2.1
  unfold wpOp
  rw[hoi]
  unfold C8 at hst
  split at hst
  ·exact Tb hi hcA (RZ (hd oi (Dd hoi'))) hst fun a' W' U' s' hi' hs'=>Ou hc hdet hd hn fuel _ _ _ _ _ hi' (by omega) hs'
  ·rename_i hna
   obtain ⟨w,hst,hrest⟩:=hst
   have hdA:A.k.det=true:=by
    have:=hdet A (Dd hA)
    rw[Bool.or_eq_true]at this
    exact this.resolve_right hna
   refine Tb hi hcA (RZ (hd oi (Dd hoi'))) (Y2 hdA hst) fun a' W' U' s' hi' hs'=>?_
   subst hs'
   exact Ou hc hdet hd hn fuel _ _ _ _ _ hi' (by omega) hrest
end
end Go.Proofs.YtfgihnhoocnmdaaGreatDoor
