import Derived.Test.YtfgihnhoocnmdaaGreatDoorJ8
namespace Go.Proofs.YtfgihnhoocnmdaaGreatDoor
set_option linter.all false
set_option maxHeartbeats 64000000
set_option maxRecDepth 100000
open Go.RowKit
def a4k(P:Program)(ops:Array Oper):Bool:=ops.any fun o=>o.guard.isNone&&(match o.op with
 | .call c=>match c.callee with
  | .value (.func _)=>c.argTypes.any (objT P)
  | _=>false
 | _=>false)
def XH(P:Program)(ops:Array Oper):Bool:=ops.any fun o=>o.guard.isNone&&(match o.op with
 | .call c=>match c.callee with
  | .value (.func f)=>((P.funcs[f]?).map fun fn=>fn.resultTypes.any (objT P)).getD false
  | _=>false
 | _=>false)
def Gx(P:Program)(N:Nat)(ops:Array Oper)(draw:Bool)(R lim:Nat):Option ACode:=
 match Iw P R ops.toList ops.toList with
  | some As=>if (ops.toList.all (Ly N))&&(!draw||(As.all (fun A=>A.k.det||A.big)&&lexB ops ops.toList As 0)) then some (.reg As draw) else if (ops.toList.all (Ly N))&&draw&&As.all (fun A=>A.k.det||A.big)&&(TX ops As ops.size (Array.replicate ops.size false) lim).isSome then some (.tree (JZ ops As ops.size (Array.replicate ops.size false))) else none
  | none=>none
def Cq(P:Program)(N:Nat):Code→Option ACode
 | .skip=>some .skip
 | .region _ ops draw=>if draw&&a4k P ops then (Gx P N ops draw 2 150).or ((Gx P N ops draw 1 150).or ((Gx P N ops draw 0 150).or ((Gx P N ops draw 1 320).or (if XH P ops then Gx P N ops draw 4 150 else none)))) else if draw&&XH P ops then (Gx P N ops draw 4 150).or (Gx P N ops draw 0 320) else if draw then (Gx P N ops draw 0 150).or (Gx P N ops draw 0 320) else Gx P N ops draw 1 150
 | .seq a b=>match Cq P N a,Cq P N b with
  | some x,some y=>some (.seq x y)
  | _,_=>none
 | .cond c a b=>match Au c,Cq P N a,Cq P N b with
  | some c,some x,some y=>some (.cond c x y)
  | _,_,_=>none
 | .block id b=>(Cq P N b).map (.block id)
 | .loop b=>(Cq P N b).map .loop
 | .exit id=>some (.exit id)
 | .ret=>some .ret
 | _=>none

section
variable {P:Program} {N:Nat} {W0:World} {U0:Nat→Nat→Prop} {M:Nat→Prop}

theorem b3V{α:Type}{c:Code}{Q:Exit→Act→World→Prop}(I:α→Act→World→Prop)(m:α→Nat){x0:α}{a:Act}{w:World}(h0:I x0 a w)
  (round:∀ x a w,I x a w→c.wp P (Exit.then (fun a' w'=>∃ x',I x' a' w'∧m x'<m x) Q) a w):(Code.loop c).wp P Q a w:=by
 intro b k cs
 have key:∀ n x a w,m x=n→I x a w→∃ e a' w',Q e a' w'∧Arrives P (lone (b.at a (.code c :: .inLoop c::k)) cs w) b k cs e a' w':=by
  intro n
  induction n using Nat.strongRecOn with
  | _ n ih=>
   intro x a w hn hI
   obtain ⟨e,a₁,w₁,hq,harr⟩:=round x a w hI b (.inLoop c::k) cs
   cases e with
   | normal=>
    obtain ⟨x',hI₁,hlt⟩:=hq
    obtain ⟨e₂,a₂,w₂,hq₂,harr₂⟩:=ih (m x') (hn▸hlt) x' a₁ w₁ rfl hI₁
    exact ⟨e₂,a₂,w₂,hq₂,.of_steps (Steps.trans harr (.one step_inLoop)) harr₂⟩
   | exit id=>exact ⟨_,a₁,w₁,hq,.pass (x:=.inLoop c) rfl (fun _ _=>.inl (by simp)) harr⟩
   | goto l=>exact ⟨_,a₁,w₁,hq,.pass (x:=.inLoop c) rfl (fun _ _=>.inl (by simp)) harr⟩
   | ret=>exact ⟨_,a₁,w₁,hq,.pass (x:=.inLoop c) rfl (fun _ _=>.inl (by simp)) harr⟩
   | panic ch=>exact ⟨_,a₁,w₁,hq,.pass (x:=.inLoop c) rfl (fun _ _=>.inl (by simp)) harr⟩
   | outgrown=>exact ⟨_,a₁,w₁,hq,.pass (x:=.inLoop c) rfl (fun _ _=>.inl (by simp)) harr⟩
 obtain ⟨e,a',w',hq,harr⟩:=key _ x0 a w rfl h0
 exact ⟨e,a',w',hq,.of_steps (.one step_loop) harr⟩

def QR(N:Nat)(W0:World)(U0:Nat→Nat→Prop)(M:Nat→Prop)(Q:AExit→St→Prop):Exit→Act→World→Prop
 | .normal,a,w=>∃ U s,Inv N W0 U0 M a w U s∧Q .normal s
 | .exit id,a,w=>∃ U s,Inv N W0 U0 M a w U s∧Q (.exit id) s
 | .ret,a,w=>∃ U s,Inv N W0 U0 M a w U s∧Q .ret s
 | _,_,_=>False

theorem H8(hm:P.follows .mixedOrders=true){id:Nat}{ops:Array Oper}{draw:Bool}{R lim:Nat}{ac:ACode}{Q:AExit→St→Prop}{a:Act}{W:World}{U:Nat→Nat→Prop}{s:St}(hc:Gx P N ops draw R lim=some ac)(hi:Inv N W0 U0 M a W U s)(h:BK P ac Q s):(Code.region id ops draw).wp P (QR N W0 U0 M Q) a W:=by
  unfold Gx at hc
  split at hc
  ·rename_i As hAs
   split at hc
   ·rename_i hb
    simp only[Az]at hc
    subst hc
    simp only[AP,Ew,Bool.or_eq_true,G3]at hb
    obtain ⟨hd,hdr⟩:=hb
    have hn:∀ a' W' U' s',Inv N W0 U0 M a' W' U' s'→Q .normal s'→QR N W0 U0 M Q .normal a' W':=fun a' W' U' s' h1 h2=>⟨U',s',h1,h2⟩
    cases draw with
    | false=>
     refine wp_region ?_
     have:=a0m (P:=P) (all:=ops.toList) hd hn ops.toList As 0 a W U s (by simp) hAs hi h
     rw[List.range_eq_range']
     simpa using this
    | true=>
     rcases hdr with hdr | ⟨hdet,hlex⟩
     ·cases hdr
     ·refine wp_region_any hm ?_
      have hi':Inv N W0 U0 M a { W with drawn:=W.drawn+1 } U s:=hi.ext (Ext.refl W U).drew
      have hlex':LS ops.toList.toArray As ops.toList.length 0 (Array.replicate ops.size false)=true:=
       X8 (ops:=ops.toList.toArray) (by simpa using (M9 hAs).1) ops.toList As 0 _ (by simp) (by simp) (by simp) (fun j hj=>by simp at hj;simp[hj,Kb]) (by simpa using hlex)
      have hdet':∀ A∈As,(A.k.det||A.big)=true:=fun A hA=>by simpa using hdet A hA
      have h1:=X7 (P:=P) (ops:=ops.toList) (As:=As) (K:=Q .normal) (M9 hAs).1 hdet' ops.toList As 0 _ s (M9 hAs).1.symm (by simp) (WJ _ _) (by simpa using OQ ops.toList.toArray _) hlex' h
      have:=Ou (Q:=QR N W0 U0 M Q) hAs hdet' hd hn ops.toList.length (Array.replicate ops.size false) a _ U s hi' (by simpa using OQ ops.toList.toArray _) h1
      simpa using this
   ·split at hc
    ·rename_i hb
     simp only[Az]at hc
     subst hc
     simp only[AP,Ew]at hb
     obtain ⟨⟨⟨hd,rfl⟩,hdet⟩,_⟩:=hb
     obtain ⟨K',hup,h,hq⟩:=h
     have hn:∀ a' W' U' s',Inv N W0 U0 M a' W' U' s'→K' s'→QR N W0 U0 M Q .normal a' W':=fun a' W' U' s' h1 h2=>by
      obtain ⟨s1,hle,hq1⟩:=hq s' h2
      exact ⟨U',s1,h1.le hle,hq1⟩
     refine wp_region_any hm ?_
     have hi':Inv N W0 U0 M a { W with drawn:=W.drawn+1 } U s:=hi.ext (Ext.refl W U).drew
     have hlen:As.length=ops.size:=by simpa using (M9 hAs).1
     have h1:=a1q (P:=P) (ops:=ops) (As:=As) (K:=K') hlen hdet ops.size (Array.replicate ops.size false) s (WJ _ _) (OQ ops _) h
     have:=Ou (Q:=QR N W0 U0 M Q) hAs hdet hd hn ops.toList.length (Array.replicate ops.size false) a _ U s hi' (by simpa using OQ ops.toList.toArray _) (by simpa using h1)
     simpa using this
    ·cases hc
  ·cases hc

theorem IA(hm:P.follows .mixedOrders=true):∀ (c:Code) (ac:ACode) (Q:AExit→St→Prop) (a:Act) (W:World) (U:Nat→Nat→Prop) (s:St),Cq P N c=some ac→Inv N W0 U0 M a W U s→BK P ac Q s→c.wp P (QR N W0 U0 M Q) a W
 | .skip,ac,Q,a,W,U,s,hc,hi,h=>by
  simp only[Cq,Az]at hc
  subst hc
  exact wp_skip ⟨U,s,hi,h⟩
 | .region id ops draw,ac,Q,a,W,U,s,hc,hi,h=>by
  simp only[Cq]at hc
  split at hc
  ·rw[Option.or_eq_some_iff]at hc
   rcases hc with hc | ⟨_,hc⟩
   ·exact H8 hm hc hi h
   ·rw[Option.or_eq_some_iff]at hc
    rcases hc with hc | ⟨_,hc⟩
    ·exact H8 hm hc hi h
    ·rw[Option.or_eq_some_iff]at hc
     rcases hc with hc | ⟨_,hc⟩
     ·exact H8 hm hc hi h
     ·rw[Option.or_eq_some_iff]at hc
      rcases hc with hc | ⟨_,hc⟩
      ·exact H8 hm hc hi h
      ·split at hc
       ·exact H8 hm hc hi h
       ·cases hc
  ·split at hc
   ·rw[Option.or_eq_some_iff]at hc
    rcases hc with hc | ⟨_,hc⟩
    ·exact H8 hm hc hi h
    ·exact H8 hm hc hi h
   ·split at hc
    ·rw[Option.or_eq_some_iff]at hc
     rcases hc with hc | ⟨_,hc⟩
     ·exact H8 hm hc hi h
     ·exact H8 hm hc hi h
    ·exact H8 hm hc hi h
 | .seq x y,ac,Q,a,W,U,s,hc,hi,h=>by
  simp only[Cq]at hc
  split at hc
  ·rename_i ax ay h1 h2
   simp only[Az]at hc
   subst hc
   refine wp_seq ?_
   refine wp_mono (IA hm x ax _ a W U s h1 hi h) fun e a' w' hq=>?_
   cases e with
   | normal=>
    obtain ⟨U',s',hi',hw⟩:=hq
    exact IA hm y ay Q a' w' U' s' h2 hi' hw
   | exit id=>exact hq
   | ret=>exact hq
   | _=>exact hq.elim
  ·cases hc
 | .cond c x y,ac,Q,a,W,U,s,hc,hi,h=>by
  simp only[Cq]at hc
  split at hc
  ·rename_i C ax ay h0 h1 h2
   simp only[Az]at hc
   subst hc
   obtain ⟨b,hb,ht,hf⟩:=h
   have hv:=(AW hi h0 hb).bool_inv
   cases b with
   | true=>exact wp_cond_true hv (IA hm x ax Q a W U s h1 hi (ht rfl))
   | false=>exact wp_cond_false hv (IA hm y ay Q a W U s h2 hi (hf rfl))
  ·cases hc
 | .block id b,ac,Q,a,W,U,s,hc,hi,h=>by
  simp only[Cq]at hc
  obtain ⟨ab,h1,rfl⟩:=BM.1 hc
  refine wp_block (wp_mono (IA hm b ab _ a W U s h1 hi h) fun e a' w' hq=>?_)
  cases e with
  | normal=>exact hq
  | exit i=>
   obtain ⟨U',s',hi',hw⟩:=hq
   simp only[Iv]at hw
   simp only[Exit.inBlock]
   by_cases hid:i=id
   ·rw[Af hid]at hw ⊢
    exact ⟨U',s',hi',hw⟩
   ·rw[Ad hid]at hw ⊢
    exact ⟨U',s',hi',hw⟩
  | ret=>exact hq
  | _=>exact hq.elim
 | .loop b,ac,Q,a,W,U,s,hc,hi,h=>by
  simp only[Cq]at hc
  obtain ⟨ab,h1,rfl⟩:=BM.1 hc
  obtain ⟨α,inv,phi,m,⟨x0,hle,h0⟩,hround⟩:=h
  refine b3V (fun x a' w'=>phi x∧∃ U',Inv N W0 U0 M a' w' U' (inv x)) m (x0:=x0) ⟨h0,U,hi.le hle⟩ fun x a' w' ⟨hx,U',hi'⟩=>?_
  refine wp_mono (IA hm b ab _ a' w' U' (inv x) h1 hi' (hround x hx)) fun e a2 w2 hq=>?_
  cases e with
  | normal=>
   obtain ⟨U2,s2,hi2,x',hle3,hI3,hlt⟩:=hq
   exact ⟨x',⟨hI3,U2,hi2.le hle3⟩,hlt⟩
  | exit id=>exact hq
  | ret=>exact hq
  | _=>exact hq.elim
 | .exit id,ac,Q,a,W,U,s,hc,hi,h=>by
  simp only[Cq,Az]at hc
  subst hc
  exact wp_exit ⟨U,s,hi,h⟩
 | .ret,ac,Q,a,W,U,s,hc,hi,h=>by
  simp only[Cq,Az]at hc
  subst hc
  exact wp_ret ⟨U,s,hi,h⟩
 | .rangeFunc ..,_,_,_,_,_,_,hc,_,_=>by simp[Cq]at hc
 | .scope _,_,_,_,_,_,_,hc,_,_=>by simp[Cq]at hc
 | .label _,_,_,_,_,_,_,hc,_,_=>by simp[Cq]at hc
 | .goto _,_,_,_,_,_,_,hc,_,_=>by simp[Cq]at hc
 | .refuse _,_,_,_,_,_,_,hc,_,_=>by simp[Cq]at hc

inductive AR where
 | tmp (i:Nat)
 | cell (i:Nat) (n:Option Nat)
def DU(P:Program):List ResultVar→Option (List AR)
 | []=>some []
 | .tmp i::r=>(DU P r).map (.tmp i :: ·)
 | .cell i t::r=>match Fq P t,DU P r with
  | some n,some rs=>some (.cell i n::rs)
  | _,_=>none
def Br(s:St):AR→AV→Prop
 | .tmp i,r=>s.t i=some r
 | .cell i n,r=>∃ p cs,s.t i=some p∧view s.o p=some cs∧A5 n cs r
def BR(s:St):List AR→AV→Prop
 | [x],r=>Br s x r
 | xs,r=>∃ rs:List AV,xs.length=rs.length∧(∀ (i:Nat) (x:AR) (c:AV),xs[i]?=some x→rs[i]?=some c→∃ c',Br s x c'∧c=c'.alias)∧r=.tup rs
def num{α:Type}:Nat→List α→List (Nat × α)
 | _,[]=>[]
 | n,a::r=>(n,a)::num (n+1) r
theorem Pp{α:Type}(l:List α)(n i:Nat):lk (num n l) i=if n≤i then l[i - n]? else none:=by
 induction l generalizing n with
 | nil=>simp[num,lk]
 | cons a l ih=>
  simp only[num,lk,ih]
  by_cases h:i=n
  ·subst h;simp
  ·rw[Ad h]
   by_cases h1:n+1≤i
   ·rw[Af h1,Af (by omega)]
    have:i - n=(i - (n+1))+1:=by omega
    rw[this,List.getElem?_cons_succ]
   ·rw[Ad h1,Ad (by omega)]
def Ib(aS_:List AV):St:=⟨lk (num 0 (aS_.map AV.alias)),lk []⟩
def KJ(rs:List AR)(r:AV):AExit→St→Prop
 | .normal,s=>BR s rs r
 | .ret,s=>BR s rs r
 | _,_=>False

def NT(tmps:Array Value):ResultVar→Sem Value
 | .tmp t=>pure (tmps.getD t undef)
 | .cell i t=>do loadVar t (← asAddr (tmps.getD i undef))
theorem Z0(fn:Func)(tmps:Array Value):results fn tmps=(do let vs ← fn.results.mapM (NT tmps);pure (if h:vs.size=1 then vs[0] else .tuple vs)):=by
 unfold results
 have:(fun x:ResultVar=>(match x with | .tmp t=>pure (tmps.getD t undef) | .cell i t=>do loadVar t (← asAddr (tmps.getD i undef)):Sem Value))=NT tmps:=by
  funext x
  cases x<;>rfl
 rw[← this]
 rfl
theorem UD{a:Act}{W:World}{U:Nat→Nat→Prop}{s:St}(h:Inv N W0 U0 M a W U s){x:ResultVar}{y:AR}{rest:List ResultVar}{ys:List AR}(hc:DU P (x::rest)=some (y::ys)){r:AV}(hr:Br s y r):
  DU P rest=some ys∧∃ v,(NT a.tmps x).run P W=.ok v W∧VR W U v r∧Own1 W U (fun g=>W0.heap.size≤g∨M g) v r∧(∀ e sz els,r=.sl (some e) sz els→∃ i,s.t i=some r∧v=a.tmps.getD i undef):=by
 cases x with
 | tmp t=>
  simp only[DU,BM,List.cons.injEq]at hc
  obtain ⟨ys',h1,rfl,rfl⟩:=hc
  exact ⟨h1,_,rfl,h.tv t r hr,h.ow (.t t) r hr,fun _ _ _ _=>⟨t,hr,rfl⟩⟩
 | cell i t=>
  simp only[DU]at hc
  split at hc
  ·rename_i n rs h1 h2
   simp only[Az,List.cons.injEq]at hc
   obtain ⟨rfl,rfl⟩:=hc
   obtain ⟨p,cs,hp,hv,hl⟩:=hr
   obtain ⟨b,off,f,he,e1,e2⟩:=T2 h (h.tv i p hp) hv
   obtain ⟨v,hrun,hvr,hpl⟩:=a0a (P:=P) h1 e1 e2 hl
   refine ⟨h2,v, ?_,hvr,Own1.plain hpl,fun e sz els he=>absurd he (hpl e sz els)⟩
   have hrun':(loadVar t ⟨b,off,none⟩).run P W=.ok v W:=by
    simpa[Instr.loadAt,Instr.sureAddr]using hrun
   simp[NT,he,asAddr,hrun']
  ·cases hc

theorem TC{a:Act}{W:World}{U:Nat→Nat→Prop}{s:St}(h:Inv N W0 U0 M a W U s){fn:Func}{ys:List AR}(hc:DU P fn.results.toList=some ys){r:AV}(hr:BR s ys r):
  ∃ v,(results fn a.tmps).run P W=.ok v W∧VR W U v r∧Own1 W U (fun g=>W0.heap.size≤g∨M g) v r∧(∀ e sz els,r=.sl (some e) sz els→∃ i,s.t i=some r∧v=a.tmps.getD i undef):=by
 have many:∀ (xs:List ResultVar) (ys:List AR) (rs:List AV),DU P xs=some ys→ys.length=rs.length→(∀ (i:Nat) (x:AR) (c:AV),ys[i]?=some x→rs[i]?=some c→∃ c',Br s x c'∧c=c'.alias)→
   ∃ vs:List Value,(xs.mapM (NT a.tmps)).run P W=.ok vs W∧vs.length=rs.length∧xs.length=rs.length∧
    ∀ (i:Nat) (v:Value) (c:AV),vs[i]?=some v→rs[i]?=some c→VR W U v c:=by
  intro xs
  induction xs with
  | nil=>
   intro ys rs h1 h2 _
   simp only[DU,Az]at h1
   subst h1
   have:rs=[]:=Dn h2.symm
   subst this
   exact ⟨[],rfl,rfl,rfl,fun i v c hv=>by simp at hv⟩
  | cons x xs ih=>
   intro ys rs h1 h2 h3
   cases ys with
   | nil=>cases x<;>simp[DU]at h1;split at h1<;>simp at h1
   | cons y ys=>
    cases rs with
    | nil=>simp at h2
    | cons c rs=>
     obtain ⟨c',q1,rfl⟩:=h3 0 y c rfl rfl
     obtain ⟨q2,v,q3,q4,_,_⟩:=UD h h1 q1
     obtain ⟨vs,q5,q6,q7,q8⟩:=ih ys rs q2 (by simpa using h2) (fun i x c hx hc'=>h3 (i+1) x c (by simpa using hx) (by simpa using hc'))
     refine ⟨v::vs, ?_,by simp[q6],by simp[q7],fun i u d hu hd=>?_⟩
     ·simp only[List.mapM_cons,Sem.run_bind,q3,Result.andThen_ok,q5]
      rfl
     ·cases i with
      | zero=>simp at hu hd;subst hu hd;exact q4.alias
      | succ i=>exact q8 i u d (by simpa using hu) (by simpa using hd)
 have hmany:(∃ rs:List AV,ys.length=rs.length∧(∀ (i:Nat) (x:AR) (c:AV),ys[i]?=some x→rs[i]?=some c→∃ c',Br s x c'∧c=c'.alias)∧r=.tup rs)→ys.length≠1→
   ∃ v,(results fn a.tmps).run P W=.ok v W∧VR W U v r∧Own1 W U (fun g=>W0.heap.size≤g∨M g) v r∧(∀ e sz els,r=.sl (some e) sz els→∃ i,s.t i=some r∧v=a.tmps.getD i undef):=by
  rintro ⟨rs,h1,h2,rfl⟩ hne
  obtain ⟨vs,q1,q2,q3,q4⟩:=many fn.results.toList ys rs hc h1 h2
  refine ⟨.tuple vs.toArray, ?_,.tup vs rs q2 q4,trivial,fun e sz els he=>by cases he⟩
  rw[Z0,Array.mapM_eq_mapM_toList]
  simp only[Sem.run_bind,Sem.run_map,q1,Result.andThen_ok]
  have:¬ vs.length=1:=by omega
  simp[this]
 match ys,hr with
 | [],hr=>exact hmany hr (by simp)
 | [y],hr=>
  cases hx:fn.results.toList with
  | nil=>rw[hx]at hc;simp[DU]at hc
  | cons x xs=>
   rw[hx]at hc
   obtain ⟨q1,v,q2,q3,q4,q5⟩:=UD h hc hr
   cases xs with
   | cons x' xs=>cases x'<;>simp[DU]at q1;split at q1<;>simp at q1
   | nil=>
    refine ⟨v, ?_,q3,q4,q5⟩
    rw[Z0,Array.mapM_eq_mapM_toList,hx]
    simp only[List.mapM_cons,List.mapM_nil,Sem.run_bind,Sem.run_map,q2,Result.andThen_ok]
    simp
 | _::_::_,hr=>exact hmany hr (by simp)

theorem a1I(hm:P.follows .mixedOrders=true){f:Nat}{fn:Func}{c:Code}{ac:ACode}{rs:List AR}{aS_:List AV}{r:AV}(hf:P.funcs[f]?=some fn)(hb:fn.body=some c)(hc:Cq P fn.ntmps c=some ac)(hr:DU P fn.results.toList=some rs)
  (hn:aS_.length≤fn.ntmps) (h:BK P ac (KJ rs r) (Ib aS_)):CP P f aS_ r:=by
 intro W U vs hG hl hv
 refine calls_of_wp hf hb ?_
 have hsz:(vs.toArray++Array.replicate (fn.ntmps - vs.toArray.size) undef).size=fn.ntmps:=by simp;omega
 have h0:Inv fn.ntmps W U (fun _=>False) { tmps:=vs.toArray++Array.replicate (fn.ntmps - vs.toArray.size) undef,defers:=[] } W U (Ib aS_):=by
  have hat:∀ {ℓ:Loc} {e sz:Nat} {els:List (List AV)},(Ib aS_).at ℓ≠some (.sl (some e) sz els):=by
   intro ℓ e sz els hl'
   cases ℓ with
   | t i=>
    simp only[St.at,Ib,Pp,Nat.zero_le,Bo,Nat.sub_zero,B7,BM]at hl'
    obtain ⟨x,_,hx⟩:=hl'
    exact FK x _ _ _ hx
   | o b j=>simp[St.at,Ib,lk]at hl'
  refine ⟨hsz,rfl,⟨rfl,rfl,rfl,A8 _,fun _ _ _=>rfl,fun _ _ _ _=>Iff.rfl,Keeps.refl _ _,hG,fun _ _ h=>h⟩,fun i v hi=>?_,fun b cs hb=>by simp[Ib,lk]at hb,fun ℓ v hl'=>?_,fun ℓ ℓ' e sz els e' sz' els' _ h1=>absurd h1 hat,fun ℓ e sz els h1=>absurd h1 hat⟩
  ·simp only[Ib,Pp,Nat.zero_le,Bo,Nat.sub_zero,B7,BM]at hi
   obtain ⟨x,hx,rfl⟩:=hi
   have hi':i<aS_.length:=(AM.1 hx).1
   have hget:(vs.toArray++Array.replicate (fn.ntmps - vs.toArray.size) undef).getD i undef=vs[i]:=by
    rw[Cu,HK (by simp;omega)]
    simp[show i<vs.length by omega]
   rw[hget]
   exact (hv i _ x (Aw (by omega)) hx).alias
  ·unfold Own1
   split
   ·exact absurd hl' hat
   ·trivial
 refine wp_mono (IA hm c ac _ _ W U _ hc h0 h) fun e a' w' hq=>?_
 have fin:∀ {U':Nat→Nat→Prop} {s:St},Inv fn.ntmps W U (fun _=>False) a' w' U' s→BR s rs r→a'.defers=[]∧∃ v,(results fn a'.tmps).run P w'=.ok v w'∧∃ v' U',Ending.returned v=.returned v'∧VR w' U' v' r∧Own1 w' U' (W.heap.size ≤ ·) v' r∧Ext W U w' U':=by
  intro U' s hi hres
  obtain ⟨v,q1,q2,q3,_⟩:=TC hi hr hres
  refine ⟨hi.df,v,q1,v,U',rfl,q2, ?_,⟨⟨hi.fr.os,hi.fr.tape,hi.fr.output,hi.fr.size,fun k hk=>hi.fr.block k hk id⟩,fun k hk=>hi.fr.u k hk id⟩⟩
  unfold Own1 at *
  split at q3
  ·rcases q3 with q3 | ⟨g,cap,cur,p1,p2,p3⟩
   ·exact .inl q3
   ·exact .inr ⟨g,cap,cur,p1,p2.resolve_right id,p3⟩
  ·trivial
 cases e with
 | normal=>obtain ⟨U',s,hi,hres⟩:=hq;exact fin hi hres
 | ret=>obtain ⟨U',s,hi,hres⟩:=hq;exact fin hi hres
 | exit id=>obtain ⟨U',s,hi,hres⟩:=hq;exact hres.elim
 | _=>exact hq.elim
theorem QM(hm:P.follows .mixedOrders=true){f n:Nat}{fn:Func}{ac:ACode}{rs:List AR}(hf:P.funcs[f]?=some fn)(hc:fn.body.bind (Cq P fn.ntmps)=some ac)(hr:DU P fn.results.toList=some rs)(hn:fn.ntmps=n):
  ∀ (aS_:List AV) (r:AV),aS_.length≤n→BK P ac (KJ rs r) (Ib aS_)→CP P f aS_ r:=by
 intro aS_ r hl h
 cases hb:fn.body with
 | none=>simp[hb]at hc
 | some c=>
  rw[hb]at hc
  exact a1I hm hf hb hc hr (by omega) h

def Ga(s:St)(rs:List AR)(o1:Nat→Option (List AV))(Q:AV→(Nat→Option (List AV))→Prop):Prop:=
 ∃ r,BR s rs r∧∃ o2,(∀ b cs,o2 b=some cs→s.o b=some cs)∧(∀ b cs,o1 b=some cs→∃ cs',o2 b=some cs')∧Q r o2
def Mg(rs:List AR)(o1:Nat→Option (List AV))(Q:AV→(Nat→Option (List AV))→Prop):AExit→St→Prop
 | .normal,s=>Ga s rs o1 Q
 | .ret,s=>Ga s rs o1 Q
 | _,_=>False
theorem Inv.res{a:Act}{W:World}{U:Nat→Nat→Prop}{s:St}(h:Inv N W0 U0 M a W U s){o2:Nat→Option (List AV)}(ho:∀ b cs,o2 b=some cs→s.o b=some cs){v:Value}{r:AV}(hv:VR W U v r)
  (hown:∀ e sz els,r=.sl (some e) sz els→∃ i,s.t i=some r∧v=a.tmps.getD i undef):Inv 1 W0 U0 M { tmps := #[v],defers:=[] } W U ⟨upd (fun _=>none) 0 (some r),o2⟩:=by
 have hat:∀ {ℓ:Loc} {e sz:Nat} {els:List (List AV)},St.at ⟨upd (fun _=>none) 0 (some r),o2⟩ ℓ=some (.sl (some e) sz els)→
   ∃ ℓ',s.at ℓ'=some (.sl (some e) sz els)∧AQ { tmps := #[v],defers:=[] } W ℓ=AQ a W ℓ'∧((ℓ=.t 0∧∃ i,ℓ'=.t i)∨(∃ b j,ℓ=.o b j∧ℓ'=.o b j)):=by
  intro ℓ e sz els hl
  cases ℓ with
  | t i=>
   simp only[St.at,upd]at hl
   by_cases hi:i=0
   ·subst hi
    simp only[Bo,Az]at hl
    obtain ⟨k,h1,h2⟩:=hown e sz els hl
    exact ⟨.t k,by rw[← hl];exact h1,h2,.inl ⟨rfl,k,rfl⟩⟩
   ·simp[hi]at hl
  | o b j=>
   refine ⟨.o b j, ?_,rfl,.inr ⟨b,j,rfl,rfl⟩⟩
   simp only[St.at,F9]at hl ⊢
   obtain ⟨cs,h1,h2⟩:=hl
   exact ⟨cs,ho b cs h1,h2⟩
 refine ⟨rfl,rfl,h.fr,fun i x hx=>?_,fun b cs hb=>h.ob b cs (ho b cs hb),fun ℓ x hx=>?_,fun ℓ ℓ' e sz els e' sz' els' hne h1 h2=>?_,fun ℓ e sz els h1 g hg=>?_⟩
 ·simp only[upd]at hx
  by_cases hi:i=0
  ·subst hi
   simp only[Bo,Az]at hx
   exact hx▸hv
  ·simp[hi]at hx
 ·unfold Own1
  split
  ·obtain ⟨ℓ',g1,g2,_⟩:=hat hx
   rw[g2]
   exact h.own g1
  ·trivial
 ·obtain ⟨k,g1,g2,g3⟩:=hat h1
  obtain ⟨k',g4,g5,g6⟩:=hat h2
  rw[g2,g5]
  refine h.ap k k' _ _ _ _ _ _ ?_ g1 g4
  rintro rfl
  rcases g3 with ⟨rfl,i,rfl⟩ | ⟨b,j,rfl,rfl⟩<;>rcases g6 with ⟨rfl,i',g6⟩ | ⟨b',j',rfl,g6⟩
  ·exact hne rfl
  ·cases g6
  ·cases g6
  ·cases g6;exact hne rfl
 ·obtain ⟨k,g1,g2,_⟩:=hat h1
  rw[g2]at hg
  have:=h.no k _ _ _ g1 g hg
  cases h3:o2 g with
  | none=>exact h3
  | some cs=>rw[ho g cs h3]at this;cases this

theorem Inv.enter{W:World}{U:Nat→Nat→Prop}{fn:Func}{aS_:List AV}{o1:Nat→Option (List AV)}{vs:List Value}(hn:aS_.length≤fn.ntmps)(hl:vs.length=aS_.length)
  (hv:∀ (i:Nat) (v:Value) (c:AV),vs[i]?=some v→aS_[i]?=some c→VR W U v c) (h1:Inv 0 W U (CO W o1) { tmps := #[],defers:=[] } W U ⟨fun _=>none,o1⟩):
  Inv fn.ntmps W U (CO W o1) { tmps:=vs.toArray++Array.replicate (fn.ntmps - vs.toArray.size) undef,defers:=[] } W U ⟨lk (num 0 (aS_.map AV.alias)),o1⟩:=by
 have hsz:(vs.toArray++Array.replicate (fn.ntmps - vs.toArray.size) undef).size=fn.ntmps:=by simp;omega
 have hatt:∀ {i:Nat} {e sz:Nat} {els:List (List AV)},lk (num 0 (aS_.map AV.alias)) i≠some (.sl (some e) sz els):=by
  intro i e sz els hl'
  simp only[Pp,Nat.zero_le,Bo,Nat.sub_zero,B7,BM]at hl'
  obtain ⟨x,_,hx⟩:=hl'
  exact FK x _ _ _ hx
 have hato:∀ {ℓ:Loc} {e sz:Nat} {els:List (List AV)},St.at ⟨lk (num 0 (aS_.map AV.alias)),o1⟩ ℓ=some (.sl (some e) sz els)→(∃ b j,ℓ=.o b j)∧St.at ⟨fun _=>none,o1⟩ ℓ=some (.sl (some e) sz els):=by
  intro ℓ e sz els hl'
  cases ℓ with
  | t i=>exact absurd hl' hatt
  | o b j=>exact ⟨⟨b,j,rfl⟩,hl'⟩
 refine ⟨hsz,rfl,h1.fr,fun i v hi=>?_,h1.ob,fun ℓ v hl'=>?_,fun ℓ ℓ' e sz els e' sz' els' hne q1 q2=>?_,fun ℓ e sz els q1 g hg=>?_⟩
 ·simp only[Pp,Nat.zero_le,Bo,Nat.sub_zero,B7,BM]at hi
  obtain ⟨x,hx,rfl⟩:=hi
  have hi':i<aS_.length:=(AM.1 hx).1
  have hget:(vs.toArray++Array.replicate (fn.ntmps - vs.toArray.size) undef).getD i undef=vs[i]:=by
   rw[Cu,HK (by simp;omega)]
   simp[show i<vs.length by omega]
  rw[hget]
  exact (hv i _ x (Aw (by omega)) hx).alias
 ·unfold Own1
  split
  ·obtain ⟨⟨b,j,rfl⟩,q⟩:=hato hl'
   exact h1.own q
  ·trivial
 ·obtain ⟨⟨b,j,rfl⟩,q3⟩:=hato q1
  obtain ⟨⟨b',j',rfl⟩,q4⟩:=hato q2
  exact h1.ap _ _ _ _ _ _ _ _ hne q3 q4
 ·obtain ⟨⟨b,j,rfl⟩,q3⟩:=hato q1
  exact h1.no _ _ _ _ q3 g hg
theorem a1L(hm:P.follows .mixedOrders=true){f:Nat}{fn:Func}{c:Code}{ac:ACode}{rs:List AR}{aS_:List AV}{o1:Nat→Option (List AV)}{Q:AV→(Nat→Option (List AV))→Prop}(hf:P.funcs[f]?=some fn)(hb:fn.body=some c)(hc:Cq P fn.ntmps c=some ac)(hr:DU P fn.results.toList=some rs)
  (hn:aS_.length≤fn.ntmps) (h:BK P ac (Mg rs o1 Q) ⟨lk (num 0 (aS_.map AV.alias)),o1⟩):CT P f aS_ o1 Q:=by
 intro W U vs hl hv h1
 refine calls_of_wp hf hb ?_
 have h0:=Inv.enter hn hl hv h1
 refine wp_mono (IA hm c ac _ _ W U _ hc h0 h) fun e a' w' hq=>?_
 have fin:∀ {U':Nat→Nat→Prop} {s:St},Inv fn.ntmps W U (CO W o1) a' w' U' s→Ga s rs o1 Q→a'.defers=[]∧∃ v,(results fn a'.tmps).run P w'=.ok v w'∧
   ∃ v' U' r o',Ending.returned v=.returned v'∧Q r o'∧(∀ b cs,o1 b=some cs→∃ cs',o' b=some cs')∧Inv 1 W U (CO W o1) { tmps := #[v'],defers:=[] } w' U' ⟨upd (fun _=>none) 0 (some r),o'⟩:=by
  rintro U' s hi ⟨r,hres,o2,ho2,hdom,hQ⟩
  obtain ⟨v,q1,q2,q3,q4⟩:=TC hi hr hres
  exact ⟨hi.df,v,q1,v,U',r,o2,rfl,hQ,hdom,hi.res ho2 q2 q4⟩
 cases e with
 | normal=>obtain ⟨U',s,hi,hres⟩:=hq;exact fin hi hres
 | ret=>obtain ⟨U',s,hi,hres⟩:=hq;exact fin hi hres
 | exit id=>obtain ⟨U',s,hi,hres⟩:=hq;exact hres.elim
 | _=>exact hq.elim
theorem a1M(hm:P.follows .mixedOrders=true){f n:Nat}{fn:Func}{ac:ACode}{rs:List AR}(hf:P.funcs[f]?=some fn)(hc:fn.body.bind (Cq P fn.ntmps)=some ac)(hr:DU P fn.results.toList=some rs)(hn:fn.ntmps=n):
  ∀ (aS_:List AV) (o1:Nat→Option (List AV)) (Q:AV→(Nat→Option (List AV))→Prop),aS_.length≤n→BK P ac (Mg rs o1 Q) ⟨lk (num 0 (aS_.map AV.alias)),o1⟩→CT P f aS_ o1 Q:=by
 intro aS_ o1 Q hl h
 cases hb:fn.body with
 | none=>simp[hb]at hc
 | some c=>
  rw[hb]at hc
  exact a1L hm hf hb hc hr (by omega) h
end
section
open Go.RowKit
def MR(o:Nat→Option (List AV)):AV→AV→Prop
 | .hsl g _ sz n cap,r=>∃ els,o g=some (hc sz cap els)∧(∀ x∈els,x.length=sz)∧n≤els.length∧r=.sl none sz (els.take n)
 | .hss g sz a m,r=>∃ cap els,o g=some (hc sz cap els)∧(∀ x∈els,x.length=sz)∧a+m≤els.length∧r=.sl none sz ((els.drop a).take m)
 | .hnil _ sz,r=>r=.sl none sz []
 | .osl b off n,r=>∃ cs,o b=some cs∧off+n≤cs.length∧r=.sl none 1 (((cs.drop off).take n).map fun c=>[c])
 | .mapv b,r=>r=.mapv b∨∃ ks vs bs clk,o b=some [.mp ks vs bs clk]∧r=.rom ks vs
 | a,r=>r=a
def MS(o:Nat→Option (List AV)):AV→AV→Prop
 | .ptr b off,r=>r=.ptr b off∨∃ cs ds,o b=some cs∧off=0∧cs.length=ds.length∧(∀ (i:Nat) (c d:AV),cs[i]?=some c→ds[i]?=some d→∃ d',MR o c d'∧d=d'.alias)∧r=.ro ds
 | a,r=>MR o a r
def MU(o:Nat→Option (List AV)):AV→AV→Prop
 | .agg cs,r=>∃ ds,cs.length=ds.length∧(∀ (i:Nat) (c d:AV),cs[i]?=some c→ds[i]?=some d→MS o c d)∧r=.agg ds
 | a,r=>MS o a r
def K3(o:Nat→Option (List AV)):AV→AV→Prop
 | .tup cs,r=>∃ ds,cs.length=ds.length∧(∀ (i:Nat) (c d:AV),cs[i]?=some c→ds[i]?=some d→MU o c d)∧r=.tup ds
 | a,r=>MU o a r
section
variable {W:World} {U U':Nat→Nat→Prop} {o3:Nat→Option (List AV)} (hob:∀ b cs,o3 b=some cs→ObR W U b cs) (hk:Keeps W U W U') (hU:∀ b cs,o3 b=some cs→∀ i, ¬ U' b i)
include hob hk hU
theorem Xu{g:Nat}{cs:List AV}(hg:o3 g=some cs)(hm:DR W g):
  ∃ f:Nat→Value,(∀ p,p<cs.length→W.cell? ⟨g,p,none⟩=some (f p)∧(f p).oneCell'=true∧¬ U' g p)∧∀ (p:Nat) (c:AV),cs[p]?=some c→VR W U' (f p) c:=by
 obtain ⟨vs,ty,h1,h2,h3⟩:=(hob g cs hg).to hm
 refine ⟨fun p=>vs.getD p undef,fun p hp=>⟨?_,(h3 p cs[p] (Aw hp)).2,hU g cs hg p⟩,fun p c hc=>(h3 p c hc).1.keep hk⟩
 rw[cell_of_row W g p vs ty (0,0) h1]
 have:p<vs.size:=by omega
 simp[this]
theorem Xv{g sz cap a m cap':Nat}{A:Option Addr}{els:List (List AV)}(hg:o3 g=some (hc sz cap els))(hm:DR W g)(hs:∀ x∈els,x.length=sz)(hn:a+m≤els.length)(h1:m≤cap')(h2:cap'≤maxLen)
  (hA:0<m→A=some ⟨g,a * sz,none⟩):VR W U' (.slice A m cap') (.sl none sz ((els.drop a).take m)):=by
 obtain ⟨f,f1,f2⟩:=Xu hob hk hU hg hm
 have hl:((els.drop a).take m).length=m:=by simp;omega
 have hb:∀ i j,i<m→j<sz→a * sz+i * sz+j=(a+i) * sz+j∧(a+i) * sz+j<(hc sz cap els).length:=fun i j hi hj=>by
  rw[IJ hs]
  have h3:=Dq sz (show a+i+1≤max cap els.length by omega)
  rw[Bp _ 1,F7]at h3
  rw[Bp];rw[Bp]at h3
  omega
 have:=VR.sl (W:=W) (U:=U') A cap' none ((els.drop a).take m) g (a * sz) sz (fun i j=>f ((a+i) * sz+j)) (by omega) h2 (fun h=>hA (by omega)) (fun e he=>hs e (EY (EZ he)))
  (fun i j hi hj=>by
   obtain ⟨e1,e2⟩:=hb i j (by omega) hj
   rw[e1];exact f1 _ e2)
  (fun i e j c he hc'=>by
   have hi:i<m:=by
    have:=(AM.1 he).1;omega
   rw[CW hi,CC]at he
   have hj:j<sz:=by
    have h4:=(AM.1 hc').1
    rw[hs e (Dd he)]at h4;exact h4
   refine f2 _ c ?_
   rw[Ge hs he hj];exact hc')
 rwa [hl]at this
theorem Xy{v:Value}{a r:AV}(hv:VR W U v a)(h:MR o3 a r):VR W U' v r:=by
 unfold MR at h
 split at h
 ·rename_i g e sz n cap
  obtain ⟨els,ho,hs,hn,rfl⟩:=h
  cases hv with
  | hsl _ _ _ _ _ h1 h2 hm=>
   have:=Xv hob hk hU (a:=0) (A:=some ⟨g,0,none⟩) ho (let ⟨c,fr,e⟩:=hm; ⟨c,_,fr,e⟩) hs (by omega) h1 h2 (fun _=>by simp)
   simpa using this
 ·obtain ⟨cap,els,ho,hs,hn,rfl⟩:=h
  cases hv with
  | hss _ _ _ _ _ _ h1 h2 hA hm=>exact Xv hob hk hU ho hm hs hn h1 h2 hA
 ·subst h
  cases hv;exact VR.nil none _
 ·rename_i b off n
  obtain ⟨cs,ho,hn,rfl⟩:=h
  cases hv with
  | osl _ _ _ cap h1 h2 hm=>
   obtain ⟨f,f1,f2⟩:=Xu hob hk hU ho hm
   have hl:(((cs.drop off).take n).map fun c=>[c]).length=n:=by simp;omega
   have:=VR.sl (W:=W) (U:=U') (some ⟨b,off,none⟩) cap none (((cs.drop off).take n).map fun c=>[c]) b off 1 (fun i j=>f (off+i)) (by omega) h2 (fun _=>rfl) (fun e he=>by
     obtain ⟨c,_,rfl⟩:=Dp.1 he;rfl)
    (fun i j hi hj=>by
     have:=f1 (off+i) (by omega)
     rwa [show off+i * 1+j=off+i by omega])
    (fun i e j c he hc'=>by
     have hi:i<n:=by
      have:=(AM.1 he).1;omega
     rw[B7,CW hi,CC,BM]at he
     obtain ⟨c0,h3,rfl⟩:=he
     have hj:j=0:=by
      have:=(AM.1 hc').1;simp at this;omega
     subst hj
     simp only[G5,Az]at hc'
     subst hc'
     exact f2 _ _ h3)
   rwa [hl]at this
 ·rename_i b
  rcases h with rfl | ⟨ks,vs,bs,clk,ho,rfl⟩
  ·exact hv.keep hk
  ·cases hv with
   | mapv=>
    obtain ⟨es,g1,g2,g3,g4,g5,g6,g7⟩:=hob _ _ ho
    exact .rom b es clk ks vs g1 (hU _ _ ho 0) g2 g3 (fun i e k h1 h2=>((g7 i e h1).1 k h2).keep hk) (fun i e v h1 h2=>((g7 i e h1).2.1 v h2).keep hk)
 ·subst h;exact hv.keep hk
theorem Xz{v:Value}{a r:AV}(hv:VR W U v a)(h:MS o3 a r):VR W U' v r:=by
 unfold MS at h
 split at h
 ·rename_i b off
  rcases h with rfl | ⟨cs,ds,ho,rfl,hl,hd,rfl⟩
  ·exact hv.keep hk
  ·cases hv with
   | ptr _ _ hm=>
    obtain ⟨vs,ty,h1,h2,h3⟩:=(hob b cs ho).to hm
    refine .ro b 0 ds (fun p=>vs.getD p undef) (fun p hp=>⟨?_, ?_, ?_⟩) (fun p d hd'=>?_)
    ·rw[AH,cell_of_row W b p vs ty (0,0) h1]
     have:p<vs.size:=by omega
     simp[this]
    ·exact (h3 p _ (Aw (show p<cs.length by omega))).2
    ·exact hU b cs ho _
    ·have hp:p<ds.length:=(AM.1 hd').1
     have hc:=Aw (show p<cs.length by omega)
     obtain ⟨d',e1,rfl⟩:=hd p _ d hc hd'
     exact (Xy hob hk hU (h3 p _ hc).1 e1).alias
 ·exact Xy hob hk hU hv h
theorem XA{v:Value}{a r:AV}(hv:VR W U v a)(h:MU o3 a r):VR W U' v r:=by
 unfold MU at h
 split at h
 ·rename_i cs
  obtain ⟨ds,hl,hd,rfl⟩:=h
  cases hv with
  | agg vs _ hl' h' h1=>
   refine .agg vs ds (by omega) (fun i u d hu hd'=>?_) h1
   have hi:i<vs.length:=(AM.1 hu).1
   have hc:=Aw (show i<cs.length by omega)
   exact Xz hob hk hU (h' i u _ hu hc) (hd i _ d hc hd')
 ·exact Xz hob hk hU hv h
theorem a3N{v:Value}{a r:AV}(hv:VR W U v a)(h:K3 o3 a r):VR W U' v r:=by
 unfold K3 at h
 split at h
 ·rename_i cs
  obtain ⟨ds,hl,hd,rfl⟩:=h
  cases hv with
  | tup vs _ hl' h'=>
   refine .tup vs ds (by omega) (fun i u d hu hd'=>?_)
   have hi:i<vs.length:=(AM.1 hu).1
   have hc:=Aw (show i<cs.length by omega)
   exact XA hob hk hU (h' i u _ hu hc) (hd i _ d hc hd')
 ·exact XA hob hk hU hv h
end
theorem a3O{o3:Nat→Option (List AV)}{a:AV}{e sz:Nat}{els:List (List AV)}(h:K3 o3 a (.sl (some e) sz els)):a=.sl (some e) sz els:=by
 unfold K3 at h
 split at h
 ·obtain ⟨ds,_,_,h⟩:=h;cases h
 unfold MU at h
 split at h
 ·obtain ⟨ds,_,_,h⟩:=h;cases h
 unfold MS at h
 split at h
 ·rcases h with h | ⟨_,_,_,_,_,_,h⟩<;>cases h
 unfold MR at h
 split at h
 ·obtain ⟨_,_,_,_,h⟩:=h;cases h
 ·obtain ⟨_,_,_,_,_,h⟩:=h;cases h
 ·cases h
 ·obtain ⟨_,_,_,h⟩:=h;cases h
 ·rcases h with h | ⟨_,_,_,_,_,h⟩<;>cases h
 ·exact h.symm
def O6(U:Nat→Nat→Prop)(o3:Nat→Option (List AV)):Nat→Nat→Prop:=fun k i=>o3 k=none∧U k i
theorem Xw(W:World)(U:Nat→Nat→Prop)(o3:Nat→Option (List AV)):Keeps W U W (O6 U o3):=⟨fun _ _ _ h hu=>⟨h,fun h2=>hu h2.2⟩,fun _ _ h=>h,fun _ _ _ h hu=>⟨h,fun h2=>hu h2.2⟩⟩
def LL(o o3:Nat→Option (List AV)):Nat→Option (List AV):=fun b=>if (o3 b).isNone then o b else none
variable {N:Nat} {W0:World} {U0:Nat→Nat→Prop} {M:Nat→Prop} {P:Program}
theorem Inv.frz{a:Act}{W:World}{U:Nat→Nat→Prop}{s:St}(h:Inv N W0 U0 M a W U s){o3:Nat→Option (List AV)}(h3:∀ b cs,o3 b=some cs→s.o b=some cs):
  Inv N W0 U0 M a W (O6 U o3) ⟨s.t,LL s.o o3⟩:=by
 have hk:=Xw W U o3
 have hnone:∀ b,s.o b=none→o3 b=none:=fun b hb=>by
  cases h4:o3 b with
  | none=>rfl
  | some cs=>rw[h3 b cs h4]at hb;cases hb
 have hat:∀ {ℓ v},St.at ⟨s.t,LL s.o o3⟩ ℓ=some v→s.at ℓ=some v:=by
  intro ℓ v hl
  cases ℓ with
  | t i=>exact hl
  | o b j=>
   simp only[St.at,LL,F9]at hl ⊢
   obtain ⟨cs,e1,e2⟩:=hl
   split at e1
   ·exact ⟨cs,e1,e2⟩
   ·cases e1
 refine ⟨h.sz,h.df,⟨h.fr.os,h.fr.tape,h.fr.output,h.fr.size,h.fr.block,fun k hk2 hM o=>?_,h.fr.keeps.trans hk,h.fr.g0,h.fr.gm⟩,fun i v hi=>(h.tv i v hi).keep hk,fun b cs hb=>?_,fun ℓ v hl=>?_,fun ℓ ℓ' e sz els e' sz' els' hne q1 q2=>h.ap ℓ ℓ' _ _ _ _ _ _ hne (hat q1) (hat q2),fun ℓ e sz els q g hg=>?_⟩
 ·have:o3 k=none:=by
   cases h4:o3 k with
   | none=>rfl
   | some cs=>
    rcases (h.ob k cs (h3 k cs h4)).2.2 with q|q
    ·omega
    ·exact absurd q hM
  rw[← h.fr.u k hk2 hM o]
  exact ⟨fun q=>q.2,fun q=>⟨this,q⟩⟩
 ·simp only[LL]at hb
  split at hb
  ·rename_i hn
   obtain ⟨q1,q2,q3⟩:=h.ob b cs hb
   exact ⟨q1.move hk rfl,fun o=>⟨by simpa using hn,q2 o⟩,q3⟩
  ·cases hb
 ·have hl':=hat hl
  have hw:=h.ow ℓ v hl'
  unfold Own1 at hw ⊢
  split at hw
  ·rename_i e sz els
   rcases hw with hw | ⟨g,cap,cur,p1,p2,p3,p4,p5,p6,p7,p8⟩
   ·exact .inl hw
   ·refine .inr ⟨g,cap,cur,p1,p2,p3,p4,p5,p6,fun o ho q=>p7 o ho q.2,fun o ho=>⟨hnone g ?_,p8 o ho⟩⟩
    exact h.no ℓ e sz els hl' g (by rw[p1];simp[Value.ownBlock])
  ·trivial
 ·have:=h.no ℓ e sz els (hat q) g hg
  simp only[LL]
  split
  ·exact this
  ·rfl
def J8(s:St)(rs:List AR)(o1:Nat→Option (List AV))(Q:AV→(Nat→Option (List AV))→Prop):Prop:=
 ∃ r0,BR s rs r0∧∃ o2 o3:Nat→Option (List AV),(∀ b cs,o2 b=some cs→s.o b=some cs∧o3 b=none)∧(∀ b cs,o3 b=some cs→s.o b=some cs)∧(∀ b cs,o1 b=some cs→∃ cs',o2 b=some cs')∧∃ r,K3 o3 r0 r∧Q r o2
def Mh(rs:List AR)(o1:Nat→Option (List AV))(Q:AV→(Nat→Option (List AV))→Prop):AExit→St→Prop
 | .normal,s=>J8 s rs o1 Q
 | .ret,s=>J8 s rs o1 Q
 | _,_=>False
theorem r3_n{rs:List AR}{o1:Nat→Option (List AV)}{Q:AV→(Nat→Option (List AV))→Prop}{s:St}:Mh rs o1 Q .normal s=J8 s rs o1 Q:=rfl
theorem r3_r{rs:List AR}{o1:Nat→Option (List AV)}{Q:AV→(Nat→Option (List AV))→Prop}{s:St}:Mh rs o1 Q .ret s=J8 s rs o1 Q:=rfl
theorem r3_e{rs:List AR}{o1:Nat→Option (List AV)}{Q:AV→(Nat→Option (List AV))→Prop}{s:St}{id:Nat}:Mh rs o1 Q (.exit id) s=False:=rfl
theorem a1O(hm:P.follows .mixedOrders=true){f:Nat}{fn:Func}{c:Code}{ac:ACode}{rs:List AR}{aS_:List AV}{o1:Nat→Option (List AV)}{Q:AV→(Nat→Option (List AV))→Prop}(hf:P.funcs[f]?=some fn)(hb:fn.body=some c)(hc:Cq P fn.ntmps c=some ac)(hr:DU P fn.results.toList=some rs)
  (hn:aS_.length≤fn.ntmps) (h:BK P ac (Mh rs o1 Q) ⟨lk (num 0 (aS_.map AV.alias)),o1⟩):CT P f aS_ o1 Q:=by
 intro W U vs hl hv h1
 refine calls_of_wp hf hb ?_
 refine wp_mono (IA hm c ac _ _ W U _ hc (Inv.enter hn hl hv h1) h) fun e a' w' hq=>?_
 have fin:∀ {U':Nat→Nat→Prop} {s:St},Inv fn.ntmps W U (CO W o1) a' w' U' s→J8 s rs o1 Q→a'.defers=[]∧∃ v,(results fn a'.tmps).run P w'=.ok v w'∧
   ∃ v' U' r o',Ending.returned v=.returned v'∧Q r o'∧(∀ b cs,o1 b=some cs→∃ cs',o' b=some cs')∧Inv 1 W U (CO W o1) { tmps := #[v'],defers:=[] } w' U' ⟨upd (fun _=>none) 0 (some r),o'⟩:=by
  rintro U' s hi ⟨r0,hres,o2,o3,ho2,ho3,hdom,r,hz,hQ⟩
  obtain ⟨v,q1,q2,q3,q4⟩:=TC hi hr hres
  have hv':VR w' (O6 U' o3) v r:=a3N (fun b cs hb=>(hi.ob b cs (ho3 b cs hb)).1) (Xw w' U' o3) (fun b cs hb i q=>by have q':=q.1;rw[hb]at q';cases q') q2 hz
  refine ⟨hi.df,v,q1,v,O6 U' o3,r,o2,rfl,hQ,hdom,(hi.frz ho3).res (fun b cs hb=>?_) hv' fun e sz els he=>?_⟩
  ·obtain ⟨e1,e2⟩:=ho2 b cs hb
   simp[LL,e1,e2]
  ·subst he
   obtain rfl:=a3O hz
   exact q4 e sz els rfl
 cases e with
 | normal=>obtain ⟨U',s,hi,hres⟩:=hq;exact fin hi hres
 | ret=>obtain ⟨U',s,hi,hres⟩:=hq;exact fin hi hres
 | exit id=>obtain ⟨U',s,hi,hres⟩:=hq;exact hres.elim
 | _=>exact hq.elim
def MY(P:Program)(ac:ACode)(rs:List AR)(f n:Nat):Prop:=∀ (aS_:List AV) (o1:Nat→Option (List AV)) (Q:AV→(Nat→Option (List AV))→Prop),aS_.length≤n→BK P ac (Mh rs o1 Q) ⟨lk (num 0 (aS_.map AV.alias)),o1⟩→CT P f aS_ o1 Q
theorem QN(hm:P.follows .mixedOrders=true){f n:Nat}{fn:Func}{ac:ACode}{rs:List AR}(hf:P.funcs[f]?=some fn)(hc:fn.body.bind (Cq P fn.ntmps)=some ac)(hr:DU P fn.results.toList=some rs)(hn:fn.ntmps=n):MY P ac rs f n:=by
 intro aS_ o1 Q hl h
 cases hb:fn.body with
 | none=>simp[hb]at hc
 | some c=>
  rw[hb]at hc
  exact a1O hm hf hb hc hr (by omega) h
theorem a1J{f:Nat}{aS_:List AV}{r:AV}(h:CT P f aS_ (fun _=>none) (fun r' _=>r'=r)):CP P f aS_ r:=by
 intro W U vs hG hl hv
 have hM:∀ k, ¬ CO W (fun _=>none) k:=by
  rintro k (⟨cs,e⟩ | ⟨b,j,e,sz,els,h1,_⟩)
  ·cases e
  ·simp[St.at]at h1
 have h0:Inv 0 W U (CO W (fun _=>none)) { tmps := #[],defers:=[] } W U ⟨fun _=>none,fun _=>none⟩:=by
  have hat:∀ {ℓ v},St.at ⟨fun _=>none,fun _=>none⟩ ℓ≠some v:=by
   intro ℓ v hl'
   cases ℓ<;>simp[St.at]at hl'
  exact ⟨rfl,rfl,⟨rfl,rfl,rfl,A8 _,fun _ _ _=>rfl,fun _ _ _ _=>Iff.rfl,Keeps.refl _ _,hG,fun _ _=>hM _⟩,fun i v hi=>(by cases hi),fun b cs hb=>(by cases hb),fun ℓ v hl'=>absurd hl' hat,fun ℓ _ _ _ _ _ _ _ _ h1=>absurd h1 hat,fun ℓ _ _ _ h1=>absurd h1 hat⟩
 refine (h W U vs hl hv h0).mono ?_
 rintro e W' ⟨v,U',r',o',rfl,rfl,_,hI⟩
 refine ⟨v,U',rfl,hI.tv 0 _ (by simp[upd]), ?_,⟨⟨hI.fr.os,hI.fr.tape,hI.fr.output,hI.fr.size,fun k hk=>hI.fr.block k hk (hM k)⟩,fun k hk=>hI.fr.u k hk (hM k)⟩⟩
 have hw:=hI.ow (.t 0) r' (by simp[St.at,upd])
 unfold Own1 at hw ⊢
 split at hw
 ·rcases hw with hw | ⟨g,cap,cur,p1,p2,p3⟩
  ·exact .inl hw
  ·exact .inr ⟨g,cap,cur,p1,p2.resolve_right (hM g),p3⟩
 ·trivial
theorem b0G{s:St}{rs:List AR}{o3:List (Nat × List AV)}{r0 r:AV}(h:BR s rs r0)(h3:∀ b cs,lk o3 b=some cs→s.o b=some cs)(hz:K3 (lk o3) r0 r):J8 s rs (fun _=>none) (fun r' _=>r'=r):=
 ⟨r0,h,fun _=>none,lk o3,fun _ _ e=>(by cases e),h3,fun _ _ e=>(by cases e),r,hz,rfl⟩
end
end Go.Proofs.YtfgihnhoocnmdaaGreatDoor
