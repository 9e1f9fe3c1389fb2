import Derived.Test.YtfgihnhoocnmdaaGreatDoorK7
namespace Go.Proofs.YtfgihnhoocnmdaaGreatDoor
set_option linter.all false
set_option maxHeartbeats 9000000
section
open Go.RowKit

def b6d(P:Program)(ops:Array Oper):Bool:=ops.any fun o=>o.guard.isNone&&(match o.op with
 | .call c=>match c.callee with
  | .value (.func _)=>c.argTypes.any (objT P)
  | _=>false
 | _=>false)
def b9c(P:Program)(ops:Array Oper):Bool:=ops.any fun o=>o.guard.isNone&&(match o.op with
 | .call c=>match c.callee with
  | .value (.func f)=>((P.funcs[f]?).map fun fn=>fn.resultTypes.any (objT P)).getD false
  | _=>false
 | _=>false)
def b2v(P:Program)(N:Nat)(ops:Array Oper)(draw:Bool)(R lim:Nat):Option ACode:=
 match a7E P R ops.toList ops.toList with
  | some As=>if (ops.toList.all (b0E N))&&(!draw||(As.all (fun A=>A.k.det||A.big)&&lexB ops ops.toList As 0)) then some (.reg As draw) else if (ops.toList.all (b0E N))&&draw&&As.all (fun A=>A.k.det||A.big)&&(b5q ops As ops.size (Array.replicate ops.size false) lim).isSome then some (.tree (a9b ops As ops.size (Array.replicate ops.size false))) else none
  | none=>none
def a1D(P:Program)(N:Nat):Code→Option ACode
 | .skip=>some .skip
 | .region _ ops draw=>if draw&&b6d P ops then (b2v P N ops draw 2 150).or ((b2v P N ops draw 1 150).or ((b2v P N ops draw 0 150).or ((b2v P N ops draw 1 320).or (if b9c P ops then b2v P N ops draw 4 150 else none)))) else if draw&&b9c P ops then (b2v P N ops draw 4 150).or (b2v P N ops draw 0 320) else if draw then (b2v P N ops draw 0 150).or (b2v P N ops draw 0 320) else b2v P N ops draw 1 150
 | .seq a b=>match a1D P N a,a1D P N b with
  | some x,some y=>some (.seq x y)
  | _,_=>none
 | .cond c a b=>match a0j c,a1D P N a,a1D P N b with
  | some c,some x,some y=>some (.cond c x y)
  | _,_,_=>none
 | .block id b=>(a1D P N b).map (.block id)
 | .loop b=>(a1D P N b).map .loop
 | .exit id=>some (.exit id)
 | .ret=>some .ret
 | _=>none

section
variable {P:Program} {N:Nat} {W0:World} {U0:Nat→Nat→Prop} {M:Nat→Prop}

theorem wp_loop_ix{α:Type}{c:Code}{Q:Exit→Act→World→Prop}(I:α→Act→World→Prop)(m:α→Nat){x0:α}{a:Act}{w:World}(h0:I x0 a w)
  (round:∀ x a w,I x a w→c.wp P (Exit.then (fun a' w'=>∃ x',I x' a' w'∧m x'<m x) Q) a w):(Code.loop c).wp P Q a w:=by
 intro b k cs
 have key:∀ n x a w,m x=n→I x a w→∃ e a' w',Q e a' w'∧Arrives P (lone (b.at a (.code c :: .inLoop c::k)) cs w) b k cs e a' w':=by
  intro n
  induction n using Nat.strongRecOn with
  | _ n ih=>
   intro x a w hn hI
   obtain ⟨e,a₁,w₁,hq,harr⟩:=round x a w hI b (.inLoop c::k) cs
   cases e with
   | normal=>
    obtain ⟨x',hI₁,hlt⟩:=hq
    obtain ⟨e₂,a₂,w₂,hq₂,harr₂⟩:=ih (m x') (hn▸hlt) x' a₁ w₁ rfl hI₁
    exact ⟨e₂,a₂,w₂,hq₂,.of_steps (Steps.trans harr (.one step_inLoop)) harr₂⟩
   | exit id=>exact ⟨_,a₁,w₁,hq,.pass (x:=.inLoop c) rfl (fun _ _=>.inl (by simp)) harr⟩
   | goto l=>exact ⟨_,a₁,w₁,hq,.pass (x:=.inLoop c) rfl (fun _ _=>.inl (by simp)) harr⟩
   | ret=>exact ⟨_,a₁,w₁,hq,.pass (x:=.inLoop c) rfl (fun _ _=>.inl (by simp)) harr⟩
   | panic ch=>exact ⟨_,a₁,w₁,hq,.pass (x:=.inLoop c) rfl (fun _ _=>.inl (by simp)) harr⟩
   | outgrown=>exact ⟨_,a₁,w₁,hq,.pass (x:=.inLoop c) rfl (fun _ _=>.inl (by simp)) harr⟩
 obtain ⟨e,a',w',hq,harr⟩:=key _ x0 a w rfl h0
 exact ⟨e,a',w',hq,.of_steps (.one step_loop) harr⟩

def QR(N:Nat)(W0:World)(U0:Nat→Nat→Prop)(M:Nat→Prop)(Q:AExit→St→Prop):Exit→Act→World→Prop
 | .normal,a,w=>∃ U s,Inv N W0 U0 M a w U s∧Q .normal s
 | .exit id,a,w=>∃ U s,Inv N W0 U0 M a w U s∧Q (.exit id) s
 | .ret,a,w=>∃ U s,Inv N W0 U0 M a w U s∧Q .ret s
 | _,_,_=>False

theorem a1T(hm:P.follows .mixedOrders=true){id:Nat}{ops:Array Oper}{draw:Bool}{R lim:Nat}{ac:ACode}{Q:AExit→St→Prop}{a:Act}{W:World}{U:Nat→Nat→Prop}{s:St}(hc:b2v P N ops draw R lim=some ac)(hi:Inv N W0 U0 M a W U s)(h:wpx P ac Q s):(Code.region id ops draw).wp P (QR N W0 U0 M Q) a W:=by
  unfold b2v at hc
  split at hc
  ·rename_i As hAs
   split at hc
   ·rename_i hb
    simp only[Option.some.injEq]at hc
    subst hc
    simp only[Bool.and_eq_true,List.all_eq_true,Bool.or_eq_true,Bool.not_eq_true']at hb
    obtain ⟨hd,hdr⟩:=hb
    have hn:∀ a' W' U' s',Inv N W0 U0 M a' W' U' s'→Q .normal s'→QR N W0 U0 M Q .normal a' W':=fun a' W' U' s' h1 h2=>⟨U',s',h1,h2⟩
    cases draw with
    | false=>
     refine wp_region ?_
     have:=seq_sound (P:=P) (all:=ops.toList) hd hn ops.toList As 0 a W U s (by simp) hAs hi h
     rw[List.range_eq_range']
     simpa using this
    | true=>
     rcases hdr with hdr | ⟨hdet,hlex⟩
     ·cases hdr
     ·refine wp_region_any hm ?_
      have hi':Inv N W0 U0 M a { W with drawn:=W.drawn+1 } U s:=hi.ext (Ext.refl W U).drew
      have hlex':b5A ops.toList.toArray As ops.toList.length 0 (Array.replicate ops.size false)=true:=
       lexB_lexA (ops:=ops.toList.toArray) (by simpa using (cOpsL_get hAs).1) ops.toList As 0 _ (by simp) (by simp) (by simp) (fun j hj=>by simp at hj;simp[hj,a3S]) (by simpa using hlex)
      have hdet':∀ A∈As,(A.k.det||A.big)=true:=fun A hA=>by simpa using hdet A hA
      have h1:=lexA_sound (P:=P) (ops:=ops.toList) (As:=As) (K:=Q .normal) (cOpsL_get hAs).1 hdet' ops.toList As 0 _ s (cOpsL_get hAs).1.symm (by simp) (b1d _ _) (by simpa using b7n ops.toList.toArray _) hlex' h
      have:=any_sound (Q:=QR N W0 U0 M Q) hAs hdet' hd hn ops.toList.length (Array.replicate ops.size false) a _ U s hi' (by simpa using b7n ops.toList.toArray _) h1
      simpa using this
   ·split at hc
    ·rename_i hb
     simp only[Option.some.injEq]at hc
     subst hc
     simp only[Bool.and_eq_true,List.all_eq_true]at hb
     obtain ⟨⟨⟨hd,rfl⟩,hdet⟩,_⟩:=hb
     obtain ⟨K',hup,h,hq⟩:=h
     have hn:∀ a' W' U' s',Inv N W0 U0 M a' W' U' s'→K' s'→QR N W0 U0 M Q .normal a' W':=fun a' W' U' s' h1 h2=>by
      obtain ⟨s1,hle,hq1⟩:=hq s' h2
      exact ⟨U',s1,h1.le hle,hq1⟩
     refine wp_region_any hm ?_
     have hi':Inv N W0 U0 M a { W with drawn:=W.drawn+1 } U s:=hi.ext (Ext.refl W U).drew
     have hlen:As.length=ops.size:=by simpa using (cOpsL_get hAs).1
     have h1:=treeT_sound (P:=P) (ops:=ops) (As:=As) (K:=K') hlen hdet ops.size (Array.replicate ops.size false) s (b1d _ _) (b7n ops _) h
     have:=any_sound (Q:=QR N W0 U0 M Q) hAs hdet hd hn ops.toList.length (Array.replicate ops.size false) a _ U s hi' (by simpa using b7n ops.toList.toArray _) (by simpa using h1)
     simpa using this
    ·cases hc
  ·cases hc

theorem a1c(hm:P.follows .mixedOrders=true):∀ (c:Code) (ac:ACode) (Q:AExit→St→Prop) (a:Act) (W:World) (U:Nat→Nat→Prop) (s:St),a1D P N c=some ac→Inv N W0 U0 M a W U s→wpx P ac Q s→c.wp P (QR N W0 U0 M Q) a W
 | .skip,ac,Q,a,W,U,s,hc,hi,h=>by
  simp only[a1D,Option.some.injEq]at hc
  subst hc
  exact wp_skip ⟨U,s,hi,h⟩
 | .region id ops draw,ac,Q,a,W,U,s,hc,hi,h=>by
  simp only[a1D]at hc
  split at hc
  ·rw[Option.or_eq_some_iff]at hc
   rcases hc with hc | ⟨_,hc⟩
   ·exact a1T hm hc hi h
   ·rw[Option.or_eq_some_iff]at hc
    rcases hc with hc | ⟨_,hc⟩
    ·exact a1T hm hc hi h
    ·rw[Option.or_eq_some_iff]at hc
     rcases hc with hc | ⟨_,hc⟩
     ·exact a1T hm hc hi h
     ·rw[Option.or_eq_some_iff]at hc
      rcases hc with hc | ⟨_,hc⟩
      ·exact a1T hm hc hi h
      ·split at hc
       ·exact a1T hm hc hi h
       ·cases hc
  ·split at hc
   ·rw[Option.or_eq_some_iff]at hc
    rcases hc with hc | ⟨_,hc⟩
    ·exact a1T hm hc hi h
    ·exact a1T hm hc hi h
   ·split at hc
    ·rw[Option.or_eq_some_iff]at hc
     rcases hc with hc | ⟨_,hc⟩
     ·exact a1T hm hc hi h
     ·exact a1T hm hc hi h
    ·exact a1T hm hc hi h
 | .seq x y,ac,Q,a,W,U,s,hc,hi,h=>by
  simp only[a1D]at hc
  split at hc
  ·rename_i ax ay h1 h2
   simp only[Option.some.injEq]at hc
   subst hc
   refine wp_seq ?_
   refine wp_mono (a1c hm x ax _ a W U s h1 hi h) fun e a' w' hq=>?_
   cases e with
   | normal=>
    obtain ⟨U',s',hi',hw⟩:=hq
    exact a1c hm y ay Q a' w' U' s' h2 hi' hw
   | exit id=>exact hq
   | ret=>exact hq
   | _=>exact hq.elim
  ·cases hc
 | .cond c x y,ac,Q,a,W,U,s,hc,hi,h=>by
  simp only[a1D]at hc
  split at hc
  ·rename_i C ax ay h0 h1 h2
   simp only[Option.some.injEq]at hc
   subst hc
   obtain ⟨b,hb,ht,hf⟩:=h
   have hv:=(a0a hi h0 hb).bool_inv
   cases b with
   | true=>exact wp_cond_true hv (a1c hm x ax Q a W U s h1 hi (ht rfl))
   | false=>exact wp_cond_false hv (a1c hm y ay Q a W U s h2 hi (hf rfl))
  ·cases hc
 | .block id b,ac,Q,a,W,U,s,hc,hi,h=>by
  simp only[a1D]at hc
  obtain ⟨ab,h1,rfl⟩:=Option.map_eq_some_iff.1 hc
  refine wp_block (wp_mono (a1c hm b ab _ a W U s h1 hi h) fun e a' w' hq=>?_)
  cases e with
  | normal=>exact hq
  | exit i=>
   obtain ⟨U',s',hi',hw⟩:=hq
   simp only[a7g]at hw
   simp only[Exit.inBlock]
   by_cases hid:i=id
   ·rw[if_pos hid]at hw ⊢
    exact ⟨U',s',hi',hw⟩
   ·rw[if_neg hid]at hw ⊢
    exact ⟨U',s',hi',hw⟩
  | ret=>exact hq
  | _=>exact hq.elim
 | .loop b,ac,Q,a,W,U,s,hc,hi,h=>by
  simp only[a1D]at hc
  obtain ⟨ab,h1,rfl⟩:=Option.map_eq_some_iff.1 hc
  obtain ⟨α,inv,phi,m,⟨x0,hle,h0⟩,hround⟩:=h
  refine wp_loop_ix (fun x a' w'=>phi x∧∃ U',Inv N W0 U0 M a' w' U' (inv x)) m (x0:=x0) ⟨h0,U,hi.le hle⟩ fun x a' w' ⟨hx,U',hi'⟩=>?_
  refine wp_mono (a1c hm b ab _ a' w' U' (inv x) h1 hi' (hround x hx)) fun e a2 w2 hq=>?_
  cases e with
  | normal=>
   obtain ⟨U2,s2,hi2,x',hle3,hI3,hlt⟩:=hq
   exact ⟨x',⟨hI3,U2,hi2.le hle3⟩,hlt⟩
  | exit id=>exact hq
  | ret=>exact hq
  | _=>exact hq.elim
 | .exit id,ac,Q,a,W,U,s,hc,hi,h=>by
  simp only[a1D,Option.some.injEq]at hc
  subst hc
  exact wp_exit ⟨U,s,hi,h⟩
 | .ret,ac,Q,a,W,U,s,hc,hi,h=>by
  simp only[a1D,Option.some.injEq]at hc
  subst hc
  exact wp_ret ⟨U,s,hi,h⟩
 | .rangeFunc ..,_,_,_,_,_,_,hc,_,_=>by simp[a1D]at hc
 | .scope _,_,_,_,_,_,_,hc,_,_=>by simp[a1D]at hc
 | .label _,_,_,_,_,_,_,hc,_,_=>by simp[a1D]at hc
 | .goto _,_,_,_,_,_,_,hc,_,_=>by simp[a1D]at hc
 | .refuse _,_,_,_,_,_,_,hc,_,_=>by simp[a1D]at hc

inductive AR where
 | tmp (i:Nat)
 | cell (i:Nat) (n:Option Nat)
def a9e(P:Program):List ResultVar→Option (List AR)
 | []=>some []
 | .tmp i::r=>(a9e P r).map (.tmp i :: ·)
 | .cell i t::r=>match a9h P t,a9e P r with
  | some n,some rs=>some (.cell i n::rs)
  | _,_=>none
def arR(s:St):AR→AV→Prop
 | .tmp i,r=>s.t i=some r
 | .cell i n,r=>∃ p cs,s.t i=some p∧view s.o p=some cs∧ldR n cs r
def a1a(s:St):List AR→AV→Prop
 | [x],r=>arR s x r
 | xs,r=>∃ rs:List AV,xs.length=rs.length∧(∀ (i:Nat) (x:AR) (c:AV),xs[i]?=some x→rs[i]?=some c→∃ c',arR s x c'∧c=c'.alias)∧r=.tup rs
def num{α:Type}:Nat→List α→List (Nat × α)
 | _,[]=>[]
 | n,a::r=>(n,a)::num (n+1) r
theorem lk_num{α:Type}(l:List α)(n i:Nat):lk (num n l) i=if n≤i then l[i - n]? else none:=by
 induction l generalizing n with
 | nil=>simp[num,lk]
 | cons a l ih=>
  simp only[num,lk,ih]
  by_cases h:i=n
  ·subst h;simp
  ·rw[if_neg h]
   by_cases h1:n+1≤i
   ·rw[if_pos h1,if_pos (by omega)]
    have:i - n=(i - (n+1))+1:=by omega
    rw[this,List.getElem?_cons_succ]
   ·rw[if_neg h1,if_neg (by omega)]
def st0(as:List AV):St:=⟨lk (num 0 (as.map AV.alias)),lk []⟩
def b5B(rs:List AR)(r:AV):AExit→St→Prop
 | .normal,s=>a1a s rs r
 | .ret,s=>a1a s rs r
 | _,_=>False

def b6v(tmps:Array Value):ResultVar→Sem Value
 | .tmp t=>pure (tmps.getD t undef)
 | .cell i t=>do loadVar t (← asAddr (tmps.getD i undef))
theorem a7u(fn:Func)(tmps:Array Value):results fn tmps=(do let vs ← fn.results.mapM (b6v tmps);pure (if h:vs.size=1 then vs[0] else .tuple vs)):=by
 unfold results
 have:(fun x:ResultVar=>(match x with | .tmp t=>pure (tmps.getD t undef) | .cell i t=>do loadVar t (← asAddr (tmps.getD i undef)):Sem Value))=b6v tmps:=by
  funext x
  cases x<;>rfl
 rw[← this]
 rfl
theorem ar_sound{a:Act}{W:World}{U:Nat→Nat→Prop}{s:St}(h:Inv N W0 U0 M a W U s){x:ResultVar}{y:AR}{rest:List ResultVar}{ys:List AR}(hc:a9e P (x::rest)=some (y::ys)){r:AV}(hr:arR s y r):
  a9e P rest=some ys∧∃ v,(b6v a.tmps x).run P W=.ok v W∧VR W U v r∧Own1 W U (fun g=>W0.heap.size≤g∨M g) v r∧(∀ e sz els,r=.sl (some e) sz els→∃ i,s.t i=some r∧v=a.tmps.getD i undef):=by
 cases x with
 | tmp t=>
  simp only[a9e,Option.map_eq_some_iff,List.cons.injEq]at hc
  obtain ⟨ys',h1,rfl,rfl⟩:=hc
  exact ⟨h1,_,rfl,h.tv t r hr,h.ow (.t t) r hr,fun _ _ _ _=>⟨t,hr,rfl⟩⟩
 | cell i t=>
  simp only[a9e]at hc
  split at hc
  ·rename_i n rs h1 h2
   simp only[Option.some.injEq,List.cons.injEq]at hc
   obtain ⟨rfl,rfl⟩:=hc
   obtain ⟨p,cs,hp,hv,hl⟩:=hr
   obtain ⟨b,off,f,he,e1,e2⟩:=a5j h (h.tv i p hp) hv
   obtain ⟨v,hrun,hvr,hpl⟩:=run_load_cells (P:=P) h1 e1 e2 hl
   refine ⟨h2,v, ?_,hvr,Own1.plain hpl,fun e sz els he=>absurd he (hpl e sz els)⟩
   have hrun':(loadVar t ⟨b,off,none⟩).run P W=.ok v W:=by
    simpa[Instr.loadAt,Instr.sureAddr]using hrun
   simp[b6v,he,asAddr,hrun']
  ·cases hc

theorem res_sound{a:Act}{W:World}{U:Nat→Nat→Prop}{s:St}(h:Inv N W0 U0 M a W U s){fn:Func}{ys:List AR}(hc:a9e P fn.results.toList=some ys){r:AV}(hr:a1a s ys r):
  ∃ v,(results fn a.tmps).run P W=.ok v W∧VR W U v r∧Own1 W U (fun g=>W0.heap.size≤g∨M g) v r∧(∀ e sz els,r=.sl (some e) sz els→∃ i,s.t i=some r∧v=a.tmps.getD i undef):=by
 have many:∀ (xs:List ResultVar) (ys:List AR) (rs:List AV),a9e P xs=some ys→ys.length=rs.length→(∀ (i:Nat) (x:AR) (c:AV),ys[i]?=some x→rs[i]?=some c→∃ c',arR s x c'∧c=c'.alias)→
   ∃ vs:List Value,(xs.mapM (b6v a.tmps)).run P W=.ok vs W∧vs.length=rs.length∧xs.length=rs.length∧
    ∀ (i:Nat) (v:Value) (c:AV),vs[i]?=some v→rs[i]?=some c→VR W U v c:=by
  intro xs
  induction xs with
  | nil=>
   intro ys rs h1 h2 _
   simp only[a9e,Option.some.injEq]at h1
   subst h1
   have:rs=[]:=List.eq_nil_of_length_eq_zero h2.symm
   subst this
   exact ⟨[],rfl,rfl,rfl,fun i v c hv=>by simp at hv⟩
  | cons x xs ih=>
   intro ys rs h1 h2 h3
   cases ys with
   | nil=>cases x<;>simp[a9e]at h1;split at h1<;>simp at h1
   | cons y ys=>
    cases rs with
    | nil=>simp at h2
    | cons c rs=>
     obtain ⟨c',q1,rfl⟩:=h3 0 y c rfl rfl
     obtain ⟨q2,v,q3,q4,_,_⟩:=ar_sound h h1 q1
     obtain ⟨vs,q5,q6,q7,q8⟩:=ih ys rs q2 (by simpa using h2) (fun i x c hx hc'=>h3 (i+1) x c (by simpa using hx) (by simpa using hc'))
     refine ⟨v::vs, ?_,by simp[q6],by simp[q7],fun i u d hu hd=>?_⟩
     ·simp only[List.mapM_cons,Sem.run_bind,q3,Result.andThen_ok,q5]
      rfl
     ·cases i with
      | zero=>simp at hu hd;subst hu hd;exact q4.alias
      | succ i=>exact q8 i u d (by simpa using hu) (by simpa using hd)
 have hmany:(∃ rs:List AV,ys.length=rs.length∧(∀ (i:Nat) (x:AR) (c:AV),ys[i]?=some x→rs[i]?=some c→∃ c',arR s x c'∧c=c'.alias)∧r=.tup rs)→ys.length≠1→
   ∃ v,(results fn a.tmps).run P W=.ok v W∧VR W U v r∧Own1 W U (fun g=>W0.heap.size≤g∨M g) v r∧(∀ e sz els,r=.sl (some e) sz els→∃ i,s.t i=some r∧v=a.tmps.getD i undef):=by
  rintro ⟨rs,h1,h2,rfl⟩ hne
  obtain ⟨vs,q1,q2,q3,q4⟩:=many fn.results.toList ys rs hc h1 h2
  refine ⟨.tuple vs.toArray, ?_,.tup vs rs q2 q4,trivial,fun e sz els he=>by cases he⟩
  rw[a7u,Array.mapM_eq_mapM_toList]
  simp only[Sem.run_bind,Sem.run_map,q1,Result.andThen_ok]
  have:¬ vs.length=1:=by omega
  simp[this]
 match ys,hr with
 | [],hr=>exact hmany hr (by simp)
 | [y],hr=>
  cases hx:fn.results.toList with
  | nil=>rw[hx]at hc;simp[a9e]at hc
  | cons x xs=>
   rw[hx]at hc
   obtain ⟨q1,v,q2,q3,q4,q5⟩:=ar_sound h hc hr
   cases xs with
   | cons x' xs=>cases x'<;>simp[a9e]at q1;split at q1<;>simp at q1
   | nil=>
    refine ⟨v, ?_,q3,q4,q5⟩
    rw[a7u,Array.mapM_eq_mapM_toList,hx]
    simp only[List.mapM_cons,List.mapM_nil,Sem.run_bind,Sem.run_map,q2,Result.andThen_ok]
    simp
 | _::_::_,hr=>exact hmany hr (by simp)

theorem b7z(hm:P.follows .mixedOrders=true){f:Nat}{fn:Func}{c:Code}{ac:ACode}{rs:List AR}{as:List AV}{r:AV}(hf:P.funcs[f]?=some fn)(hb:fn.body=some c)(hc:a1D P fn.ntmps c=some ac)(hr:a9e P fn.results.toList=some rs)
  (hn:as.length≤fn.ntmps) (h:wpx P ac (b5B rs r) (st0 as)):CP P f as r:=by
 intro W U vs hG hl hv
 refine calls_of_wp hf hb ?_
 have hsz:(vs.toArray++Array.replicate (fn.ntmps - vs.toArray.size) undef).size=fn.ntmps:=by simp;omega
 have h0:Inv fn.ntmps W U (fun _=>False) { tmps:=vs.toArray++Array.replicate (fn.ntmps - vs.toArray.size) undef,defers:=[] } W U (st0 as):=by
  have hat:∀ {ℓ:Loc} {e sz:Nat} {els:List (List AV)},(st0 as).at ℓ≠some (.sl (some e) sz els):=by
   intro ℓ e sz els hl'
   cases ℓ with
   | t i=>
    simp only[St.at,st0,lk_num,Nat.zero_le,if_true,Nat.sub_zero,List.getElem?_map,Option.map_eq_some_iff]at hl'
    obtain ⟨x,_,hx⟩:=hl'
    exact a0m x _ _ _ hx
   | o b j=>simp[St.at,st0,lk]at hl'
  refine ⟨hsz,rfl,⟨rfl,rfl,rfl,Nat.le_refl _,fun _ _ _=>rfl,fun _ _ _ _=>Iff.rfl,Keeps.refl _ _,hG,fun _ _ h=>h⟩,fun i v hi=>?_,fun b cs hb=>by simp[st0,lk]at hb,fun ℓ v hl'=>?_,fun ℓ ℓ' e sz els e' sz' els' _ h1=>absurd h1 hat,fun ℓ e sz els h1=>absurd h1 hat⟩
  ·simp only[st0,lk_num,Nat.zero_le,if_true,Nat.sub_zero,List.getElem?_map,Option.map_eq_some_iff]at hi
   obtain ⟨x,hx,rfl⟩:=hi
   have hi':i<as.length:=(List.getElem?_eq_some_iff.1 hx).1
   have hget:(vs.toArray++Array.replicate (fn.ntmps - vs.toArray.size) undef).getD i undef=vs[i]:=by
    rw[Array.getD_eq_getD_getElem?,Array.getElem?_append_left (by simp;omega)]
    simp[show i<vs.length by omega]
   rw[hget]
   exact (hv i _ x (List.getElem?_eq_getElem (by omega)) hx).alias
  ·unfold Own1
   split
   ·exact absurd hl' hat
   ·trivial
 refine wp_mono (a1c hm c ac _ _ W U _ hc h0 h) fun e a' w' hq=>?_
 have fin:∀ {U':Nat→Nat→Prop} {s:St},Inv fn.ntmps W U (fun _=>False) a' w' U' s→a1a s rs r→a'.defers=[]∧∃ v,(results fn a'.tmps).run P w'=.ok v w'∧∃ v' U',Ending.returned v=.returned v'∧VR w' U' v' r∧Own1 w' U' (W.heap.size ≤ ·) v' r∧Ext W U w' U':=by
  intro U' s hi hres
  obtain ⟨v,q1,q2,q3,_⟩:=res_sound hi hr hres
  refine ⟨hi.df,v,q1,v,U',rfl,q2, ?_,⟨⟨hi.fr.os,hi.fr.tape,hi.fr.output,hi.fr.size,fun k hk=>hi.fr.block k hk id⟩,fun k hk=>hi.fr.u k hk id⟩⟩
  unfold Own1 at *
  split at q3
  ·rcases q3 with q3 | ⟨g,cap,cur,p1,p2,p3⟩
   ·exact .inl q3
   ·exact .inr ⟨g,cap,cur,p1,p2.resolve_right id,p3⟩
  ·trivial
 cases e with
 | normal=>obtain ⟨U',s,hi,hres⟩:=hq;exact fin hi hres
 | ret=>obtain ⟨U',s,hi,hres⟩:=hq;exact fin hi hres
 | exit id=>obtain ⟨U',s,hi,hres⟩:=hq;exact hres.elim
 | _=>exact hq.elim
theorem a0g(hm:P.follows .mixedOrders=true){f n:Nat}{fn:Func}{ac:ACode}{rs:List AR}(hf:P.funcs[f]?=some fn)(hc:fn.body.bind (a1D P fn.ntmps)=some ac)(hr:a9e P fn.results.toList=some rs)(hn:fn.ntmps=n):
  ∀ (as:List AV) (r:AV),as.length≤n→wpx P ac (b5B rs r) (st0 as)→CP P f as r:=by
 intro as r hl h
 cases hb:fn.body with
 | none=>simp[hb]at hc
 | some c=>
  rw[hb]at hc
  exact b7z hm hf hb hc hr (by omega) h

def b0U(s:St)(rs:List AR)(o1:Nat→Option (List AV))(Q:AV→(Nat→Option (List AV))→Prop):Prop:=
 ∃ r,a1a s rs r∧∃ o2,(∀ b cs,o2 b=some cs→s.o b=some cs)∧(∀ b cs,o1 b=some cs→∃ cs',o2 b=some cs')∧Q r o2
def b0P(rs:List AR)(o1:Nat→Option (List AV))(Q:AV→(Nat→Option (List AV))→Prop):AExit→St→Prop
 | .normal,s=>b0U s rs o1 Q
 | .ret,s=>b0U s rs o1 Q
 | _,_=>False
theorem Inv.res{a:Act}{W:World}{U:Nat→Nat→Prop}{s:St}(h:Inv N W0 U0 M a W U s){o2:Nat→Option (List AV)}(ho:∀ b cs,o2 b=some cs→s.o b=some cs){v:Value}{r:AV}(hv:VR W U v r)
  (hown:∀ e sz els,r=.sl (some e) sz els→∃ i,s.t i=some r∧v=a.tmps.getD i undef):Inv 1 W0 U0 M { tmps := #[v],defers:=[] } W U ⟨upd (fun _=>none) 0 (some r),o2⟩:=by
 have hat:∀ {ℓ:Loc} {e sz:Nat} {els:List (List AV)},St.at ⟨upd (fun _=>none) 0 (some r),o2⟩ ℓ=some (.sl (some e) sz els)→
   ∃ ℓ',s.at ℓ'=some (.sl (some e) sz els)∧cat { tmps := #[v],defers:=[] } W ℓ=cat a W ℓ'∧((ℓ=.t 0∧∃ i,ℓ'=.t i)∨(∃ b j,ℓ=.o b j∧ℓ'=.o b j)):=by
  intro ℓ e sz els hl
  cases ℓ with
  | t i=>
   simp only[St.at,upd]at hl
   by_cases hi:i=0
   ·subst hi
    simp only[if_true,Option.some.injEq]at hl
    obtain ⟨k,h1,h2⟩:=hown e sz els hl
    exact ⟨.t k,by rw[← hl];exact h1,h2,.inl ⟨rfl,k,rfl⟩⟩
   ·simp[hi]at hl
  | o b j=>
   refine ⟨.o b j, ?_,rfl,.inr ⟨b,j,rfl,rfl⟩⟩
   simp only[St.at,Option.bind_eq_some_iff]at hl ⊢
   obtain ⟨cs,h1,h2⟩:=hl
   exact ⟨cs,ho b cs h1,h2⟩
 refine ⟨rfl,rfl,h.fr,fun i x hx=>?_,fun b cs hb=>h.ob b cs (ho b cs hb),fun ℓ x hx=>?_,fun ℓ ℓ' e sz els e' sz' els' hne h1 h2=>?_,fun ℓ e sz els h1 g hg=>?_⟩
 ·simp only[upd]at hx
  by_cases hi:i=0
  ·subst hi
   simp only[if_true,Option.some.injEq]at hx
   exact hx▸hv
  ·simp[hi]at hx
 ·unfold Own1
  split
  ·obtain ⟨ℓ',g1,g2,_⟩:=hat hx
   rw[g2]
   exact h.own g1
  ·trivial
 ·obtain ⟨k,g1,g2,g3⟩:=hat h1
  obtain ⟨k',g4,g5,g6⟩:=hat h2
  rw[g2,g5]
  refine h.ap k k' _ _ _ _ _ _ ?_ g1 g4
  rintro rfl
  rcases g3 with ⟨rfl,i,rfl⟩ | ⟨b,j,rfl,rfl⟩<;>rcases g6 with ⟨rfl,i',g6⟩ | ⟨b',j',rfl,g6⟩
  ·exact hne rfl
  ·cases g6
  ·cases g6
  ·cases g6;exact hne rfl
 ·obtain ⟨k,g1,g2,_⟩:=hat h1
  rw[g2]at hg
  have:=h.no k _ _ _ g1 g hg
  cases h3:o2 g with
  | none=>exact h3
  | some cs=>rw[ho g cs h3]at this;cases this

theorem Inv.enter{W:World}{U:Nat→Nat→Prop}{fn:Func}{as:List AV}{o1:Nat→Option (List AV)}{vs:List Value}(hn:as.length≤fn.ntmps)(hl:vs.length=as.length)
  (hv:∀ (i:Nat) (v:Value) (c:AV),vs[i]?=some v→as[i]?=some c→VR W U v c) (h1:Inv 0 W U (a0q W o1) { tmps := #[],defers:=[] } W U ⟨fun _=>none,o1⟩):
  Inv fn.ntmps W U (a0q W o1) { tmps:=vs.toArray++Array.replicate (fn.ntmps - vs.toArray.size) undef,defers:=[] } W U ⟨lk (num 0 (as.map AV.alias)),o1⟩:=by
 have hsz:(vs.toArray++Array.replicate (fn.ntmps - vs.toArray.size) undef).size=fn.ntmps:=by simp;omega
 have hatt:∀ {i:Nat} {e sz:Nat} {els:List (List AV)},lk (num 0 (as.map AV.alias)) i≠some (.sl (some e) sz els):=by
  intro i e sz els hl'
  simp only[lk_num,Nat.zero_le,if_true,Nat.sub_zero,List.getElem?_map,Option.map_eq_some_iff]at hl'
  obtain ⟨x,_,hx⟩:=hl'
  exact a0m x _ _ _ hx
 have hato:∀ {ℓ:Loc} {e sz:Nat} {els:List (List AV)},St.at ⟨lk (num 0 (as.map AV.alias)),o1⟩ ℓ=some (.sl (some e) sz els)→(∃ b j,ℓ=.o b j)∧St.at ⟨fun _=>none,o1⟩ ℓ=some (.sl (some e) sz els):=by
  intro ℓ e sz els hl'
  cases ℓ with
  | t i=>exact absurd hl' hatt
  | o b j=>exact ⟨⟨b,j,rfl⟩,hl'⟩
 refine ⟨hsz,rfl,h1.fr,fun i v hi=>?_,h1.ob,fun ℓ v hl'=>?_,fun ℓ ℓ' e sz els e' sz' els' hne q1 q2=>?_,fun ℓ e sz els q1 g hg=>?_⟩
 ·simp only[lk_num,Nat.zero_le,if_true,Nat.sub_zero,List.getElem?_map,Option.map_eq_some_iff]at hi
  obtain ⟨x,hx,rfl⟩:=hi
  have hi':i<as.length:=(List.getElem?_eq_some_iff.1 hx).1
  have hget:(vs.toArray++Array.replicate (fn.ntmps - vs.toArray.size) undef).getD i undef=vs[i]:=by
   rw[Array.getD_eq_getD_getElem?,Array.getElem?_append_left (by simp;omega)]
   simp[show i<vs.length by omega]
  rw[hget]
  exact (hv i _ x (List.getElem?_eq_getElem (by omega)) hx).alias
 ·unfold Own1
  split
  ·obtain ⟨⟨b,j,rfl⟩,q⟩:=hato hl'
   exact h1.own q
  ·trivial
 ·obtain ⟨⟨b,j,rfl⟩,q3⟩:=hato q1
  obtain ⟨⟨b',j',rfl⟩,q4⟩:=hato q2
  exact h1.ap _ _ _ _ _ _ _ _ hne q3 q4
 ·obtain ⟨⟨b,j,rfl⟩,q3⟩:=hato q1
  exact h1.no _ _ _ _ q3 g hg
theorem c2h(hm:P.follows .mixedOrders=true){f:Nat}{fn:Func}{c:Code}{ac:ACode}{rs:List AR}{as:List AV}{o1:Nat→Option (List AV)}{Q:AV→(Nat→Option (List AV))→Prop}(hf:P.funcs[f]?=some fn)(hb:fn.body=some c)(hc:a1D P fn.ntmps c=some ac)(hr:a9e P fn.results.toList=some rs)
  (hn:as.length≤fn.ntmps) (h:wpx P ac (b0P rs o1 Q) ⟨lk (num 0 (as.map AV.alias)),o1⟩):CT P f as o1 Q:=by
 intro W U vs hl hv h1
 refine calls_of_wp hf hb ?_
 have h0:=Inv.enter hn hl hv h1
 refine wp_mono (a1c hm c ac _ _ W U _ hc h0 h) fun e a' w' hq=>?_
 have fin:∀ {U':Nat→Nat→Prop} {s:St},Inv fn.ntmps W U (a0q W o1) a' w' U' s→b0U s rs o1 Q→a'.defers=[]∧∃ v,(results fn a'.tmps).run P w'=.ok v w'∧
   ∃ v' U' r o',Ending.returned v=.returned v'∧Q r o'∧(∀ b cs,o1 b=some cs→∃ cs',o' b=some cs')∧Inv 1 W U (a0q W o1) { tmps := #[v'],defers:=[] } w' U' ⟨upd (fun _=>none) 0 (some r),o'⟩:=by
  rintro U' s hi ⟨r,hres,o2,ho2,hdom,hQ⟩
  obtain ⟨v,q1,q2,q3,q4⟩:=res_sound hi hr hres
  exact ⟨hi.df,v,q1,v,U',r,o2,rfl,hQ,hdom,hi.res ho2 q2 q4⟩
 cases e with
 | normal=>obtain ⟨U',s,hi,hres⟩:=hq;exact fin hi hres
 | ret=>obtain ⟨U',s,hi,hres⟩:=hq;exact fin hi hres
 | exit id=>obtain ⟨U',s,hi,hres⟩:=hq;exact hres.elim
 | _=>exact hq.elim
theorem a0P(hm:P.follows .mixedOrders=true){f n:Nat}{fn:Func}{ac:ACode}{rs:List AR}(hf:P.funcs[f]?=some fn)(hc:fn.body.bind (a1D P fn.ntmps)=some ac)(hr:a9e P fn.results.toList=some rs)(hn:fn.ntmps=n):
  ∀ (as:List AV) (o1:Nat→Option (List AV)) (Q:AV→(Nat→Option (List AV))→Prop),as.length≤n→wpx P ac (b0P rs o1 Q) ⟨lk (num 0 (as.map AV.alias)),o1⟩→CT P f as o1 Q:=by
 intro as o1 Q hl h
 cases hb:fn.body with
 | none=>simp[hb]at hc
 | some c=>
  rw[hb]at hc
  exact c2h hm hf hb hc hr (by omega) h
end
end
section
open Go.RowKit
def Fz0(o:Nat→Option (List AV)):AV→AV→Prop
 | .hsl g _ sz n cap,r=>∃ els,o g=some (hc sz cap els)∧(∀ x∈els,x.length=sz)∧n≤els.length∧r=.sl none sz (els.take n)
 | .hss g sz a m,r=>∃ cap els,o g=some (hc sz cap els)∧(∀ x∈els,x.length=sz)∧a+m≤els.length∧r=.sl none sz ((els.drop a).take m)
 | .hnil _ sz,r=>r=.sl none sz []
 | .osl b off n,r=>∃ cs,o b=some cs∧off+n≤cs.length∧r=.sl none 1 (((cs.drop off).take n).map fun c=>[c])
 | .mapv b,r=>r=.mapv b∨∃ ks vs bs clk,o b=some [.mp ks vs bs clk]∧r=.rom ks vs
 | a,r=>r=a
def Fz1(o:Nat→Option (List AV)):AV→AV→Prop
 | .ptr b off,r=>r=.ptr b off∨∃ cs ds,o b=some cs∧off=0∧cs.length=ds.length∧(∀ (i:Nat) (c d:AV),cs[i]?=some c→ds[i]?=some d→∃ d',Fz0 o c d'∧d=d'.alias)∧r=.ro ds
 | a,r=>Fz0 o a r
def Fz2(o:Nat→Option (List AV)):AV→AV→Prop
 | .agg cs,r=>∃ ds,cs.length=ds.length∧(∀ (i:Nat) (c d:AV),cs[i]?=some c→ds[i]?=some d→Fz1 o c d)∧r=.agg ds
 | a,r=>Fz1 o a r
def Fz3(o:Nat→Option (List AV)):AV→AV→Prop
 | .tup cs,r=>∃ ds,cs.length=ds.length∧(∀ (i:Nat) (c d:AV),cs[i]?=some c→ds[i]?=some d→Fz2 o c d)∧r=.tup ds
 | a,r=>Fz2 o a r
section
variable {W:World} {U U':Nat→Nat→Prop} {o3:Nat→Option (List AV)} (hob:∀ b cs,o3 b=some cs→ObR W U b cs) (hk:Keeps W U W U') (hU:∀ b cs,o3 b=some cs→∀ i, ¬ U' b i)
include hob hk hU
end
variable {N:Nat} {W0:World} {U0:Nat→Nat→Prop} {M:Nat→Prop} {P:Program}
def b7k(s:St)(rs:List AR)(o1:Nat→Option (List AV))(Q:AV→(Nat→Option (List AV))→Prop):Prop:=
 ∃ r0,a1a s rs r0∧∃ o2 o3:Nat→Option (List AV),(∀ b cs,o2 b=some cs→s.o b=some cs∧o3 b=none)∧(∀ b cs,o3 b=some cs→s.o b=some cs)∧(∀ b cs,o1 b=some cs→∃ cs',o2 b=some cs')∧∃ r,Fz3 o3 r0 r∧Q r o2
def b5g(rs:List AR)(o1:Nat→Option (List AV))(Q:AV→(Nat→Option (List AV))→Prop):AExit→St→Prop
 | .normal,s=>b7k s rs o1 Q
 | .ret,s=>b7k s rs o1 Q
 | _,_=>False
theorem r3_n{rs:List AR}{o1:Nat→Option (List AV)}{Q:AV→(Nat→Option (List AV))→Prop}{s:St}:b5g rs o1 Q .normal s=b7k s rs o1 Q:=rfl
theorem r3_r{rs:List AR}{o1:Nat→Option (List AV)}{Q:AV→(Nat→Option (List AV))→Prop}{s:St}:b5g rs o1 Q .ret s=b7k s rs o1 Q:=rfl
theorem r3_e{rs:List AR}{o1:Nat→Option (List AV)}{Q:AV→(Nat→Option (List AV))→Prop}{s:St}{id:Nat}:b5g rs o1 Q (.exit id) s=False:=rfl
end
end Go.Proofs.YtfgihnhoocnmdaaGreatDoor
