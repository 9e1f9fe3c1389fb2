import Derived.Test.YtfgihnhoocnmdaaGreatDoorJ9
namespace Go.Proofs.YtfgihnhoocnmdaaGreatDoor
set_option linter.all false
set_option maxHeartbeats 64000000
set_option maxRecDepth 100000
open Go.RowKit
def K1(o:Option AV)(K:AV→Prop):Prop:=∃ v,o=some v∧K v
theorem K1_some(v:AV)(K:AV→Prop):K1 (some v) K=K v:=by simp[K1]
def KL(o:Option (List AV))(K:List AV→Prop):Prop:=∃ v,o=some v∧K v
theorem KL_some(v:List AV)(K:List AV→Prop):KL (some v) K=K v:=by simp[KL]
def KP(o:Option (List (Nat × Nat × AV)))(K:List (Nat × Nat × AV)→Prop):Prop:=∃ v,o=some v∧K v
theorem KP_some(v:List (Nat × Nat × AV))(K:List (Nat × Nat × AV)→Prop):KP (some v) K=K v:=by simp[KP]
def RK(R:AV→Prop)(K:AV→Prop):Prop:=∃ r,R r∧K r
theorem RK_eq(v:AV)(K:AV→Prop):RK (fun r=>r=v) K=K v:=by simp[RK]
theorem RK_and(C:Prop)(v:AV)(K:AV→Prop):RK (fun r=>C∧r=v) K=(C∧K v):=by
 apply propext
 exact ⟨fun ⟨r,⟨h1,h2⟩,h3⟩=>⟨h1,h2▸h3⟩,fun ⟨h1,h2⟩=>⟨v,⟨h1,rfl⟩,h2⟩⟩
theorem RK_andx(C:Prop)(R K:AV→Prop):RK (fun r=>C∧R r) K=(C∧RK R K):=by
 apply propext
 constructor
 ·rintro ⟨r,⟨h1,h2⟩,h3⟩;exact ⟨h1,r,h2,h3⟩
 ·rintro ⟨h1,r,h2,h3⟩;exact ⟨r,⟨h1,h2⟩,h3⟩
def RL(R:List AV→Prop)(K:List AV→Prop):Prop:=∃ r,R r∧K r
theorem RL_eq(v:List AV)(K:List AV→Prop):RL (fun r=>r=v) K=K v:=by simp[RL]
theorem RL_andx(C:Prop)(R K:List AV→Prop):RL (fun r=>C∧R r) K=(C∧RL R K):=by
 apply propext
 constructor
 ·rintro ⟨r,⟨h1,h2⟩,h3⟩;exact ⟨h1,r,h2,h3⟩
 ·rintro ⟨h1,r,h2,h3⟩;exact ⟨r,⟨h1,h2⟩,h3⟩
def KS(s:St)(K:St→Prop):Prop:=K s
theorem KS_lit(t:List (Nat × AV))(o:List (Nat × List AV))(K:St→Prop):KS ⟨lk t,lk o⟩ K=K ⟨lk t,lk o⟩:=rfl
def Ac(p:Prop):Prop:=p
def Sp(b:Bool)(K:Bool→Prop):Prop:=K b
theorem b4d{b:Bool}{K:Bool→Prop}(h:Sp b (fun b=>K (!b))):Sp (!b) K:=h
theorem Uu{b:Bool}{K:Bool→Prop}(h:Ac (b=true))(hk:K true):Sp b K:=by
 have h':b=true:=h
 subst h';exact hk
theorem Ut{b:Bool}{K:Bool→Prop}(h:Ac (b=false))(hk:K false):Sp b K:=by
 have h':b=false:=h
 subst h';exact hk
theorem QS{b:Bool}{K:Bool→Prop}(h1:Ac (b=true)→K true)(h2:Ac (b=false)→K false):Sp b K:=by
 cases b
 ·exact h2 rfl
 ·exact h1 rfl
def EG(o:Nat→Option (List AV))(K:Nat→Prop):Prop:=∀ b,o b=none→K b
theorem On{o:Nat→Option (List AV)}{K:Nat→Prop}(h:∀ b,o b=none→K b):EG o K:=h
theorem b4c{K:Nat→Prop}(h:∀ b,K b):EG (lk []) K:=fun b _=>h b
def Uj(P:Program)(f:Nat)(vs:List AV)(K:AV→Prop):Prop:=∃ r,CP P f vs r∧K r
theorem Ag{P:Program}{f:Nat}{vs:List AV}{K:AV→Prop}{r:AV}(h:CP P f vs r)(hK:K r):Uj P f vs K:=⟨r,h,hK⟩
def Uo(P:Program)(b:ACode)(Q:AExit→St→Prop)(s:St):Prop:=BK P (.loop b) Q s

def putK(d:Option Nat)(s:St)(K:St→Prop)(r:AV):Prop:=KS (s.put d r) K
def mvK(d:Option Nat)(s:St)(K:St→Prop)(r:AV):Prop:=KS (s.put d r.alias) K
def Jq(d:Option Nat)(i:Nat)(s:St):AV→St
 | .sl (some e) sz els=>St.put { s with t:=upd s.t i (some (.sl none sz els)) } d (.sl (some e) sz els)
 | r=>s.put d r.alias
def tkK(d:Option Nat)(i:Nat)(s:St)(K:St→Prop)(r:AV):Prop:=KS (Jq d i s r) K
def newK(d:Option Nat)(cells:List AV)(s:St)(K:St→Prop)(b:Nat):Prop:=KS (St.put { s with o:=upd s.o b (some cells) } d (.ptr b 0)) K
def boxK(d:Option Nat)(s:St)(K:St→Prop)(v:AV):Prop:=0<v.cells.length∧EG s.o (newK d v.cells s K)
def ldK2(d:Option Nat)(n:Option Nat)(s:St)(K:St→Prop)(cs:List AV):Prop:=RK (A5 n cs) (putK d s K)
def ldhK2(d:Option Nat)(s:St)(K:St→Prop)(cs:List AV):Prop:=RK (Sr cs) (putK d s K)
def ldhK(d:Option Nat)(s:St)(K:St→Prop)(p:AV):Prop:=KL (view s.o p) (ldhK2 d s K)
def ldK(d:Option Nat)(n:Option Nat)(s:St)(K:St→Prop)(p:AV):Prop:=KL (view s.o p) (ldK2 d n s K)
def stoK(n b off:Nat)(s:St)(a:AV)(K:St→Prop)(cs:List AV):Prop:=(a.cells.length=n∧off+a.cells.length≤cs.length)∧KS { s with o:=upd s.o b (some (splice cs off a.cells)) } K
def a0J(s:St)(n:Nat):AV→AV→(St→Prop)→Prop
 | .ptr b off,a,K=>KL (s.o b) (stoK n b off s a K)
 | _,_,_=>False
def sto2K(n:Nat)(s:St)(p:AV)(K:St→Prop)(a:AV):Prop:=a0J s n p a K
def sto1K(n:Nat)(s:St)(v:Opd)(K:St→Prop)(p:AV):Prop:=K1 (v.ev s) (sto2K n s p K)
def un1K(R:AV→AV→Prop)(d:Option Nat)(s:St)(K:St→Prop)(p:AV):Prop:=RK (R p) (putK d s K)
def bi2K(R:AV→AV→AV→Prop)(d:Option Nat)(s:St)(K:St→Prop)(p q:AV):Prop:=RK (R p q) (putK d s K)
def bi1K(R:AV→AV→AV→Prop)(y:Opd)(d:Option Nat)(s:St)(K:St→Prop)(p:AV):Prop:=K1 (y.ev s) (bi2K R d s K p)
def X4(n:Option Nat):AV→AV→Prop
 | .ro cs,r=>A5 n cs r
 | _,_=>False
def TL:AV→AV→AV→Prop
 | .str l,.int _ n,r=>(0≤n∧n<l.length)∧r=.int .u8 ((l.getD n.toNat 0).toNat:Int)
 | _,_,_=>False
def Ka(neg:Bool):AV→AV→AV→Prop
 | .bool a,.bool b,r=>r=.bool (if neg then !decide (a=b) else decide (a=b))
 | _,_,_=>False
def Ov(e size bytes:Nat):AV→AV→AV→Prop
 | .sl (some e') sz els,.sl _ sz' news,r=>(e'=e∧sz=size∧sz'=size)∧((els.length+news.length) * bytes≤140737488355328∧els.length+news.length≤maxLen)∧r=.sl (some e) size (els++news)
 | _,_,_=>False
def app2K(e size bytes i:Nat)(d:Option Nat)(s:St)(K:St→Prop)(p q:AV):Prop:=RK (Ov e size bytes p q) (putK d { s with t:=upd s.t i none } K)
def app1K(e size bytes i:Nat)(x:Opd)(d:Option Nat)(s:St)(K:St→Prop)(p:AV):Prop:=K1 (x.ev s) (app2K e size bytes i d s K p)
def I1(size:Nat):List AV→Prop
 | []=>True
 | v::vs=>v.cells.length=size∧I1 size vs
theorem Qf(size:Nat)(vs:List AV):I1 size vs↔∀ v∈vs,v.cells.length=size:=by
 induction vs with
 | nil=>simp[I1]
 | cons v vs ih=>simp[I1,ih]
def R9(off:Nat)(n:Option Nat):AV→AV→Prop
 | .agg cs,r=>off<cs.length∧A5 n (cs.drop off) r
 | _,_=>False
def IE(j:Nat):AV→AV→Prop
 | .tup cs,r=>∃ c,cs[j]?=some c∧r=c.alias
 | _,_=>False
def NC:AV→AV→Prop
 | .ro cs,r=>r=.ro cs
 | .ptr b off,r=>r=.ptr b off
 | _,_=>False
def Mq:Option Nat→AV→Nat→Nat→AV→Prop
 | none,.str l,a,b,r=>(a≤b∧b≤l.length)∧r=.str ((l.take b).drop a)
 | some size,.sl _ sz l,a,b,r=>sz=size∧(a≤b∧b≤l.length)∧r=.sl none size ((l.take b).drop a)
 | _,_,_,_,_=>False
def Su:AV→Nat
 | .str l=>l.length
 | .sl _ _ l=>l.length
 | _=>0
def XW:AV→(Nat→Prop)→Prop
 | .int _ n,K=>0≤n∧K n.toNat
 | _,_=>False
def bwK(K:Nat→Prop)(p:AV):Prop:=XW p K
def Kc(s:St)(dflt:Nat):Option Opd→(Nat→Prop)→Prop
 | none,K=>K dflt
 | some x,K=>K1 (x.ev s) (bwK K)
theorem HP(s:St)(dflt:Nat)(x:Option Opd)(K:Nat→Prop):Kc s dflt x K↔∃ a,FL s dflt x a∧K a:=by
 cases x with
 | none=>exact ⟨fun h=>⟨dflt,rfl,h⟩,fun ⟨a,h1,h2⟩=>by cases h1;exact h2⟩
 | some x=>
  constructor
  ·rintro ⟨p,h1,h⟩
   cases p<;>try exact h.elim
   exact ⟨_,⟨_,_,h1,h.1,rfl⟩,h.2⟩
  ·rintro ⟨a,⟨k,n,h1,h2,rfl⟩,h4⟩
   exact ⟨_,h1,h2,h4⟩
def RJ(k:IntKind):AV→AV→Prop
 | .int _ n,r=>r=.int k (k.wrap n)
 | _,_=>False
def TG:AV→AV→Prop
 | .str l,r=>r=.str l
 | _,_=>False
def MP(els:List (List AV))(K:List UInt8→Prop):Prop:=∃ l:List UInt8,els=l.map Bh∧K l
theorem a2F{a b:UInt8}(h:Bh a=Bh b):a=b:=by
 have h':(a.toNat:Int)=b.toNat:=by simpa[Bh]using h
 exact UInt8.toNat_inj.1 (by omega)
theorem a5f{l m:List UInt8}(h:l.map Bh=m.map Bh):l=m:=by
 induction l generalizing m with
 | nil=>cases m with
  | nil=>rfl
  | cons=>simp at h
 | cons a l ih=>cases m with
  | nil=>simp at h
  | cons b m=>
   simp only[CX,List.cons.injEq]at h
   rw[a2F h.1,ih h.2]
theorem BytesW_map(l:List UInt8)(K:List UInt8→Prop):MP (l.map Bh) K=K l:=by
 apply propext
 constructor
 ·rintro ⟨m,h1,h2⟩
  rw[a5f h1]
  exact h2
 ·intro h
  exact ⟨l,rfl,h⟩

def bsK(e size:Nat)(d:Option Nat)(s:St)(K:St→Prop)(vs:List AV):Prop:=I1 size vs∧KS (s.put d (.sl (some e) size (vs.map AV.cells))) K
def aggK(d:Option Nat)(s:St)(K:St→Prop)(cs:List AV):Prop:=KS (s.put d (.agg cs)) K
def bldK(z:List AV)(d:Option Nat)(s:St)(K:St→Prop)(vs:List (Nat × Nat × AV)):Prop:=RL (Fs z vs) (aggK d s K)
def callK(P:Program)(f:Nat)(d:Option Nat)(s:St)(K:St→Prop)(vs:List AV):Prop:=Uj P f (vs.map AV.alias) (putK d s K)
def Hx:AV→AV→AV→(AV→Prop)→Prop
 | .bool c,a,b,K=>(c=true→K a.alias)∧(c=false→K b.alias)
 | _,_,_,_=>False
def pk3K(d:Option Nat)(s:St)(K:St→Prop)(c a b:AV):Prop:=Hx c a b (putK d s K)
def pk2K(y:Opd)(d:Option Nat)(s:St)(K:St→Prop)(c a:AV):Prop:=K1 (y.ev s) (pk3K d s K c a)
def pk1K(x y:Opd)(d:Option Nat)(s:St)(K:St→Prop)(c:AV):Prop:=K1 (x.ev s) (pk2K y d s K c)
def sl3K(size:Option Nat)(d:Option Nat)(s:St)(K:St→Prop)(p:AV)(a b:Nat):Prop:=RK (Mq size p a b) (putK d s K)
def sl2K(size:Option Nat)(hi:Option Opd)(d:Option Nat)(s:St)(K:St→Prop)(p:AV)(a:Nat):Prop:=Kc s (Su p) hi (sl3K size d s K p a)
def sl1K(size:Option Nat)(lo hi:Option Opd)(d:Option Nat)(s:St)(K:St→Prop)(p:AV):Prop:=Kc s 0 lo (sl2K size hi d s K p)
def strK(d:Option Nat)(s:St)(K:St→Prop)(l:List UInt8):Prop:=KS (s.put d (.str l)) K
def UO:AV→(List UInt8→Prop)→Prop
 | .sl _ sz els,K=>sz=1∧MP els K
 | _,_=>False
def b2K(d:Option Nat)(s:St)(K:St→Prop)(p:AV):Prop:=UO p (strK d s K)

section
variable {P:Program} {d:Option Nat} {s:St} {K:St→Prop}
theorem put_none(v:AV):St.put s none v=s:=rfl
theorem ev_t(t:Nat→Option AV)(o:Nat→Option (List AV))(i:Nat):Opd.ev ⟨t,o⟩ (.t i)=t i:=rfl
theorem ev_c(v:AV):Opd.ev s (.c v)=some v:=rfl

theorem kW_mv(x:Opd):kW P d (.mv x) s K=K1 (x.ev s) (mvK d s K):=by
 apply propext
 constructor
 ·rintro ⟨r,⟨v,h1,rfl⟩,h2⟩;exact ⟨v,h1,h2⟩
 ·rintro ⟨v,h1,h2⟩;exact ⟨_,⟨v,h1,rfl⟩,h2⟩
theorem kW_nil(e sz:Nat):kW P d (.nil e sz) s K=KS (s.put d (.sl (some e) sz [])) K:=by
 apply propext
 constructor
 ·rintro ⟨r,rfl,h2⟩;exact h2
 ·intro h;exact ⟨_,rfl,h⟩
theorem kW_tk(i:Nat):kW P d (.tk i) s K=K1 (s.t i) (tkK d i s K):=by
 apply propext
 have:∀ r,B6 d (.tk i) r s=Jq d i s r:=by
  intro r
  cases r<;>try rfl
  rename_i own sz els
  cases own<;>rfl
 constructor
 ·rintro ⟨r,h1,h2⟩
  rw[this]at h2
  exact ⟨r,h1,h2⟩
 ·rintro ⟨r,h1,h2⟩
  refine ⟨r,h1, ?_⟩
  rw[this]
  exact h2
theorem kW_newv(cells:List AV):kW P d (.newv cells) s K=EG s.o (newK d cells s K):=rfl
theorem kW_box(x:Opd):kW P d (.box x) s K=K1 (x.ev s) (boxK d s K):=rfl
theorem kW_ld(n:Option Nat)(x:Opd):kW P d (.ld n x) s K=K1 (x.ev s) (ldK d n s K):=by
 apply propext
 constructor
 ·rintro ⟨r,⟨p,cs,h1,h2,h3⟩,h4⟩;exact ⟨p,h1,cs,h2,r,h3,h4⟩
 ·rintro ⟨p,h1,cs,h2,r,h3,h4⟩;exact ⟨r,⟨p,cs,h1,h2,h3⟩,h4⟩
theorem kW_sto(n:Option Nat)(x v:Opd):kW P d (.sto n x v) s K=K1 (x.ev s) (sto1K (n.getD 1) s v K):=by
 apply propext
 constructor
 ·rintro ⟨r,⟨b,off,a,cs,h1,h2,h3,h4,h5,rfl⟩,h6⟩
  refine ⟨_,h1,a,h2,cs,h3,⟨h4,h5⟩, ?_⟩
  have h7:K { s with o:=upd s.o b (some (splice cs off a.cells)) }:=by simpa only[B6,h1,h2,h3,BE]using h6
  exact h7
 ·rintro ⟨p,h1,a,h2,h⟩
  unfold sto2K at h
  cases p<;>try exact h.elim
  rename_i b off
  obtain ⟨cs,h3,⟨h4,h5⟩,h6⟩:=h
  refine ⟨_,⟨b,off,a,cs,h1,h2,h3,h4,h5,rfl⟩, ?_⟩
  have h7:K { s with o:=upd s.o b (some (splice cs off a.cells)) }:=h6
  simpa only[B6,h1,h2,h3,BE]using h7
theorem kW_ldh(x:Opd):kW P d (.ldh x) s K=K1 (x.ev s) (ldhK d s K):=by
 apply propext
 constructor
 ·rintro ⟨r,⟨p,cs,h1,h2,h3⟩,h4⟩;exact ⟨p,h1,cs,h2,r,h3,h4⟩
 ·rintro ⟨p,h1,cs,h2,r,h3,h4⟩;exact ⟨r,⟨p,cs,h1,h2,h3⟩,h4⟩
theorem kW_ldr(n:Option Nat)(x:Opd):kW P d (.ldr n x) s K=K1 (x.ev s) (un1K (X4 n) d s K):=by
 apply propext
 constructor
 ·rintro ⟨r,⟨cs,h1,h2⟩,h3⟩
  exact ⟨_,h1,r,h2,h3⟩
 ·rintro ⟨p,h1,r,h2,h3⟩
  cases p<;>first|exact h2.elim|skip
  exact ⟨r,⟨_,h1,h2⟩,h3⟩
theorem kW_fld(off:Nat)(x:Opd):kW P d (.fld off x) s K=K1 (x.ev s) (un1K (GE off) d s K):=by
 apply propext
 constructor
 ·rintro ⟨r,⟨p,h1,h2⟩,h3⟩;exact ⟨p,h1,r,h2,h3⟩
 ·rintro ⟨p,h1,r,h2,h3⟩;exact ⟨r,⟨p,h1,h2⟩,h3⟩
theorem kW_idx(size:Nat)(x i:Opd):kW P d (.idx size x i) s K=K1 (x.ev s) (bi1K (Hl size) i d s K):=by
 apply propext
 constructor
 ·rintro ⟨r,⟨p,q,h1,h2,h3⟩,h5⟩;exact ⟨_,h1,_,h2,r,h3,h5⟩
 ·rintro ⟨p,h1,q,h2,r,h3,h4⟩;exact ⟨r,⟨p,q,h1,h2,h3⟩,h4⟩
def QX(n size:Nat):AV→AV→AV→Prop
 | p,.int _ m,r=>(0≤m∧m<(n:Int))∧GE (m.toNat * size) p r
 | _,_,_=>False
theorem kW_aidx(n size:Nat)(x i:Opd):kW P d (.aidx n size x i) s K=K1 (x.ev s) (bi1K (QX n size) i d s K):=by
 apply propext
 constructor
 ·rintro ⟨r,⟨p,k,m,h1,h2,h3,h4⟩,h5⟩;exact ⟨_,h1,_,h2,r,⟨h3,h4⟩,h5⟩
 ·rintro ⟨p,h1,q,h2,r,h3,h4⟩
  cases q<;>try exact h3.elim
  exact ⟨r,⟨_,_,_,h1,h2,h3.1,h3.2⟩,h4⟩
theorem kW_sidx(x i:Opd):kW P d (.sidx x i) s K=K1 (x.ev s) (bi1K TL i d s K):=by
 apply propext
 constructor
 ·rintro ⟨r,⟨l,k,n,h1,h2,h3,h4⟩,h5⟩;exact ⟨_,h1,_,h2,r,⟨h3,h4⟩,h5⟩
 ·rintro ⟨p,h1,q,h2,r,h3,h4⟩
  cases p<;>try exact h3.elim
  cases q<;>try exact h3.elim
  obtain ⟨h5,h6⟩:=h3
  exact ⟨r,⟨_,_,_,h1,h2,h5,h6⟩,h4⟩
theorem kW_bin(op:BinOp)(x y:Opd):kW P d (.bin op x y) s K=K1 (x.ev s) (bi1K (A4 op) y d s K):=by
 apply propext
 constructor
 ·rintro ⟨r,⟨p,q,h1,h2,h3⟩,h4⟩;exact ⟨p,h1,q,h2,r,h3,h4⟩
 ·rintro ⟨p,h1,q,h2,r,h3,h4⟩;exact ⟨r,⟨p,q,h1,h2,h3⟩,h4⟩
theorem kW_beq(neg:Bool)(x y:Opd):kW P d (.beq neg x y) s K=K1 (x.ev s) (bi1K (Ka neg) y d s K):=by
 apply propext
 constructor
 ·rintro ⟨r,⟨a,b,h1,h2,h3⟩,h4⟩;exact ⟨_,h1,_,h2,r,h3,h4⟩
 ·rintro ⟨p,h1,q,h2,r,h3,h4⟩
  cases p<;>try exact h3.elim
  cases q<;>try exact h3.elim
  exact ⟨r,⟨_,_,h1,h2,h3⟩,h4⟩
theorem kW_un(op:UnOp)(x:Opd):kW P d (.un op x) s K=K1 (x.ev s) (un1K (J0 op) d s K):=by
 apply propext
 constructor
 ·rintro ⟨r,⟨p,h1,h2⟩,h3⟩;exact ⟨p,h1,r,h2,h3⟩
 ·rintro ⟨p,h1,r,h2,h3⟩;exact ⟨r,⟨p,h1,h2⟩,h3⟩
theorem kW_len(b:Bool)(x:Opd):kW P d (.len b x) s K=K1 (x.ev s) (un1K (Gf b) d s K):=by
 apply propext
 constructor
 ·rintro ⟨r,⟨p,h1,h2⟩,h3⟩;exact ⟨p,h1,r,h2,h3⟩
 ·rintro ⟨p,h1,r,h2,h3⟩;exact ⟨r,⟨p,h1,h2⟩,h3⟩
theorem kW_app(e size bytes i:Nat)(x:Opd):kW P d (.app e size bytes i x) s K=K1 (s.t i) (app1K e size bytes i x d s K):=by
 apply propext
 constructor
 ·rintro ⟨r,⟨els,own,news,h1,h2,h3,h4,h5⟩,h6⟩;exact ⟨_,h1,_,h2,r,⟨⟨rfl,rfl,rfl⟩,⟨h3,h4⟩,h5⟩,h6⟩
 ·rintro ⟨p,h1,q,h2,r,h3,h4⟩
  cases p<;>try exact h3.elim
  rename_i own sz els
  cases own<;>try exact h3.elim
  cases q<;>try exact h3.elim
  obtain ⟨⟨rfl,rfl,rfl⟩,⟨h5,h6⟩,h7⟩:=h3
  exact ⟨r,⟨_,_,_,h1,h2,h5,h6,h7⟩,h4⟩
theorem kW_bs(e size:Nat)(ps:List Opd):kW P d (.bs e size ps) s K=KL (evs s ps) (bsK e size d s K):=by
 apply propext
 constructor
 ·rintro ⟨r,⟨vs,h1,h2,rfl⟩,h3⟩;exact ⟨vs,h1,(Qf size vs).2 h2,h3⟩
 ·rintro ⟨vs,h1,h2,h3⟩;exact ⟨_,⟨vs,h1,(Qf size vs).1 h2,rfl⟩,h3⟩
def hbsN(e size:Nat)(d:Option Nat)(s:St)(K:St→Prop)(vs:List AV)(g:Nat):Prop:=KS (St.put { s with o:=upd s.o g (some (hc size vs.length (vs.map AV.cells))) } d (.hsl g e size vs.length vs.length)) K
def hbsK(e size:Nat)(d:Option Nat)(s:St)(K:St→Prop)(vs:List AV):Prop:=(I1 size vs∧Hv (vs.map AV.cells)=true)∧EG s.o (hbsN e size d s K vs)
theorem kW_hbs(e size:Nat)(ps:List Opd):kW P d (.hbs e size ps) s K=KL (evs s ps) (hbsK e size d s K):=by
 apply propext
 constructor
 ·rintro ⟨vs,h1,⟨h2,h3⟩,h4⟩;exact ⟨vs,h1,⟨(Qf size vs).2 h2,h3⟩,h4⟩
 ·rintro ⟨vs,h1,⟨h2,h3⟩,h4⟩;exact ⟨vs,h1,⟨(Qf size vs).1 h2,h3⟩,h4⟩
theorem kW_bld(z:List AV)(ps:List (Nat × Nat × Opd)):kW P d (.bld z ps) s K=KP (D5 s ps) (bldK z d s K):=by
 apply propext
 constructor
 ·rintro ⟨r,⟨vs,cs,h1,h2,rfl⟩,h3⟩;exact ⟨vs,h1,cs,h2,h3⟩
 ·rintro ⟨vs,h1,cs,h2,h3⟩;exact ⟨_,⟨vs,cs,h1,h2,rfl⟩,h3⟩
theorem kW_fldv(off:Nat)(n:Option Nat)(x:Opd):kW P d (.fldv off n x) s K=K1 (x.ev s) (un1K (R9 off n) d s K):=by
 apply propext
 constructor
 ·rintro ⟨r,⟨cs,h1,h2,h3⟩,h4⟩;exact ⟨_,h1,r,⟨h2,h3⟩,h4⟩
 ·rintro ⟨p,h1,r,h3,h4⟩
  cases p<;>try exact h3.elim
  exact ⟨r,⟨_,h1,h3.1,h3.2⟩,h4⟩
theorem kW_call(f:Nat)(aS_:List Opd):kW P d (.call f aS_) s K=KL (evs s aS_) (callK P f d s K):=by
 apply propext
 constructor
 ·rintro ⟨r,⟨vs,h1,h2⟩,h3⟩;exact ⟨vs,h1,r,h2,h3⟩
 ·rintro ⟨vs,h1,r,h2,h3⟩;exact ⟨r,⟨vs,h1,h2⟩,h3⟩
def KZ(P:Program)(f:Nat)(vs:List AV)(s:St)(K:AV→Prop):Prop:=∃ r,RO P f vs s.o r∧K r
def croK(P:Program)(f:Nat)(d:Option Nat)(s:St)(K:St→Prop)(vs:List AV):Prop:=KZ P f (vs.map AV.alias) s (putK d s K)
theorem kW_cro(f:Nat)(aS_:List Opd):kW P d (.cro f aS_) s K=KL (evs s aS_) (croK P f d s K):=by
 apply propext
 constructor
 ·rintro ⟨r,⟨vs,h1,h2⟩,h3⟩;exact ⟨vs,h1,r,h2,h3⟩
 ·rintro ⟨vs,h1,r,h2,h3⟩;exact ⟨r,⟨vs,h1,h2⟩,h3⟩
theorem kW_ext(j:Nat)(x:Opd):kW P d (.ext j x) s K=K1 (x.ev s) (un1K (IE j) d s K):=by
 apply propext
 constructor
 ·rintro ⟨r,⟨cs,c,h1,h2,h3⟩,h4⟩;exact ⟨_,h1,r,⟨c,h2,h3⟩,h4⟩
 ·rintro ⟨p,h1,r,h3,h4⟩
  cases p<;>try exact h3.elim
  obtain ⟨c,h5,h6⟩:=h3
  exact ⟨r,⟨_,c,h1,h5,h6⟩,h4⟩
theorem kW_nilc(x:Opd):kW P d (.nilc x) s K=K1 (x.ev s) (un1K NC d s K):=by
 apply propext
 constructor
 ·rintro ⟨r,h|h,h4⟩
  ·obtain ⟨cs,h1,h2⟩:=h;exact ⟨_,h1,r,h2,h4⟩
  ·obtain ⟨b,off,h1,h2⟩:=h;exact ⟨_,h1,r,h2,h4⟩
 ·rintro ⟨p,h1,r,h3,h4⟩
  cases p<;>try exact h3.elim
  ·exact ⟨r,.inl ⟨_,h1,h3⟩,h4⟩
  ·exact ⟨r,.inr ⟨_,_,h1,h3⟩,h4⟩
theorem kW_pick(c x y:Opd):kW P d (.pick c x y) s K=K1 (c.ev s) (pk1K x y d s K):=by
 apply propext
 constructor
 ·rintro ⟨r,⟨cv,av,bv,h1,h2,h3,rfl⟩,h5⟩
  refine ⟨_,h1,_,h2,_,h3, ?_⟩
  cases cv
  ·exact ⟨fun h=>(by cases h),fun _=>h5⟩
  ·exact ⟨fun _=>h5,fun h=>(by cases h)⟩
 ·rintro ⟨c',h1,a,h2,b,h3,h4⟩
  unfold pk3K at h4
  cases c'<;>try exact h4.elim
  rename_i cv
  cases cv
  ·exact ⟨_,⟨_,_,_,h1,h2,h3,rfl⟩,h4.2 rfl⟩
  ·exact ⟨_,⟨_,_,_,h1,h2,h3,rfl⟩,h4.1 rfl⟩
def hs3K(size:Nat)(nolo:Bool)(d:Option Nat)(s:St)(K:St→Prop)(p:AV)(a b:Nat):Prop:=RK (GH size nolo p a b) (putK d s K)
def hs2K(size:Nat)(nolo:Bool)(hi:Option Opd)(d:Option Nat)(s:St)(K:St→Prop)(p:AV)(a:Nat):Prop:=Kc s (Ko p) hi (hs3K size nolo d s K p a)
def hs1K(size:Nat)(lo hi:Option Opd)(d:Option Nat)(s:St)(K:St→Prop)(p:AV):Prop:=Kc s 0 lo (hs2K size lo.isNone hi d s K p)
theorem kW_hslc(size:Nat)(x:Opd)(lo hi:Option Opd):kW P d (.hslc size x lo hi) s K=K1 (x.ev s) (hs1K size lo hi d s K):=by
 apply propext
 constructor
 ·rintro ⟨r,⟨p,a,b,g1,g2,g3,g4⟩,h2⟩
  exact ⟨_,g1,(HP _ _ _ _).2 ⟨a,g2,(HP _ _ _ _).2 ⟨b,g3,r,g4,h2⟩⟩⟩
 ·rintro ⟨p,h1,h2⟩
  obtain ⟨a,g1,h2⟩:=(HP _ _ _ _).1 h2
  obtain ⟨b,g2,r,h3,h4⟩:=(HP _ _ _ _).1 h2
  exact ⟨r,⟨p,a,b,h1,g1,g2,h3⟩,h4⟩
theorem kW_hnl(e sz:Nat):kW P d (.hnl e sz) s K=putK d s K (.hnil e sz):=by
 apply propext
 exact ⟨fun ⟨r,h1,h2⟩=>by obtain rfl:=h1;exact h2,fun h=>⟨_,rfl,h⟩⟩
def MW(e size bytes:Nat)(d:Option Nat)(s:St)(K:St→Prop)(p q:AV):Prop:=MV e size bytes s.o q (fun r o=>KS (St.put ⟨s.t,o⟩ d r) K) p
def hap1K(e size bytes:Nat)(x:Opd)(d:Option Nat)(s:St)(K:St→Prop)(p:AV):Prop:=K1 (x.ev s) (MW e size bytes d s K p)
theorem kW_hap0(e size bytes:Nat)(x:Opd):kW P d (.hap e size bytes none x) s K=hap1K e size bytes x d s K (.hnil e size):=by
 apply propext
 constructor
 ·rintro ⟨p,q,h1,h2,h3⟩
  obtain rfl:AV.hnil e size=p:=Fp h1
  exact ⟨q,h2,h3⟩
 ·rintro ⟨q,h2,h3⟩
  exact ⟨_,q,rfl,h2,h3⟩
theorem kW_hap(e size bytes i:Nat)(x:Opd):kW P d (.hap e size bytes (some i) x) s K=K1 (s.t i) (hap1K e size bytes x d s K):=by
 apply propext
 constructor
 ·rintro ⟨p,q,h1,h2,h3⟩
  exact ⟨p,h1,q,h2,h3⟩
 ·rintro ⟨p,h1,q,h2,h3⟩
  exact ⟨p,q,h1,h2,h3⟩
theorem kW_slc(size:Option Nat)(x:Opd)(lo hi:Option Opd):kW P d (.slc size x lo hi) s K=K1 (x.ev s) (sl1K size lo hi d s K):=by
 apply propext
 constructor
 ·rintro ⟨r,h1,h2⟩
  cases size with
  | none=>
   obtain ⟨l,a,b,g1,g2,g3,g4,g5⟩:=h1
   exact ⟨_,g1,(HP _ _ _ _).2 ⟨a,g2,(HP _ _ _ _).2 ⟨b,g3,r,⟨g4,g5⟩,h2⟩⟩⟩
  | some size=>
   obtain ⟨own,l,a,b,g1,g2,g3,g4,g5⟩:=h1
   exact ⟨_,g1,(HP _ _ _ _).2 ⟨a,g2,(HP _ _ _ _).2 ⟨b,g3,r,⟨rfl,g4,g5⟩,h2⟩⟩⟩
 ·rintro ⟨p,h1,h2⟩
  obtain ⟨a,g1,h2⟩:=(HP _ _ _ _).1 h2
  obtain ⟨b,g2,r,h3,h4⟩:=(HP _ _ _ _).1 h2
  cases size with
  | none=>
   cases p<;>try exact h3.elim
   exact ⟨r,⟨_,a,b,h1,g1,g2,h3.1,h3.2⟩,h4⟩
  | some size=>
   cases p<;>try exact h3.elim
   obtain ⟨rfl,h5,h6⟩:=h3
   exact ⟨r,⟨_,_,a,b,h1,g1,g2,h5,h6⟩,h4⟩
theorem kW_conv(k:IntKind)(x:Opd):kW P d (.conv k x) s K=K1 (x.ev s) (un1K (RJ k) d s K):=by
 apply propext
 constructor
 ·rintro ⟨r,⟨k',n,h1,h2⟩,h3⟩;exact ⟨_,h1,r,h2,h3⟩
 ·rintro ⟨p,h1,r,h3,h4⟩
  cases p<;>try exact h3.elim
  exact ⟨r,⟨_,_,h1,h3⟩,h4⟩
theorem kW_s2s(x:Opd):kW P d (.s2s x) s K=K1 (x.ev s) (un1K TG d s K):=by
 apply propext
 constructor
 ·rintro ⟨r,⟨l,h1,h2⟩,h3⟩;exact ⟨_,h1,r,h2,h3⟩
 ·rintro ⟨p,h1,r,h3,h4⟩
  cases p<;>try exact h3.elim
  exact ⟨r,⟨_,h1,h3⟩,h4⟩
theorem kW_b2s(x:Opd):kW P d (.b2s x) s K=K1 (x.ev s) (b2K d s K):=by
 apply propext
 constructor
 ·rintro ⟨r,⟨own,l,h1,rfl⟩,h3⟩;exact ⟨_,h1,rfl,l,rfl,h3⟩
 ·rintro ⟨p,h1,h⟩
  unfold b2K at h
  cases p<;>try exact h.elim
  obtain ⟨rfl,l,rfl,h3⟩:=h
  exact ⟨_,⟨_,l,h1,rfl⟩,h3⟩

def QY(e bytes:Nat):AV→AV→AV→Prop
 | .sl (some e') sz els,.str l,r=>(e'=e∧sz=1)∧((els.length+l.length) * bytes≤140737488355328∧els.length+l.length≤maxLen)∧r=.sl (some e) 1 (els++l.map Bh)
 | _,_,_=>False
def apps2K(e bytes i:Nat)(d:Option Nat)(s:St)(K:St→Prop)(p q:AV):Prop:=RK (QY e bytes p q) (putK d { s with t:=upd s.t i none } K)
def apps1K(e bytes i:Nat)(x:Opd)(d:Option Nat)(s:St)(K:St→Prop)(p:AV):Prop:=K1 (x.ev s) (apps2K e bytes i d s K p)
theorem kW_apps(e bytes i:Nat)(x:Opd):kW P d (.apps e bytes i x) s K=K1 (s.t i) (apps1K e bytes i x d s K):=by
 apply propext
 constructor
 ·rintro ⟨r,⟨els,l,h1,h2,h3,h4,h5⟩,h6⟩;exact ⟨_,h1,_,h2,r,⟨⟨rfl,rfl⟩,⟨h3,h4⟩,h5⟩,h6⟩
 ·rintro ⟨p,h1,q,h2,r,h3,h4⟩
  cases p<;>try exact h3.elim
  rename_i own sz els
  cases own<;>try exact h3.elim
  cases q<;>try exact h3.elim
  obtain ⟨⟨rfl,rfl⟩,⟨h5,h6⟩,h7⟩:=h3
  exact ⟨r,⟨_,_,h1,h2,h5,h6,h7⟩,h4⟩
theorem a_appsf(e bytes:Nat)(els:List (List AV))(l:List UInt8):QY e bytes (.sl (some e) 1 els) (.str l)=fun r=>(((els.length+l.length) * bytes≤140737488355328∧els.length+l.length≤maxLen)∧r=.sl (some e) 1 (els++l.map Bh)):=funext fun r=>by simp[QY]
def QW(neg:Bool)(ks:List Kd):AV→AV→AV→Prop
 | .agg cs,.agg ds,r=>∃ b,Bb ks cs ds=some b∧r=.bool (if neg then !b else b)
 | _,_,_=>False
theorem kW_aeq(neg:Bool)(ks:List Kd)(x y:Opd):kW P d (.aeq neg ks x y) s K=K1 (x.ev s) (bi1K (QW neg ks) y d s K):=by
 apply propext
 constructor
 ·rintro ⟨r,⟨cs,ds,b,h1,h2,h3,h4⟩,h5⟩;exact ⟨_,h1,_,h2,r,⟨b,h3,h4⟩,h5⟩
 ·rintro ⟨p,h1,q,h2,r,h3,h4⟩
  cases p<;>try exact h3.elim
  cases q<;>try exact h3.elim
  obtain ⟨b,h5,h6⟩:=h3
  exact ⟨r,⟨_,_,b,h1,h2,h5,h6⟩,h4⟩
def KB(o:Option Bool)(K:Bool→Prop):Prop:=∃ b,o=some b∧K b
theorem KB_some(b:Bool)(K:Bool→Prop):KB (some b) K=K b:=by simp[KB]
theorem RK_aeqf(cs ds:List AV)(ks:List Kd)(K:AV→Prop):RK (QW false ks (.agg cs) (.agg ds)) K=KB (Bb ks cs ds) (fun b=>K (.bool b)):=by
 apply propext
 exact ⟨fun ⟨r,⟨b,h1,h2⟩,h3⟩=>⟨b,h1,by rw[h2]at h3;simpa using h3⟩,fun ⟨b,h1,h2⟩=>⟨_,⟨b,h1,rfl⟩,by simpa using h2⟩⟩
theorem RK_aeqt(cs ds:List AV)(ks:List Kd)(K:AV→Prop):RK (QW true ks (.agg cs) (.agg ds)) K=KB (Bb ks cs ds) (fun b=>K (.bool (!b))):=by
 apply propext
 exact ⟨fun ⟨r,⟨b,h1,h2⟩,h3⟩=>⟨b,h1,by rw[h2]at h3;simpa using h3⟩,fun ⟨b,h1,h2⟩=>⟨_,⟨b,h1,rfl⟩,by simpa using h2⟩⟩
def PI(x:Bool):Option Bool→Option Bool
 | some y=>some (x&&y)
 | none=>none
theorem oand_some(x y:Bool):PI x (some y)=some (x&&y):=rfl
theorem eqC_nil:Bb [] [] []=some true:=rfl
theorem eqC_i(k:IntKind)(a b:Int)(ks:List Kd)(cs ds:List AV):Bb (.i::ks) (.int k a::cs) (.int k b::ds)=PI (decide (a=b)) (Bb ks cs ds):=by
 simp only[Bb,DV,Bo];cases Bb ks cs ds<;>rfl
theorem eqC_b(a b:Bool)(ks:List Kd)(cs ds:List AV):Bb (.b::ks) (.bool a::cs) (.bool b::ds)=PI (decide (a=b)) (Bb ks cs ds):=by
 simp only[Bb,DV];cases Bb ks cs ds<;>rfl
theorem eqC_s(a b:List UInt8)(ks:List Kd)(cs ds:List AV):Bb (.s::ks) (.str a::cs) (.str b::ds)=PI (decide (a=b)) (Bb ks cs ds):=by
 simp only[Bb,DV];cases Bb ks cs ds<;>rfl
def calloK(P:Program)(f:Nat)(d:Option Nat)(s:St)(K:St→Prop)(vs:List AV):Prop:=Dg P f (vs.map AV.alias) d s K
theorem kW_callo(f:Nat)(ps:List Opd):kW P d (.callo f ps) s K=KL (evs s ps) (calloK P f d s K):=rfl
def callnK(P:Program)(f:Nat)(d:Option Nat)(s:St)(K:St→Prop)(vs:List AV):Prop:=CallN P f (vs.map AV.alias) d s K
theorem kW_calln(f:Nat)(ps:List Opd):kW P d (.calln f ps) s K=KL (evs s ps) (callnK P f d s K):=rfl
def ldt3(d:Option Nat)(s:St)(K:St→Prop)(b off:Nat)(cs:List AV)(c:AV):Prop:=KS (Hp s d b off cs c) K
def ldt2(d:Option Nat)(s:St)(K:St→Prop)(b off:Nat)(cs:List AV):Prop:=K1 (cs[off]?) (ldt3 d s K b off cs)
def Ss(d:Option Nat)(s:St)(K:St→Prop)(p:AV):Prop:=X5 s d p K
def Wz(P:Program)(ps:List Opd)(d:Option Nat)(s:St)(K:St→Prop)(p:AV):Prop:=∃ ws,evs s ps=some ws∧∃ f,p=.fn f∧K9 P f=true∧Dg P f (ws.map AV.alias) d s K
theorem kW_callv(x:Opd)(ps:List Opd):kW P d (.callv x ps) s K=K1 (x.ev s) (Wz P ps d s K):=rfl
theorem callv_fn(ps:List Opd)(f:Nat):Wz P ps d s K (.fn f)=(K9 P f=true∧KL (evs s ps) (calloK P f d s K)):=by
 apply propext
 constructor
 ·rintro ⟨ws,h1,f',h2,h3,h4⟩;cases h2;exact ⟨h3,ws,h1,h4⟩
 ·rintro ⟨h3,ws,h1,h4⟩;exact ⟨ws,h1,f,rfl,h3,h4⟩
theorem kW_ldt(x:Opd):kW P d (.ldt x) s K=K1 (x.ev s) (Ss d s K):=rfl
theorem ldt_ptr(b off:Nat):Ss d s K (.ptr b off)=KL (s.o b) (ldt2 d s K b off):=rfl
theorem ldt_ro(c:AV)(cs:List AV):Ss d s K (.ro (c::cs))=KS (s.put d c.alias) K:=rfl
def stt3(s:St)(i b off:Nat)(v:AV)(K:St→Prop)(cs:List AV):Prop:=(off<cs.length∧v.cells.length=1)∧KS (GQ s i b off cs v) K
def a0K(s:St)(i:Nat)(K:St→Prop)(p v:AV):Prop:=a0L s i p v K
def stt1(s:St)(i:Nat)(K:St→Prop)(p:AV):Prop:=K1 (s.t i) (a0K s i K p)
theorem kW_stt(x:Opd)(i:Nat):kW P d (.stt x i) s K=K1 (x.ev s) (stt1 s i K):=rfl
theorem stt_ptr(i b off:Nat)(v:AV):a0K s i K (.ptr b off) v=KL (s.o b) (stt3 s i b off v K):=rfl
def BG(l:List (Nat × List AV))(o:Nat→Option (List AV)):Nat→Option (List AV):=fun b=>(lk l b).or (o b)
def ov:List (Nat × List AV)→List (Nat × List AV)→List (Nat × List AV)
 | [],l=>l
 | (b,c)::r,l=>(b,c)::ov r (del l b)
theorem ovr_lk(l m:List (Nat × List AV)):BG l (lk m)=lk (ov l m):=by
 funext i
 induction l generalizing m with
 | nil=>simp[BG,ov,lk]
 | cons x r ih=>
  obtain ⟨b,c⟩:=x
  have h:=ih (del m b)
  simp only[BG]at h
  simp only[BG,ov,lk]
  by_cases hi:i=b
  ·simp[hi]
  ·rw[Ad hi,Ad hi, ← h,Yg,Ad hi]
theorem ov_nil(l:List (Nat × List AV)):ov [] l=l:=rfl
theorem ov_cons(b:Nat)(c:List AV)(r l:List (Nat × List AV)):ov ((b,c)::r) l=(b,c)::ov r (del l b):=rfl
theorem Ab{f:Nat}{vs:List AV}{r:AV}(h:CP P f vs r)(hK:KS (s.put d r) K):Dg P f vs d s K:=by
 refine ⟨fun _=>none,_,fun b cs hb=>(by cases hb),Ug h, ?_⟩
 rintro r' o' ⟨rfl,rfl⟩ _
 exact hK
theorem QP{f:Nat}{vs:List AV}{r:AV}{K:AV→Prop}{o1:List (Nat × List AV)}(h:CT P f vs (lk o1) (fun r' o'=>r'=r∧o'=lk o1))(hsub:∀ b cs,lk o1 b=some cs→s.o b=some cs)(hK:K r):KZ P f vs s K:=
 ⟨r,⟨lk o1,hsub,h⟩,hK⟩
theorem KY{f:Nat}{vs:List AV}{r:AV}{o1 o2:List (Nat × List AV)}(h:CT P f vs (lk o1) (fun r' o'=>r'=r∧o'=lk o2))(hsub:∀ b cs,lk o1 b=some cs→s.o b=some cs)(hK:KS (St.put ⟨s.t,BG o2 s.o⟩ d r) K):Dg P f vs d s K:=by
 refine ⟨lk o1,_,hsub,h, ?_⟩
 rintro r' o' ⟨rfl,rfl⟩ _
 exact hK
theorem Oi{f:Nat}{vs:List AV}{cs:List AV}(h:CT P f vs (fun _=>none) (fun r' o'=>∃ b,r'=.ptr b 0∧o'=lk [(b,cs)]))(hK:EG s.o (fun b=>KS (St.put ⟨s.t,BG [(b,cs)] s.o⟩ d (.ptr b 0)) K)):Dg P f vs d s K:=by
 refine ⟨fun _=>none,_,fun b cs hb=>(by cases hb),h, ?_⟩
 rintro r' o' ⟨b,rfl,rfl⟩ hf
 exact hK b (hf b cs (by simp[lk]) rfl)
def mkK(d:Option Nat)(z:List AV)(n:Nat)(s:St)(K:St→Prop)(b:Nat):Prop:=KS (St.put { s with o:=upd s.o b (some (List.replicate n z).flatten) } d (.osl b 0 n)) K
def Ys(d:Option Nat)(z:List AV)(bytes:Nat)(s:St)(K:St→Prop)(p:AV):Prop:=SP s d z bytes p K
theorem kW_mk(z:List AV)(bytes:Nat)(x:Opd):kW P d (.mk z bytes x) s K=K1 (x.ev s) (Ys d z bytes s K):=rfl
theorem mk_int(z:List AV)(bytes:Nat)(k:IntKind)(m:Int):Ys d z bytes s K (.int k m)=((0≤m∧m≤140737488355328∧m * bytes≤140737488355328)∧EG s.o (mkK d z m.toNat s K)):=rfl
theorem kW_vidx(n size:Nat)(q:Option Nat)(x i:Opd):kW P d (.vidx n size q x i) s K=K1 (x.ev s) (bi1K (TZ n size q) i d s K):=by
 apply propext
 constructor
 ·rintro ⟨r,⟨a,b,h1,h2,h3⟩,h4⟩;exact ⟨a,h1,b,h2,r,h3,h4⟩
 ·rintro ⟨a,h1,b,h2,r,h3,h4⟩;exact ⟨r,⟨a,b,h1,h2,h3⟩,h4⟩
theorem kW_mn(x y:Opd):kW P d (.mn x y) s K=K1 (x.ev s) (bi1K SO y d s K):=by
 apply propext
 constructor
 ·rintro ⟨r,⟨a,b,h1,h2,h3⟩,h4⟩;exact ⟨a,h1,b,h2,r,h3,h4⟩
 ·rintro ⟨a,h1,b,h2,r,h3,h4⟩;exact ⟨r,⟨a,b,h1,h2,h3⟩,h4⟩
theorem opW_none(A:Option Nat)(k:AK):De P ⟨none,A,k⟩ s K=kW P A k s K:=rfl
def gW(P:Program)(want:Bool)(d:Option Nat)(k:AK)(s:St)(K:St→Prop):AV→Prop
 | .bool b=>(b=want→kW P d k s K)∧(b = !want→KS (s.put d .undef) K)
 | .undef=>KS (s.put d .undef) K
 | _=>False
theorem opW_some(j:Nat)(want:Bool)(k:AK):De P ⟨some (j,want),d,k⟩ s K=K1 (s.t j) (gW P want d k s K):=by
 apply propext
 unfold De
 simp only
 constructor
 ·intro h
  split at h
  ·rename_i b hb;exact ⟨_,hb,h⟩
  ·rename_i hb;exact ⟨_,hb,h⟩
  ·exact h.elim
 ·rintro ⟨g,h1,h2⟩
  rw[h1]
  cases g<;>try exact h2.elim
  ·exact h2
  ·exact h2
theorem b4g{c:Bool}{a b:AV}{K:AV→Prop}(h:Sp c (fun c=>Hx (.bool c) a b K)):Hx (.bool c) a b K:=h
theorem b4f{want:Bool}{k:AK}{b:Bool}(h:Sp b (fun b=>gW P want d k s K (.bool b))):gW P want d k s K (.bool b):=h
def Y6(P:Program)(r:List AOp)(K:St→Prop)(s:St):Prop:=IR P r s K
theorem opsW_nil:IR P [] s K=K s:=rfl
theorem opsW_cons(o:AOp)(r:List AOp):IR P (o::r) s K=De P o s (Y6 P r K):=rfl
theorem opsK_ap(r:List AOp):Y6 P r K s=IR P r s K:=rfl
end
section
variable {P:Program} {s:St} {Q:AExit→St→Prop}
def nQ(Q:AExit→St→Prop)(s:St):Prop:=Q .normal s
def wQ(P:Program)(b:ACode)(Q:AExit→St→Prop)(s:St):Prop:=BK P b Q s
theorem nQ_ap:nQ Q s=Q .normal s:=rfl
theorem wQ_ap(b:ACode):wQ P b Q s=BK P b Q s:=rfl
theorem wpx_skip:BK P .skip Q s=Q .normal s:=rfl
theorem wpx_reg(ops:List AOp)(dr:Bool):BK P (.reg ops dr) Q s=IR P ops s (nQ Q):=rfl
theorem wpx_seq(a b:ACode):BK P (.seq a b) Q s=BK P a (Gr (wQ P b Q) Q) s:=rfl
def He(P:Program)(t e:ACode)(Q:AExit→St→Prop)(s:St):AV→Prop
 | .bool b=>(b=true→BK P t Q s)∧(b=false→BK P e Q s)
 | _=>False
theorem wpx_cond(c:Opd)(t e:ACode):BK P (.cond c t e) Q s=K1 (c.ev s) (He P t e Q s):=by
 apply propext
 constructor
 ·rintro ⟨b,h1,h2⟩;exact ⟨_,h1,h2⟩
 ·rintro ⟨v,h1,h2⟩
  cases v<;>try exact h2.elim
  exact ⟨_,h1,h2⟩
theorem b4e{t e:ACode}{b:Bool}(h:Sp b (fun b=>He P t e Q s (.bool b))):He P t e Q s (.bool b):=h
theorem wpx_block(id:Nat)(b:ACode):BK P (.block id b) Q s=BK P b (Iv id Q) s:=rfl
theorem wpx_loopW(b:ACode):BK P (.loop b) Q s=Uo P b Q s:=rfl
theorem wpx_exit(id:Nat):BK P (.exit id) Q s=Q (.exit id) s:=rfl
theorem wpx_ret:BK P .ret Q s=Q .ret s:=rfl
def Us{α:Type}(inv:α→St)(phi:α→Prop)(m:α→Nat)(x:α)(s1:St):Prop:=∃ x',Le (inv x') s1∧phi x'∧m x'<m x
theorem A2{α:Type}{b:ACode}(inv:α→St)(phi:α→Prop)(m:α→Nat)(x0:α)(h0:phi x0)(hle:Le (inv x0) s)
  (hr:∀ x,phi x→BK P b (Gr (Us inv phi m x) Q) (inv x)):Uo P b Q s:=
 ⟨α,inv,phi,m,⟨x0,hle,h0⟩,hr⟩
end

def IC:OT→Bool
 | .nil=>true
 | .op A k=>A.k.det&&IC k
 | .two a b=>IC a&&IC b
def LR(s1 s:St):Prop:=Le s1 s
structure Two (A B:Prop):Prop where
 a:A
 b:B
theorem Aa{A B:Prop}(h1:A)(h2:B):Two A B:=⟨h1,h2⟩
def GN(P:Program):OT→St→(St→Prop)→Prop
 | .nil,s,K=>K s
 | .op A k,s,K=>De P A s fun s'=>GN P k s' K
 | .two a b,s,K=>GN P a s fun s1=>Two (D1 P b s (LR s1)) (K s1)
def Y7(P:Program)(k:OT)(K:St→Prop)(s:St):Prop:=GN P k s K
def Y8(P:Program)(k:OT)(K:St→Prop)(s:St):Prop:=D1 P k s K
def twoK(P:Program)(b:OT)(s:St)(K:St→Prop)(s1:St):Prop:=Two (D1 P b s (LR s1)) (K s1)
section
variable {P:Program} {s:St} {K:St→Prop} {Q:AExit→St→Prop}
theorem otF_nil:GN P .nil s K=K s:=rfl
theorem otF_op(A:AOp)(k:OT):GN P (.op A k) s K=De P A s (Y7 P k K):=rfl
theorem otF_two(a b:OT):GN P (.two a b) s K=GN P a s (twoK P b s K):=rfl
theorem otFK_ap(k:OT):Y7 P k K s=GN P k s K:=rfl
theorem otW_nil:D1 P .nil s K=K s:=rfl
theorem otW_op(A:AOp)(k:OT):D1 P (.op A k) s K=De P A s (Y8 P k K):=rfl
theorem otW_two(a b:OT):D1 P (.two a b) s K=Two (D1 P a s K) (D1 P b s K):=propext ⟨fun h=>⟨h.1,h.2⟩,fun h=>⟨h.1,h.2⟩⟩
theorem otWK_ap(k:OT):Y8 P k K s=D1 P k s K:=rfl
theorem a8s{A:AOp}(hk:A.k.det=true){K K':St→Prop}(h:∀ s',K s'→K' s')(e:De P A s K):De P A s K':=by
 unfold De at e ⊢
 split at e
 ·obtain ⟨r,h1,h2⟩:=(Jy hk).1 e
  exact (Jy hk).2 ⟨r,h1,h _ h2⟩
 ·rename_i j want _
  split at e
  ·rename_i b hb
   refine ⟨fun hw=>?_,fun hw=>h _ (e.2 hw)⟩
   obtain ⟨r,h1,h2⟩:=(Jy hk).1 (e.1 hw)
   exact (Jy hk).2 ⟨r,h1,h _ h2⟩
  ·exact h _ e
  ·exact e.elim
theorem Tc:∀ (t:OT) (s:St) (K:St→Prop),IC t=true→GN P t s K→∃ s1,D1 P t s (Le s1)∧K s1
 | .nil,s,K,_,h=>⟨s,le_refl s,h⟩
 | .op A k,s,K,hd,h=>by
  simp only[IC,AP]at hd
  obtain ⟨w,h1,h2⟩:=a0H hd.1 h
  obtain ⟨s1,h3,h4⟩:=Tc k _ K hd.2 h2
  exact ⟨s1,a8s hd.1 (fun s' e=>by rw[e];exact h3) (Y2 hd.1 h1),h4⟩
 | .two a b,s,K,hd,h=>by
  simp only[IC,AP]at hd
  obtain ⟨s1,h3,h4,h5⟩:=Tc a s _ hd.1 h
  exact ⟨s1,⟨h3,h4⟩,h5⟩
theorem b3W{t:OT}(hd:IC t=true)(h:GN P t s (nQ Q)):BK P (.tree t) Q s:=by
 obtain ⟨s1,h1,h2⟩:=Tc t s _ hd h
 exact ⟨Le s1,fun _ _ g e=>X6 e g,h1,fun s' hs=>⟨s1,hs,h2⟩⟩
def MZ(P:Program)(t:OT)(Q:AExit→St→Prop)(s:St):Prop:=BK P (.tree t) Q s
theorem wpx_treeW(t:OT):BK P (.tree t) Q s=MZ P t Q s:=rfl
def N8(Q:AExit→St→Prop)(s':St):Prop:=∃ s1,Le s1 s'∧nQ Q s1
theorem b3C(h:nQ Q s):N8 Q s:=⟨s,le_refl s,h⟩
theorem a1V{t:OT}(h:D1 P t s (N8 Q)):MZ P t Q s:=⟨N8 Q,fun _ _ g ⟨s1,e,q⟩=>⟨s1,X6 e g,q⟩,h,fun _ hs=>hs⟩
theorem a1W{t:OT}(hd:IC t=true)(h:GN P t s (nQ Q)):MZ P t Q s:=b3W hd h
end
end Go.Proofs.YtfgihnhoocnmdaaGreatDoor
