import GoSem.Claim
import Derived.Lib.LaidTab
import Derived.Lib.ItoaNum
import Derived.WalkKit
import Derived.WalkSpells
import Derived.WalkLawsBesides
import Derived.Still
namespace Go.Proofs.YtfgihnhoocnmdaaGreatDoor
set_option linter.all false
set_option maxHeartbeats 9000000
section
def tabInts:List (Nat × IntKind × List Int):=[
 (1,.u32,[1116352408,1899447441,3049323471,3921009573,961987163,1508970993,2453635748,2870763221,3624381080,310598401,607225278,1426881987,1925078388,2162078206,2614888103,3248222580,3835390401,4022224774,264347078,604807628,770255983,1249150122,1555081692,1996064986,2554220882,2821834349,2952996808,3210313671,3336571891,3584528711,113926993,338241895,666307205,773529912,1294757372,1396182291,1695183700,1986661051,2177026350,2456956037,2730485921,2820302411,3259730800,3345764771,3516065817,3600352804,4094571909,275423344,430227734,506948616,659060556,883997877,958139571,1322822218,1537002063,1747873779,1955562222,2024104815,2227730452,2361852424,2428436474,2756734187,3204031479,3329325298])
 ]
def a3j:List (Nat × (Array Value→Prop)):=(tabInts.map fun x=>(x.1,fun cs=>cs=(x.2.2.map fun z=>Value.int x.2.1 z).toArray))++[
 (2,fun cs=>cs=(Lib.pow10Tab.map fun z=>Value.int .u64 z).toArray)
 , (0,fun cs=>∃ m,cs[0]?=some (.int .i64 m))
 ]
def hotTys:List Nat:=[
 115
 , 145
 ]
def hot2Tys:List Nat:=[
 115
 , 145
 ]
end
section
open Go.RowKit

inductive AV where
 | int (k:IntKind) (n:Int)
 | bool (b:Bool)
 | str (l:List UInt8)
 | agg (cs:List AV)
 | sl (own:Option Nat) (sz:Nat) (els:List (List AV))
 | ro (cs:List AV)
 | ptr (b off:Nat)
 | osl (b off n:Nat)
 | nilp
 | nilT (t:Nat)
 | nili
 | nils (e sz:Nat)
 | mapv (b:Nat)
 | nilm
 | mp (ks vs:List AV) (bs:List Nat) (clk:Nat)
 | itp (b:Nat)
 | mit (m since:Nat) (seen:List Nat) (last:Nat)
 | fn (f:Nat)
 | clo (f:Nat) (cs:List AV)
 | tup (cs:List AV)
 | undef
 | any
 | hsl (g e sz n cap:Nat)
 | hss (g sz a m:Nat)
 | hnil (e sz:Nat)
 | rom (ks vs:List AV)
 deriving Inhabited

def a0D(W:World)(b:Nat):Prop:=∃ cs ty fr,W.heap[b]?=some (.cells cs ty fr)
def b7B(W:World)(b ty:Nat):Prop:=∃ cs fr,W.heap[b]?=some (.cells cs ty fr)
inductive VR (W:World) (U:Nat→Nat→Prop):Value→AV→Prop where
 | int (k:IntKind) (n:Int):VR W U (.int k n) (.int k n)
 | bool (b:Bool):VR W U (.bool b) (.bool b)
 | str (l:List UInt8):VR W U (.string ⟨l.toArray⟩) (.str l)
 | agg (vs:List Value) (cs:List AV) (hl:vs.length=cs.length) (h:∀ (i:Nat) (v:Value) (c:AV),vs[i]?=some v→cs[i]?=some c→VR W U v c) (h1:∀ v∈vs,v.oneCell'=true):VR W U (.agg vs.toArray) (.agg cs)
 | sl (A:Option Addr) (cap:Nat) (own:Option Nat) (els:List (List AV)) (b o sz:Nat) (f:Nat→Nat→Value)
   (hcap:els.length≤cap) (hmax:cap≤maxLen) (hA:0<els.length→A=some ⟨b,o,none⟩) (hs:∀ e∈els,e.length=sz)
   (hc:∀ i j,i<els.length→j<sz→W.cell? ⟨b,o+i * sz+j,none⟩=some (f i j)∧(f i j).oneCell'=true∧¬ U b (o+i * sz+j))
   (hv:∀ (i:Nat) (e:List AV) (j:Nat) (c:AV),els[i]?=some e→e[j]?=some c→VR W U (f i j) c):VR W U (.slice A els.length cap) (.sl own sz els)
 | ro (b o:Nat) (cs:List AV) (f:Nat→Value) (hc:∀ j,j<cs.length→W.cell? ⟨b,o+j,none⟩=some (f j)∧(f j).oneCell'=true∧¬ U b (o+j))
   (hv:∀ (j:Nat) (c:AV),cs[j]?=some c→VR W U (f j) c):VR W U (.pointer (some ⟨b,o,none⟩)) (.ro cs)
 | ptr (b o:Nat) (hm:a0D W b):VR W U (.pointer (some ⟨b,o,none⟩)) (.ptr b o)
 | osl (b o n cap:Nat) (hcap:n≤cap) (hmax:cap≤maxLen) (hm:a0D W b):VR W U (.slice (some ⟨b,o,none⟩) n cap) (.osl b o n)
 | nilp:VR W U (.pointer none) .nilp
 | nilT (t:Nat):VR W U (.pointer none) (.nilT t)
 | nili:VR W U .nilIface .nili
 | nils (e sz:Nat):VR W U (.slice none 0 0) (.nils e sz)
 | mapv (b:Nat):VR W U (.map (some b)) (.mapv b)
 | nilm:VR W U (.map none) .nilm
 | itp (b:Nat):VR W U (.pointer (some ⟨b,0,none⟩)) (.itp b)
 | fn (f:Nat):VR W U (.func (.func f) #[] #[]) (.fn f)
 | clo (f:Nat) (vs:List Value) (cs:List AV) (hl:vs.length=cs.length) (h:∀ (i:Nat) (v:Value) (c:AV),vs[i]?=some v→cs[i]?=some c→VR W U v c):VR W U (.func (.func f) #[] vs.toArray) (.clo f cs)
 | tup (vs:List Value) (cs:List AV) (hl:vs.length=cs.length) (h:∀ (i:Nat) (v:Value) (c:AV),vs[i]?=some v→cs[i]?=some c→VR W U v c):VR W U (.tuple vs.toArray) (.tup cs)
 | undef:VR W U Go.undef .undef
 | any (v:Value):VR W U v .any
 | hsl (g e sz n cap:Nat) (h1:n≤cap) (h2:cap≤maxLen) (hm:b7B W g e):VR W U (.slice (some ⟨g,0,none⟩) n cap) (.hsl g e sz n cap)
 | hss (A:Option Addr) (g sz a m cap:Nat) (h1:m≤cap) (h2:cap≤maxLen) (hA:0<m→A=some ⟨g,a * sz,none⟩) (hm:a0D W g):VR W U (.slice A m cap) (.hss g sz a m)
 | hnil (e sz:Nat):VR W U (.slice none 0 0) (.hnil e sz)
 | rom (b:Nat) (es:Array MapEntry) (clk:Nat) (ks vs:List AV) (hh:W.heap[b]?=some (.map es clk)) (hu:¬ U b 0) (h1:es.size=ks.length) (h2:vs.length=ks.length)
   (hk:∀ (i:Nat) (e:MapEntry) (k:AV),es[i]?=some e→ks[i]?=some k→VR W U e.key k) (hv:∀ (i:Nat) (e:MapEntry) (v:AV),es[i]?=some e→vs[i]?=some v→VR W U e.val v):VR W U (.map (some b)) (.rom ks vs)

structure Keeps (W:World) (U:Nat→Nat→Prop) (W':World) (U':Nat→Nat→Prop):Prop where
 c:∀ b o v,W.cell? ⟨b,o,none⟩=some v→¬ U b o→W'.cell? ⟨b,o,none⟩=some v∧¬ U' b o
 mt:∀ b ty,b7B W b ty→b7B W' b ty
 mp:∀ b es clk,W.heap[b]?=some (.map es clk)→¬ U b 0→W'.heap[b]?=some (.map es clk)∧¬ U' b 0

theorem Keeps.m{W W':World}{U U':Nat→Nat→Prop}(h:Keeps W U W' U'):∀ b,a0D W b→a0D W' b:=fun b ⟨cs,ty,fr,e⟩=>
 let ⟨cs',fr',e'⟩:=h.mt b ty ⟨cs,fr,e⟩; ⟨cs',ty,fr',e'⟩
theorem Keeps.refl(W:World)(U:Nat→Nat→Prop):Keeps W U W U:=⟨fun _ _ _ h hu=>⟨h,hu⟩,fun _ _ h=>h,fun _ _ _ h hu=>⟨h,hu⟩⟩
theorem Keeps.trans{W W' W'':World}{U U' U'':Nat→Nat→Prop}(h:Keeps W U W' U')(h':Keeps W' U' W'' U''):Keeps W U W'' U'':=
 ⟨fun b o v hc hu=>let ⟨h1,h2⟩:=h.c b o v hc hu;h'.c b o v h1 h2,fun b ty hb=>h'.mt b ty (h.mt b ty hb),fun b es clk e hu=>let ⟨h1,h2⟩:=h.mp b es clk e hu;h'.mp b es clk h1 h2⟩

theorem VR.keep{W W':World}{U U':Nat→Nat→Prop}(hk:Keeps W U W' U'){v:Value}{a:AV}(h:VR W U v a):VR W' U' v a:=by
 induction h with
 | int k n=>exact .int k n
 | bool b=>exact .bool b
 | str l=>exact .str l
 | agg vs cs hl _ h1 ih=>exact .agg vs cs hl ih h1
 | sl A cap own els b o sz f hcap hmax hA hs hc _ ih=>
  exact .sl A cap own els b o sz f hcap hmax hA hs (fun i j hi hj=>let ⟨h1,h3,h2⟩:=hc i j hi hj;let ⟨g1,g2⟩:=hk.c _ _ _ h1 h2; ⟨g1,h3,g2⟩) ih
 | ro b o cs f hc _ ih=>exact .ro b o cs f (fun j hj=>let ⟨h1,h3,h2⟩:=hc j hj;let ⟨g1,g2⟩:=hk.c _ _ _ h1 h2; ⟨g1,h3,g2⟩) ih
 | ptr b o hm=>exact .ptr b o (hk.m b hm)
 | osl b o n cap h1 h2 hm=>exact .osl b o n cap h1 h2 (hk.m b hm)
 | nilp=>exact .nilp
 | nilT t=>exact .nilT t
 | nili=>exact .nili
 | nils e sz=>exact .nils e sz
 | mapv b=>exact .mapv b
 | nilm=>exact .nilm
 | itp b=>exact .itp b
 | fn f=>exact .fn f
 | clo f vs cs hl _ ih=>exact .clo f vs cs hl ih
 | tup vs cs hl _ ih=>exact .tup vs cs hl ih
 | undef=>exact .undef
 | any v=>exact .any v
 | hsl g e sz n cap h1 h2 hm=>exact .hsl g e sz n cap h1 h2 (hk.mt g e hm)
 | hss A g sz a m cap h1 h2 hA hm=>exact .hss A g sz a m cap h1 h2 hA (hk.m g hm)
 | hnil e sz=>exact .hnil e sz
 | rom b es clk ks vs hh hu h1 h2 _ _ ihk ihv=>let ⟨g1,g2⟩:=hk.mp b es clk hh hu;exact .rom b es clk ks vs g1 g2 h1 h2 ihk ihv

def AV.alias:AV→AV
 | .sl _ sz els=>.sl none sz els
 | .nils _ sz=>.sl none sz []
 | .nilT _=>.nilp
 | a=>a
def AV.store:AV→AV
 | .nils e sz=>.nils e sz
 | a=>a.alias
theorem VR.nil{W:World}{U:Nat→Nat→Prop}(own:Option Nat)(sz:Nat):VR W U (.slice none 0 0) (.sl own sz []):=.sl (els:=[]) none 0 _ 0 0 _ (fun _ _=>Go.undef) (by simp) (by simp) (by simp) (by simp) (by simp) (by simp)
theorem VR.alias{W:World}{U:Nat→Nat→Prop}{v:Value}{a:AV}(h:VR W U v a):VR W U v a.alias:=by
 cases h with
 | sl A cap own els b o sz f hcap hmax hA hs hc hv=>exact .sl A cap none els b o sz f hcap hmax hA hs hc hv
 | int k n=>exact .int k n
 | bool b=>exact .bool b
 | str l=>exact .str l
 | agg vs cs hl h h1=>exact .agg vs cs hl h h1
 | ro b o cs f hc hv=>exact .ro b o cs f hc hv
 | ptr b o hm=>exact .ptr b o hm
 | osl b o n cap h1 h2 hm=>exact .osl b o n cap h1 h2 hm
 | nilp=>exact .nilp
 | nilT t=>exact .nilp
 | nili=>exact .nili
 | nils e sz=>exact VR.nil none sz
 | mapv b=>exact .mapv b
 | nilm=>exact .nilm
 | itp b=>exact .itp b
 | fn f=>exact .fn f
 | clo f vs cs hl h=>exact .clo f vs cs hl h
 | tup vs cs hl h=>exact .tup vs cs hl h
 | undef=>exact .undef
 | any v=>exact .any v
 | hsl g e sz n cap h1 h2 hm=>exact .hsl g e sz n cap h1 h2 hm
 | hss A g sz a m cap h1 h2 hA hm=>exact .hss A g sz a m cap h1 h2 hA hm
 | hnil e sz=>exact .hnil e sz
 | rom b es clk ks vs hh hu h1 h2 hk hv=>exact .rom b es clk ks vs hh hu h1 h2 hk hv
theorem VR.store{W:World}{U:Nat→Nat→Prop}{v:Value}{a:AV}(h:VR W U v a):VR W U v a.store:=by
 by_cases hn:∃ e sz,a=.nils e sz
 ·obtain ⟨e,sz,rfl⟩:=hn
  exact h
 ·have e:a.store=a.alias:=by cases a<;>first|rfl|exact absurd ⟨_,_,rfl⟩ hn
  rw[e];exact h.alias
theorem VR.ptr_at{W:World}{U:Nat→Nat→Prop}{v:Value}{b o:Nat}(h:VR W U v (.ptr b o)):a0D W b:=by
 cases h;assumption
theorem VR.reown{W:World}{U:Nat→Nat→Prop}{v:Value}{own own':Option Nat}{sz:Nat}{els:List (List AV)}(h:VR W U v (.sl own sz els)):VR W U v (.sl own' sz els):=by
 cases h with
 | sl A cap own els b o sz f hcap hmax hA hs hc hv=>exact .sl A cap own' els b o sz f hcap hmax hA hs hc hv

def RowIn(W:World)(g:Nat)(cur:Array Value)(e:Nat):Prop:=∃ fz:Nat × Nat,W.heap[g]?=some (.cells cur e fz)∧(fz.2=0∨cur.size≤fz.1)
theorem RowIn.of{W:World}{g:Nat}{cur:Array Value}{e:Nat}(h:W.heap[g]?=some (.cells cur e (0,0))):RowIn W g cur e:=⟨_,h,.inl rfl⟩
theorem RowIn.lt{W:World}{g:Nat}{cur:Array Value}{e:Nat}(h:RowIn W g cur e):g<W.heap.size:=by
 obtain ⟨fz,h,_⟩:=h;exact (Array.getElem?_eq_some_iff.1 h).1
theorem RowIn.move{W W':World}{g:Nat}{cur:Array Value}{e:Nat}(h:RowIn W g cur e)(he:W'.heap[g]?=W.heap[g]?):RowIn W' g cur e:=by
 obtain ⟨fz,h,h2⟩:=h;exact ⟨fz,he.trans h,h2⟩
def OwnRow(W:World)(U:Nat→Nat→Prop)(B:Nat→Prop)(v:Value)(e sz n:Nat):Prop:=
 (v=.slice none 0 0∧n=0)∨
 ∃ g cap cur,v=.slice (some ⟨g,0,none⟩) n cap∧B g∧RowIn W g cur e∧n≤cap∧cap≤maxLen∧cur.size=cap * sz∧
  (∀ o,o<n * sz→¬ U g o)∧(∀ o,n * sz≤o→U g o)

def Own1(W:World)(U:Nat→Nat→Prop)(B:Nat→Prop)(v:Value):AV→Prop
 | .sl (some e) sz els=>OwnRow W U B v e sz els.length
 | _=>True

structure Ext (W:World) (U:Nat→Nat→Prop) (W':World) (U':Nat→Nat→Prop):Prop where
 b:Below W.heap.size W W'
 u:∀ k,k<W.heap.size→∀ o,U' k o↔U k o
theorem Ext.refl(W:World)(U:Nat→Nat→Prop):Ext W U W U:=⟨Below.refl _ _,fun _ _ _=>Iff.rfl⟩
theorem Ext.trans{W W' W'':World}{U U' U'':Nat→Nat→Prop}(h:Ext W U W' U')(h':Ext W' U' W'' U''):Ext W U W'' U'':=
 ⟨h.b.trans (h'.b.mono h.b.size),fun k hk o=>(h'.u k (Nat.lt_of_lt_of_le hk h.b.size) o).trans (h.u k hk o)⟩
theorem Ext.keeps{W W':World}{U U':Nat→Nat→Prop}(h:Ext W U W' U'):Keeps W U W' U':=⟨fun b o v hc hu=>by
 have hb:b<W.heap.size:=World.block_lt_of_cell? W ⟨b,o,none⟩ hc
 exact ⟨(h.b.cell (p:=⟨b,o,none⟩) hb).trans hc,fun hu'=>hu ((h.u b hb o).1 hu')⟩,fun b ty ⟨cs,fr,e⟩=>
 ⟨cs,fr,(h.b.block b (Array.getElem?_eq_some_iff.1 e).1).trans e⟩,fun b es clk e hu=>by
 have hb:b<W.heap.size:=(Array.getElem?_eq_some_iff.1 e).1
 exact ⟨(h.b.block b hb).trans e,fun hu'=>hu ((h.u b hb 0).1 hu')⟩⟩
theorem Ext.drew{W W':World}{U U':Nat→Nat→Prop}(h:Ext W U W' U'):Ext W U W'.drew U':=⟨h.b.drew,h.u⟩
theorem Ext.alloc(W:World)(U:Nat→Nat→Prop)(o:Obj)(N:Nat→Prop):Ext W U (W.alloc o) (fun k i=>if k=W.heap.size then N i else U k i):=
 ⟨(Below.refl _ _).alloc (Nat.le_refl _) o,fun k hk i=>by rw[if_neg (by omega)]⟩

def Glob(W:World)(U:Nat→Nat→Prop):Prop:=∀ x∈a3j,(∃ cs ty fr,W.heap[x.1]?=some (.cells cs ty fr)∧x.2 cs)∧∀ o, ¬ U x.1 o
theorem Glob.lt{W:World}{U:Nat→Nat→Prop}(h:Glob W U){x:Nat × (Array Value→Prop)}(hx:x∈a3j):x.1<W.heap.size:=by
 obtain ⟨⟨cs,ty,fr,e,_⟩,_⟩:=h x hx
 exact (Array.getElem?_eq_some_iff.1 e).1
theorem Glob.stay{W W':World}{U U':Nat→Nat→Prop}(h:Glob W U)(hb:∀ x∈a3j,W'.heap[x.1]?=W.heap[x.1]?)(hu:∀ x∈a3j, ∀ o,U' x.1 o↔U x.1 o):Glob W' U':=fun x hx=>
 ⟨by obtain ⟨cs,ty,fr,e,q⟩:=(h x hx).1;exact ⟨cs,ty,fr,(hb x hx).trans e,q⟩,fun o ho=>(h x hx).2 o ((hu x hx o).1 ho)⟩
theorem Glob.ext{W W':World}{U U':Nat→Nat→Prop}(h:Glob W U)(he:Ext W U W' U'):Glob W' U':=h.stay (fun x hx=>he.b.block x.1 (h.lt hx)) (fun x hx=>he.u x.1 (h.lt hx))

def CP(P:Program)(f:Nat)(as:List AV)(r:AV):Prop:=
 ∀ (W:World) (U:Nat→Nat→Prop) (vs:List Value),Glob W U→vs.length=as.length→(∀ (i:Nat) (v:Value) (c:AV),vs[i]?=some v→as[i]?=some c→VR W U v c)→
  Calls P f vs.toArray W fun e W'=>∃ v U',e=.returned v∧VR W' U' v r∧Own1 W' U' (W.heap.size ≤ ·) v r∧Ext W U W' U'

inductive Kd where
 | i|b|s
 deriving Inhabited,DecidableEq
def eq1:Kd→AV→AV→Option Bool
 | .i,.int k a,.int k' b=>if k=k' then some (decide (a=b)) else none
 | .b,.bool a,.bool b=>some (decide (a=b))
 | .s,.str a,.str b=>some (decide (a=b))
 | _,_,_=>none
def eqC:List Kd→List AV→List AV→Option Bool
 | [],[],[]=>some true
 | k::ks,c::cs,d::ds=>match eq1 k c d,eqC ks cs ds with
  | some x,some y=>some (x&&y)
  | _,_=>none
 | _,_,_=>none
end
section
open Go.RowKit

structure St where
 t:Nat→Option AV
 o:Nat→Option (List AV)

def lk{α:Type}:List (Nat × α)→Nat→Option α
 | [],_=>none
 | (k,a)::r,i=>if i=k then some a else lk r i
def pt{α:Type}:List (Nat × α)→Nat→α→List (Nat × α)
 | [],i,a=>[(i,a)]
 | (k,b)::r,i,a=>if i=k then (k,a)::r else (k,b)::pt r i a
def upd{α:Type}(f:Nat→Option α)(i:Nat)(a:Option α):Nat→Option α:=fun j=>if j=i then a else f j
theorem lk_pt{α:Type}(l:List (Nat × α))(i:Nat)(a:α)(j:Nat):lk (pt l i a) j=if j=i then some a else lk l j:=by
 induction l with
 | nil=>simp[pt,lk]
 | cons x r ih=>
  obtain ⟨k,b⟩:=x
  by_cases h:i=k
  ·subst h
   by_cases hj:j=i<;>simp[pt,lk,hj]
  ·simp only[pt,h,if_false,lk,ih]
   by_cases hj:j=k
   ·subst hj
    simp[Ne.symm h]
   ·simp[hj]
theorem upd_lk{α:Type}(l:List (Nat × α))(i:Nat)(a:α):upd (lk l) i (some a)=lk (pt l i a):=by
 funext j
 rw[lk_pt]
 rfl
def del{α:Type}:List (Nat × α)→Nat→List (Nat × α)
 | [],_=>[]
 | (k,b)::r,i=>if i=k then del r i else (k,b)::del r i
theorem lk_del{α:Type}(l:List (Nat × α))(i j:Nat):lk (del l i) j=if j=i then none else lk l j:=by
 induction l with
 | nil=>simp[del,lk]
 | cons x r ih=>
  obtain ⟨k,b⟩:=x
  by_cases h:i=k
  ·subst h
   by_cases hj:j=i
   ·subst hj;simp[del,ih]
   ·simp[del,ih,lk,hj]
  ·simp only[del,h,if_false,lk,ih]
   by_cases hj:j=k
   ·subst hj
    simp[Ne.symm h]
   ·simp[hj]
theorem upd_del{α:Type}(l:List (Nat × α))(i:Nat):upd (lk l) i none=lk (del l i):=by
 funext j
 rw[lk_del]
 rfl
theorem upd_comm{α:Type}(f:Nat→Option α){i j:Nat}(a b:Option α)(h:i≠j):upd (upd f i a) j b=upd (upd f j b) i a:=by
 funext k
 simp only[upd]
 by_cases h1:k=j<;>by_cases h2:k=i<;>simp_all
theorem upd_ne{α:Type}(f:Nat→Option α){i j:Nat}(a:Option α)(h:j≠i):upd f i a j=f j:=by simp[upd,h]
theorem upd_same{α:Type}(f:Nat→Option α)(i:Nat)(a:Option α):upd f i a i=a:=by simp[upd]

def St.put(s:St)(d:Option Nat)(v:AV):St:=
 match d with
 | some d=>{ s with t:=upd s.t d (some v) }
 | none=>s

inductive Loc where
 | t (i:Nat)
 | o (b j:Nat)
def St.at(s:St):Loc→Option AV
 | .t i=>s.t i
 | .o b j=>(s.o b).bind (·[j]?)
def cat(a:Act)(W:World):Loc→Value
 | .t i=>a.tmps.getD i undef
 | .o b j=>match W.heap[b]? with
  | some (.cells vs _ _)=>vs.getD j undef
  | _=>undef

structure Fr (W0:World) (U0:Nat→Nat→Prop) (M:Nat→Prop) (W:World) (U:Nat→Nat→Prop):Prop where
 os:W.os=W0.os
 tape:W.tape=W0.tape
 output:W.output=W0.output
 size:W0.heap.size≤W.heap.size
 block:∀ k,k<W0.heap.size→¬ M k→W.heap[k]?=W0.heap[k]?
 u:∀ k,k<W0.heap.size→¬ M k→∀ o,U k o↔U0 k o
 keeps:Keeps W0 U0 W U
 g0:Glob W0 U0
 gm:∀ x∈a3j, ¬ M x.1
theorem Fr.glob{W0:World}{U0:Nat→Nat→Prop}{M:Nat→Prop}{W:World}{U:Nat→Nat→Prop}(h:Fr W0 U0 M W U):Glob W U:=
 h.g0.stay (fun x hx=>h.block x.1 (h.g0.lt hx) (h.gm x hx)) (fun x hx=>h.u x.1 (h.g0.lt hx) (h.gm x hx))

def a1p:List AV→Option Nat
 | .nilT t::_=>some t
 | _=>none
abbrev b2r(cs:List AV):={ t:TypeId // ∀ u,a1p cs=some u→t=u }
def ObR(W:World)(U:Nat→Nat→Prop)(b:Nat):List AV→Prop
 | [.mp ks vs bs clk]=>∃ es:Array MapEntry,W.heap[b]?=some (.map es clk)∧es.size=ks.length∧vs.length=ks.length∧bs.length=ks.length∧bs.Pairwise (· < ·)∧(∀ x∈bs,x<clk)∧
   ∀ (i:Nat) (e:MapEntry),es[i]?=some e→(∀ k,ks[i]?=some k→VR W U e.key k)∧(∀ v,vs[i]?=some v→VR W U e.val v)∧∀ n,bs[i]?=some n→e.born=n
 | [.mit m since seen last]=>W.heap[b]?=some (.mapIter (some m) since seen.toArray last)
 | cs=>∃ vs, ∃ ty:b2r cs,W.heap[b]?=some (.cells vs ty.1 (0,0))∧vs.size=cs.length∧(∀ j c,cs[j]?=some c→VR W U (vs.getD j undef) c∧(vs.getD j undef).oneCell'=true)
abbrev ObC(W:World)(U:Nat→Nat→Prop)(b:Nat)(cs:List AV):Prop:=
 ∃ vs, ∃ ty:b2r cs,W.heap[b]?=some (.cells vs ty.1 (0,0))∧vs.size=cs.length∧(∀ j c,cs[j]?=some c→VR W U (vs.getD j undef) c∧(vs.getD j undef).oneCell'=true)
theorem ObR.of{W:World}{U:Nat→Nat→Prop}{b:Nat}{cs:List AV}(h:ObC W U b cs):ObR W U b cs:=by
 unfold ObR
 split
 ·obtain ⟨vs,ty,_,_,h3⟩:=h
  have:=(h3 0 _ rfl).1
  generalize vs.getD 0 undef=z at this
  cases this
 ·obtain ⟨vs,ty,_,_,h3⟩:=h
  have:=(h3 0 _ rfl).1
  generalize vs.getD 0 undef=z at this
  cases this
 ·exact h
theorem ObR.to{W:World}{U:Nat→Nat→Prop}{b:Nat}{cs:List AV}(h:ObR W U b cs)(hm:a0D W b):ObC W U b cs:=by
 obtain ⟨c,t,f,e⟩:=hm
 unfold ObR at h
 split at h
 ·obtain ⟨es,h1,_⟩:=h
  rw[e]at h1;cases h1
 ·rw[e]at h;cases h
 ·exact h
theorem ObR.lt{W:World}{U:Nat→Nat→Prop}{b:Nat}{cs:List AV}(h:ObR W U b cs):b<W.heap.size:=by
 unfold ObR at h
 split at h
 ·obtain ⟨es,h1,_⟩:=h
  exact (Array.getElem?_eq_some_iff.1 h1).1
 ·exact (Array.getElem?_eq_some_iff.1 h).1
 ·obtain ⟨vs,ty,h1,_⟩:=h
  exact (Array.getElem?_eq_some_iff.1 h1).1
theorem ObR.move{W W':World}{U U':Nat→Nat→Prop}{b:Nat}{cs:List AV}(h:ObR W U b cs)(hk:Keeps W U W' U')(he:W'.heap[b]?=W.heap[b]?):ObR W' U' b cs:=by
 unfold ObR at h ⊢
 split at h
 ·obtain ⟨es,h1,h2,h3,h4,h5,h6,h7⟩:=h
  exact ⟨es,he.trans h1,h2,h3,h4,h5,h6,fun i e hi=>let ⟨a,b,c⟩:=h7 i e hi; ⟨fun k hx=>(a k hx).keep hk,fun v hx=>(b v hx).keep hk,c⟩⟩
 ·exact he.trans h
 ·obtain ⟨vs,ty,h1,h2,h3⟩:=h
  exact ⟨vs,ty,he.trans h1,h2,fun j c hc=>⟨(h3 j c hc).1.keep hk,(h3 j c hc).2⟩⟩
structure Inv (N:Nat) (W0:World) (U0:Nat→Nat→Prop) (M:Nat→Prop) (a:Act) (W:World) (U:Nat→Nat→Prop) (s:St):Prop where
 sz:a.tmps.size=N
 df:a.defers=[]
 fr:Fr W0 U0 M W U
 tv:∀ i v,s.t i=some v→VR W U (a.tmps.getD i undef) v
 ob:∀ b cs,s.o b=some cs→ObR W U b cs∧(∀ o,U b o)∧(W0.heap.size≤b∨M b)
 ow:∀ ℓ v,s.at ℓ=some v→Own1 W U (fun g=>W0.heap.size≤g∨M g) (cat a W ℓ) v
 ap:∀ ℓ ℓ' e sz els e' sz' els',ℓ≠ℓ'→s.at ℓ=some (.sl (some e) sz els)→s.at ℓ'=some (.sl (some e') sz' els')→
  ∀ g,(cat a W ℓ).ownBlock=some g→(cat a W ℓ').ownBlock≠some g
 no:∀ ℓ e sz els,s.at ℓ=some (.sl (some e) sz els)→∀ g,(cat a W ℓ).ownBlock=some g→s.o g=none

theorem Inv.obc{N:Nat}{W0:World}{U0:Nat→Nat→Prop}{M:Nat→Prop}{a:Act}{W:World}{U:Nat→Nat→Prop}{s:St}(h:Inv N W0 U0 M a W U s){b:Nat}{cs:List AV}(hb:s.o b=some cs)(hm:a0D W b):
  ∃ vs, ∃ ty:b2r cs,W.heap[b]?=some (.cells vs ty.1 (0,0))∧vs.size=cs.length∧(∀ j c,cs[j]?=some c→VR W U (vs.getD j undef) c∧(vs.getD j undef).oneCell'=true)∧(∀ o,U b o)∧(W0.heap.size≤b∨M b):=by
 obtain ⟨h1,h2,h3⟩:=h.ob b cs hb
 obtain ⟨vs,ty,g1,g2,g3⟩:=h1.to hm
 exact ⟨vs,ty,g1,g2,g3,h2,h3⟩
theorem Inv.obs{N:Nat}{W0:World}{U0:Nat→Nat→Prop}{M:Nat→Prop}{a:Act}{W:World}{U:Nat→Nat→Prop}{s:St}(h:Inv N W0 U0 M a W U s){b j:Nat}{cs:List AV}(hb:s.o b=some cs){c:AV}(hc:cs[j]?=some c)
  (hm:∀ ks vs bs clk,c ≠ .mp ks vs bs clk) (hi:∀ m x y z,c ≠ .mit m x y z):
  ∃ vs, ∃ ty:b2r cs,W.heap[b]?=some (.cells vs ty.1 (0,0))∧vs.size=cs.length∧(∀ j c,cs[j]?=some c→VR W U (vs.getD j undef) c∧(vs.getD j undef).oneCell'=true)∧(∀ o,U b o)∧(W0.heap.size≤b∨M b):=by
 obtain ⟨h1,h2,h3⟩:=h.ob b cs hb
 unfold ObR at h1
 split at h1
 ·cases j with
  | zero=>simp only[List.getElem?_cons_zero,Option.some.injEq]at hc;exact absurd hc.symm (hm _ _ _ _)
  | succ j=>simp at hc
 ·cases j with
  | zero=>simp only[List.getElem?_cons_zero,Option.some.injEq]at hc;exact absurd hc.symm (hi _ _ _ _)
  | succ j=>simp at hc
 ·obtain ⟨vs,ty,g1,g2,g3⟩:=h1
  exact ⟨vs,ty,g1,g2,g3,h2,h3⟩
def a0q(W:World)(o:Nat→Option (List AV))(k:Nat):Prop:=
 (∃ cs,o k=some cs)∨∃ b j e sz els,St.at ⟨fun _=>none,o⟩ (.o b j)=some (.sl (some e) sz els)∧(cat { tmps := #[],defers:=[] } W (.o b j)).ownBlock=some k

def CT(P:Program)(f:Nat)(as:List AV)(o:Nat→Option (List AV))(Q:AV→(Nat→Option (List AV))→Prop):Prop:=
 ∀ (W:World) (U:Nat→Nat→Prop) (vs:List Value),vs.length=as.length→(∀ (i:Nat) (v:Value) (c:AV),vs[i]?=some v→as[i]?=some c→VR W U v c)→
  Inv 0 W U (a0q W o) { tmps := #[],defers:=[] } W U ⟨fun _=>none,o⟩→
  Calls P f vs.toArray W fun e W'=>∃ v U' r o',e=.returned v∧Q r o'∧(∀ b cs,o b=some cs→∃ cs',o' b=some cs')∧Inv 1 W U (a0q W o) { tmps := #[v],defers:=[] } W' U' ⟨upd (fun _=>none) 0 (some r),o'⟩
end
section
open Go.RowKit

inductive Opd where
 | t (i:Nat)
 | c (v:AV)
 deriving Inhabited
def Opd.ev(s:St):Opd→Option AV
 | .t i=>s.t i
 | .c v=>some v
def Opd.slots:Opd→List Nat
 | .t i=>[i]
 | .c _=>[]
theorem Opd.ev_congr{s s':St}{x:Opd}(h:∀ i∈x.slots,s.t i=s'.t i):x.ev s=x.ev s':=by
 cases x with
 | t i=>exact h i (by simp[Opd.slots])
 | c v=>rfl

inductive AK where
 | mv (x:Opd)
 | nil (e sz:Nat)
 | tk (i:Nat)
 | newv (cells:List AV)
 | box (x:Opd)
 | ld (n:Option Nat) (x:Opd)
 | sto (n:Option Nat) (x v:Opd)
 | fld (off:Nat) (x:Opd)
 | idx (size:Nat) (x i:Opd)
 | aidx (n size:Nat) (x i:Opd)
 | bin (op:BinOp) (x y:Opd)
 | un (op:UnOp) (x:Opd)
 | len (str:Bool) (x:Opd)
 | app (e size bytes:Nat) (i:Nat) (x:Opd)
 | bs (e size:Nat) (parts:List Opd)
 | bld (zero:List AV) (parts:List (Nat × Nat × Opd))
 | fldv (off:Nat) (n:Option Nat) (x:Opd)
 | call (f:Nat) (args:List Opd)
 | ext (j:Nat) (x:Opd)
 | nilc (x:Opd)
 | pick (c a b:Opd)
 | slc (size:Option Nat) (x:Opd) (lo hi:Option Opd)
 | conv (k:IntKind) (x:Opd)
 | b2s (x:Opd)
 | sidx (x i:Opd)
 | beq (neg:Bool) (x y:Opd)
 | s2s (x:Opd)
 | aeq (neg:Bool) (ks:List Kd) (x y:Opd)
 | apps (e bytes:Nat) (i:Nat) (x:Opd)
 | callo (f:Nat) (args:List Opd)
 | calln (f:Nat) (args:List Opd)
 | cro (f:Nat) (args:List Opd)
 | callv (x:Opd) (args:List Opd)
 | hbs (e size:Nat) (parts:List Opd)
 | ldt (x:Opd)
 | stt (x:Opd) (i:Nat)
 | mk (z:List AV) (bytes:Nat) (x:Opd)
 | vidx (n size:Nat) (q:Option Nat) (x i:Opd)
 | mn (x y:Opd)
 | mx (x y:Opd)
 | mkm
 | mq (z:AV) (ok:Bool) (ks:List Kd) (ag:Bool) (m k:Opd)
 | mu (q:Nat) (z:AV) (ks:List Kd) (ag:Bool) (m k v:Opd)
 | rng (x:Opd)
 | nxt (x:Opd)
 | ent (x:Opd)
 | peq (neg:Bool) (x:Opd)
 | app0 (e size bytes:Nat) (x:Opd)
 | ldr (n:Option Nat) (x:Opd)
 | ldh (x:Opd)
 | hap (e size bytes:Nat) (i:Option Nat) (x:Opd)
 | hnl (e sz:Nat)
 | hslc (size:Nat) (x:Opd) (lo hi:Option Opd)
 | b2o (x:Opd)
 | b2d (x:Opd)
 | asl (n:Nat) (x:Opd)
 | s2b (e:Nat) (x:Opd)
 deriving Inhabited

structure AOp where
 g:Option (Nat × Bool)
 d:Option Nat
 k:AK
 deriving Inhabited

def a1b:BinOp→AV→AV→AV→Prop
 | .add,.int k a,.int k' b,r=>k=k'∧r=.int k (k.wrap (a+b))
 | .sub,.int k a,.int k' b,r=>k=k'∧r=.int k (k.wrap (a - b))
 | .mul,.int k a,.int k' b,r=>k=k'∧r=.int k (k.wrap (a * b))
 | .quo,.int k a,.int k' b,r=>k=k'∧b≠0∧r=.int k (k.wrap (a.tdiv b))
 | .rem,.int k a,.int k' b,r=>k=k'∧b≠0∧r=.int k (a.tmod b)
 | .eql,.int k a,.int k' b,r=>k=k'∧r=.bool (decide (a=b))
 | .neq,.int k a,.int k' b,r=>k=k'∧r=.bool (!decide (a=b))
 | .lss,.int k a,.int k' b,r=>k=k'∧r=.bool (decide (a<b))
 | .leq,.int k a,.int k' b,r=>k=k'∧r=.bool (decide (a≤b))
 | .gtr,.int k a,.int k' b,r=>k=k'∧r=.bool (decide (b<a))
 | .geq,.int k a,.int k' b,r=>k=k'∧r=.bool (decide (b≤a))
 | .add,.str a,.str b,r=>a.length+b.length≤9223372036854775807∧r=.str (a++b)
 | .eql,.str a,.str b,r=>r=.bool (decide (a=b))
 | .neq,.str a,.str b,r=>r=.bool (!decide (a=b))
 | .lss,.str a,.str b,r=>r=.bool (Op.bytesLess a b)
 | .gtr,.str a,.str b,r=>r=.bool (!(Op.bytesLess a b||decide (a=b)))
 | .geq,.str a,.str b,r=>r=.bool (!Op.bytesLess a b)
 | .or,.int k a,.int k' b,r=>k=k'∧r=.int k (k.wrap ((BitVec.ofInt k.bits a ||| BitVec.ofInt k.bits b).toNat))
 | .and,.int k a,.int k' b,r=>k=k'∧r=.int k (k.wrap ((BitVec.ofInt k.bits a &&& BitVec.ofInt k.bits b).toNat))
 | .xor,.int k a,.int k' b,r=>k=k'∧r=.int k (k.wrap ((BitVec.ofInt k.bits a ^^^ BitVec.ofInt k.bits b).toNat))
 | .andNot,.int k a,.int k' b,r=>k=k'∧r=.int k (k.wrap ((BitVec.ofInt k.bits a &&& ~~~BitVec.ofInt k.bits b).toNat))
 | .shl,.int k a,.int _ b,r=>0≤b∧r=.int k (k.wrap (a * 2 ^ (min b.toNat k.bits)))
 | .shr,.int k a,.int _ b,r=>0≤b∧r=.int k (a.fdiv (2 ^ (min b.toNat k.bits)))
 | _,_,_,_=>False

def unR:UnOp→AV→AV→Prop
 | .not,.bool b,r=>r=.bool (!b)
 | .neg,.int k n,r=>r=.int k (k.wrap (0 - n))
 | .xor,.int k n,r=>r=.int k (k.wrap ((BitVec.ofInt k.bits (if k.signed then -1 else k.max) ^^^ BitVec.ofInt k.bits n).toNat))
 | _,_,_=>False

def view(o:Nat→Option (List AV)):AV→Option (List AV)
 | .ro cs=>some cs
 | .ptr b off=>(o b).map (·.drop off)
 | _=>none
def ldR:Option Nat→List AV→AV→Prop
 | none,c::_,r=>r=c.alias
 | some n,cs,r=>n≤cs.length∧r=.agg (cs.take n)
 | _,_,_=>False
def b0V(off:Nat):AV→AV→Prop
 | .ro cs,r=>r=.ro (cs.drop off)
 | .ptr b o,r=>r=.ptr b (o+off)
 | _,_=>False
def b0G:Bool→AV→AV→Prop
 | true,.str l,r=>r=.int .i64 l.length
 | false,.sl _ _ els,r=>r=.int .i64 els.length
 | false,.osl _ _ n,r=>r=.int .i64 n
 | false,.hsl _ _ _ n _,r=>r=.int .i64 n
 | false,.hss _ _ _ m,r=>r=.int .i64 m
 | false,.hnil _ _,r=>r=.int .i64 0
 | _,_,_=>False
def b1p(size:Nat):AV→AV→AV→Prop
 | .sl _ sz els,.int _ n,r=>sz=size∧(0≤n∧n<els.length)∧r=.ro (els.getD n.toNat [])
 | .osl b off len,.int _ n,r=>(0≤n∧n<len)∧r=.ptr b (off+n.toNat * size)
 | .hsl g _ sz len _,.int _ n,r=>sz=size∧(0≤n∧n<len)∧r=.ptr g (n.toNat * size)
 | .hss g sz a len,.int _ n,r=>sz=size∧(0≤n∧n<len)∧r=.ptr g ((a+n.toNat) * size)
 | _,_,_=>False
def b5s(n size:Nat)(q:Option Nat):AV→AV→AV→Prop
 | .agg cs,.int _ m,r=>(0≤m∧m<n∧m.toNat * size<cs.length)∧ldR q (cs.drop (m.toNat * size)) r
 | _,_,_=>False
def a4x(ks:List Kd):Bool→AV→AV→Option Bool
 | true,.agg cs,.agg ds=>eqC ks cs ds
 | false,a,b=>eqC ks [a] [b]
 | _,_,_=>none
def a8D(ks:List Kd)(ag:Bool)(k:AV):List AV→Nat→Option (Option Nat)
 | [],_=>some none
 | x::r,i=>match a4x ks ag k x with
  | some true=>some (some i)
  | some false=>a8D ks ag k r (i+1)
  | none=>none
def a0S(ks:List Kd)(ag:Bool)(k:AV)(kl:List AV):Option (Option Nat):=(a4x ks ag k k).bind fun _=>a8D ks ag k kl 0
def a5C(n:Int):List Nat→Nat→Option Nat
 | [],_=>none
 | b::r,i=>if (b:Int)=n then some i else a5C n r (i+1)
def muF(q:Nat)(z:AV)(ks:List Kd)(ag:Bool)(k v:AV):List AV→Option (AV × List AV)
 | [.mp kl vl bs clk]=>match q with
  | 0=>(a0S ks ag k kl).map fun f=>match f with
   | some i=>(.undef,[.mp kl (vl.set i v.alias) bs clk])
   | none=>(.undef,[.mp (kl++[k.alias]) (vl++[v.alias]) (bs++[clk]) (clk+1)])
  | 1=>(a0S ks ag k kl).map fun f=>match f with
   | some i=>(.tup [vl.getD i .undef,.int .i64 (bs.getD i 0:Nat)],[.mp kl vl bs clk])
   | none=>(.tup [z,.int .i64 (clk:Nat)],[.mp (kl++[k.alias]) (vl++[z]) (bs++[clk]) (clk+1)])
  | 2=>match k with
   | .int .i64 n=>(a5C n bs 0).map fun i=>(.undef,[.mp kl (vl.set i v.alias) bs clk])
   | _=>none
  | 3=>(a0S ks ag k kl).map fun f=>match f with
   | some i=>(.undef,[.mp (kl.eraseIdx i) (vl.eraseIdx i) (bs.eraseIdx i) clk])
   | none=>(.undef,[.mp kl vl bs clk])
  | _=>none
 | _=>none
def muS(s:St)(q:Nat)(z:AV)(ks:List Kd)(ag:Bool)(m k v:Opd):Option (Nat × AV × List AV):=
 match m.ev s,k.ev s,v.ev s with
 | some (.mapv b),some kv,some vv=>(s.o b).bind fun cs=>(muF q z ks ag kv vv cs).map fun x=>(b,x.1,x.2)
 | _,_,_=>none
def mqR(o:Nat→Option (List AV))(z:AV)(ok:Bool)(ks:List Kd)(ag:Bool):AV→AV→AV→Prop
 | .mapv b,k,r=>∃ kl vl bs clk f,o b=some [.mp kl vl bs clk]∧a0S ks ag k kl=some f∧
   r=(match f with
    | some i=>if ok then .tup [vl.getD i .undef,.bool true] else (vl.getD i .undef).alias
    | none=>if ok then .tup [z,.bool false] else z.alias)
 | .rom kl vl,k,r=>∃ f,a0S ks ag k kl=some f∧
   r=(match f with
    | some i=>if ok then .tup [vl.getD i .undef,.bool true] else (vl.getD i .undef).alias
    | none=>if ok then .tup [z,.bool false] else z.alias)
 | .nilm,k,r=>a0S ks ag k []=some none∧r=(if ok then .tup [z,.bool false] else z.alias)
 | _,_,_=>False
def b9S(o:Nat→Option (List AV)):AV→AV→Prop
 | .itp b,r=>∃ m since seen last kl vl bs clk i n,o b=some [.mit m since seen last]∧o m=some [.mp kl vl bs clk]∧clk=last∧seen.getLast?=some n∧bs[i]?=some n∧r=.tup [kl.getD i .undef,vl.getD i .undef]
 | _,_=>False
def b8b:AV→AV→AV→Prop
 | .int k a,.int _ b,r=>r=.int k (if a<b then b else a)
 | _,_,_=>False
def b1r:AV→Option Bool
 | .ptr _ _=>some false
 | .ro _=>some false
 | .nilp=>some true
 | .nilT _=>some true
 | _=>none
def b8c:AV→AV→AV→Prop
 | .int k a,.int _ b,r=>r=.int k (if b<a then b else a)
 | _,_,_=>False
def AV.cells:AV→List AV
 | .agg cs=>cs.map AV.store
 | .tup _=>[]
 | .undef=>[]
 | .any=>[]
 | a=>[a.alias]

def evs(s:St):List Opd→Option (List AV)
 | []=>some []
 | x::r=>match x.ev s,evs s r with
  | some v,some vs=>some (v::vs)
  | _,_=>none
def splice(cs:List AV):Nat→List AV→List AV
 | 0,[]=>cs
 | 0,v::vs=>match cs with
  | []=>[]
  | _::r=>v::splice r 0 vs
 | n+1,vs=>match cs with
  | []=>[]
  | c::r=>c::splice r n vs
def a3X:List AV→List (Nat × Nat × AV)→List AV→Prop
 | cs,[],r=>r=cs
 | cs,(off,n,v)::rest,r=>(v.cells.length=n∧0<n∧off+n≤cs.length)∧a3X (splice cs off v.cells) rest r
def evp(s:St):List (Nat × Nat × Opd)→Option (List (Nat × Nat × AV))
 | []=>some []
 | (a,b,x)::r=>match x.ev s,evp s r with
  | some v,some vs=>some ((a,b,v)::vs)
  | _,_=>none
def a0h(b:UInt8):List AV:=[.int .u8 (b.toNat:Int)]
def a1U(s:St)(dflt:Nat):Option Opd→Nat→Prop
 | none,r=>r=dflt
 | some x,r=>∃ k n,x.ev s=some (.int k n)∧0≤n∧r=n.toNat

def hc(sz cap:Nat)(els:List (List AV)):List AV:=els.flatten++List.replicate ((cap - els.length) * sz) .any
def a6q:AV→Nat
 | .hsl _ _ _ n _=>n
 | .hss _ _ _ m=>m
 | .sl _ _ l=>l.length
 | _=>0
def a5D(size:Nat):Bool→AV→Nat→Nat→AV→Prop
 | true,.hsl g e sz n cap,a,b,r=>sz=size∧(a=0∧b≤n)∧r=.hsl g e sz b cap
 | false,.hsl g _ sz n _,a,b,r=>sz=size∧(a≤b∧b≤n)∧r=.hss g sz a (b - a)
 | _,.hss g sz a0 m,a,b,r=>sz=size∧(a≤b∧b≤m)∧r=.hss g sz (a0+a) (b - a)
 | _,.hnil e sz,a,b,r=>(a=0∧b=0)∧r=.hnil e sz
 | _,.sl _ sz l,a,b,r=>sz=size∧(a≤b∧b≤l.length)∧r=.sl none size ((l.take b).drop a)
 | _,_,_,_,_=>False
def b9b(o:Nat→Option (List AV))(size:Nat):AV→List (List AV)→Prop
 | .sl _ sz news,r=>sz=size∧r=news
 | .hsl g _ sz n cap,r=>sz=size∧∃ els,o g=some (hc sz cap els)∧(∀ e∈els,e.length=sz)∧n≤els.length∧r=els.take n
 | .hss g sz a m,r=>sz=size∧∃ cap els,o g=some (hc sz cap els)∧(∀ e∈els,e.length=sz)∧a+m≤els.length∧r=(els.drop a).take m
 | .hnil _ sz,r=>sz=size∧r=[]
 | _,_=>False
def a3R(els:List (List AV)):Bool:=els.all fun e=>e.all fun c=>match c with
 | .sl (some _) _ _=>false
 | .nilT _=>false
 | _=>true
def noOwn(els:List (List AV)):Prop:=∀ e∈els, ∀ c∈e,(∀ t sz l,c ≠ .sl (some t) sz l)∧∀ t,c ≠ .nilT t
def b5I(e size bytes:Nat)(o:Nat→Option (List AV))(q:AV)(K:AV→(Nat→Option (List AV))→Prop):AV→Prop
 | .hnil _ sz=>sz=size∧∃ news,b9b o size q news∧noOwn news∧(news.length * bytes≤140737488355328∧news.length≤maxLen)∧(news.length=0→K (.hnil e size) o)∧
   (0<news.length→∀ g,o g=none→∀ cap,news.length≤cap→K (.hsl g e size news.length cap) (upd o g (some (hc size cap news))))
 | .hsl g e' sz n cap=>(e'=e∧sz=size)∧∃ news els,b9b o size q news∧noOwn news∧o g=some (hc size cap els)∧(∀ x∈els,x.length=size)∧noOwn els∧(n≤els.length∧els.length≤cap)∧
   ((n+news.length) * bytes≤140737488355328∧n+news.length≤maxLen)∧
   ∀ g',upd o g none g'=none→∀ cap',n+news.length≤cap'→K (.hsl g' e size (n+news.length) cap') (upd (upd o g none) g' (some (hc size cap' (els.take n++news))))
 | _=>False
def b9W(o:Nat→Option (List AV)):AV→AV→Prop
 | .ptr b off,r=>∃ cs,o b=some cs∧cs[off]?=some r
 | .ro (c::_),r=>r=c
 | _,_=>False
def ldE(s:St)(d:Option Nat)(b off:Nat)(cs:List AV):AV→St
 | .sl (some e) sz els=>St.put { s with o:=upd s.o b (some (splice cs off [.sl none sz els])) } d (.sl (some e) sz els)
 | .nils e sz=>s.put d (.sl (some e) sz [])
 | c=>s.put d c.alias
def stE(s:St)(i b off:Nat)(cs:List AV):AV→St
 | .sl (some e) sz els=>⟨upd s.t i (some (.sl none sz els)),upd s.o b (some (splice cs off [.sl (some e) sz els]))⟩
 | v=>{ s with o:=upd s.o b (some (splice cs off v.cells)) }
def RO(P:Program)(f:Nat)(vs:List AV)(o:Nat→Option (List AV))(r:AV):Prop:=
 ∃ o1:Nat→Option (List AV),(∀ b cs,o1 b=some cs→o b=some cs)∧CT P f vs o1 (fun r' o'=>r'=r∧o'=o1)
def hal:AV→AV
 | .nils e sz=>.hnil e sz
 | c=>c.alias
def b7Z:List AV→AV→Prop
 | c::_,r=>r=hal c
 | _,_=>False
def opR(P:Program)(s:St):AK→AV→Prop
 | .mv x,r=>∃ v,x.ev s=some v∧r=v.alias
 | .nil e sz,r=>r=.sl (some e) sz []
 | .tk i,r=>s.t i=some r
 | .ld n x,r=>∃ p cs,x.ev s=some p∧view s.o p=some cs∧ldR n cs r
 | .sto n x v,r=>∃ b off a cs,x.ev s=some (.ptr b off)∧v.ev s=some a∧s.o b=some cs∧a.cells.length=n.getD 1∧off+a.cells.length≤cs.length∧r=.undef
 | .fld off x,r=>∃ p,x.ev s=some p∧b0V off p r
 | .ldr n x,r=>∃ cs,x.ev s=some (.ro cs)∧ldR n cs r
 | .ldh x,r=>∃ p cs,x.ev s=some p∧view s.o p=some cs∧b7Z cs r
 | .hap _ _ _ _ _,_=>False
 | .hnl e sz,r=>r=.hnil e sz
 | .hslc size x lo hi,r=>∃ p a b,x.ev s=some p∧a1U s 0 lo a∧a1U s (a6q p) hi b∧a5D size lo.isNone p a b r
 | .idx size x i,r=>∃ p q,x.ev s=some p∧i.ev s=some q∧b1p size p q r
 | .aidx n size x i,r=>∃ p k m,x.ev s=some p∧i.ev s=some (.int k m)∧(0≤m∧m<(n:Int))∧b0V (m.toNat * size) p r
 | .bin op x y,r=>∃ a b,x.ev s=some a∧y.ev s=some b∧a1b op a b r
 | .un op x,r=>∃ a,x.ev s=some a∧unR op a r
 | .len b x,r=>∃ a,x.ev s=some a∧b0G b a r
 | .app e size bytes i x,r=>∃ els own news,s.t i=some (.sl (some e) size els)∧x.ev s=some (.sl own size news)∧(els.length+news.length) * bytes≤140737488355328∧
   els.length+news.length≤maxLen∧r=.sl (some e) size (els++news)
 | .bs e size parts,r=>∃ vs,evs s parts=some vs∧(∀ v∈vs,v.cells.length=size)∧r=.sl (some e) size (vs.map AV.cells)
 | .bld zero parts,r=>∃ vs cs,evp s parts=some vs∧a3X zero vs cs∧r=.agg cs
 | .fldv off n x,r=>∃ cs,x.ev s=some (.agg cs)∧off<cs.length∧ldR n (cs.drop off) r
 | .call f args,r=>∃ vs,evs s args=some vs∧CP P f (vs.map AV.alias) r
 | .ext j x,r=>∃ cs c,x.ev s=some (.tup cs)∧cs[j]?=some c∧r=c.alias
 | .nilc x,r=>(∃ cs,x.ev s=some (.ro cs)∧r=.ro cs)∨(∃ b off,x.ev s=some (.ptr b off)∧r=.ptr b off)
 | .pick c a b,r=>∃ cv av bv,c.ev s=some (.bool cv)∧a.ev s=some av∧b.ev s=some bv∧r=(if cv then av.alias else bv.alias)
 | .slc none x lo hi,r=>∃ l a b,x.ev s=some (.str l)∧a1U s 0 lo a∧a1U s l.length hi b∧(a≤b∧b≤l.length)∧r=.str ((l.take b).drop a)
 | .slc (some size) x lo hi,r=>∃ own l a b,x.ev s=some (.sl own size l)∧a1U s 0 lo a∧a1U s l.length hi b∧(a≤b∧b≤l.length)∧r=.sl none size ((l.take b).drop a)
 | .conv k x,r=>∃ k' n,x.ev s=some (.int k' n)∧r=.int k (k.wrap n)
 | .b2s x,r=>∃ own l,x.ev s=some (.sl own 1 (l.map a0h))∧r=.str l
 | .sidx x i,r=>∃ l k n,x.ev s=some (.str l)∧i.ev s=some (.int k n)∧(0≤n∧n<l.length)∧r=.int .u8 ((l.getD n.toNat 0).toNat:Int)
 | .beq neg x y,r=>∃ a b,x.ev s=some (.bool a)∧y.ev s=some (.bool b)∧r=.bool (if neg then !decide (a=b) else decide (a=b))
 | .s2s x,r=>∃ l,x.ev s=some (.str l)∧r=.str l
 | .newv _,_=>False
 | .box _,_=>False
 | .aeq neg ks x y,r=>∃ cs ds b,x.ev s=some (.agg cs)∧y.ev s=some (.agg ds)∧eqC ks cs ds=some b∧r=.bool (if neg then !b else b)
 | .apps e bytes i x,r=>∃ els l,s.t i=some (.sl (some e) 1 els)∧x.ev s=some (.str l)∧(els.length+l.length) * bytes≤140737488355328∧els.length+l.length≤maxLen∧r=.sl (some e) 1 (els++l.map a0h)
 | .callo _ _,_=>False
 | .calln _ _,_=>False
 | .callv _ _,_=>False
 | .hbs _ _ _,_=>False
 | .cro f args,r=>∃ vs,evs s args=some vs∧RO P f (vs.map AV.alias) s.o r
 | .ldt x,r=>∃ p,x.ev s=some p∧b9W s.o p r
 | .stt x i,r=>∃ b off v cs,x.ev s=some (.ptr b off)∧s.t i=some v∧s.o b=some cs∧(off<cs.length∧v.cells.length=1)∧r=.undef
 | .mk _ _ _,_=>False
 | .vidx n size q x i,r=>∃ a b,x.ev s=some a∧i.ev s=some b∧b5s n size q a b r
 | .mn x y,r=>∃ a b,x.ev s=some a∧y.ev s=some b∧b8c a b r
 | .mx x y,r=>∃ a b,x.ev s=some a∧y.ev s=some b∧b8b a b r
 | .mkm,_=>False
 | .mq z ok ks ag m k,r=>∃ a b,m.ev s=some a∧k.ev s=some b∧mqR s.o z ok ks ag a b r
 | .mu q z ks ag m k v,r=>∃ b cs,muS s q z ks ag m k v=some (b,r,cs)
 | .rng _,_=>False
 | .nxt _,_=>False
 | .ent x,r=>∃ a,x.ev s=some a∧b9S s.o a r
 | .peq neg x,r=>∃ a b,x.ev s=some a∧b1r a=some b∧r=.bool (if neg then !b else b)
 | .b2o _,_=>False
 | .b2d x,r=>∃ b off n cs l,x.ev s=some (.osl b off n)∧s.o b=some cs∧((cs.drop off).take n=l.map (fun u:UInt8=>AV.int .u8 (u.toNat:Int))∧l.length=n)∧r=.str l
 | .asl n x,r=>∃ b off,x.ev s=some (.ptr b off)∧r=.osl b off n
 | .s2b e x,r=>∃ l,x.ev s=some (.str l)∧l.length≤140737488355328∧r=.sl (some e) 1 (l.map a0h)
 | .app0 e size bytes x,r=>∃ own news,x.ev s=some (.sl own size news)∧news.length * bytes≤140737488355328∧news.length≤maxLen∧r=.sl (some e) size news

def eff(d:Option Nat)(k:AK)(r:AV)(s:St):St:=
 match k with
 | .tk i=>match r with
  | .sl (some _) sz els=>St.put { s with t:=upd s.t i (some (.sl none sz els)) } d r
  | _=>s.put d r.alias
 | .app _ _ _ i _=>St.put { s with t:=upd s.t i none } d r
 | .apps _ _ i _=>St.put { s with t:=upd s.t i none } d r
 | .sto _ x v=>match x.ev s,v.ev s with
  | some (.ptr b off),some a=>{ s with o:=upd s.o b ((s.o b).map (splice · off a.cells)) }
  | _,_=>s
 | .ldt x=>match x.ev s with
  | some (.ptr b off)=>match s.o b with
   | some cs=>ldE s d b off cs r
   | none=>s
  | _=>s.put d r.alias
 | .stt x i=>match x.ev s,s.t i with
  | some (.ptr b off),some v=>match s.o b with
   | some cs=>stE s i b off cs v
   | none=>s
  | _,_=>s
 | .mu q z ks ag m k v=>match muS s q z ks ag m k v with
  | some (b,_,cs)=>St.put { s with o:=upd s.o b (some cs) } d r
  | none=>s
 | _=>s.put d r

def b6h(s:St)(d:Option Nat)(cells:List AV)(K:St→Prop):Prop:=∀ b,s.o b=none→K (St.put { s with o:=upd s.o b (some cells) } d (.ptr b 0))
def mkW(s:St)(d:Option Nat)(z:List AV)(bytes:Nat):AV→(St→Prop)→Prop
 | .int _ m,K=>(0≤m∧m≤140737488355328∧m * bytes≤140737488355328)∧∀ b,s.o b=none→K (St.put { s with o:=upd s.o b (some (List.replicate m.toNat z).flatten) } d (.osl b 0 m.toNat))
 | _,_=>False
def a2b(P:Program)(f:Nat)(vs:List AV)(d:Option Nat)(s:St)(K:St→Prop):Prop:=
 ∃ (o1:Nat→Option (List AV)) (Q:AV→(Nat→Option (List AV))→Prop),(∀ b cs,o1 b=some cs→s.o b=some cs)∧CT P f vs o1 Q∧
  ∀ r o2,Q r o2→(∀ b cs,o2 b=some cs→o1 b=none→s.o b=none)→K (St.put ⟨s.t,fun b=>(o2 b).or (s.o b)⟩ d r)
def CallN(P:Program)(f:Nat)(vs:List AV)(d:Option Nat)(s:St)(K:St→Prop):Prop:=
 ∃ Q:AV→(Nat→Option (List AV))→Prop,CT P f vs (fun _=>none) Q∧∀ r o2,Q r o2→(∀ b cs,o2 b=some cs→s.o b=none)→K (St.put ⟨s.t,fun b=>(o2 b).or (s.o b)⟩ d r)
theorem CallN.toO{P:Program}{f:Nat}{vs:List AV}{d:Option Nat}{s:St}{K:St→Prop}(h:CallN P f vs d s K):a2b P f vs d s K:=by
 obtain ⟨Q,h1,h2⟩:=h
 exact ⟨fun _=>none,Q,fun b cs hb=>(by cases hb),h1,fun r o2 hq hf=>h2 r o2 hq fun b cs hb=>hf b cs hb rfl⟩
def b9u(s:St)(d:Option Nat):AV→(St→Prop)→Prop
 | .ptr b off,K=>∃ cs,s.o b=some cs∧∃ c,cs[off]?=some c∧K (ldE s d b off cs c)
 | .ro (c::_),K=>K (s.put d c.alias)
 | _,_=>False
def b9J(s:St)(i:Nat):AV→AV→(St→Prop)→Prop
 | .ptr b off,v,K=>∃ cs,s.o b=some cs∧(off<cs.length∧v.cells.length=1)∧K (stE s i b off cs v)
 | _,_,_=>False
def b9v(s:St)(d:Option Nat)(K:St→Prop):Prop:=∀ b,s.o b=none→K (St.put { s with o:=upd s.o b (some [.mp [] [] [] 0]) } d (.mapv b))
def b9D(s:St)(d:Option Nat):AV→(St→Prop)→Prop
 | .mapv m,K=>∃ kl vl bs clk,s.o m=some [.mp kl vl bs clk]∧∀ b,s.o b=none→K (St.put { s with o:=upd s.o b (some [.mit m clk [] clk]) } d (.itp b))
 | _,_=>False
def b9y(s:St)(d:Option Nat):AV→(St→Prop)→Prop
 | .itp b,K=>∃ m since seen last kl vl bs clk,s.o b=some [.mit m since seen last]∧s.o m=some [.mp kl vl bs clk]∧(clk=since∧last=clk)∧
   (∀ i n,bs[i]?=some n→n ∉ seen→K (St.put { s with o:=upd s.o b (some [.mit m since (seen++[n]) clk]) } d (.tup [.bool true,kl.getD i .undef,vl.getD i .undef])))∧
   ((∀ n∈bs,n∈seen)→K (s.put d (.tup [.bool false])))
 | _,_=>False
def byC(u:UInt8):AV:=.int .u8 (u.toNat:Int)
def b9P(s:St)(d:Option Nat):AV→(St→Prop)→Prop
 | .sl _ sz els,K=>sz=1∧∃ l:List UInt8,els=l.map a0h∧K (s.put d (.str l))
 | .osl b off n,K=>∃ cs l,s.o b=some cs∧((cs.drop off).take n=l.map byC∧l.length=n)∧K (s.put d (.str l))
 | _,_=>False
def b7V(s:St)(e size:Nat):Option Nat→Option AV
 | none=>some (.hnil e size)
 | some i=>s.t i
def b1a(P:Program)(f:Nat):Bool:=((P.funcs[f]?).map fun fn=>fn.body.isSome && !(fn.name == "runtime.NumGoroutine")).getD false
def kW(P:Program)(d:Option Nat)(k:AK)(s:St)(K:St→Prop):Prop:=
 match k with
 | .newv cells=>b6h s d cells K
 | .box x=>∃ v,x.ev s=some v∧0<v.cells.length∧b6h s d v.cells K
 | .callo f vs=>∃ ws,evs s vs=some ws∧a2b P f (ws.map AV.alias) d s K
 | .calln f vs=>∃ ws,evs s vs=some ws∧CallN P f (ws.map AV.alias) d s K
 | .callv x vs=>∃ p,x.ev s=some p∧∃ ws,evs s vs=some ws∧∃ f,p=.fn f∧b1a P f=true∧a2b P f (ws.map AV.alias) d s K
 | .hbs e size ps=>∃ vs,evs s ps=some vs∧((∀ v∈vs,v.cells.length=size)∧a3R (vs.map AV.cells)=true)∧∀ g,s.o g=none→K (St.put { s with o:=upd s.o g (some (hc size vs.length (vs.map AV.cells))) } d (.hsl g e size vs.length vs.length))
 | .ldt x=>∃ p,x.ev s=some p∧b9u s d p K
 | .mk z bytes x=>∃ p,x.ev s=some p∧mkW s d z bytes p K
 | .stt x i=>∃ p,x.ev s=some p∧∃ v,s.t i=some v∧b9J s i p v K
 | .mkm=>b9v s d K
 | .rng x=>∃ p,x.ev s=some p∧b9D s d p K
 | .nxt x=>∃ p,x.ev s=some p∧b9y s d p K
 | .b2o x=>∃ p,x.ev s=some p∧b9P s d p K
 | .hap e size bytes i x=>∃ p q,b7V s e size i=some p∧x.ev s=some q∧b5I e size bytes s.o q (fun r o=>K (St.put ⟨s.t,o⟩ d r)) p
 | k=>∃ r,opR P s k r∧K (eff d k r s)
def opW(P:Program)(o:AOp)(s:St)(K:St→Prop):Prop:=
 match o.g with
 | none=>kW P o.d o.k s K
 | some (j,want)=>match s.t j with
  | some (.bool b)=>(b=want→kW P o.d o.k s K)∧(b = !want→K (s.put o.d .undef))
  | some .undef=>K (s.put o.d .undef)
  | _=>False
def b2N(P:Program):List AOp→St→(St→Prop)→Prop
 | [],s,K=>K s
 | o::r,s,K=>opW P o s fun s'=>b2N P r s' K

inductive OT where
 | nil
 | op (A:AOp) (k:OT)
 | two (a b:OT)
 deriving Inhabited
def otW(P:Program):OT→St→(St→Prop)→Prop
 | .nil,s,K=>K s
 | .op A k,s,K=>opW P A s fun s'=>otW P k s' K
 | .two a b,s,K=>otW P a s K∧otW P b s K
inductive AExit where
 | normal|exit (id:Nat)|ret
inductive ACode where
 | skip
 | reg (ops:List AOp) (draw:Bool)
 | tree (t:OT)
 | seq (a b:ACode)
 | cond (c:Opd) (t e:ACode)
 | block (id:Nat) (b:ACode)
 | loop (b:ACode)
 | exit (id:Nat)
 | ret
 deriving Inhabited
def Le(s' s:St):Prop:=(∀ i v,s'.t i=some v→s.t i=some v)∧(∀ b cs,s'.o b=some cs→s.o b=some cs)
def a9K(K:St→Prop)(Q:AExit→St→Prop):AExit→St→Prop
 | .normal,s=>K s
 | e,s=>Q e s
def a7g(id:Nat)(Q:AExit→St→Prop):AExit→St→Prop
 | .exit i,s=>if i=id then Q .normal s else Q (.exit i) s
 | e,s=>Q e s
def wpx(P:Program):ACode→(AExit→St→Prop)→St→Prop
 | .skip,Q,s=>Q .normal s
 | .reg ops _,Q,s=>b2N P ops s (Q .normal)
 | .tree t,Q,s=>∃ K':St→Prop,(∀ s1 s2,Le s1 s2→K' s1→K' s2)∧otW P t s K'∧∀ s',K' s'→∃ s1,Le s1 s'∧Q .normal s1
 | .seq a b,Q,s=>wpx P a (a9K (wpx P b Q) Q) s
 | .cond c t e,Q,s=>∃ b,c.ev s=some (.bool b)∧(b=true→wpx P t Q s)∧(b=false→wpx P e Q s)
 | .block id b,Q,s=>wpx P b (a7g id Q) s
 | .loop b,Q,s=>∃ (α:Type) (inv:α→St) (phi:α→Prop) (m:α→Nat),(∃ x0,Le (inv x0) s∧phi x0)∧∀ x,phi x→wpx P b (a9K (fun s1=>∃ x',Le (inv x') s1∧phi x'∧m x'<m x) Q) (inv x)
 | .exit id,Q,s=>Q (.exit id) s
 | .ret,Q,s=>Q .ret s
end
section
open Go.RowKit

section
variable {N:Nat} {W0:World} {U0:Nat→Nat→Prop} {M:Nat→Prop} {a:Act} {W:World} {U:Nat→Nat→Prop} {s:St}

theorem Le.at_{s' s:St}(h:Le s' s){ℓ:Loc}{v:AV}(hv:s'.at ℓ=some v):s.at ℓ=some v:=by
 cases ℓ with
 | t i=>exact h.1 i v hv
 | o b j=>
  simp only[St.at,Option.bind_eq_some_iff]at hv ⊢
  obtain ⟨cs,h1,h2⟩:=hv
  exact ⟨cs,h.2 b cs h1,h2⟩

theorem Inv.le{s':St}(h:Inv N W0 U0 M a W U s)(hl:Le s' s):Inv N W0 U0 M a W U s' where
 sz:=h.sz
 df:=h.df
 fr:=h.fr
 tv:=fun i v hv=>h.tv i v (hl.1 i v hv)
 ob:=fun b cs hb=>h.ob b cs (hl.2 b cs hb)
 ow:=fun ℓ v hv=>h.ow ℓ v (hl.at_ hv)
 ap:=fun ℓ ℓ' e sz els e' sz' els' hne h1 h2=>h.ap ℓ ℓ' e sz els e' sz' els' hne (hl.at_ h1) (hl.at_ h2)
 no:=fun ℓ e sz els h1 g hg=>by
  have h2:=h.no ℓ e sz els (hl.at_ h1) g hg
  cases h3:s'.o g with
  | none=>rfl
  | some cs=>rw[hl.2 g cs h3]at h2;cases h2

theorem OwnRow.lt{B:Nat→Prop}{v:Value}{e sz n:Nat}(h:OwnRow W U B v e sz n){g:Nat}(hg:v.ownBlock=some g):g<W.heap.size:=by
 rcases h with ⟨rfl,_⟩ | ⟨g',cap,cur,rfl,_,hh,_⟩
 ·simp[Value.ownBlock]at hg
 ·simp[Value.ownBlock]at hg
  subst hg
  exact hh.lt

theorem OwnRow.ext{W':World}{U':Nat→Nat→Prop}(he:Ext W U W' U'){B:Nat→Prop}{v:Value}{e sz n:Nat}(h:OwnRow W U B v e sz n):OwnRow W' U' B v e sz n:=by
 rcases h with h | ⟨g,cap,cur,rfl,hB,hh,h1,h2,h3,h4,h5⟩
 ·exact .inl h
 ·have hlt:=hh.lt
  exact .inr ⟨g,cap,cur,rfl,hB,hh.move (he.b.block g hlt),h1,h2,h3,fun o ho hu=>h4 o ho ((he.u g hlt o).1 hu),fun o ho=>(he.u g hlt o).2 (h5 o ho)⟩

theorem Own1.ext{W':World}{U':Nat→Nat→Prop}(he:Ext W U W' U'){B:Nat→Prop}{v:Value}{r:AV}(h:Own1 W U B v r):Own1 W' U' B v r:=by
 unfold Own1 at *
 split at h
 ·exact OwnRow.ext he h
 ·trivial

theorem Fr.ext{W':World}{U':Nat→Nat→Prop}(h:Fr W0 U0 M W U)(he:Ext W U W' U'):Fr W0 U0 M W' U' where
 g0:=h.g0
 gm:=h.gm
 os:=he.b.os.trans h.os
 tape:=he.b.tape.trans h.tape
 output:=he.b.output.trans h.output
 size:=Nat.le_trans h.size he.b.size
 block:=fun k hk hm=>(he.b.block k (Nat.lt_of_lt_of_le hk h.size)).trans (h.block k hk hm)
 u:=fun k hk hm o=>(he.u k (Nat.lt_of_lt_of_le hk h.size) o).trans (h.u k hk hm o)
 keeps:=h.keeps.trans he.keeps

theorem cat_ext{W':World}(hb:Below W.heap.size W W'){ℓ:Loc}{v:AV}(hob:∀ b cs,s.o b=some cs→b<W.heap.size)(h:s.at ℓ=some v):cat a W' ℓ=cat a W ℓ:=by
 cases ℓ with
 | t i=>rfl
 | o b j=>
  simp only[St.at,Option.bind_eq_some_iff]at h
  obtain ⟨cs,h1,_⟩:=h
  simp only[cat,hb.block b (hob b cs h1)]

theorem Inv.ob_lt(h:Inv N W0 U0 M a W U s):∀ b cs,s.o b=some cs→b<W.heap.size:=fun b cs hb=>by
 exact (h.ob b cs hb).1.lt

theorem Inv.ext{W':World}{U':Nat→Nat→Prop}(h:Inv N W0 U0 M a W U s)(he:Ext W U W' U'):Inv N W0 U0 M a W' U' s where
 sz:=h.sz
 df:=h.df
 fr:=h.fr.ext he
 tv:=fun i v hv=>(h.tv i v hv).keep he.keeps
 ob:=fun b cs hb=>by
  obtain ⟨h1,h4,h5⟩:=h.ob b cs hb
  exact ⟨h1.move he.keeps (he.b.block b h1.lt),fun o=>(he.u b h1.lt o).2 (h4 o),h5⟩
 ow:=fun ℓ v hv=>by
  rw[cat_ext he.b h.ob_lt hv]
  exact (h.ow ℓ v hv).ext he
 ap:=fun ℓ ℓ' e sz els e' sz' els' hne h1 h2=>by
  rw[cat_ext he.b h.ob_lt h1,cat_ext he.b h.ob_lt h2]
  exact h.ap ℓ ℓ' e sz els e' sz' els' hne h1 h2
 no:=fun ℓ e sz els h1=>by
  rw[cat_ext he.b h.ob_lt h1]
  exact h.no ℓ e sz els h1

theorem a1H(a:Act){d:Nat}(v:Value)(h:d<a.tmps.size):(a.put (some d) v).tmps.getD d undef=v:=by
 simp[Act.put,h]
theorem a6N(a:Act){d i:Nat}(v:Value)(h:i≠d):(a.put (some d) v).tmps.getD i undef=a.tmps.getD i undef:=by
 simp[Act.put,Ne.symm h]

def Sole(W0:World)(M:Nat→Prop)(a:Act)(W:World)(U:Nat→Nat→Prop)(s:St)(d:Nat)(v:Value)(r:AV):Prop:=
 ∀ e sz els,r=.sl (some e) sz els→OwnRow W U (fun g=>W0.heap.size≤g∨M g) v e sz els.length∧
  ∀ g,v.ownBlock=some g→s.o g=none∧∀ ℓ,ℓ ≠ .t d→(∃ e sz els,s.at ℓ=some (.sl (some e) sz els))→(cat a W ℓ).ownBlock≠some g

theorem at_put_ne{s:St}{d:Nat}{r:AV}{ℓ:Loc}(h:ℓ ≠ .t d):(s.put (some d) r).at ℓ=s.at ℓ:=by
 cases ℓ with
 | t i=>
  have:i≠d:=fun e=>h (by rw[e])
  simp[St.put,St.at,upd,this]
 | o b j=>rfl
theorem at_put_same{s:St}{d:Nat}{r:AV}:(s.put (some d) r).at (.t d)=some r:=by simp[St.put,St.at,upd]
theorem cat_put_ne{d:Nat}{v:Value}{ℓ:Loc}(h:ℓ ≠ .t d):cat (a.put (some d) v) W ℓ=cat a W ℓ:=by
 cases ℓ with
 | t i=>
  have:i≠d:=fun e=>h (by rw[e])
  exact a6N a v this
 | o b j=>rfl
instance (ℓ:Loc) (d:Nat):Decidable (ℓ=.t d):=by
 cases ℓ with
 | t i=>exact if h:i=d then isTrue (by rw[h]) else isFalse (fun e=>h (by injection e))
 | o b j=>exact isFalse (fun e=>by cases e)

theorem Inv.put(h:Inv N W0 U0 M a W U s){d:Nat}(hd:d<N){v:Value}{r:AV}(hv:VR W U v r)(ho:Sole W0 M a W U s d v r):
  Inv N W0 U0 M (a.put (some d) v) W U (s.put (some d) r) where
 sz:=by simpa[Act.put]using h.sz
 df:=h.df
 fr:=h.fr
 tv:=fun i x hx=>by
  by_cases hi:i=d
  ·subst hi
   rw[a1H a v (by rw[h.sz];exact hd)]
   simp only[St.put,upd_same,Option.some.injEq]at hx
   exact hx▸hv
  ·rw[a6N a v hi]
   simp only[St.put,upd_ne _ _ hi]at hx
   exact h.tv i x hx
 ob:=h.ob
 ow:=fun ℓ x hx=>by
  by_cases hl:ℓ=.t d
  ·subst hl
   rw[at_put_same]at hx
   cases hx
   have hc:cat (a.put (some d) v) W (.t d)=v:=a1H a v (by rw[h.sz];exact hd)
   rw[hc]
   unfold Own1
   split
   ·exact (ho _ _ _ rfl).1
   ·trivial
  ·rw[at_put_ne hl]at hx
   rw[cat_put_ne hl]
   exact h.ow ℓ x hx
 ap:=fun ℓ ℓ' e sz els e' sz' els' hne h1 h2 g hg=>by
  have hc:cat (a.put (some d) v) W (.t d)=v:=a1H a v (by rw[h.sz];exact hd)
  by_cases hl:ℓ=.t d
  ·subst hl
   rw[hc]at hg
   rw[at_put_same]at h1
   have hl':ℓ' ≠ .t d:=fun e=>hne e.symm
   rw[at_put_ne hl']at h2
   rw[cat_put_ne hl']
   cases h1
   exact ((ho _ _ _ rfl).2 g hg).2 ℓ' hl' ⟨_,_,_,h2⟩
  ·rw[at_put_ne hl]at h1
   rw[cat_put_ne hl]at hg
   by_cases hl':ℓ'=.t d
   ·subst hl'
    rw[hc]
    rw[at_put_same]at h2
    cases h2
    intro hg'
    exact ((ho _ _ _ rfl).2 g hg').2 ℓ hl ⟨_,_,_,h1⟩ hg
   ·rw[at_put_ne hl']at h2
    rw[cat_put_ne hl']
    exact h.ap ℓ ℓ' e sz els e' sz' els' hne h1 h2 g hg
 no:=fun ℓ e sz els h1 g hg=>by
  have hc:cat (a.put (some d) v) W (.t d)=v:=a1H a v (by rw[h.sz];exact hd)
  by_cases hl:ℓ=.t d
  ·subst hl
   rw[hc]at hg
   rw[at_put_same]at h1
   cases h1
   exact ((ho _ _ _ rfl).2 g hg).1
  ·rw[at_put_ne hl]at h1
   rw[cat_put_ne hl]at hg
   exact h.no ℓ e sz els h1 g hg

theorem Sole.plain{d:Nat}{v:Value}{r:AV}(h:∀ e sz els,r ≠ .sl (some e) sz els):Sole W0 M a W U s d v r:=fun e sz els hr=>absurd hr (h e sz els)
theorem Sole.fresh{W':World}{U':Nat→Nat→Prop}(h:Inv N W0 U0 M a W U s)(he:Ext W U W' U'){d:Nat}{v:Value}{r:AV}(ho:Own1 W' U' (W.heap.size ≤ ·) v r):Sole W0 M a W' U' s d v r:=by
 intro e sz els hr
 subst hr
 simp only[Own1]at ho
 refine ⟨?_,fun g hg=>?_⟩
 ·rcases ho with ho | ⟨g,cap,cur,h0,hB,h1⟩
  ·exact .inl ho
  ·exact .inr ⟨g,cap,cur,h0,.inl (Nat.le_trans h.fr.size hB),h1⟩
 ·have hge:W.heap.size≤g:=by
   rcases ho with ⟨rfl,_⟩ | ⟨g',cap,cur,rfl,hB,_⟩
   ·simp[Value.ownBlock]at hg
   ·simp[Value.ownBlock]at hg
    omega
  refine ⟨?_,fun ℓ _ ⟨e',sz',els',hl⟩ hg'=>?_⟩
  ·cases hs:s.o g with
   | none=>rfl
   | some cs=>have:=h.ob_lt g cs hs;omega
  ·rw[cat_ext he.b h.ob_lt hl]at hg'
   have h1:=h.ow ℓ _ hl
   simp only[Own1]at h1
   have:=h1.lt hg'
   omega

theorem Inv.putO(h:Inv N W0 U0 M a W U s){d:Option Nat}(hd:∀ i,d=some i→i<N){v:Value}{r:AV}(hv:VR W U v r)(ho:∀ i,d=some i→Sole W0 M a W U s i v r):
  Inv N W0 U0 M (a.put d v) W U (s.put d r):=by
 cases d with
 | none=>exact h
 | some i=>exact h.put (hd i rfl) hv (ho i rfl)
end
end
end Go.Proofs.YtfgihnhoocnmdaaGreatDoor
