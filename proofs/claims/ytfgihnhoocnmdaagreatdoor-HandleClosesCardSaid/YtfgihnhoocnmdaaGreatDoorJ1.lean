import Derived.Test.YtfgihnhoocnmdaaGreatDoorJ0
namespace Go.Proofs.YtfgihnhoocnmdaaGreatDoor
set_option linter.all false
set_option maxHeartbeats 64000000
set_option maxRecDepth 100000
open Go.RowKit
inductive Opd where
 | t (i:Nat)
 | c (v:AV)
 deriving Inhabited
def Opd.ev(s:St):Opd→Option AV
 | .t i=>s.t i
 | .c v=>some v
def Opd.slots:Opd→List Nat
 | .t i=>[i]
 | .c _=>[]
theorem Opd.ev_congr{s s':St}{x:Opd}(h:∀ i∈x.slots,s.t i=s'.t i):x.ev s=x.ev s':=by
 cases x with
 | t i=>exact h i (by simp[Opd.slots])
 | c v=>rfl

inductive AK where
 | mv (x:Opd)
 | nil (e sz:Nat)
 | tk (i:Nat)
 | newv (cells:List AV)
 | box (x:Opd)
 | ld (n:Option Nat) (x:Opd)
 | sto (n:Option Nat) (x v:Opd)
 | fld (off:Nat) (x:Opd)
 | idx (size:Nat) (x i:Opd)
 | aidx (n size:Nat) (x i:Opd)
 | bin (op:BinOp) (x y:Opd)
 | un (op:UnOp) (x:Opd)
 | len (str:Bool) (x:Opd)
 | app (e size bytes:Nat) (i:Nat) (x:Opd)
 | bs (e size:Nat) (parts:List Opd)
 | bld (zero:List AV) (parts:List (Nat × Nat × Opd))
 | fldv (off:Nat) (n:Option Nat) (x:Opd)
 | call (f:Nat) (args:List Opd)
 | ext (j:Nat) (x:Opd)
 | nilc (x:Opd)
 | pick (c a b:Opd)
 | slc (size:Option Nat) (x:Opd) (lo hi:Option Opd)
 | conv (k:IntKind) (x:Opd)
 | b2s (x:Opd)
 | sidx (x i:Opd)
 | beq (neg:Bool) (x y:Opd)
 | s2s (x:Opd)
 | aeq (neg:Bool) (ks:List Kd) (x y:Opd)
 | apps (e bytes:Nat) (i:Nat) (x:Opd)
 | callo (f:Nat) (args:List Opd)
 | calln (f:Nat) (args:List Opd)
 | cro (f:Nat) (args:List Opd)
 | callv (x:Opd) (args:List Opd)
 | hbs (e size:Nat) (parts:List Opd)
 | ldt (x:Opd)
 | stt (x:Opd) (i:Nat)
 | mk (z:List AV) (bytes:Nat) (x:Opd)
 | vidx (n size:Nat) (q:Option Nat) (x i:Opd)
 | mn (x y:Opd)
 | mx (x y:Opd)
 | mkm
 | mq (z:AV) (ok:Bool) (ks:List Kd) (ag:Bool) (m k:Opd)
 | mu (q:Nat) (z:AV) (ks:List Kd) (ag:Bool) (m k v:Opd)
 | rng (x:Opd)
 | nxt (x:Opd)
 | ent (x:Opd)
 | peq (neg:Bool) (x:Opd)
 | app0 (e size bytes:Nat) (x:Opd)
 | ldr (n:Option Nat) (x:Opd)
 | ldh (x:Opd)
 | hap (e size bytes:Nat) (i:Option Nat) (x:Opd)
 | hnl (e sz:Nat)
 | hslc (size:Nat) (x:Opd) (lo hi:Option Opd)
 | b2o (x:Opd)
 | b2d (x:Opd)
 | asl (n:Nat) (x:Opd)
 | s2b (e:Nat) (x:Opd)
 deriving Inhabited

structure AOp where
 g:Option (Nat × Bool)
 d:Option Nat
 k:AK
 deriving Inhabited

def A4:BinOp→AV→AV→AV→Prop
 | .add,.int k a,.int k' b,r=>k=k'∧r=.int k (k.wrap (a+b))
 | .sub,.int k a,.int k' b,r=>k=k'∧r=.int k (k.wrap (a - b))
 | .mul,.int k a,.int k' b,r=>k=k'∧r=.int k (k.wrap (a * b))
 | .quo,.int k a,.int k' b,r=>k=k'∧b≠0∧r=.int k (k.wrap (a.tdiv b))
 | .rem,.int k a,.int k' b,r=>k=k'∧b≠0∧r=.int k (a.tmod b)
 | .eql,.int k a,.int k' b,r=>k=k'∧r=.bool (decide (a=b))
 | .neq,.int k a,.int k' b,r=>k=k'∧r=.bool (!decide (a=b))
 | .lss,.int k a,.int k' b,r=>k=k'∧r=.bool (decide (a<b))
 | .leq,.int k a,.int k' b,r=>k=k'∧r=.bool (decide (a≤b))
 | .gtr,.int k a,.int k' b,r=>k=k'∧r=.bool (decide (b<a))
 | .geq,.int k a,.int k' b,r=>k=k'∧r=.bool (decide (b≤a))
 | .add,.str a,.str b,r=>a.length+b.length≤9223372036854775807∧r=.str (a++b)
 | .eql,.str a,.str b,r=>r=.bool (decide (a=b))
 | .neq,.str a,.str b,r=>r=.bool (!decide (a=b))
 | .lss,.str a,.str b,r=>r=.bool (Op.bytesLess a b)
 | .gtr,.str a,.str b,r=>r=.bool (!(Op.bytesLess a b||decide (a=b)))
 | .geq,.str a,.str b,r=>r=.bool (!Op.bytesLess a b)
 | .or,.int k a,.int k' b,r=>k=k'∧r=.int k (k.wrap ((BitVec.ofInt k.bits a ||| BitVec.ofInt k.bits b).toNat))
 | .and,.int k a,.int k' b,r=>k=k'∧r=.int k (k.wrap ((BitVec.ofInt k.bits a &&& BitVec.ofInt k.bits b).toNat))
 | .xor,.int k a,.int k' b,r=>k=k'∧r=.int k (k.wrap ((BitVec.ofInt k.bits a ^^^ BitVec.ofInt k.bits b).toNat))
 | .andNot,.int k a,.int k' b,r=>k=k'∧r=.int k (k.wrap ((BitVec.ofInt k.bits a &&& ~~~BitVec.ofInt k.bits b).toNat))
 | .shl,.int k a,.int _ b,r=>0≤b∧r=.int k (k.wrap (a * 2 ^ (min b.toNat k.bits)))
 | .shr,.int k a,.int _ b,r=>0≤b∧r=.int k (a.fdiv (2 ^ (min b.toNat k.bits)))
 | _,_,_,_=>False

def J0:UnOp→AV→AV→Prop
 | .not,.bool b,r=>r=.bool (!b)
 | .neg,.int k n,r=>r=.int k (k.wrap (0 - n))
 | .xor,.int k n,r=>r=.int k (k.wrap ((BitVec.ofInt k.bits (if k.signed then -1 else k.max) ^^^ BitVec.ofInt k.bits n).toNat))
 | _,_,_=>False

def view(o:Nat→Option (List AV)):AV→Option (List AV)
 | .ro cs=>some cs
 | .ptr b off=>(o b).map (·.drop off)
 | _=>none
def A5:Option Nat→List AV→AV→Prop
 | none,c::_,r=>r=c.alias
 | some n,cs,r=>n≤cs.length∧r=.agg (cs.take n)
 | _,_,_=>False
def GE(off:Nat):AV→AV→Prop
 | .ro cs,r=>r=.ro (cs.drop off)
 | .ptr b o,r=>r=.ptr b (o+off)
 | _,_=>False
def Gf:Bool→AV→AV→Prop
 | true,.str l,r=>r=.int .i64 l.length
 | false,.sl _ _ els,r=>r=.int .i64 els.length
 | false,.osl _ _ n,r=>r=.int .i64 n
 | false,.hsl _ _ _ n _,r=>r=.int .i64 n
 | false,.hss _ _ _ m,r=>r=.int .i64 m
 | false,.hnil _ _,r=>r=.int .i64 0
 | _,_,_=>False
def Hl(size:Nat):AV→AV→AV→Prop
 | .sl _ sz els,.int _ n,r=>sz=size∧(0≤n∧n<els.length)∧r=.ro (els.getD n.toNat [])
 | .osl b off len,.int _ n,r=>(0≤n∧n<len)∧r=.ptr b (off+n.toNat * size)
 | .hsl g _ sz len _,.int _ n,r=>sz=size∧(0≤n∧n<len)∧r=.ptr g (n.toNat * size)
 | .hss g sz a len,.int _ n,r=>sz=size∧(0≤n∧n<len)∧r=.ptr g ((a+n.toNat) * size)
 | _,_,_=>False
def TZ(n size:Nat)(q:Option Nat):AV→AV→AV→Prop
 | .agg cs,.int _ m,r=>(0≤m∧m<n∧m.toNat * size<cs.length)∧A5 q (cs.drop (m.toNat * size)) r
 | _,_,_=>False
def Fa(ks:List Kd):Bool→AV→AV→Option Bool
 | true,.agg cs,.agg ds=>Bb ks cs ds
 | false,a,b=>Bb ks [a] [b]
 | _,_,_=>none
def Js(ks:List Kd)(ag:Bool)(k:AV):List AV→Nat→Option (Option Nat)
 | [],_=>some none
 | x::r,i=>match Fa ks ag k x with
  | some true=>some (some i)
  | some false=>Js ks ag k r (i+1)
  | none=>none
def B2(ks:List Kd)(ag:Bool)(k:AV)(kl:List AV):Option (Option Nat):=(Fa ks ag k k).bind fun _=>Js ks ag k kl 0
def GB(n:Int):List Nat→Nat→Option Nat
 | [],_=>none
 | b::r,i=>if (b:Int)=n then some i else GB n r (i+1)
def Fw(q:Nat)(z:AV)(ks:List Kd)(ag:Bool)(k v:AV):List AV→Option (AV × List AV)
 | [.mp kl vl bs clk]=>match q with
  | 0=>(B2 ks ag k kl).map fun f=>match f with
   | some i=>(.undef,[.mp kl (vl.set i v.alias) bs clk])
   | none=>(.undef,[.mp (kl++[k.alias]) (vl++[v.alias]) (bs++[clk]) (clk+1)])
  | 1=>(B2 ks ag k kl).map fun f=>match f with
   | some i=>(.tup [vl.getD i .undef,.int .i64 (bs.getD i 0:Nat)],[.mp kl vl bs clk])
   | none=>(.tup [z,.int .i64 (clk:Nat)],[.mp (kl++[k.alias]) (vl++[z]) (bs++[clk]) (clk+1)])
  | 2=>match k with
   | .int .i64 n=>(GB n bs 0).map fun i=>(.undef,[.mp kl (vl.set i v.alias) bs clk])
   | _=>none
  | 3=>(B2 ks ag k kl).map fun f=>match f with
   | some i=>(.undef,[.mp (kl.eraseIdx i) (vl.eraseIdx i) (bs.eraseIdx i) clk])
   | none=>(.undef,[.mp kl vl bs clk])
  | _=>none
 | _=>none
def EB(s:St)(q:Nat)(z:AV)(ks:List Kd)(ag:Bool)(m k v:Opd):Option (Nat × AV × List AV):=
 match m.ev s,k.ev s,v.ev s with
 | some (.mapv b),some kv,some vv=>(s.o b).bind fun cs=>(Fw q z ks ag kv vv cs).map fun x=>(b,x.1,x.2)
 | _,_,_=>none
def mqR(o:Nat→Option (List AV))(z:AV)(ok:Bool)(ks:List Kd)(ag:Bool):AV→AV→AV→Prop
 | .mapv b,k,r=>∃ kl vl bs clk f,o b=some [.mp kl vl bs clk]∧B2 ks ag k kl=some f∧
   r=(match f with
    | some i=>if ok then .tup [vl.getD i .undef,.bool true] else (vl.getD i .undef).alias
    | none=>if ok then .tup [z,.bool false] else z.alias)
 | .rom kl vl,k,r=>∃ f,B2 ks ag k kl=some f∧
   r=(match f with
    | some i=>if ok then .tup [vl.getD i .undef,.bool true] else (vl.getD i .undef).alias
    | none=>if ok then .tup [z,.bool false] else z.alias)
 | .nilm,k,r=>B2 ks ag k []=some none∧r=(if ok then .tup [z,.bool false] else z.alias)
 | _,_,_=>False
def a3t(o:Nat→Option (List AV)):AV→AV→Prop
 | .itp b,r=>∃ m since seen last kl vl bs clk i n,o b=some [.mit m since seen last]∧o m=some [.mp kl vl bs clk]∧clk=last∧seen.getLast?=some n∧bs[i]?=some n∧r=.tup [kl.getD i .undef,vl.getD i .undef]
 | _,_=>False
def SF:AV→AV→AV→Prop
 | .int k a,.int _ b,r=>r=.int k (if a<b then b else a)
 | _,_,_=>False
def Sj:AV→Option Bool
 | .ptr _ _=>some false
 | .ro _=>some false
 | .nilp=>some true
 | .nilT _=>some true
 | _=>none
def SO:AV→AV→AV→Prop
 | .int k a,.int _ b,r=>r=.int k (if b<a then b else a)
 | _,_,_=>False
def AV.cells:AV→List AV
 | .agg cs=>cs.map AV.store
 | .tup _=>[]
 | .undef=>[]
 | .any=>[]
 | a=>[a.alias]

def evs(s:St):List Opd→Option (List AV)
 | []=>some []
 | x::r=>match x.ev s,evs s r with
  | some v,some vs=>some (v::vs)
  | _,_=>none
def splice(cs:List AV):Nat→List AV→List AV
 | 0,[]=>cs
 | 0,v::vs=>match cs with
  | []=>[]
  | _::r=>v::splice r 0 vs
 | n+1,vs=>match cs with
  | []=>[]
  | c::r=>c::splice r n vs
def Fs:List AV→List (Nat × Nat × AV)→List AV→Prop
 | cs,[],r=>r=cs
 | cs,(off,n,v)::rest,r=>(v.cells.length=n∧0<n∧off+n≤cs.length)∧Fs (splice cs off v.cells) rest r
def D5(s:St):List (Nat × Nat × Opd)→Option (List (Nat × Nat × AV))
 | []=>some []
 | (a,b,x)::r=>match x.ev s,D5 s r with
  | some v,some vs=>some ((a,b,v)::vs)
  | _,_=>none
def Bh(b:UInt8):List AV:=[.int .u8 (b.toNat:Int)]
def FL(s:St)(dflt:Nat):Option Opd→Nat→Prop
 | none,r=>r=dflt
 | some x,r=>∃ k n,x.ev s=some (.int k n)∧0≤n∧r=n.toNat

def hc(sz cap:Nat)(els:List (List AV)):List AV:=els.flatten++List.replicate ((cap - els.length) * sz) .any
def Ko:AV→Nat
 | .hsl _ _ _ n _=>n
 | .hss _ _ _ m=>m
 | .sl _ _ l=>l.length
 | _=>0
def GH(size:Nat):Bool→AV→Nat→Nat→AV→Prop
 | true,.hsl g e sz n cap,a,b,r=>sz=size∧(a=0∧b≤n)∧r=.hsl g e sz b cap
 | false,.hsl g _ sz n _,a,b,r=>sz=size∧(a≤b∧b≤n)∧r=.hss g sz a (b - a)
 | _,.hss g sz a0 m,a,b,r=>sz=size∧(a≤b∧b≤m)∧r=.hss g sz (a0+a) (b - a)
 | _,.hnil e sz,a,b,r=>(a=0∧b=0)∧r=.hnil e sz
 | _,.sl _ sz l,a,b,r=>sz=size∧(a≤b∧b≤l.length)∧r=.sl none size ((l.take b).drop a)
 | _,_,_,_,_=>False
def Ms(o:Nat→Option (List AV))(size:Nat):AV→List (List AV)→Prop
 | .sl _ sz news,r=>sz=size∧r=news
 | .hsl g _ sz n cap,r=>sz=size∧∃ els,o g=some (hc sz cap els)∧(∀ e∈els,e.length=sz)∧n≤els.length∧r=els.take n
 | .hss g sz a m,r=>sz=size∧∃ cap els,o g=some (hc sz cap els)∧(∀ e∈els,e.length=sz)∧a+m≤els.length∧r=(els.drop a).take m
 | .hnil _ sz,r=>sz=size∧r=[]
 | _,_=>False
def Hv(els:List (List AV)):Bool:=els.all fun e=>e.all fun c=>match c with
 | .sl (some _) _ _=>false
 | .nilT _=>false
 | _=>true
def noOwn(els:List (List AV)):Prop:=∀ e∈els, ∀ c∈e,(∀ t sz l,c ≠ .sl (some t) sz l)∧∀ t,c ≠ .nilT t
def MV(e size bytes:Nat)(o:Nat→Option (List AV))(q:AV)(K:AV→(Nat→Option (List AV))→Prop):AV→Prop
 | .hnil _ sz=>sz=size∧∃ news,Ms o size q news∧noOwn news∧(news.length * bytes≤140737488355328∧news.length≤maxLen)∧(news.length=0→K (.hnil e size) o)∧
   (0<news.length→∀ g,o g=none→∀ cap,news.length≤cap→K (.hsl g e size news.length cap) (upd o g (some (hc size cap news))))
 | .hsl g e' sz n cap=>(e'=e∧sz=size)∧∃ news els,Ms o size q news∧noOwn news∧o g=some (hc size cap els)∧(∀ x∈els,x.length=size)∧noOwn els∧(n≤els.length∧els.length≤cap)∧
   ((n+news.length) * bytes≤140737488355328∧n+news.length≤maxLen)∧
   ∀ g',upd o g none g'=none→∀ cap',n+news.length≤cap'→K (.hsl g' e size (n+news.length) cap') (upd (upd o g none) g' (some (hc size cap' (els.take n++news))))
 | _=>False
def a4P(o:Nat→Option (List AV)):AV→AV→Prop
 | .ptr b off,r=>∃ cs,o b=some cs∧cs[off]?=some r
 | .ro (c::_),r=>r=c
 | _,_=>False
def Hp(s:St)(d:Option Nat)(b off:Nat)(cs:List AV):AV→St
 | .sl (some e) sz els=>St.put { s with o:=upd s.o b (some (splice cs off [.sl none sz els])) } d (.sl (some e) sz els)
 | .nils e sz=>s.put d (.sl (some e) sz [])
 | c=>s.put d c.alias
def GQ(s:St)(i b off:Nat)(cs:List AV):AV→St
 | .sl (some e) sz els=>⟨upd s.t i (some (.sl none sz els)),upd s.o b (some (splice cs off [.sl (some e) sz els]))⟩
 | v=>{ s with o:=upd s.o b (some (splice cs off v.cells)) }
def RO(P:Program)(f:Nat)(vs:List AV)(o:Nat→Option (List AV))(r:AV):Prop:=
 ∃ o1:Nat→Option (List AV),(∀ b cs,o1 b=some cs→o b=some cs)∧CT P f vs o1 (fun r' o'=>r'=r∧o'=o1)
def Ca:AV→AV
 | .nils e sz=>.hnil e sz
 | c=>c.alias
def Sr:List AV→AV→Prop
 | c::_,r=>r=Ca c
 | _,_=>False
def AU(P:Program)(s:St):AK→AV→Prop
 | .mv x,r=>∃ v,x.ev s=some v∧r=v.alias
 | .nil e sz,r=>r=.sl (some e) sz []
 | .tk i,r=>s.t i=some r
 | .ld n x,r=>∃ p cs,x.ev s=some p∧view s.o p=some cs∧A5 n cs r
 | .sto n x v,r=>∃ b off a cs,x.ev s=some (.ptr b off)∧v.ev s=some a∧s.o b=some cs∧a.cells.length=n.getD 1∧off+a.cells.length≤cs.length∧r=.undef
 | .fld off x,r=>∃ p,x.ev s=some p∧GE off p r
 | .ldr n x,r=>∃ cs,x.ev s=some (.ro cs)∧A5 n cs r
 | .ldh x,r=>∃ p cs,x.ev s=some p∧view s.o p=some cs∧Sr cs r
 | .hap _ _ _ _ _,_=>False
 | .hnl e sz,r=>r=.hnil e sz
 | .hslc size x lo hi,r=>∃ p a b,x.ev s=some p∧FL s 0 lo a∧FL s (Ko p) hi b∧GH size lo.isNone p a b r
 | .idx size x i,r=>∃ p q,x.ev s=some p∧i.ev s=some q∧Hl size p q r
 | .aidx n size x i,r=>∃ p k m,x.ev s=some p∧i.ev s=some (.int k m)∧(0≤m∧m<(n:Int))∧GE (m.toNat * size) p r
 | .bin op x y,r=>∃ a b,x.ev s=some a∧y.ev s=some b∧A4 op a b r
 | .un op x,r=>∃ a,x.ev s=some a∧J0 op a r
 | .len b x,r=>∃ a,x.ev s=some a∧Gf b a r
 | .app e size bytes i x,r=>∃ els own news,s.t i=some (.sl (some e) size els)∧x.ev s=some (.sl own size news)∧(els.length+news.length) * bytes≤140737488355328∧
   els.length+news.length≤maxLen∧r=.sl (some e) size (els++news)
 | .bs e size parts,r=>∃ vs,evs s parts=some vs∧(∀ v∈vs,v.cells.length=size)∧r=.sl (some e) size (vs.map AV.cells)
 | .bld zero parts,r=>∃ vs cs,D5 s parts=some vs∧Fs zero vs cs∧r=.agg cs
 | .fldv off n x,r=>∃ cs,x.ev s=some (.agg cs)∧off<cs.length∧A5 n (cs.drop off) r
 | .call f args,r=>∃ vs,evs s args=some vs∧CP P f (vs.map AV.alias) r
 | .ext j x,r=>∃ cs c,x.ev s=some (.tup cs)∧cs[j]?=some c∧r=c.alias
 | .nilc x,r=>(∃ cs,x.ev s=some (.ro cs)∧r=.ro cs)∨(∃ b off,x.ev s=some (.ptr b off)∧r=.ptr b off)
 | .pick c a b,r=>∃ cv av bv,c.ev s=some (.bool cv)∧a.ev s=some av∧b.ev s=some bv∧r=(if cv then av.alias else bv.alias)
 | .slc none x lo hi,r=>∃ l a b,x.ev s=some (.str l)∧FL s 0 lo a∧FL s l.length hi b∧(a≤b∧b≤l.length)∧r=.str ((l.take b).drop a)
 | .slc (some size) x lo hi,r=>∃ own l a b,x.ev s=some (.sl own size l)∧FL s 0 lo a∧FL s l.length hi b∧(a≤b∧b≤l.length)∧r=.sl none size ((l.take b).drop a)
 | .conv k x,r=>∃ k' n,x.ev s=some (.int k' n)∧r=.int k (k.wrap n)
 | .b2s x,r=>∃ own l,x.ev s=some (.sl own 1 (l.map Bh))∧r=.str l
 | .sidx x i,r=>∃ l k n,x.ev s=some (.str l)∧i.ev s=some (.int k n)∧(0≤n∧n<l.length)∧r=.int .u8 ((l.getD n.toNat 0).toNat:Int)
 | .beq neg x y,r=>∃ a b,x.ev s=some (.bool a)∧y.ev s=some (.bool b)∧r=.bool (if neg then !decide (a=b) else decide (a=b))
 | .s2s x,r=>∃ l,x.ev s=some (.str l)∧r=.str l
 | .newv _,_=>False
 | .box _,_=>False
 | .aeq neg ks x y,r=>∃ cs ds b,x.ev s=some (.agg cs)∧y.ev s=some (.agg ds)∧Bb ks cs ds=some b∧r=.bool (if neg then !b else b)
 | .apps e bytes i x,r=>∃ els l,s.t i=some (.sl (some e) 1 els)∧x.ev s=some (.str l)∧(els.length+l.length) * bytes≤140737488355328∧els.length+l.length≤maxLen∧r=.sl (some e) 1 (els++l.map Bh)
 | .callo _ _,_=>False
 | .calln _ _,_=>False
 | .callv _ _,_=>False
 | .hbs _ _ _,_=>False
 | .cro f args,r=>∃ vs,evs s args=some vs∧RO P f (vs.map AV.alias) s.o r
 | .ldt x,r=>∃ p,x.ev s=some p∧a4P s.o p r
 | .stt x i,r=>∃ b off v cs,x.ev s=some (.ptr b off)∧s.t i=some v∧s.o b=some cs∧(off<cs.length∧v.cells.length=1)∧r=.undef
 | .mk _ _ _,_=>False
 | .vidx n size q x i,r=>∃ a b,x.ev s=some a∧i.ev s=some b∧TZ n size q a b r
 | .mn x y,r=>∃ a b,x.ev s=some a∧y.ev s=some b∧SO a b r
 | .mx x y,r=>∃ a b,x.ev s=some a∧y.ev s=some b∧SF a b r
 | .mkm,_=>False
 | .mq z ok ks ag m k,r=>∃ a b,m.ev s=some a∧k.ev s=some b∧mqR s.o z ok ks ag a b r
 | .mu q z ks ag m k v,r=>∃ b cs,EB s q z ks ag m k v=some (b,r,cs)
 | .rng _,_=>False
 | .nxt _,_=>False
 | .ent x,r=>∃ a,x.ev s=some a∧a3t s.o a r
 | .peq neg x,r=>∃ a b,x.ev s=some a∧Sj a=some b∧r=.bool (if neg then !b else b)
 | .b2o _,_=>False
 | .b2d x,r=>∃ b off n cs l,x.ev s=some (.osl b off n)∧s.o b=some cs∧((cs.drop off).take n=l.map (fun u:UInt8=>AV.int .u8 (u.toNat:Int))∧l.length=n)∧r=.str l
 | .asl n x,r=>∃ b off,x.ev s=some (.ptr b off)∧r=.osl b off n
 | .s2b e x,r=>∃ l,x.ev s=some (.str l)∧l.length≤140737488355328∧r=.sl (some e) 1 (l.map Bh)
 | .app0 e size bytes x,r=>∃ own news,x.ev s=some (.sl own size news)∧news.length * bytes≤140737488355328∧news.length≤maxLen∧r=.sl (some e) size news

def B6(d:Option Nat)(k:AK)(r:AV)(s:St):St:=
 match k with
 | .tk i=>match r with
  | .sl (some _) sz els=>St.put { s with t:=upd s.t i (some (.sl none sz els)) } d r
  | _=>s.put d r.alias
 | .app _ _ _ i _=>St.put { s with t:=upd s.t i none } d r
 | .apps _ _ i _=>St.put { s with t:=upd s.t i none } d r
 | .sto _ x v=>match x.ev s,v.ev s with
  | some (.ptr b off),some a=>{ s with o:=upd s.o b ((s.o b).map (splice · off a.cells)) }
  | _,_=>s
 | .ldt x=>match x.ev s with
  | some (.ptr b off)=>match s.o b with
   | some cs=>Hp s d b off cs r
   | none=>s
  | _=>s.put d r.alias
 | .stt x i=>match x.ev s,s.t i with
  | some (.ptr b off),some v=>match s.o b with
   | some cs=>GQ s i b off cs v
   | none=>s
  | _,_=>s
 | .mu q z ks ag m k v=>match EB s q z ks ag m k v with
  | some (b,_,cs)=>St.put { s with o:=upd s.o b (some cs) } d r
  | none=>s
 | _=>s.put d r

def NB(s:St)(d:Option Nat)(cells:List AV)(K:St→Prop):Prop:=∀ b,s.o b=none→K (St.put { s with o:=upd s.o b (some cells) } d (.ptr b 0))
def SP(s:St)(d:Option Nat)(z:List AV)(bytes:Nat):AV→(St→Prop)→Prop
 | .int _ m,K=>(0≤m∧m≤140737488355328∧m * bytes≤140737488355328)∧∀ b,s.o b=none→K (St.put { s with o:=upd s.o b (some (List.replicate m.toNat z).flatten) } d (.osl b 0 m.toNat))
 | _,_=>False
def Dg(P:Program)(f:Nat)(vs:List AV)(d:Option Nat)(s:St)(K:St→Prop):Prop:=
 ∃ (o1:Nat→Option (List AV)) (Q:AV→(Nat→Option (List AV))→Prop),(∀ b cs,o1 b=some cs→s.o b=some cs)∧CT P f vs o1 Q∧
  ∀ r o2,Q r o2→(∀ b cs,o2 b=some cs→o1 b=none→s.o b=none)→K (St.put ⟨s.t,fun b=>(o2 b).or (s.o b)⟩ d r)
def CallN(P:Program)(f:Nat)(vs:List AV)(d:Option Nat)(s:St)(K:St→Prop):Prop:=
 ∃ Q:AV→(Nat→Option (List AV))→Prop,CT P f vs (fun _=>none) Q∧∀ r o2,Q r o2→(∀ b cs,o2 b=some cs→s.o b=none)→K (St.put ⟨s.t,fun b=>(o2 b).or (s.o b)⟩ d r)
theorem CallN.toO{P:Program}{f:Nat}{vs:List AV}{d:Option Nat}{s:St}{K:St→Prop}(h:CallN P f vs d s K):Dg P f vs d s K:=by
 obtain ⟨Q,h1,h2⟩:=h
 exact ⟨fun _=>none,Q,fun b cs hb=>(by cases hb),h1,fun r o2 hq hf=>h2 r o2 hq fun b cs hb=>hf b cs hb rfl⟩
def X5(s:St)(d:Option Nat):AV→(St→Prop)→Prop
 | .ptr b off,K=>∃ cs,s.o b=some cs∧∃ c,cs[off]?=some c∧K (Hp s d b off cs c)
 | .ro (c::_),K=>K (s.put d c.alias)
 | _,_=>False
def a0L(s:St)(i:Nat):AV→AV→(St→Prop)→Prop
 | .ptr b off,v,K=>∃ cs,s.o b=some cs∧(off<cs.length∧v.cells.length=1)∧K (GQ s i b off cs v)
 | _,_,_=>False
def Yt(s:St)(d:Option Nat)(K:St→Prop):Prop:=∀ b,s.o b=none→K (St.put { s with o:=upd s.o b (some [.mp [] [] [] 0]) } d (.mapv b))
def Z4(s:St)(d:Option Nat):AV→(St→Prop)→Prop
 | .mapv m,K=>∃ kl vl bs clk,s.o m=some [.mp kl vl bs clk]∧∀ b,s.o b=none→K (St.put { s with o:=upd s.o b (some [.mit m clk [] clk]) } d (.itp b))
 | _,_=>False
def YH(s:St)(d:Option Nat):AV→(St→Prop)→Prop
 | .itp b,K=>∃ m since seen last kl vl bs clk,s.o b=some [.mit m since seen last]∧s.o m=some [.mp kl vl bs clk]∧(clk=since∧last=clk)∧
   (∀ i n,bs[i]?=some n→n ∉ seen→K (St.put { s with o:=upd s.o b (some [.mit m since (seen++[n]) clk]) } d (.tup [.bool true,kl.getD i .undef,vl.getD i .undef])))∧
   ((∀ n∈bs,n∈seen)→K (s.put d (.tup [.bool false])))
 | _,_=>False
def Bg(u:UInt8):AV:=.int .u8 (u.toNat:Int)
def a2i(s:St)(d:Option Nat):AV→(St→Prop)→Prop
 | .sl _ sz els,K=>sz=1∧∃ l:List UInt8,els=l.map Bh∧K (s.put d (.str l))
 | .osl b off n,K=>∃ cs l,s.o b=some cs∧((cs.drop off).take n=l.map Bg∧l.length=n)∧K (s.put d (.str l))
 | _,_=>False
def Se(s:St)(e size:Nat):Option Nat→Option AV
 | none=>some (.hnil e size)
 | some i=>s.t i
def K9(P:Program)(f:Nat):Bool:=((P.funcs[f]?).map fun fn=>fn.body.isSome && !(fn.name == "runtime.NumGoroutine")).getD false
def kW(P:Program)(d:Option Nat)(k:AK)(s:St)(K:St→Prop):Prop:=
 match k with
 | .newv cells=>NB s d cells K
 | .box x=>∃ v,x.ev s=some v∧0<v.cells.length∧NB s d v.cells K
 | .callo f vs=>∃ ws,evs s vs=some ws∧Dg P f (ws.map AV.alias) d s K
 | .calln f vs=>∃ ws,evs s vs=some ws∧CallN P f (ws.map AV.alias) d s K
 | .callv x vs=>∃ p,x.ev s=some p∧∃ ws,evs s vs=some ws∧∃ f,p=.fn f∧K9 P f=true∧Dg P f (ws.map AV.alias) d s K
 | .hbs e size ps=>∃ vs,evs s ps=some vs∧((∀ v∈vs,v.cells.length=size)∧Hv (vs.map AV.cells)=true)∧∀ g,s.o g=none→K (St.put { s with o:=upd s.o g (some (hc size vs.length (vs.map AV.cells))) } d (.hsl g e size vs.length vs.length))
 | .ldt x=>∃ p,x.ev s=some p∧X5 s d p K
 | .mk z bytes x=>∃ p,x.ev s=some p∧SP s d z bytes p K
 | .stt x i=>∃ p,x.ev s=some p∧∃ v,s.t i=some v∧a0L s i p v K
 | .mkm=>Yt s d K
 | .rng x=>∃ p,x.ev s=some p∧Z4 s d p K
 | .nxt x=>∃ p,x.ev s=some p∧YH s d p K
 | .b2o x=>∃ p,x.ev s=some p∧a2i s d p K
 | .hap e size bytes i x=>∃ p q,Se s e size i=some p∧x.ev s=some q∧MV e size bytes s.o q (fun r o=>K (St.put ⟨s.t,o⟩ d r)) p
 | k=>∃ r,AU P s k r∧K (B6 d k r s)
def De(P:Program)(o:AOp)(s:St)(K:St→Prop):Prop:=
 match o.g with
 | none=>kW P o.d o.k s K
 | some (j,want)=>match s.t j with
  | some (.bool b)=>(b=want→kW P o.d o.k s K)∧(b = !want→K (s.put o.d .undef))
  | some .undef=>K (s.put o.d .undef)
  | _=>False
def IR(P:Program):List AOp→St→(St→Prop)→Prop
 | [],s,K=>K s
 | o::r,s,K=>De P o s fun s'=>IR P r s' K

inductive OT where
 | nil
 | op (A:AOp) (k:OT)
 | two (a b:OT)
 deriving Inhabited
def D1(P:Program):OT→St→(St→Prop)→Prop
 | .nil,s,K=>K s
 | .op A k,s,K=>De P A s fun s'=>D1 P k s' K
 | .two a b,s,K=>D1 P a s K∧D1 P b s K
inductive AExit where
 | normal|exit (id:Nat)|ret
inductive ACode where
 | skip
 | reg (ops:List AOp) (draw:Bool)
 | tree (t:OT)
 | seq (a b:ACode)
 | cond (c:Opd) (t e:ACode)
 | block (id:Nat) (b:ACode)
 | loop (b:ACode)
 | exit (id:Nat)
 | ret
 deriving Inhabited
def Le(s' s:St):Prop:=(∀ i v,s'.t i=some v→s.t i=some v)∧(∀ b cs,s'.o b=some cs→s.o b=some cs)
def Gr(K:St→Prop)(Q:AExit→St→Prop):AExit→St→Prop
 | .normal,s=>K s
 | e,s=>Q e s
def Iv(id:Nat)(Q:AExit→St→Prop):AExit→St→Prop
 | .exit i,s=>if i=id then Q .normal s else Q (.exit i) s
 | e,s=>Q e s
def BK(P:Program):ACode→(AExit→St→Prop)→St→Prop
 | .skip,Q,s=>Q .normal s
 | .reg ops _,Q,s=>IR P ops s (Q .normal)
 | .tree t,Q,s=>∃ K':St→Prop,(∀ s1 s2,Le s1 s2→K' s1→K' s2)∧D1 P t s K'∧∀ s',K' s'→∃ s1,Le s1 s'∧Q .normal s1
 | .seq a b,Q,s=>BK P a (Gr (BK P b Q) Q) s
 | .cond c t e,Q,s=>∃ b,c.ev s=some (.bool b)∧(b=true→BK P t Q s)∧(b=false→BK P e Q s)
 | .block id b,Q,s=>BK P b (Iv id Q) s
 | .loop b,Q,s=>∃ (α:Type) (inv:α→St) (phi:α→Prop) (m:α→Nat),(∃ x0,Le (inv x0) s∧phi x0)∧∀ x,phi x→BK P b (Gr (fun s1=>∃ x',Le (inv x') s1∧phi x'∧m x'<m x) Q) (inv x)
 | .exit id,Q,s=>Q (.exit id) s
 | .ret,Q,s=>Q .ret s
section
variable {N:Nat} {W0:World} {U0:Nat→Nat→Prop} {M:Nat→Prop} {a:Act} {W:World} {U:Nat→Nat→Prop} {s:St}

theorem Le.at_{s' s:St}(h:Le s' s){ℓ:Loc}{v:AV}(hv:s'.at ℓ=some v):s.at ℓ=some v:=by
 cases ℓ with
 | t i=>exact h.1 i v hv
 | o b j=>
  simp only[St.at,F9]at hv ⊢
  obtain ⟨cs,h1,h2⟩:=hv
  exact ⟨cs,h.2 b cs h1,h2⟩

theorem Inv.le{s':St}(h:Inv N W0 U0 M a W U s)(hl:Le s' s):Inv N W0 U0 M a W U s' where
 sz:=h.sz
 df:=h.df
 fr:=h.fr
 tv:=fun i v hv=>h.tv i v (hl.1 i v hv)
 ob:=fun b cs hb=>h.ob b cs (hl.2 b cs hb)
 ow:=fun ℓ v hv=>h.ow ℓ v (hl.at_ hv)
 ap:=fun ℓ ℓ' e sz els e' sz' els' hne h1 h2=>h.ap ℓ ℓ' e sz els e' sz' els' hne (hl.at_ h1) (hl.at_ h2)
 no:=fun ℓ e sz els h1 g hg=>by
  have h2:=h.no ℓ e sz els (hl.at_ h1) g hg
  cases h3:s'.o g with
  | none=>rfl
  | some cs=>rw[hl.2 g cs h3]at h2;cases h2

theorem OwnRow.lt{B:Nat→Prop}{v:Value}{e sz n:Nat}(h:OwnRow W U B v e sz n){g:Nat}(hg:v.ownBlock=some g):g<W.heap.size:=by
 rcases h with ⟨rfl,_⟩ | ⟨g',cap,cur,rfl,_,hh,_⟩
 ·simp[Value.ownBlock]at hg
 ·simp[Value.ownBlock]at hg
  subst hg
  exact hh.lt

theorem OwnRow.ext{W':World}{U':Nat→Nat→Prop}(he:Ext W U W' U'){B:Nat→Prop}{v:Value}{e sz n:Nat}(h:OwnRow W U B v e sz n):OwnRow W' U' B v e sz n:=by
 rcases h with h | ⟨g,cap,cur,rfl,hB,hh,h1,h2,h3,h4,h5⟩
 ·exact .inl h
 ·have hlt:=hh.lt
  exact .inr ⟨g,cap,cur,rfl,hB,hh.move (he.b.block g hlt),h1,h2,h3,fun o ho hu=>h4 o ho ((he.u g hlt o).1 hu),fun o ho=>(he.u g hlt o).2 (h5 o ho)⟩

theorem Own1.ext{W':World}{U':Nat→Nat→Prop}(he:Ext W U W' U'){B:Nat→Prop}{v:Value}{r:AV}(h:Own1 W U B v r):Own1 W' U' B v r:=by
 unfold Own1 at *
 split at h
 ·exact OwnRow.ext he h
 ·trivial

theorem Fr.ext{W':World}{U':Nat→Nat→Prop}(h:Fr W0 U0 M W U)(he:Ext W U W' U'):Fr W0 U0 M W' U' where
 g0:=h.g0
 gm:=h.gm
 os:=he.b.os.trans h.os
 tape:=he.b.tape.trans h.tape
 output:=he.b.output.trans h.output
 size:=En h.size he.b.size
 block:=fun k hk hm=>(he.b.block k (Nat.lt_of_lt_of_le hk h.size)).trans (h.block k hk hm)
 u:=fun k hk hm o=>(he.u k (Nat.lt_of_lt_of_le hk h.size) o).trans (h.u k hk hm o)
 keeps:=h.keeps.trans he.keeps

theorem Jn{W':World}(hb:Below W.heap.size W W'){ℓ:Loc}{v:AV}(hob:∀ b cs,s.o b=some cs→b<W.heap.size)(h:s.at ℓ=some v):AQ a W' ℓ=AQ a W ℓ:=by
 cases ℓ with
 | t i=>rfl
 | o b j=>
  simp only[St.at,F9]at h
  obtain ⟨cs,h1,_⟩:=h
  simp only[AQ,hb.block b (hob b cs h1)]

theorem Inv.ob_lt(h:Inv N W0 U0 M a W U s):∀ b cs,s.o b=some cs→b<W.heap.size:=fun b cs hb=>by
 exact (h.ob b cs hb).1.lt

theorem Inv.ext{W':World}{U':Nat→Nat→Prop}(h:Inv N W0 U0 M a W U s)(he:Ext W U W' U'):Inv N W0 U0 M a W' U' s where
 sz:=h.sz
 df:=h.df
 fr:=h.fr.ext he
 tv:=fun i v hv=>(h.tv i v hv).keep he.keeps
 ob:=fun b cs hb=>by
  obtain ⟨h1,h4,h5⟩:=h.ob b cs hb
  exact ⟨h1.move he.keeps (he.b.block b h1.lt),fun o=>(he.u b h1.lt o).2 (h4 o),h5⟩
 ow:=fun ℓ v hv=>by
  rw[Jn he.b h.ob_lt hv]
  exact (h.ow ℓ v hv).ext he
 ap:=fun ℓ ℓ' e sz els e' sz' els' hne h1 h2=>by
  rw[Jn he.b h.ob_lt h1,Jn he.b h.ob_lt h2]
  exact h.ap ℓ ℓ' e sz els e' sz' els' hne h1 h2
 no:=fun ℓ e sz els h1=>by
  rw[Jn he.b h.ob_lt h1]
  exact h.no ℓ e sz els h1

theorem Qw(a:Act){d:Nat}(v:Value)(h:d<a.tmps.size):(a.put (some d) v).tmps.getD d undef=v:=by
 simp[Act.put,h]
theorem a1k(a:Act){d i:Nat}(v:Value)(h:i≠d):(a.put (some d) v).tmps.getD i undef=a.tmps.getD i undef:=by
 simp[Act.put,Ne.symm h]

def Sole(W0:World)(M:Nat→Prop)(a:Act)(W:World)(U:Nat→Nat→Prop)(s:St)(d:Nat)(v:Value)(r:AV):Prop:=
 ∀ e sz els,r=.sl (some e) sz els→OwnRow W U (fun g=>W0.heap.size≤g∨M g) v e sz els.length∧
  ∀ g,v.ownBlock=some g→s.o g=none∧∀ ℓ,ℓ ≠ .t d→(∃ e sz els,s.at ℓ=some (.sl (some e) sz els))→(AQ a W ℓ).ownBlock≠some g

theorem M4{s:St}{d:Nat}{r:AV}{ℓ:Loc}(h:ℓ ≠ .t d):(s.put (some d) r).at ℓ=s.at ℓ:=by
 cases ℓ with
 | t i=>
  have:i≠d:=fun e=>h (by rw[e])
  simp[St.put,St.at,upd,this]
 | o b j=>rfl
theorem Oy{s:St}{d:Nat}{r:AV}:(s.put (some d) r).at (.t d)=some r:=by simp[St.put,St.at,upd]
theorem Nf{d:Nat}{v:Value}{ℓ:Loc}(h:ℓ ≠ .t d):AQ (a.put (some d) v) W ℓ=AQ a W ℓ:=by
 cases ℓ with
 | t i=>
  have:i≠d:=fun e=>h (by rw[e])
  exact a1k a v this
 | o b j=>rfl
instance (ℓ:Loc) (d:Nat):Decidable (ℓ=.t d):=by
 cases ℓ with
 | t i=>exact if h:i=d then isTrue (by rw[h]) else isFalse (fun e=>h (by injection e))
 | o b j=>exact isFalse (fun e=>by cases e)

theorem Inv.put(h:Inv N W0 U0 M a W U s){d:Nat}(hd:d<N){v:Value}{r:AV}(hv:VR W U v r)(ho:Sole W0 M a W U s d v r):
  Inv N W0 U0 M (a.put (some d) v) W U (s.put (some d) r) where
 sz:=by simpa[Act.put]using h.sz
 df:=h.df
 fr:=h.fr
 tv:=fun i x hx=>by
  by_cases hi:i=d
  ·subst hi
   rw[Qw a v (by rw[h.sz];exact hd)]
   simp only[St.put,upd_same,Az]at hx
   exact hx▸hv
  ·rw[a1k a v hi]
   simp only[St.put,upd_ne _ _ hi]at hx
   exact h.tv i x hx
 ob:=h.ob
 ow:=fun ℓ x hx=>by
  by_cases hl:ℓ=.t d
  ·subst hl
   rw[Oy]at hx
   cases hx
   have hc:AQ (a.put (some d) v) W (.t d)=v:=Qw a v (by rw[h.sz];exact hd)
   rw[hc]
   unfold Own1
   split
   ·exact (ho _ _ _ rfl).1
   ·trivial
  ·rw[M4 hl]at hx
   rw[Nf hl]
   exact h.ow ℓ x hx
 ap:=fun ℓ ℓ' e sz els e' sz' els' hne h1 h2 g hg=>by
  have hc:AQ (a.put (some d) v) W (.t d)=v:=Qw a v (by rw[h.sz];exact hd)
  by_cases hl:ℓ=.t d
  ·subst hl
   rw[hc]at hg
   rw[Oy]at h1
   have hl':ℓ' ≠ .t d:=fun e=>hne e.symm
   rw[M4 hl']at h2
   rw[Nf hl']
   cases h1
   exact ((ho _ _ _ rfl).2 g hg).2 ℓ' hl' ⟨_,_,_,h2⟩
  ·rw[M4 hl]at h1
   rw[Nf hl]at hg
   by_cases hl':ℓ'=.t d
   ·subst hl'
    rw[hc]
    rw[Oy]at h2
    cases h2
    intro hg'
    exact ((ho _ _ _ rfl).2 g hg').2 ℓ hl ⟨_,_,_,h1⟩ hg
   ·rw[M4 hl']at h2
    rw[Nf hl']
    exact h.ap ℓ ℓ' e sz els e' sz' els' hne h1 h2 g hg
 no:=fun ℓ e sz els h1 g hg=>by
  have hc:AQ (a.put (some d) v) W (.t d)=v:=Qw a v (by rw[h.sz];exact hd)
  by_cases hl:ℓ=.t d
  ·subst hl
   rw[hc]at hg
   rw[Oy]at h1
   cases h1
   exact ((ho _ _ _ rfl).2 g hg).1
  ·rw[M4 hl]at h1
   rw[Nf hl]at hg
   exact h.no ℓ e sz els h1 g hg

theorem Sole.plain{d:Nat}{v:Value}{r:AV}(h:∀ e sz els,r ≠ .sl (some e) sz els):Sole W0 M a W U s d v r:=fun e sz els hr=>absurd hr (h e sz els)
theorem Sole.fresh{W':World}{U':Nat→Nat→Prop}(h:Inv N W0 U0 M a W U s)(he:Ext W U W' U'){d:Nat}{v:Value}{r:AV}(ho:Own1 W' U' (W.heap.size ≤ ·) v r):Sole W0 M a W' U' s d v r:=by
 intro e sz els hr
 subst hr
 simp only[Own1]at ho
 refine ⟨?_,fun g hg=>?_⟩
 ·rcases ho with ho | ⟨g,cap,cur,h0,hB,h1⟩
  ·exact .inl ho
  ·exact .inr ⟨g,cap,cur,h0,.inl (En h.fr.size hB),h1⟩
 ·have hge:W.heap.size≤g:=by
   rcases ho with ⟨rfl,_⟩ | ⟨g',cap,cur,rfl,hB,_⟩
   ·simp[Value.ownBlock]at hg
   ·simp[Value.ownBlock]at hg
    omega
  refine ⟨?_,fun ℓ _ ⟨e',sz',els',hl⟩ hg'=>?_⟩
  ·cases hs:s.o g with
   | none=>rfl
   | some cs=>have:=h.ob_lt g cs hs;omega
  ·rw[Jn he.b h.ob_lt hl]at hg'
   have h1:=h.ow ℓ _ hl
   simp only[Own1]at h1
   have:=h1.lt hg'
   omega

theorem Inv.putO(h:Inv N W0 U0 M a W U s){d:Option Nat}(hd:∀ i,d=some i→i<N){v:Value}{r:AV}(hv:VR W U v r)(ho:∀ i,d=some i→Sole W0 M a W U s i v r):
  Inv N W0 U0 M (a.put d v) W U (s.put d r):=by
 cases d with
 | none=>exact h
 | some i=>exact h.put (hd i rfl) hv (ho i rfl)
end
def QJ:Value→AV→Bool
 | .int k n,.int k' n'=>k==k'&&n==n'
 | .bool b,.bool b'=>b==b'
 | .string s,.str l=>s.data.toList==l
 | .slice none 0 0,.sl _ _ []=>true
 | .slice none 0 0,.nils _ _=>true
 | .pointer none,.nilp=>true
 | .pointer none,.nilT _=>true
 | .map none,.nilm=>true
 | _,_=>false
theorem Gs{v:Value}{c:AV}(h:QJ v c=true)(W:World)(U:Nat→Nat→Prop):VR W U v c∧v.oneCell'=true∧(∀ e sz els,c=.sl (some e) sz els→v=.slice none 0 0∧els=[]):=by
 unfold QJ at h
 split at h
 ·simp only[AP,beq_iff_eq]at h
  obtain ⟨rfl,rfl⟩:=h
  exact ⟨.int _ _,rfl,fun _ _ _ e=>by cases e⟩
 ·simp only[beq_iff_eq]at h
  subst h
  exact ⟨.bool _,rfl,fun _ _ _ e=>by cases e⟩
 ·simp only[beq_iff_eq]at h
  subst h
  exact ⟨.str _,rfl,fun _ _ _ e=>by cases e⟩
 ·refine ⟨?_,rfl,fun _ _ _ e=>by cases e;exact ⟨rfl,rfl⟩⟩
  exact .sl (els:=[]) none 0 _ 0 0 _ (fun _ _=>Go.undef) (by simp) (by simp) (by simp) (by simp) (by simp) (by simp)
 ·exact ⟨.nils _ _,rfl,fun _ _ _ e=>by cases e⟩
 ·exact ⟨.nilp,rfl,fun _ _ _ e=>by cases e⟩
 ·exact ⟨.nilT _,rfl,fun _ _ _ e=>by cases e⟩
 ·exact ⟨.nilm,rfl,fun _ _ _ e=>by cases e⟩
 ·cases h

def JY:AV→AV
 | .sl (some e) sz []=>.nils e sz
 | a=>a.alias
def OB:Value→Option AV
 | .int k n=>some (.int k n)
 | .bool b=>some (.bool b)
 | .string s=>some (.str s.data.toList)
 | .pointer none=>some .nilp
 | .nilIface=>some .nili
 | .map none=>some .nilm
 | _=>none
theorem a2I{v:Value}{c:AV}(h:OB v=some c)(W:World)(U:Nat→Nat→Prop):VR W U v c:=by
 unfold OB at h
 split at h<;>cases h
 ·exact .int _ _
 ·exact .bool _
 ·exact .str _
 ·exact .nilp
 ·exact .nili
 ·exact .nilm
def Au:Operand→Option Opd
 | .tmp t=>some (.t t)
 | .const v=>(OB v).map .c
 | .func f=>some (.c (.fn f))
 | .global g=>(tabInts.find? fun x=>x.1==g).map fun x=>.c (.ro (x.2.2.map fun z=>.int x.2.1 z))
def HQ(P:Program)(t:TypeId)(x:Operand):Option Opd:=
 match x with
 | .const (.slice none 0 0)=>match P.underlying t with
  | some (.slice e)=>(P.info? e).map fun i=>.c (.sl none i.size [])
  | _=>none
 | x=>Au x

section
variable {N:Nat} {W0:World} {U0:Nat→Nat→Prop} {M:Nat→Prop} {a:Act} {W:World} {U:Nat→Nat→Prop} {s:St}

theorem a3S(h:Glob W U){x:Nat × IntKind × List Int}(hx:x∈tabInts):VR W U (.pointer (some ⟨x.1,0,none⟩)) (.ro (x.2.2.map fun z=>.int x.2.1 z)):=by
 obtain ⟨⟨cs,ty,fr,e,hc⟩,hu⟩:=h (x.1,fun cs=>cs=(x.2.2.map fun z=>Value.int x.2.1 z).toArray) (List.mem_append_left _ (Dp.2 ⟨x,hx,rfl⟩))
 simp only at e hc hu
 subst hc
 refine .ro x.1 0 _ (fun j=>.int x.2.1 (x.2.2.getD j 0)) (fun j hj=>⟨?_,rfl,hu _⟩) fun j c hj=>?_
 ·have hj':j<x.2.2.length:=by simpa using hj
  simp[World.cell?,e,hj',List.getD]
 ·rw[B7,BM]at hj
  obtain ⟨z,h1,rfl⟩:=hj
  simp only[List.getD,h1,Cp]
  exact .int _ _
theorem AW(h:Inv N W0 U0 M a W U s){x:Operand}{X:Opd}(hx:Au x=some X){v:AV}(hv:X.ev s=some v):VR W U (a.eval x) v:=by
 unfold Au at hx
 split at hx
 ·cases hx
  exact h.tv _ v hv
 ·rename_i c
  cases hc:OB c with
  | none=>simp[hc]at hx
  | some y=>
   simp only[hc,BE,Az]at hx
   subst hx
   simp only[Opd.ev,Az]at hv
   subst hv
   exact a2I hc W U
 ·cases hx
  simp only[Opd.ev,Az]at hv
  subst hv
  exact .fn _
 ·rename_i g
  cases hc:tabInts.find? fun x=>x.1==g with
  | none=>simp[hc]at hx
  | some x=>
   simp only[hc,BE,Az]at hx
   subst hx
   simp only[Opd.ev,Az]at hv
   subst hv
   obtain rfl:x.1=g:=by simpa using List.find?_some hc
   exact a3S h.fr.glob (List.mem_of_find?_eq_some hc)

theorem M8(h:Inv N W0 U0 M a W U s){P:Program}{t:TypeId}{x:Operand}{X:Opd}(hx:HQ P t x=some X){v:AV}(hv:X.ev s=some v):VR W U (a.eval x) v:=by
 unfold HQ at hx
 split at hx
 ·split at hx
  ·rename_i e _
   cases hi:P.info? e with
   | none=>simp[hi]at hx
   | some i=>
    simp only[hi,BE,Az]at hx
    subst hx
    simp only[Opd.ev,Az]at hv
    subst hv
    exact (Gs (v:=.slice none 0 0) (c:=.sl none i.size []) rfl W U).1
  ·cases hx
 ·exact AW h hx hv
end

def FU:TypeDesc→Bool
 | .struct _=>true
 | .array _ _=>true
 | _=>false
def Fq(P:Program)(t:TypeId):Option (Option Nat):=
 match P.underlying t,P.info? t with
 | some d,some i=>some (if FU d then some i.size else none)
 | _,_=>none
def Uc(P:Program):Nat→TypeId→Option (List AV)
 | 0,_=>none
 | n+1,t=>match P.underlying t with
  | some (.int k)=>some [.int k 0]
  | some .bool=>some [.bool false]
  | some .string=>some [.str []]
  | some (.slice e)=>(P.info? e).map fun i=>[.sl (some e) i.size []]
  | some (.pointer _)=>some [.nilp]
  | some (.map _ _)=>some [.nilm]
  | some (.struct fs)=>fs.toList.foldr (fun f r=>match Uc P n f.type,r with|some x,some y=>some (x++y)|_,_=>none) (some [])
  | some (.array k e)=>match Uc P n e with
   | some x=>some (List.replicate k x).flatten
   | none=>none
  | _=>none
def KV:List Value→List AV→Bool
 | [],[]=>true
 | v::vs,c::cs=>QJ v c&&KV vs cs
 | _,_=>false
def zeroOf(P:Program)(t:TypeId):Option (List AV):=
 match Uc P 8 t,(P.info? t).bind (·.zero) with
 | some cs,some z=>if KV z.cells.toList cs then some cs else none
 | _,_=>none

def I8(t:Nat):List AV→List AV
 | .nilp::r=>.nilT t::r
 | z=>z
theorem b3o(t:Nat)(z:List AV):(I8 t z).length=z.length:=by
 unfold I8;split<;>rfl
theorem b3n{t:Nat}{z:List AV}(h:(CG z).isNone=true):∀ u,CG (I8 t z)=some u→t=u:=by
 intro u hu
 unfold I8 at hu
 split at hu
 ·simpa[CG]using hu
 ·rw[hu]at h;cases h
theorem b3m{t j:Nat}{z:List AV}{c:AV}(h:(I8 t z)[j]?=some c):z[j]?=some c∨(z[j]?=some .nilp∧c=.nilT t):=by
 unfold I8 at h
 split at h
 ·cases j with
  | zero=>simp at h;exact .inr ⟨rfl,h.symm⟩
  | succ j=>exact .inl (by simpa using h)
 ·exact .inl h
def Fo(P:Program)(t:TypeId):Option Nat:=((P.info? t).bind (·.zero)).map fun z=>z.cells.size

def b3F(ops:List Oper)(d:Nat):Bool:=
 ops.any fun o=>match o.op with
  | .call { callee:=.builtin .append,args,.. }=>match (args[0]?:Option Operand) with
   | some (Operand.tmp t)=>t==d
   | _=>false
  | .assign (.tmp t)=>t==d
  | _=>false
def isSlice(P:Program)(t:TypeId):Option (Nat × Nat):=
 match P.underlying t with
 | some (.slice e)=>(P.info? e).map fun i=>(e,i.size)
 | _=>none
def LI(e:Nat):Bool:=hotTys.contains e
def Oz(P:Program)(ops:List Oper)(o:Oper)(take:Bool)(x:Operand):Option AK:=
 match x,isSlice P o.type with
 | .const (.slice none 0 0),some (e,sz)=>some (if LI e then .hnl e sz else .nil e sz)
 | .tmp t,some _=>if take||(o.dst.map (b3F ops)).getD false then (if o.dst=some t then none else some (.tk t)) else some (.mv (.t t))
 | x,_=>(Au x).map .mv
def Jk(l:List (Nat × Operand))(n:Nat):Option (List Opd):=
 match l with
 | []=>some []
 | (i,x)::r=>if i=n then match Au x,Jk r (n+1) with
  | some y,some ys=>some (y::ys)
  | _,_=>none
  else none
def FM(P:Program):List TypeId→List Operand→Option (List Opd)
 | [],[]=>some []
 | t::ts,x::xs=>match HQ P t x,FM P ts xs with
  | some y,some ys=>some (y::ys)
  | _,_=>none
 | _,_=>none
def Kf(P:Program)(fs:Array Field):List (Nat × Operand)→Option (List (Nat × Nat × Opd))
 | []=>some []
 | (i,x)::r=>match fs[i]? with
  | some f=>match (P.info? f.type).map (·.size),HQ P f.type x,Kf P fs r with
   | some n,some y,some ys=>some ((f.offset,n,y)::ys)
   | _,_,_=>none
  | none=>none
def Ke(P:Program)(e:TypeId)(sz:Nat):List (Nat × Operand)→Option (List (Nat × Nat × Opd))
 | []=>some []
 | (i,x)::r=>match HQ P e x,Ke P e sz r with
  | some y,some ys=>some ((i * sz,sz,y)::ys)
  | _,_=>none
def E3:Option Operand→Option (Option Opd)
 | none=>some none
 | some x=>(Au x).map some
def b0o(P:Program)(t:TypeId):Bool:=
 match P.underlying t with
 | some (.int _)|some .string=>true
 | _=>false
def IK:BinOp→Bool
 | .eql=>false
 | _=>true
def NO:BinOp→Bool
 | .eql | .neq=>false
 | _=>true

def Bd(P:Program)(t:TypeId):Nat:=((P.info? t).map (·.size)).getD 0
def E4(P:Program):Nat→List Field→Option Nat
 | a,[]=>some a
 | a,f::fs=>if f.offset=a∧f.name ≠ "_" ∧ (P.info? f.type).isSome then E4 P (a+Bd P f.type) fs else none
def Hm(K:TypeId→Option (List Kd)):List Field→Option (List Kd)
 | []=>some []
 | f::fs=>match K f.type,Hm K fs with
  | some a,some b=>some (a++b)
  | _,_=>none
def CM(P:Program):Nat→TypeId→Option (List Kd)
 | 0,_=>none
 | n+1,t=>match P.underlying t with
  | some .bool=>if Bd P t=1 then some [.b] else none
  | some (.int _)=>if Bd P t=1 then some [.i] else none
  | some .string=>if Bd P t=1 then some [.s] else none
  | some (.struct fs)=>if P.stoodInHeld t=false∧E4 P 0 fs.toList=some (Bd P t) then Hm (CM P n) fs.toList else none
  | some (.array m e)=>if Bd P t=m * Bd P e∧(P.info? e).isSome=true then (CM P n e).map fun k=>(List.replicate m k).flatten else none
  | _=>none
def Fu(P:Program)(k:TypeId):Option (List Kd × Bool):=match P.underlying k,CM P 8 k with
 | some d,some ks=>some (ks,FU d)
 | _,_=>none
def MN(P:Program)(e:TypeId):Option AV:=match (P.info? e).bind (·.zero),zeroOf P e with
 | some (.agg _),some z=>some (.agg (z.map AV.alias))
 | some v,some [c]=>if v.oneCell' then some c.alias else none
 | _,_=>none
def b3E(ops:List Oper)(d:Nat):Bool:=
 ops.any fun o=>match o.op with
  | .call { callee:=.builtin .append,args,.. }=>match (args[0]?:Option Operand) with
   | some (Operand.tmp t)=>t==d
   | _=>false
  | _=>false
def Sk(P:Program)(t:TypeId):Bool:=
 match P.underlying t with
 | some .string=>true
 | _=>false
theorem a4G{P:Program}{t:TypeId}(h:Sk P t=true):P.underlying t=some .string:=by
 unfold Sk at h
 split at h
 ·assumption
 ·cases h
def XN(P:Program)(t:TypeId):Bool:=match P.underlying t with|some (.slice e)=>hot2Tys.contains e|_=>false
def takes(P:Program)(R:Nat)(ops:List Oper)(o:Oper)(t:TypeId)(n:Option Nat):Bool:=(isSlice P t).isSome && !XN P t&&(o.dst.map (b3E ops)).getD false&&n.isNone
def gives(P:Program)(R:Nat)(t:TypeId)(n:Option Nat):Bool:=(isSlice P t).isSome&&n.isNone

def TI:Operand→Operand→Bool
 | .tmp i,.tmp j=>i==j
 | .const (.int k n),.const (.int k' n')=>k==k'&&n==n'
 | _,_=>false
theorem b1S{x y:Operand}(h:TI x y=true):x=y:=by
 unfold TI at h
 split at h
 ·simp only[beq_iff_eq]at h;subst h;rfl
 ·simp only[AP,beq_iff_eq]at h;obtain ⟨rfl,rfl⟩:=h;rfl
 ·cases h
def objT(P:Program)(t:TypeId):Bool:=(match P.underlying t with|some (.slice e)=>LI e|_=>false)||match zeroOf P t with
 | some z=>z.any fun c=>match c with
  | .nilp | .nilT _ | .nilm=>true
  | _=>false
 | none=>false
def b0J(P:Program)(R:Nat)(ops:List Oper)(x:Operand):Bool:=R==2&&(match x with
 | .tmp j=>ops.any fun o=>o.dst==some j&&(match o.op with
  | .indexAddr t _ _=>(isSlice P t).isSome
  | _=>false)
 | _=>false)
def a3I(P:Program)(ops:List Oper):Operand→Bool
 | .tmp j=>ops.any fun o=>o.dst==some j&&(match o.op with
  | .slice t _ _ _ _=>match P.underlying t with
   | some (.array _ _)=>true
   | _=>false
  | _=>false)
 | _=>false
def M7(P:Program)(R:Nat)(ops:List Oper)(o:Oper):Option AK:=
 match o.op with
 | .move x=>Oz P ops o false x
 | .assign x=>Oz P ops o true x
 | .alloc t=>match zeroOf P t with
  | some z=>if (CG z).isNone then some (.newv (I8 t z)) else none
  | none=>none
 | .box _ x=>(Au x).map .box
 | .load t x=>match Fq P t,Au x with
  | some n,some X=>some (if takes P R ops o t n then .ldt X else if n.isNone&&XN P t then .ldh X else if b0J P R ops x then .ldr n X else .ld n X)
  | _,_=>none
 | .store t x v=>match Fq P t,Au x,HQ P t v,o.dst with
  | some n,some X,some V,none=>if (P.info? t).map (·.size)=some (n.getD 1)∧0<n.getD 1 then (match V with
    | .t i=>some (if gives P R t n then .stt X i else .sto n X (.t i))
    | V=>some (.sto n X V)) else none
  | _,_,_,_=>none
 | .fieldAddr t x f=>match P.underlying t,Au x with
  | some (.struct fs),some x=>match fs[f]? with
   | some fd=>match (P.info? fd.type).map (·.size) with
    | some (_+1)=>some (.fld fd.offset x)
    | _=>none
   | none=>none
  | _,_=>none
 | .field t x f=>match P.underlying t,Au x with
  | some (.struct fs),some x=>match fs[f]? with
   | some fd=>(Fq P fd.type).map fun n=>.fldv fd.offset n x
   | none=>none
  | _,_=>none
 | .indexAddr t x i=>match isSlice P t,Au x,Au i with
  | some (_,sz),some x,some i=>some (.idx sz x i)
  | none,some x,some i=>match P.underlying t with
   | some (.array n e)=>if (P.info? e).isSome then some (.aidx n (Bd P e) x i) else none
   | _=>none
  | _,_,_=>none
 | .index t x i=>match P.underlying t,Au x,Au i with
  | some .string,some x,some i=>some (.sidx x i)
  | some (.array n e),some x,some i=>(Fq P e).map fun q=>.vidx n (Bd P e) q x i
  | _,_,_=>none
 | .binOp op t x y _=>if NO op||b0o P t then match Au x,Au y with
   | some x,some y=>some (.bin op x y)
   | _,_=>none
  else match P.underlying t,Au x,Au y with
   | some .bool,some x,some y=>some (.beq (IK op) x y)
   | some (.struct _),some x,some y=>if P.eqGuardType P.depth t=false then (CM P 8 t).map fun ks=>.aeq (IK op) ks x y else none
   | some (.array _ _),some x,some y=>if P.eqGuardType P.depth t=false then (CM P 8 t).map fun ks=>.aeq (IK op) ks x y else none
   | some (.pointer _),some x,some (.c .nilp)=>some (.peq (IK op) x)
   | _,_,_=>none
 | .unOp op _ x=>(Au x).map (.un op)
 | .convert src dst x0=>match P.underlying src,P.underlying dst,Au x0 with
  | some (.int _),some (.int k),some x=>some (.conv k x)
  | some (.slice e),some .string,some x=>match P.underlying e with
   | some (.int .u8)=>some (if R=1 then .b2o x else if a3I P ops x0 then .b2d x else .b2s x)
   | _=>none
  | some .string,some (.slice e),some x=>match P.underlying e with
   | some (.int .u8)=>some (.s2b e x)
   | _=>none
  | some .string,some .string,some x=>some (.s2s x)
  | _,_,_=>none
 | .slice t x lo hi none=>match P.underlying t,Au x,E3 lo,E3 hi with
  | some .string,some x,some lo,some hi=>some (.slc none x lo hi)
  | some (.slice e),some x,some lo,some hi=>(P.info? e).map fun i=>if LI e then .hslc i.size x lo hi else .slc (some i.size) x lo hi
  | some (.array n e),some x,some none,some none=>if n≤maxLen∧(P.info? e).isSome=true then some (.asl n x) else none
  | _,_,_,_=>none
 | .extract x j=>(Au x).map (.ext j)
 | .nilCheck x=>(Au x).map .nilc
 | .pick c x y=>match Au c,Au x,Au y with
  | some c,some x,some y=>some (.pick c x y)
  | _,_,_=>none
 | .build t parts=>match P.underlying t,zeroOf P t with
  | some (.struct fs),some z=>if fs.toList.all fun f=>(P.info? f.type).isSome then (Kf P fs parts.toList).map (.bld (z.map JY)) else none
  | some (.array _ e),some z=>match P.info? e with
   | some i=>(Ke P e i.size parts.toList).map (.bld (z.map JY))
   | none=>none
  | _,_=>none
 | .buildSlice t n parts=>match isSlice P t,Jk parts.toList 0 with
  | some (e,sz),some ps=>if ps.length=n∧n * sz≤16777216∧0<n * sz∧Fo P e=some sz then some (if LI e&&(zeroOf P e).isSome then .hbs e sz ps else .bs e sz ps) else none
  | _,_=>none
 | .call { callee:=.value (.func f),args,argTypes }=>if ((P.funcs[f]?).map fun fn=>fn.body.isSome && !(fn.name == "runtime.NumGoroutine")).getD false then (FM P argTypes.toList args.toList).map (if R==4 && !argTypes.toList.any (objT P) then .calln f else if 0<R then .callo f else if argTypes.toList.any (objT P) then .cro f else .call f) else none
 | .call { callee:=.builtin .len,args:=⟨[x]⟩,argTypes:=⟨[t]⟩ }=>match P.underlying t,Au x with
  | some .string,some x=>some (.len true x)
  | some (.slice _),some x=>some (.len false x)
  | _,_=>none
 | .call { callee:=.builtin .append,args:=⟨[.tmp i,x]⟩,argTypes:=⟨[t,t']⟩ }=>match isSlice P t,Au x with
  | some (e,sz),some x=>if t=t'∧0<sz∧Fo P e=some sz then (P.info? e).map fun inf=>if LI e&&(zeroOf P e).isSome then .hap e sz inf.bytes (some i) x else .app e sz inf.bytes i x else if Sk P t'=true∧sz=1∧Fo P e=some 1 then (P.info? e).map fun inf=>.apps e inf.bytes i x else none
  | _,_=>none
 | .call { callee:=.builtin .min,args:=⟨[x,y]⟩,argTypes:=_ }=>match Au x,Au y with
  | some x,some y=>some (.mn x y)
  | _,_=>none
 | .makeSlice t x y=>match isSlice P t,Au x with
  | some (e,sz),some X=>match zeroOf P e,P.info? e with
   | some z,some i=>if TI x y=true∧z.length=sz∧0<sz  then (if (CG z).isNone then some (.mk z i.bytes X) else none) else none
   | _,_=>none
  | _,_=>none
 | .call { callee:=.builtin .max,args:=⟨[x,y]⟩,argTypes:=_ }=>match Au x,Au y with
  | some x,some y=>some (.mx x y)
  | _,_=>none
 | .makeMap _ none=>some .mkm
 | .lookup t m x ok=>match P.underlying t,Au m,Au x with
  | some (.map k e),some m,some x=>match Fu P k,MN P e with
   | some (ks,ag),some z=>some (.mq z ok ks ag m x)
   | _,_=>none
  | _,_,_=>none
 | .mapUpdate t m x v=>match P.underlying t,Au m,Au x,Au v with
  | some (.map k _),some m,some x,some v=>match Fu P k,o.dst with
   | some (ks,ag),none=>some (.mu 0 .undef ks ag m x v)
   | _,_=>none
  | _,_,_,_=>none
 | .mapEntry t m x=>match P.underlying t,Au m,Au x with
  | some (.map k e),some m,some x=>match Fu P k,MN P e with
   | some (ks,ag),some z=>some (.mu 1 z ks ag m x (.c .undef))
   | _,_=>none
  | _,_,_=>none
 | .entryStore _ m x v=>match Au m,Au x,Au v,o.dst with
  | some m,some x,some v,none=>some (.mu 2 .undef [] false m x v)
  | _,_,_,_=>none
 | .call { callee:=.builtin .delete,args:=⟨[m,x]⟩,argTypes:=⟨[t,_]⟩ }=>match P.underlying t,Au m,Au x with
  | some (.map k _),some m,some x=>match Fu P k,o.dst with
   | some (ks,ag),none=>some (.mu 3 .undef ks ag m x (.c .undef))
   | _,_=>none
  | _,_,_=>none
 | .range t x=>match P.underlying t,Au x with
  | some (.map _ _),some x=>some (.rng x)
  | _,_=>none
 | .next x false=>(Au x).map .nxt
 | .entry x=>(Au x).map .ent
 | .call { callee:=.builtin .append,args:=⟨[.const (.slice none 0 0),x]⟩,argTypes:=⟨[t,t']⟩ }=>match isSlice P t,Au x with
  | some (e,sz),some x=>if t=t'∧0<sz∧Fo P e=some sz then (P.info? e).map fun inf=>if LI e&&(zeroOf P e).isSome then .hap e sz inf.bytes none x else .app0 e sz inf.bytes x else none
  | _,_=>none
 | .call { callee:=.value (.tmp k),args,argTypes }=>if 0<R then (FM P argTypes.toList args.toList).map (.callv (.t k)) else none
 | _=>none
end Go.Proofs.YtfgihnhoocnmdaaGreatDoor
