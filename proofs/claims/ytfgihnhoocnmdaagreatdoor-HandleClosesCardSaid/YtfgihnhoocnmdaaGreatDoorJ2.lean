import Derived.Test.YtfgihnhoocnmdaaGreatDoorJ1
import Derived.Great.BuildSlice
import Derived.Lib.ConvBytes
namespace Go.Proofs.YtfgihnhoocnmdaaGreatDoor
set_option linter.all false
set_option maxHeartbeats 64000000
set_option maxRecDepth 100000
open Go.RowKit
section
variable {P:Program} {N:Nat} {W0:World} {U0:Nat→Nat→Prop} {M:Nat→Prop} {a:Act} {W:World} {U:Nat→Nat→Prop} {s:St} {o:Oper} {r:AV}

def VOK(P:Program)(a:Act)(o:Oper)(W:World)(U:Nat→Nat→Prop)(r:AV):Prop:=
 ∃ v W' U',(execOp a.eval o).run P W=.ok (.value v) W'∧Ext W U W' U'∧VR W' U' v r∧Own1 W' U' (W.heap.size ≤ ·) v r

theorem Own1.plain{B:Nat→Prop}{v:Value}{r:AV}(h:∀ e sz els,r ≠ .sl (some e) sz els):Own1 W U B v r:=by
 unfold Own1
 split
 ·exact absurd rfl (h _ _ _)
 ·trivial
theorem FK(r:AV)(e:Nat)(sz:Nat)(els:List (List AV)):r.alias ≠ .sl (some e) sz els:=by
 cases r<;>simp[AV.alias]
theorem b2x(r:AV)(e:Nat)(sz:Nat)(els:List (List AV)):r.store ≠ .sl (some e) sz els:=by
 cases r<;>simp[AV.alias,AV.store]
theorem VOK.same{v:Value}(hrun:(execOp a.eval o).run P W=.ok (.value v) W)(hv:VR W U v r)(hp:∀ e sz els,r ≠ .sl (some e) sz els):VOK P a o W U r:=
 ⟨v,W,U,hrun,Ext.refl _ _,hv,Own1.plain hp⟩

theorem VR.int_inv{v:Value}{k:IntKind}{n:Int}(h:VR W U v (.int k n)):v=.int k n:=by cases h;rfl
theorem VR.bool_inv{v:Value}{b:Bool}(h:VR W U v (.bool b)):v=.bool b:=by cases h;rfl
theorem VR.str_inv{v:Value}{l:List UInt8}(h:VR W U v (.str l)):v=.string ⟨l.toArray⟩:=by cases h;rfl

theorem a0h(h:Inv N W0 U0 M a W U s){x:Operand}{X:Opd}(ho:o.op=.move x∨o.op=.assign x)(hx:Au x=some X)(hr:AU P s (.mv X) r):VOK P a o W U r:=by
 obtain ⟨v,hv,rfl⟩:=hr
 refine VOK.same (v:=a.eval x) ?_ (AW h hx hv).alias (FK _)
 rcases ho with ho|ho<;>simp[execOp,ho]

theorem b1D{x:Operand}{e sz:Nat}(ho:o.op=.move x∨o.op=.assign x)(hx:x=.const (.slice none 0 0))(hr:AU P s (.nil e sz) r):VOK P a o W U r:=by
 obtain rfl:=hr
 subst hx
 refine ⟨.slice none 0 0,W,U, ?_,Ext.refl _ _,(Gs (v:=.slice none 0 0) (c:=.sl (some e) sz []) rfl W U).1,.inl ⟨rfl,rfl⟩⟩
 rcases ho with ho|ho<;>simp[execOp,ho,Act.eval]

theorem a2A{op:BinOp}{x y r:AV}(h:A4 op x y r):∀ e sz els,r ≠ .sl (some e) sz els:=by
 intro e sz els hr
 subst hr
 unfold A4 at h
 split at h<;>simp at h

theorem Mp(l:List UInt8):(⟨l.toArray⟩:ByteArray).size=l.length:=by simp[ByteArray.size]
theorem Qx(l:List UInt8):(⟨l.toArray⟩:ByteArray).toList=l:=by rw[ByteArray.toList_eq]
theorem a2g(a b:List UInt8):(⟨a.toArray⟩:ByteArray)++⟨b.toArray⟩=⟨(a++b).toArray⟩:=by
 apply ByteArray.ext
 simp

theorem M6(l m:List UInt8):(l==m)=decide (l=m):=by
 by_cases h:l=m<;>simp[h]
theorem UI(m n:Bool):(m==n)=decide (m=n):=by cases m<;>cases n<;>rfl

theorem b0Z(h:Inv N W0 U0 M a W U s){op:BinOp}{t ty:TypeId}{x y:Operand}{X Y:Opd}(ho:o.op=.binOp op t x y ty)(hx:Au x=some X)(hy:Au y=some Y)(hr:AU P s (.bin op X Y) r):
  VOK P a o W U r:=by
 obtain ⟨v,u,hv,hu,hb⟩:=hr
 have h1:=AW h hx hv
 have h2:=AW h hy hu
 have hp:=a2A hb
 suffices hs:∃ w,(do eqGuard op t x y (a.eval x) (a.eval y);binOp op t (a.eval x) (a.eval y):Sem Value).run P W=.ok w W∧VR W U w r by
  obtain ⟨w,hw,hvr⟩:=hs
  refine VOK.same (v:=w) ?_ hvr hp
  simp only[execOp,ho]
  simp only[Sem.run_bind]at hw ⊢
  rw[hw]
  simp
 unfold A4 at hb
 split at hb
 ·obtain ⟨rfl,rfl⟩:=hb;rw[h1.int_inv,h2.int_inv];exact ⟨_,by simp[eqGuard,binOp,Op.intArith],.int _ _⟩
 ·obtain ⟨rfl,rfl⟩:=hb;rw[h1.int_inv,h2.int_inv];exact ⟨_,by simp[eqGuard,binOp,Op.intArith],.int _ _⟩
 ·obtain ⟨rfl,rfl⟩:=hb;rw[h1.int_inv,h2.int_inv];exact ⟨_,by simp[eqGuard,binOp,Op.intArith],.int _ _⟩
 ·obtain ⟨rfl,hn0,rfl⟩:=hb;rw[h1.int_inv,h2.int_inv];exact ⟨_,by simp[eqGuard,binOp,Op.intDiv,hn0],.int _ _⟩
 ·obtain ⟨rfl,hn0,rfl⟩:=hb;rw[h1.int_inv,h2.int_inv];exact ⟨_,by simp[eqGuard,binOp,Op.intDiv,hn0],.int _ _⟩
 ·obtain ⟨rfl,rfl⟩:=hb;rw[h1.int_inv,h2.int_inv];exact ⟨_,by simp[eqGuard,binOp,Op.intCmp];rfl,.bool _⟩
 ·obtain ⟨rfl,rfl⟩:=hb;rw[h1.int_inv,h2.int_inv];exact ⟨_,by simp[eqGuard,binOp,Op.intCmp];rfl,.bool _⟩
 ·obtain ⟨rfl,rfl⟩:=hb;rw[h1.int_inv,h2.int_inv];exact ⟨_,by simp[eqGuard,binOp,Op.intCmp],.bool _⟩
 ·obtain ⟨rfl,rfl⟩:=hb;rw[h1.int_inv,h2.int_inv];exact ⟨_,by simp[eqGuard,binOp,Op.intCmp],.bool _⟩
 ·obtain ⟨rfl,rfl⟩:=hb;rw[h1.int_inv,h2.int_inv];exact ⟨_,by simp[eqGuard,binOp,Op.intCmp],.bool _⟩
 ·obtain ⟨rfl,rfl⟩:=hb;rw[h1.int_inv,h2.int_inv];exact ⟨_,by simp[eqGuard,binOp,Op.intCmp],.bool _⟩
 ·obtain ⟨hl,rfl⟩:=hb;rw[h1.str_inv,h2.str_inv]
  refine ⟨_, ?_,.str _⟩
  simp[eqGuard,binOp,Op.stringOp,a2g]
  rw[Mp,Mp]
  omega
 ·obtain rfl:=hb;rw[h1.str_inv,h2.str_inv];exact ⟨_,by simp[eqGuard,binOp,Op.stringOp,M6],.bool _⟩
 ·obtain rfl:=hb;rw[h1.str_inv,h2.str_inv];exact ⟨_,by simp[eqGuard,binOp,Op.stringOp,M6],.bool _⟩
 ·obtain rfl:=hb;rw[h1.str_inv,h2.str_inv];exact ⟨_,by simp[eqGuard,binOp,Op.stringOp],.bool _⟩
 ·obtain rfl:=hb;rw[h1.str_inv,h2.str_inv];exact ⟨_,by simp[eqGuard,binOp,Op.stringOp,M6],.bool _⟩
 ·obtain rfl:=hb;rw[h1.str_inv,h2.str_inv];exact ⟨_,by simp[eqGuard,binOp,Op.stringOp],.bool _⟩
 ·obtain ⟨rfl,rfl⟩:=hb;rw[h1.int_inv,h2.int_inv];exact ⟨_,by simp[eqGuard,binOp,Op.intBits],.int _ _⟩
 ·obtain ⟨rfl,rfl⟩:=hb;rw[h1.int_inv,h2.int_inv];exact ⟨_,by simp[eqGuard,binOp,Op.intBits],.int _ _⟩
 ·obtain ⟨rfl,rfl⟩:=hb;rw[h1.int_inv,h2.int_inv];exact ⟨_,by simp[eqGuard,binOp,Op.intBits],.int _ _⟩
 ·obtain ⟨rfl,rfl⟩:=hb;rw[h1.int_inv,h2.int_inv];exact ⟨_,by simp[eqGuard,binOp,Op.intBits],.int _ _⟩
 ·obtain ⟨h0,rfl⟩:=hb;rw[h1.int_inv,h2.int_inv];exact ⟨_,by simp[eqGuard,binOp,Op.shift,show ¬ _<(0:Int) from Int.not_lt.2 h0],.int _ _⟩
 ·obtain ⟨h0,rfl⟩:=hb;rw[h1.int_inv,h2.int_inv];exact ⟨_,by simp[eqGuard,binOp,Op.shift,show ¬ _<(0:Int) from Int.not_lt.2 h0],.int _ _⟩
 ·exact hb.elim

theorem run_equal_bool{t:TypeId}(ht:P.underlying t=some .bool)(d:Nat)(x y:Bool):(Op.equalIn (d+1) t (.bool x) (.bool y)).run P W=.ok (decide (x=y)) W:=by
 simp[Op.equalIn,run_underlying ht,UI]
theorem b0Y(h:Inv N W0 U0 M a W U s){op:BinOp}{t ty:TypeId}{x y:Operand}{X Y:Opd}(ho:o.op=.binOp op t x y ty)(hop:op=.eql∨op=.neq)(ht:P.underlying t=some .bool)(hx:Au x=some X)(hy:Au y=some Y)
  (hr:AU P s (.beq (IK op) X Y) r):VOK P a o W U r:=by
 obtain ⟨v,u,hv,hu,rfl⟩:=hr
 have h1:=(AW h hx hv).bool_inv
 have h2:=(AW h hy hu).bool_inv
 rcases hop with rfl|rfl
 ·refine VOK.same (v:=.bool (decide (v=u))) ?_ (.bool _) (by simp)
  simp[execOp,ho,h1,h2,eqGuard,binOp,Op.equal,Op.maxDepth,run_equal_bool ht 9999 v u]
 ·refine VOK.same (v:=.bool (!decide (v=u))) ?_ (.bool _) (by simp)
  simp[execOp,ho,h1,h2,eqGuard,binOp,Op.equal,Op.maxDepth,run_equal_bool ht 9999 v u]

theorem b1G(h:Inv N W0 U0 M a W U s){op:BinOp}{t e ty:TypeId}{x y:Operand}{X:Opd}(ho:o.op=.binOp op t x y ty)(hop:op=.eql∨op=.neq)(ht:P.underlying t=some (.pointer e))(hx:Au x=some X)(hy:Au y=some (.c .nilp))
  (hr:AU P s (.peq (IK op) X) r):VOK P a o W U r:=by
 obtain ⟨v,b,hv,hb,rfl⟩:=hr
 have h1:=AW h hx hv
 have h2:a.eval y=.pointer none:=by
  have:=AW h hy (v:=.nilp) rfl
  generalize a.eval y=w at this
  cases this;rfl
 have h3:∃ p,a.eval x=.pointer p∧b=p.isNone:=by
  generalize a.eval x=w at h1
  cases h1<;>simp only[Sj,Az,reduceCtorEq]at hb<;>subst hb<;>exact ⟨_,rfl,rfl⟩
 obtain ⟨p,h3,rfl⟩:=h3
 have hrun:∀ d,(Op.equalIn (d+1) t (.pointer p) (.pointer none)).run P W=.ok p.isNone W:=by
  intro d
  cases p<;>simp[Op.equalIn,run_underlying ht]
 rcases hop with rfl|rfl
 ·refine VOK.same (v:=.bool p.isNone) ?_ (.bool _) (by simp)
  simp[execOp,ho,h3,h2,eqGuard,binOp,Op.equal,Op.maxDepth,hrun 9999]
 ·refine VOK.same (v:=.bool (!p.isNone)) ?_ (.bool _) (by simp)
  simp[execOp,ho,h3,h2,eqGuard,binOp,Op.equal,Op.maxDepth,hrun 9999]
theorem b1Q(h:Inv N W0 U0 M a W U s){op:UnOp}{t:TypeId}{x:Operand}{X:Opd}(ho:o.op=.unOp op t x)(hx:Au x=some X)(hr:AU P s (.un op X) r):VOK P a o W U r:=by
 obtain ⟨v,hv,hb⟩:=hr
 have h1:=AW h hx hv
 unfold J0 at hb
 split at hb
 ·obtain rfl:=hb
  exact VOK.same (v:=.bool _) (by simp[execOp,ho,h1.bool_inv,Op.unary]) (.bool _) (by simp)
 ·obtain rfl:=hb
  exact VOK.same (v:=.int _ _) (by simp[execOp,ho,h1.int_inv,Op.unary,Op.intArith]) (.int _ _) (by simp)
 ·obtain rfl:=hb
  exact VOK.same (v:=.int _ _) (by simp[execOp,ho,h1.int_inv,Op.unary,Op.intBits]) (.int _ _) (by simp)
 ·exact hb.elim

theorem b1g(h:Inv N W0 U0 M a W U s){src dst:TypeId}{ks k:IntKind}{x:Operand}{X:Opd}(ho:o.op=.convert src dst x)(hs:P.underlying src=some (.int ks))(hd:P.underlying dst=some (.int k))(hx:Au x=some X)
  (hr:AU P s (.conv k X) r):VOK P a o W U r:=by
 obtain ⟨k',n,hv,rfl⟩:=hr
 have h1:=(AW h hx hv).int_inv
 exact VOK.same (v:=.int k (k.wrap n)) (by simp[execOp,ho,h1,convert,run_underlying hs,run_underlying hd,Conv.intToInt]) (.int _ _) (by simp)

theorem b1K(h:Inv N W0 U0 M a W U s){src dst:TypeId}{x:Operand}{X:Opd}(ho:o.op=.convert src dst x)(hs:P.underlying src=some .string)(hd:P.underlying dst=some .string)(hx:Au x=some X)
  (hr:AU P s (.s2s X) r):VOK P a o W U r:=by
 obtain ⟨l,hl,rfl⟩:=hr
 have h1:=(AW h hx hl).str_inv
 exact VOK.same (v:=.string ⟨l.toArray⟩) (by simp[execOp,ho,h1,convert,run_underlying hs,run_underlying hd]) (.str l) (by simp)

theorem b1s(h:Inv N W0 U0 M a W U s){t:TypeId}{x:Operand}{X:Opd}(ho:o.op=.call { callee:=.builtin .len,args:=⟨[x]⟩,argTypes:=⟨[t]⟩ })(ht:P.underlying t=some .string)
  (hx:Au x=some X) (hr:AU P s (.len true X) r):VOK P a o W U r:=by
 obtain ⟨v,hv,hb⟩:=hr
 have h1:=AW h hx hv
 cases v<;>simp only[Gf]at hb
 subst hb
 exact VOK.same (v:=.int .i64 _) (by simp[execOp,ho,h1.str_inv,resolve,invoke,builtin,Builtin.len_,run_underlying ht,goInt,Mp]) (.int _ _) (by simp)

theorem b1r(h:Inv N W0 U0 M a W U s){t e:TypeId}{x:Operand}{X:Opd}(ho:o.op=.call { callee:=.builtin .len,args:=⟨[x]⟩,argTypes:=⟨[t]⟩ })(ht:P.underlying t=some (.slice e))
  (hx:Au x=some X) (hr:AU P s (.len false X) r):VOK P a o W U r:=by
 obtain ⟨v,hv,hb⟩:=hr
 have h1:=AW h hx hv
 cases v<;>simp only[Gf]at hb
 ·rename_i own sz els
  subst hb
  refine VOK.same (v:=.int .i64 els.length) ?_ (.int _ _) (by simp)
  generalize hval:a.eval x=val at h1
  cases h1
  simp[execOp,ho,hval,resolve,invoke,builtin,Builtin.len_,run_underlying ht,goInt]
 ·rename_i b off n
  subst hb
  refine VOK.same (v:=.int .i64 n) ?_ (.int _ _) (by simp)
  generalize hval:a.eval x=val at h1
  cases h1
  simp[execOp,ho,hval,resolve,invoke,builtin,Builtin.len_,run_underlying ht,goInt]
 ·rename_i g e' sz n cap
  subst hb
  refine VOK.same (v:=.int .i64 n) ?_ (.int _ _) (by simp)
  generalize hval:a.eval x=val at h1
  cases h1
  simp[execOp,ho,hval,resolve,invoke,builtin,Builtin.len_,run_underlying ht,goInt]
 ·rename_i g sz a0 m
  subst hb
  refine VOK.same (v:=.int .i64 m) ?_ (.int _ _) (by simp)
  generalize hval:a.eval x=val at h1
  cases h1
  simp[execOp,ho,hval,resolve,invoke,builtin,Builtin.len_,run_underlying ht,goInt]
 ·subst hb
  refine VOK.same (v:=.int .i64 0) ?_ (.int _ _) (by simp)
  generalize hval:a.eval x=val at h1
  cases h1
  simp[execOp,ho,hval,resolve,invoke,builtin,Builtin.len_,run_underlying ht,goInt]

theorem C0(b o j:Nat):(⟨b,o,none⟩:Addr).add j=⟨b,o+j,none⟩:=by
 unfold Addr.add
 split<;>simp_all

theorem T2(h:Inv N W0 U0 M a W U s){v:Value}{p:AV}{cs:List AV}(hv:VR W U v p)(hw:view s.o p=some cs):
  ∃ (b off:Nat) (f:Nat→Value),v=.pointer (some ⟨b,off,none⟩)∧(∀ j,j<cs.length→W.cell? ⟨b,off+j,none⟩=some (f j)∧(f j).oneCell'=true)∧∀ j c,cs[j]?=some c→VR W U (f j) c:=by
 cases hv with
 | ro b o cs' f hc hvv=>
  simp only[view,Az]at hw
  subst hw
  exact ⟨b,o,f,rfl,fun j hj=>⟨(hc j hj).1,(hc j hj).2.1⟩,hvv⟩
 | ptr b off hm=>
  simp only[view,BM]at hw
  obtain ⟨full,hf,rfl⟩:=hw
  obtain ⟨vs,ty,h1,h2,h3,_,_⟩:=h.obc hf hm
  refine ⟨b,off,fun j=>vs.getD (off+j) undef,rfl,fun j hj=>?_,fun j c hc=>?_⟩
  ·have hlt:off+j<full.length:=by simp at hj;omega
   have:=(h3 (off+j) full[off+j] (Aw hlt)).2
   refine ⟨?_,this⟩
   rw[cell_of_row W b (off+j) vs ty (0,0) h1]
   have hv:off+j<vs.size:=by omega
   simp[hv]
  ·rw[CC]at hc
   exact (h3 (off+j) c hc).1
 | _=>simp[view]at hw

theorem IW{t:TypeId}{d:TypeDesc}(ht:P.underlying t=some d)(W:World):(isAgg t).run P W=.ok (FU d) W:=by
 cases d<;>simp[isAgg,run_underlying ht,FU]
theorem Ot{t:TypeId}{n:Option Nat}(hn:Fq P t=some n):∃ d i,P.underlying t=some d∧P.info? t=some i∧(FU d=true∧n=some i.size∨FU d=false∧n=none):=by
 unfold Fq at hn
 split at hn
 ·rename_i d i hu hi
  refine ⟨d,i,hu,hi, ?_⟩
  cases hd:FU d<;>simp[hd]at hn<;>simp[hn]
 ·cases hn
theorem range_map_get{n:Nat}{f:Nat→Value}{j:Nat}{v:Value}(h:((List.range n).map f)[j]?=some v):j<n∧v=f j:=by
 have hj:j<n:=by
  rcases FJ j n with hj|hj
  ·exact hj
  ·rw[FH (by simp;omega)]at h
   cases h
 rw[B7,List.getElem?_range hj]at h
 exact ⟨hj,by simpa using h.symm⟩

theorem a0a{t:TypeId}{n:Option Nat}(hn:Fq P t=some n){cs:List AV}{b off:Nat}{f:Nat→Value}(h1:∀ j,j<cs.length→W.cell? ⟨b,off+j,none⟩=some (f j)∧(f j).oneCell'=true)
  (h2:∀ j c,cs[j]?=some c→VR W U (f j) c) (hr:A5 n cs r):∃ v,(Instr.loadAt t (.pointer (some ⟨b,off,none⟩))).run P W=.ok v W∧VR W U v r∧∀ e sz els,r ≠ .sl (some e) sz els:=by
 obtain ⟨d,i,hu,hi,hd⟩:=Ot hn
 rcases hd with ⟨hd,rfl⟩ | ⟨hd,rfl⟩
 ·obtain ⟨hle,rfl⟩:=(by simpa[A5]using hr:i.size≤cs.length∧r=.agg (cs.take i.size))
  refine ⟨.agg ((List.range i.size).map f).toArray, ?_,.agg _ _ (by simp[hle]) (fun j v c hv hc=>?_) (fun v hv=>?_),by simp⟩
  ·have hl:=run_loadCells_list (P:=P) (w:=W) ⟨b,off,none⟩ ((List.range i.size).map f) (fun j v hj=>by
    obtain ⟨hlt,rfl⟩:=range_map_get hj
    rw[C0]
    exact (h1 j (by omega)).1)
   simp only[Ax,List.length_range]at hl
   simp[Instr.loadAt,Instr.sureAddr,loadVar,IW hu,hd,sizeOf,typeInfo,hi,hl]
  ·obtain ⟨hlt,rfl⟩:=range_map_get hv
   rw[HM,Af hlt]at hc
   exact h2 j c hc
  ·simp only[Dp,List.mem_range]at hv
   obtain ⟨j,hj,rfl⟩:=hv
   exact (h1 j (by omega)).2
 ·cases cs with
  | nil=>simp[A5]at hr
  | cons c rest=>
   obtain rfl:=(by simpa[A5]using hr:r=c.alias)
   have hc:=(h1 0 (by simp)).1
   refine ⟨f 0, ?_,(h2 0 c (by simp)).alias,FK c⟩
   simp only[Nat.add_zero]at hc
   simp[Instr.loadAt,Instr.sureAddr,loadVar,IW hu,hd,hc]

theorem NV(h:Inv N W0 U0 M a W U s){t:TypeId}{x:Operand}{X:Opd}{n:Option Nat}(ho:o.op=.load t x)(hn:Fq P t=some n)(hx:Au x=some X)(hr:AU P s (.ld n X) r):VOK P a o W U r:=by
 obtain ⟨p,cs,hp,hv,hl⟩:=hr
 obtain ⟨b,off,f,he,h1,h2⟩:=T2 h (AW h hx hp) hv
 obtain ⟨v,hrun,hvr,hpl⟩:=a0a hn h1 h2 hl
 exact VOK.same (v:=v) (by simp[execOp,ho,he,hrun]) hvr hpl

theorem b1j(h:Inv N W0 U0 M a W U s){t:TypeId}{fs:Array Field}{fi n:Nat}{fd:Field}{x:Operand}{X:Opd}(ho:o.op=.fieldAddr t x fi)(ht:P.underlying t=some (.struct fs))(hf:fs[fi]?=some fd)
  (hz:(P.info? fd.type).map (·.size)=some (n+1)) (hx:Au x=some X) (hr:AU P s (.fld fd.offset X) r):VOK P a o W U r:=by
 obtain ⟨p,hp,hb⟩:=hr
 have h1:=AW h hx hp
 cases hi:P.info? fd.type with
 | none=>simp[hi]at hz
 | some i=>
  have hsz:i.size=n+1:=by simpa[hi]using hz
  cases p with
  | ro cs=>
   obtain rfl:=(by simpa[GE]using hb:r=.ro (cs.drop fd.offset))
   generalize hval:a.eval x=val at h1
   cases h1 with
   | ro b off _ f hc hv=>
    refine VOK.same (v:=.pointer (some ⟨b,off+fd.offset,none⟩)) ?_ ?_ (by simp)
    ·simp[execOp,ho,hval,Instr.fieldAt,run_underlying ht,hf,Instr.sureAddr,fieldPlace,sizeOf,typeInfo,hi,hsz,C0]
    ·refine .ro b (off+fd.offset) _ (fun j=>f (fd.offset+j)) (fun j hj=>?_) (fun j c hc'=>?_)
     ·have:=hc (fd.offset+j) (by simp at hj;omega)
      rw[Nat.add_assoc]
      exact this
     ·rw[CC]at hc'
      exact hv _ c hc'
  | ptr b off=>
   have hm:=h1.ptr_at
   obtain rfl:=(by simpa[GE]using hb:r=.ptr b (off+fd.offset))
   generalize hval:a.eval x=val at h1
   cases h1
   exact VOK.same (v:=.pointer (some ⟨b,off+fd.offset,none⟩)) (by simp[execOp,ho,hval,Instr.fieldAt,run_underlying ht,hf,Instr.sureAddr,fieldPlace,sizeOf,typeInfo,hi,hsz,C0]) (.ptr _ _ hm) (by simp)
  | _=>exact hb.elim

theorem LJ{t:TypeId}{e sz:Nat}(h:isSlice P t=some (e,sz)):∃ i,P.underlying t=some (.slice e)∧P.info? e=some i∧i.size=sz:=by
 unfold isSlice at h
 split at h
 ·rename_i e' hu
  cases hi:P.info? e' with
  | none=>simp[hi]at h
  | some i=>
   simp only[hi,BE,Az,G9]at h
   obtain ⟨rfl,rfl⟩:=h
   exact ⟨i,hu,hi,rfl⟩
 ·cases h

theorem b1o(h:Inv N W0 U0 M a W U s){t:TypeId}{e sz:Nat}{x y:Operand}{X Y:Opd}(ho:o.op=.indexAddr t x y)(ht:isSlice P t=some (e,sz))(hx:Au x=some X)(hy:Au y=some Y)(hr:AU P s (.idx sz X Y) r):VOK P a o W U r:=by
 obtain ⟨p,q,hp,hn,hr⟩:=hr
 obtain ⟨i,hu,hi,rfl⟩:=LJ ht
 cases p<;>try exact hr.elim
 all_goals cases q<;>try exact hr.elim
 case osl.int b off len k n=>
  obtain ⟨⟨hn0,hnl⟩,rfl⟩:=hr
  have h1:=AW h hx hp
  have h2:=(AW h hy hn).int_inv
  generalize hval:a.eval x=val at h1
  cases h1 with
  | osl _ _ _ cap hcap hmax hm=>
   refine VOK.same (v:=.pointer (some ⟨b,off+n.toNat * i.size,none⟩)) ?_ (.ptr _ _ hm) (by simp)
   simp[execOp,ho,hval,h2,Instr.indexAt,asIntOf,run_underlying hu,hn0,hnl,sizeOf,typeInfo,hi,C0]
 case hsl.int g e' sz' len cap k n=>
  obtain ⟨rfl,⟨hn0,hnl⟩,rfl⟩:=hr
  have h1:=AW h hx hp
  have h2:=(AW h hy hn).int_inv
  generalize hval:a.eval x=val at h1
  cases h1 with
  | hsl _ _ _ _ _ hcap hmax hm=>
   obtain ⟨c1,c2,c3⟩:=hm
   refine VOK.same (v:=.pointer (some ⟨g,n.toNat * i.size,none⟩)) ?_ (.ptr _ _ ⟨_,_,_,c3⟩) (by simp)
   simp[execOp,ho,hval,h2,Instr.indexAt,asIntOf,run_underlying hu,hn0,hnl,sizeOf,typeInfo,hi,C0]
 case hss.int g sz' a0 len k n=>
  obtain ⟨rfl,⟨hn0,hnl⟩,rfl⟩:=hr
  have h1:=AW h hx hp
  have h2:=(AW h hy hn).int_inv
  generalize hval:a.eval x=val at h1
  cases h1 with
  | hss A _ _ _ _ cap hcap hmax hA hm=>
   obtain rfl:=hA (by omega)
   refine VOK.same (v:=.pointer (some ⟨g,(a0+n.toNat) * i.size,none⟩)) ?_ (.ptr _ _ hm) (by simp)
   simp[execOp,ho,hval,h2,Instr.indexAt,asIntOf,run_underlying hu,hn0,hnl,sizeOf,typeInfo,hi,C0,Bp]
 rename_i own sz els k n
 obtain ⟨rfl,⟨hn0,hnl⟩,rfl⟩:=hr
 have h1:=AW h hx hp
 have h2:=(AW h hy hn).int_inv
 have hlt:n.toNat<els.length:=by omega
 have hget:els.getD n.toNat []=els[n.toNat]:=by simp[hlt]
 generalize hval:a.eval x=val at h1
 cases h1 with
 | sl A cap _ _ b off _ f hcap hmax hA hs hc hv=>
  obtain rfl:=hA (by omega)
  have hsz:els[n.toNat].length=i.size:=hs _ (Di _)
  refine VOK.same (v:=.pointer (some ⟨b,off+n.toNat * i.size,none⟩)) ?_ ?_ (by simp)
  ·simp[execOp,ho,hval,h2,Instr.indexAt,asIntOf,run_underlying hu,hn0,hnl,sizeOf,typeInfo,hi,C0]
  ·rw[hget]
   refine .ro b _ _ (fun j=>f n.toNat j) (fun j hj=>?_) (fun j c hc'=>hv n.toNat _ j c (Aw hlt) hc')
   exact hc n.toNat j hlt (by omega)

theorem b0T(h:Inv N W0 U0 M a W U s){t:TypeId}{n e:Nat}{x y:Operand}{X Y:Opd}(ho:o.op=.indexAddr t x y)(ht:P.underlying t=some (.array n e))(hi:(P.info? e).isSome=true)(hx:Au x=some X)(hy:Au y=some Y)(hr:AU P s (.aidx n (Bd P e) X Y) r):VOK P a o W U r:=by
 obtain ⟨p,k,m,hp,hn,⟨hm0,hml⟩,hb⟩:=hr
 have h1:=AW h hx hp
 have h2:=(AW h hy hn).int_inv
 obtain ⟨i,hi⟩:=Option.isSome_iff_exists.1 hi
 have hsz:Bd P e=i.size:=by simp[Bd,hi]
 rw[hsz]at hb
 cases p with
 | ro cs=>
  obtain rfl:=(by simpa[GE]using hb:r=.ro (cs.drop (m.toNat * i.size)))
  generalize hval:a.eval x=val at h1
  cases h1 with
  | ro b off _ f hc hv=>
   refine VOK.same (v:=.pointer (some ⟨b,off+m.toNat * i.size,none⟩)) ?_ ?_ (by simp)
   ·simp[execOp,ho,hval,h2,Instr.indexAt,asIntOf,run_underlying ht,Instr.sureAddr,hm0,hml,sizeOf,typeInfo,hi,C0]
   ·refine .ro b _ _ (fun j=>f (m.toNat * i.size+j)) (fun j hj=>?_) (fun j c hc'=>?_)
    ·have:=hc (m.toNat * i.size+j) (by simp at hj;omega)
     rw[Nat.add_assoc]
     exact this
    ·rw[CC]at hc'
     exact hv _ c hc'
 | ptr b off=>
  have hm:=h1.ptr_at
  obtain rfl:=(by simpa[GE]using hb:r=.ptr b (off+m.toNat * i.size))
  generalize hval:a.eval x=val at h1
  cases h1
  exact VOK.same (v:=.pointer (some ⟨b,off+m.toNat * i.size,none⟩)) (by simp[execOp,ho,hval,h2,Instr.indexAt,asIntOf,run_underlying ht,Instr.sureAddr,hm0,hml,sizeOf,typeInfo,hi,C0]) (.ptr _ _ hm) (by simp)
 | _=>exact hb.elim

theorem b1L(h:Inv N W0 U0 M a W U s){t:TypeId}{x y:Operand}{X Y:Opd}(ho:o.op=.index t x y)(ht:P.underlying t=some .string)(hx:Au x=some X)(hy:Au y=some Y)(hr:AU P s (.sidx X Y) r):VOK P a o W U r:=by
 obtain ⟨l,k,n,hp,hn,⟨hn0,hnl⟩,rfl⟩:=hr
 have h1:=(AW h hx hp).str_inv
 have h2:=(AW h hy hn).int_inv
 have hlt:n.toNat<l.length:=by omega
 refine VOK.same (v:=.int .u8 ((l.getD n.toNat 0).toNat:Int)) ?_ (.int _ _) (by simp)
 have hb:(⟨l.toArray⟩:ByteArray)[n.toNat]?=some l[n.toNat]:=by
  rw[getElem?_pos (⟨l.toArray⟩:ByteArray) n.toNat (by rw[Mp];exact hlt)]
  rfl
 simp[execOp,ho,h1,h2,Instr.index,asIntOf,run_underlying ht,hn0,hb,hlt]

theorem b1k(h:Inv N W0 U0 M a W U s){t:TypeId}{fs:Array Field}{fi:Nat}{fd:Field}{n:Option Nat}{x:Operand}{X:Opd}(ho:o.op=.field t x fi)(ht:P.underlying t=some (.struct fs))(hf:fs[fi]?=some fd)
  (hn:Fq P fd.type=some n) (hx:Au x=some X) (hr:AU P s (.fldv fd.offset n X) r):VOK P a o W U r:=by
 obtain ⟨cs,hp,hlt,hb⟩:=hr
 have h1:=AW h hx hp
 obtain ⟨d,i,hu,hi,hd⟩:=Ot hn
 generalize hval:a.eval x=val at h1
 cases h1 with
 | agg vs _ hl hv hone=>
  rcases hd with ⟨hd,rfl⟩ | ⟨hd,rfl⟩
  ·obtain ⟨hle,rfl⟩:=(by simpa[A5]using hb:i.size≤cs.length - fd.offset∧r=.agg ((cs.drop fd.offset).take i.size))
   refine VOK.same (v:=.agg ((vs.drop fd.offset).take i.size).toArray) ?_ (.agg _ _ (by simp[hl]) (fun j v c h3 h4=>?_) (fun v hv=>hone v (EY (EZ hv)))) (by simp)
   ·simp[execOp,ho,hval,Instr.field,run_underlying ht,hf,asAgg,part,IW hu,hd,sizeOf,typeInfo,hi]
   ·rw[HM]at h3 h4
    split at h3
    ·rename_i hj
     rw[Af hj]at h4
     rw[CC]at h3 h4
     exact hv _ v c h3 h4
    ·cases h3
  ·have hdr:cs.drop fd.offset=cs[fd.offset]::cs.drop (fd.offset+1):=by rw[Jc hlt]
   rw[hdr]at hb
   obtain rfl:=(by simpa[A5]using hb:r=(cs[fd.offset]).alias)
   have hlv:fd.offset<vs.length:=by omega
   refine VOK.same (v:=vs[fd.offset]) ?_ (hv fd.offset _ _ (Aw hlv) (Aw hlt)).alias (FK _)
   simp[execOp,ho,hval,Instr.field,run_underlying ht,hf,asAgg,part,IW hu,hd,hlv]

theorem b1i(h:Inv N W0 U0 M a W U s){j:Nat}{x:Operand}{X:Opd}(ho:o.op=.extract x j)(hx:Au x=some X)(hr:AU P s (.ext j X) r):VOK P a o W U r:=by
 obtain ⟨cs,c,hp,hc,rfl⟩:=hr
 have h1:=AW h hx hp
 generalize hval:a.eval x=val at h1
 cases h1 with
 | tup vs _ hl hv=>
  have hlt:j<cs.length:=(AM.1 hc).1
  have hlv:j<vs.length:=by omega
  refine VOK.same (v:=vs[j]) ?_ (hv j _ _ (Aw hlv) hc).alias (FK _)
  simp[execOp,ho,hval,Instr.extract,hlv]

theorem b1E(h:Inv N W0 U0 M a W U s){x:Operand}{X:Opd}(ho:o.op=.nilCheck x)(hx:Au x=some X)(hr:AU P s (.nilc X) r):VOK P a o W U r:=by
 rcases hr with ⟨cs,hp,rfl⟩ | ⟨b,off,hp,rfl⟩
 ·have h1:=AW h hx hp
  refine VOK.same (v:=a.eval x) ?_ h1 (by simp)
  generalize hval:a.eval x=val at h1
  cases h1
  simp[execOp,ho,hval]
 ·have h1:=AW h hx hp
  refine VOK.same (v:=a.eval x) ?_ h1 (by simp)
  generalize hval:a.eval x=val at h1
  cases h1
  simp[execOp,ho,hval]

theorem b1H(h:Inv N W0 U0 M a W U s){c x y:Operand}{C X Y:Opd}(ho:o.op=.pick c x y)(hc:Au c=some C)(hx:Au x=some X)(hy:Au y=some Y)(hr:AU P s (.pick C X Y) r):VOK P a o W U r:=by
 obtain ⟨b,u,v,h1,h2,h3,rfl⟩:=hr
 have hb:=(AW h hc h1).bool_inv
 cases b with
 | true=>exact VOK.same (v:=a.eval x) (by simp[execOp,ho,hb,asBool]) (AW h hx h2).alias (FK _)
 | false=>exact VOK.same (v:=a.eval y) (by simp[execOp,ho,hb,asBool]) (AW h hy h3).alias (FK _)

theorem b1R(h:Inv N W0 U0 M a W U s){t n e:Nat}{q:Option Nat}{x y:Operand}{X Y:Opd}(ho:o.op=.index t x y)(ht:P.underlying t=some (.array n e))(hq:Fq P e=some q)(hx:Au x=some X)(hy:Au y=some Y)(hr:AU P s (.vidx n (Bd P e) q X Y) r):VOK P a o W U r:=by
 obtain ⟨p,c,hp,hn,hb⟩:=hr
 cases p<;>try exact hb.elim
 all_goals cases c<;>try exact hb.elim
 rename_i cs k m
 obtain ⟨⟨hm0,hml,hlt⟩,hb⟩:=hb
 have h1:=AW h hx hp
 have h2:=(AW h hy hn).int_inv
 obtain ⟨d,i,hu,hi,hd⟩:=Ot hq
 have hsz:Bd P e=i.size:=by simp[Bd,hi]
 rw[hsz]at hb hlt
 generalize hoff:m.toNat * i.size=off at hb hlt
 generalize hval:a.eval x=val at h1
 cases h1 with
 | agg vs _ hl hv hone=>
  rcases hd with ⟨hd,rfl⟩ | ⟨hd,rfl⟩
  ·obtain ⟨hle,rfl⟩:=(by simpa[A5]using hb:i.size≤cs.length - off∧r=.agg ((cs.drop off).take i.size))
   refine VOK.same (v:=.agg ((vs.drop off).take i.size).toArray) ?_ (.agg _ _ (by simp[hl]) (fun j v c h3 h4=>?_) (fun v hv=>hone v (EY (EZ hv)))) (by simp)
   ·simp[execOp,ho,hval,h2,Instr.index,asIntOf,run_underlying ht,hm0,hml,part,IW hu,hd,sizeOf,typeInfo,hi,hoff]
   ·rw[HM]at h3 h4
    split at h3
    ·rename_i hj
     rw[Af hj]at h4
     rw[CC]at h3 h4
     exact hv _ v c h3 h4
    ·cases h3
  ·have hdr:cs.drop off=cs[off]::cs.drop (off+1):=by rw[Jc hlt]
   rw[hdr]at hb
   obtain rfl:=(by simpa[A5]using hb:r=(cs[off]).alias)
   have hlv:off<vs.length:=by omega
   refine VOK.same (v:=vs[off]) ?_ (hv off _ _ (Aw hlv) (Aw hlt)).alias (FK _)
   simp[execOp,ho,hval,h2,Instr.index,asIntOf,run_underlying ht,hm0,hml,part,IW hu,hd,sizeOf,typeInfo,hi,hoff,hlv]
theorem b1v(h:Inv N W0 U0 M a W U s){x y:Operand}{X Y:Opd}{ts:Array TypeId}(ho:o.op=.call { callee:=.builtin .min,args:=⟨[x,y]⟩,argTypes:=ts })(hx:Au x=some X)(hy:Au y=some Y)(hr:AU P s (.mn X Y) r):VOK P a o W U r:=by
 obtain ⟨p,c,hp,hn,hb⟩:=hr
 cases p<;>try exact hb.elim
 all_goals cases c<;>try exact hb.elim
 rename_i k1 m k2 n
 have h1:=(AW h hx hp).int_inv
 have h2:=(AW h hy hn).int_inv
 obtain rfl:=(hb:r=.int k1 (if n<m then n else m))
 refine VOK.same (v:=.int k1 (if n<m then n else m)) ?_ (.int _ _) (by simp)
 simp[execOp,ho,h1,h2,resolve,invoke,builtin,Builtin.min_,Builtin.min2]

end
section
variable {P:Program} {N:Nat} {W0:World} {U0:Nat→Nat→Prop} {M:Nat→Prop} {a:Act} {W:World} {U:Nat→Nat→Prop} {s:St} {o:Oper} {r:AV}

theorem run_sliceBound{k:IntKind}{i:Int}{y:Nat}(h0:0≤i)(h1:i.toNat≤y)(c:BoundsCode):(Instr.sliceBound (.int k i) y c).run P W=.ok i.toNat W:=by
 have h2:i≤(y:Int):=by omega
 simp[Instr.sliceBound,asIntOf,h0,h2]

theorem Mk(h:Inv N W0 U0 M a W U s){lo hi:Option Operand}{LO HI:Option Opd}(hlo:E3 lo=some LO)(hhi:E3 hi=some HI){len cap x y:Nat}(hx:FL s 0 LO x)(hy:FL s len HI y)(hxy:x≤y)(hyl:y≤len)
  (hlc:len≤cap) (sl:Bool):(Instr.sliceBounds sl len cap (lo.map a.eval) (hi.map a.eval) none).run P W=.ok (x,y,cap) W:=by
 have hb:∀ {z:Option Operand} {Z:Option Opd} {d r:Nat},E3 z=some Z→FL s d Z r→(z=none∧r=d)∨∃ z' k n,z=some z'∧a.eval z'=.int k n∧0≤n∧r=n.toNat:=by
  intro z Z d r hz hr
  cases z with
  | none=>
   simp only[E3,Az]at hz
   subst hz
   exact .inl ⟨rfl,hr⟩
  | some z'=>
   cases hc:Au z' with
   | none=>simp[E3,hc]at hz
   | some Z'=>
    simp only[E3,hc,BE,Az]at hz
    subst hz
    obtain ⟨k,n,h1,h2,h3⟩:=hr
    exact .inr ⟨z',k,n,rfl,(AW h hc h1).int_inv,h2,h3⟩
 rcases hb hlo hx with ⟨rfl,rfl⟩ | ⟨z1,k1,n1,rfl,e1,p1,rfl⟩
 ·rcases hb hhi hy with ⟨rfl,rfl⟩ | ⟨z2,k2,n2,rfl,e2,p2,rfl⟩
  ·simp[Instr.sliceBounds]
  ·simp[Instr.sliceBounds,e2,run_sliceBound p2 (En hyl hlc)]
 ·rcases hb hhi hy with ⟨rfl,rfl⟩ | ⟨z2,k2,n2,rfl,e2,p2,rfl⟩
  ·simp[Instr.sliceBounds,e1,run_sliceBound p1 hxy]
  ·simp[Instr.sliceBounds,e1,e2,run_sliceBound p1 hxy,run_sliceBound p2 (En hyl hlc)]

theorem a3y(l:List UInt8)(x y:Nat):(⟨l.toArray⟩:ByteArray).extract x y=⟨((l.take y).drop x).toArray⟩:=by
 apply ByteArray.ext
 rw[ByteArray.data_extract]
 apply Array.ext'
 simp[List.drop_take]

theorem b1M(h:Inv N W0 U0 M a W U s){t:TypeId}{x:Operand}{lo hi:Option Operand}{X:Opd}{LO HI:Option Opd}(ho:o.op=.slice t x lo hi none)(ht:P.underlying t=some .string)(hx:Au x=some X)(hlo:E3 lo=some LO)(hhi:E3 hi=some HI)
  (hr:AU P s (.slc none X LO HI) r):VOK P a o W U r:=by
 obtain ⟨l,x1,y1,hp,h1,h2,⟨h3,h4⟩,rfl⟩:=hr
 have hv:=(AW h hx hp).str_inv
 refine VOK.same (v:=.string ⟨((l.take y1).drop x1).toArray⟩) ?_ (.str _) (by simp)
 have hb:=Mk (P:=P) (a:=a) (W:=W) h hlo hhi (cap:=l.length) h1 h2 h3 h4 (A8 _) false
 simp[execOp,ho,Instr.sliceAt,run_underlying ht,Instr.slice,hv,Mp,hb,a3y]

theorem a0j(h:Inv N W0 U0 M a W U s){t:TypeId}{e:Nat}{i:TypeInfo}{x:Operand}{lo hi:Option Operand}{X:Opd}{LO HI:Option Opd}(ho:o.op=.slice t x lo hi none)(ht:P.underlying t=some (.slice e))(hi':P.info? e=some i)
  (hx:Au x=some X) (hlo:E3 lo=some LO) (hhi:E3 hi=some HI) (hr:AU P s (.slc (some i.size) X LO HI) r):VOK P a o W U r:=by
 obtain ⟨own,l,x1,y1,hp,h1,h2,⟨h3,h4⟩,rfl⟩:=hr
 have hv:=AW h hx hp
 generalize hval:a.eval x=val at hv
 cases hv with
 | sl A cap _ _ b off _ f hcap hmax hA hs hc hvv=>
  have hb:=Mk (P:=P) (a:=a) (W:=W) h hlo hhi (cap:=cap) h1 h2 h3 h4 hcap true
  refine VOK.same (v:=.slice (if cap=x1 then A else A.map (·.add (x1 * i.size))) (y1 - x1) (cap - x1)) ?_ ?_ (by simp)
  ·simp[execOp,ho,Instr.sliceAt,run_underlying ht,Instr.slice,hval,hb,sizeOf,typeInfo,hi']
  ·have hlen:((l.take y1).drop x1).length=y1 - x1:=by simp;omega
   rw[← hlen]
   refine .sl _ (cap - x1) none _ b (off+x1 * i.size) i.size (fun i j=>f (x1+i) j) (by omega) (by omega) (fun hpos=>?_) (fun e he=>hs e (EZ (EY he))) (fun j k hj hk=>?_) (fun j e' k c he hcc=>?_)
   ·obtain rfl:=hA (by omega)
    rw[Ad (by omega)]
    simp[C0]
   ·have:=hc (x1+j) k (by omega) hk
    rw[Bp, ← Nat.add_assoc]at this
    exact this
   ·rw[CC,HM]at he
    split at he
    ·exact hvv _ e' k c he hcc
    ·cases he

theorem a0e(h:Inv N W0 U0 M a W U s){src dst e:TypeId}{x:Operand}{X:Opd}(ho:o.op=.convert src dst x)(hs:P.underlying src=some (.slice e))(hd:P.underlying dst=some .string)(he:P.underlying e=some (.int .u8))(hx:Au x=some X)
  (hr:AU P s (.b2s X) r):VOK P a o W U r:=by
 obtain ⟨own,l,hp,rfl⟩:=hr
 have hv:=AW h hx hp
 generalize hval:a.eval x=val at hv
 cases hv with
 | sl A cap _ _ b off _ f hcap hmax hA hsz hc hvv=>
  have hbyte:∀ j (hj:j<l.length),f j 0=.int .u8 (l[j].toNat:Int):=fun j hj=>(hvv j (Bh l[j]) 0 (.int .u8 (l[j].toNat:Int)) (by simp[hj]) rfl).int_inv
  refine VOK.same (v:=.string ⟨l.toArray⟩) ?_ (.str _) (by simp)
  cases A with
  | none=>
   have hl0:l=[]:=by
    cases l with
    | nil=>rfl
    | cons c l=>have:=hA (by simp);cases this
   subst hl0
   simp[execOp,ho,hval,convert,run_underlying hs,run_underlying hd,run_underlying he,Conv.bytesToString]
   rfl
  | some A=>
   have hload:(loadCells A (l.map Bh).length).run P W=.ok ((l.map fun c=>(c.toNat:Int)).map (Value.int .u8)).toArray W:=by
    have hh:=run_loadCells_list (P:=P) (w:=W) A ((l.map fun c=>(c.toNat:Int)).map (Value.int .u8)) (fun j v hj=>by
     have hjl:j<l.length:=by
      rcases FJ j l.length with hj'|hj'
      ·exact hj'
      ·rw[FH (by simp;omega)]at hj;cases hj
     have hA':=hA (by simp;omega)
     cases hA'
     have hcell:=(hc j 0 (by simpa using hjl) (by omega)).1
     simp only[AN,Nat.add_zero]at hcell
     rw[C0,hcell,hbyte j hjl]
     simpa[hjl]using hj)
    simpa using hh
   have hrun:=run_bytesToString (P:=P) W A (l.map Bh).length cap _ hload
   have hfold:∀ (m:List UInt8) (acc:ByteArray),(m.map fun c=>(c.toNat:Int)).foldl (fun (r:ByteArray) (n:Int)=>r.push (UInt8.ofNat n.toNat)) acc=⟨(acc.data.toList++m).toArray⟩:=by
    intro m
    induction m with
    | nil=>intro acc;simp
    | cons c m ih=>
     intro acc
     simp only[CX,List.foldl_cons,ih]
     simp
   rw[hfold]at hrun
   have hem:(ByteArray.empty.data.toList++l)=l:=by simp
   rw[hem]at hrun
   simp only[execOp,ho,hval,convert,run_underlying hs,run_underlying hd,run_underlying he,Sem.run_bind,Result.andThen_ok,hrun]
   rfl
theorem a0d(h:Inv N W0 U0 M a W U s){src dst e:TypeId}{x:Operand}{X:Opd}(ho:o.op=.convert src dst x)(hs:P.underlying src=some (.slice e))(hd:P.underlying dst=some .string)(he:P.underlying e=some (.int .u8))(hx:Au x=some X)
  {b off n:Nat} {cs:List AV} {l:List UInt8} (hp:X.ev s=some (.osl b off n)) (hb:s.o b=some cs) (hc:(cs.drop off).take n=l.map Bg) (hl:l.length=n):VOK P a o W U (.str l):=by
 have hv:=AW h hx hp
 generalize hval:a.eval x=val at hv
 cases hv with
 | osl _ _ _ cap h1 h2 hm=>
  obtain ⟨vs,ty,g1,g2,g3,_,_⟩:=h.obc hb hm
  refine VOK.same (v:=.string ⟨l.toArray⟩) ?_ (.str _) (by simp)
  have hload:(loadCells ⟨b,off,none⟩ n).run P W=.ok ((l.map fun c=>(c.toNat:Int)).map (Value.int .u8)).toArray W:=by
   have hh:=run_loadCells_list (P:=P) (w:=W) ⟨b,off,none⟩ ((l.map fun c=>(c.toNat:Int)).map (Value.int .u8)) (fun j v hj=>by
    have hjl:j<l.length:=by
     have:=(AM.1 hj).1;simpa using this
    have hcj:cs[off+j]?=some (Bg l[j]):=by
     have:=congrArg (·[j]?) hc
     simp only[B7,Aw hjl,BE]at this
     rw[CW (by omega),CC]at this
     exact this
    have hlt:off+j<cs.length:=(AM.1 hcj).1
    have h3:=(g3 _ _ hcj).1.int_inv
    rw[C0,cell_of_row W b (off+j) vs ty (0,0) g1]
    have hv':off+j<vs.size:=by omega
    rw[Cu,Dz hv']at h3
    simp only[Cp]at h3
    rw[Dz hv',h3]
    simpa[hjl]using hj)
   simpa[hl]using hh
  have hrun:=run_bytesToString (P:=P) W ⟨b,off,none⟩ n cap _ hload
  have hfold:∀ (m:List UInt8) (acc:ByteArray),(m.map fun c=>(c.toNat:Int)).foldl (fun (r:ByteArray) (n:Int)=>r.push (UInt8.ofNat n.toNat)) acc=⟨(acc.data.toList++m).toArray⟩:=by
   intro m
   induction m with
   | nil=>intro acc;simp
   | cons c m ih=>
    intro acc
    simp only[CX,List.foldl_cons,ih]
    simp
  rw[hfold]at hrun
  have hem:(ByteArray.empty.data.toList++l)=l:=by simp
  rw[hem]at hrun
  simp only[execOp,ho,hval,convert,run_underlying hs,run_underlying hd,run_underlying he,Sem.run_bind,Result.andThen_ok,hrun]
  rfl
theorem b0X(h:Inv N W0 U0 M a W U s){t e n:TypeId}{x:Operand}{X:Opd}(ho:o.op=.slice t x none none none)(ht:P.underlying t=some (.array n e))(hi:(P.info? e).isSome=true)(hn:n≤maxLen)(hx:Au x=some X)
  (hr:AU P s (.asl n X) r):VOK P a o W U r:=by
 obtain ⟨b,off,hp,rfl⟩:=hr
 obtain ⟨i,hi⟩:=Option.isSome_iff_exists.1 hi
 have hv:=AW h hx hp
 generalize hval:a.eval x=val at hv
 cases hv with
 | ptr _ _ hm=>
  refine VOK.same (v:=.slice (some ⟨b,off,none⟩) n n) ?_ (.osl b off n n (A8 _) hn hm) (by simp)
  simp[execOp,ho,hval,Instr.sliceAt,run_underlying ht,Instr.sliceBounds,sizeOf,typeInfo,hi,Instr.sureAddr,C0]
theorem b1J(h:Inv N W0 U0 M a W U s){src dst e:TypeId}{x:Operand}{X:Opd}(ho:o.op=.convert src dst x)(hs:P.underlying src=some .string)(hd:P.underlying dst=some (.slice e))(he:P.underlying e=some (.int .u8))(hx:Au x=some X)
    (hr:AU P s (.s2b e X) r):VOK P a o W U r:=by
  obtain ⟨l,hp,hl,rfl⟩:=hr
  have hv:=(AW h hx hp).str_inv
  have hsz:(⟨l.toArray⟩:ByteArray).size=l.length:=by simp[ByteArray.size]
  have hmx:(⟨l.toArray⟩:ByteArray).size≤maxLen:=by rw[hsz];simp only[maxLen];omega
  have hrun:=Lib.run_convert_string_bytes (P:=P) W src dst e ⟨l.toArray⟩ hs hd he
  have hge:=grownCap_ge W (⟨l.toArray⟩:ByteArray).size 0 e
  have hcm:=grownCap_le_maxLen W (⟨l.toArray⟩:ByteArray).size 0 e hmx
  have hnew:=Lib.bytesWorld_at_new W e ⟨l.toArray⟩
  have Ae:(Lib.bytesCells W e ⟨l.toArray⟩).size=grownCap W (⟨l.toArray⟩:ByteArray).size 0 e:=by
    have h1:(Lib.bytesCells W e ⟨l.toArray⟩).size=(⟨l.toArray⟩:ByteArray).size+(grownCap W (⟨l.toArray⟩:ByteArray).size 0 e - (⟨l.toArray⟩:ByteArray).size):=by
      simp only[Lib.bytesCells,G2,Array.size_map,Array.size_replicate];rfl
    omega
  refine ⟨.slice (some ⟨W.heap.size,0,none⟩) (⟨l.toArray⟩:ByteArray).size (grownCap W (⟨l.toArray⟩:ByteArray).size 0 e),Lib.bytesWorld W e ⟨l.toArray⟩,fun k i=>if k=W.heap.size then l.length≤i else U k i, ?_,⟨⟨rfl,rfl,rfl, ?_,fun k hk=>Lib.bytesWorld_at_old W e _ k hk⟩,fun k hk i=>by rw[Ad (by omega)]⟩, ?_, ?_⟩
  · simp only[execOp,ho,hv,Sem.run_bind,hrun,Result.andThen_ok]
    rfl
  · rw[Lib.bytesWorld_size];omega
  · have h1:(l.map Bh).length=l.length:=by simp
    have key:VR (Lib.bytesWorld W e ⟨l.toArray⟩) (fun k i=>if k=W.heap.size then l.length≤i else U k i) (.slice (some ⟨W.heap.size,0,none⟩) (l.map Bh).length (grownCap W (⟨l.toArray⟩:ByteArray).size 0 e)) (.sl (some e) 1 (l.map Bh)):=by
     refine .sl _ _ _ _ W.heap.size 0 1 (fun i _=>.int .u8 ((l.getD i 0).toNat:Int)) (by rw[h1, ← hsz];exact hge) hcm (fun _=>rfl) (fun c hc=>by
       obtain ⟨u,_,rfl⟩:=Dp.1 hc;rfl) (fun i j hi hj=>?_) (fun i c j x hc hx=>?_)
     · have hi':i<l.length:=by simpa using hi
       have:=Lib.bytesWorld_cell W e ⟨l.toArray⟩ i (by rw[hsz];exact hi')
       rw[show 0+i * 1+j=i by omega]
       refine ⟨by simpa using this,rfl, ?_⟩
       simp;omega
     · rw[B7,BM]at hc
       obtain ⟨u,h3,rfl⟩:=hc
       have hj:j=0:=by
         have:=(AM.1 hx).1;simp[Bh]at this;omega
       subst hj
       simp only[Bh,G5,Az]at hx
       subst hx
       simp only[List.getD,h3,Cp]
       exact .int _ _
    simpa only[h1,hsz]using key
  · refine .inr ⟨W.heap.size,_,_,by rw[hsz,Ax],A8 _,⟨_,hnew,.inr (A8 _)⟩,by rw[Ax, ← hsz];exact hge,hcm,by rw[Ae,AN],fun o' ho'=>?_,fun o' ho'=>?_⟩
    · simp at ho' ⊢;omega
    · simp at ho' ⊢;exact ho'
end
end Go.Proofs.YtfgihnhoocnmdaaGreatDoor
