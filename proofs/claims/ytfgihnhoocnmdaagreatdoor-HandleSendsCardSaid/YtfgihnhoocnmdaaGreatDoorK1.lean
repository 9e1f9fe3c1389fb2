import Derived.Test.YtfgihnhoocnmdaaGreatDoorK0
import Derived.Great.BuildSlice
import Derived.Lib.ConvBytes
namespace Go.Proofs.YtfgihnhoocnmdaaGreatDoor
set_option linter.all false
set_option maxHeartbeats 9000000
section
open Go.RowKit

def zVR:Value→AV→Bool
 | .int k n,.int k' n'=>k==k'&&n==n'
 | .bool b,.bool b'=>b==b'
 | .string s,.str l=>s.data.toList==l
 | .slice none 0 0,.sl _ _ []=>true
 | .slice none 0 0,.nils _ _=>true
 | .pointer none,.nilp=>true
 | .pointer none,.nilT _=>true
 | .map none,.nilm=>true
 | _,_=>false
theorem zVR_sound{v:Value}{c:AV}(h:zVR v c=true)(W:World)(U:Nat→Nat→Prop):VR W U v c∧v.oneCell'=true∧(∀ e sz els,c=.sl (some e) sz els→v=.slice none 0 0∧els=[]):=by
 unfold zVR at h
 split at h
 ·simp only[Bool.and_eq_true,beq_iff_eq]at h
  obtain ⟨rfl,rfl⟩:=h
  exact ⟨.int _ _,rfl,fun _ _ _ e=>by cases e⟩
 ·simp only[beq_iff_eq]at h
  subst h
  exact ⟨.bool _,rfl,fun _ _ _ e=>by cases e⟩
 ·simp only[beq_iff_eq]at h
  subst h
  exact ⟨.str _,rfl,fun _ _ _ e=>by cases e⟩
 ·refine ⟨?_,rfl,fun _ _ _ e=>by cases e;exact ⟨rfl,rfl⟩⟩
  exact .sl (els:=[]) none 0 _ 0 0 _ (fun _ _=>Go.undef) (by simp) (by simp) (by simp) (by simp) (by simp) (by simp)
 ·exact ⟨.nils _ _,rfl,fun _ _ _ e=>by cases e⟩
 ·exact ⟨.nilp,rfl,fun _ _ _ e=>by cases e⟩
 ·exact ⟨.nilT _,rfl,fun _ _ _ e=>by cases e⟩
 ·exact ⟨.nilm,rfl,fun _ _ _ e=>by cases e⟩
 ·cases h

def a9a:AV→AV
 | .sl (some e) sz []=>.nils e sz
 | a=>a.alias
def b7m:Value→Option AV
 | .int k n=>some (.int k n)
 | .bool b=>some (.bool b)
 | .string s=>some (.str s.data.toList)
 | .pointer none=>some .nilp
 | .nilIface=>some .nili
 | .map none=>some .nilm
 | _=>none
theorem cVal_sound{v:Value}{c:AV}(h:b7m v=some c)(W:World)(U:Nat→Nat→Prop):VR W U v c:=by
 unfold b7m at h
 split at h<;>cases h
 ·exact .int _ _
 ·exact .bool _
 ·exact .str _
 ·exact .nilp
 ·exact .nili
 ·exact .nilm
def a0j:Operand→Option Opd
 | .tmp t=>some (.t t)
 | .const v=>(b7m v).map .c
 | .func f=>some (.c (.fn f))
 | .global g=>(tabInts.find? fun x=>x.1==g).map fun x=>.c (.ro (x.2.2.map fun z=>.int x.2.1 z))
def a6R(P:Program)(t:TypeId)(x:Operand):Option Opd:=
 match x with
 | .const (.slice none 0 0)=>match P.underlying t with
  | some (.slice e)=>(P.info? e).map fun i=>.c (.sl none i.size [])
  | _=>none
 | x=>a0j x

section
variable {N:Nat} {W0:World} {U0:Nat→Nat→Prop} {M:Nat→Prop} {a:Act} {W:World} {U:Nat→Nat→Prop} {s:St}

theorem b4w(h:Glob W U){x:Nat × IntKind × List Int}(hx:x∈tabInts):VR W U (.pointer (some ⟨x.1,0,none⟩)) (.ro (x.2.2.map fun z=>.int x.2.1 z)):=by
 obtain ⟨⟨cs,ty,fr,e,hc⟩,hu⟩:=h (x.1,fun cs=>cs=(x.2.2.map fun z=>Value.int x.2.1 z).toArray) (List.mem_append_left _ (List.mem_map.2 ⟨x,hx,rfl⟩))
 simp only at e hc hu
 subst hc
 refine .ro x.1 0 _ (fun j=>.int x.2.1 (x.2.2.getD j 0)) (fun j hj=>⟨?_,rfl,hu _⟩) fun j c hj=>?_
 ·have hj':j<x.2.2.length:=by simpa using hj
  simp[World.cell?,e,hj',List.getD]
 ·rw[List.getElem?_map,Option.map_eq_some_iff]at hj
  obtain ⟨z,h1,rfl⟩:=hj
  simp only[List.getD,h1,Option.getD_some]
  exact .int _ _
theorem a0a(h:Inv N W0 U0 M a W U s){x:Operand}{X:Opd}(hx:a0j x=some X){v:AV}(hv:X.ev s=some v):VR W U (a.eval x) v:=by
 unfold a0j at hx
 split at hx
 ·cases hx
  exact h.tv _ v hv
 ·rename_i c
  cases hc:b7m c with
  | none=>simp[hc]at hx
  | some y=>
   simp only[hc,Option.map_some,Option.some.injEq]at hx
   subst hx
   simp only[Opd.ev,Option.some.injEq]at hv
   subst hv
   exact cVal_sound hc W U
 ·cases hx
  simp only[Opd.ev,Option.some.injEq]at hv
  subst hv
  exact .fn _
 ·rename_i g
  cases hc:tabInts.find? fun x=>x.1==g with
  | none=>simp[hc]at hx
  | some x=>
   simp only[hc,Option.map_some,Option.some.injEq]at hx
   subst hx
   simp only[Opd.ev,Option.some.injEq]at hv
   subst hv
   obtain rfl:x.1=g:=by simpa using List.find?_some hc
   exact b4w h.fr.glob (List.mem_of_find?_eq_some hc)

theorem a1K(h:Inv N W0 U0 M a W U s){P:Program}{t:TypeId}{x:Operand}{X:Opd}(hx:a6R P t x=some X){v:AV}(hv:X.ev s=some v):VR W U (a.eval x) v:=by
 unfold a6R at hx
 split at hx
 ·split at hx
  ·rename_i e _
   cases hi:P.info? e with
   | none=>simp[hi]at hx
   | some i=>
    simp only[hi,Option.map_some,Option.some.injEq]at hx
    subst hx
    simp only[Opd.ev,Option.some.injEq]at hv
    subst hv
    exact (zVR_sound (v:=.slice none 0 0) (c:=.sl none i.size []) rfl W U).1
  ·cases hx
 ·exact a0a h hx hv
end

def a2a:TypeDesc→Bool
 | .struct _=>true
 | .array _ _=>true
 | _=>false
def a9h(P:Program)(t:TypeId):Option (Option Nat):=
 match P.underlying t,P.info? t with
 | some d,some i=>some (if a2a d then some i.size else none)
 | _,_=>none
def b2k(P:Program):Nat→TypeId→Option (List AV)
 | 0,_=>none
 | n+1,t=>match P.underlying t with
  | some (.int k)=>some [.int k 0]
  | some .bool=>some [.bool false]
  | some .string=>some [.str []]
  | some (.slice e)=>(P.info? e).map fun i=>[.sl (some e) i.size []]
  | some (.pointer _)=>some [.nilp]
  | some (.map _ _)=>some [.nilm]
  | some (.struct fs)=>fs.toList.foldr (fun f r=>match b2k P n f.type,r with|some x,some y=>some (x++y)|_,_=>none) (some [])
  | some (.array k e)=>match b2k P n e with
   | some x=>some (List.replicate k x).flatten
   | none=>none
  | _=>none
def b5u:List Value→List AV→Bool
 | [],[]=>true
 | v::vs,c::cs=>zVR v c&&b5u vs cs
 | _,_=>false
def zeroOf(P:Program)(t:TypeId):Option (List AV):=
 match b2k P 8 t,(P.info? t).bind (·.zero) with
 | some cs,some z=>if b5u z.cells.toList cs then some cs else none
 | _,_=>none

def b3q(t:Nat):List AV→List AV
 | .nilp::r=>.nilT t::r
 | z=>z
theorem b3r(t:Nat)(z:List AV):(b3q t z).length=z.length:=by
 unfold b3q;split<;>rfl
theorem tagT_head{t:Nat}{z:List AV}(h:(a1p z).isNone=true):∀ u,a1p (b3q t z)=some u→t=u:=by
 intro u hu
 unfold b3q at hu
 split at hu
 ·simpa[a1p]using hu
 ·rw[hu]at h;cases h
theorem tagT_get{t j:Nat}{z:List AV}{c:AV}(h:(b3q t z)[j]?=some c):z[j]?=some c∨(z[j]?=some .nilp∧c=.nilT t):=by
 unfold b3q at h
 split at h
 ·cases j with
  | zero=>simp at h;exact .inr ⟨rfl,h.symm⟩
  | succ j=>exact .inl (by simpa using h)
 ·exact .inl h
def a0y(P:Program)(t:TypeId):Option Nat:=((P.info? t).bind (·.zero)).map fun z=>z.cells.size

def b7b(ops:List Oper)(d:Nat):Bool:=
 ops.any fun o=>match o.op with
  | .call { callee:=.builtin .append,args,.. }=>match (args[0]?:Option Operand) with
   | some (Operand.tmp t)=>t==d
   | _=>false
  | .assign (.tmp t)=>t==d
  | _=>false
def isSlice(P:Program)(t:TypeId):Option (Nat × Nat):=
 match P.underlying t with
 | some (.slice e)=>(P.info? e).map fun i=>(e,i.size)
 | _=>none
def b0F(e:Nat):Bool:=hotTys.contains e
def b2u(P:Program)(ops:List Oper)(o:Oper)(take:Bool)(x:Operand):Option AK:=
 match x,isSlice P o.type with
 | .const (.slice none 0 0),some (e,sz)=>some (if b0F e then .hnl e sz else .nil e sz)
 | .tmp t,some _=>if take||(o.dst.map (b7b ops)).getD false then (if o.dst=some t then none else some (.tk t)) else some (.mv (.t t))
 | x,_=>(a0j x).map .mv
def a5m(l:List (Nat × Operand))(n:Nat):Option (List Opd):=
 match l with
 | []=>some []
 | (i,x)::r=>if i=n then match a0j x,a5m r (n+1) with
  | some y,some ys=>some (y::ys)
  | _,_=>none
  else none
def a4k(P:Program):List TypeId→List Operand→Option (List Opd)
 | [],[]=>some []
 | t::ts,x::xs=>match a6R P t x,a4k P ts xs with
  | some y,some ys=>some (y::ys)
  | _,_=>none
 | _,_=>none
def a3T(P:Program)(fs:Array Field):List (Nat × Operand)→Option (List (Nat × Nat × Opd))
 | []=>some []
 | (i,x)::r=>match fs[i]? with
  | some f=>match (P.info? f.type).map (·.size),a6R P f.type x,a3T P fs r with
   | some n,some y,some ys=>some ((f.offset,n,y)::ys)
   | _,_,_=>none
  | none=>none
def a5Z(P:Program)(e:TypeId)(sz:Nat):List (Nat × Operand)→Option (List (Nat × Nat × Opd))
 | []=>some []
 | (i,x)::r=>match a6R P e x,a5Z P e sz r with
  | some y,some ys=>some ((i * sz,sz,y)::ys)
  | _,_=>none
def a0O:Option Operand→Option (Option Opd)
 | none=>some none
 | some x=>(a0j x).map some
def b5e(P:Program)(t:TypeId):Bool:=
 match P.underlying t with
 | some (.int _)|some .string=>true
 | _=>false
def a7K:BinOp→Bool
 | .eql=>false
 | _=>true
def a4I:BinOp→Bool
 | .eql | .neq=>false
 | _=>true

def a0n(P:Program)(t:TypeId):Nat:=((P.info? t).map (·.size)).getD 0
def a1C(P:Program):Nat→List Field→Option Nat
 | a,[]=>some a
 | a,f::fs=>if f.offset=a∧f.name ≠ "_" ∧ (P.info? f.type).isSome then a1C P (a+a0n P f.type) fs else none
def a3b(K:TypeId→Option (List Kd)):List Field→Option (List Kd)
 | []=>some []
 | f::fs=>match K f.type,a3b K fs with
  | some a,some b=>some (a++b)
  | _,_=>none
def a0A(P:Program):Nat→TypeId→Option (List Kd)
 | 0,_=>none
 | n+1,t=>match P.underlying t with
  | some .bool=>if a0n P t=1 then some [.b] else none
  | some (.int _)=>if a0n P t=1 then some [.i] else none
  | some .string=>if a0n P t=1 then some [.s] else none
  | some (.struct fs)=>if P.stoodInHeld t=false∧a1C P 0 fs.toList=some (a0n P t) then a3b (a0A P n) fs.toList else none
  | some (.array m e)=>if a0n P t=m * a0n P e∧(P.info? e).isSome=true then (a0A P n e).map fun k=>(List.replicate m k).flatten else none
  | _=>none
def a9p(P:Program)(k:TypeId):Option (List Kd × Bool):=match P.underlying k,a0A P 8 k with
 | some d,some ks=>some (ks,a2a d)
 | _,_=>none
def a7z(P:Program)(e:TypeId):Option AV:=match (P.info? e).bind (·.zero),zeroOf P e with
 | some (.agg _),some z=>some (.agg (z.map AV.alias))
 | some v,some [c]=>if v.oneCell' then some c.alias else none
 | _,_=>none
def b5r(ops:List Oper)(d:Nat):Bool:=
 ops.any fun o=>match o.op with
  | .call { callee:=.builtin .append,args,.. }=>match (args[0]?:Option Operand) with
   | some (Operand.tmp t)=>t==d
   | _=>false
  | _=>false
def b4z(P:Program)(t:TypeId):Bool:=
 match P.underlying t with
 | some .string=>true
 | _=>false
theorem isStr_spec{P:Program}{t:TypeId}(h:b4z P t=true):P.underlying t=some .string:=by
 unfold b4z at h
 split at h
 ·assumption
 ·cases h
def takes(P:Program)(R:Nat)(ops:List Oper)(o:Oper)(t:TypeId)(n:Option Nat):Bool:=(isSlice P t).isSome&&(o.dst.map (b5r ops)).getD false&&n.isNone
def gives(P:Program)(R:Nat)(t:TypeId)(n:Option Nat):Bool:=(isSlice P t).isSome&&n.isNone

def a9H:Operand→Operand→Bool
 | .tmp i,.tmp j=>i==j
 | .const (.int k n),.const (.int k' n')=>k==k'&&n==n'
 | _,_=>false
theorem sameOpd_eq{x y:Operand}(h:a9H x y=true):x=y:=by
 unfold a9H at h
 split at h
 ·simp only[beq_iff_eq]at h;subst h;rfl
 ·simp only[Bool.and_eq_true,beq_iff_eq]at h;obtain ⟨rfl,rfl⟩:=h;rfl
 ·cases h
def objT(P:Program)(t:TypeId):Bool:=(match P.underlying t with|some (.slice e)=>b0F e|_=>false)||match zeroOf P t with
 | some z=>z.any fun c=>match c with
  | .nilp | .nilT _ | .nilm=>true
  | _=>false
 | none=>false
def b9U(P:Program)(t:TypeId):Bool:=match P.underlying t with|some (.slice e)=>hot2Tys.contains e|_=>false
def b8u(P:Program)(R:Nat)(ops:List Oper)(x:Operand):Bool:=R==2&&(match x with
 | .tmp j=>ops.any fun o=>o.dst==some j&&(match o.op with
  | .indexAddr t _ _=>(isSlice P t).isSome
  | _=>false)
 | _=>false)
def c0w(P:Program)(ops:List Oper):Operand→Bool
 | .tmp j=>ops.any fun o=>o.dst==some j&&(match o.op with
  | .slice t _ _ _ _=>match P.underlying t with
   | some (.array _ _)=>true
   | _=>false
  | _=>false)
 | _=>false
def b1b(P:Program)(R:Nat)(ops:List Oper)(o:Oper):Option AK:=
 match o.op with
 | .move x=>b2u P ops o false x
 | .assign x=>b2u P ops o true x
 | .alloc t=>match zeroOf P t with
  | some z=>if (a1p z).isNone then some (.newv (b3q t z)) else none
  | none=>none
 | .box _ x=>(a0j x).map .box
 | .load t x=>match a9h P t,a0j x with
  | some n,some X=>some (if takes P R ops o t n then .ldt X else if n.isNone&&b9U P t then .ldh X else if b8u P R ops x then .ldr n X else .ld n X)
  | _,_=>none
 | .store t x v=>match a9h P t,a0j x,a6R P t v,o.dst with
  | some n,some X,some V,none=>if (P.info? t).map (·.size)=some (n.getD 1)∧0<n.getD 1 then (match V with
    | .t i=>some (if gives P R t n then .stt X i else .sto n X (.t i))
    | V=>some (.sto n X V)) else none
  | _,_,_,_=>none
 | .fieldAddr t x f=>match P.underlying t,a0j x with
  | some (.struct fs),some x=>match fs[f]? with
   | some fd=>match (P.info? fd.type).map (·.size) with
    | some (_+1)=>some (.fld fd.offset x)
    | _=>none
   | none=>none
  | _,_=>none
 | .field t x f=>match P.underlying t,a0j x with
  | some (.struct fs),some x=>match fs[f]? with
   | some fd=>(a9h P fd.type).map fun n=>.fldv fd.offset n x
   | none=>none
  | _,_=>none
 | .indexAddr t x i=>match isSlice P t,a0j x,a0j i with
  | some (_,sz),some x,some i=>some (.idx sz x i)
  | none,some x,some i=>match P.underlying t with
   | some (.array n e)=>if (P.info? e).isSome then some (.aidx n (a0n P e) x i) else none
   | _=>none
  | _,_,_=>none
 | .index t x i=>match P.underlying t,a0j x,a0j i with
  | some .string,some x,some i=>some (.sidx x i)
  | some (.array n e),some x,some i=>(a9h P e).map fun q=>.vidx n (a0n P e) q x i
  | _,_,_=>none
 | .binOp op t x y _=>if a4I op||b5e P t then match a0j x,a0j y with
   | some x,some y=>some (.bin op x y)
   | _,_=>none
  else match P.underlying t,a0j x,a0j y with
   | some .bool,some x,some y=>some (.beq (a7K op) x y)
   | some (.struct _),some x,some y=>if P.eqGuardType P.depth t=false then (a0A P 8 t).map fun ks=>.aeq (a7K op) ks x y else none
   | some (.array _ _),some x,some y=>if P.eqGuardType P.depth t=false then (a0A P 8 t).map fun ks=>.aeq (a7K op) ks x y else none
   | some (.pointer _),some x,some (.c .nilp)=>some (.peq (a7K op) x)
   | _,_,_=>none
 | .unOp op _ x=>(a0j x).map (.un op)
 | .convert src dst x0=>match P.underlying src,P.underlying dst,a0j x0 with
  | some (.int _),some (.int k),some x=>some (.conv k x)
  | some (.slice e),some .string,some x=>match P.underlying e with
   | some (.int .u8)=>some (if R=1 then .b2o x else if c0w P ops x0 then .b2d x else .b2s x)
   | _=>none
  | some .string,some (.slice e),some x=>match P.underlying e with
   | some (.int .u8)=>some (.s2b e x)
   | _=>none
  | some .string,some .string,some x=>some (.s2s x)
  | _,_,_=>none
 | .slice t x lo hi none=>match P.underlying t,a0j x,a0O lo,a0O hi with
  | some .string,some x,some lo,some hi=>some (.slc none x lo hi)
  | some (.slice e),some x,some lo,some hi=>(P.info? e).map fun i=>if b0F e then .hslc i.size x lo hi else .slc (some i.size) x lo hi
  | some (.array n e),some x,some none,some none=>if n≤maxLen∧(P.info? e).isSome=true then some (.asl n x) else none
  | _,_,_,_=>none
 | .extract x j=>(a0j x).map (.ext j)
 | .nilCheck x=>(a0j x).map .nilc
 | .pick c x y=>match a0j c,a0j x,a0j y with
  | some c,some x,some y=>some (.pick c x y)
  | _,_,_=>none
 | .build t parts=>match P.underlying t,zeroOf P t with
  | some (.struct fs),some z=>if fs.toList.all fun f=>(P.info? f.type).isSome then (a3T P fs parts.toList).map (.bld (z.map a9a)) else none
  | some (.array _ e),some z=>match P.info? e with
   | some i=>(a5Z P e i.size parts.toList).map (.bld (z.map a9a))
   | none=>none
  | _,_=>none
 | .buildSlice t n parts=>match isSlice P t,a5m parts.toList 0 with
  | some (e,sz),some ps=>if ps.length=n∧n * sz≤16777216∧0<n * sz∧a0y P e=some sz then some (if b0F e&&(zeroOf P e).isSome then .hbs e sz ps else .bs e sz ps) else none
  | _,_=>none
 | .call { callee:=.value (.func f),args,argTypes }=>if ((P.funcs[f]?).map fun fn=>fn.body.isSome && !(fn.name == "runtime.NumGoroutine")).getD false then (a4k P argTypes.toList args.toList).map (if R==4 && !argTypes.toList.any (objT P) then .calln f else if 0<R then .callo f else if argTypes.toList.any (objT P) then .cro f else .call f) else none
 | .call { callee:=.builtin .len,args:=⟨[x]⟩,argTypes:=⟨[t]⟩ }=>match P.underlying t,a0j x with
  | some .string,some x=>some (.len true x)
  | some (.slice _),some x=>some (.len false x)
  | _,_=>none
 | .call { callee:=.builtin .append,args:=⟨[.tmp i,x]⟩,argTypes:=⟨[t,t']⟩ }=>match isSlice P t,a0j x with
  | some (e,sz),some x=>if t=t'∧0<sz∧a0y P e=some sz then (P.info? e).map fun inf=>if b0F e&&(zeroOf P e).isSome then .hap e sz inf.bytes (some i) x else .app e sz inf.bytes i x else if b4z P t'=true∧sz=1∧a0y P e=some 1 then (P.info? e).map fun inf=>.apps e inf.bytes i x else none
  | _,_=>none
 | .call { callee:=.builtin .min,args:=⟨[x,y]⟩,argTypes:=_ }=>match a0j x,a0j y with
  | some x,some y=>some (.mn x y)
  | _,_=>none
 | .makeSlice t x y=>match isSlice P t,a0j x with
  | some (e,sz),some X=>match zeroOf P e,P.info? e with
   | some z,some i=>if a9H x y=true∧z.length=sz∧0<sz  then (if (a1p z).isNone then some (.mk z i.bytes X) else none) else none
   | _,_=>none
  | _,_=>none
 | .call { callee:=.builtin .max,args:=⟨[x,y]⟩,argTypes:=_ }=>match a0j x,a0j y with
  | some x,some y=>some (.mx x y)
  | _,_=>none
 | .makeMap _ none=>some .mkm
 | .lookup t m x ok=>match P.underlying t,a0j m,a0j x with
  | some (.map k e),some m,some x=>match a9p P k,a7z P e with
   | some (ks,ag),some z=>some (.mq z ok ks ag m x)
   | _,_=>none
  | _,_,_=>none
 | .mapUpdate t m x v=>match P.underlying t,a0j m,a0j x,a0j v with
  | some (.map k _),some m,some x,some v=>match a9p P k,o.dst with
   | some (ks,ag),none=>some (.mu 0 .undef ks ag m x v)
   | _,_=>none
  | _,_,_,_=>none
 | .mapEntry t m x=>match P.underlying t,a0j m,a0j x with
  | some (.map k e),some m,some x=>match a9p P k,a7z P e with
   | some (ks,ag),some z=>some (.mu 1 z ks ag m x (.c .undef))
   | _,_=>none
  | _,_,_=>none
 | .entryStore _ m x v=>match a0j m,a0j x,a0j v,o.dst with
  | some m,some x,some v,none=>some (.mu 2 .undef [] false m x v)
  | _,_,_,_=>none
 | .call { callee:=.builtin .delete,args:=⟨[m,x]⟩,argTypes:=⟨[t,_]⟩ }=>match P.underlying t,a0j m,a0j x with
  | some (.map k _),some m,some x=>match a9p P k,o.dst with
   | some (ks,ag),none=>some (.mu 3 .undef ks ag m x (.c .undef))
   | _,_=>none
  | _,_,_=>none
 | .range t x=>match P.underlying t,a0j x with
  | some (.map _ _),some x=>some (.rng x)
  | _,_=>none
 | .next x false=>(a0j x).map .nxt
 | .entry x=>(a0j x).map .ent
 | .call { callee:=.builtin .append,args:=⟨[.const (.slice none 0 0),x]⟩,argTypes:=⟨[t,t']⟩ }=>match isSlice P t,a0j x with
  | some (e,sz),some x=>if t=t'∧0<sz∧a0y P e=some sz then (P.info? e).map fun inf=>if b0F e&&(zeroOf P e).isSome then .hap e sz inf.bytes none x else .app0 e sz inf.bytes x else none
  | _,_=>none
 | .call { callee:=.value (.tmp k),args,argTypes }=>if 0<R then (a4k P argTypes.toList args.toList).map (.callv (.t k)) else none
 | _=>none
end
section
open Go.RowKit

section
variable {P:Program} {N:Nat} {W0:World} {U0:Nat→Nat→Prop} {M:Nat→Prop} {a:Act} {W:World} {U:Nat→Nat→Prop} {s:St} {o:Oper} {r:AV}

def VOK(P:Program)(a:Act)(o:Oper)(W:World)(U:Nat→Nat→Prop)(r:AV):Prop:=
 ∃ v W' U',(execOp a.eval o).run P W=.ok (.value v) W'∧Ext W U W' U'∧VR W' U' v r∧Own1 W' U' (W.heap.size ≤ ·) v r

theorem Own1.plain{B:Nat→Prop}{v:Value}{r:AV}(h:∀ e sz els,r ≠ .sl (some e) sz els):Own1 W U B v r:=by
 unfold Own1
 split
 ·exact absurd rfl (h _ _ _)
 ·trivial
theorem a0m(r:AV)(e:Nat)(sz:Nat)(els:List (List AV)):r.alias ≠ .sl (some e) sz els:=by
 cases r<;>simp[AV.alias]
theorem a9J(r:AV)(e:Nat)(sz:Nat)(els:List (List AV)):r.store ≠ .sl (some e) sz els:=by
 cases r<;>simp[AV.alias,AV.store]
theorem VOK.same{v:Value}(hrun:(execOp a.eval o).run P W=.ok (.value v) W)(hv:VR W U v r)(hp:∀ e sz els,r ≠ .sl (some e) sz els):VOK P a o W U r:=
 ⟨v,W,U,hrun,Ext.refl _ _,hv,Own1.plain hp⟩

theorem VR.int_inv{v:Value}{k:IntKind}{n:Int}(h:VR W U v (.int k n)):v=.int k n:=by cases h;rfl
theorem VR.bool_inv{v:Value}{b:Bool}(h:VR W U v (.bool b)):v=.bool b:=by cases h;rfl
theorem VR.str_inv{v:Value}{l:List UInt8}(h:VR W U v (.str l)):v=.string ⟨l.toArray⟩:=by cases h;rfl

theorem b9F(h:Inv N W0 U0 M a W U s){x:Operand}{X:Opd}(ho:o.op=.move x∨o.op=.assign x)(hx:a0j x=some X)(hr:opR P s (.mv X) r):VOK P a o W U r:=by
 obtain ⟨v,hv,rfl⟩:=hr
 refine VOK.same (v:=a.eval x) ?_ (a0a h hx hv).alias (a0m _)
 rcases ho with ho|ho<;>simp[execOp,ho]

theorem s_nil{x:Operand}{e sz:Nat}(ho:o.op=.move x∨o.op=.assign x)(hx:x=.const (.slice none 0 0))(hr:opR P s (.nil e sz) r):VOK P a o W U r:=by
 obtain rfl:=hr
 subst hx
 refine ⟨.slice none 0 0,W,U, ?_,Ext.refl _ _,(zVR_sound (v:=.slice none 0 0) (c:=.sl (some e) sz []) rfl W U).1,.inl ⟨rfl,rfl⟩⟩
 rcases ho with ho|ho<;>simp[execOp,ho,Act.eval]

theorem binR_plain{op:BinOp}{x y r:AV}(h:a1b op x y r):∀ e sz els,r ≠ .sl (some e) sz els:=by
 intro e sz els hr
 subst hr
 unfold a1b at h
 split at h<;>simp at h

theorem a3n(l:List UInt8):(⟨l.toArray⟩:ByteArray).size=l.length:=by simp[ByteArray.size]
theorem a3p(l:List UInt8):(⟨l.toArray⟩:ByteArray).toList=l:=by rw[ByteArray.toList_eq]
theorem b0A(a b:List UInt8):(⟨a.toArray⟩:ByteArray)++⟨b.toArray⟩=⟨(a++b).toArray⟩:=by
 apply ByteArray.ext
 simp

theorem a7D(l m:List UInt8):(l==m)=decide (l=m):=by
 by_cases h:l=m<;>simp[h]
theorem a9M(m n:Bool):(m==n)=decide (m=n):=by cases m<;>cases n<;>rfl

theorem b8C(h:Inv N W0 U0 M a W U s){op:BinOp}{t ty:TypeId}{x y:Operand}{X Y:Opd}(ho:o.op=.binOp op t x y ty)(hx:a0j x=some X)(hy:a0j y=some Y)(hr:opR P s (.bin op X Y) r):
  VOK P a o W U r:=by
 obtain ⟨v,u,hv,hu,hb⟩:=hr
 have h1:=a0a h hx hv
 have h2:=a0a h hy hu
 have hp:=binR_plain hb
 suffices hs:∃ w,(do eqGuard op t x y (a.eval x) (a.eval y);binOp op t (a.eval x) (a.eval y):Sem Value).run P W=.ok w W∧VR W U w r by
  obtain ⟨w,hw,hvr⟩:=hs
  refine VOK.same (v:=w) ?_ hvr hp
  simp only[execOp,ho]
  simp only[Sem.run_bind]at hw ⊢
  rw[hw]
  simp
 unfold a1b at hb
 split at hb
 ·obtain ⟨rfl,rfl⟩:=hb;rw[h1.int_inv,h2.int_inv];exact ⟨_,by simp[eqGuard,binOp,Op.intArith],.int _ _⟩
 ·obtain ⟨rfl,rfl⟩:=hb;rw[h1.int_inv,h2.int_inv];exact ⟨_,by simp[eqGuard,binOp,Op.intArith],.int _ _⟩
 ·obtain ⟨rfl,rfl⟩:=hb;rw[h1.int_inv,h2.int_inv];exact ⟨_,by simp[eqGuard,binOp,Op.intArith],.int _ _⟩
 ·obtain ⟨rfl,hn0,rfl⟩:=hb;rw[h1.int_inv,h2.int_inv];exact ⟨_,by simp[eqGuard,binOp,Op.intDiv,hn0],.int _ _⟩
 ·obtain ⟨rfl,hn0,rfl⟩:=hb;rw[h1.int_inv,h2.int_inv];exact ⟨_,by simp[eqGuard,binOp,Op.intDiv,hn0],.int _ _⟩
 ·obtain ⟨rfl,rfl⟩:=hb;rw[h1.int_inv,h2.int_inv];exact ⟨_,by simp[eqGuard,binOp,Op.intCmp];rfl,.bool _⟩
 ·obtain ⟨rfl,rfl⟩:=hb;rw[h1.int_inv,h2.int_inv];exact ⟨_,by simp[eqGuard,binOp,Op.intCmp];rfl,.bool _⟩
 ·obtain ⟨rfl,rfl⟩:=hb;rw[h1.int_inv,h2.int_inv];exact ⟨_,by simp[eqGuard,binOp,Op.intCmp],.bool _⟩
 ·obtain ⟨rfl,rfl⟩:=hb;rw[h1.int_inv,h2.int_inv];exact ⟨_,by simp[eqGuard,binOp,Op.intCmp],.bool _⟩
 ·obtain ⟨rfl,rfl⟩:=hb;rw[h1.int_inv,h2.int_inv];exact ⟨_,by simp[eqGuard,binOp,Op.intCmp],.bool _⟩
 ·obtain ⟨rfl,rfl⟩:=hb;rw[h1.int_inv,h2.int_inv];exact ⟨_,by simp[eqGuard,binOp,Op.intCmp],.bool _⟩
 ·obtain ⟨hl,rfl⟩:=hb;rw[h1.str_inv,h2.str_inv]
  refine ⟨_, ?_,.str _⟩
  simp[eqGuard,binOp,Op.stringOp,b0A]
  rw[a3n,a3n]
  omega
 ·obtain rfl:=hb;rw[h1.str_inv,h2.str_inv];exact ⟨_,by simp[eqGuard,binOp,Op.stringOp,a7D],.bool _⟩
 ·obtain rfl:=hb;rw[h1.str_inv,h2.str_inv];exact ⟨_,by simp[eqGuard,binOp,Op.stringOp,a7D],.bool _⟩
 ·obtain rfl:=hb;rw[h1.str_inv,h2.str_inv];exact ⟨_,by simp[eqGuard,binOp,Op.stringOp],.bool _⟩
 ·obtain rfl:=hb;rw[h1.str_inv,h2.str_inv];exact ⟨_,by simp[eqGuard,binOp,Op.stringOp,a7D],.bool _⟩
 ·obtain rfl:=hb;rw[h1.str_inv,h2.str_inv];exact ⟨_,by simp[eqGuard,binOp,Op.stringOp],.bool _⟩
 ·obtain ⟨rfl,rfl⟩:=hb;rw[h1.int_inv,h2.int_inv];exact ⟨_,by simp[eqGuard,binOp,Op.intBits],.int _ _⟩
 ·obtain ⟨rfl,rfl⟩:=hb;rw[h1.int_inv,h2.int_inv];exact ⟨_,by simp[eqGuard,binOp,Op.intBits],.int _ _⟩
 ·obtain ⟨rfl,rfl⟩:=hb;rw[h1.int_inv,h2.int_inv];exact ⟨_,by simp[eqGuard,binOp,Op.intBits],.int _ _⟩
 ·obtain ⟨rfl,rfl⟩:=hb;rw[h1.int_inv,h2.int_inv];exact ⟨_,by simp[eqGuard,binOp,Op.intBits],.int _ _⟩
 ·obtain ⟨h0,rfl⟩:=hb;rw[h1.int_inv,h2.int_inv];exact ⟨_,by simp[eqGuard,binOp,Op.shift,show ¬ _<(0:Int) from Int.not_lt.2 h0],.int _ _⟩
 ·obtain ⟨h0,rfl⟩:=hb;rw[h1.int_inv,h2.int_inv];exact ⟨_,by simp[eqGuard,binOp,Op.shift,show ¬ _<(0:Int) from Int.not_lt.2 h0],.int _ _⟩
 ·exact hb.elim

theorem run_equal_bool{t:TypeId}(ht:P.underlying t=some .bool)(d:Nat)(x y:Bool):(Op.equalIn (d+1) t (.bool x) (.bool y)).run P W=.ok (decide (x=y)) W:=by
 simp[Op.equalIn,run_underlying ht,a9M]
theorem b8B(h:Inv N W0 U0 M a W U s){op:BinOp}{t ty:TypeId}{x y:Operand}{X Y:Opd}(ho:o.op=.binOp op t x y ty)(hop:op=.eql∨op=.neq)(ht:P.underlying t=some .bool)(hx:a0j x=some X)(hy:a0j y=some Y)
  (hr:opR P s (.beq (a7K op) X Y) r):VOK P a o W U r:=by
 obtain ⟨v,u,hv,hu,rfl⟩:=hr
 have h1:=(a0a h hx hv).bool_inv
 have h2:=(a0a h hy hu).bool_inv
 rcases hop with rfl|rfl
 ·refine VOK.same (v:=.bool (decide (v=u))) ?_ (.bool _) (by simp)
  simp[execOp,ho,h1,h2,eqGuard,binOp,Op.equal,Op.maxDepth,run_equal_bool ht 9999 v u]
 ·refine VOK.same (v:=.bool (!decide (v=u))) ?_ (.bool _) (by simp)
  simp[execOp,ho,h1,h2,eqGuard,binOp,Op.equal,Op.maxDepth,run_equal_bool ht 9999 v u]

theorem b8S(h:Inv N W0 U0 M a W U s){op:BinOp}{t e ty:TypeId}{x y:Operand}{X:Opd}(ho:o.op=.binOp op t x y ty)(hop:op=.eql∨op=.neq)(ht:P.underlying t=some (.pointer e))(hx:a0j x=some X)(hy:a0j y=some (.c .nilp))
  (hr:opR P s (.peq (a7K op) X) r):VOK P a o W U r:=by
 obtain ⟨v,b,hv,hb,rfl⟩:=hr
 have h1:=a0a h hx hv
 have h2:a.eval y=.pointer none:=by
  have:=a0a h hy (v:=.nilp) rfl
  generalize a.eval y=w at this
  cases this;rfl
 have h3:∃ p,a.eval x=.pointer p∧b=p.isNone:=by
  generalize a.eval x=w at h1
  cases h1<;>simp only[b1r,Option.some.injEq,reduceCtorEq]at hb<;>subst hb<;>exact ⟨_,rfl,rfl⟩
 obtain ⟨p,h3,rfl⟩:=h3
 have hrun:∀ d,(Op.equalIn (d+1) t (.pointer p) (.pointer none)).run P W=.ok p.isNone W:=by
  intro d
  cases p<;>simp[Op.equalIn,run_underlying ht]
 rcases hop with rfl|rfl
 ·refine VOK.same (v:=.bool p.isNone) ?_ (.bool _) (by simp)
  simp[execOp,ho,h3,h2,eqGuard,binOp,Op.equal,Op.maxDepth,hrun 9999]
 ·refine VOK.same (v:=.bool (!p.isNone)) ?_ (.bool _) (by simp)
  simp[execOp,ho,h3,h2,eqGuard,binOp,Op.equal,Op.maxDepth,hrun 9999]
theorem c0g(h:Inv N W0 U0 M a W U s){op:UnOp}{t:TypeId}{x:Operand}{X:Opd}(ho:o.op=.unOp op t x)(hx:a0j x=some X)(hr:opR P s (.un op X) r):VOK P a o W U r:=by
 obtain ⟨v,hv,hb⟩:=hr
 have h1:=a0a h hx hv
 unfold unR at hb
 split at hb
 ·obtain rfl:=hb
  exact VOK.same (v:=.bool _) (by simp[execOp,ho,h1.bool_inv,Op.unary]) (.bool _) (by simp)
 ·obtain rfl:=hb
  exact VOK.same (v:=.int _ _) (by simp[execOp,ho,h1.int_inv,Op.unary,Op.intArith]) (.int _ _) (by simp)
 ·obtain rfl:=hb
  exact VOK.same (v:=.int _ _) (by simp[execOp,ho,h1.int_inv,Op.unary,Op.intBits]) (.int _ _) (by simp)
 ·exact hb.elim

theorem b6D(h:Inv N W0 U0 M a W U s){src dst:TypeId}{ks k:IntKind}{x:Operand}{X:Opd}(ho:o.op=.convert src dst x)(hs:P.underlying src=some (.int ks))(hd:P.underlying dst=some (.int k))(hx:a0j x=some X)
  (hr:opR P s (.conv k X) r):VOK P a o W U r:=by
 obtain ⟨k',n,hv,rfl⟩:=hr
 have h1:=(a0a h hx hv).int_inv
 exact VOK.same (v:=.int k (k.wrap n)) (by simp[execOp,ho,h1,convert,run_underlying hs,run_underlying hd,Conv.intToInt]) (.int _ _) (by simp)

theorem b8V(h:Inv N W0 U0 M a W U s){src dst:TypeId}{x:Operand}{X:Opd}(ho:o.op=.convert src dst x)(hs:P.underlying src=some .string)(hd:P.underlying dst=some .string)(hx:a0j x=some X)
  (hr:opR P s (.s2s X) r):VOK P a o W U r:=by
 obtain ⟨l,hl,rfl⟩:=hr
 have h1:=(a0a h hx hl).str_inv
 exact VOK.same (v:=.string ⟨l.toArray⟩) (by simp[execOp,ho,h1,convert,run_underlying hs,run_underlying hd]) (.str l) (by simp)

theorem b6J(h:Inv N W0 U0 M a W U s){t:TypeId}{x:Operand}{X:Opd}(ho:o.op=.call { callee:=.builtin .len,args:=⟨[x]⟩,argTypes:=⟨[t]⟩ })(ht:P.underlying t=some .string)
  (hx:a0j x=some X) (hr:opR P s (.len true X) r):VOK P a o W U r:=by
 obtain ⟨v,hv,hb⟩:=hr
 have h1:=a0a h hx hv
 cases v<;>simp only[b0G]at hb
 subst hb
 exact VOK.same (v:=.int .i64 _) (by simp[execOp,ho,h1.str_inv,resolve,invoke,builtin,Builtin.len_,run_underlying ht,goInt,a3n]) (.int _ _) (by simp)

theorem b6I(h:Inv N W0 U0 M a W U s){t e:TypeId}{x:Operand}{X:Opd}(ho:o.op=.call { callee:=.builtin .len,args:=⟨[x]⟩,argTypes:=⟨[t]⟩ })(ht:P.underlying t=some (.slice e))
  (hx:a0j x=some X) (hr:opR P s (.len false X) r):VOK P a o W U r:=by
 obtain ⟨v,hv,hb⟩:=hr
 have h1:=a0a h hx hv
 cases v<;>simp only[b0G]at hb
 ·rename_i own sz els
  subst hb
  refine VOK.same (v:=.int .i64 els.length) ?_ (.int _ _) (by simp)
  generalize hval:a.eval x=val at h1
  cases h1
  simp[execOp,ho,hval,resolve,invoke,builtin,Builtin.len_,run_underlying ht,goInt]
 ·rename_i b off n
  subst hb
  refine VOK.same (v:=.int .i64 n) ?_ (.int _ _) (by simp)
  generalize hval:a.eval x=val at h1
  cases h1
  simp[execOp,ho,hval,resolve,invoke,builtin,Builtin.len_,run_underlying ht,goInt]
 ·rename_i g e' sz n cap
  subst hb
  refine VOK.same (v:=.int .i64 n) ?_ (.int _ _) (by simp)
  generalize hval:a.eval x=val at h1
  cases h1
  simp[execOp,ho,hval,resolve,invoke,builtin,Builtin.len_,run_underlying ht,goInt]
 ·rename_i g sz a0 m
  subst hb
  refine VOK.same (v:=.int .i64 m) ?_ (.int _ _) (by simp)
  generalize hval:a.eval x=val at h1
  cases h1
  simp[execOp,ho,hval,resolve,invoke,builtin,Builtin.len_,run_underlying ht,goInt]
 ·subst hb
  refine VOK.same (v:=.int .i64 0) ?_ (.int _ _) (by simp)
  generalize hval:a.eval x=val at h1
  cases h1
  simp[execOp,ho,hval,resolve,invoke,builtin,Builtin.len_,run_underlying ht,goInt]

theorem a0B(b o j:Nat):(⟨b,o,none⟩:Addr).add j=⟨b,o+j,none⟩:=by
 unfold Addr.add
 split<;>simp_all

theorem a5j(h:Inv N W0 U0 M a W U s){v:Value}{p:AV}{cs:List AV}(hv:VR W U v p)(hw:view s.o p=some cs):
  ∃ (b off:Nat) (f:Nat→Value),v=.pointer (some ⟨b,off,none⟩)∧(∀ j,j<cs.length→W.cell? ⟨b,off+j,none⟩=some (f j)∧(f j).oneCell'=true)∧∀ j c,cs[j]?=some c→VR W U (f j) c:=by
 cases hv with
 | ro b o cs' f hc hvv=>
  simp only[view,Option.some.injEq]at hw
  subst hw
  exact ⟨b,o,f,rfl,fun j hj=>⟨(hc j hj).1,(hc j hj).2.1⟩,hvv⟩
 | ptr b off hm=>
  simp only[view,Option.map_eq_some_iff]at hw
  obtain ⟨full,hf,rfl⟩:=hw
  obtain ⟨vs,ty,h1,h2,h3,_,_⟩:=h.obc hf hm
  refine ⟨b,off,fun j=>vs.getD (off+j) undef,rfl,fun j hj=>?_,fun j c hc=>?_⟩
  ·have hlt:off+j<full.length:=by simp at hj;omega
   have:=(h3 (off+j) full[off+j] (List.getElem?_eq_getElem hlt)).2
   refine ⟨?_,this⟩
   rw[cell_of_row W b (off+j) vs ty (0,0) h1]
   have hv:off+j<vs.size:=by omega
   simp[hv]
  ·rw[List.getElem?_drop]at hc
   exact (h3 (off+j) c hc).1
 | _=>simp[view]at hw

theorem run_isAgg{t:TypeId}{d:TypeDesc}(ht:P.underlying t=some d)(W:World):(isAgg t).run P W=.ok (a2a d) W:=by
 cases d<;>simp[isAgg,run_underlying ht,a2a]
theorem aggN_cases{t:TypeId}{n:Option Nat}(hn:a9h P t=some n):∃ d i,P.underlying t=some d∧P.info? t=some i∧(a2a d=true∧n=some i.size∨a2a d=false∧n=none):=by
 unfold a9h at hn
 split at hn
 ·rename_i d i hu hi
  refine ⟨d,i,hu,hi, ?_⟩
  cases hd:a2a d<;>simp[hd]at hn<;>simp[hn]
 ·cases hn
theorem range_map_get{n:Nat}{f:Nat→Value}{j:Nat}{v:Value}(h:((List.range n).map f)[j]?=some v):j<n∧v=f j:=by
 have hj:j<n:=by
  rcases Nat.lt_or_ge j n with hj|hj
  ·exact hj
  ·rw[List.getElem?_eq_none (by simp;omega)]at h
   cases h
 rw[List.getElem?_map,List.getElem?_range hj]at h
 exact ⟨hj,by simpa using h.symm⟩

theorem run_load_cells{t:TypeId}{n:Option Nat}(hn:a9h P t=some n){cs:List AV}{b off:Nat}{f:Nat→Value}(h1:∀ j,j<cs.length→W.cell? ⟨b,off+j,none⟩=some (f j)∧(f j).oneCell'=true)
  (h2:∀ j c,cs[j]?=some c→VR W U (f j) c) (hr:ldR n cs r):∃ v,(Instr.loadAt t (.pointer (some ⟨b,off,none⟩))).run P W=.ok v W∧VR W U v r∧∀ e sz els,r ≠ .sl (some e) sz els:=by
 obtain ⟨d,i,hu,hi,hd⟩:=aggN_cases hn
 rcases hd with ⟨hd,rfl⟩ | ⟨hd,rfl⟩
 ·obtain ⟨hle,rfl⟩:=(by simpa[ldR]using hr:i.size≤cs.length∧r=.agg (cs.take i.size))
  refine ⟨.agg ((List.range i.size).map f).toArray, ?_,.agg _ _ (by simp[hle]) (fun j v c hv hc=>?_) (fun v hv=>?_),by simp⟩
  ·have hl:=run_loadCells_list (P:=P) (w:=W) ⟨b,off,none⟩ ((List.range i.size).map f) (fun j v hj=>by
    obtain ⟨hlt,rfl⟩:=range_map_get hj
    rw[a0B]
    exact (h1 j (by omega)).1)
   simp only[List.length_map,List.length_range]at hl
   simp[Instr.loadAt,Instr.sureAddr,loadVar,run_isAgg hu,hd,sizeOf,typeInfo,hi,hl]
  ·obtain ⟨hlt,rfl⟩:=range_map_get hv
   rw[List.getElem?_take,if_pos hlt]at hc
   exact h2 j c hc
  ·simp only[List.mem_map,List.mem_range]at hv
   obtain ⟨j,hj,rfl⟩:=hv
   exact (h1 j (by omega)).2
 ·cases cs with
  | nil=>simp[ldR]at hr
  | cons c rest=>
   obtain rfl:=(by simpa[ldR]using hr:r=c.alias)
   have hc:=(h1 0 (by simp)).1
   refine ⟨f 0, ?_,(h2 0 c (by simp)).alias,a0m c⟩
   simp only[Nat.add_zero]at hc
   simp[Instr.loadAt,Instr.sureAddr,loadVar,run_isAgg hu,hd,hc]

theorem b6H(h:Inv N W0 U0 M a W U s){t:TypeId}{x:Operand}{X:Opd}{n:Option Nat}(ho:o.op=.load t x)(hn:a9h P t=some n)(hx:a0j x=some X)(hr:opR P s (.ld n X) r):VOK P a o W U r:=by
 obtain ⟨p,cs,hp,hv,hl⟩:=hr
 obtain ⟨b,off,f,he,h1,h2⟩:=a5j h (a0a h hx hp) hv
 obtain ⟨v,hrun,hvr,hpl⟩:=run_load_cells hn h1 h2 hl
 exact VOK.same (v:=v) (by simp[execOp,ho,he,hrun]) hvr hpl

theorem b8H(h:Inv N W0 U0 M a W U s){t:TypeId}{fs:Array Field}{fi n:Nat}{fd:Field}{x:Operand}{X:Opd}(ho:o.op=.fieldAddr t x fi)(ht:P.underlying t=some (.struct fs))(hf:fs[fi]?=some fd)
  (hz:(P.info? fd.type).map (·.size)=some (n+1)) (hx:a0j x=some X) (hr:opR P s (.fld fd.offset X) r):VOK P a o W U r:=by
 obtain ⟨p,hp,hb⟩:=hr
 have h1:=a0a h hx hp
 cases hi:P.info? fd.type with
 | none=>simp[hi]at hz
 | some i=>
  have hsz:i.size=n+1:=by simpa[hi]using hz
  cases p with
  | ro cs=>
   obtain rfl:=(by simpa[b0V]using hb:r=.ro (cs.drop fd.offset))
   generalize hval:a.eval x=val at h1
   cases h1 with
   | ro b off _ f hc hv=>
    refine VOK.same (v:=.pointer (some ⟨b,off+fd.offset,none⟩)) ?_ ?_ (by simp)
    ·simp[execOp,ho,hval,Instr.fieldAt,run_underlying ht,hf,Instr.sureAddr,fieldPlace,sizeOf,typeInfo,hi,hsz,a0B]
    ·refine .ro b (off+fd.offset) _ (fun j=>f (fd.offset+j)) (fun j hj=>?_) (fun j c hc'=>?_)
     ·have:=hc (fd.offset+j) (by simp at hj;omega)
      rw[Nat.add_assoc]
      exact this
     ·rw[List.getElem?_drop]at hc'
      exact hv _ c hc'
  | ptr b off=>
   have hm:=h1.ptr_at
   obtain rfl:=(by simpa[b0V]using hb:r=.ptr b (off+fd.offset))
   generalize hval:a.eval x=val at h1
   cases h1
   exact VOK.same (v:=.pointer (some ⟨b,off+fd.offset,none⟩)) (by simp[execOp,ho,hval,Instr.fieldAt,run_underlying ht,hf,Instr.sureAddr,fieldPlace,sizeOf,typeInfo,hi,hsz,a0B]) (.ptr _ _ hm) (by simp)
  | _=>exact hb.elim

theorem isSlice_cases{t:TypeId}{e sz:Nat}(h:isSlice P t=some (e,sz)):∃ i,P.underlying t=some (.slice e)∧P.info? e=some i∧i.size=sz:=by
 unfold isSlice at h
 split at h
 ·rename_i e' hu
  cases hi:P.info? e' with
  | none=>simp[hi]at h
  | some i=>
   simp only[hi,Option.map_some,Option.some.injEq,Prod.mk.injEq]at h
   obtain ⟨rfl,rfl⟩:=h
   exact ⟨i,hu,hi,rfl⟩
 ·cases h

theorem b8J(h:Inv N W0 U0 M a W U s){t:TypeId}{e sz:Nat}{x y:Operand}{X Y:Opd}(ho:o.op=.indexAddr t x y)(ht:isSlice P t=some (e,sz))(hx:a0j x=some X)(hy:a0j y=some Y)(hr:opR P s (.idx sz X Y) r):VOK P a o W U r:=by
 obtain ⟨p,q,hp,hn,hr⟩:=hr
 obtain ⟨i,hu,hi,rfl⟩:=isSlice_cases ht
 cases p<;>try exact hr.elim
 all_goals cases q<;>try exact hr.elim
 case osl.int b off len k n=>
  obtain ⟨⟨hn0,hnl⟩,rfl⟩:=hr
  have h1:=a0a h hx hp
  have h2:=(a0a h hy hn).int_inv
  generalize hval:a.eval x=val at h1
  cases h1 with
  | osl _ _ _ cap hcap hmax hm=>
   refine VOK.same (v:=.pointer (some ⟨b,off+n.toNat * i.size,none⟩)) ?_ (.ptr _ _ hm) (by simp)
   simp[execOp,ho,hval,h2,Instr.indexAt,asIntOf,run_underlying hu,hn0,hnl,sizeOf,typeInfo,hi,a0B]
 case hsl.int g e' sz' len cap k n=>
  obtain ⟨rfl,⟨hn0,hnl⟩,rfl⟩:=hr
  have h1:=a0a h hx hp
  have h2:=(a0a h hy hn).int_inv
  generalize hval:a.eval x=val at h1
  cases h1 with
  | hsl _ _ _ _ _ hcap hmax hm=>
   obtain ⟨c1,c2,c3⟩:=hm
   refine VOK.same (v:=.pointer (some ⟨g,n.toNat * i.size,none⟩)) ?_ (.ptr _ _ ⟨_,_,_,c3⟩) (by simp)
   simp[execOp,ho,hval,h2,Instr.indexAt,asIntOf,run_underlying hu,hn0,hnl,sizeOf,typeInfo,hi,a0B]
 case hss.int g sz' a0 len k n=>
  obtain ⟨rfl,⟨hn0,hnl⟩,rfl⟩:=hr
  have h1:=a0a h hx hp
  have h2:=(a0a h hy hn).int_inv
  generalize hval:a.eval x=val at h1
  cases h1 with
  | hss A _ _ _ _ cap hcap hmax hA hm=>
   obtain rfl:=hA (by omega)
   refine VOK.same (v:=.pointer (some ⟨g,(a0+n.toNat) * i.size,none⟩)) ?_ (.ptr _ _ hm) (by simp)
   simp[execOp,ho,hval,h2,Instr.indexAt,asIntOf,run_underlying hu,hn0,hnl,sizeOf,typeInfo,hi,a0B,Nat.add_mul]
 rename_i own sz els k n
 obtain ⟨rfl,⟨hn0,hnl⟩,rfl⟩:=hr
 have h1:=a0a h hx hp
 have h2:=(a0a h hy hn).int_inv
 have hlt:n.toNat<els.length:=by omega
 have hget:els.getD n.toNat []=els[n.toNat]:=by simp[hlt]
 generalize hval:a.eval x=val at h1
 cases h1 with
 | sl A cap _ _ b off _ f hcap hmax hA hs hc hv=>
  obtain rfl:=hA (by omega)
  have hsz:els[n.toNat].length=i.size:=hs _ (List.getElem_mem _)
  refine VOK.same (v:=.pointer (some ⟨b,off+n.toNat * i.size,none⟩)) ?_ ?_ (by simp)
  ·simp[execOp,ho,hval,h2,Instr.indexAt,asIntOf,run_underlying hu,hn0,hnl,sizeOf,typeInfo,hi,a0B]
  ·rw[hget]
   refine .ro b _ _ (fun j=>f n.toNat j) (fun j hj=>?_) (fun j c hc'=>hv n.toNat _ j c (List.getElem?_eq_getElem hlt) hc')
   exact hc n.toNat j hlt (by omega)

theorem b6x(h:Inv N W0 U0 M a W U s){t:TypeId}{n e:Nat}{x y:Operand}{X Y:Opd}(ho:o.op=.indexAddr t x y)(ht:P.underlying t=some (.array n e))(hi:(P.info? e).isSome=true)(hx:a0j x=some X)(hy:a0j y=some Y)(hr:opR P s (.aidx n (a0n P e) X Y) r):VOK P a o W U r:=by
 obtain ⟨p,k,m,hp,hn,⟨hm0,hml⟩,hb⟩:=hr
 have h1:=a0a h hx hp
 have h2:=(a0a h hy hn).int_inv
 obtain ⟨i,hi⟩:=Option.isSome_iff_exists.1 hi
 have hsz:a0n P e=i.size:=by simp[a0n,hi]
 rw[hsz]at hb
 cases p with
 | ro cs=>
  obtain rfl:=(by simpa[b0V]using hb:r=.ro (cs.drop (m.toNat * i.size)))
  generalize hval:a.eval x=val at h1
  cases h1 with
  | ro b off _ f hc hv=>
   refine VOK.same (v:=.pointer (some ⟨b,off+m.toNat * i.size,none⟩)) ?_ ?_ (by simp)
   ·simp[execOp,ho,hval,h2,Instr.indexAt,asIntOf,run_underlying ht,Instr.sureAddr,hm0,hml,sizeOf,typeInfo,hi,a0B]
   ·refine .ro b _ _ (fun j=>f (m.toNat * i.size+j)) (fun j hj=>?_) (fun j c hc'=>?_)
    ·have:=hc (m.toNat * i.size+j) (by simp at hj;omega)
     rw[Nat.add_assoc]
     exact this
    ·rw[List.getElem?_drop]at hc'
     exact hv _ c hc'
 | ptr b off=>
  have hm:=h1.ptr_at
  obtain rfl:=(by simpa[b0V]using hb:r=.ptr b (off+m.toNat * i.size))
  generalize hval:a.eval x=val at h1
  cases h1
  exact VOK.same (v:=.pointer (some ⟨b,off+m.toNat * i.size,none⟩)) (by simp[execOp,ho,hval,h2,Instr.indexAt,asIntOf,run_underlying ht,Instr.sureAddr,hm0,hml,sizeOf,typeInfo,hi,a0B]) (.ptr _ _ hm) (by simp)
 | _=>exact hb.elim

theorem b6N(h:Inv N W0 U0 M a W U s){t:TypeId}{x y:Operand}{X Y:Opd}(ho:o.op=.index t x y)(ht:P.underlying t=some .string)(hx:a0j x=some X)(hy:a0j y=some Y)(hr:opR P s (.sidx X Y) r):VOK P a o W U r:=by
 obtain ⟨l,k,n,hp,hn,⟨hn0,hnl⟩,rfl⟩:=hr
 have h1:=(a0a h hx hp).str_inv
 have h2:=(a0a h hy hn).int_inv
 have hlt:n.toNat<l.length:=by omega
 refine VOK.same (v:=.int .u8 ((l.getD n.toNat 0).toNat:Int)) ?_ (.int _ _) (by simp)
 have hb:(⟨l.toArray⟩:ByteArray)[n.toNat]?=some l[n.toNat]:=by
  rw[getElem?_pos (⟨l.toArray⟩:ByteArray) n.toNat (by rw[a3n];exact hlt)]
  rfl
 simp[execOp,ho,h1,h2,Instr.index,asIntOf,run_underlying ht,hn0,hb,hlt]

theorem b6E(h:Inv N W0 U0 M a W U s){t:TypeId}{fs:Array Field}{fi:Nat}{fd:Field}{n:Option Nat}{x:Operand}{X:Opd}(ho:o.op=.field t x fi)(ht:P.underlying t=some (.struct fs))(hf:fs[fi]?=some fd)
  (hn:a9h P fd.type=some n) (hx:a0j x=some X) (hr:opR P s (.fldv fd.offset n X) r):VOK P a o W U r:=by
 obtain ⟨cs,hp,hlt,hb⟩:=hr
 have h1:=a0a h hx hp
 obtain ⟨d,i,hu,hi,hd⟩:=aggN_cases hn
 generalize hval:a.eval x=val at h1
 cases h1 with
 | agg vs _ hl hv hone=>
  rcases hd with ⟨hd,rfl⟩ | ⟨hd,rfl⟩
  ·obtain ⟨hle,rfl⟩:=(by simpa[ldR]using hb:i.size≤cs.length - fd.offset∧r=.agg ((cs.drop fd.offset).take i.size))
   refine VOK.same (v:=.agg ((vs.drop fd.offset).take i.size).toArray) ?_ (.agg _ _ (by simp[hl]) (fun j v c h3 h4=>?_) (fun v hv=>hone v (List.mem_of_mem_drop (List.mem_of_mem_take hv)))) (by simp)
   ·simp[execOp,ho,hval,Instr.field,run_underlying ht,hf,asAgg,part,run_isAgg hu,hd,sizeOf,typeInfo,hi]
   ·rw[List.getElem?_take]at h3 h4
    split at h3
    ·rename_i hj
     rw[if_pos hj]at h4
     rw[List.getElem?_drop]at h3 h4
     exact hv _ v c h3 h4
    ·cases h3
  ·have hdr:cs.drop fd.offset=cs[fd.offset]::cs.drop (fd.offset+1):=by rw[List.drop_eq_getElem_cons hlt]
   rw[hdr]at hb
   obtain rfl:=(by simpa[ldR]using hb:r=(cs[fd.offset]).alias)
   have hlv:fd.offset<vs.length:=by omega
   refine VOK.same (v:=vs[fd.offset]) ?_ (hv fd.offset _ _ (List.getElem?_eq_getElem hlv) (List.getElem?_eq_getElem hlt)).alias (a0m _)
   simp[execOp,ho,hval,Instr.field,run_underlying ht,hf,asAgg,part,run_isAgg hu,hd,hlv]

theorem b8G(h:Inv N W0 U0 M a W U s){j:Nat}{x:Operand}{X:Opd}(ho:o.op=.extract x j)(hx:a0j x=some X)(hr:opR P s (.ext j X) r):VOK P a o W U r:=by
 obtain ⟨cs,c,hp,hc,rfl⟩:=hr
 have h1:=a0a h hx hp
 generalize hval:a.eval x=val at h1
 cases h1 with
 | tup vs _ hl hv=>
  have hlt:j<cs.length:=(List.getElem?_eq_some_iff.1 hc).1
  have hlv:j<vs.length:=by omega
  refine VOK.same (v:=vs[j]) ?_ (hv j _ _ (List.getElem?_eq_getElem hlv) hc).alias (a0m _)
  simp[execOp,ho,hval,Instr.extract,hlv]

theorem b6L(h:Inv N W0 U0 M a W U s){x:Operand}{X:Opd}(ho:o.op=.nilCheck x)(hx:a0j x=some X)(hr:opR P s (.nilc X) r):VOK P a o W U r:=by
 rcases hr with ⟨cs,hp,rfl⟩ | ⟨b,off,hp,rfl⟩
 ·have h1:=a0a h hx hp
  refine VOK.same (v:=a.eval x) ?_ h1 (by simp)
  generalize hval:a.eval x=val at h1
  cases h1
  simp[execOp,ho,hval]
 ·have h1:=a0a h hx hp
  refine VOK.same (v:=a.eval x) ?_ h1 (by simp)
  generalize hval:a.eval x=val at h1
  cases h1
  simp[execOp,ho,hval]

theorem b6M(h:Inv N W0 U0 M a W U s){c x y:Operand}{C X Y:Opd}(ho:o.op=.pick c x y)(hc:a0j c=some C)(hx:a0j x=some X)(hy:a0j y=some Y)(hr:opR P s (.pick C X Y) r):VOK P a o W U r:=by
 obtain ⟨b,u,v,h1,h2,h3,rfl⟩:=hr
 have hb:=(a0a h hc h1).bool_inv
 cases b with
 | true=>exact VOK.same (v:=a.eval x) (by simp[execOp,ho,hb,asBool]) (a0a h hx h2).alias (a0m _)
 | false=>exact VOK.same (v:=a.eval y) (by simp[execOp,ho,hb,asBool]) (a0a h hy h3).alias (a0m _)

theorem b6O(h:Inv N W0 U0 M a W U s){t n e:Nat}{q:Option Nat}{x y:Operand}{X Y:Opd}(ho:o.op=.index t x y)(ht:P.underlying t=some (.array n e))(hq:a9h P e=some q)(hx:a0j x=some X)(hy:a0j y=some Y)(hr:opR P s (.vidx n (a0n P e) q X Y) r):VOK P a o W U r:=by
 obtain ⟨p,c,hp,hn,hb⟩:=hr
 cases p<;>try exact hb.elim
 all_goals cases c<;>try exact hb.elim
 rename_i cs k m
 obtain ⟨⟨hm0,hml,hlt⟩,hb⟩:=hb
 have h1:=a0a h hx hp
 have h2:=(a0a h hy hn).int_inv
 obtain ⟨d,i,hu,hi,hd⟩:=aggN_cases hq
 have hsz:a0n P e=i.size:=by simp[a0n,hi]
 rw[hsz]at hb hlt
 generalize hoff:m.toNat * i.size=off at hb hlt
 generalize hval:a.eval x=val at h1
 cases h1 with
 | agg vs _ hl hv hone=>
  rcases hd with ⟨hd,rfl⟩ | ⟨hd,rfl⟩
  ·obtain ⟨hle,rfl⟩:=(by simpa[ldR]using hb:i.size≤cs.length - off∧r=.agg ((cs.drop off).take i.size))
   refine VOK.same (v:=.agg ((vs.drop off).take i.size).toArray) ?_ (.agg _ _ (by simp[hl]) (fun j v c h3 h4=>?_) (fun v hv=>hone v (List.mem_of_mem_drop (List.mem_of_mem_take hv)))) (by simp)
   ·simp[execOp,ho,hval,h2,Instr.index,asIntOf,run_underlying ht,hm0,hml,part,run_isAgg hu,hd,sizeOf,typeInfo,hi,hoff]
   ·rw[List.getElem?_take]at h3 h4
    split at h3
    ·rename_i hj
     rw[if_pos hj]at h4
     rw[List.getElem?_drop]at h3 h4
     exact hv _ v c h3 h4
    ·cases h3
  ·have hdr:cs.drop off=cs[off]::cs.drop (off+1):=by rw[List.drop_eq_getElem_cons hlt]
   rw[hdr]at hb
   obtain rfl:=(by simpa[ldR]using hb:r=(cs[off]).alias)
   have hlv:off<vs.length:=by omega
   refine VOK.same (v:=vs[off]) ?_ (hv off _ _ (List.getElem?_eq_getElem hlv) (List.getElem?_eq_getElem hlt)).alias (a0m _)
   simp[execOp,ho,hval,h2,Instr.index,asIntOf,run_underlying ht,hm0,hml,part,run_isAgg hu,hd,sizeOf,typeInfo,hi,hoff,hlv]
theorem c0c(h:Inv N W0 U0 M a W U s){x y:Operand}{X Y:Opd}{ts:Array TypeId}(ho:o.op=.call { callee:=.builtin .min,args:=⟨[x,y]⟩,argTypes:=ts })(hx:a0j x=some X)(hy:a0j y=some Y)(hr:opR P s (.mn X Y) r):VOK P a o W U r:=by
 obtain ⟨p,c,hp,hn,hb⟩:=hr
 cases p<;>try exact hb.elim
 all_goals cases c<;>try exact hb.elim
 rename_i k1 m k2 n
 have h1:=(a0a h hx hp).int_inv
 have h2:=(a0a h hy hn).int_inv
 obtain rfl:=(hb:r=.int k1 (if n<m then n else m))
 refine VOK.same (v:=.int k1 (if n<m then n else m)) ?_ (.int _ _) (by simp)
 simp[execOp,ho,h1,h2,resolve,invoke,builtin,Builtin.min_,Builtin.min2]

end
end
section
open Go.RowKit

section
variable {P:Program} {N:Nat} {W0:World} {U0:Nat→Nat→Prop} {M:Nat→Prop} {a:Act} {W:World} {U:Nat→Nat→Prop} {s:St} {o:Oper} {r:AV}

theorem run_sliceBound{k:IntKind}{i:Int}{y:Nat}(h0:0≤i)(h1:i.toNat≤y)(c:BoundsCode):(Instr.sliceBound (.int k i) y c).run P W=.ok i.toNat W:=by
 have h2:i≤(y:Int):=by omega
 simp[Instr.sliceBound,asIntOf,h0,h2]

theorem a1J(h:Inv N W0 U0 M a W U s){lo hi:Option Operand}{LO HI:Option Opd}(hlo:a0O lo=some LO)(hhi:a0O hi=some HI){len cap x y:Nat}(hx:a1U s 0 LO x)(hy:a1U s len HI y)(hxy:x≤y)(hyl:y≤len)
  (hlc:len≤cap) (sl:Bool):(Instr.sliceBounds sl len cap (lo.map a.eval) (hi.map a.eval) none).run P W=.ok (x,y,cap) W:=by
 have hb:∀ {z:Option Operand} {Z:Option Opd} {d r:Nat},a0O z=some Z→a1U s d Z r→(z=none∧r=d)∨∃ z' k n,z=some z'∧a.eval z'=.int k n∧0≤n∧r=n.toNat:=by
  intro z Z d r hz hr
  cases z with
  | none=>
   simp only[a0O,Option.some.injEq]at hz
   subst hz
   exact .inl ⟨rfl,hr⟩
  | some z'=>
   cases hc:a0j z' with
   | none=>simp[a0O,hc]at hz
   | some Z'=>
    simp only[a0O,hc,Option.map_some,Option.some.injEq]at hz
    subst hz
    obtain ⟨k,n,h1,h2,h3⟩:=hr
    exact .inr ⟨z',k,n,rfl,(a0a h hc h1).int_inv,h2,h3⟩
 rcases hb hlo hx with ⟨rfl,rfl⟩ | ⟨z1,k1,n1,rfl,e1,p1,rfl⟩
 ·rcases hb hhi hy with ⟨rfl,rfl⟩ | ⟨z2,k2,n2,rfl,e2,p2,rfl⟩
  ·simp[Instr.sliceBounds]
  ·simp[Instr.sliceBounds,e2,run_sliceBound p2 (Nat.le_trans hyl hlc)]
 ·rcases hb hhi hy with ⟨rfl,rfl⟩ | ⟨z2,k2,n2,rfl,e2,p2,rfl⟩
  ·simp[Instr.sliceBounds,e1,run_sliceBound p1 hxy]
  ·simp[Instr.sliceBounds,e1,e2,run_sliceBound p1 hxy,run_sliceBound p2 (Nat.le_trans hyl hlc)]

theorem a9k(l:List UInt8)(x y:Nat):(⟨l.toArray⟩:ByteArray).extract x y=⟨((l.take y).drop x).toArray⟩:=by
 apply ByteArray.ext
 rw[ByteArray.data_extract]
 apply Array.ext'
 simp[List.drop_take]

theorem b8W(h:Inv N W0 U0 M a W U s){t:TypeId}{x:Operand}{lo hi:Option Operand}{X:Opd}{LO HI:Option Opd}(ho:o.op=.slice t x lo hi none)(ht:P.underlying t=some .string)(hx:a0j x=some X)(hlo:a0O lo=some LO)(hhi:a0O hi=some HI)
  (hr:opR P s (.slc none X LO HI) r):VOK P a o W U r:=by
 obtain ⟨l,x1,y1,hp,h1,h2,⟨h3,h4⟩,rfl⟩:=hr
 have hv:=(a0a h hx hp).str_inv
 refine VOK.same (v:=.string ⟨((l.take y1).drop x1).toArray⟩) ?_ (.str _) (by simp)
 have hb:=a1J (P:=P) (a:=a) (W:=W) h hlo hhi (cap:=l.length) h1 h2 h3 h4 (Nat.le_refl _) false
 simp[execOp,ho,Instr.sliceAt,run_underlying ht,Instr.slice,hv,a3n,hb,a9k]

theorem b3V(h:Inv N W0 U0 M a W U s){t:TypeId}{e:Nat}{i:TypeInfo}{x:Operand}{lo hi:Option Operand}{X:Opd}{LO HI:Option Opd}(ho:o.op=.slice t x lo hi none)(ht:P.underlying t=some (.slice e))(hi':P.info? e=some i)
  (hx:a0j x=some X) (hlo:a0O lo=some LO) (hhi:a0O hi=some HI) (hr:opR P s (.slc (some i.size) X LO HI) r):VOK P a o W U r:=by
 obtain ⟨own,l,x1,y1,hp,h1,h2,⟨h3,h4⟩,rfl⟩:=hr
 have hv:=a0a h hx hp
 generalize hval:a.eval x=val at hv
 cases hv with
 | sl A cap _ _ b off _ f hcap hmax hA hs hc hvv=>
  have hb:=a1J (P:=P) (a:=a) (W:=W) h hlo hhi (cap:=cap) h1 h2 h3 h4 hcap true
  refine VOK.same (v:=.slice (if cap=x1 then A else A.map (·.add (x1 * i.size))) (y1 - x1) (cap - x1)) ?_ ?_ (by simp)
  ·simp[execOp,ho,Instr.sliceAt,run_underlying ht,Instr.slice,hval,hb,sizeOf,typeInfo,hi']
  ·have hlen:((l.take y1).drop x1).length=y1 - x1:=by simp;omega
   rw[← hlen]
   refine .sl _ (cap - x1) none _ b (off+x1 * i.size) i.size (fun i j=>f (x1+i) j) (by omega) (by omega) (fun hpos=>?_) (fun e he=>hs e (List.mem_of_mem_take (List.mem_of_mem_drop he))) (fun j k hj hk=>?_) (fun j e' k c he hcc=>?_)
   ·obtain rfl:=hA (by omega)
    rw[if_neg (by omega)]
    simp[a0B]
   ·have:=hc (x1+j) k (by omega) hk
    rw[Nat.add_mul, ← Nat.add_assoc]at this
    exact this
   ·rw[List.getElem?_drop,List.getElem?_take]at he
    split at he
    ·exact hvv _ e' k c he hcc
    ·cases he

theorem b6A(h:Inv N W0 U0 M a W U s){src dst e:TypeId}{x:Operand}{X:Opd}(ho:o.op=.convert src dst x)(hs:P.underlying src=some (.slice e))(hd:P.underlying dst=some .string)(he:P.underlying e=some (.int .u8))(hx:a0j x=some X)
  (hr:opR P s (.b2s X) r):VOK P a o W U r:=by
 obtain ⟨own,l,hp,rfl⟩:=hr
 have hv:=a0a h hx hp
 generalize hval:a.eval x=val at hv
 cases hv with
 | sl A cap _ _ b off _ f hcap hmax hA hsz hc hvv=>
  have hbyte:∀ j (hj:j<l.length),f j 0=.int .u8 (l[j].toNat:Int):=fun j hj=>(hvv j (a0h l[j]) 0 (.int .u8 (l[j].toNat:Int)) (by simp[hj]) rfl).int_inv
  refine VOK.same (v:=.string ⟨l.toArray⟩) ?_ (.str _) (by simp)
  cases A with
  | none=>
   have hl0:l=[]:=by
    cases l with
    | nil=>rfl
    | cons c l=>have:=hA (by simp);cases this
   subst hl0
   simp[execOp,ho,hval,convert,run_underlying hs,run_underlying hd,run_underlying he,Conv.bytesToString]
   rfl
  | some A=>
   have hload:(loadCells A (l.map a0h).length).run P W=.ok ((l.map fun c=>(c.toNat:Int)).map (Value.int .u8)).toArray W:=by
    have hh:=run_loadCells_list (P:=P) (w:=W) A ((l.map fun c=>(c.toNat:Int)).map (Value.int .u8)) (fun j v hj=>by
     have hjl:j<l.length:=by
      rcases Nat.lt_or_ge j l.length with hj'|hj'
      ·exact hj'
      ·rw[List.getElem?_eq_none (by simp;omega)]at hj;cases hj
     have hA':=hA (by simp;omega)
     cases hA'
     have hcell:=(hc j 0 (by simpa using hjl) (by omega)).1
     simp only[Nat.mul_one,Nat.add_zero]at hcell
     rw[a0B,hcell,hbyte j hjl]
     simpa[hjl]using hj)
    simpa using hh
   have hrun:=run_bytesToString (P:=P) W A (l.map a0h).length cap _ hload
   have hfold:∀ (m:List UInt8) (acc:ByteArray),(m.map fun c=>(c.toNat:Int)).foldl (fun (r:ByteArray) (n:Int)=>r.push (UInt8.ofNat n.toNat)) acc=⟨(acc.data.toList++m).toArray⟩:=by
    intro m
    induction m with
    | nil=>intro acc;simp
    | cons c m ih=>
     intro acc
     simp only[List.map_cons,List.foldl_cons,ih]
     simp
   rw[hfold]at hrun
   have hem:(ByteArray.empty.data.toList++l)=l:=by simp
   rw[hem]at hrun
   simp only[execOp,ho,hval,convert,run_underlying hs,run_underlying hd,run_underlying he,Sem.run_bind,Result.andThen_ok,hrun]
   rfl
theorem b8A(h:Inv N W0 U0 M a W U s){src dst e:TypeId}{x:Operand}{X:Opd}(ho:o.op=.convert src dst x)(hs:P.underlying src=some (.slice e))(hd:P.underlying dst=some .string)(he:P.underlying e=some (.int .u8))(hx:a0j x=some X)
  {b off n:Nat} {cs:List AV} {l:List UInt8} (hp:X.ev s=some (.osl b off n)) (hb:s.o b=some cs) (hc:(cs.drop off).take n=l.map byC) (hl:l.length=n):VOK P a o W U (.str l):=by
 have hv:=a0a h hx hp
 generalize hval:a.eval x=val at hv
 cases hv with
 | osl _ _ _ cap h1 h2 hm=>
  obtain ⟨vs,ty,g1,g2,g3,_,_⟩:=h.obc hb hm
  refine VOK.same (v:=.string ⟨l.toArray⟩) ?_ (.str _) (by simp)
  have hload:(loadCells ⟨b,off,none⟩ n).run P W=.ok ((l.map fun c=>(c.toNat:Int)).map (Value.int .u8)).toArray W:=by
   have hh:=run_loadCells_list (P:=P) (w:=W) ⟨b,off,none⟩ ((l.map fun c=>(c.toNat:Int)).map (Value.int .u8)) (fun j v hj=>by
    have hjl:j<l.length:=by
     have:=(List.getElem?_eq_some_iff.1 hj).1;simpa using this
    have hcj:cs[off+j]?=some (byC l[j]):=by
     have:=congrArg (·[j]?) hc
     simp only[List.getElem?_map,List.getElem?_eq_getElem hjl,Option.map_some]at this
     rw[List.getElem?_take_of_lt (by omega),List.getElem?_drop]at this
     exact this
    have hlt:off+j<cs.length:=(List.getElem?_eq_some_iff.1 hcj).1
    have h3:=(g3 _ _ hcj).1.int_inv
    rw[a0B,cell_of_row W b (off+j) vs ty (0,0) g1]
    have hv':off+j<vs.size:=by omega
    rw[Array.getD_eq_getD_getElem?,Array.getElem?_eq_getElem hv']at h3
    simp only[Option.getD_some]at h3
    rw[Array.getElem?_eq_getElem hv',h3]
    simpa[hjl]using hj)
   simpa[hl]using hh
  have hrun:=run_bytesToString (P:=P) W ⟨b,off,none⟩ n cap _ hload
  have hfold:∀ (m:List UInt8) (acc:ByteArray),(m.map fun c=>(c.toNat:Int)).foldl (fun (r:ByteArray) (n:Int)=>r.push (UInt8.ofNat n.toNat)) acc=⟨(acc.data.toList++m).toArray⟩:=by
   intro m
   induction m with
   | nil=>intro acc;simp
   | cons c m ih=>
    intro acc
    simp only[List.map_cons,List.foldl_cons,ih]
    simp
  rw[hfold]at hrun
  have hem:(ByteArray.empty.data.toList++l)=l:=by simp
  rw[hem]at hrun
  simp only[execOp,ho,hval,convert,run_underlying hs,run_underlying hd,run_underlying he,Sem.run_bind,Result.andThen_ok,hrun]
  rfl
theorem b8z(h:Inv N W0 U0 M a W U s){t e n:TypeId}{x:Operand}{X:Opd}(ho:o.op=.slice t x none none none)(ht:P.underlying t=some (.array n e))(hi:(P.info? e).isSome=true)(hn:n≤maxLen)(hx:a0j x=some X)
  (hr:opR P s (.asl n X) r):VOK P a o W U r:=by
 obtain ⟨b,off,hp,rfl⟩:=hr
 obtain ⟨i,hi⟩:=Option.isSome_iff_exists.1 hi
 have hv:=a0a h hx hp
 generalize hval:a.eval x=val at hv
 cases hv with
 | ptr _ _ hm=>
  refine VOK.same (v:=.slice (some ⟨b,off,none⟩) n n) ?_ (.osl b off n n (Nat.le_refl _) hn hm) (by simp)
  simp[execOp,ho,hval,Instr.sliceAt,run_underlying ht,Instr.sliceBounds,sizeOf,typeInfo,hi,Instr.sureAddr,a0B]
theorem b8U(h:Inv N W0 U0 M a W U s){src dst e:TypeId}{x:Operand}{X:Opd}(ho:o.op=.convert src dst x)(hs:P.underlying src=some .string)(hd:P.underlying dst=some (.slice e))(he:P.underlying e=some (.int .u8))(hx:a0j x=some X)
    (hr:opR P s (.s2b e X) r):VOK P a o W U r:=by
  obtain ⟨l,hp,hl,rfl⟩:=hr
  have hv:=(a0a h hx hp).str_inv
  have hsz:(⟨l.toArray⟩:ByteArray).size=l.length:=by simp[ByteArray.size]
  have hmx:(⟨l.toArray⟩:ByteArray).size≤maxLen:=by rw[hsz];simp only[maxLen];omega
  have hrun:=Lib.run_convert_string_bytes (P:=P) W src dst e ⟨l.toArray⟩ hs hd he
  have hge:=grownCap_ge W (⟨l.toArray⟩:ByteArray).size 0 e
  have hcm:=grownCap_le_maxLen W (⟨l.toArray⟩:ByteArray).size 0 e hmx
  have hnew:=Lib.bytesWorld_at_new W e ⟨l.toArray⟩
  have hcs:(Lib.bytesCells W e ⟨l.toArray⟩).size=grownCap W (⟨l.toArray⟩:ByteArray).size 0 e:=by
    have h1:(Lib.bytesCells W e ⟨l.toArray⟩).size=(⟨l.toArray⟩:ByteArray).size+(grownCap W (⟨l.toArray⟩:ByteArray).size 0 e - (⟨l.toArray⟩:ByteArray).size):=by
      simp only[Lib.bytesCells,Array.size_append,Array.size_map,Array.size_replicate];rfl
    omega
  refine ⟨.slice (some ⟨W.heap.size,0,none⟩) (⟨l.toArray⟩:ByteArray).size (grownCap W (⟨l.toArray⟩:ByteArray).size 0 e),Lib.bytesWorld W e ⟨l.toArray⟩,fun k i=>if k=W.heap.size then l.length≤i else U k i, ?_,⟨⟨rfl,rfl,rfl, ?_,fun k hk=>Lib.bytesWorld_at_old W e _ k hk⟩,fun k hk i=>by rw[if_neg (by omega)]⟩, ?_, ?_⟩
  · simp only[execOp,ho,hv,Sem.run_bind,hrun,Result.andThen_ok]
    rfl
  · rw[Lib.bytesWorld_size];omega
  · have h1:(l.map a0h).length=l.length:=by simp
    have key:VR (Lib.bytesWorld W e ⟨l.toArray⟩) (fun k i=>if k=W.heap.size then l.length≤i else U k i) (.slice (some ⟨W.heap.size,0,none⟩) (l.map a0h).length (grownCap W (⟨l.toArray⟩:ByteArray).size 0 e)) (.sl (some e) 1 (l.map a0h)):=by
     refine .sl _ _ _ _ W.heap.size 0 1 (fun i _=>.int .u8 ((l.getD i 0).toNat:Int)) (by rw[h1, ← hsz];exact hge) hcm (fun _=>rfl) (fun c hc=>by
       obtain ⟨u,_,rfl⟩:=List.mem_map.1 hc;rfl) (fun i j hi hj=>?_) (fun i c j x hc hx=>?_)
     · have hi':i<l.length:=by simpa using hi
       have:=Lib.bytesWorld_cell W e ⟨l.toArray⟩ i (by rw[hsz];exact hi')
       rw[show 0+i * 1+j=i by omega]
       refine ⟨by simpa using this,rfl, ?_⟩
       simp;omega
     · rw[List.getElem?_map,Option.map_eq_some_iff]at hc
       obtain ⟨u,h3,rfl⟩:=hc
       have hj:j=0:=by
         have:=(List.getElem?_eq_some_iff.1 hx).1;simp[a0h]at this;omega
       subst hj
       simp only[a0h,List.getElem?_cons_zero,Option.some.injEq]at hx
       subst hx
       simp only[List.getD,h3,Option.getD_some]
       exact .int _ _
    simpa only[h1,hsz]using key
  · refine .inr ⟨W.heap.size,_,_,by rw[hsz,List.length_map],Nat.le_refl _,⟨_,hnew,.inr (Nat.le_refl _)⟩,by rw[List.length_map, ← hsz];exact hge,hcm,by rw[hcs,Nat.mul_one],fun o' ho'=>?_,fun o' ho'=>?_⟩
    · simp at ho' ⊢;omega
    · simp at ho' ⊢;exact ho'
end
end
end Go.Proofs.YtfgihnhoocnmdaaGreatDoor
