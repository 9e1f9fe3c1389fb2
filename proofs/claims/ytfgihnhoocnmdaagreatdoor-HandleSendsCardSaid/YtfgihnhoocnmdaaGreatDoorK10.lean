import Derived.Test.YtfgihnhoocnmdaaGreatDoorK9
namespace Go.Proofs.YtfgihnhoocnmdaaGreatDoor
set_option linter.all false
set_option maxHeartbeats 9000000
section

theorem lk_cons{α:Type}(k:Nat)(a:α)(r:List (Nat × α))(i:Nat):lk ((k,a)::r) i=if i=k then some a else lk r i:=rfl
theorem lk_nil{α:Type}(i:Nat):lk ([]:List (Nat × α)) i=none:=rfl
theorem pt_cons{α:Type}(k:Nat)(b:α)(r:List (Nat × α))(i:Nat)(a:α):pt ((k,b)::r) i a=if i=k then (k,a)::r else (k,b)::pt r i a:=rfl
theorem pt_nil{α:Type}(i:Nat)(a:α):pt [] i a=[(i,a)]:=rfl
theorem ln_cons{α:Type}(k:Nat)(a:α)(r:List (Nat × α))(i:Nat):(lk ((k,a)::r) i=none)=(¬ i=k∧lk r i=none):=by
 rw[lk_cons]
 by_cases h:i=k<;>simp[h]
theorem ln_cons2{α:Type}(k:Nat)(a:α)(r:List (Nat × α))(i:Nat):(lk ((k,a)::r) i=none)=((¬ i=k∧¬ k=i)∧lk r i=none):=by
 rw[ln_cons]
 apply propext
 exact ⟨fun ⟨h1,h2⟩=>⟨⟨h1,fun e=>h1 e.symm⟩,h2⟩,fun ⟨h1,h2⟩=>⟨h1.1,h2⟩⟩
theorem ln_nil{α:Type}(i:Nat):(lk ([]:List (Nat × α)) i=none)=True:=by simp[lk]
theorem del_cons{α:Type}(k:Nat)(b:α)(r:List (Nat × α))(i:Nat):del ((k,b)::r) i=if i=k then del r i else (k,b)::del r i:=rfl
theorem del_nil{α:Type}(i:Nat):del ([]:List (Nat × α)) i=[]:=rfl
theorem num_cons{α:Type}(n:Nat)(a:α)(r:List α):num n (a::r)=(n,a)::num (n+1) r:=rfl
theorem num_nil{α:Type}(n:Nat):num n ([]:List α)=[]:=rfl

theorem al_int(k:IntKind)(n:Int):AV.alias (.int k n)=.int k n:=rfl
theorem al_bool(b:Bool):AV.alias (.bool b)=.bool b:=rfl
theorem al_str(l:List UInt8):AV.alias (.str l)=.str l:=rfl
theorem al_agg(cs:List AV):AV.alias (.agg cs)=.agg cs:=rfl
theorem al_sl(o:Option Nat)(sz:Nat)(els:List (List AV)):AV.alias (.sl o sz els)=.sl none sz els:=rfl
theorem al_ro(cs:List AV):AV.alias (.ro cs)=.ro cs:=rfl
theorem al_ptr(b o:Nat):AV.alias (.ptr b o)=.ptr b o:=rfl
theorem al_nilp:AV.alias .nilp=.nilp:=rfl
theorem al_nilT(t:Nat):AV.alias (.nilT t)=.nilp:=rfl
theorem ce_nilT(t:Nat):AV.cells (.nilT t)=[.nilp]:=rfl
theorem so_nilT(t:Nat):AV.store (.nilT t)=.nilp:=rfl
theorem al_nili:AV.alias .nili=.nili:=rfl
theorem ce_nili:AV.cells .nili=[.nili]:=rfl
theorem so_nili:AV.store .nili=.nili:=rfl
theorem al_osl(b o n:Nat):AV.alias (.osl b o n)=.osl b o n:=rfl
theorem ce_osl(b o n:Nat):AV.cells (.osl b o n)=[.osl b o n]:=rfl
theorem so_osl(b o n:Nat):AV.store (.osl b o n)=.osl b o n:=rfl
theorem al_nils(e sz:Nat):AV.alias (.nils e sz)=.sl none sz []:=rfl
theorem so_nils(e sz:Nat):AV.store (.nils e sz)=.nils e sz:=rfl
theorem so_int(k:IntKind)(n:Int):AV.store (.int k n)=.int k n:=rfl
theorem so_bool(b:Bool):AV.store (.bool b)=.bool b:=rfl
theorem so_str(l:List UInt8):AV.store (.str l)=.str l:=rfl
theorem so_sl(o:Option Nat)(sz:Nat)(els:List (List AV)):AV.store (.sl o sz els)=.sl none sz els:=rfl
theorem so_ro(cs:List AV):AV.store (.ro cs)=.ro cs:=rfl
theorem so_pt(b o:Nat):AV.store (.ptr b o)=.ptr b o:=rfl
theorem so_nilp:AV.store .nilp=.nilp:=rfl
theorem so_fn(f:Nat):AV.store (.fn f)=.fn f:=rfl
theorem so_clo(f:Nat)(cs:List AV):AV.store (.clo f cs)=.clo f cs:=rfl
theorem al_clo(f:Nat)(cs:List AV):AV.alias (.clo f cs)=.clo f cs:=rfl
theorem ce_clo(f:Nat)(cs:List AV):AV.cells (.clo f cs)=[.clo f cs]:=rfl
theorem al_fn(f:Nat):AV.alias (.fn f)=.fn f:=rfl
theorem al_tup(cs:List AV):AV.alias (.tup cs)=.tup cs:=rfl
theorem al_undef:AV.alias .undef=.undef:=rfl
theorem ce_int(k:IntKind)(n:Int):AV.cells (.int k n)=[.int k n]:=rfl
theorem ce_bool(b:Bool):AV.cells (.bool b)=[.bool b]:=rfl
theorem ce_str(l:List UInt8):AV.cells (.str l)=[.str l]:=rfl
theorem ce_agg(cs:List AV):AV.cells (.agg cs)=cs.map AV.store:=rfl
theorem ce_sl(o:Option Nat)(sz:Nat)(els:List (List AV)):AV.cells (.sl o sz els)=[.sl none sz els]:=rfl
theorem ce_ro(cs:List AV):AV.cells (.ro cs)=[.ro cs]:=rfl
theorem ce_ptr(b o:Nat):AV.cells (.ptr b o)=[.ptr b o]:=rfl
theorem ce_nilp:AV.cells .nilp=[.nilp]:=rfl
theorem tk_own(d:Option Nat)(i:Nat)(s:St)(e sz:Nat)(els:List (List AV)):a8B d i s (.sl (some e) sz els)=St.put { s with t:=upd s.t i (some (.sl none sz els)) } d (.sl (some e) sz els):=rfl
theorem tk_none(d:Option Nat)(i:Nat)(s:St)(sz:Nat)(els:List (List AV)):a8B d i s (.sl none sz els)=s.put d (.sl none sz els):=rfl
theorem tk_int(d:Option Nat)(i:Nat)(s:St)(k:IntKind)(n:Int):a8B d i s (.int k n)=s.put d (.int k n):=rfl

section
variable (k:IntKind) (a b:Int) (r:AV)
theorem b7G:a1b .add (.int k a) (.int k b) r=(r=.int k (k.wrap (a+b))):=by simp[a1b]
theorem b7R:a1b .sub (.int k a) (.int k b) r=(r=.int k (k.wrap (a - b))):=by simp[a1b]
theorem b7N:a1b .mul (.int k a) (.int k b) r=(r=.int k (k.wrap (a * b))):=by simp[a1b]
theorem b7P:a1b .quo (.int k a) (.int k b) r=(b≠0∧r=.int k (k.wrap (a.tdiv b))):=by simp[a1b]
theorem b7Q:a1b .rem (.int k a) (.int k b) r=(b≠0∧r=.int k (a.tmod b)):=by simp[a1b]
theorem b7I:a1b .eql (.int k a) (.int k b) r=(r=.bool (decide (a=b))):=by simp[a1b]
theorem b7O:a1b .neq (.int k a) (.int k b) r=(r=.bool (!decide (a=b))):=by simp[a1b]
theorem b7M:a1b .lss (.int k a) (.int k b) r=(r=.bool (decide (a<b))):=by simp[a1b]
theorem b7L:a1b .leq (.int k a) (.int k b) r=(r=.bool (decide (a≤b))):=by simp[a1b]
theorem b7K:a1b .gtr (.int k a) (.int k b) r=(r=.bool (decide (b<a))):=by simp[a1b]
theorem b7J:a1b .geq (.int k a) (.int k b) r=(r=.bool (decide (b≤a))):=by simp[a1b]
end
section
variable (a b:List UInt8) (r:AV)
theorem b7H:a1b .add (.str a) (.str b) r=(a.length+b.length≤9223372036854775807∧r=.str (a++b)):=by simp[a1b]
theorem b5M:a1b .eql (.str a) (.str b) r=(r=.bool (decide (a=b))):=by simp[a1b]
theorem b5O:a1b .neq (.str a) (.str b) r=(r=.bool (!decide (a=b))):=by simp[a1b]
theorem b5N:a1b .lss (.str a) (.str b) r=(r=.bool (Op.bytesLess a b)):=by simp[a1b]
end
theorem b9Q(a b:Bool)(r:AV):b4k false (.bool a) (.bool b) r=(r=.bool (decide (a=b))):=by simp[b4k]
theorem b9R(a b:Bool)(r:AV):b4k true (.bool a) (.bool b) r=(r=.bool (!decide (a=b))):=by simp[b4k]
theorem b9i(b:Bool)(r:AV):unR .not (.bool b) r=(r=.bool (!b)):=rfl
theorem b9h(k:IntKind)(n:Int)(r:AV):unR .neg (.int k n) r=(r=.int k (k.wrap (0 - n))):=rfl
theorem v_ro(o:Nat→Option (List AV))(cs:List AV):view o (.ro cs)=some cs:=rfl
theorem v_ptr(o:Nat→Option (List AV))(b off:Nat):view o (.ptr b off)=(o b).map (·.drop off):=rfl
theorem l_one(c:AV)(cs:List AV)(r:AV):ldR none (c::cs) r=(r=c.alias):=rfl
theorem l_all(n:Nat)(cs:List AV)(r:AV):ldR (some n) cs r=(n≤cs.length∧r=.agg (cs.take n)):=by cases cs<;>rfl
theorem ldh_cons(c:AV)(cs:List AV):b7Z (c::cs)=fun r=>r=hal c:=rfl
theorem hal_nils(e sz:Nat):hal (.nils e sz)=.hnil e sz:=rfl
theorem hal_hnil(e sz:Nat):hal (.hnil e sz)=.hnil e sz:=rfl
theorem hal_hsl(g e sz n cap:Nat):hal (.hsl g e sz n cap)=.hsl g e sz n cap:=rfl
theorem hal_sl(sz:Nat)(l:List (List AV)):hal (.sl none sz l)=.sl none sz l:=rfl
theorem lr_ro(n:Option Nat)(cs:List AV):b9t n (.ro cs)=ldR n cs:=rfl
theorem b9T(off:Nat)(cs:List AV)(r:AV):b0V off (.ro cs) r=(r=.ro (cs.drop off)):=rfl
theorem b7T(off b o:Nat)(r:AV):b0V off (.ptr b o) r=(r=.ptr b (o+off)):=rfl
theorem b8h(l:List UInt8)(r:AV):b0G true (.str l) r=(r=.int .i64 l.length):=rfl
theorem b9Y(o:Option Nat)(sz:Nat)(els:List (List AV))(r:AV):b0G false (.sl o sz els) r=(r=.int .i64 els.length):=rfl
theorem b9V(size:Nat)(o:Option Nat)(els:List (List AV))(k:IntKind)(n:Int)(r:AV):b1p size (.sl o size els) (.int k n) r=((0≤n∧n<els.length)∧r=.ro (els.getD n.toNat [])):=by simp[b1p]
theorem b7W(size b off len:Nat)(k:IntKind)(n:Int)(r:AV):b1p size (.osl b off len) (.int k n) r=((0≤n∧n<len)∧r=.ptr b (off+n.toNat * size)):=rfl
theorem b8g(b off n:Nat)(r:AV):b0G false (.osl b off n) r=(r=.int .i64 n):=rfl
theorem vi_agg(n size:Nat)(q:Option Nat)(cs:List AV)(k:IntKind)(m:Int):b5s n size q (.agg cs) (.int k m)=fun r=>((0≤m∧m<n∧m.toNat * size<cs.length)∧ldR q (cs.drop (m.toNat * size)) r):=rfl
theorem mn_int(k k':IntKind)(a b:Int):b8c (.int k a) (.int k' b)=fun r=>r=.int k (if b<a then b else a):=rfl
theorem b7X(l:List UInt8)(k:IntKind)(n:Int)(r:AV):b5j (.str l) (.int k n) r=((0≤n∧n<l.length)∧r=.int .u8 ((l.getD n.toNat 0).toNat:Int)):=rfl
theorem b7C(e size bytes:Nat)(o:Option Nat)(els news:List (List AV))(r:AV):b7l e size bytes (.sl (some e) size els) (.sl o size news) r=(((els.length+news.length) * bytes≤140737488355328∧els.length+news.length≤maxLen)∧r=.sl (some e) size (els++news)):=by simp[b7l]
theorem b6c(off:Nat)(n:Option Nat)(cs:List AV)(r:AV):b4v off n (.agg cs) r=(off<cs.length∧ldR n (cs.drop off) r):=rfl
theorem b7h(c:AV)(cs:List AV)(r:AV):b2D 0 (.tup (c::cs)) r=(r=c.alias):=by simp[b2D]
theorem b7i(j:Nat)(c:AV)(cs:List AV)(r:AV):b2D (j+1) (.tup (c::cs)) r=b2D j (.tup cs) r:=by simp[b2D]
theorem b8i(cs:List AV)(r:AV):b1z (.ro cs) r=(r=.ro cs):=rfl
theorem b6g(b o:Nat)(r:AV):b1z (.ptr b o) r=(r=.ptr b o):=rfl
theorem pk_t(a b:AV)(K:AV→Prop):a6M (.bool true) a b K=K a.alias:=by simp[a6M]
theorem pk_f(a b:AV)(K:AV→Prop):a6M (.bool false) a b K=K b.alias:=by simp[a6M]
theorem so_ptr(s:St)(n b off:Nat)(a:AV)(K:St→Prop):b9H s n (.ptr b off) a K=KL (s.o b) (stoK n b off s a K):=rfl
theorem bt_sl(o:Option Nat)(sz:Nat)(els:List (List AV))(K:List UInt8→Prop):b3z (.sl o sz els) K=(sz=1∧a8q els K):=rfl
theorem b6P(l:List UInt8)(a b:Nat)(r:AV):b5D none (.str l) a b r=((a≤b∧b≤l.length)∧r=.str ((l.take b).drop a)):=rfl
theorem b8Z(size:Nat)(o:Option Nat)(l:List (List AV))(a b:Nat)(r:AV):b5D (some size) (.sl o size l) a b r=((a≤b∧b≤l.length)∧r=.sl none size ((l.take b).drop a)):=by simp[b5D]
theorem lo_str(l:List UInt8):b1u (.str l)=l.length:=rfl
theorem lo_sl(o:Option Nat)(sz:Nat)(l:List (List AV)):b1u (.sl o sz l)=l.length:=rfl
theorem bw_none(s:St)(dflt:Nat)(K:Nat→Prop):a5Y s dflt none K=K dflt:=rfl
theorem bw_some(s:St)(dflt:Nat)(x:Opd)(K:Nat→Prop):a5Y s dflt (some x) K=K1 (x.ev s) (bwK K):=rfl
theorem iw_int(k:IntKind)(n:Int)(K:Nat→Prop):b9s (.int k n) K=(0≤n∧K n.toNat):=rfl
theorem b5Q(k k':IntKind)(n:Int)(r:AV):b4l k (.int k' n) r=(r=.int k (k.wrap n)):=rfl
theorem b6S(l:List UInt8)(r:AV):b8x (.str l) r=(r=.str l):=rfl
theorem c_t(P:Program)(t e:ACode)(Q:AExit→St→Prop)(s:St):a6j P t e Q s (.bool true)=wpx P t Q s:=by simp[a6j]
theorem c_f(P:Program)(t e:ACode)(Q:AExit→St→Prop)(s:St):a6j P t e Q s (.bool false)=wpx P e Q s:=by simp[a6j]
section
variable {P:Program} {s:St} {K:St→Prop}
theorem g_tt(d:Option Nat)(k:AK):gW P true d k s K (.bool true)=kW P d k s K:=by simp[gW]
theorem g_tf(d:Option Nat)(k:AK):gW P true d k s K (.bool false)=KS (s.put d .undef) K:=by simp[gW]
theorem g_ft(d:Option Nat)(k:AK):gW P false d k s K (.bool true)=KS (s.put d .undef) K:=by simp[gW]
theorem g_ff(d:Option Nat)(k:AK):gW P false d k s K (.bool false)=kW P d k s K:=by simp[gW]
theorem g_undef(want:Bool)(d:Option Nat)(k:AK):gW P want d k s K .undef=KS (s.put d .undef) K:=rfl
end
theorem evs_nil(s:St):evs s []=some []:=rfl
theorem evs_cons(s:St)(x:Opd)(r:List Opd):evs s (x::r)=(x.ev s).bind fun v=>(evs s r).map (v :: ·):=by
 simp only[evs]
 cases x.ev s<;>cases evs s r<;>rfl
theorem evp_nil(s:St):evp s []=some []:=rfl
theorem evp_cons(s:St)(a b:Nat)(x:Opd)(r:List (Nat × Nat × Opd)):evp s ((a,b,x)::r)=(x.ev s).bind fun v=>(evp s r).map ((a,b,v) :: ·):=by
 simp only[evp]
 cases x.ev s<;>cases evp s r<;>rfl
theorem b5Y(cs r:List AV):a3X cs [] r=(r=cs):=rfl
theorem b4u(cs:List AV)(off n:Nat)(v:AV)(rest:List (Nat × Nat × AV))(r:List AV):a3X cs ((off,n,v)::rest) r=((v.cells.length=n∧0<n∧off+n≤cs.length)∧a3X (splice cs off v.cells) rest r):=rfl
theorem sp_0n(cs:List AV):splice cs 0 []=cs:=by cases cs<;>rfl
theorem sp_0(c:AV)(cs:List AV)(v:AV)(vs:List AV):splice (c::cs) 0 (v::vs)=v::splice cs 0 vs:=rfl
theorem sp_s(c:AV)(cs:List AV)(n:Nat)(vs:List AV):splice (c::cs) (n+1) vs=c::splice cs n vs:=rfl
theorem sz_nil(size:Nat):a4L size []=True:=rfl
theorem sz_cons(size:Nat)(v:AV)(vs:List AV):a4L size (v::vs)=(v.cells.length=size∧a4L size vs):=rfl
theorem r_one(s:St)(x:AR)(r:AV):a1a s [x] r=arR s x r:=rfl
theorem ar_tmp(s:St)(i:Nat)(r:AV):arR s (.tmp i) r=(s.t i=some r):=rfl
def b2p(s:St):List AR→List AV→Prop
 | [],[]=>True
 | x::xs,c::cs=>(∃ c',arR s x c'∧c=c'.alias)∧b2p s xs cs
 | _,_=>False
theorem b3e(s:St)(xs:List AR)(cs:List AV):b2p s xs cs↔xs.length=cs.length∧∀ (i:Nat) (x:AR) (c:AV),xs[i]?=some x→cs[i]?=some c→∃ c',arR s x c'∧c=c'.alias:=by
 induction xs generalizing cs with
 | nil=>cases cs<;>simp[b2p]
 | cons x xs ih=>
  cases cs with
  | nil=>simp[b2p]
  | cons c cs=>
   simp only[b2p,ih,List.length_cons,Nat.add_right_cancel_iff]
   constructor
   ·rintro ⟨h1,h2,h3⟩
    refine ⟨h2,fun i y d hy hd=>?_⟩
    cases i with
    | zero=>simp at hy hd;subst hy hd;exact h1
    | succ i=>exact h3 i y d (by simpa using hy) (by simpa using hd)
   ·rintro ⟨h1,h2⟩
    exact ⟨h2 0 x c rfl rfl,h1,fun i y d hy hd=>h2 (i+1) y d (by simpa using hy) (by simpa using hd)⟩
theorem r_two(s:St)(x y:AR)(xs:List AR)(rs:List AV):a1a s (x::y::xs) (.tup rs)=b2p s (x::y::xs) rs:=by
 apply propext
 rw[b3e]
 exact ⟨fun ⟨rs',h1,h2,h3⟩=>by cases h3;exact ⟨h1,h2⟩,fun ⟨h1,h2⟩=>⟨rs,h1,h2,rfl⟩⟩
theorem r_nil(s:St):a1a s [] (.tup [])=True:=by
 apply propext
 exact ⟨fun _=>trivial,fun _=>⟨[],rfl,fun i x c hx=>by simp at hx,rfl⟩⟩
theorem rl_nil(s:St):b2p s [] []=True:=rfl
theorem rl_cons(s:St)(x:AR)(xs:List AR)(c:AV)(cs:List AV):b2p s (x::xs) (c::cs)=((∃ c',arR s x c'∧c=c'.alias)∧b2p s xs cs):=rfl
section
variable (K:St→Prop) (Q:AExit→St→Prop) (s:St) (id:Nat) (rs:List AR) (r:AV)
theorem th_n:a9K K Q .normal=K:=rfl
theorem th_r:a9K K Q .ret=Q .ret:=rfl
theorem th_e:a9K K Q (.exit id)=Q (.exit id):=rfl
theorem bl_n:a7g id Q .normal=Q .normal:=rfl
theorem bl_r:a7g id Q .ret=Q .ret:=rfl
theorem bl_e(i:Nat):a7g id Q (.exit i) s=if i=id then Q .normal s else Q (.exit i) s:=rfl
theorem rq_n:b5B rs r .normal s=a1a s rs r:=rfl
theorem rq_r:b5B rs r .ret s=a1a s rs r:=rfl
theorem rq_e:b5B rs r (.exit id) s=False:=rfl
theorem st0_eq(xs:List AV):st0 xs=⟨lk (num 0 (xs.map AV.alias)),lk []⟩:=rfl
end
theorem b_addf(k:IntKind)(a b:Int):a1b .add (.int k a) (.int k b)=fun r=>r=.int k (k.wrap (a+b)):=funext fun r=>b7G k a b r
theorem b_subf(k:IntKind)(a b:Int):a1b .sub (.int k a) (.int k b)=fun r=>r=.int k (k.wrap (a - b)):=funext fun r=>b7R k a b r
theorem b_mulf(k:IntKind)(a b:Int):a1b .mul (.int k a) (.int k b)=fun r=>r=.int k (k.wrap (a * b)):=funext fun r=>b7N k a b r
theorem b_orf(k:IntKind)(a b:Int):a1b .or (.int k a) (.int k b)=fun r=>r=.int k (k.wrap ((BitVec.ofInt k.bits a ||| BitVec.ofInt k.bits b).toNat)):=funext fun r=>by simp[a1b]
theorem b_andf(k:IntKind)(a b:Int):a1b .and (.int k a) (.int k b)=fun r=>r=.int k (k.wrap ((BitVec.ofInt k.bits a &&& BitVec.ofInt k.bits b).toNat)):=funext fun r=>by simp[a1b]
theorem b_xorf(k:IntKind)(a b:Int):a1b .xor (.int k a) (.int k b)=fun r=>r=.int k (k.wrap ((BitVec.ofInt k.bits a ^^^ BitVec.ofInt k.bits b).toNat)):=funext fun r=>by simp[a1b]
theorem b_andNotf(k:IntKind)(a b:Int):a1b .andNot (.int k a) (.int k b)=fun r=>r=.int k (k.wrap ((BitVec.ofInt k.bits a &&& ~~~BitVec.ofInt k.bits b).toNat)):=funext fun r=>by simp[a1b]
theorem b_shlf(k k':IntKind)(a b:Int):a1b .shl (.int k a) (.int k' b)=fun r=>(0≤b∧r=.int k (k.wrap (a * 2 ^ (min b.toNat k.bits)))):=funext fun r=>by simp[a1b]
theorem b_shrf(k k':IntKind)(a b:Int):a1b .shr (.int k a) (.int k' b)=fun r=>(0≤b∧r=.int k (a.fdiv (2 ^ (min b.toNat k.bits)))):=funext fun r=>by simp[a1b]
theorem b_quof(k:IntKind)(a b:Int):a1b .quo (.int k a) (.int k b)=fun r=>(b≠0∧r=.int k (k.wrap (a.tdiv b))):=funext fun r=>b7P k a b r
theorem b_remf(k:IntKind)(a b:Int):a1b .rem (.int k a) (.int k b)=fun r=>(b≠0∧r=.int k (a.tmod b)):=funext fun r=>b7Q k a b r
theorem b_eqlf(k:IntKind)(a b:Int):a1b .eql (.int k a) (.int k b)=fun r=>r=.bool (decide (a=b)):=funext fun r=>b7I k a b r
theorem b_neqf(k:IntKind)(a b:Int):a1b .neq (.int k a) (.int k b)=fun r=>r=.bool (!decide (a=b)):=funext fun r=>b7O k a b r
theorem b_lssf(k:IntKind)(a b:Int):a1b .lss (.int k a) (.int k b)=fun r=>r=.bool (decide (a<b)):=funext fun r=>b7M k a b r
theorem b_leqf(k:IntKind)(a b:Int):a1b .leq (.int k a) (.int k b)=fun r=>r=.bool (decide (a≤b)):=funext fun r=>b7L k a b r
theorem b_gtrf(k:IntKind)(a b:Int):a1b .gtr (.int k a) (.int k b)=fun r=>r=.bool (decide (b<a)):=funext fun r=>b7K k a b r
theorem b_geqf(k:IntKind)(a b:Int):a1b .geq (.int k a) (.int k b)=fun r=>r=.bool (decide (b≤a)):=funext fun r=>b7J k a b r
theorem b_catf(a b:List UInt8):a1b .add (.str a) (.str b)=fun r=>(a.length+b.length≤9223372036854775807∧r=.str (a++b)):=funext fun r=>b7H a b r
theorem b_seqlf(a b:List UInt8):a1b .eql (.str a) (.str b)=fun r=>r=.bool (decide (a=b)):=funext fun r=>b5M a b r
theorem b_sneqf(a b:List UInt8):a1b .neq (.str a) (.str b)=fun r=>r=.bool (!decide (a=b)):=funext fun r=>b5O a b r
theorem b_sgtrf(a b:List UInt8):a1b .gtr (.str a) (.str b)=fun r=>r=.bool (!(Op.bytesLess a b||decide (a=b))):=funext fun r=>by simp[a1b]
theorem b_sgeqf(a b:List UInt8):a1b .geq (.str a) (.str b)=fun r=>r=.bool (!Op.bytesLess a b):=funext fun r=>by simp[a1b]
theorem b_slssf(a b:List UInt8):a1b .lss (.str a) (.str b)=fun r=>r=.bool (Op.bytesLess a b):=funext fun r=>b5N a b r
theorem be_ff(a b:Bool):b4k false (.bool a) (.bool b)=fun r=>r=.bool (decide (a=b)):=funext fun r=>b9Q a b r
theorem be_tf(a b:Bool):b4k true (.bool a) (.bool b)=fun r=>r=.bool (!decide (a=b)):=funext fun r=>b9R a b r
theorem u_notf(b:Bool):unR .not (.bool b)=fun r=>r=.bool (!b):=funext fun r=>b9i b r
theorem u_xorf(k:IntKind)(n:Int):unR .xor (.int k n)=fun r=>r=.int k (k.wrap ((BitVec.ofInt k.bits (if k.signed then -1 else k.max) ^^^ BitVec.ofInt k.bits n).toNat)):=rfl
theorem u_negf(k:IntKind)(n:Int):unR .neg (.int k n)=fun r=>r=.int k (k.wrap (0 - n)):=funext fun r=>b9h k n r
theorem l_onef(c:AV)(cs:List AV):ldR none (c::cs)=fun r=>r=c.alias:=funext fun r=>l_one c cs r
theorem l_allf(n:Nat)(cs:List AV):ldR (some n) cs=fun r=>(n≤cs.length∧r=.agg (cs.take n)):=funext fun r=>l_all n cs r
theorem f_rof(off:Nat)(cs:List AV):b0V off (.ro cs)=fun r=>r=.ro (cs.drop off):=funext fun r=>b9T off cs r
theorem f_ptrf(off b o:Nat):b0V off (.ptr b o)=fun r=>r=.ptr b (o+off):=funext fun r=>b7T off b o r
theorem n_strf(l:List UInt8):b0G true (.str l)=fun r=>r=.int .i64 l.length:=funext fun r=>b8h l r
theorem n_slf(o:Option Nat)(sz:Nat)(els:List (List AV)):b0G false (.sl o sz els)=fun r=>r=.int .i64 els.length:=funext fun r=>b9Y o sz els r
theorem n_oslf(b off n:Nat):b0G false (.osl b off n)=fun r=>r=.int .i64 n:=funext fun r=>b8g b off n r
theorem al_hsl(g e sz n cap:Nat):AV.alias (.hsl g e sz n cap)=.hsl g e sz n cap:=rfl
theorem ce_hsl(g e sz n cap:Nat):AV.cells (.hsl g e sz n cap)=[.hsl g e sz n cap]:=rfl
theorem so_hsl(g e sz n cap:Nat):AV.store (.hsl g e sz n cap)=.hsl g e sz n cap:=rfl
theorem tk_hsl(d:Option Nat)(i:Nat)(s:St)(g e sz n cap:Nat):a8B d i s (.hsl g e sz n cap)=s.put d (.hsl g e sz n cap):=rfl
theorem ldE_hsl(s:St)(d:Option Nat)(b off:Nat)(cs:List AV)(g e sz n cap:Nat):ldE s d b off cs (.hsl g e sz n cap)=s.put d (.hsl g e sz n cap):=rfl
theorem stE_hsl(s:St)(i b off:Nat)(cs:List AV)(g e sz n cap:Nat):stE s i b off cs (.hsl g e sz n cap)={ s with o:=upd s.o b (some (splice cs off [.hsl g e sz n cap])) }:=rfl
theorem al_hss(g sz a m:Nat):AV.alias (.hss g sz a m)=.hss g sz a m:=rfl
theorem al_hnil(e sz:Nat):AV.alias (.hnil e sz)=.hnil e sz:=rfl
theorem ce_hnil(e sz:Nat):AV.cells (.hnil e sz)=[.hnil e sz]:=rfl
theorem so_hnil(e sz:Nat):AV.store (.hnil e sz)=.hnil e sz:=rfl
theorem tk_hnil(d:Option Nat)(i:Nat)(s:St)(e sz:Nat):a8B d i s (.hnil e sz)=s.put d (.hnil e sz):=rfl
theorem ldE_hnil(s:St)(d:Option Nat)(b off:Nat)(cs:List AV)(e sz:Nat):ldE s d b off cs (.hnil e sz)=s.put d (.hnil e sz):=rfl
theorem stE_hnil(s:St)(i b off:Nat)(cs:List AV)(e sz:Nat):stE s i b off cs (.hnil e sz)={ s with o:=upd s.o b (some (splice cs off [.hnil e sz])) }:=rfl
theorem n_hsl(g e sz n cap:Nat):b0G false (.hsl g e sz n cap)=fun r=>r=.int .i64 n:=rfl
theorem n_hss(g sz a m:Nat):b0G false (.hss g sz a m)=fun r=>r=.int .i64 m:=rfl
theorem n_hnil(e sz:Nat):b0G false (.hnil e sz)=fun r=>r=.int .i64 0:=rfl
theorem i_hsl(size g e len cap:Nat)(k:IntKind)(n:Int):b1p size (.hsl g e size len cap) (.int k n)=fun r=>((0≤n∧n<len)∧r=.ptr g (n.toNat * size)):=funext fun r=>by simp[b1p]
theorem i_hss(size g a len:Nat)(k:IntKind)(n:Int):b1p size (.hss g size a len) (.int k n)=fun r=>((0≤n∧n<len)∧r=.ptr g ((a+n.toNat) * size)):=funext fun r=>by simp[b1p]
theorem hl_hsl(g e sz n cap:Nat):a6q (.hsl g e sz n cap)=n:=rfl
theorem hl_hss(g sz a m:Nat):a6q (.hss g sz a m)=m:=rfl
theorem hl_sl(o:Option Nat)(sz:Nat)(l:List (List AV)):a6q (.sl o sz l)=l.length:=rfl
theorem hl_hnil(e sz:Nat):a6q (.hnil e sz)=0:=rfl
theorem hs_hsl0(size g e n cap a b:Nat):a5D size true (.hsl g e size n cap) a b=fun r=>((a=0∧b≤n)∧r=.hsl g e size b cap):=funext fun r=>by simp[a5D]
theorem hs_hsl1(size g e n cap a b:Nat):a5D size false (.hsl g e size n cap) a b=fun r=>((a≤b∧b≤n)∧r=.hss g size a (b - a)):=funext fun r=>by simp[a5D]
theorem hs_hss(nl:Bool)(size g a0 m a b:Nat):a5D size nl (.hss g size a0 m) a b=fun r=>((a≤b∧b≤m)∧r=.hss g size (a0+a) (b - a)):=funext fun r=>by cases nl<;>simp[a5D]
theorem hs_sl(nl:Bool)(size:Nat)(o:Option Nat)(l:List (List AV))(a b:Nat):a5D size nl (.sl o size l) a b=fun r=>((a≤b∧b≤l.length)∧r=.sl none size ((l.take b).drop a)):=funext fun r=>by cases nl<;>simp[a5D]
theorem hs_hnil(nl:Bool)(size e sz a b:Nat):a5D size nl (.hnil e sz) a b=fun r=>((a=0∧b=0)∧r=.hnil e sz):=funext fun r=>by cases nl<;>simp[a5D]
theorem op_none:(none:Option Opd).isNone=true:=rfl
theorem op_some(x:Opd):(some x).isNone=false:=rfl
theorem i_oslf(size b off len:Nat)(k:IntKind)(n:Int):b1p size (.osl b off len) (.int k n)=fun r=>((0≤n∧n<len)∧r=.ptr b (off+n.toNat * size)):=funext fun r=>b7W size b off len k n r
theorem tk_osl(d:Option Nat)(i:Nat)(s:St)(b o n:Nat):a8B d i s (.osl b o n)=s.put d (.osl b o n):=rfl
theorem i_slf(size:Nat)(o:Option Nat)(els:List (List AV))(k:IntKind)(n:Int):b1p size (.sl o size els) (.int k n)=fun r=>((0≤n∧n<els.length)∧r=.ro (els.getD n.toNat [])):=funext fun r=>b9V size o els k n r
theorem i_strf(l:List UInt8)(k:IntKind)(n:Int):b5j (.str l) (.int k n)=fun r=>((0≤n∧n<l.length)∧r=.int .u8 ((l.getD n.toNat 0).toNat:Int)):=funext fun r=>b7X l k n r
theorem a_appf(e size bytes:Nat)(o:Option Nat)(els news:List (List AV)):b7l e size bytes (.sl (some e) size els) (.sl o size news)=fun r=>(((els.length+news.length) * bytes≤140737488355328∧els.length+news.length≤maxLen)∧r=.sl (some e) size (els++news)):=funext fun r=>b7C e size bytes o els news r
theorem fv_aggf(off:Nat)(n:Option Nat)(cs:List AV):b4v off n (.agg cs)=fun r=>(off<cs.length∧ldR n (cs.drop off) r):=funext fun r=>b6c off n cs r
theorem x_tup0f(c:AV)(cs:List AV):b2D 0 (.tup (c::cs))=fun r=>r=c.alias:=funext fun r=>b7h c cs r
theorem x_tupsf(j:Nat)(c:AV)(cs:List AV):b2D (j+1) (.tup (c::cs))=b2D j (.tup cs):=funext fun r=>b7i j c cs r
theorem nc_rof(cs:List AV):b1z (.ro cs)=fun r=>r=.ro cs:=funext fun r=>b8i cs r
theorem nc_ptrf(b o:Nat):b1z (.ptr b o)=fun r=>r=.ptr b o:=funext fun r=>b6g b o r
theorem sc_strf(l:List UInt8)(a b:Nat):b5D none (.str l) a b=fun r=>((a≤b∧b≤l.length)∧r=.str ((l.take b).drop a)):=funext fun r=>b6P l a b r
theorem sc_slf(size:Nat)(o:Option Nat)(l:List (List AV))(a b:Nat):b5D (some size) (.sl o size l) a b=fun r=>((a≤b∧b≤l.length)∧r=.sl none size ((l.take b).drop a)):=funext fun r=>b8Z size o l a b r
theorem cv_intf(k k':IntKind)(n:Int):b4l k (.int k' n)=fun r=>r=.int k (k.wrap n):=funext fun r=>b5Q k k' n r
theorem ss_strf(l:List UInt8):b8x (.str l)=fun r=>r=.str l:=funext fun r=>b6S l r
theorem fl_nilf(cs:List AV):a3X cs []=fun r=>r=cs:=funext fun r=>b5Y cs r
theorem fl_consf(cs:List AV)(off n:Nat)(v:AV)(rest:List (Nat × Nat × AV)):a3X cs ((off,n,v)::rest)=fun r=>((v.cells.length=n∧0<n∧off+n≤cs.length)∧a3X (splice cs off v.cells) rest r):=funext fun r=>b4u cs off n v rest r

theorem ai_ptr(n size b off:Nat)(k:IntKind)(m:Int):b4f n size (.ptr b off) (.int k m)=fun r=>((0≤m∧m<(n:Int))∧r=.ptr b (off+m.toNat * size)):=funext fun r=>rfl
theorem ai_ro(n size:Nat)(cs:List AV)(k:IntKind)(m:Int):b4f n size (.ro cs) (.int k m)=fun r=>((0≤m∧m<(n:Int))∧r=.ro (cs.drop (m.toNat * size))):=funext fun r=>rfl

def LeL{α:Type}:List (Nat × α)→(Nat→Option α)→Prop
 | [],_=>True
 | (k,v)::r,f=>f k=some v∧LeL r f
theorem LeL_ok{α:Type}{f:Nat→Option α}:∀ {l:List (Nat × α)},LeL l f→∀ i v,lk l i=some v→f i=some v
 | [],_,i,v,h=>by simp[lk]at h
 | (k,w)::r,⟨h1,h2⟩,i,v,h=>by
  rw[lk_cons]at h
  by_cases hk:i=k
  ·subst hk;rw[if_pos rfl]at h;rw[h1,h]
  ·rw[if_neg hk]at h;exact LeL_ok h2 i v h
theorem Le_lit{a:List (Nat × AV)}{b:List (Nat × List AV)}{s:St}(h:LeL a s.t∧LeL b s.o):Le ⟨lk a,lk b⟩ s:=⟨LeL_ok h.1,LeL_ok h.2⟩
theorem leK_lit{a:List (Nat × AV)}{b:List (Nat × List AV)}{s:St}(h:LeL a s.t∧LeL b s.o):leK ⟨lk a,lk b⟩ s:=Le_lit h
theorem Round_lit{α:Type}{inv:α→St}{phi:α→Prop}{m:α→Nat}{x:α}{s:St}(x':α)(h:Le (inv x') s∧phi x'∧m x'<m x):RoundQ inv phi m x s:=⟨x',h⟩

theorem Fact_lt{a b:Int}(h:a0d (decide (a<b)=true)):a<b:=of_decide_eq_true h
theorem Fact_nlt{a b:Int}(h:a0d (decide (a<b)=false)):b≤a:=Int.not_lt.1 (of_decide_eq_false h)
theorem Fact_le{a b:Int}(h:a0d (decide (a≤b)=true)):a≤b:=of_decide_eq_true h
theorem Fact_nle{a b:Int}(h:a0d (decide (a≤b)=false)):b<a:=Int.not_le.1 (of_decide_eq_false h)
theorem w64{x:Int}(h : -9223372036854775808≤x∧x≤9223372036854775807):IntKind.i64.wrap x=x:=by rw[IntKind.wrap_i64];omega
theorem ar_cellf(s:St)(i:Nat)(n:Option Nat)(r:AV):arR s (.cell i n) r=K1 (s.t i) (fun p=>KL (view s.o p) (fun cs=>ldR n cs r)):=by
 apply propext
 exact ⟨fun ⟨p,cs,h1,h2,h3⟩=>⟨p,h1,cs,h2,h3⟩,fun ⟨p,h1,cs,h2,h3⟩=>⟨p,cs,h1,h2,h3⟩⟩

theorem ldE_own(s:St)(d:Option Nat)(b off:Nat)(cs:List AV)(e sz:Nat)(els:List (List AV)):ldE s d b off cs (.sl (some e) sz els)=St.put { s with o:=upd s.o b (some (splice cs off [.sl none sz els])) } d (.sl (some e) sz els):=rfl
theorem ldE_none(s:St)(d:Option Nat)(b off:Nat)(cs:List AV)(sz:Nat)(els:List (List AV)):ldE s d b off cs (.sl none sz els)=s.put d (.sl none sz els):=rfl
theorem ldE_nils(s:St)(d:Option Nat)(b off:Nat)(cs:List AV)(e sz:Nat):ldE s d b off cs (.nils e sz)=s.put d (.sl (some e) sz []):=rfl
theorem stE_own(s:St)(i b off:Nat)(cs:List AV)(e sz:Nat)(els:List (List AV)):stE s i b off cs (.sl (some e) sz els)=⟨upd s.t i (some (.sl none sz els)),upd s.o b (some (splice cs off [.sl (some e) sz els]))⟩:=rfl
theorem stE_none(s:St)(i b off:Nat)(cs:List AV)(sz:Nat)(els:List (List AV)):stE s i b off cs (.sl none sz els)=⟨s.t,upd s.o b (some (splice cs off [.sl none sz els]))⟩:=rfl
theorem ce_sln(o:Option Nat)(sz:Nat)(els:List (List AV)):(AV.cells (.sl o sz els)).length=1:=rfl
theorem lk_sub1{b:Nat}{cs:List AV}{o:Nat→Option (List AV)}(h:o b=some cs):∀ b' cs',lk [(b,cs)] b'=some cs'→o b'=some cs':=by
 intro b' cs' h'
 rw[lk_cons]at h'
 by_cases hb:b'=b
 ·subst hb;rw[if_pos rfl]at h';rw[h,h']
 ·rw[if_neg hb]at h';cases h'
section
variable (s:St) (rs:List AR) (o1:Nat→Option (List AV)) (Q:AV→(Nat→Option (List AV))→Prop) (i:Nat)
theorem r2_n:b0P rs o1 Q .normal s=b0U s rs o1 Q:=rfl
theorem r2_r:b0P rs o1 Q .ret s=b0U s rs o1 Q:=rfl
theorem r2_e:b0P rs o1 Q (.exit i) s=False:=rfl
end
theorem lk_hd{α:Type}(b:Nat)(x:α)(r:List (Nat × α)):lk ((b,x)::r) b=some x:=by simp[lk]
theorem lk_tl{α:Type}{b k:Nat}{x y:α}{r:List (Nat × α)}(h:¬ b=k)(g:lk r b=some x):lk ((k,y)::r) b=some x:=by simp[lk,h,g]
theorem dom1{α:Type}{b:Nat}{c c':α}:∀ b' cs,lk [(b,c)] b'=some cs→∃ cs',lk [(b,c')] b'=some cs':=by
 intro b' cs h
 rw[lk_cons]at h ⊢
 by_cases hb:b'=b
 ·rw[if_pos hb];exact ⟨_,rfl⟩
 ·rw[if_neg hb]at h;cases h
theorem put_lk(t:List (Nat × AV))(o:Nat→Option (List AV))(d:Nat)(v:AV):St.put ⟨lk t,o⟩ (some d) v=⟨lk ((d,v)::t),o⟩:=by
 simp only[St.put,St.mk.injEq,and_true]
 funext j
 rfl
theorem ro_mk{s:St}{rs:List AR}{o1 o2:List (Nat × List AV)}{r:AV}(h:a1a s rs r∧LeL o2 s.o)(hd:∀ b cs,lk o1 b=some cs→∃ cs',lk o2 b=some cs'):b0U s rs (lk o1) (fun r' o'=>r'=r∧o'=lk o2):=
 ⟨r,h.1,lk o2,LeL_ok h.2,hd,rfl,rfl⟩
theorem ro_new{s:St}{rs:List AR}{b:Nat}{cs:List AV}(h:a1a s rs (.ptr b 0)∧LeL [(b,cs)] s.o):b0U s rs (fun _=>none) (fun r' o'=>∃ b,r'=.ptr b 0∧o'=lk [(b,cs)]):=
 ⟨_,h.1,_,LeL_ok h.2,(fun b cs e=>by cases e),b,rfl,rfl⟩
section
variable {P:Program} {d:Option Nat} {s:St} {K:St→Prop}
theorem kW_mx(x y:Opd):kW P d (.mx x y) s K=K1 (x.ev s) (bi1K b8b y d s K):=by
 apply propext
 constructor
 ·rintro ⟨r,⟨a,b,h1,h2,h3⟩,h4⟩;exact ⟨a,h1,b,h2,r,h3,h4⟩
 ·rintro ⟨a,h1,b,h2,r,h3,h4⟩;exact ⟨r,⟨a,b,h1,h2,h3⟩,h4⟩
theorem mx_int(k k':IntKind)(a b:Int):b8b (.int k a) (.int k' b)=fun r=>r=.int k (if a<b then b else a):=rfl
def b6s(neg:Bool):AV→AV→Prop
 | .ptr _ _,r=>r=.bool neg
 | .ro _,r=>r=.bool neg
 | .nilp,r=>r=.bool !neg
 | .nilT _,r=>r=.bool !neg
 | _,_=>False
theorem kW_peq(neg:Bool)(x:Opd):kW P d (.peq neg x) s K=K1 (x.ev s) (un1K (b6s neg) d s K):=by
 apply propext
 constructor
 ·rintro ⟨r,⟨a,b,h1,h2,rfl⟩,h3⟩
  refine ⟨a,h1,_, ?_,h3⟩
  cases a<;>simp only[b1r,Option.some.injEq,reduceCtorEq]at h2<;>subst h2<;>cases neg<;>rfl
 ·rintro ⟨a,h1,r,h2,h3⟩
  cases a<;>try exact h2.elim
  all_goals (have h2':=h2;simp only[b6s]at h2';subst h2';exact ⟨_,⟨_,_,h1,rfl,by cases neg<;>rfl⟩,h3⟩)
theorem pe_ptr(neg:Bool)(b o:Nat):b6s neg (.ptr b o)=fun r=>r=.bool neg:=rfl
theorem pe_ro(neg:Bool)(cs:List AV):b6s neg (.ro cs)=fun r=>r=.bool neg:=rfl
theorem pe_nilp(neg:Bool):b6s neg .nilp=fun r=>r=.bool !neg:=rfl
def b5L(e size bytes:Nat):AV→AV→Prop
 | .sl _ sz news,r=>sz=size∧(news.length * bytes≤140737488355328∧news.length≤maxLen)∧r=.sl (some e) size news
 | _,_=>False
theorem kW_app0(e size bytes:Nat)(x:Opd):kW P d (.app0 e size bytes x) s K=K1 (x.ev s) (un1K (b5L e size bytes) d s K):=by
 apply propext
 constructor
 ·rintro ⟨r,⟨own,news,h1,h2,h3,rfl⟩,h4⟩;exact ⟨_,h1,_,⟨rfl,⟨h2,h3⟩,rfl⟩,h4⟩
 ·rintro ⟨p,h1,r,h2,h3⟩
  cases p<;>try exact h2.elim
  obtain ⟨rfl,⟨h4,h5⟩,rfl⟩:=h2
  exact ⟨_,⟨_,_,h1,h4,h5,rfl⟩,h3⟩
theorem a0_sl(e size bytes:Nat)(own:Option Nat)(sz:Nat)(news:List (List AV)):b5L e size bytes (.sl own sz news)=fun r=>sz=size∧(news.length * bytes≤140737488355328∧news.length≤maxLen)∧r=.sl (some e) size news:=rfl
def mkmK(d:Option Nat)(s:St)(K:St→Prop)(b:Nat):Prop:=KS (St.put { s with o:=upd s.o b (some [.mp [] [] [] 0]) } d (.mapv b)) K
theorem kW_mkm:kW P d .mkm s K=b0z s.o (mkmK d s K):=rfl
def KF(o:Option (Option Nat))(K:Option Nat→Prop):Prop:=∃ f,o=some f∧K f
theorem KF_some(f:Option Nat)(K:Option Nat→Prop):KF (some f) K=K f:=by simp[KF]
def mqV(z:AV)(ok:Bool)(vl:List AV):Option Nat→AV
 | some i=>if ok then .tup [vl.getD i .undef,.bool true] else (vl.getD i .undef).alias
 | none=>if ok then .tup [z,.bool false] else z.alias
theorem mqV_st(z:AV)(vl:List AV)(i:Nat):mqV z true vl (some i)=.tup [vl.getD i .undef,.bool true]:=rfl
theorem mqV_sf(z:AV)(vl:List AV)(i:Nat):mqV z false vl (some i)=(vl.getD i .undef).alias:=rfl
theorem mqV_nt(z:AV)(vl:List AV):mqV z true vl none=.tup [z,.bool false]:=rfl
theorem mqV_nf(z:AV)(vl:List AV):mqV z false vl none=z.alias:=rfl
def mq5(z:AV)(ok:Bool)(vl:List AV)(d:Option Nat)(s:St)(K:St→Prop)(f:Option Nat):Prop:=KS (s.put d (mqV z ok vl f)) K
def mq6(z:AV)(ok:Bool)(d:Option Nat)(s:St)(K:St→Prop):Option Nat→Prop
 | none=>KS (s.put d (mqV z ok [] none)) K
 | some _=>False
theorem mq6_n(z:AV)(ok:Bool):mq6 z ok d s K none=KS (s.put d (mqV z ok [] none)) K:=rfl
def mq4(z:AV)(ok:Bool)(ks:List Kd)(ag:Bool)(k:AV)(d:Option Nat)(s:St)(K:St→Prop):List AV→Prop
 | [.mp kl vl _ _]=>KF (a0S ks ag k kl) (mq5 z ok vl d s K)
 | _=>False
theorem mq_mp(z:AV)(ok:Bool)(ks:List Kd)(ag:Bool)(k:AV)(kl vl:List AV)(bs:List Nat)(clk:Nat):mq4 z ok ks ag k d s K [.mp kl vl bs clk]=KF (a0S ks ag k kl) (mq5 z ok vl d s K):=rfl
def mq3(z:AV)(ok:Bool)(ks:List Kd)(ag:Bool)(d:Option Nat)(s:St)(K:St→Prop):AV→AV→Prop
 | .mapv b,k=>KL (s.o b) (mq4 z ok ks ag k d s K)
 | .rom kl vl,k=>KF (a0S ks ag k kl) (mq5 z ok vl d s K)
 | .nilm,k=>KF (a0S ks ag k []) (mq6 z ok d s K)
 | _,_=>False
theorem mq_rom(z:AV)(ok:Bool)(ks:List Kd)(ag:Bool)(kl vl:List AV)(k:AV):mq3 z ok ks ag d s K (.rom kl vl) k=KF (a0S ks ag k kl) (mq5 z ok vl d s K):=rfl
theorem mq_nilm(z:AV)(ok:Bool)(ks:List Kd)(ag:Bool)(k:AV):mq3 z ok ks ag d s K .nilm k=KF (a0S ks ag k []) (mq6 z ok d s K):=rfl
theorem mq_mapv(z:AV)(ok:Bool)(ks:List Kd)(ag:Bool)(b:Nat)(k:AV):mq3 z ok ks ag d s K (.mapv b) k=KL (s.o b) (mq4 z ok ks ag k d s K):=rfl
def mq1(z:AV)(ok:Bool)(ks:List Kd)(ag:Bool)(y:Opd)(d:Option Nat)(s:St)(K:St→Prop)(p:AV):Prop:=K1 (y.ev s) (mq3 z ok ks ag d s K p)
theorem kW_mq(z:AV)(ok:Bool)(ks:List Kd)(ag:Bool)(x y:Opd):kW P d (.mq z ok ks ag x y) s K=K1 (x.ev s) (mq1 z ok ks ag y d s K):=by
 apply propext
 constructor
 ·rintro ⟨r,⟨a,b,h1,h2,h3⟩,h4⟩
  cases a<;>try exact h3.elim
  ·obtain ⟨kl,vl,bs,clk,f,g1,g2,rfl⟩:=h3
   exact ⟨_,h1,_,h2,_,g1,f,g2,by cases f<;>exact h4⟩
  ·obtain ⟨g2,rfl⟩:=h3
   exact ⟨_,h1,_,h2,none,g2,h4⟩
  ·obtain ⟨f,g2,rfl⟩:=h3
   exact ⟨_,h1,_,h2,f,g2,by cases f<;>exact h4⟩
 ·rintro ⟨a,h1,b,h2,h3⟩
  cases a<;>try exact h3.elim
  ·obtain ⟨cs,g1,h3⟩:=h3
   unfold mq4 at h3
   split at h3
   ·obtain ⟨f,g2,h4⟩:=h3
    exact ⟨_,⟨_,_,h1,h2,_,_,_,_,f,g1,g2,rfl⟩,by cases f<;>exact h4⟩
   ·exact h3.elim
  ·obtain ⟨f,g2,h4⟩:=h3
   cases f with
   | none=>exact ⟨_,⟨_,_,h1,h2,g2,rfl⟩,h4⟩
   | some i=>exact h4.elim
  ·obtain ⟨f,g2,h4⟩:=h3
   exact ⟨_,⟨_,_,h1,h2,f,g2,rfl⟩,by cases f<;>exact h4⟩
def muK(b:Nat)(d:Option Nat)(s:St)(K:St→Prop)(x:Option (AV × List AV)):Prop:=∃ y,x=some y∧KS (St.put { s with o:=upd s.o b (some y.2) } d y.1) K
theorem muK_some(b:Nat)(r:AV)(cs:List AV):muK b d s K (some (r,cs))=KS (St.put { s with o:=upd s.o b (some cs) } d r) K:=by simp[muK]
def mu5(q:Nat)(z:AV)(ks:List Kd)(ag:Bool)(b:Nat)(k v:AV)(d:Option Nat)(s:St)(K:St→Prop)(cs:List AV):Prop:=muK b d s K (muF q z ks ag k v cs)
def mu4(q:Nat)(z:AV)(ks:List Kd)(ag:Bool)(d:Option Nat)(s:St)(K:St→Prop):AV→AV→AV→Prop
 | .mapv b,k,v=>KL (s.o b) (mu5 q z ks ag b k v d s K)
 | _,_,_=>False
theorem mu_mapv(q:Nat)(z:AV)(ks:List Kd)(ag:Bool)(b:Nat)(k v:AV):mu4 q z ks ag d s K (.mapv b) k v=KL (s.o b) (mu5 q z ks ag b k v d s K):=rfl
def mu2(q:Nat)(z:AV)(ks:List Kd)(ag:Bool)(v:Opd)(p:AV)(d:Option Nat)(s:St)(K:St→Prop)(k:AV):Prop:=K1 (v.ev s) (mu4 q z ks ag d s K p k)
def mu1(q:Nat)(z:AV)(ks:List Kd)(ag:Bool)(k v:Opd)(d:Option Nat)(s:St)(K:St→Prop)(p:AV):Prop:=K1 (k.ev s) (mu2 q z ks ag v p d s K)
theorem kW_mu(q:Nat)(z:AV)(ks:List Kd)(ag:Bool)(m k v:Opd):kW P d (.mu q z ks ag m k v) s K=K1 (m.ev s) (mu1 q z ks ag k v d s K):=by
 apply propext
 constructor
 ·rintro ⟨r,⟨b,cs,h⟩,hK⟩
  obtain ⟨kv,vv,kl,vl,bs,clk,e1,e2,e3,e4,e5⟩:=muS_some h
  simp only[eff,h]at hK
  exact ⟨_,e1,_,e2,_,e3,_,e4,(r,cs),e5,hK⟩
 ·rintro ⟨p,e1,kv,e2,vv,e3,h⟩
  cases p<;>try exact h.elim
  rename_i b
  obtain ⟨cs0,e4,⟨r,cs⟩,e5,hK⟩:=h
  have hm:muS s q z ks ag m k v=some (b,r,cs):=by simp only[muS,e1,e2,e3,e4,Option.bind_some,e5,Option.map_some]
  refine ⟨r,⟨b,cs,hm⟩, ?_⟩
  simp only[eff,hm]
  exact hK
def b8d(k v:AV)(kl vl:List AV)(bs:List Nat)(clk:Nat):Option Nat→AV × List AV
 | some i=>(.undef,[.mp kl (vl.set i v.alias) bs clk])
 | none=>(.undef,[.mp (kl++[k.alias]) (vl++[v.alias]) (bs++[clk]) (clk+1)])
def b8e(z k:AV)(kl vl:List AV)(bs:List Nat)(clk:Nat):Option Nat→AV × List AV
 | some i=>(.tup [vl.getD i .undef,.int .i64 (bs.getD i 0:Nat)],[.mp kl vl bs clk])
 | none=>(.tup [z,.int .i64 (clk:Nat)],[.mp (kl++[k.alias]) (vl++[z]) (bs++[clk]) (clk+1)])
def b8f(kl vl:List AV)(bs:List Nat)(clk:Nat):Option Nat→AV × List AV
 | some i=>(.undef,[.mp (kl.eraseIdx i) (vl.eraseIdx i) (bs.eraseIdx i) clk])
 | none=>(.undef,[.mp kl vl bs clk])
theorem mu0_mp(z:AV)(ks:List Kd)(ag:Bool)(k v:AV)(kl vl:List AV)(bs:List Nat)(clk:Nat):muF 0 z ks ag k v [.mp kl vl bs clk]=(a0S ks ag k kl).map (b8d k v kl vl bs clk):=by
 simp only[muF];congr 1
theorem mu1_mp(z:AV)(ks:List Kd)(ag:Bool)(k v:AV)(kl vl:List AV)(bs:List Nat)(clk:Nat):muF 1 z ks ag k v [.mp kl vl bs clk]=(a0S ks ag k kl).map (b8e z k kl vl bs clk):=by
 simp only[muF];congr 1
theorem mu2_mp(z:AV)(ks:List Kd)(ag:Bool)(n:Int)(v:AV)(kl vl:List AV)(bs:List Nat)(clk:Nat):muF 2 z ks ag (.int .i64 n) v [.mp kl vl bs clk]=(a5C n bs 0).map fun i=>(.undef,[.mp kl (vl.set i v.alias) bs clk]):=rfl
theorem mu3_mp(z:AV)(ks:List Kd)(ag:Bool)(k v:AV)(kl vl:List AV)(bs:List Nat)(clk:Nat):muF 3 z ks ag k v [.mp kl vl bs clk]=(a0S ks ag k kl).map (b8f kl vl bs clk):=by
 simp only[muF];congr 1
theorem mu0_s(k v:AV)(kl vl:List AV)(bs:List Nat)(clk i:Nat):b8d k v kl vl bs clk (some i)=(.undef,[.mp kl (vl.set i v.alias) bs clk]):=rfl
theorem mu0_n(k v:AV)(kl vl:List AV)(bs:List Nat)(clk:Nat):b8d k v kl vl bs clk none=(.undef,[.mp (kl++[k.alias]) (vl++[v.alias]) (bs++[clk]) (clk+1)]):=rfl
theorem mu1_s(z k:AV)(kl vl:List AV)(bs:List Nat)(clk i:Nat):b8e z k kl vl bs clk (some i)=(.tup [vl.getD i .undef,.int .i64 (bs.getD i 0:Nat)],[.mp kl vl bs clk]):=rfl
theorem mu1_n(z k:AV)(kl vl:List AV)(bs:List Nat)(clk:Nat):b8e z k kl vl bs clk none=(.tup [z,.int .i64 (clk:Nat)],[.mp (kl++[k.alias]) (vl++[z]) (bs++[clk]) (clk+1)]):=rfl
theorem mu3_s(kl vl:List AV)(bs:List Nat)(clk i:Nat):b8f kl vl bs clk (some i)=(.undef,[.mp (kl.eraseIdx i) (vl.eraseIdx i) (bs.eraseIdx i) clk]):=rfl
theorem mu3_n(kl vl:List AV)(bs:List Nat)(clk:Nat):b8f kl vl bs clk none=(.undef,[.mp kl vl bs clk]):=rfl
def b0Y(els:List AV)(n:Nat)(K:List UInt8→Prop):Prop:=∃ l:List UInt8,els=l.map byC∧l.length=n∧K l
theorem BytesO_intro{els:List AV}{n:Nat}{K:List UInt8→Prop}(l:List UInt8)(h:els=l.map byC)(hl:l.length=n)(hK:K l):b0Y els n K:=⟨l,h,hl,hK⟩
def b7F(off n:Nat)(d:Option Nat)(s:St)(K:St→Prop)(cs:List AV):Prop:=b0Y ((cs.drop off).take n) n (strK d s K)
theorem b2oL_mk(off n:Nat)(cs:List AV):b7F off n d s K cs=b0Y ((cs.drop off).take n) n (strK d s K):=rfl
def b7E(d:Option Nat)(s:St)(K:St→Prop):AV→Prop
 | .sl _ sz els=>sz=1∧a8q els (strK d s K)
 | .osl b off n=>KL (s.o b) (b7F off n d s K)
 | _=>False
theorem b2o_sl(o:Option Nat)(sz:Nat)(els:List (List AV)):b7E d s K (.sl o sz els)=(sz=1∧a8q els (strK d s K)):=rfl
theorem b2o_osl(b off n:Nat):b7E d s K (.osl b off n)=KL (s.o b) (b7F off n d s K):=rfl
theorem kW_b2o(x:Opd):kW P d (.b2o x) s K=K1 (x.ev s) (b7E d s K):=by
 apply propext
 constructor
 ·rintro ⟨p,h1,h⟩
  cases p<;>try exact h.elim
  ·obtain ⟨h2,l,h3,h4⟩:=h
   exact ⟨_,h1,h2,l,h3,h4⟩
  ·obtain ⟨cs,l,h2,⟨h3,h4⟩,h5⟩:=h
   exact ⟨_,h1,cs,h2,l,h3,h4,h5⟩
 ·rintro ⟨p,h1,h⟩
  cases p<;>try exact h.elim
  ·obtain ⟨h2,l,h3,h4⟩:=h
   exact ⟨_,h1,h2,l,h3,h4⟩
  ·obtain ⟨cs,h2,l,h3,h4,h5⟩:=h
   exact ⟨_,h1,cs,l,h2,⟨h3,h4⟩,h5⟩
def c2E(d:Option Nat)(s:St)(K:St→Prop):AV→Prop
 | .osl b off n=>KL (s.o b) (b7F off n d s K)
 | _=>False
theorem b2d_osl(b off n:Nat):c2E d s K (.osl b off n)=KL (s.o b) (b7F off n d s K):=rfl
theorem kW_b2d(x:Opd):kW P d (.b2d x) s K=K1 (x.ev s) (c2E d s K):=by
 apply propext
 constructor
 ·rintro ⟨r,⟨b,off,n,cs,l,h1,h2,⟨h3,h4⟩,rfl⟩,h5⟩
  exact ⟨_,h1,cs,h2,l,h3,h4,h5⟩
 ·rintro ⟨p,h1,h⟩
  cases p<;>try exact h.elim
  obtain ⟨cs,h2,l,h3,h4,h5⟩:=h
  exact ⟨_,⟨_,_,_,cs,l,h1,h2,⟨h3,h4⟩,rfl⟩,h5⟩
def b9o(n:Nat):AV→AV→Prop
 | .ptr b off,r=>r=.osl b off n
 | _,_=>False
theorem as_ptr(n b off:Nat):b9o n (.ptr b off)=fun r=>r=.osl b off n:=rfl
theorem kW_asl(n:Nat)(x:Opd):kW P d (.asl n x) s K=K1 (x.ev s) (un1K (b9o n) d s K):=by
 apply propext
 constructor
 ·rintro ⟨r,⟨b,off,h1,h2⟩,h3⟩;exact ⟨_,h1,r,h2,h3⟩
 ·rintro ⟨p,h1,r,h3,h4⟩
  cases p<;>try exact h3.elim
  exact ⟨r,⟨_,_,h1,h3⟩,h4⟩
def b9E(e:Nat):AV→AV→Prop
 | .str l,r=>l.length≤140737488355328∧r=.sl (some e) 1 (l.map a0h)
 | _,_=>False
theorem sb_str(e:Nat)(l:List UInt8):b9E e (.str l)=fun r=>l.length≤140737488355328∧r=.sl (some e) 1 (l.map a0h):=rfl
theorem kW_s2b(e:Nat)(x:Opd):kW P d (.s2b e x) s K=K1 (x.ev s) (un1K (b9E e) d s K):=by
 apply propext
 constructor
 ·rintro ⟨r,⟨l,h1,h2⟩,h3⟩;exact ⟨_,h1,r,h2,h3⟩
 ·rintro ⟨p,h1,r,h3,h4⟩
  cases p<;>try exact h3.elim
  exact ⟨r,⟨_,h1,h3⟩,h4⟩
def rngK(m clk:Nat)(d:Option Nat)(s:St)(K:St→Prop)(b:Nat):Prop:=KS (St.put { s with o:=upd s.o b (some [.mit m clk [] clk]) } d (.itp b)) K
def b7x(m:Nat)(d:Option Nat)(s:St)(K:St→Prop):List AV→Prop
 | [.mp _ _ _ clk]=>b0z s.o (rngK m clk d s K)
 | _=>False
theorem rng_mp(m:Nat)(kl vl:List AV)(bs:List Nat)(clk:Nat):b7x m d s K [.mp kl vl bs clk]=b0z s.o (rngK m clk d s K):=rfl
def b9C(d:Option Nat)(s:St)(K:St→Prop):AV→Prop
 | .mapv m=>KL (s.o m) (b7x m d s K)
 | _=>False
theorem rng_mapv(m:Nat):b9C d s K (.mapv m)=KL (s.o m) (b7x m d s K):=rfl
theorem kW_rng(x:Opd):kW P d (.rng x) s K=K1 (x.ev s) (b9C d s K):=by
 apply propext
 constructor
 ·rintro ⟨p,h1,h⟩
  cases p<;>try exact h.elim
  obtain ⟨kl,vl,bs,clk,h2,h3⟩:=h
  exact ⟨_,h1,_,h2,h3⟩
 ·rintro ⟨p,h1,h⟩
  cases p<;>try exact h.elim
  obtain ⟨cs,h2,h3⟩:=h
  unfold b7x at h3
  split at h3
  ·exact ⟨_,h1,_,_,_,_,h2,h3⟩
  ·exact h3.elim
def b9n(b m since:Nat)(seen:List Nat)(last:Nat)(kl vl:List AV)(bs:List Nat)(clk:Nat)(d:Option Nat)(s:St)(K:St→Prop):Prop:=
 (clk=since∧last=clk)∧(∀ i n,bs[i]?=some n→n ∉ seen→KS (St.put { s with o:=upd s.o b (some [.mit m since (seen++[n]) clk]) } d (.tup [.bool true,kl.getD i .undef,vl.getD i .undef])) K)∧((∀ n∈bs,n∈seen)→KS (s.put d (.tup [.bool false])) K)
def b7v(b m since:Nat)(seen:List Nat)(last:Nat)(d:Option Nat)(s:St)(K:St→Prop):List AV→Prop
 | [.mp kl vl bs clk]=>b9n b m since seen last kl vl bs clk d s K
 | _=>False
theorem nxt_mp(b m since:Nat)(seen:List Nat)(last:Nat)(kl vl:List AV)(bs:List Nat)(clk:Nat):b7v b m since seen last d s K [.mp kl vl bs clk]=b9n b m since seen last kl vl bs clk d s K:=rfl
def b7u(b:Nat)(d:Option Nat)(s:St)(K:St→Prop):List AV→Prop
 | [.mit m since seen last]=>KL (s.o m) (b7v b m since seen last d s K)
 | _=>False
theorem nxt_mit(b m since:Nat)(seen:List Nat)(last:Nat):b7u b d s K [.mit m since seen last]=KL (s.o m) (b7v b m since seen last d s K):=rfl
def b9x(d:Option Nat)(s:St)(K:St→Prop):AV→Prop
 | .itp b=>KL (s.o b) (b7u b d s K)
 | _=>False
theorem nxt_itp(b:Nat):b9x d s K (.itp b)=KL (s.o b) (b7u b d s K):=rfl
theorem kW_nxt(x:Opd):kW P d (.nxt x) s K=K1 (x.ev s) (b9x d s K):=by
 apply propext
 constructor
 ·rintro ⟨p,h1,h⟩
  cases p<;>try exact h.elim
  obtain ⟨m,since,seen,last,kl,vl,bs,clk,h2,h3,h4⟩:=h
  exact ⟨_,h1,_,h2,_,h3,h4⟩
 ·rintro ⟨p,h1,h⟩
  cases p<;>try exact h.elim
  obtain ⟨cs,h2,h3⟩:=h
  unfold b7u at h3
  split at h3
  ·obtain ⟨cs',h4,h5⟩:=h3
   unfold b7v at h5
   split at h5
   ·exact ⟨_,h1,_,_,_,_,_,_,_,_,h2,h4,h5⟩
   ·exact h5.elim
  ·exact h3.elim
def b9m(seen:List Nat)(last:Nat)(kl vl:List AV)(bs:List Nat)(clk:Nat)(d:Option Nat)(s:St)(K:St→Prop):Prop:=clk=last∧∃ i n,seen.getLast?=some n∧bs[i]?=some n∧KS (s.put d (.tup [kl.getD i .undef,vl.getD i .undef])) K
def b7p(seen:List Nat)(last:Nat)(d:Option Nat)(s:St)(K:St→Prop):List AV→Prop
 | [.mp kl vl bs clk]=>b9m seen last kl vl bs clk d s K
 | _=>False
theorem ent_mp(seen:List Nat)(last:Nat)(kl vl:List AV)(bs:List Nat)(clk:Nat):b7p seen last d s K [.mp kl vl bs clk]=b9m seen last kl vl bs clk d s K:=rfl
def b7o(d:Option Nat)(s:St)(K:St→Prop):List AV→Prop
 | [.mit m _ seen last]=>KL (s.o m) (b7p seen last d s K)
 | _=>False
theorem ent_mit(m since:Nat)(seen:List Nat)(last:Nat):b7o d s K [.mit m since seen last]=KL (s.o m) (b7p seen last d s K):=rfl
def b9r(d:Option Nat)(s:St)(K:St→Prop):AV→Prop
 | .itp b=>KL (s.o b) (b7o d s K)
 | _=>False
theorem ent_itp(b:Nat):b9r d s K (.itp b)=KL (s.o b) (b7o d s K):=rfl
theorem kW_ent(x:Opd):kW P d (.ent x) s K=K1 (x.ev s) (b9r d s K):=by
 apply propext
 constructor
 ·rintro ⟨r,⟨p,h1,h⟩,hK⟩
  cases p<;>try exact h.elim
  obtain ⟨m,since,seen,last,kl,vl,bs,clk,i,n,h2,h3,h4,h5,h6,rfl⟩:=h
  exact ⟨_,h1,_,h2,_,h3,h4,i,n,h5,h6,hK⟩
 ·rintro ⟨p,h1,h⟩
  cases p<;>try exact h.elim
  obtain ⟨cs,h2,h3⟩:=h
  unfold b7o at h3
  split at h3
  ·obtain ⟨cs',h4,h5⟩:=h3
   unfold b7p at h5
   split at h5
   ·obtain ⟨h6,i,n,h7,h8,hK⟩:=h5
    exact ⟨_,⟨_,h1,_,_,_,_,_,_,_,_,i,n,h2,h4,h6,h7,h8,rfl⟩,hK⟩
   ·exact h5.elim
  ·exact h3.elim
end
theorem al_mapv(b:Nat):AV.alias (.mapv b)=.mapv b:=rfl
theorem ce_mapv(b:Nat):AV.cells (.mapv b)=[.mapv b]:=rfl
theorem so_mapv(b:Nat):AV.store (.mapv b)=.mapv b:=rfl
theorem al_nilm:AV.alias .nilm=.nilm:=rfl
theorem al_rom(a b:List AV):AV.alias (.rom a b)=.rom a b:=rfl
theorem ce_rom(a b:List AV):AV.cells (.rom a b)=[.rom a b]:=rfl
theorem so_rom(a b:List AV):AV.store (.rom a b)=.rom a b:=rfl
theorem ce_nilm:AV.cells .nilm=[.nilm]:=rfl
theorem so_nilm:AV.store .nilm=.nilm:=rfl
theorem al_itp(b:Nat):AV.alias (.itp b)=.itp b:=rfl
theorem ce_itp(b:Nat):AV.cells (.itp b)=[.itp b]:=rfl
end
end Go.Proofs.YtfgihnhoocnmdaaGreatDoor
