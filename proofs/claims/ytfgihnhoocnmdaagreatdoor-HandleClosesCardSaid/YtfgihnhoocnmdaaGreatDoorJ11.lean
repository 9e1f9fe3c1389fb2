import Derived.Test.YtfgihnhoocnmdaaGreatDoorJ10
namespace Go.Proofs.YtfgihnhoocnmdaaGreatDoor
set_option linter.all false
set_option maxHeartbeats 64000000
set_option maxRecDepth 100000
section
theorem lk_cons{α:Type}(k:Nat)(a:α)(r:List (Nat × α))(i:Nat):lk ((k,a)::r) i=if i=k then some a else lk r i:=rfl
theorem lk_nil{α:Type}(i:Nat):lk ([]:List (Nat × α)) i=none:=rfl
theorem pt_cons{α:Type}(k:Nat)(b:α)(r:List (Nat × α))(i:Nat)(a:α):pt ((k,b)::r) i a=if i=k then (k,a)::r else (k,b)::pt r i a:=rfl
theorem pt_nil{α:Type}(i:Nat)(a:α):pt [] i a=[(i,a)]:=rfl
theorem a4Z{α:Type}(k:Nat)(a:α)(r:List (Nat × α))(i:Nat):(lk ((k,a)::r) i=none)=(¬ i=k∧lk r i=none):=by
 rw[lk_cons]
 by_cases h:i=k<;>simp[h]
theorem Bt{α:Type}(k:Nat)(a:α)(r:List (Nat × α))(i:Nat):(lk ((k,a)::r) i=none)=((¬ i=k∧¬ k=i)∧lk r i=none):=by
 rw[a4Z]
 apply propext
 exact ⟨fun ⟨h1,h2⟩=>⟨⟨h1,fun e=>h1 e.symm⟩,h2⟩,fun ⟨h1,h2⟩=>⟨h1.1,h2⟩⟩
theorem Bu{α:Type}(i:Nat):(lk ([]:List (Nat × α)) i=none)=True:=by simp[lk]
theorem del_cons{α:Type}(k:Nat)(b:α)(r:List (Nat × α))(i:Nat):del ((k,b)::r) i=if i=k then del r i else (k,b)::del r i:=rfl
theorem del_nil{α:Type}(i:Nat):del ([]:List (Nat × α)) i=[]:=rfl
theorem num_cons{α:Type}(n:Nat)(a:α)(r:List α):num n (a::r)=(n,a)::num (n+1) r:=rfl
theorem num_nil{α:Type}(n:Nat):num n ([]:List α)=[]:=rfl

theorem al_int(k:IntKind)(n:Int):AV.alias (.int k n)=.int k n:=rfl
theorem al_bool(b:Bool):AV.alias (.bool b)=.bool b:=rfl
theorem al_str(l:List UInt8):AV.alias (.str l)=.str l:=rfl
theorem al_agg(cs:List AV):AV.alias (.agg cs)=.agg cs:=rfl
theorem al_sl(o:Option Nat)(sz:Nat)(els:List (List AV)):AV.alias (.sl o sz els)=.sl none sz els:=rfl
theorem al_ro(cs:List AV):AV.alias (.ro cs)=.ro cs:=rfl
theorem al_ptr(b o:Nat):AV.alias (.ptr b o)=.ptr b o:=rfl
theorem al_nilp:AV.alias .nilp=.nilp:=rfl
theorem al_nilT(t:Nat):AV.alias (.nilT t)=.nilp:=rfl
theorem ce_nilT(t:Nat):AV.cells (.nilT t)=[.nilp]:=rfl
theorem so_nilT(t:Nat):AV.store (.nilT t)=.nilp:=rfl
theorem al_nili:AV.alias .nili=.nili:=rfl
theorem ce_nili:AV.cells .nili=[.nili]:=rfl
theorem so_nili:AV.store .nili=.nili:=rfl
theorem al_osl(b o n:Nat):AV.alias (.osl b o n)=.osl b o n:=rfl
theorem ce_osl(b o n:Nat):AV.cells (.osl b o n)=[.osl b o n]:=rfl
theorem so_osl(b o n:Nat):AV.store (.osl b o n)=.osl b o n:=rfl
theorem al_nils(e sz:Nat):AV.alias (.nils e sz)=.sl none sz []:=rfl
theorem so_nils(e sz:Nat):AV.store (.nils e sz)=.nils e sz:=rfl
theorem so_int(k:IntKind)(n:Int):AV.store (.int k n)=.int k n:=rfl
theorem so_bool(b:Bool):AV.store (.bool b)=.bool b:=rfl
theorem so_str(l:List UInt8):AV.store (.str l)=.str l:=rfl
theorem so_sl(o:Option Nat)(sz:Nat)(els:List (List AV)):AV.store (.sl o sz els)=.sl none sz els:=rfl
theorem so_ro(cs:List AV):AV.store (.ro cs)=.ro cs:=rfl
theorem so_pt(b o:Nat):AV.store (.ptr b o)=.ptr b o:=rfl
theorem so_nilp:AV.store .nilp=.nilp:=rfl
theorem so_fn(f:Nat):AV.store (.fn f)=.fn f:=rfl
theorem so_clo(f:Nat)(cs:List AV):AV.store (.clo f cs)=.clo f cs:=rfl
theorem al_clo(f:Nat)(cs:List AV):AV.alias (.clo f cs)=.clo f cs:=rfl
theorem ce_clo(f:Nat)(cs:List AV):AV.cells (.clo f cs)=[.clo f cs]:=rfl
theorem al_fn(f:Nat):AV.alias (.fn f)=.fn f:=rfl
theorem al_tup(cs:List AV):AV.alias (.tup cs)=.tup cs:=rfl
theorem al_undef:AV.alias .undef=.undef:=rfl
theorem ce_int(k:IntKind)(n:Int):AV.cells (.int k n)=[.int k n]:=rfl
theorem ce_bool(b:Bool):AV.cells (.bool b)=[.bool b]:=rfl
theorem ce_str(l:List UInt8):AV.cells (.str l)=[.str l]:=rfl
theorem ce_agg(cs:List AV):AV.cells (.agg cs)=cs.map AV.store:=rfl
theorem ce_sl(o:Option Nat)(sz:Nat)(els:List (List AV)):AV.cells (.sl o sz els)=[.sl none sz els]:=rfl
theorem ce_ro(cs:List AV):AV.cells (.ro cs)=[.ro cs]:=rfl
theorem ce_ptr(b o:Nat):AV.cells (.ptr b o)=[.ptr b o]:=rfl
theorem ce_nilp:AV.cells .nilp=[.nilp]:=rfl
theorem tk_own(d:Option Nat)(i:Nat)(s:St)(e sz:Nat)(els:List (List AV)):Jq d i s (.sl (some e) sz els)=St.put { s with t:=upd s.t i (some (.sl none sz els)) } d (.sl (some e) sz els):=rfl
theorem tk_none(d:Option Nat)(i:Nat)(s:St)(sz:Nat)(els:List (List AV)):Jq d i s (.sl none sz els)=s.put d (.sl none sz els):=rfl
theorem tk_int(d:Option Nat)(i:Nat)(s:St)(k:IntKind)(n:Int):Jq d i s (.int k n)=s.put d (.int k n):=rfl

section
variable (k:IntKind) (a b:Int) (r:AV)
theorem a2j:A4 .add (.int k a) (.int k b) r=(r=.int k (k.wrap (a+b))):=by simp[A4]
theorem a2x:A4 .sub (.int k a) (.int k b) r=(r=.int k (k.wrap (a - b))):=by simp[A4]
theorem a2q:A4 .mul (.int k a) (.int k b) r=(r=.int k (k.wrap (a * b))):=by simp[A4]
theorem a2s:A4 .quo (.int k a) (.int k b) r=(b≠0∧r=.int k (k.wrap (a.tdiv b))):=by simp[A4]
theorem a2t:A4 .rem (.int k a) (.int k b) r=(b≠0∧r=.int k (a.tmod b)):=by simp[A4]
theorem a2l:A4 .eql (.int k a) (.int k b) r=(r=.bool (decide (a=b))):=by simp[A4]
theorem a2r:A4 .neq (.int k a) (.int k b) r=(r=.bool (!decide (a=b))):=by simp[A4]
theorem a2p:A4 .lss (.int k a) (.int k b) r=(r=.bool (decide (a<b))):=by simp[A4]
theorem a2o:A4 .leq (.int k a) (.int k b) r=(r=.bool (decide (a≤b))):=by simp[A4]
theorem a2n:A4 .gtr (.int k a) (.int k b) r=(r=.bool (decide (b<a))):=by simp[A4]
theorem a2m:A4 .geq (.int k a) (.int k b) r=(r=.bool (decide (b≤a))):=by simp[A4]
end
section
variable (a b:List UInt8) (r:AV)
theorem a2k:A4 .add (.str a) (.str b) r=(a.length+b.length≤9223372036854775807∧r=.str (a++b)):=by simp[A4]
theorem a2u:A4 .eql (.str a) (.str b) r=(r=.bool (decide (a=b))):=by simp[A4]
theorem a2w:A4 .neq (.str a) (.str b) r=(r=.bool (!decide (a=b))):=by simp[A4]
theorem a2v:A4 .lss (.str a) (.str b) r=(r=.bool (Op.bytesLess a b)):=by simp[A4]
end
theorem a2y(a b:Bool)(r:AV):Ka false (.bool a) (.bool b) r=(r=.bool (decide (a=b))):=by simp[Ka]
theorem a2z(a b:Bool)(r:AV):Ka true (.bool a) (.bool b) r=(r=.bool (!decide (a=b))):=by simp[Ka]
theorem b3B(b:Bool)(r:AV):J0 .not (.bool b) r=(r=.bool (!b)):=rfl
theorem b3A(k:IntKind)(n:Int)(r:AV):J0 .neg (.int k n) r=(r=.int k (k.wrap (0 - n))):=rfl
theorem v_ro(o:Nat→Option (List AV))(cs:List AV):view o (.ro cs)=some cs:=rfl
theorem v_ptr(o:Nat→Option (List AV))(b off:Nat):view o (.ptr b off)=(o b).map (·.drop off):=rfl
theorem l_one(c:AV)(cs:List AV)(r:AV):A5 none (c::cs) r=(r=c.alias):=rfl
theorem l_all(n:Nat)(cs:List AV)(r:AV):A5 (some n) cs r=(n≤cs.length∧r=.agg (cs.take n)):=by cases cs<;>rfl
theorem ldh_cons(c:AV)(cs:List AV):Sr (c::cs)=fun r=>r=Ca c:=rfl
theorem hal_nils(e sz:Nat):Ca (.nils e sz)=.hnil e sz:=rfl
theorem hal_hnil(e sz:Nat):Ca (.hnil e sz)=.hnil e sz:=rfl
theorem hal_hsl(g e sz n cap:Nat):Ca (.hsl g e sz n cap)=.hsl g e sz n cap:=rfl
theorem hal_sl(sz:Nat)(l:List (List AV)):Ca (.sl none sz l)=.sl none sz l:=rfl
theorem lr_ro(n:Option Nat)(cs:List AV):X4 n (.ro cs)=A5 n cs:=rfl
theorem a3A(off:Nat)(cs:List AV)(r:AV):GE off (.ro cs) r=(r=.ro (cs.drop off)):=rfl
theorem a3z(off b o:Nat)(r:AV):GE off (.ptr b o) r=(r=.ptr b (o+off)):=rfl
theorem a5t(l:List UInt8)(r:AV):Gf true (.str l) r=(r=.int .i64 l.length):=rfl
theorem a5s(o:Option Nat)(sz:Nat)(els:List (List AV))(r:AV):Gf false (.sl o sz els) r=(r=.int .i64 els.length):=rfl
theorem a4w(size:Nat)(o:Option Nat)(els:List (List AV))(k:IntKind)(n:Int)(r:AV):Hl size (.sl o size els) (.int k n) r=((0≤n∧n<els.length)∧r=.ro (els.getD n.toNat [])):=by simp[Hl]
theorem a4v(size b off len:Nat)(k:IntKind)(n:Int)(r:AV):Hl size (.osl b off len) (.int k n) r=((0≤n∧n<len)∧r=.ptr b (off+n.toNat * size)):=rfl
theorem a5r(b off n:Nat)(r:AV):Gf false (.osl b off n) r=(r=.int .i64 n):=rfl
theorem vi_agg(n size:Nat)(q:Option Nat)(cs:List AV)(k:IntKind)(m:Int):TZ n size q (.agg cs) (.int k m)=fun r=>((0≤m∧m<n∧m.toNat * size<cs.length)∧A5 q (cs.drop (m.toNat * size)) r):=rfl
theorem mn_int(k k':IntKind)(a b:Int):SO (.int k a) (.int k' b)=fun r=>r=.int k (if b<a then b else a):=rfl
theorem a4x(l:List UInt8)(k:IntKind)(n:Int)(r:AV):TL (.str l) (.int k n) r=((0≤n∧n<l.length)∧r=.int .u8 ((l.getD n.toNat 0).toNat:Int)):=rfl
theorem a1X(e size bytes:Nat)(o:Option Nat)(els news:List (List AV))(r:AV):Ov e size bytes (.sl (some e) size els) (.sl o size news) r=(((els.length+news.length) * bytes≤140737488355328∧els.length+news.length≤maxLen)∧r=.sl (some e) size (els++news)):=by simp[Ov]
theorem a3M(off:Nat)(n:Option Nat)(cs:List AV)(r:AV):R9 off n (.agg cs) r=(off<cs.length∧A5 n (cs.drop off) r):=rfl
theorem b4a(c:AV)(cs:List AV)(r:AV):IE 0 (.tup (c::cs)) r=(r=c.alias):=by simp[IE]
theorem b4b(j:Nat)(c:AV)(cs:List AV)(r:AV):IE (j+1) (.tup (c::cs)) r=IE j (.tup cs) r:=by simp[IE]
theorem a5x(cs:List AV)(r:AV):NC (.ro cs) r=(r=.ro cs):=rfl
theorem a5w(b o:Nat)(r:AV):NC (.ptr b o) r=(r=.ptr b o):=rfl
theorem pk_t(a b:AV)(K:AV→Prop):Hx (.bool true) a b K=K a.alias:=by simp[Hx]
theorem pk_f(a b:AV)(K:AV→Prop):Hx (.bool false) a b K=K b.alias:=by simp[Hx]
theorem so_ptr(s:St)(n b off:Nat)(a:AV)(K:St→Prop):a0J s n (.ptr b off) a K=KL (s.o b) (stoK n b off s a K):=rfl
theorem bt_sl(o:Option Nat)(sz:Nat)(els:List (List AV))(K:List UInt8→Prop):UO (.sl o sz els) K=(sz=1∧MP els K):=rfl
theorem b1U(l:List UInt8)(a b:Nat)(r:AV):Mq none (.str l) a b r=((a≤b∧b≤l.length)∧r=.str ((l.take b).drop a)):=rfl
theorem b1T(size:Nat)(o:Option Nat)(l:List (List AV))(a b:Nat)(r:AV):Mq (some size) (.sl o size l) a b r=((a≤b∧b≤l.length)∧r=.sl none size ((l.take b).drop a)):=by simp[Mq]
theorem lo_str(l:List UInt8):Su (.str l)=l.length:=rfl
theorem lo_sl(o:Option Nat)(sz:Nat)(l:List (List AV)):Su (.sl o sz l)=l.length:=rfl
theorem bw_none(s:St)(dflt:Nat)(K:Nat→Prop):Kc s dflt none K=K dflt:=rfl
theorem bw_some(s:St)(dflt:Nat)(x:Opd)(K:Nat→Prop):Kc s dflt (some x) K=K1 (x.ev s) (bwK K):=rfl
theorem iw_int(k:IntKind)(n:Int)(K:Nat→Prop):XW (.int k n) K=(0≤n∧K n.toNat):=rfl
theorem a2T(k k':IntKind)(n:Int)(r:AV):RJ k (.int k' n) r=(r=.int k (k.wrap n)):=rfl
theorem b2n(l:List UInt8)(r:AV):TG (.str l) r=(r=.str l):=rfl
theorem c_t(P:Program)(t e:ACode)(Q:AExit→St→Prop)(s:St):He P t e Q s (.bool true)=BK P t Q s:=by simp[He]
theorem c_f(P:Program)(t e:ACode)(Q:AExit→St→Prop)(s:St):He P t e Q s (.bool false)=BK P e Q s:=by simp[He]
section
variable {P:Program} {s:St} {K:St→Prop}
theorem g_tt(d:Option Nat)(k:AK):gW P true d k s K (.bool true)=kW P d k s K:=by simp[gW]
theorem g_tf(d:Option Nat)(k:AK):gW P true d k s K (.bool false)=KS (s.put d .undef) K:=by simp[gW]
theorem g_ft(d:Option Nat)(k:AK):gW P false d k s K (.bool true)=KS (s.put d .undef) K:=by simp[gW]
theorem g_ff(d:Option Nat)(k:AK):gW P false d k s K (.bool false)=kW P d k s K:=by simp[gW]
theorem g_undef(want:Bool)(d:Option Nat)(k:AK):gW P want d k s K .undef=KS (s.put d .undef) K:=rfl
end
theorem evs_nil(s:St):evs s []=some []:=rfl
theorem evs_cons(s:St)(x:Opd)(r:List Opd):evs s (x::r)=(x.ev s).bind fun v=>(evs s r).map (v :: ·):=by
 simp only[evs]
 cases x.ev s<;>cases evs s r<;>rfl
theorem evp_nil(s:St):D5 s []=some []:=rfl
theorem evp_cons(s:St)(a b:Nat)(x:Opd)(r:List (Nat × Nat × Opd)):D5 s ((a,b,x)::r)=(x.ev s).bind fun v=>(D5 s r).map ((a,b,v) :: ·):=by
 simp only[D5]
 cases x.ev s<;>cases D5 s r<;>rfl
theorem a3G(cs r:List AV):Fs cs [] r=(r=cs):=rfl
theorem a3F(cs:List AV)(off n:Nat)(v:AV)(rest:List (Nat × Nat × AV))(r:List AV):Fs cs ((off,n,v)::rest) r=((v.cells.length=n∧0<n∧off+n≤cs.length)∧Fs (splice cs off v.cells) rest r):=rfl
theorem sp_0n(cs:List AV):splice cs 0 []=cs:=by cases cs<;>rfl
theorem sp_0(c:AV)(cs:List AV)(v:AV)(vs:List AV):splice (c::cs) 0 (v::vs)=v::splice cs 0 vs:=rfl
theorem sp_s(c:AV)(cs:List AV)(n:Nat)(vs:List AV):splice (c::cs) (n+1) vs=c::splice cs n vs:=rfl
theorem sz_nil(size:Nat):I1 size []=True:=rfl
theorem sz_cons(size:Nat)(v:AV)(vs:List AV):I1 size (v::vs)=(v.cells.length=size∧I1 size vs):=rfl
theorem r_one(s:St)(x:AR)(r:AV):BR s [x] r=Br s x r:=rfl
theorem ar_tmp(s:St)(i:Nat)(r:AV):Br s (.tmp i) r=(s.t i=some r):=rfl
def HC(s:St):List AR→List AV→Prop
 | [],[]=>True
 | x::xs,c::cs=>(∃ c',Br s x c'∧c=c'.alias)∧HC s xs cs
 | _,_=>False
theorem b0F(s:St)(xs:List AR)(cs:List AV):HC s xs cs↔xs.length=cs.length∧∀ (i:Nat) (x:AR) (c:AV),xs[i]?=some x→cs[i]?=some c→∃ c',Br s x c'∧c=c'.alias:=by
 induction xs generalizing cs with
 | nil=>cases cs<;>simp[HC]
 | cons x xs ih=>
  cases cs with
  | nil=>simp[HC]
  | cons c cs=>
   simp only[HC,ih,AJ,Nat.add_right_cancel_iff]
   constructor
   ·rintro ⟨h1,h2,h3⟩
    refine ⟨h2,fun i y d hy hd=>?_⟩
    cases i with
    | zero=>simp at hy hd;subst hy hd;exact h1
    | succ i=>exact h3 i y d (by simpa using hy) (by simpa using hd)
   ·rintro ⟨h1,h2⟩
    exact ⟨h2 0 x c rfl rfl,h1,fun i y d hy hd=>h2 (i+1) y d (by simpa using hy) (by simpa using hd)⟩
theorem r_two(s:St)(x y:AR)(xs:List AR)(rs:List AV):BR s (x::y::xs) (.tup rs)=HC s (x::y::xs) rs:=by
 apply propext
 rw[b0F]
 exact ⟨fun ⟨rs',h1,h2,h3⟩=>by cases h3;exact ⟨h1,h2⟩,fun ⟨h1,h2⟩=>⟨rs,h1,h2,rfl⟩⟩
theorem r_nil(s:St):BR s [] (.tup [])=True:=by
 apply propext
 exact ⟨fun _=>trivial,fun _=>⟨[],rfl,fun i x c hx=>by simp at hx,rfl⟩⟩
theorem rl_nil(s:St):HC s [] []=True:=rfl
theorem rl_cons(s:St)(x:AR)(xs:List AR)(c:AV)(cs:List AV):HC s (x::xs) (c::cs)=((∃ c',Br s x c'∧c=c'.alias)∧HC s xs cs):=rfl
section
variable (K:St→Prop) (Q:AExit→St→Prop) (s:St) (id:Nat) (rs:List AR) (r:AV)
theorem th_n:Gr K Q .normal=K:=rfl
theorem th_r:Gr K Q .ret=Q .ret:=rfl
theorem th_e:Gr K Q (.exit id)=Q (.exit id):=rfl
theorem bl_n:Iv id Q .normal=Q .normal:=rfl
theorem bl_r:Iv id Q .ret=Q .ret:=rfl
theorem bl_e(i:Nat):Iv id Q (.exit i) s=if i=id then Q .normal s else Q (.exit i) s:=rfl
theorem rq_n:KJ rs r .normal s=BR s rs r:=rfl
theorem rq_r:KJ rs r .ret s=BR s rs r:=rfl
theorem rq_e:KJ rs r (.exit id) s=False:=rfl
theorem st0_eq(xs:List AV):Ib xs=⟨lk (num 0 (xs.map AV.alias)),lk []⟩:=rfl
end
theorem b_addf(k:IntKind)(a b:Int):A4 .add (.int k a) (.int k b)=fun r=>r=.int k (k.wrap (a+b)):=funext fun r=>a2j k a b r
theorem b_subf(k:IntKind)(a b:Int):A4 .sub (.int k a) (.int k b)=fun r=>r=.int k (k.wrap (a - b)):=funext fun r=>a2x k a b r
theorem b_mulf(k:IntKind)(a b:Int):A4 .mul (.int k a) (.int k b)=fun r=>r=.int k (k.wrap (a * b)):=funext fun r=>a2q k a b r
theorem b_orf(k:IntKind)(a b:Int):A4 .or (.int k a) (.int k b)=fun r=>r=.int k (k.wrap ((BitVec.ofInt k.bits a ||| BitVec.ofInt k.bits b).toNat)):=funext fun r=>by simp[A4]
theorem b_andf(k:IntKind)(a b:Int):A4 .and (.int k a) (.int k b)=fun r=>r=.int k (k.wrap ((BitVec.ofInt k.bits a &&& BitVec.ofInt k.bits b).toNat)):=funext fun r=>by simp[A4]
theorem b_xorf(k:IntKind)(a b:Int):A4 .xor (.int k a) (.int k b)=fun r=>r=.int k (k.wrap ((BitVec.ofInt k.bits a ^^^ BitVec.ofInt k.bits b).toNat)):=funext fun r=>by simp[A4]
theorem b_andNotf(k:IntKind)(a b:Int):A4 .andNot (.int k a) (.int k b)=fun r=>r=.int k (k.wrap ((BitVec.ofInt k.bits a &&& ~~~BitVec.ofInt k.bits b).toNat)):=funext fun r=>by simp[A4]
theorem b_shlf(k k':IntKind)(a b:Int):A4 .shl (.int k a) (.int k' b)=fun r=>(0≤b∧r=.int k (k.wrap (a * 2 ^ (min b.toNat k.bits)))):=funext fun r=>by simp[A4]
theorem b_shrf(k k':IntKind)(a b:Int):A4 .shr (.int k a) (.int k' b)=fun r=>(0≤b∧r=.int k (a.fdiv (2 ^ (min b.toNat k.bits)))):=funext fun r=>by simp[A4]
theorem b_quof(k:IntKind)(a b:Int):A4 .quo (.int k a) (.int k b)=fun r=>(b≠0∧r=.int k (k.wrap (a.tdiv b))):=funext fun r=>a2s k a b r
theorem b_remf(k:IntKind)(a b:Int):A4 .rem (.int k a) (.int k b)=fun r=>(b≠0∧r=.int k (a.tmod b)):=funext fun r=>a2t k a b r
theorem b_eqlf(k:IntKind)(a b:Int):A4 .eql (.int k a) (.int k b)=fun r=>r=.bool (decide (a=b)):=funext fun r=>a2l k a b r
theorem b_neqf(k:IntKind)(a b:Int):A4 .neq (.int k a) (.int k b)=fun r=>r=.bool (!decide (a=b)):=funext fun r=>a2r k a b r
theorem b_lssf(k:IntKind)(a b:Int):A4 .lss (.int k a) (.int k b)=fun r=>r=.bool (decide (a<b)):=funext fun r=>a2p k a b r
theorem b_leqf(k:IntKind)(a b:Int):A4 .leq (.int k a) (.int k b)=fun r=>r=.bool (decide (a≤b)):=funext fun r=>a2o k a b r
theorem b_gtrf(k:IntKind)(a b:Int):A4 .gtr (.int k a) (.int k b)=fun r=>r=.bool (decide (b<a)):=funext fun r=>a2n k a b r
theorem b_geqf(k:IntKind)(a b:Int):A4 .geq (.int k a) (.int k b)=fun r=>r=.bool (decide (b≤a)):=funext fun r=>a2m k a b r
theorem b_catf(a b:List UInt8):A4 .add (.str a) (.str b)=fun r=>(a.length+b.length≤9223372036854775807∧r=.str (a++b)):=funext fun r=>a2k a b r
theorem b_seqlf(a b:List UInt8):A4 .eql (.str a) (.str b)=fun r=>r=.bool (decide (a=b)):=funext fun r=>a2u a b r
theorem b_sneqf(a b:List UInt8):A4 .neq (.str a) (.str b)=fun r=>r=.bool (!decide (a=b)):=funext fun r=>a2w a b r
theorem b_sgtrf(a b:List UInt8):A4 .gtr (.str a) (.str b)=fun r=>r=.bool (!(Op.bytesLess a b||decide (a=b))):=funext fun r=>by simp[A4]
theorem b_sgeqf(a b:List UInt8):A4 .geq (.str a) (.str b)=fun r=>r=.bool (!Op.bytesLess a b):=funext fun r=>by simp[A4]
theorem b_slssf(a b:List UInt8):A4 .lss (.str a) (.str b)=fun r=>r=.bool (Op.bytesLess a b):=funext fun r=>a2v a b r
theorem be_ff(a b:Bool):Ka false (.bool a) (.bool b)=fun r=>r=.bool (decide (a=b)):=funext fun r=>a2y a b r
theorem be_tf(a b:Bool):Ka true (.bool a) (.bool b)=fun r=>r=.bool (!decide (a=b)):=funext fun r=>a2z a b r
theorem u_notf(b:Bool):J0 .not (.bool b)=fun r=>r=.bool (!b):=funext fun r=>b3B b r
theorem u_xorf(k:IntKind)(n:Int):J0 .xor (.int k n)=fun r=>r=.int k (k.wrap ((BitVec.ofInt k.bits (if k.signed then -1 else k.max) ^^^ BitVec.ofInt k.bits n).toNat)):=rfl
theorem u_negf(k:IntKind)(n:Int):J0 .neg (.int k n)=fun r=>r=.int k (k.wrap (0 - n)):=funext fun r=>b3A k n r
theorem l_onef(c:AV)(cs:List AV):A5 none (c::cs)=fun r=>r=c.alias:=funext fun r=>l_one c cs r
theorem l_allf(n:Nat)(cs:List AV):A5 (some n) cs=fun r=>(n≤cs.length∧r=.agg (cs.take n)):=funext fun r=>l_all n cs r
theorem f_rof(off:Nat)(cs:List AV):GE off (.ro cs)=fun r=>r=.ro (cs.drop off):=funext fun r=>a3A off cs r
theorem f_ptrf(off b o:Nat):GE off (.ptr b o)=fun r=>r=.ptr b (o+off):=funext fun r=>a3z off b o r
theorem n_strf(l:List UInt8):Gf true (.str l)=fun r=>r=.int .i64 l.length:=funext fun r=>a5t l r
theorem n_slf(o:Option Nat)(sz:Nat)(els:List (List AV)):Gf false (.sl o sz els)=fun r=>r=.int .i64 els.length:=funext fun r=>a5s o sz els r
theorem n_oslf(b off n:Nat):Gf false (.osl b off n)=fun r=>r=.int .i64 n:=funext fun r=>a5r b off n r
theorem al_hsl(g e sz n cap:Nat):AV.alias (.hsl g e sz n cap)=.hsl g e sz n cap:=rfl
theorem ce_hsl(g e sz n cap:Nat):AV.cells (.hsl g e sz n cap)=[.hsl g e sz n cap]:=rfl
theorem so_hsl(g e sz n cap:Nat):AV.store (.hsl g e sz n cap)=.hsl g e sz n cap:=rfl
theorem tk_hsl(d:Option Nat)(i:Nat)(s:St)(g e sz n cap:Nat):Jq d i s (.hsl g e sz n cap)=s.put d (.hsl g e sz n cap):=rfl
theorem ldE_hsl(s:St)(d:Option Nat)(b off:Nat)(cs:List AV)(g e sz n cap:Nat):Hp s d b off cs (.hsl g e sz n cap)=s.put d (.hsl g e sz n cap):=rfl
theorem stE_hsl(s:St)(i b off:Nat)(cs:List AV)(g e sz n cap:Nat):GQ s i b off cs (.hsl g e sz n cap)={ s with o:=upd s.o b (some (splice cs off [.hsl g e sz n cap])) }:=rfl
theorem al_hss(g sz a m:Nat):AV.alias (.hss g sz a m)=.hss g sz a m:=rfl
theorem al_hnil(e sz:Nat):AV.alias (.hnil e sz)=.hnil e sz:=rfl
theorem ce_hnil(e sz:Nat):AV.cells (.hnil e sz)=[.hnil e sz]:=rfl
theorem so_hnil(e sz:Nat):AV.store (.hnil e sz)=.hnil e sz:=rfl
theorem tk_hnil(d:Option Nat)(i:Nat)(s:St)(e sz:Nat):Jq d i s (.hnil e sz)=s.put d (.hnil e sz):=rfl
theorem ldE_hnil(s:St)(d:Option Nat)(b off:Nat)(cs:List AV)(e sz:Nat):Hp s d b off cs (.hnil e sz)=s.put d (.hnil e sz):=rfl
theorem stE_hnil(s:St)(i b off:Nat)(cs:List AV)(e sz:Nat):GQ s i b off cs (.hnil e sz)={ s with o:=upd s.o b (some (splice cs off [.hnil e sz])) }:=rfl
theorem n_hsl(g e sz n cap:Nat):Gf false (.hsl g e sz n cap)=fun r=>r=.int .i64 n:=rfl
theorem n_hss(g sz a m:Nat):Gf false (.hss g sz a m)=fun r=>r=.int .i64 m:=rfl
theorem n_hnil(e sz:Nat):Gf false (.hnil e sz)=fun r=>r=.int .i64 0:=rfl
theorem i_hsl(size g e len cap:Nat)(k:IntKind)(n:Int):Hl size (.hsl g e size len cap) (.int k n)=fun r=>((0≤n∧n<len)∧r=.ptr g (n.toNat * size)):=funext fun r=>by simp[Hl]
theorem i_hss(size g a len:Nat)(k:IntKind)(n:Int):Hl size (.hss g size a len) (.int k n)=fun r=>((0≤n∧n<len)∧r=.ptr g ((a+n.toNat) * size)):=funext fun r=>by simp[Hl]
theorem hl_hsl(g e sz n cap:Nat):Ko (.hsl g e sz n cap)=n:=rfl
theorem hl_hss(g sz a m:Nat):Ko (.hss g sz a m)=m:=rfl
theorem hl_sl(o:Option Nat)(sz:Nat)(l:List (List AV)):Ko (.sl o sz l)=l.length:=rfl
theorem hl_hnil(e sz:Nat):Ko (.hnil e sz)=0:=rfl
theorem hs_hsl0(size g e n cap a b:Nat):GH size true (.hsl g e size n cap) a b=fun r=>((a=0∧b≤n)∧r=.hsl g e size b cap):=funext fun r=>by simp[GH]
theorem hs_hsl1(size g e n cap a b:Nat):GH size false (.hsl g e size n cap) a b=fun r=>((a≤b∧b≤n)∧r=.hss g size a (b - a)):=funext fun r=>by simp[GH]
theorem hs_hss(nl:Bool)(size g a0 m a b:Nat):GH size nl (.hss g size a0 m) a b=fun r=>((a≤b∧b≤m)∧r=.hss g size (a0+a) (b - a)):=funext fun r=>by cases nl<;>simp[GH]
theorem hs_sl(nl:Bool)(size:Nat)(o:Option Nat)(l:List (List AV))(a b:Nat):GH size nl (.sl o size l) a b=fun r=>((a≤b∧b≤l.length)∧r=.sl none size ((l.take b).drop a)):=funext fun r=>by cases nl<;>simp[GH]
theorem hs_hnil(nl:Bool)(size e sz a b:Nat):GH size nl (.hnil e sz) a b=fun r=>((a=0∧b=0)∧r=.hnil e sz):=funext fun r=>by cases nl<;>simp[GH]
theorem op_none:(none:Option Opd).isNone=true:=rfl
theorem op_some(x:Opd):(some x).isNone=false:=rfl
theorem i_oslf(size b off len:Nat)(k:IntKind)(n:Int):Hl size (.osl b off len) (.int k n)=fun r=>((0≤n∧n<len)∧r=.ptr b (off+n.toNat * size)):=funext fun r=>a4v size b off len k n r
theorem tk_osl(d:Option Nat)(i:Nat)(s:St)(b o n:Nat):Jq d i s (.osl b o n)=s.put d (.osl b o n):=rfl
theorem i_slf(size:Nat)(o:Option Nat)(els:List (List AV))(k:IntKind)(n:Int):Hl size (.sl o size els) (.int k n)=fun r=>((0≤n∧n<els.length)∧r=.ro (els.getD n.toNat [])):=funext fun r=>a4w size o els k n r
theorem i_strf(l:List UInt8)(k:IntKind)(n:Int):TL (.str l) (.int k n)=fun r=>((0≤n∧n<l.length)∧r=.int .u8 ((l.getD n.toNat 0).toNat:Int)):=funext fun r=>a4x l k n r
theorem a_appf(e size bytes:Nat)(o:Option Nat)(els news:List (List AV)):Ov e size bytes (.sl (some e) size els) (.sl o size news)=fun r=>(((els.length+news.length) * bytes≤140737488355328∧els.length+news.length≤maxLen)∧r=.sl (some e) size (els++news)):=funext fun r=>a1X e size bytes o els news r
theorem fv_aggf(off:Nat)(n:Option Nat)(cs:List AV):R9 off n (.agg cs)=fun r=>(off<cs.length∧A5 n (cs.drop off) r):=funext fun r=>a3M off n cs r
theorem x_tup0f(c:AV)(cs:List AV):IE 0 (.tup (c::cs))=fun r=>r=c.alias:=funext fun r=>b4a c cs r
theorem x_tupsf(j:Nat)(c:AV)(cs:List AV):IE (j+1) (.tup (c::cs))=IE j (.tup cs):=funext fun r=>b4b j c cs r
theorem nc_rof(cs:List AV):NC (.ro cs)=fun r=>r=.ro cs:=funext fun r=>a5x cs r
theorem nc_ptrf(b o:Nat):NC (.ptr b o)=fun r=>r=.ptr b o:=funext fun r=>a5w b o r
theorem sc_strf(l:List UInt8)(a b:Nat):Mq none (.str l) a b=fun r=>((a≤b∧b≤l.length)∧r=.str ((l.take b).drop a)):=funext fun r=>b1U l a b r
theorem sc_slf(size:Nat)(o:Option Nat)(l:List (List AV))(a b:Nat):Mq (some size) (.sl o size l) a b=fun r=>((a≤b∧b≤l.length)∧r=.sl none size ((l.take b).drop a)):=funext fun r=>b1T size o l a b r
theorem cv_intf(k k':IntKind)(n:Int):RJ k (.int k' n)=fun r=>r=.int k (k.wrap n):=funext fun r=>a2T k k' n r
theorem ss_strf(l:List UInt8):TG (.str l)=fun r=>r=.str l:=funext fun r=>b2n l r
theorem fl_nilf(cs:List AV):Fs cs []=fun r=>r=cs:=funext fun r=>a3G cs r
theorem fl_consf(cs:List AV)(off n:Nat)(v:AV)(rest:List (Nat × Nat × AV)):Fs cs ((off,n,v)::rest)=fun r=>((v.cells.length=n∧0<n∧off+n≤cs.length)∧Fs (splice cs off v.cells) rest r):=funext fun r=>a3F cs off n v rest r

theorem ai_ptr(n size b off:Nat)(k:IntKind)(m:Int):QX n size (.ptr b off) (.int k m)=fun r=>((0≤m∧m<(n:Int))∧r=.ptr b (off+m.toNat * size)):=funext fun r=>rfl
theorem ai_ro(n size:Nat)(cs:List AV)(k:IntKind)(m:Int):QX n size (.ro cs) (.int k m)=fun r=>((0≤m∧m<(n:Int))∧r=.ro (cs.drop (m.toNat * size))):=funext fun r=>rfl

def Am{α:Type}:List (Nat × α)→(Nat→Option α)→Prop
 | [],_=>True
 | (k,v)::r,f=>f k=some v∧Am r f
theorem Gu{α:Type}{f:Nat→Option α}:∀ {l:List (Nat × α)},Am l f→∀ i v,lk l i=some v→f i=some v
 | [],_,i,v,h=>by simp[lk]at h
 | (k,w)::r,⟨h1,h2⟩,i,v,h=>by
  rw[lk_cons]at h
  by_cases hk:i=k
  ·subst hk;rw[Af rfl]at h;rw[h1,h]
  ·rw[Ad hk]at h;exact Gu h2 i v h
theorem An{a:List (Nat × AV)}{b:List (Nat × List AV)}{s:St}(h:Am a s.t∧Am b s.o):Le ⟨lk a,lk b⟩ s:=⟨Gu h.1,Gu h.2⟩
theorem a4R{a:List (Nat × AV)}{b:List (Nat × List AV)}{s:St}(h:Am a s.t∧Am b s.o):LR ⟨lk a,lk b⟩ s:=An h
theorem AC{α:Type}{inv:α→St}{phi:α→Prop}{m:α→Nat}{x:α}{s:St}(x':α)(h:Le (inv x') s∧phi x'∧m x'<m x):Us inv phi m x s:=⟨x',h⟩

theorem a1R{a b:Int}(h:Ac (decide (a<b)=true)):a<b:=of_decide_eq_true h
theorem a1T{a b:Int}(h:Ac (decide (a<b)=false)):b≤a:=Int.not_lt.1 (of_decide_eq_false h)
theorem a1Q{a b:Int}(h:Ac (decide (a≤b)=true)):a≤b:=of_decide_eq_true h
theorem a1S{a b:Int}(h:Ac (decide (a≤b)=false)):b<a:=Int.not_le.1 (of_decide_eq_false h)
theorem Ap{x:Int}(h : -9223372036854775808≤x∧x≤9223372036854775807):IntKind.i64.wrap x=x:=by rw[IntKind.wrap_i64];omega
theorem ar_cellf(s:St)(i:Nat)(n:Option Nat)(r:AV):Br s (.cell i n) r=K1 (s.t i) (fun p=>KL (view s.o p) (fun cs=>A5 n cs r)):=by
 apply propext
 exact ⟨fun ⟨p,cs,h1,h2,h3⟩=>⟨p,h1,cs,h2,h3⟩,fun ⟨p,h1,cs,h2,h3⟩=>⟨p,cs,h1,h2,h3⟩⟩

theorem ldE_own(s:St)(d:Option Nat)(b off:Nat)(cs:List AV)(e sz:Nat)(els:List (List AV)):Hp s d b off cs (.sl (some e) sz els)=St.put { s with o:=upd s.o b (some (splice cs off [.sl none sz els])) } d (.sl (some e) sz els):=rfl
theorem ldE_none(s:St)(d:Option Nat)(b off:Nat)(cs:List AV)(sz:Nat)(els:List (List AV)):Hp s d b off cs (.sl none sz els)=s.put d (.sl none sz els):=rfl
theorem ldE_nils(s:St)(d:Option Nat)(b off:Nat)(cs:List AV)(e sz:Nat):Hp s d b off cs (.nils e sz)=s.put d (.sl (some e) sz []):=rfl
theorem stE_own(s:St)(i b off:Nat)(cs:List AV)(e sz:Nat)(els:List (List AV)):GQ s i b off cs (.sl (some e) sz els)=⟨upd s.t i (some (.sl none sz els)),upd s.o b (some (splice cs off [.sl (some e) sz els]))⟩:=rfl
theorem stE_none(s:St)(i b off:Nat)(cs:List AV)(sz:Nat)(els:List (List AV)):GQ s i b off cs (.sl none sz els)=⟨s.t,upd s.o b (some (splice cs off [.sl none sz els]))⟩:=rfl
theorem ce_sln(o:Option Nat)(sz:Nat)(els:List (List AV)):(AV.cells (.sl o sz els)).length=1:=rfl
theorem Pq{b:Nat}{cs:List AV}{o:Nat→Option (List AV)}(h:o b=some cs):∀ b' cs',lk [(b,cs)] b'=some cs'→o b'=some cs':=by
 intro b' cs' h'
 rw[lk_cons]at h'
 by_cases hb:b'=b
 ·subst hb;rw[Af rfl]at h';rw[h,h']
 ·rw[Ad hb]at h';cases h'
section
variable (s:St) (rs:List AR) (o1:Nat→Option (List AV)) (Q:AV→(Nat→Option (List AV))→Prop) (i:Nat)
theorem r2_n:Mg rs o1 Q .normal s=Ga s rs o1 Q:=rfl
theorem r2_r:Mg rs o1 Q .ret s=Ga s rs o1 Q:=rfl
theorem r2_e:Mg rs o1 Q (.exit i) s=False:=rfl
end
theorem CH{α:Type}(b:Nat)(x:α)(r:List (Nat × α)):lk ((b,x)::r) b=some x:=by simp[lk]
theorem CN{α:Type}{b k:Nat}{x y:α}{r:List (Nat × α)}(h:¬ b=k)(g:lk r b=some x):lk ((k,y)::r) b=some x:=by simp[lk,h,g]
theorem GA{α:Type}{b:Nat}{c c':α}:∀ b' cs,lk [(b,c)] b'=some cs→∃ cs',lk [(b,c')] b'=some cs':=by
 intro b' cs h
 rw[lk_cons]at h ⊢
 by_cases hb:b'=b
 ·rw[Af hb];exact ⟨_,rfl⟩
 ·rw[Ad hb]at h;cases h
theorem put_lk(t:List (Nat × AV))(o:Nat→Option (List AV))(d:Nat)(v:AV):St.put ⟨lk t,o⟩ (some d) v=⟨lk ((d,v)::t),o⟩:=by
 simp only[St.put,St.mk.injEq,Bc]
 funext j
 rfl
theorem AG{s:St}{rs:List AR}{o1 o2:List (Nat × List AV)}{r:AV}(h:BR s rs r∧Am o2 s.o)(hd:∀ b cs,lk o1 b=some cs→∃ cs',lk o2 b=some cs'):Ga s rs (lk o1) (fun r' o'=>r'=r∧o'=lk o2):=
 ⟨r,h.1,lk o2,Gu h.2,hd,rfl,rfl⟩
theorem TD{s:St}{rs:List AR}{b:Nat}{cs:List AV}(h:BR s rs (.ptr b 0)∧Am [(b,cs)] s.o):Ga s rs (fun _=>none) (fun r' o'=>∃ b,r'=.ptr b 0∧o'=lk [(b,cs)]):=
 ⟨_,h.1,_,Gu h.2,(fun b cs e=>by cases e),b,rfl,rfl⟩
section
variable {P:Program} {d:Option Nat} {s:St} {K:St→Prop}
theorem kW_mx(x y:Opd):kW P d (.mx x y) s K=K1 (x.ev s) (bi1K SF y d s K):=by
 apply propext
 constructor
 ·rintro ⟨r,⟨a,b,h1,h2,h3⟩,h4⟩;exact ⟨a,h1,b,h2,r,h3,h4⟩
 ·rintro ⟨a,h1,b,h2,r,h3,h4⟩;exact ⟨r,⟨a,b,h1,h2,h3⟩,h4⟩
theorem mx_int(k k':IntKind)(a b:Int):SF (.int k a) (.int k' b)=fun r=>r=.int k (if a<b then b else a):=rfl
def NN(neg:Bool):AV→AV→Prop
 | .ptr _ _,r=>r=.bool neg
 | .ro _,r=>r=.bool neg
 | .nilp,r=>r=.bool !neg
 | .nilT _,r=>r=.bool !neg
 | _,_=>False
theorem kW_peq(neg:Bool)(x:Opd):kW P d (.peq neg x) s K=K1 (x.ev s) (un1K (NN neg) d s K):=by
 apply propext
 constructor
 ·rintro ⟨r,⟨a,b,h1,h2,rfl⟩,h3⟩
  refine ⟨a,h1,_, ?_,h3⟩
  cases a<;>simp only[Sj,Az,reduceCtorEq]at h2<;>subst h2<;>cases neg<;>rfl
 ·rintro ⟨a,h1,r,h2,h3⟩
  cases a<;>try exact h2.elim
  all_goals (have h2':=h2;simp only[NN]at h2';subst h2';exact ⟨_,⟨_,_,h1,rfl,by cases neg<;>rfl⟩,h3⟩)
theorem pe_ptr(neg:Bool)(b o:Nat):NN neg (.ptr b o)=fun r=>r=.bool neg:=rfl
theorem pe_ro(neg:Bool)(cs:List AV):NN neg (.ro cs)=fun r=>r=.bool neg:=rfl
theorem pe_nilp(neg:Bool):NN neg .nilp=fun r=>r=.bool !neg:=rfl
def UC(e size bytes:Nat):AV→AV→Prop
 | .sl _ sz news,r=>sz=size∧(news.length * bytes≤140737488355328∧news.length≤maxLen)∧r=.sl (some e) size news
 | _,_=>False
theorem kW_app0(e size bytes:Nat)(x:Opd):kW P d (.app0 e size bytes x) s K=K1 (x.ev s) (un1K (UC e size bytes) d s K):=by
 apply propext
 constructor
 ·rintro ⟨r,⟨own,news,h1,h2,h3,rfl⟩,h4⟩;exact ⟨_,h1,_,⟨rfl,⟨h2,h3⟩,rfl⟩,h4⟩
 ·rintro ⟨p,h1,r,h2,h3⟩
  cases p<;>try exact h2.elim
  obtain ⟨rfl,⟨h4,h5⟩,rfl⟩:=h2
  exact ⟨_,⟨_,_,h1,h4,h5,rfl⟩,h3⟩
theorem a0_sl(e size bytes:Nat)(own:Option Nat)(sz:Nat)(news:List (List AV)):UC e size bytes (.sl own sz news)=fun r=>sz=size∧(news.length * bytes≤140737488355328∧news.length≤maxLen)∧r=.sl (some e) size news:=rfl
def mkmK(d:Option Nat)(s:St)(K:St→Prop)(b:Nat):Prop:=KS (St.put { s with o:=upd s.o b (some [.mp [] [] [] 0]) } d (.mapv b)) K
theorem kW_mkm:kW P d .mkm s K=EG s.o (mkmK d s K):=rfl
def KF(o:Option (Option Nat))(K:Option Nat→Prop):Prop:=∃ f,o=some f∧K f
theorem KF_some(f:Option Nat)(K:Option Nat→Prop):KF (some f) K=K f:=by simp[KF]
def Kx(z:AV)(ok:Bool)(vl:List AV):Option Nat→AV
 | some i=>if ok then .tup [vl.getD i .undef,.bool true] else (vl.getD i .undef).alias
 | none=>if ok then .tup [z,.bool false] else z.alias
theorem mqV_st(z:AV)(vl:List AV)(i:Nat):Kx z true vl (some i)=.tup [vl.getD i .undef,.bool true]:=rfl
theorem mqV_sf(z:AV)(vl:List AV)(i:Nat):Kx z false vl (some i)=(vl.getD i .undef).alias:=rfl
theorem mqV_nt(z:AV)(vl:List AV):Kx z true vl none=.tup [z,.bool false]:=rfl
theorem mqV_nf(z:AV)(vl:List AV):Kx z false vl none=z.alias:=rfl
def mq5(z:AV)(ok:Bool)(vl:List AV)(d:Option Nat)(s:St)(K:St→Prop)(f:Option Nat):Prop:=KS (s.put d (Kx z ok vl f)) K
def SS(z:AV)(ok:Bool)(d:Option Nat)(s:St)(K:St→Prop):Option Nat→Prop
 | none=>KS (s.put d (Kx z ok [] none)) K
 | some _=>False
theorem mq6_n(z:AV)(ok:Bool):SS z ok d s K none=KS (s.put d (Kx z ok [] none)) K:=rfl
def PC(z:AV)(ok:Bool)(ks:List Kd)(ag:Bool)(k:AV)(d:Option Nat)(s:St)(K:St→Prop):List AV→Prop
 | [.mp kl vl _ _]=>KF (B2 ks ag k kl) (mq5 z ok vl d s K)
 | _=>False
theorem mq_mp(z:AV)(ok:Bool)(ks:List Kd)(ag:Bool)(k:AV)(kl vl:List AV)(bs:List Nat)(clk:Nat):PC z ok ks ag k d s K [.mp kl vl bs clk]=KF (B2 ks ag k kl) (mq5 z ok vl d s K):=rfl
def Pz(z:AV)(ok:Bool)(ks:List Kd)(ag:Bool)(d:Option Nat)(s:St)(K:St→Prop):AV→AV→Prop
 | .mapv b,k=>KL (s.o b) (PC z ok ks ag k d s K)
 | .rom kl vl,k=>KF (B2 ks ag k kl) (mq5 z ok vl d s K)
 | .nilm,k=>KF (B2 ks ag k []) (SS z ok d s K)
 | _,_=>False
theorem mq_rom(z:AV)(ok:Bool)(ks:List Kd)(ag:Bool)(kl vl:List AV)(k:AV):Pz z ok ks ag d s K (.rom kl vl) k=KF (B2 ks ag k kl) (mq5 z ok vl d s K):=rfl
theorem mq_nilm(z:AV)(ok:Bool)(ks:List Kd)(ag:Bool)(k:AV):Pz z ok ks ag d s K .nilm k=KF (B2 ks ag k []) (SS z ok d s K):=rfl
theorem mq_mapv(z:AV)(ok:Bool)(ks:List Kd)(ag:Bool)(b:Nat)(k:AV):Pz z ok ks ag d s K (.mapv b) k=KL (s.o b) (PC z ok ks ag k d s K):=rfl
def mq1(z:AV)(ok:Bool)(ks:List Kd)(ag:Bool)(y:Opd)(d:Option Nat)(s:St)(K:St→Prop)(p:AV):Prop:=K1 (y.ev s) (Pz z ok ks ag d s K p)
theorem kW_mq(z:AV)(ok:Bool)(ks:List Kd)(ag:Bool)(x y:Opd):kW P d (.mq z ok ks ag x y) s K=K1 (x.ev s) (mq1 z ok ks ag y d s K):=by
 apply propext
 constructor
 ·rintro ⟨r,⟨a,b,h1,h2,h3⟩,h4⟩
  cases a<;>try exact h3.elim
  ·obtain ⟨kl,vl,bs,clk,f,g1,g2,rfl⟩:=h3
   exact ⟨_,h1,_,h2,_,g1,f,g2,by cases f<;>exact h4⟩
  ·obtain ⟨g2,rfl⟩:=h3
   exact ⟨_,h1,_,h2,none,g2,h4⟩
  ·obtain ⟨f,g2,rfl⟩:=h3
   exact ⟨_,h1,_,h2,f,g2,by cases f<;>exact h4⟩
 ·rintro ⟨a,h1,b,h2,h3⟩
  cases a<;>try exact h3.elim
  ·obtain ⟨cs,g1,h3⟩:=h3
   unfold PC at h3
   split at h3
   ·obtain ⟨f,g2,h4⟩:=h3
    exact ⟨_,⟨_,_,h1,h2,_,_,_,_,f,g1,g2,rfl⟩,by cases f<;>exact h4⟩
   ·exact h3.elim
  ·obtain ⟨f,g2,h4⟩:=h3
   cases f with
   | none=>exact ⟨_,⟨_,_,h1,h2,g2,rfl⟩,h4⟩
   | some i=>exact h4.elim
  ·obtain ⟨f,g2,h4⟩:=h3
   exact ⟨_,⟨_,_,h1,h2,f,g2,rfl⟩,by cases f<;>exact h4⟩
def SY(b:Nat)(d:Option Nat)(s:St)(K:St→Prop)(x:Option (AV × List AV)):Prop:=∃ y,x=some y∧KS (St.put { s with o:=upd s.o b (some y.2) } d y.1) K
theorem muK_some(b:Nat)(r:AV)(cs:List AV):SY b d s K (some (r,cs))=KS (St.put { s with o:=upd s.o b (some cs) } d r) K:=by simp[SY]
def mu5(q:Nat)(z:AV)(ks:List Kd)(ag:Bool)(b:Nat)(k v:AV)(d:Option Nat)(s:St)(K:St→Prop)(cs:List AV):Prop:=SY b d s K (Fw q z ks ag k v cs)
def Yu(q:Nat)(z:AV)(ks:List Kd)(ag:Bool)(d:Option Nat)(s:St)(K:St→Prop):AV→AV→AV→Prop
 | .mapv b,k,v=>KL (s.o b) (mu5 q z ks ag b k v d s K)
 | _,_,_=>False
theorem mu_mapv(q:Nat)(z:AV)(ks:List Kd)(ag:Bool)(b:Nat)(k v:AV):Yu q z ks ag d s K (.mapv b) k v=KL (s.o b) (mu5 q z ks ag b k v d s K):=rfl
def mu2(q:Nat)(z:AV)(ks:List Kd)(ag:Bool)(v:Opd)(p:AV)(d:Option Nat)(s:St)(K:St→Prop)(k:AV):Prop:=K1 (v.ev s) (Yu q z ks ag d s K p k)
def mu1(q:Nat)(z:AV)(ks:List Kd)(ag:Bool)(k v:Opd)(d:Option Nat)(s:St)(K:St→Prop)(p:AV):Prop:=K1 (k.ev s) (mu2 q z ks ag v p d s K)
theorem kW_mu(q:Nat)(z:AV)(ks:List Kd)(ag:Bool)(m k v:Opd):kW P d (.mu q z ks ag m k v) s K=K1 (m.ev s) (mu1 q z ks ag k v d s K):=by
 apply propext
 constructor
 ·rintro ⟨r,⟨b,cs,h⟩,hK⟩
  obtain ⟨kv,vv,kl,vl,bs,clk,e1,e2,e3,e4,e5⟩:=LV h
  simp only[B6,h]at hK
  exact ⟨_,e1,_,e2,_,e3,_,e4,(r,cs),e5,hK⟩
 ·rintro ⟨p,e1,kv,e2,vv,e3,h⟩
  cases p<;>try exact h.elim
  rename_i b
  obtain ⟨cs0,e4,⟨r,cs⟩,e5,hK⟩:=h
  have hm:EB s q z ks ag m k v=some (b,r,cs):=by simp only[EB,e1,e2,e3,e4,CY,e5,BE]
  refine ⟨r,⟨b,cs,hm⟩, ?_⟩
  simp only[B6,hm]
  exact hK
def SU(k v:AV)(kl vl:List AV)(bs:List Nat)(clk:Nat):Option Nat→AV × List AV
 | some i=>(.undef,[.mp kl (vl.set i v.alias) bs clk])
 | none=>(.undef,[.mp (kl++[k.alias]) (vl++[v.alias]) (bs++[clk]) (clk+1)])
def SV(z k:AV)(kl vl:List AV)(bs:List Nat)(clk:Nat):Option Nat→AV × List AV
 | some i=>(.tup [vl.getD i .undef,.int .i64 (bs.getD i 0:Nat)],[.mp kl vl bs clk])
 | none=>(.tup [z,.int .i64 (clk:Nat)],[.mp (kl++[k.alias]) (vl++[z]) (bs++[clk]) (clk+1)])
def SX(kl vl:List AV)(bs:List Nat)(clk:Nat):Option Nat→AV × List AV
 | some i=>(.undef,[.mp (kl.eraseIdx i) (vl.eraseIdx i) (bs.eraseIdx i) clk])
 | none=>(.undef,[.mp kl vl bs clk])
theorem mu0_mp(z:AV)(ks:List Kd)(ag:Bool)(k v:AV)(kl vl:List AV)(bs:List Nat)(clk:Nat):Fw 0 z ks ag k v [.mp kl vl bs clk]=(B2 ks ag k kl).map (SU k v kl vl bs clk):=by
 simp only[Fw];congr 1
theorem mu1_mp(z:AV)(ks:List Kd)(ag:Bool)(k v:AV)(kl vl:List AV)(bs:List Nat)(clk:Nat):Fw 1 z ks ag k v [.mp kl vl bs clk]=(B2 ks ag k kl).map (SV z k kl vl bs clk):=by
 simp only[Fw];congr 1
theorem mu2_mp(z:AV)(ks:List Kd)(ag:Bool)(n:Int)(v:AV)(kl vl:List AV)(bs:List Nat)(clk:Nat):Fw 2 z ks ag (.int .i64 n) v [.mp kl vl bs clk]=(GB n bs 0).map fun i=>(.undef,[.mp kl (vl.set i v.alias) bs clk]):=rfl
theorem mu3_mp(z:AV)(ks:List Kd)(ag:Bool)(k v:AV)(kl vl:List AV)(bs:List Nat)(clk:Nat):Fw 3 z ks ag k v [.mp kl vl bs clk]=(B2 ks ag k kl).map (SX kl vl bs clk):=by
 simp only[Fw];congr 1
theorem mu0_s(k v:AV)(kl vl:List AV)(bs:List Nat)(clk i:Nat):SU k v kl vl bs clk (some i)=(.undef,[.mp kl (vl.set i v.alias) bs clk]):=rfl
theorem mu0_n(k v:AV)(kl vl:List AV)(bs:List Nat)(clk:Nat):SU k v kl vl bs clk none=(.undef,[.mp (kl++[k.alias]) (vl++[v.alias]) (bs++[clk]) (clk+1)]):=rfl
theorem mu1_s(z k:AV)(kl vl:List AV)(bs:List Nat)(clk i:Nat):SV z k kl vl bs clk (some i)=(.tup [vl.getD i .undef,.int .i64 (bs.getD i 0:Nat)],[.mp kl vl bs clk]):=rfl
theorem mu1_n(z k:AV)(kl vl:List AV)(bs:List Nat)(clk:Nat):SV z k kl vl bs clk none=(.tup [z,.int .i64 (clk:Nat)],[.mp (kl++[k.alias]) (vl++[z]) (bs++[clk]) (clk+1)]):=rfl
theorem mu3_s(kl vl:List AV)(bs:List Nat)(clk i:Nat):SX kl vl bs clk (some i)=(.undef,[.mp (kl.eraseIdx i) (vl.eraseIdx i) (bs.eraseIdx i) clk]):=rfl
theorem mu3_n(kl vl:List AV)(bs:List Nat)(clk:Nat):SX kl vl bs clk none=(.undef,[.mp kl vl bs clk]):=rfl
def QL(els:List AV)(n:Nat)(K:List UInt8→Prop):Prop:=∃ l:List UInt8,els=l.map Bg∧l.length=n∧K l
theorem MO{els:List AV}{n:Nat}{K:List UInt8→Prop}(l:List UInt8)(h:els=l.map Bg)(hl:l.length=n)(hK:K l):QL els n K:=⟨l,h,hl,hK⟩
def M5(off n:Nat)(d:Option Nat)(s:St)(K:St→Prop)(cs:List AV):Prop:=QL ((cs.drop off).take n) n (strK d s K)
theorem b2oL_mk(off n:Nat)(cs:List AV):M5 off n d s K cs=QL ((cs.drop off).take n) n (strK d s K):=rfl
def Q2(d:Option Nat)(s:St)(K:St→Prop):AV→Prop
 | .sl _ sz els=>sz=1∧MP els (strK d s K)
 | .osl b off n=>KL (s.o b) (M5 off n d s K)
 | _=>False
theorem b2o_sl(o:Option Nat)(sz:Nat)(els:List (List AV)):Q2 d s K (.sl o sz els)=(sz=1∧MP els (strK d s K)):=rfl
theorem b2o_osl(b off n:Nat):Q2 d s K (.osl b off n)=KL (s.o b) (M5 off n d s K):=rfl
theorem kW_b2o(x:Opd):kW P d (.b2o x) s K=K1 (x.ev s) (Q2 d s K):=by
 apply propext
 constructor
 ·rintro ⟨p,h1,h⟩
  cases p<;>try exact h.elim
  ·obtain ⟨h2,l,h3,h4⟩:=h
   exact ⟨_,h1,h2,l,h3,h4⟩
  ·obtain ⟨cs,l,h2,⟨h3,h4⟩,h5⟩:=h
   exact ⟨_,h1,cs,h2,l,h3,h4,h5⟩
 ·rintro ⟨p,h1,h⟩
  cases p<;>try exact h.elim
  ·obtain ⟨h2,l,h3,h4⟩:=h
   exact ⟨_,h1,h2,l,h3,h4⟩
  ·obtain ⟨cs,h2,l,h3,h4,h5⟩:=h
   exact ⟨_,h1,cs,l,h2,⟨h3,h4⟩,h5⟩
def UH(d:Option Nat)(s:St)(K:St→Prop):AV→Prop
 | .osl b off n=>KL (s.o b) (M5 off n d s K)
 | _=>False
theorem b2d_osl(b off n:Nat):UH d s K (.osl b off n)=KL (s.o b) (M5 off n d s K):=rfl
theorem kW_b2d(x:Opd):kW P d (.b2d x) s K=K1 (x.ev s) (UH d s K):=by
 apply propext
 constructor
 ·rintro ⟨r,⟨b,off,n,cs,l,h1,h2,⟨h3,h4⟩,rfl⟩,h5⟩
  exact ⟨_,h1,cs,h2,l,h3,h4,h5⟩
 ·rintro ⟨p,h1,h⟩
  cases p<;>try exact h.elim
  obtain ⟨cs,h2,l,h3,h4,h5⟩:=h
  exact ⟨_,⟨_,_,_,cs,l,h1,h2,⟨h3,h4⟩,rfl⟩,h5⟩
def UF(n:Nat):AV→AV→Prop
 | .ptr b off,r=>r=.osl b off n
 | _,_=>False
theorem as_ptr(n b off:Nat):UF n (.ptr b off)=fun r=>r=.osl b off n:=rfl
theorem kW_asl(n:Nat)(x:Opd):kW P d (.asl n x) s K=K1 (x.ev s) (un1K (UF n) d s K):=by
 apply propext
 constructor
 ·rintro ⟨r,⟨b,off,h1,h2⟩,h3⟩;exact ⟨_,h1,r,h2,h3⟩
 ·rintro ⟨p,h1,r,h3,h4⟩
  cases p<;>try exact h3.elim
  exact ⟨r,⟨_,_,h1,h3⟩,h4⟩
def a0b(e:Nat):AV→AV→Prop
 | .str l,r=>l.length≤140737488355328∧r=.sl (some e) 1 (l.map Bh)
 | _,_=>False
theorem sb_str(e:Nat)(l:List UInt8):a0b e (.str l)=fun r=>l.length≤140737488355328∧r=.sl (some e) 1 (l.map Bh):=rfl
theorem kW_s2b(e:Nat)(x:Opd):kW P d (.s2b e x) s K=K1 (x.ev s) (un1K (a0b e) d s K):=by
 apply propext
 constructor
 ·rintro ⟨r,⟨l,h1,h2⟩,h3⟩;exact ⟨_,h1,r,h2,h3⟩
 ·rintro ⟨p,h1,r,h3,h4⟩
  cases p<;>try exact h3.elim
  exact ⟨r,⟨_,h1,h3⟩,h4⟩
def rngK(m clk:Nat)(d:Option Nat)(s:St)(K:St→Prop)(b:Nat):Prop:=KS (St.put { s with o:=upd s.o b (some [.mit m clk [] clk]) } d (.itp b)) K
def P5(m:Nat)(d:Option Nat)(s:St)(K:St→Prop):List AV→Prop
 | [.mp _ _ _ clk]=>EG s.o (rngK m clk d s K)
 | _=>False
theorem rng_mp(m:Nat)(kl vl:List AV)(bs:List Nat)(clk:Nat):P5 m d s K [.mp kl vl bs clk]=EG s.o (rngK m clk d s K):=rfl
def Z3(d:Option Nat)(s:St)(K:St→Prop):AV→Prop
 | .mapv m=>KL (s.o m) (P5 m d s K)
 | _=>False
theorem rng_mapv(m:Nat):Z3 d s K (.mapv m)=KL (s.o m) (P5 m d s K):=rfl
theorem kW_rng(x:Opd):kW P d (.rng x) s K=K1 (x.ev s) (Z3 d s K):=by
 apply propext
 constructor
 ·rintro ⟨p,h1,h⟩
  cases p<;>try exact h.elim
  obtain ⟨kl,vl,bs,clk,h2,h3⟩:=h
  exact ⟨_,h1,_,h2,h3⟩
 ·rintro ⟨p,h1,h⟩
  cases p<;>try exact h.elim
  obtain ⟨cs,h2,h3⟩:=h
  unfold P5 at h3
  split at h3
  ·exact ⟨_,h1,_,_,_,_,h2,h3⟩
  ·exact h3.elim
def Ur(b m since:Nat)(seen:List Nat)(last:Nat)(kl vl:List AV)(bs:List Nat)(clk:Nat)(d:Option Nat)(s:St)(K:St→Prop):Prop:=
 (clk=since∧last=clk)∧(∀ i n,bs[i]?=some n→n ∉ seen→KS (St.put { s with o:=upd s.o b (some [.mit m since (seen++[n]) clk]) } d (.tup [.bool true,kl.getD i .undef,vl.getD i .undef])) K)∧((∀ n∈bs,n∈seen)→KS (s.put d (.tup [.bool false])) K)
def PH(b m since:Nat)(seen:List Nat)(last:Nat)(d:Option Nat)(s:St)(K:St→Prop):List AV→Prop
 | [.mp kl vl bs clk]=>Ur b m since seen last kl vl bs clk d s K
 | _=>False
theorem nxt_mp(b m since:Nat)(seen:List Nat)(last:Nat)(kl vl:List AV)(bs:List Nat)(clk:Nat):PH b m since seen last d s K [.mp kl vl bs clk]=Ur b m since seen last kl vl bs clk d s K:=rfl
def PG(b:Nat)(d:Option Nat)(s:St)(K:St→Prop):List AV→Prop
 | [.mit m since seen last]=>KL (s.o m) (PH b m since seen last d s K)
 | _=>False
theorem nxt_mit(b m since:Nat)(seen:List Nat)(last:Nat):PG b d s K [.mit m since seen last]=KL (s.o m) (PH b m since seen last d s K):=rfl
def YG(d:Option Nat)(s:St)(K:St→Prop):AV→Prop
 | .itp b=>KL (s.o b) (PG b d s K)
 | _=>False
theorem nxt_itp(b:Nat):YG d s K (.itp b)=KL (s.o b) (PG b d s K):=rfl
theorem kW_nxt(x:Opd):kW P d (.nxt x) s K=K1 (x.ev s) (YG d s K):=by
 apply propext
 constructor
 ·rintro ⟨p,h1,h⟩
  cases p<;>try exact h.elim
  obtain ⟨m,since,seen,last,kl,vl,bs,clk,h2,h3,h4⟩:=h
  exact ⟨_,h1,_,h2,_,h3,h4⟩
 ·rintro ⟨p,h1,h⟩
  cases p<;>try exact h.elim
  obtain ⟨cs,h2,h3⟩:=h
  unfold PG at h3
  split at h3
  ·obtain ⟨cs',h4,h5⟩:=h3
   unfold PH at h5
   split at h5
   ·exact ⟨_,h1,_,_,_,_,_,_,_,_,h2,h4,h5⟩
   ·exact h5.elim
  ·exact h3.elim
def Ul(seen:List Nat)(last:Nat)(kl vl:List AV)(bs:List Nat)(clk:Nat)(d:Option Nat)(s:St)(K:St→Prop):Prop:=clk=last∧∃ i n,seen.getLast?=some n∧bs[i]?=some n∧KS (s.put d (.tup [kl.getD i .undef,vl.getD i .undef])) K
def OY(seen:List Nat)(last:Nat)(d:Option Nat)(s:St)(K:St→Prop):List AV→Prop
 | [.mp kl vl bs clk]=>Ul seen last kl vl bs clk d s K
 | _=>False
theorem ent_mp(seen:List Nat)(last:Nat)(kl vl:List AV)(bs:List Nat)(clk:Nat):OY seen last d s K [.mp kl vl bs clk]=Ul seen last kl vl bs clk d s K:=rfl
def OX(d:Option Nat)(s:St)(K:St→Prop):List AV→Prop
 | [.mit m _ seen last]=>KL (s.o m) (OY seen last d s K)
 | _=>False
theorem ent_mit(m since:Nat)(seen:List Nat)(last:Nat):OX d s K [.mit m since seen last]=KL (s.o m) (OY seen last d s K):=rfl
def Xa(d:Option Nat)(s:St)(K:St→Prop):AV→Prop
 | .itp b=>KL (s.o b) (OX d s K)
 | _=>False
theorem ent_itp(b:Nat):Xa d s K (.itp b)=KL (s.o b) (OX d s K):=rfl
theorem kW_ent(x:Opd):kW P d (.ent x) s K=K1 (x.ev s) (Xa d s K):=by
 apply propext
 constructor
 ·rintro ⟨r,⟨p,h1,h⟩,hK⟩
  cases p<;>try exact h.elim
  obtain ⟨m,since,seen,last,kl,vl,bs,clk,i,n,h2,h3,h4,h5,h6,rfl⟩:=h
  exact ⟨_,h1,_,h2,_,h3,h4,i,n,h5,h6,hK⟩
 ·rintro ⟨p,h1,h⟩
  cases p<;>try exact h.elim
  obtain ⟨cs,h2,h3⟩:=h
  unfold OX at h3
  split at h3
  ·obtain ⟨cs',h4,h5⟩:=h3
   unfold OY at h5
   split at h5
   ·obtain ⟨h6,i,n,h7,h8,hK⟩:=h5
    exact ⟨_,⟨_,h1,_,_,_,_,_,_,_,_,i,n,h2,h4,h6,h7,h8,rfl⟩,hK⟩
   ·exact h5.elim
  ·exact h3.elim
end
theorem al_mapv(b:Nat):AV.alias (.mapv b)=.mapv b:=rfl
theorem ce_mapv(b:Nat):AV.cells (.mapv b)=[.mapv b]:=rfl
theorem so_mapv(b:Nat):AV.store (.mapv b)=.mapv b:=rfl
theorem al_nilm:AV.alias .nilm=.nilm:=rfl
theorem al_rom(a b:List AV):AV.alias (.rom a b)=.rom a b:=rfl
theorem ce_rom(a b:List AV):AV.cells (.rom a b)=[.rom a b]:=rfl
theorem so_rom(a b:List AV):AV.store (.rom a b)=.rom a b:=rfl
theorem ce_nilm:AV.cells .nilm=[.nilm]:=rfl
theorem so_nilm:AV.store .nilm=.nilm:=rfl
theorem al_itp(b:Nat):AV.alias (.itp b)=.itp b:=rfl
theorem ce_itp(b:Nat):AV.cells (.itp b)=[.itp b]:=rfl
end
end Go.Proofs.YtfgihnhoocnmdaaGreatDoor
