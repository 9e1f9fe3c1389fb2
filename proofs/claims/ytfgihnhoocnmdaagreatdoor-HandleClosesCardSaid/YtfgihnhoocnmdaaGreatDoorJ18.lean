import Derived.Test.YtfgihnhoocnmdaaGreatDoorJ17
import Derived.Ground.SlsfProg
namespace Go.Proofs.YtfgihnhoocnmdaaGreatDoor
set_option linter.all false
set_option maxHeartbeats 64000000
set_option maxRecDepth 100000
section
open Go.RowKit Go.Lib
theorem Ky(k:Int)(p:List UInt8)(c q:Int):(Ah k p c q).length≤160:=by
 rcases @ofP_q k p c q with h|h
 ·rw[h];simp
 ·exact q_len h
structure StI (L:List PrP):Prop where
 rise:DT L
 may:∀ q∈L,B3 q.1 q.2=true
 len:L.length≤1000
theorem StI.getS_len{L:List PrP}(h:StI L)(k:List UInt8):(C2 L k).length≤64:=by
 cases hh:A9 L k with
 | false=>rw[O7 hh];simp
 | true=>
  have hl:=Jv hh
  rw[O8 hh]
  have hm:L.getD (AE L k) default∈L:=by rw[List.getD,Aw hl,Cp];exact Di hl
  have:=h.may _ hm
  simp only[B3,Bs]at this
  exact this.2.2.2
def TQ(s:Nat):Bl→Prop
 | none=>True
 | some (g,_)=>¬ g=s∧¬ s=g
theorem stOk.d{s:Nat}{L:List PrP}{x:Bl}(h:stOk s L x):TQ s x:=by
 rcases x with _ | ⟨g,cap⟩
 ·trivial
 ·exact h.1
theorem B4(s:Nat):TQ s none=True:=rfl
theorem Bq(s g cap:Nat):TQ s (some (g,cap))=(¬ g=s∧¬ s=g):=rfl
noncomputable def Av (L:List PrP) (p:List UInt8) (c:Int):Es × Bool:=
 ((C1 (C2 L (Ah 7 p c 0))).1,A9 L (Ah 7 p c 0)&&decide ((C1 (C2 L (Ah 7 p c 0))).2=0))
theorem Mx{A B:Prop}(h:B)(e:A=B:=by (simp (disch:=omega) only[*, ↓Ed,Eu, ↓reduceIte,reduceCtorEq,Nat.reduceAdd,Nat.reduceEqDiff,Nat.reduceLT,Nat.reduceLeDiff,Int.reduceToNat,Int.reduceEq,Int.reduceLT,Int.reduceLE,Ap];first|done|rfl)):A:=e▸h
theorem N4(s:Nat)(L:List PrP)(hI:StI L)(p:List UInt8)(c:Int)(hp:p.length≤1000000)(x:Bl)(hx:stOk s L x):
  CT Tryz.prog 18 [.ptr s 0,.agg [.str p,.int .i64 c]] (lk (AF s L x)) (fun r o=>r=.tup [.agg (Av L p c).1.cs,.bool (Av L p c).2]∧o=lk (AF s L x)):=by
 have hF:=Qt s L hI.rise (by have:=hI.len;omega) (Ah 7 p c 0) x hx
 have hO:=D8 7 p c 0 hp
 have hv:=hI.getS_len (Ah 7 p c 0)
 have hD:=Te (C2 L (Ah 7 p c 0)) (by omega)
 have hgs:=hx.d
 unfold Av
 clear hI hx
 generalize Ah 7 p c 0=k at *
 generalize C2 L k=v at *
 generalize A9 L k=ok at *
 refine a7O _ _ _ (by simp) ?_
 rcases ok with _|_<;>rcases x with _ | ⟨g,cap⟩
 all_goals
  simp only[B4,Bq,Ce,AA]at hgs hF ⊢
  simp only[UY];refine Mx ?_
  repeat' ((first|exact tt|refine Ab hO ?_|refine Ab hD ?_|refine c1 hF ?_|refine c2 hF ?_|refine na fun b=>?_|refine nb fun b hb=>?_|refine iq ?_|(refine jq ?_ ?_<;>intro h h')|exact wZ|refine Aa ?_ ?_)<;>try refine Mx ?_)
  all_goals exact AG (by simp[Am,lk,r_two,rl_cons,rl_nil,Br,al_agg,al_bool,view,l_all, *]) (A6 _)
noncomputable def JE (L:List PrP) (p:List UInt8) (c:Int) (x:Es):List PrP:=if (Cd x).2=0 then CQ L (Ah 7 p c 0) (Cd x).1 else L
noncomputable def KH (p:List UInt8) (c:Int) (x:Es):Int:=if (Cd x).2=0 then FA (Ah 7 p c 0) (Cd x).1 else (Cd x).2
theorem a3s(x:Es)(h:x.p.length≤100000):(Cd x).1.length≤1000000:=by
 unfold Cd
 split
 ·have h1:=fun n=>C5 n
  have a:=h1 (B1 x.cl);have b:=h1 (B1 x.o);have c:=h1 x.p.length;have d:=h1 x.c;have e:=h1 x.st
  simp only[Es.enc,Ao];omega
 ·simp
theorem a0Y(s:Nat)(L:List PrP)(hI:StI L)(p:List UInt8)(c:Int)(hp:p.length≤1000000)(e:Es)(he:e.p.length≤100000)(x:Bl)(hx:stOk s L x):
  CT Tryz.prog 73 [.ptr s 0,.agg [.str p,.int .i64 c],.agg e.cs] (lk (AF s L x)) (IZ s L (JE L p c e) x (KH p c e)):=by
 have hl:=hI.len
 have hS:=MG s L hI.rise (by omega) (Ah 7 p c 0) (Cd e).1 (by have:=Ky 7 p c 0;omega) (a3s e he) x hx
 have hO:=D8 7 p c 0 hp
 have hE:=a8E e he
 have hgs:=hx.d
 unfold JE KH
 generalize Ah 7 p c 0=k at *
 generalize Cd e=z at *
 refine a7R _ _ _ (by simp) ?_
 by_cases hz:z.2=0
 ·rw[Af hz,Af hz]
  clear hI hx
  generalize CQ L k z.1=L' at *
  generalize FA k z.1=E at *
  rw[hz]at hE
  rcases x with _ | ⟨g,cap⟩
  all_goals
   simp only[B4,Bq,Ce,AA]at hgs hS ⊢
   simp only[Q7];refine Mx ?_
   repeat' ((first|exact tt|refine Ab hO ?_|refine Ab hE ?_|((refine Iz hS (fun h0=>?_) (fun b c hn h2 hc=>?_))<;>(try simp only[Bt,Bu,Bc]at hn))|((refine Ex hS (fun c hc=>?_) (fun b c hn h2 hc=>?_))<;>(try simp only[Bt,Bu,Bc]at hn))|refine na fun b=>?_|refine nb fun b hb=>?_|refine iq ?_|(refine jq ?_ ?_<;>intro h h')|exact wZ|refine Aa ?_ ?_)<;>try refine Mx ?_)
   all_goals first
   | exact Ch (L:=L) (x:=none) none ⟨by first|exact h0|exact hx,fun _=>rfl⟩ Ic NQ
   | exact Ch (L:=L) (x:=none) (some (b,c)) ⟨⟨h2,hc⟩,fun h=>by cases h⟩ Ic NS
   | exact Ch (L:=L) (x:=some (g,cap)) (some (g,c)) ⟨⟨hgs,hc⟩,fun h=>by cases h⟩ Ic Fz
   | exact Ch (L:=L) (x:=some (g,cap)) (some (b,c)) ⟨⟨h2,hc⟩,fun h=>by cases h⟩ Ic Fz
   | exact Ch (L:=L) (x:=some (g,cap)) (some (g,cap)) ⟨hx,fun h=>by cases h⟩ Ic Fz
 ·rw[Ad hz,Ad hz]
  have f1:Ac (decide (z.2=0)=false):=by simp only[Ac,Hn];exact hz
  clear hS
  rcases x with _ | ⟨g,cap⟩
  all_goals
   simp only[B4,Bq,Ce,AA]at hgs ⊢
   simp only[Q7];refine Mx ?_
   repeat' ((first|exact tt|refine Ab hO ?_|refine Ab hE ?_|refine na fun b=>?_|refine nb fun b hb=>?_|refine iq ?_|(refine jq ?_ ?_<;>intro h h')|exact wZ|refine Aa ?_ ?_)<;>try refine Mx ?_)
   all_goals first
   | exact Ch (L:=L) (x:=none) none ⟨by first|exact h0|exact hx,fun _=>rfl⟩ Ic NQ
   | exact Ch (L:=L) (x:=none) (some (b,c)) ⟨⟨h2,hc⟩,fun h=>by cases h⟩ Ic NS
   | exact Ch (L:=L) (x:=some (g,cap)) (some (g,c)) ⟨⟨hgs,hc⟩,fun h=>by cases h⟩ Ic Fz
   | exact Ch (L:=L) (x:=some (g,cap)) (some (b,c)) ⟨⟨h2,hc⟩,fun h=>by cases h⟩ Ic Fz
   | exact Ch (L:=L) (x:=some (g,cap)) (some (g,cap)) ⟨hx,fun h=>by cases h⟩ Ic Fz
end
section
open Go.RowKit
abbrev Wd:=BitVec 32
def wI(x:Wd):Int:=(x.toNat:Int)
abbrev aW(x:Wd):AV:=.int .u32 (wI x)
theorem wrap_u32(n:Int):IntKind.wrap .u32 n=n % 4294967296:=rfl
theorem a1y(x:Wd):0≤wI x∧wI x<4294967296:=by
 have:=x.isLt
 unfold wI;omega
theorem QA(x:Wd):wI x % 4294967296=wI x:=Int.emod_eq_of_lt (a1y x).1 (a1y x).2
theorem KU(x:Wd):BitVec.ofInt 32 (wI x)=x:=by
 unfold wI;simp
theorem Ob(x y:Wd):IntKind.wrap .u32 (wI x+wI y)=wI (x+y):=by
 rw[wrap_u32];unfold wI;rw[BitVec.toNat_add];omega
theorem Of(x y:Wd):IntKind.wrap .u32 ((BitVec.ofInt (IntKind.bits .u32) (wI x) ^^^ BitVec.ofInt (IntKind.bits .u32) (wI y)).toNat)=wI (x ^^^ y):=by
 show IntKind.wrap .u32 (((BitVec.ofInt 32 (wI x)) ^^^ (BitVec.ofInt 32 (wI y))).toNat:Int)=_
 rw[KU,KU,wrap_u32];exact QA _
theorem Oc(x y:Wd):IntKind.wrap .u32 ((BitVec.ofInt (IntKind.bits .u32) (wI x) &&& BitVec.ofInt (IntKind.bits .u32) (wI y)).toNat)=wI (x &&& y):=by
 show IntKind.wrap .u32 (((BitVec.ofInt 32 (wI x)) &&& (BitVec.ofInt 32 (wI y))).toNat:Int)=_
 rw[KU,KU,wrap_u32];exact QA _
theorem J1(x y:Wd):IntKind.wrap .u32 ((BitVec.ofInt (IntKind.bits .u32) (wI x) ||| BitVec.ofInt (IntKind.bits .u32) (wI y)).toNat)=wI (x ||| y):=by
 show IntKind.wrap .u32 (((BitVec.ofInt 32 (wI x)) ||| (BitVec.ofInt 32 (wI y))).toNat:Int)=_
 rw[KU,KU,wrap_u32];exact QA _
theorem Od(x:Wd):IntKind.wrap .u32 ((BitVec.ofInt (IntKind.bits .u32) (if IntKind.signed .u32=true then -1 else IntKind.max .u32) ^^^ BitVec.ofInt (IntKind.bits .u32) (wI x)).toNat)=wI (~~~x):=by
 show IntKind.wrap .u32 (((BitVec.ofInt 32 4294967295) ^^^ (BitVec.ofInt 32 (wI x))).toNat:Int)=_
 rw[KU,wrap_u32,show BitVec.ofInt 32 4294967295=BitVec.allOnes 32 from rfl,BitVec.allOnes_xor];exact QA _
theorem Ty(m:Nat):((2:Int) ^ m)=((2 ^ m:Nat):Int):=by
 induction m with
 | zero=>rfl
 | succ m ih=>rw[Int.pow_succ,ih,F8];rfl
theorem G0(x:Wd)(n:Nat):(wI x).fdiv (2 ^ (min n (IntKind.bits .u32)))=wI (x >>> n):=by
 show (wI x).fdiv (2 ^ (min n 32))=_
 unfold wI
 rw[BitVec.toNat_ushiftRight,Nat.shiftRight_eq_div_pow,Ty,Int.fdiv_eq_ediv_of_nonneg _ (Int.natCast_nonneg _)]
 have key:x.toNat / 2 ^ (min n 32)=x.toNat / 2 ^ n:=by
  rcases Nat.le_total n 32 with h|h
  ·rw[Nat.min_eq_left h]
  ·rw[Nat.min_eq_right h,Nat.div_eq_of_lt x.isLt,Nat.div_eq_of_lt (Nat.lt_of_lt_of_le x.isLt (Nat.pow_le_pow_right (by omega) h))]
 rw[← key];rfl
theorem J2(x:Wd)(n:Nat):IntKind.wrap .u32 (wI x * 2 ^ (min n (IntKind.bits .u32)))=wI (x <<< n):=by
 show IntKind.wrap .u32 (wI x * 2 ^ (min n 32))=_
 rw[wrap_u32]
 unfold wI
 rw[BitVec.toNat_shiftLeft,Nat.shiftLeft_eq,Ty]
 have key:x.toNat * 2 ^ (min n 32) % 4294967296=x.toNat * 2 ^ n % 2 ^ 32:=by
  rcases Nat.le_total n 32 with h|h
  ·rw[Nat.min_eq_left h]
  ·rw[Nat.min_eq_right h]
   have h1:x.toNat * 2 ^ n % 2 ^ 32=0:=by
    rw[show n=32+(n - 32) by omega,Nat.pow_add, ← Nat.mul_assoc,Nat.mul_right_comm]
    exact Nat.mul_mod_left _ _
   rw[h1];exact Nat.mul_mod_left _ _
 rw[← key];rfl
theorem Oe(b:UInt8):IntKind.wrap .u32 (b.toNat:Int)=wI (BitVec.ofNat 32 b.toNat):=by
 rw[wrap_u32];unfold wI
 have:=b.toNat_lt
 rw[BitVec.toNat_ofNat];omega
def wB(x:Wd):UInt8:=UInt8.ofNat x.toNat
theorem QB(x:Wd):IntKind.wrap .u8 (wI x)=((wB x).toNat:Int):=by
 show wI x % 256=_
 unfold wB wI
 rw[UInt8.toNat_ofNat'];omega
def Cv(x:Wd)(n:Nat):Wd:=(x <<< (32 - n)) ||| (x >>> n)
theorem b0M(x:Wd)(n:Nat):(x >>> n) ||| (x <<< (32 - n))=Cv x n:=BitVec.or_comm _ _
structure S8 where
 a:Wd
 b:Wd
 c:Wd
 d:Wd
 e:Wd
 f:Wd
 g:Wd
 h:Wd
abbrev S8.l(s:S8):List Wd:=[s.a,s.b,s.c,s.d,s.e,s.f,s.g,s.h]
abbrev S8.c8(s:S8):List AV:=[aW s.a,aW s.b,aW s.c,aW s.d,aW s.e,aW s.f,aW s.g,aW s.h]
def stepT(s:S8)(k w:Wd):Wd:=s.h+((Cv s.e 6 ^^^ Cv s.e 11) ^^^ Cv s.e 25)+((s.e &&& s.f) ^^^ (~~~s.e &&& s.g))+k+w
def TS(s:S8):Wd:=((Cv s.a 2 ^^^ Cv s.a 13) ^^^ Cv s.a 22)+(((s.a &&& s.b) ^^^ (s.a &&& s.c)) ^^^ (s.b &&& s.c))
def N1(s:S8)(k w:Wd):S8:=⟨stepT s k w+TS s,s.a,s.b,s.c,s.d+stepT s k w,s.e,s.f,s.g⟩
def Lc(b:List UInt8)(i:Nat):Wd:=BitVec.ofNat 32 (b.getD i 0).toNat
def Ji(b:List UInt8)(i:Nat):Wd:=((Lc b (4 * i) <<< 24 ||| Lc b (4 * i+1) <<< 16) ||| Lc b (4 * i+2) <<< 8) ||| Lc b (4 * i+3)
def Jz(l:List Wd)(i:Nat):Wd:=l.getD (i - 16) 0+((Cv (l.getD (i - 15) 0) 7 ^^^ Cv (l.getD (i - 15) 0) 18) ^^^ (l.getD (i - 15) 0) >>> 3)+l.getD (i - 7) 0+((Cv (l.getD (i - 2) 0) 17 ^^^ Cv (l.getD (i - 2) 0) 19) ^^^ (l.getD (i - 2) 0) >>> 10)
def BJ(b:List UInt8):Nat→List Wd
 | 0=>[]
 | i+1=>BJ b i++[if i<16 then Ji b i else Jz (BJ b i) i]
theorem HD(b:List UInt8)(n:Nat):(BJ b n).length=n:=by
 induction n with
 | zero=>rfl
 | succ n ih=>simp[BJ,ih]
def Dl(b:List UInt8)(n:Nat):List Wd:=BJ b n++List.replicate (64 - n) 0
theorem P9(b:List UInt8)(n:Nat)(h:n≤64):(Dl b n).length=64:=by simp[Dl,HD];omega
theorem b1V(b:List UInt8)(n i:Nat)(h:i<n):(Dl b n).getD i 0=(BJ b n).getD i 0:=by
 simp only[Dl,List.getD]
 rw[CB (by rw[HD];exact h)]
theorem Qa(b:List UInt8)(n:Nat)(h:n<64)(x:Wd)(hx:x=if n<16 then Ji b n else Jz (BJ b n) n):(Dl b n).set n x=Dl b (n+1):=by
 subst hx
 unfold Dl
 rw[List.set_append_right _ _ (by rw[HD];exact A8 n),HD,Nat.sub_self,show 64 - n=(64 - (n+1))+1 by omega,J7,List.set_cons_zero,BJ]
 simp
def shaK:List Wd:=[
  0x428a2f98,0x71374491,0xb5c0fbcf,0xe9b5dba5,0x3956c25b,0x59f111f1,0x923f82a4,0xab1c5ed5,
  0xd807aa98,0x12835b01,0x243185be,0x550c7dc3,0x72be5d74,0x80deb1fe,0x9bdc06a7,0xc19bf174,
  0xe49b69c1,0xefbe4786,0x0fc19dc6,0x240ca1cc,0x2de92c6f,0x4a7484aa,0x5cb0a9dc,0x76f988da,
  0x983e5152,0xa831c66d,0xb00327c8,0xbf597fc7,0xc6e00bf3,0xd5a79147,0x06ca6351,0x14292967,
  0x27b70a85,0x2e1b2138,0x4d2c6dfc,0x53380d13,0x650a7354,0x766a0abb,0x81c2c92e,0x92722c85,
  0xa2bfe8a1,0xa81a664b,0xc24b8b70,0xc76c51a3,0xd192e819,0xd6990624,0xf40e3585,0x106aa070,
  0x19a4c116,0x1e376c08,0x2748774c,0x34b0bcb5,0x391c0cb3,0x4ed8aa4a,0x5b9cca4f,0x682e6ff3,
  0x748f82ee,0x78a5636f,0x84c87814,0x8cc70208,0x90befffa,0xa4506ceb,0xbef9a3f7,0xc67178f2]
def sha0:S8:=⟨0x6a09e667,0xbb67ae85,0x3c6ef372,0xa54ff53a,0x510e527f,0x9b05688c,0x1f83d9ab,0x5be0cd19⟩
def Fi(s:S8)(W:List Wd):Nat→S8
 | 0=>s
 | i+1=>N1 (Fi s W i) (shaK.getD i 0) (W.getD i 0)
def J9(s t:S8):S8:=⟨s.a+t.a,s.b+t.b,s.c+t.c,s.d+t.d,s.e+t.e,s.f+t.f,s.g+t.g,s.h+t.h⟩
def Kw(s:S8)(b:List UInt8):S8:=J9 s (Fi s (BJ b 64) 64)
def Ef(b:List UInt8):Nat→S8
 | 0=>sha0
 | n+1=>Kw (Ef b n) ((b.drop (64 * n)).take 64)
def len8(n:Nat):List UInt8:=(List.range 8).map fun k=>UInt8.ofNat (n * 8 / 2 ^ (8 * (7 - k)))
def BQ(s:List UInt8):List UInt8:=s++(128::List.replicate ((119 - s.length % 64) % 64) 0++len8 s.length)
def JA(s:S8)(i:Nat):UInt8:=wB ((s.l.getD (i / 4) 0) >>> (24 - 8 * (i % 4)))
def CJ(s:S8):List UInt8:=(List.range 32).map (JA s)
def Er(s:S8)(i:Nat):List UInt8:=(List.range i).map (JA s)++List.replicate (32 - i) 0
theorem PL(s:S8)(i:Nat)(h:i≤32):(Er s i).length=32:=by simp[Er];omega
theorem Zb(s:S8)(i:Nat)(h:i<32)(x:UInt8)(hx:x=JA s i):(Er s i).set i x=Er s (i+1):=by
 subst hx
 unfold Er
 have e:((List.range i).map (JA s)).length=i:=by simp
 rw[List.set_append_right _ _ (by rw[e];exact A8 i),e,Nat.sub_self,show 32 - i=(32 - (i+1))+1 by omega,J7,List.set_cons_zero,List.range_succ]
 simp
theorem Za(s:S8):Er s 32=CJ s:=by simp[Er,CJ]
def BB(s:List UInt8):List UInt8:=CJ (Ef (BQ s) ((BQ s).length / 64))
theorem FB(s:List UInt8):(BB s).length=32:=by simp[BB,CJ]
theorem ZJ(s:List UInt8):(BQ s).length=64 * ((BQ s).length / 64)∧64≤(BQ s).length:=by
 have h:(BQ s).length=s.length+(1+(119 - s.length % 64) % 64+8):=by simp[BQ,len8];omega
 omega
end
section
open Go.RowKit
def eight(n:Nat):List UInt8:=[UInt8.ofNat (n / 72057594037927936),UInt8.ofNat (n / 281474976710656),UInt8.ofNat (n / 1099511627776),UInt8.ofNat (n / 4294967296),UInt8.ofNat (n / 16777216),UInt8.ofNat (n / 65536),UInt8.ofNat (n / 256),UInt8.ofNat n]
theorem Hj(n:Nat):(eight n).length=8:=rfl
def Ar(n:Nat):Nat:=2 ^ Nat.log2 (n - 1)
theorem IG(n:Nat):0<Ar n:=Nat.two_pow_pos _
theorem HT{n:Nat}(h:1<n):Ar n<n:=by
 have:=Nat.log2_self_le (n:=n - 1) (by omega)
 unfold Ar;omega
theorem XG{n:Nat}(h:1<n):n≤2 * Ar n:=by
 have:=Nat.lt_log2_self (n:=n - 1)
 rw[F8]at this
 unfold Ar;omega
theorem a3Y{n k:Nat}(h1:2 ^ k<n)(h2:n≤2 * 2 ^ k):2 ^ k=Ar n:=by
 have e:Nat.log2 (n - 1)=k:=by
  rw[Nat.log2_eq_iff (by omega),F8]
  omega
 unfold Ar;rw[e]
def BU(n i:Nat):Nat:=
 if h:1<n then 1+(if i<Ar n then BU (Ar n) i else BU (n - Ar n) (i - Ar n)) else 0
termination_by n
decreasing_by
 ·exact HT h
 ·have:=IG n;omega
theorem Lu{n i:Nat}(h:n≤1):BU n i=0:=by unfold BU;rw[dif_neg (by omega)]
theorem OS{n i:Nat}(h:1<n)(hi:i<Ar n):BU n i=BU (Ar n) i+1:=by rw[BU,dif_pos h,Af hi,Nat.add_comm]
theorem OR{n i:Nat}(h:1<n)(hi:¬ i<Ar n):BU n i=BU (n - Ar n) (i - Ar n)+1:=by rw[BU,dif_pos h,Ad hi,Nat.add_comm]
theorem Lt:∀ (k n i:Nat),n≤2 ^ k→BU n i≤k
 | 0,n,i,h=>by rw[Lu (by simpa using h)];omega
 | k+1,n,i,h=>by
  by_cases h1:1<n
  ·have hk:Ar n≤2 ^ k:=by
    unfold Ar
    refine Nat.pow_le_pow_right (by omega) ?_
    have:Nat.log2 (n - 1)<k+1:=by rw[Nat.log2_lt (by omega)];omega
    omega
   have hg:=XG h1
   by_cases hi:i<Ar n
   ·rw[OS h1 hi];have:=Lt k (Ar n) i hk;omega
   ·rw[OR h1 hi];have:=Lt k (n - Ar n) (i - Ar n) (by omega);omega
  ·rw[Lu (by omega)];omega
abbrev Hs:=List UInt8
def F3:Hs:=List.replicate 32 0
def EM(a b:Hs):Hs:=BB (1::(a++b))
def DG(k v:List UInt8):Hs:=BB (0::(eight k.length++(k++v)))
def DJ(n:Nat)(top:Hs):Hs:=BB (2::(eight n++top))
theorem LX(a b:Hs):(EM a b).length=32:=FB _
theorem Ks(k v:List UInt8):(DG k v).length=32:=FB _
theorem JJ(n:Nat)(t:Hs):(DJ n t).length=32:=FB _
def Cl(way:List Hs)(leaf:Hs):Nat→Nat→Nat→Hs
 | 0,_,_=>leaf
 | m+1,n,i=>if i<Ar n then EM (Cl way leaf m (Ar n) i) (way.getD m []) else EM (way.getD m []) (Cl way leaf m (n - Ar n) (i - Ar n))
theorem O4{way:List Hs}{leaf:Hs}(h:leaf.length=32):∀ m n i,(Cl way leaf m n i).length=32
 | 0,_,_=>h
 | m+1,n,i=>by
  unfold Cl
  split<;>exact LX _ _
theorem O5{way:List Hs}{leaf:Hs}(k:Nat):∀ m n i,m≤k→Cl (way.take k) leaf m n i=Cl way leaf m n i
 | 0,_,_,_=>rfl
 | m+1,n,i,h=>by
  have e:(way.take k).getD m []=way.getD m []:=by simp[List.getD,HM,show m<k by omega]
  unfold Cl
  rw[O5 k m _ _ (by omega),O5 k m _ _ (by omega),e]
def CU(l:List Hs):Hs:=
 if h:1<l.length then EM (CU (l.take (Ar l.length))) (CU (l.drop (Ar l.length))) else l.getD 0 F3
termination_by l.length
decreasing_by
 ·have:=HT h;simp;omega
 ·have:=IG l.length;simp;omega
theorem TW{l:List Hs}(h:l.length≤1):CU l=l.getD 0 F3:=by unfold CU;rw[dif_neg (by omega)]
theorem a1p{l:List Hs}(h:1<l.length):CU l=EM (CU (l.take (Ar l.length))) (CU (l.drop (Ar l.length))):=by rw[CU,dif_pos h]
theorem HH{l:List Hs}(h:∀ x∈l,x.length=32):(CU l).length=32:=by
 by_cases h1:1<l.length
 ·rw[a1p h1];exact LX _ _
 ·rw[TW (by omega)]
  cases l with
  | nil=>rfl
  | cons x r=>exact h x (by simp)
def Ci(l:List Hs)(i:Nat):List Hs:=
 if h:1<l.length then (if i<Ar l.length then Ci (l.take (Ar l.length)) i++[CU (l.drop (Ar l.length))] else Ci (l.drop (Ar l.length)) (i - Ar l.length)++[CU (l.take (Ar l.length))]) else []
termination_by l.length
decreasing_by
 ·have:=HT h;simp;omega
 ·have:=IG l.length;simp;omega
theorem Oh{l:List Hs}{i:Nat}(h:l.length≤1):Ci l i=[]:=by unfold Ci;rw[dif_neg (by omega)]
theorem T5{l:List Hs}{i:Nat}(h:1<l.length)(hi:i<Ar l.length):Ci l i=Ci (l.take (Ar l.length)) i++[CU (l.drop (Ar l.length))]:=by rw[Ci,dif_pos h,Af hi]
theorem T4{l:List Hs}{i:Nat}(h:1<l.length)(hi:¬ i<Ar l.length):Ci l i=Ci (l.drop (Ar l.length)) (i - Ar l.length)++[CU (l.take (Ar l.length))]:=by rw[Ci,dif_pos h,Ad hi]
theorem T6:∀ (k:Nat) (l:List Hs) (i:Nat),l.length≤k→(∀ x∈l,x.length=32)→∀ x∈Ci l i,x.length=32
 | 0,l,i,hk,h=>by rw[Oh (by omega)];simp
 | k+1,l,i,hk,h=>by
  by_cases h1:1<l.length
  ·have a:=HT h1
   have b:=IG l.length
   have ht:∀ x∈l.take (Ar l.length),x.length=32:=fun x hx=>h x (EZ hx)
   have hd:∀ x∈l.drop (Ar l.length),x.length=32:=fun x hx=>h x (EY hx)
   by_cases hi:i<Ar l.length
   ·rw[T5 h1 hi]
    intro x hx
    rcases Bv.1 hx with hx|hx
    ·exact T6 k _ i (by simp;omega) ht x hx
    ·rw[G6.1 hx];exact HH hd
   ·rw[T4 h1 hi]
    intro x hx
    rcases Bv.1 hx with hx|hx
    ·exact T6 k _ _ (by simp;omega) hd x hx
    ·rw[G6.1 hx];exact HH ht
  ·rw[Oh (by omega)];simp
theorem Og:∀ (k:Nat) (l:List Hs) (i:Nat),l.length≤k→(Ci l i).length=BU l.length i
 | 0,l,i,hk=>by rw[Oh (by omega),Lu (by omega)];rfl
 | k+1,l,i,hk=>by
  by_cases h1:1<l.length
  ·have a:=HT h1
   have b:=IG l.length
   by_cases hi:i<Ar l.length
   ·rw[T5 h1 hi,OS h1 hi,Ao,Og k _ i (by simp;omega)]
    simp[Nat.min_eq_left (Nat.le_of_lt a)]
   ·rw[T4 h1 hi,OR h1 hi,Ao,Og k _ _ (by simp;omega)]
    simp
  ·rw[Oh (by omega),Lu (by omega)];rfl
structure LfC where
 k:List UInt8
 v:List UInt8
 i:Int
 p:List Hs
 h:∀ x∈p,x.length=32
instance:Inhabited LfC:=⟨⟨[],[],0,[],by simp⟩⟩
theorem LfC.ext4{a b:LfC}(h1:a.k=b.k)(h2:a.v=b.v)(h3:a.i=b.i)(h4:a.p=b.p):a=b:=by
 obtain ⟨a1,a2,a3,a4,_⟩:=a;obtain ⟨b1,b2,b3,b4,_⟩:=b
 simp only at h1 h2 h3 h4
 subst h1;subst h2;subst h3;subst h4;rfl
structure PfC where
 c:Int
 l:List LfC
 deriving Inhabited
def ET(k v:List UInt8):Bool:=decide (1≤k.length∧k.length≤160∧1≤v.length∧v.length≤64)
def Hr(c:Int)(x:LfC):Bool:=ET x.k x.v&&(decide (0≤x.i∧x.i<c)&&decide (x.p.length=BU c.toNat x.i.toNat))
def D7(p:PfC):Bool:=decide (0≤p.c∧p.c≤1073741824∧p.l.length≤2)&&p.l.all (Hr p.c)
def hI(l:Hs):List Int:=l.map fun b=>(b.toNat:Int)
theorem O9(l:Hs):(hI l).length=l.length:=by simp[hI]
def ED(root:List Int)(c:Int)(x:LfC):Bool:=decide (hI (DJ c.toNat (Cl x.p (DG x.k x.v) x.p.length c.toNat x.i.toNat))=root)
def DO(root:List Int)(p:PfC)(key:List UInt8):Option (List UInt8):=
 if D7 p=true∧p.l.length=1∧(p.l.getD 0 default).k=key∧ED root p.c (p.l.getD 0 default)=true then some (p.l.getD 0 default).v else none
def IH(root:List Int)(p:PfC)(key val:List UInt8):Bool:=decide (DO root p key=some val)
def DY(a b:List UInt8):Bool:=Op.bytesLess a b
def Sq(root:List Int)(p:PfC)(key:List UInt8):Bool:=
 D7 p&&(p.l.all (ED root p.c)&&match p.l with
  | []=>decide (p.c=0)&&decide (root=hI (DJ 0 F3))
  | [x]=>decide (x.i=0)&&DY key x.k||decide (x.i=p.c - 1)&&DY x.k key
  | x::y::_=>decide (y.i=x.i+1)&&(DY x.k key&&DY key y.k))
def GG(l:List (List UInt8 × List UInt8)):Bool:=l.all (fun q=>ET q.1 q.2)&&(List.range l.length).all fun i=>decide (i=0)||DY (l.getD (i - 1) default).1 (l.getD i default).1
def Bz(l:List (List UInt8 × List UInt8)):List Hs:=l.map fun q=>DG q.1 q.2
theorem Nx(l:List (List UInt8 × List UInt8)):∀ x∈Bz l,x.length=32:=fun x hx=>by
 obtain ⟨q,_,rfl⟩:=Dp.1 hx;exact Ks _ _
def KN(l:List (List UInt8 × List UInt8)):Hs:=DJ l.length (CU (Bz l))
def Fb(l:List (List UInt8 × List UInt8))(i:Nat):LfC:=⟨(l.getD i default).1,(l.getD i default).2,i,Ci (Bz l) i,T6 _ _ i (A8 _) (Nx l)⟩
def DI(l:List (List UInt8 × List UInt8))(key:List UInt8):PfC:=
 let k:=(l.takeWhile fun q=>DY q.1 key).length
 if GG l=true then ⟨l.length,if k<l.length∧(l.getD k default).1=key then [Fb l k] else (if 0<k then [Fb l (k - 1)] else [])++(if k<l.length then [Fb l k] else [])⟩ else ⟨0,[]⟩
end
end Go.Proofs.YtfgihnhoocnmdaaGreatDoor
namespace Go.Proofs
open Go.Shelf
end Go.Proofs
namespace Go.Proofs.YtfgihnhoocnmdaaGreatDoor
set_option linter.all false
set_option maxHeartbeats 64000000
set_option maxRecDepth 100000
section
open Go.RowKit Go.Lib
def EC(k:Int):Bool:=decide (4≤k)&&decide (k≤6)
theorem GR{A B:Prop}(h:B)(e:A=B:=by (simp (disch:=omega) only[*, ↓Ed,Eu, ↓reduceIte,reduceCtorEq,Nat.reduceAdd,Nat.reduceEqDiff,Nat.reduceLT,Nat.reduceLeDiff,Int.reduceToNat,Int.reduceEq,Int.reduceLT,Int.reduceLE,Ap];first|done|rfl)):A:=e▸h
theorem PU(k:Int):CP Tryz.prog 74 [.int .i64 k] (.bool (EC k)):=by
 refine a5Q _ _ (by simp) ?_
 unfold EC
 simp only[U5];refine GR ?_
 repeat' ((first|exact tt|refine na fun b=>?_|refine nb fun b hb=>?_|refine iq ?_|(refine jq ?_ ?_<;>intro h h')|exact wZ|refine Aa ?_ ?_)<;>try refine GR ?_)
 all_goals (first|rw[Gt]|(rw[A0 (by omega:¬ 4≤k)];rfl))
def EO(k n:Int):Bool:=EC k&&(decide (1≤n)&&decide (n≤1099511627777))
noncomputable def JL (L:List PrP) (k:Int) (p:List UInt8) (c n:Int):List PrP:=if EO k n=true then CQ L (Ah k p c 0) (pn n) else L
noncomputable def KQ (k:Int) (p:List UInt8) (c n:Int):Int:=if EO k n=true then FA (Ah k p c 0) (pn n) else 1
theorem N5(s:Nat)(L:List PrP)(hI:StI L)(k:Int)(p:List UInt8)(c:Int)(hp:p.length≤1000000)(n:Int)(x:Bl)(hx:stOk s L x):
  CT Tryz.prog 56 [.ptr s 0,.int .i64 k,.agg [.str p,.int .i64 c],.int .i64 n] (lk (AF s L x)) (IZ s L (JL L k p c n) x (KQ k p c n)):=by
 have hl:=hI.len
 have hS:=MG s L hI.rise (by omega) (Ah k p c 0) (pn n) (by have:=Ky k p c 0;omega) (by have:=C5 n;omega) x hx
 have hO:=D8 k p c 0 hp
 have hU:=ND n
 have hN:=PU k
 have hC:=Tj n
 have hgs:=hx.d
 unfold JL KQ EO
 generalize Ah k p c 0=key at *
 generalize pn n=v at *
 generalize EC k=a at *
 generalize (decide (1≤n)&&decide (n≤1099511627777))=b at *
 refine a7S _ _ _ (by simp) ?_
 cases a with
 | true=>
  cases b with
  | true=>
   simp only[Bool.and_self,Bo]
   clear hI hx
   generalize CQ L key v=L' at *
   generalize FA key v=E at *
   rcases x with _ | ⟨g,cap⟩
   all_goals
    simp only[B4,Bq,Ce,AA]at hgs hS ⊢
    simp only[OE];refine GR ?_
    repeat' ((first|exact tt|refine Ab hO ?_|refine Ab hU ?_|refine Ab hN ?_|refine Ab hC ?_|((refine Iz hS (fun h0=>?_) (fun b c hn h2 hc=>?_))<;>(try simp only[Bt,Bu,Bc]at hn))|((refine Ex hS (fun c hc=>?_) (fun b c hn h2 hc=>?_))<;>(try simp only[Bt,Bu,Bc]at hn))|refine na fun b=>?_|refine nb fun b hb=>?_|refine iq ?_|(refine jq ?_ ?_<;>intro h h')|exact wZ|refine Aa ?_ ?_)<;>try refine GR ?_)
    all_goals first
    | exact Ch (L:=L) (x:=none) none ⟨by first|exact h0|exact hx,fun _=>rfl⟩ Ic NQ
    | exact Ch (L:=L) (x:=none) (some (b,c)) ⟨⟨h2,hc⟩,fun h=>by cases h⟩ Ic NS
    | exact Ch (L:=L) (x:=some (g,cap)) (some (g,c)) ⟨⟨hgs,hc⟩,fun h=>by cases h⟩ Ic Fz
    | exact Ch (L:=L) (x:=some (g,cap)) (some (b,c)) ⟨⟨h2,hc⟩,fun h=>by cases h⟩ Ic Fz
    | exact Ch (L:=L) (x:=some (g,cap)) (some (g,cap)) ⟨hx,fun h=>by cases h⟩ Ic Fz
  | false=>
   simp only[Bool.and_false,Bool.false_and,D3,BV]
   clear hS
   rcases x with _ | ⟨g,cap⟩
   all_goals
    simp only[B4,Bq,Ce,AA]at hgs ⊢
    simp only[OE];refine GR ?_
    repeat' ((first|exact tt|refine Ab hO ?_|refine Ab hU ?_|refine Ab hN ?_|refine Ab hC ?_|refine na fun b=>?_|refine nb fun b hb=>?_|refine iq ?_|(refine jq ?_ ?_<;>intro h h')|exact wZ|refine Aa ?_ ?_)<;>try refine GR ?_)
    all_goals first
    | exact Ch (L:=L) (x:=none) none ⟨by first|exact h0|exact hx,fun _=>rfl⟩ Ic NQ
    | exact Ch (L:=L) (x:=none) (some (b,c)) ⟨⟨h2,hc⟩,fun h=>by cases h⟩ Ic NS
    | exact Ch (L:=L) (x:=some (g,cap)) (some (g,c)) ⟨⟨hgs,hc⟩,fun h=>by cases h⟩ Ic Fz
    | exact Ch (L:=L) (x:=some (g,cap)) (some (b,c)) ⟨⟨h2,hc⟩,fun h=>by cases h⟩ Ic Fz
    | exact Ch (L:=L) (x:=some (g,cap)) (some (g,cap)) ⟨hx,fun h=>by cases h⟩ Ic Fz
 | false=>
  simp only[Bool.and_false,Bool.false_and,D3,BV]
  clear hS
  rcases x with _ | ⟨g,cap⟩
  all_goals
   simp only[B4,Bq,Ce,AA]at hgs ⊢
   simp only[OE];refine GR ?_
   repeat' ((first|exact tt|refine Ab hO ?_|refine Ab hU ?_|refine Ab hN ?_|refine Ab hC ?_|refine na fun b=>?_|refine nb fun b hb=>?_|refine iq ?_|(refine jq ?_ ?_<;>intro h h')|exact wZ|refine Aa ?_ ?_)<;>try refine GR ?_)
   all_goals first
   | exact Ch (L:=L) (x:=none) none ⟨by first|exact h0|exact hx,fun _=>rfl⟩ Ic NQ
   | exact Ch (L:=L) (x:=none) (some (b,c)) ⟨⟨h2,hc⟩,fun h=>by cases h⟩ Ic NS
   | exact Ch (L:=L) (x:=some (g,cap)) (some (g,c)) ⟨⟨hgs,hc⟩,fun h=>by cases h⟩ Ic Fz
   | exact Ch (L:=L) (x:=some (g,cap)) (some (b,c)) ⟨⟨h2,hc⟩,fun h=>by cases h⟩ Ic Fz
   | exact Ch (L:=L) (x:=some (g,cap)) (some (g,cap)) ⟨hx,fun h=>by cases h⟩ Ic Fz
noncomputable def Fg (L:List PrP) (k:Int) (p:List UInt8) (c:Int):Int:=
 if EC k=true∧(nx (C2 L (Ah k p c 0)) 0).2.2=0∧¬ (nx (C2 L (Ah k p c 0)) 0).2.1<((C2 L (Ah k p c 0)).length:Int) then (nx (C2 L (Ah k p c 0)) 0).1 else 0
theorem Qs(s:Nat)(L:List PrP)(hI:StI L)(k:Int)(p:List UInt8)(c:Int)(hp:p.length≤1000000)(x:Bl)(hx:stOk s L x):
  CT Tryz.prog 54 [.ptr s 0,.int .i64 k,.agg [.str p,.int .i64 c]] (lk (AF s L x)) (fun r o=>r=.int .i64 (Fg L k p c)∧o=lk (AF s L x)):=by
 have hF:=Qt s L hI.rise (by have:=hI.len;omega) (Ah k p c 0) x hx
 have hO:=D8 k p c 0 hp
 have hv:=hI.getS_len (Ah k p c 0)
 have hD:=Zl (C2 L (Ah k p c 0)) 0 (by omega)
 have hN:=PU k
 have hgs:=hx.d
 unfold Fg
 clear hI hx
 generalize Ah k p c 0=key at *
 generalize C2 L key=v at *
 generalize nx v 0=z at *
 generalize EC k=a at *
 generalize A9 L key=ok at *
 refine a7Q _ _ _ (by simp) ?_
 by_cases h1:a=true∧z.2.2=0∧¬ z.2.1<(v.length:Int)
 ·rw[Af h1]
  obtain ⟨rfl,h2,h3⟩:=h1
  have f2:Ac (decide (z.2.2=0)=true):=by simp only[Ac,Hn];exact h2
  have f3:Ac (decide (z.2.1<(v.length:Int))=false):=by simp only[Ac,Hn];exact h3
  clear h2 h3
  rcases x with _ | ⟨g,cap⟩
  all_goals
   simp only[B4,Bq,Ce,AA]at hgs hF ⊢
   simp only[Q6];refine GR ?_
   repeat' ((first|exact tt|refine Ab hO ?_|refine Ab hD ?_|refine Ab hN ?_|refine c1 hF ?_|refine c2 hF ?_|refine na fun b=>?_|refine nb fun b hb=>?_|refine iq ?_|(refine jq ?_ ?_<;>intro h h')|exact wZ|refine Aa ?_ ?_)<;>try refine GR ?_)
   all_goals exact AG KI (A6 _)
 ·rw[Ad h1]
  rcases x with _ | ⟨g,cap⟩
  all_goals
   simp only[B4,Bq,Ce,AA]at hgs hF ⊢
   simp only[Q6];refine GR ?_
   repeat' ((first|exact tt|refine Ab hO ?_|refine Ab hD ?_|refine Ab hN ?_|refine c1 hF ?_|refine c2 hF ?_|refine na fun b=>?_|refine nb fun b hb=>?_|refine iq ?_|(refine jq ?_ ?_<;>intro h h')|exact wZ|refine Aa ?_ ?_)<;>try refine GR ?_)
   all_goals first|exact AG (by first|(simp[Am,lk,BR,Br, *];done)|fail) (A6 _)|(exfalso;apply h1;simp only[Ac,Hn]at *;refine ⟨by assumption,by omega,by omega⟩)
end
section
open Go.RowKit Go.Sort Go.Shelf
set_option maxRecDepth 100000
end
section
open Go.RowKit Go.Lib
section
variable {P:Program} {d:Option Nat} {s:St} {K:St→Prop}
end
theorem a1h{α:Type}[Inhabited α]{l:List α}{k:Nat}(h:k<l.length):l.take (k+1)=l.take k++[l.getD k default]:=by
 rw[List.take_succ,Aw h];simp[List.getD,h]
end
section
open Go.RowKit Go.Lib
abbrev Hz(L:List PrP):AV:=.sl none 2 (AX L)
theorem a4m{L:List PrP}{k:List UInt8}(h:AE L k<L.length):A9 L k=decide ((L.getD (AE L k) default).1=k):=by simp[A9,h]
theorem Fl{A B:Prop}(h:B)(e:A=B:=by (simp (disch:=omega) only[*, ↓Ed,Eu, ↓reduceIte,reduceCtorEq,Nat.reduceAdd,Nat.reduceEqDiff,Nat.reduceLT,Nat.reduceLeDiff,Int.reduceToNat,Int.reduceEq,Int.reduceLT,Int.reduceLE,Ap,Df,Dw];first|done|rfl)):A:=e▸h
theorem a9R(L:List PrP)(hb:L.length≤100000)(k:List UInt8):CP Tryz.prog 84 [Hz L,.str k] (.tup [.int .i64 (AE L k:Nat),.bool (A9 L k)]):=by
 have hp:=IV L k
 have hpb:=PZ k L
 have hpa:=PY k L
 refine a6y _ _ (by simp) ?_
 simp only[Vu];refine Fl ?_
 repeat' ((first|exact tt|refine na fun b=>?_|refine nb fun b hb=>?_|refine iq ?_|(refine jq ?_ ?_<;>intro h h')|exact wZ|refine Aa ?_ ?_)<;>try refine Fl ?_)
 refine A2 (fun i:Nat=>⟨lk [(0,Hz L),(1,.str k),(6,.int .i64 (i:Int))],lk []⟩) (fun i=>i≤AE L k) (fun i=>AE L k - i) 0 (by omega) (An BA) ?_
 intro i hi
 by_cases hlt:i<AE L k
 ·have f1:Ac (decide ((i:Int)<L.length)=true):=fo
  have f2:Ac (Op.bytesLess (L.getD i default).1 k=true):=hpb i hlt
  clear hpb hpa
  refine Fl ?_
  repeat' ((first|exact tt|refine na fun b=>?_|refine nb fun b hb=>?_|refine iq ?_|(refine jq ?_ ?_<;>intro h h')|exact wZ|refine Aa ?_ ?_)<;>try refine Fl ?_)
  all_goals exact AC (i+1) ⟨An BA,hlt,by omega⟩
 ·obtain rfl:i=AE L k:=by omega
  by_cases hl:AE L k<L.length
  ·have f1:Ac (decide (((AE L k:Nat):Int)<L.length)=true):=fo
   have f2:Ac (Op.bytesLess (L.getD (AE L k) default).1 k=false):=hpa hl
   rw[a4m hl]
   clear hpb hpa hlt
   generalize AE L k=i at *
   refine Fl ?_
   repeat' ((first|exact tt|refine na fun b=>?_|refine nb fun b hb=>?_|refine iq ?_|(refine jq ?_ ?_<;>intro h h')|exact wZ|refine Aa ?_ ?_)<;>try refine Fl ?_)
  ·have f1:Ac (decide (((AE L k:Nat):Int)<L.length)=false):=fo
   rw[XI hl]
   clear hpb hpa hlt
   generalize AE L k=i at *
   refine Fl ?_
   repeat' ((first|exact tt|refine na fun b=>?_|refine nb fun b hb=>?_|refine iq ?_|(refine jq ?_ ?_<;>intro h h')|exact wZ|refine Aa ?_ ?_)<;>try refine Fl ?_)
theorem b0s(L:List PrP)(k v:List UInt8):((AX L).take (AE L k)++[[.str k,.str v]])++(AX L).drop (if A9 L k=true then AE L k+1 else AE L k)=AX (A7 L k v):=by
 simp only[AX,A7,FI,List.map_take,List.map_drop,CX,List.map_nil]
theorem NI(L:List PrP)(hb:L.length≤100000)(k v:List UInt8):CP Tryz.prog 38 [Hz L,.str k,.str v] (.sl (some 102) 2 (AX (A7 L k v))):=by
 have hP:=a9R L hb k
 have hp:=IV L k
 have hl:=Df L
 have hS:=b0s L k v
 have hmx:=Pu
 have e1:(AX L).take L.length=AX L:=by rw[← hl];exact List.take_length
 refine a6u _ _ (by simp) ?_
 cases hh:A9 L k with
 | false=>
  rw[hh]at hP hS
  rw[Ad (by simp)]at hS
  rw[← hS]
  generalize AE L k=i at *
  clear hh hS
  simp only[Rk];refine Fl ?_
  repeat' ((first|exact tt|refine Ab hP ?_|refine na fun b=>?_|refine nb fun b hb=>?_|refine iq ?_|(refine jq ?_ ?_<;>intro h h')|exact wZ|refine Aa ?_ ?_)<;>try refine Fl ?_)
  all_goals ((try rw[show ((i:Int)+1).toNat=i+1 by omega]);simp only[e1,BL,Cc,Ao,AJ,AY,hl,Bc];omega)
 | true=>
  have hlt:=Jv hh
  rw[hh]at hP hS
  rw[Af rfl]at hS
  rw[← hS]
  generalize AE L k=i at *
  clear hh hS
  simp only[Rk];refine Fl ?_
  repeat' ((first|exact tt|refine Ab hP ?_|refine na fun b=>?_|refine nb fun b hb=>?_|refine iq ?_|(refine jq ?_ ?_<;>intro h h')|exact wZ|refine Aa ?_ ?_)<;>try refine Fl ?_)
  all_goals ((try rw[show ((i:Int)+1).toNat=i+1 by omega]);simp only[e1,BL,Cc,Ao,AJ,AY,hl,Bc];omega)
theorem Zk(k v:List UInt8)(hk:k.length≤1000000)(hv:v.length≤1000000):CP Tryz.prog 40 [.str k,.str v] (.bool (B3 k v)):=by
 refine a6r _ _ (by simp) ?_
 unfold B3
 by_cases h:1≤k.length∧k.length≤160∧1≤v.length∧v.length≤64
 ·rw[AO h]
  simp only[Rj];refine Fl ?_
  repeat' ((first|exact tt|refine na fun b=>?_|refine nb fun b hb=>?_|refine iq ?_|(refine jq ?_ ?_<;>intro h h')|exact wZ|refine Aa ?_ ?_)<;>try refine Fl ?_)
  all_goals (simp only[Ac,Hn]at *;omega)
 ·rw[A0 h]
  simp only[Rj];refine Fl ?_
  repeat' ((first|exact tt|refine na fun b=>?_|refine nb fun b hb=>?_|refine iq ?_|(refine jq ?_ ?_<;>intro h h')|exact wZ|refine Aa ?_ ?_)<;>try refine Fl ?_)
  all_goals (simp only[Ac,Hn]at *;omega)
end
section
open Go.RowKit Go.Lib
theorem a5D:(nx [] 0).2.2≠0:=by decide
theorem Qj{A B:Prop}(h:B)(e:A=B:=by (simp (disch:=omega) only[*, ↓Ed,Eu, ↓reduceIte,reduceCtorEq,Nat.reduceAdd,Nat.reduceEqDiff,Nat.reduceLT,Nat.reduceLeDiff,Int.reduceToNat,Int.reduceEq,Int.reduceLT,Int.reduceLE,Ap,Df,Dw];first|done|rfl)):A:=e▸h
theorem a9C(L:List PrP)(hb:L.length≤1000)(p:List UInt8)(c:Int)(hp:p.length≤1000000)(e:Es)(he:e.p.length≤100000):CP Tryz.prog 83 [Hz L,.agg [.str p,.int .i64 c],.agg e.cs] (.sl (some 102) 2 (AX (A7 L (Ah 7 p c 0) (Cd e).1))):=by
 have hS:=NI L (by omega) (Ah 7 p c 0) (Cd e).1
 have hO:=JD 7 p c 0 hp
 have hE:=a8F e he
 refine a6t _ _ (by simp) ?_
 simp only[Vr];refine Qj ?_
 repeat' ((first|exact tt|refine Ab hO ?_|refine Ab hS ?_|refine Ab hE ?_|refine na fun b=>?_|refine nb fun b hb=>?_|refine iq ?_|(refine jq ?_ ?_<;>intro h h')|exact wZ|refine Aa ?_ ?_)<;>try refine Qj ?_)
theorem a9D(L:List PrP)(hb:L.length≤1000)(k:Int)(p:List UInt8)(c:Int)(hp:p.length≤1000000)(n:Int):CP Tryz.prog 61 [Hz L,.int .i64 k,.agg [.str p,.int .i64 c],.int .i64 n] (.sl (some 102) 2 (AX (A7 L (Ah k p c 0) (pn n)))):=by
 have hS:=NI L (by omega) (Ah k p c 0) (pn n)
 have hO:=JD k p c 0 hp
 have hE:=Tf n
 refine a6v _ _ (by simp) ?_
 simp only[Vs];refine Qj ?_
 repeat' ((first|exact tt|refine Ab hO ?_|refine Ab hS ?_|refine Ab hE ?_|refine na fun b=>?_|refine nb fun b hb=>?_|refine iq ?_|(refine jq ?_ ?_<;>intro h h')|exact wZ|refine Aa ?_ ?_)<;>try refine Qj ?_)
end
section
open Go.RowKit Go.Lib
theorem Z2:DT []:=List.Pairwise.nil
structure StN (L:List PrP) (i:Nat):Prop where
 rise:DT L
 may:∀ q∈L,B3 q.1 q.2=true
 len:L.length≤i
theorem StN.I{L:List PrP}{i:Nat}(h:StN L i)(hi:i≤1000):StI L:=⟨h.rise,h.may,by have:=h.len;omega⟩
theorem StN.nil:StN [] 0:=⟨Z2,(fun q h=>by cases h),A8 _⟩
theorem StN.mono{L:List PrP}{i:Nat}(h:StN L i):StN L (i+1):=⟨h.rise,h.may,by have:=h.len;omega⟩
theorem a0o{L:List PrP}{k v:List UInt8}{q:PrP}(h:q∈A7 L k v):q=(k,v)∨q∈L:=by
 unfold A7 at h
 rcases Bv.1 h with h|h
 ·rcases Bv.1 h with h|h
  ·exact .inr (EZ h)
  ·exact .inl (by simpa using h)
 ·exact .inr (EY h)
theorem NZ(L:List PrP)(k v:List UInt8):(A7 L k v).length≤L.length+1:=by
 have hp:=IV L k
 unfold A7
 split<;>simp<;>omega
theorem StN.set{L:List PrP}{i:Nat}(h:StN L i){k v:List UInt8}(hm:B3 k v=true):StN (A7 L k v) (i+1):=
 ⟨Qc h.rise k v,(fun q hq=>by
  rcases a0o hq with rfl|hq
  ·exact hm
  ·exact h.may q hq),by have:=h.len;have:=NZ L k v;omega⟩
theorem StN.put{L:List PrP}{i:Nat}(h:StN L i)(k v:List UInt8):StN (CQ L k v) (i+1):=by
 unfold CQ
 split
 ·rename_i hm;exact h.set hm
 ·exact h.mono
theorem a5E{k:Int}{p:List UInt8}{c q:Int}(h:Ba p c=false):Ah k p c q=[]:=by
 unfold Ah;rw[Af (.inr (by simp[h]))]
theorem YI{k:Int}{p:List UInt8}{c:Int}(hk:4≤k∧k≤7)(h:Ba p c=true):Ah k p c 0≠[]:=by
 unfold Ah
 rw[Ad (by rintro (h1|h1);exact a1D (by omega) h1;exact h1 h),Ad (by omega),Af rfl]
 simp[Iu]
theorem SG{k:Int}{p:List UInt8}{c:Int}{v:List UInt8}(hk:4≤k∧k≤7)(hv:1≤v.length∧v.length≤64):B3 (Ah k p c 0) v=Ba p c:=by
 have hl:=Ky k p c 0
 cases h:Ba p c with
 | false=>rw[a5E h];simp[B3]
 | true=>
  have:=List.length_pos_iff.2 (YI hk h)
  unfold B3
  rw[AO (by omega)]
theorem PX(v:Int)(h:0≤v∧v≤72057594037927935):1≤(pn v).length:=by
 rcases Gv (pn v).length with h0|h0
 ·have e:=Dn h0
  have:=PF [] [] v h
  rw[e]at this
  have h2:nx [] 0=(v,0,0):=by simpa using this
  have:=a5D
  rw[h2]at this
  exact absurd rfl this
 ·exact h0
theorem R1{e:Es}(h:e.may=true):1≤e.enc.length:=by
 have h1:=PX (B1 e.cl) (by unfold B1;split<;>omega)
 simp only[Es.enc,Ao];omega
theorem ZS{L:List PrP}{p:List UInt8}{c:Int}{e:Es}:(KH p c e=0↔(Ba p c&&e.may)=true)∧JE L p c e=if (Ba p c&&e.may)=true then A7 L (Ah 7 p c 0) (Cd e).1 else L:=by
 unfold KH JE
 cases hm:e.may with
 | false=>
  have he:Cd e=([],1):=by simp only[Cd,hm,D3,BV]
  rw[he];simp
 | true=>
  have he:Cd e=(e.enc,0):=by simp only[Cd,hm,Bo]
  rw[he]
  have hk:=SG (k:=7) (p:=p) (c:=c) (v:=e.enc) (by omega) ⟨R1 hm,R0 hm⟩
  simp only[Bo,FA,CQ,hk,Bool.and_true]
  cases Ba p c<;>simp
theorem Mn{L:List PrP}{k:Int}{p:List UInt8}{c n:Int}:(KQ k p c n=0↔(Ba p c&&EO k n)=true)∧JL L k p c n=if (Ba p c&&EO k n)=true then A7 L (Ah k p c 0) (pn n) else L:=by
 unfold KQ JL
 cases ho:EO k n with
 | false=>simp
 | true=>
  have h1:4≤k∧k≤6∧1≤n∧n≤1099511627777:=by
   simp only[EO,EC,AP,Bs]at ho;omega
  have hk:=SG (k:=k) (p:=p) (c:=c) (v:=pn n) (by omega) ⟨PX n (by omega),by have:=C5 n;omega⟩
  simp only[Bo,FA,CQ,hk,Bool.and_true]
  cases Ba p c<;>simp
end
section
open Go.RowKit Go.Sort Go.Shelf
theorem b0p(y:PrP)(r:List PrP)(k:List UInt8):AE (y::r) k=if BX y.1 k=true then AE r k+1 else 0:=by
 unfold AE
 rw[List.takeWhile_cons]
 split<;>simp
end
section
theorem SJ{L:List PrP}(h:DT L){k v:List UInt8}(hm:(k,v)∈L):A9 L k=true∧C2 L k=v:=by
 obtain ⟨i,hi,he⟩:=Do hm
 have hg:L.getD i default=(k,v):=by simp[List.getD,hi,he]
 have hp:AE L k=i:=ZN h k i (by omega) (fun j hj=>by
  have:=KM h hj hi
  rwa [hg]at this) (fun j h1 h2=>by
  by_cases e:j=i
  ·subst e;rw[hg];exact strSTO.irr k
  ·have h3:=KM h (i:=i) (j:=j) (by omega) h2
   rw[hg]at h3
   cases hq:BX (L.getD j default).1 k with
   | false=>rfl
   | true=>have:=strSTO.tr _ _ _ h3 hq;rw[strSTO.irr]at this;cases this)
 have hh:A9 L k=true:=by simp only[A9,hp,hg,hi,decide_true,Bool.and_self]
 exact ⟨hh,by rw[O8 hh,hp,hg]⟩
theorem Sa{L:List PrP}{k:List UInt8}(hh:A9 L k=true):(k,C2 L k)∈L:=by
 have hl:=Jv hh
 have hk:(L.getD (AE L k) default).1=k:=by
  simp only[A9,AP,Bs]at hh;exact hh.2
 have:(k,C2 L k)=L.getD (AE L k) default:=by
  rw[O8 hh];exact Prod.ext hk.symm rfl
 rw[this,List.getD,Aw hl,Cp]
 exact Di hl
theorem b2e(L:List PrP)(k v:List UInt8):(k,v)∈A7 L k v:=by simp[A7]
theorem b2f{L:List PrP}{k v k' v':List UInt8}(hm:(k',v')∈L)(hk:k'≠k):(k',v')∈A7 L k v:=by
 have hp:=IV L k
 cases hh:A9 L k with
 | false=>rw[Qb hh];unfold Dt;rw[← HN (AE L k) L]at hm;rcases Bv.1 hm with h|h<;>simp[h]
 | true=>
  have hl:=Jv hh
  have hkk:(L.getD (AE L k) default).1=k:=by
   simp only[A9,AP,Bs]at hh;exact hh.2
  rw[A7,Af hh]
  rw[← HN (AE L k) L,Jc hl]at hm
  rcases Bv.1 hm with h|h
  ·simp[h]
  ·rcases AZ.1 h with h|h
   ·have e:L[AE L k]=L.getD (AE L k) default:=by simp[List.getD,hl]
    rw[e]at h
    rw[← h]at hkk
    exact absurd hkk hk
   ·simp[h]
theorem a9l{L:List PrP}(h:DT L)(k v:List UInt8):A9 (A7 L k v) k=true∧C2 (A7 L k v) k=v:=SJ (Qc h k v) (b2e L k v)
theorem a3Q{L:List PrP}(h:DT L){k v k':List UInt8}(hk:k'≠k):A9 (A7 L k v) k'=A9 L k'∧C2 (A7 L k v) k'=C2 L k':=by
 cases hh:A9 L k' with
 | true=>exact SJ (Qc h k v) (b2f (Sa hh) hk)
 | false=>
  have h2:A9 (A7 L k v) k'=false:=by
   cases h3:A9 (A7 L k v) k' with
   | false=>rfl
   | true=>
    rcases a0o (Sa h3) with e|e
    ·exact absurd (congrArg Prod.fst e) hk
    ·rw[(SJ h e).1]at hh;cases hh
  exact ⟨h2,by rw[O7 h2,O7 hh]⟩
end
section
open Go.RowKit
theorem a3D{α:Type}[DecidableEq α](ks:List Kd)(ag:Bool)(κ:α→AV)(h:∀ a b,Fa ks ag (κ a) (κ b)=some (decide (a=b)))(a:α)(l:List α):∀ i,Js ks ag (κ a) (l.map κ) i=some ((l.idxOf? a).map (· + i)):=by
 induction l with
 | nil=>intro i;rfl
 | cons x r ih=>
  intro i
  simp only[CX,Js,h,List.idxOf?_cons]
  by_cases hx:a=x
  ·subst hx;simp
  ·have hx2:(x==a)=false:=by simp[Ne.symm hx]
   simp only[hx,decide_false,ih,hx2]
   cases r.idxOf? a<;>simp<;>omega
theorem Jt{α:Type}[DecidableEq α](ks:List Kd)(ag:Bool)(κ:α→AV)(h:∀ a b,Fa ks ag (κ a) (κ b)=some (decide (a=b)))(a:α)(l:List α):B2 ks ag (κ a) (l.map κ)=some (l.idxOf? a):=by
 simp only[B2,h,CY,a3D ks ag κ h]
 cases l.idxOf? a<;>simp
theorem O3{α:Type}[DecidableEq α](ks:List Kd)(ag:Bool)(κ:α→AV)(h:∀ a b,Fa ks ag (κ a) (κ b)=some (decide (a=b)))(a:α)(l:List α)(hn:a ∉ l):B2 ks ag (κ a) (l.map κ)=some none:=by
 rw[Jt ks ag κ h,List.idxOf?_eq_none_iff.2 hn]
theorem Xl{α:Type}[DecidableEq α](ks:List Kd)(ag:Bool)(κ:α→AV)(h:∀ a b,Fa ks ag (κ a) (κ b)=some (decide (a=b)))(a:α)(l:List α)(hn:a ∉ l):B2 ks ag (κ a) (l.map κ++[κ a])=some (some l.length):=by
 have:=Jt ks ag κ h a (l++[a])
 rw[FI,List.map_singleton]at this
 rw[this]
 congr 1
 induction l with
 | nil=>simp[List.idxOf?_cons]
 | cons x r ih=>
  simp only[AZ,not_or]at hn
  have hx:(x==a)=false:=by simp[Ne.symm hn.1]
  have ih':=ih hn.2 (by rw[Jt ks ag κ h a (r++[a]) |>.symm];simp)
  simp only[Bi,List.idxOf?_cons,hx,ih',AJ]
  simp
theorem a0u{α:Type}(l:List α)(z v:α)(k:Nat)(h:l.length=k):(l++[z]).set k v=l++[v]:=by
 rw[List.set_append_right _ _ (by omega)];simp[h]
theorem a0t{α:Type}(l:List α)(z d:α)(k:Nat)(h:l.length=k):(l++[z]).getD k d=z:=by
 simp[List.getD, ← h]
theorem a3B(bs:List Nat)(n:Nat)(hn:n ∉ bs):∀ i,GB (n:Int) (bs++[n]) i=some (bs.length+i):=by
 induction bs with
 | nil=>intro i;simp[GB]
 | cons b r ih=>
  intro i
  simp only[AZ,not_or]at hn
  have hb:¬ (b:Int)=n:=by omega
  simp only[Bi,GB,hb,BV,ih hn.2,AJ]
  congr 1;omega
theorem R7(k i:Nat):GB (k:Int) (List.range k++[k]) i=some (k+i):=by
 have:=a3B (List.range k) k (by simp) i
 simpa using this
def FN(e:List UInt8 × Int):AV:=.agg [.str e.1,.int .i64 e.2]
theorem R2(a b:List UInt8 × Int):Fa [.s,.i] true (FN a) (FN b)=some (decide (a=b)):=by
 obtain ⟨x,y⟩:=a;obtain ⟨z,w⟩:=b
 simp[FN,Fa,Bb,DV,Prod.ext_iff]
end
section
open Go.RowKit
structure HdC where
 h:Int
 t:Int
 r:List Int
 n:r.length=32
 deriving DecidableEq
instance:Inhabited HdC:=⟨⟨0,0,List.replicate 32 0,by simp⟩⟩
theorem HdC.ext3{a b:HdC}(h1:a.h=b.h)(h2:a.t=b.t)(h3:a.r=b.r):a=b:=by
 obtain ⟨a1,a2,a3,a4⟩:=a;obtain ⟨b1,b2,b3,b4⟩:=b
 simp only at h1 h2 h3
 subst h1;subst h2;subst h3;rfl
def HdC.rt(x:HdC):List AV:=x.r.map (.int .u8 ·)
abbrev HdC.cs(x:HdC):List AV:=.int .i64 x.h :: .int .i64 x.t::x.rt
theorem BF(x:HdC):x.rt.length=32:=by simp[HdC.rt,x.n]
theorem Cw(x:HdC):x.rt.take 32=x.rt:=by rw[B0];rw[BF];omega
theorem Co(x:HdC):x.rt.map AV.store=x.rt:=by simp[HdC.rt,AV.store,AV.alias]
theorem TO:∀ (l m:List AV),l.length=m.length→splice l 0 m=m
 | [],[],_=>rfl
 | c::l,d::m,h=>by rw[sp_0,TO l m (by simpa using h)]
theorem b0O(l:List AV)(x:HdC)(h:l.length=32):splice l 0 x.rt=x.rt:=TO l _ (by rw[h,BF])
theorem Mi:(default:HdC).rt=List.replicate 32 (.int .u8 0):=by simp[HdC.rt,default,instInhabitedHdC]
theorem FQ:(default:HdC).h=0:=rfl
theorem FS:(default:HdC).t=0:=rfl
theorem Dc:[AV.int .u8 0,.int .u8 0,.int .u8 0,.int .u8 0,.int .u8 0,.int .u8 0,.int .u8 0,.int .u8 0,.int .u8 0,.int .u8 0,.int .u8 0,.int .u8 0,.int .u8 0,.int .u8 0,.int .u8 0,.int .u8 0,.int .u8 0,.int .u8 0,.int .u8 0,.int .u8 0,.int .u8 0,.int .u8 0,.int .u8 0,.int .u8 0,.int .u8 0,.int .u8 0,.int .u8 0,.int .u8 0,.int .u8 0,.int .u8 0,.int .u8 0,.int .u8 0]=(default:HdC).rt:=by rw[Mi];rfl
theorem O0:∀ (a b:List Int),a.length=b.length→Bb (List.replicate a.length .i) (a.map (AV.int .u8 ·)) (b.map (AV.int .u8 ·))=some (decide (a=b))
 | [],[],_=>rfl
 | x::a,y::b,h=>by
  rw[AJ,J7,CX,CX,eqC_i,O0 a b (by simpa using h),oand_some]
  simp
theorem HS(x y:HdC):Bb [.i,.i,.i,.i,.i,.i,.i,.i,.i,.i,.i,.i,.i,.i,.i,.i,.i,.i,.i,.i,.i,.i,.i,.i,.i,.i,.i,.i,.i,.i,.i,.i] x.rt y.rt=some (decide (x.r=y.r)):=by
 have:=O0 x.r y.r (by rw[x.n,y.n])
 rw[x.n]at this
 exact this
theorem HU(a b:HdC):(decide (a.h=b.h)&&(decide (a.t=b.t)&&decide (a.r=b.r)))=decide (a=b):=by
 rw[FE]
 simp only[AP,Bs]
 exact ⟨fun ⟨h1,h2,h3⟩=>HdC.ext3 h1 h2 h3,fun h=>by subst h;exact ⟨rfl,rfl,rfl⟩⟩
def Bn(l:List HdC):List (List AV):=l.map HdC.cs
theorem Ey(l:List HdC)(i:Nat)(h:i<l.length):(Bn l).getD i []=(l.getD i default).cs:=by
 simp[Bn,List.getD,h]
theorem DW(l:List HdC):(Bn l).length=l.length:=by simp[Bn]
def Ep(x:HdC):AV:=.agg x.cs
theorem Nr(a b:HdC):Fa [.i,.i,.i,.i,.i,.i,.i,.i,.i,.i,.i,.i,.i,.i,.i,.i,.i,.i,.i,.i,.i,.i,.i,.i,.i,.i,.i,.i,.i,.i,.i,.i,.i,.i] true (Ep a) (Ep b)=some (decide (a=b)):=by
 simp only[Ep,Fa,eqC_i,HS,oand_some,HU]
def GL(a:Int):AV:=.agg [.int .i64 a]
theorem SE(a b:Int):Fa [.i] true (GL a) (GL b)=some (decide (a=b)):=by
 simp only[GL,Fa,eqC_i,eqC_nil,oand_some,Bool.and_true]
theorem C6(x y:HdC):splice x.rt 0 y.rt=y.rt:=b0O _ y (BF x)
abbrev HL:List Kd:=[.i,.i,.i,.i,.i,.i,.i,.i,.i,.i,.i,.i,.i,.i,.i,.i,.i,.i,.i,.i,.i,.i,.i,.i,.i,.i,.i,.i,.i,.i,.i,.i,.i,.i]
theorem XQ{α:Type}[DecidableEq α]:∀ {l:List α} {a:α} {i:Nat},l.idxOf? a=some i→l[i]?=some a
 | [],_,_,h=>by simp at h
 | x::l,a,i,h=>by
  rw[List.idxOf?_cons]at h
  by_cases hx:x=a
  ·subst hx;simp at h;subst h;rfl
  ·have hx2:(x==a)=false:=by simp[hx]
   rw[hx2]at h
   simp only[D3,BV,BM]at h
   obtain ⟨j,hj,rfl⟩:=h
   simpa using XQ hj
theorem XP{α:Type}[DecidableEq α]{l:List α}{a:α}(h:a∈l):∃ i,l.idxOf? a=some i∧i<l.length:=by
 cases hi:l.idxOf? a with
 | none=>exact absurd h (List.idxOf?_eq_none_iff.1 hi)
 | some i=>exact ⟨i,rfl,(AM.1 (XQ hi)).1⟩
theorem b0C(n i:Nat)(h:i<n):(List.range n).getD i 0=i:=by simp[List.getD,h]
theorem Xj:∀ (n s i j:Nat),i<n→GB ((s+i:Nat):Int) (List.range' s n) j=some (i+j)
 | 0,s,i,j,h=>by omega
 | n+1,s,i,j,h=>by
  rw[List.range'_succ,GB]
  by_cases hi:i=0
  ·subst hi;simp
  ·rw[Ad (by omega)]
   have:=Xj n (s+1) (i - 1) (j+1) (by omega)
   rw[show s+1+(i - 1)=s+i by omega]at this
   rw[this];congr 1;omega
theorem a3C(n i:Nat)(h:i<n):GB (i:Int) (List.range n) 0=some i:=by
 have:=Xj n 0 i 0 h
 rw[List.range_eq_range']
 simpa using this
theorem XX(l:List Int)(i:Nat)(h:i<l.length):(l.map (AV.int .i64 ·)).getD i .undef=.int .i64 (l.getD i 0):=by simp[List.getD,h]
theorem ints_set(l:List Int)(i:Nat)(v:Int):(l.map (AV.int .i64 ·)).set i (.int .i64 v)=(l.set i v).map (AV.int .i64 ·):=by simp[List.map_set]
end
section
def BC(l:List HdC)(a:Int):Option HdC:=l.find? (fun x=>decide (x.h=a))
def Ft(h:HdC):List HdC→List HdC
 | []=>[h]
 | x::r=>if x.h<h.h then x::Ft h r else h::x::r
def Asc(l:List HdC):Prop:=l.Pairwise fun x y=>x.h<y.h
theorem b2r{l:List HdC}{a:Int}{x:HdC}(h:BC l a=some x):x∈l∧x.h=a:=by
 unfold BC at h
 exact ⟨List.mem_of_find?_eq_some h,by simpa using List.find?_some h⟩
theorem a0z{l:List HdC}{a:Int}(h:BC l a=none):∀ x∈l,x.h≠a:=by
 unfold BC at h
 intro x hx e
 have:=List.find?_eq_none.1 h x hx
 simp[e]at this
def Apart(l:List HdC):Prop:=l.Pairwise fun x y=>x.h≠y.h
theorem Apart.one{l:List HdC}(h:Apart l){x y:HdC}(hx:x∈l)(hy:y∈l)(e:x.h=y.h):x=y:=by
 induction l with
 | nil=>cases hx
 | cons z r ih=>
  obtain ⟨h1,h2⟩:=List.pairwise_cons.1 h
  rcases AZ.1 hx with hx'|hx'<;>rcases AZ.1 hy with hy'|hy'
  ·rw[hx',hy']
  ·subst hx';exact absurd e (h1 _ hy')
  ·subst hy';exact absurd e.symm (h1 _ hx')
  ·exact ih h2 hx' hy'
theorem Asc.apart{l:List HdC}(h:Asc l):Apart l:=List.Pairwise.imp (fun h=>by omega) h
theorem Ns(h:HdC):∀ l:List HdC,(Ft h l).Perm (h::l)
 | []=>.refl _
 | x::r=>by
  unfold Ft
  split
  ·exact ((Ns h r).cons x).trans (.swap h x r)
  ·exact .refl _
theorem Si{h:HdC}:∀ {l:List HdC},Asc l→(∀ x∈l,x.h≠h.h)→Asc (Ft h l)
 | [],_,_=>by simp[Ft,Asc]
 | x::r,ha,hn=>by
  obtain ⟨h1,h2⟩:=List.pairwise_cons.1 ha
  unfold Ft
  split
  ·rename_i hlt
   refine List.pairwise_cons.2 ⟨fun y hy=>?_,Si h2 fun y hy=>hn y (by simp[hy])⟩
   rcases AZ.1 ((Ns h r).mem_iff.1 hy) with rfl|hy
   ·exact hlt
   ·exact h1 _ hy
  ·have hx:=hn x (by simp)
   refine List.pairwise_cons.2 ⟨fun y hy=>?_,ha⟩
   rcases AZ.1 hy with rfl|hy
   ·omega
   ·have:=h1 _ hy;omega
end
section
open Go.RowKit Go.Lib
structure MsgC where
 k:Int
 h:HdC
 p:PktC
 a:List UInt8
 nx:Int
 ht:Int
 pr:PfC
 cl:PfC
def zeroF:PfC:=⟨0,[]⟩
def KE(m:MsgC):Prop:=
 (m.k=1∨m.h=default)∧(m.k=1→m.p=default∧m.ht=0∧m.pr=zeroF)∧(m.k=3∨m.a=[])∧(m.k=4∨m.k=5∨m.nx=0)∧(m.k=5∨m.cl=zeroF)
def okH(x:HdC):Prop:=1≤x.h∧x.h≤1099511627776∧0≤x.t∧x.t≤1099511627776
noncomputable def Eq (m:MsgC):Prop:=
 (1≤m.k∧m.k≤5)∧KE m∧(m.k=1→okH m.h)∧(m.k=3→1≤m.a.length∧m.a.length≤32)∧
  (m.k≠1→BO m.p=true∧(0≤m.nx∧m.nx≤1099511627777)∧(1≤m.ht∧m.ht≤1099511627776)∧D7 m.pr=true∧D7 m.cl=true)
def H5(p:PktC)(ht tm:Int):Bool:=(decide (0<p.th)&&decide (p.th≤ht))||(decide (0<p.ta)&&decide (p.ta≤tm))
def Cg(p:PktC):List UInt8:=BB (eight p.th.toNat++(eight p.ta.toNat++BB p.x))
theorem LM(p:PktC):(Cg p).length=32:=FB _
def E2(d:List UInt8):List UInt8:=match d with
 | []=>[110,111]
 | c::r=>if c=33 then [110,111] else [111,107,58]++(c::r).take 29
def EN(k:Int)(p:PktC):EvC:=⟨k,p,[],[],0,0⟩
def DF(L:List PrP)(k:List UInt8):List PrP:=if A9 L k=true then L.take (AE L k)++L.drop (AE L k+1) else L
theorem a9r{L:List PrP}{k:List UInt8}(h:A9 L k=true):L.Perm ((k,C2 L k)::DF L k):=by
 have hl:=Jv h
 have hk:(L.getD (AE L k) default).1=k:=by simp only[A9,AP,Bs]at h;exact h.2
 have e:L[AE L k]=(k,C2 L k):=by
  have e1:L.getD (AE L k) default=L[AE L k]:=by simp[List.getD,hl]
  rw[e1]at hk
  rw[O8 h,e1]
  exact Prod.ext hk rfl
 unfold DF
 rw[Af h]
 have h2:L=L.take (AE L k)++L[AE L k]::L.drop (AE L k+1):=by
  rw[← Jc hl,HN]
 rw[e]at h2
 have h3 := @List.perm_middle PrP (k,C2 L k) (L.take (AE L k)) (L.drop (AE L k+1))
 rwa [← h2]at h3
theorem Lx(L:List PrP)(k:List UInt8):(DF L k).Sublist L:=by
 unfold DF
 split
 ·have:=List.Sublist.append (List.Sublist.refl (L.take (AE L k))) (List.drop_sublist_drop_left L (Nat.le_succ (AE L k)))
  rwa [HN]at this
 ·exact List.Sublist.refl _
theorem a3m{L:List PrP}(h:DT L)(k:List UInt8):DT (DF L k):=List.Pairwise.sublist (Lx L k) h
theorem b4l{L:List PrP}{k k' v:List UInt8}(hk:k'≠k)(hm:(k',v)∈L):(k',v)∈DF L k:=by
 cases hh:A9 L k with
 | false=>unfold DF;rw[Ad (by simp[hh])];exact hm
 | true=>
  rcases AZ.1 ((a9r hh).mem_iff.1 hm) with e|e
  ·exact absurd (congrArg Prod.fst e) hk
  ·exact e
theorem b4o{L:List PrP}(h:DT L){k k':List UInt8}(hk:k'≠k):A9 (DF L k) k'=A9 L k'∧C2 (DF L k) k'=C2 L k':=by
 cases hh:A9 L k' with
 | true=>exact SJ (a3m h k) (b4l hk (Sa hh))
 | false=>
  have h2:A9 (DF L k) k'=false:=by
   cases h3:A9 (DF L k) k' with
   | false=>rfl
   | true=>
    have:=(SJ h ((Lx L k).subset (Sa h3))).1
    rw[hh]at this;cases this
  exact ⟨h2,by rw[O7 h2,O7 hh]⟩
theorem a3l{L:List PrP}(h:StI L)(k:List UInt8):StI (DF L k):=
 ⟨a3m h.rise k,fun q hq=>h.may q ((Lx L k).subset hq),En (Lx L k).length_le h.len⟩
theorem b2b{L:List PrP}(h:StI L){k v:List UInt8}(hm:B3 k v=true)(hl:L.length≤999):StI (A7 L k v):=by
 have:=StN.set (i:=999) ⟨h.rise,h.may,hl⟩ hm
 exact ⟨this.rise,this.may,this.len⟩
noncomputable def LE (L:List PrP) (p:PktC) (o:Bool):Int:=
 if o=true then (if p.q<Fg L 5 p.d p.dc then 15 else if Fg L 5 p.d p.dc<p.q then 16 else 0) else if A9 L (Ah 2 p.d p.dc p.q)=true then 15 else 0
noncomputable def Me (L:List PrP) (p:PktC) (o:Bool):List PrP:=
 A7 (if o=true then A7 L (Ah 5 p.d p.dc 0) (pn (p.q+1)) else A7 L (Ah 2 p.d p.dc p.q) [1]) (Ah 3 p.d p.dc p.q) (BB (E2 p.x))
noncomputable def H7 (L:List PrP) (K:List HdC) (ht tm:Int) (m:MsgC):List EvC × Int × List PrP:=
 if (Av L m.p.d m.p.dc).2=false∨¬ ((Av L m.p.d m.p.dc).1.p=m.p.s∧(Av L m.p.d m.p.dc).1.c=m.p.sc) then ([],11,L)
 else if (Av L m.p.d m.p.dc).1.cl=true then ([],12,L)
 else if H5 m.p ht tm=true then ([],13,L)
 else if LE L m.p (Av L m.p.d m.p.dc).1.o≠0 then ([],LE L m.p (Av L m.p.d m.p.dc).1.o,L)
 else match BC K m.ht with
  | none=>([],10,L)
  | some h=>if IH h.r m.pr (Ah 1 m.p.s m.p.sc m.p.q) (Cg m.p)=false then ([],18,L)
   else ([EN 2 m.p, { EN 3 m.p with a:=E2 m.p.x }],0,Me L m.p (Av L m.p.d m.p.dc).1.o)
noncomputable def DX (L:List PrP) (p:PktC):Int:=
 if (Av L p.s p.sc).2=false∨¬ ((Av L p.s p.sc).1.p=p.d∧(Av L p.s p.sc).1.c=p.dc) then 11
 else if A9 L (Ah 1 p.s p.sc p.q)=false∨¬ C2 L (Ah 1 p.s p.sc p.q)=Cg p then 17 else 0
noncomputable def K6 (L:List PrP) (p:PktC) (o:Bool):List PrP:=
 if o=true then A7 (DF L (Ah 1 p.s p.sc p.q)) (Ah 6 p.s p.sc 0) (pn (p.q+1)) else DF L (Ah 1 p.s p.sc p.q)
noncomputable def HO (L:List PrP) (K:List HdC) (m:MsgC):List EvC × Int × List PrP:=
 if DX L m.p≠0 then ([],DX L m.p,L)
 else if (Av L m.p.s m.p.sc).1.o=true∧¬ m.p.q=Fg L 6 m.p.s m.p.sc then ([],16,L)
 else match BC K m.ht with
  | none=>([],10,L)
  | some h=>if IH h.r m.pr (Ah 3 m.p.d m.p.dc m.p.q) (BB m.a)=false then ([],18,L)
   else ([EN 4 m.p],0,K6 L m.p (Av L m.p.s m.p.sc).1.o)
noncomputable def Ia (r:List Int) (m:MsgC) (o:Bool):Bool:=
 if o=true then IH r m.pr (Ah 5 m.p.d m.p.dc 0) (pn m.nx) else Sq r m.pr (Ah 2 m.p.d m.p.dc m.p.q)
noncomputable def KR (r:List Int) (m:MsgC):Bool:=match DO r m.cl (Ah 7 m.p.d m.p.dc 0) with
 | none=>false
 | some v=>decide ((C1 v).2=0)&&((C1 v).1.cl&&(decide ((C1 v).1.p=m.p.s)&&decide ((C1 v).1.c=m.p.sc)))
def IL(m:MsgC)(o:Bool):Int:=if o=decide (m.nx=0) then 1 else if o=true∧m.p.q<m.nx then 15 else 0
noncomputable def I0 (s:Es) (n:Int):Es:=⟨s.p,s.c,s.o,true,n⟩
noncomputable def Ha (L:List PrP) (m:MsgC) (s:Es):List PrP:=
 if s.o=true∧s.cl=false then A7 (DF L (Ah 1 m.p.s m.p.sc m.p.q)) (Ah 7 m.p.s m.p.sc 0) (I0 s m.nx).enc else DF L (Ah 1 m.p.s m.p.sc m.p.q)
def K8(m:MsgC)(s:Es):List EvC:=EN 5 m.p::(if s.o=true∧s.cl=false then [⟨6,default,[],m.p.s,m.p.sc,0⟩] else [])
noncomputable def Gn (L:List PrP) (K:List HdC) (m:MsgC):List EvC × Int × List PrP:=
 if DX L m.p≠0 then ([],DX L m.p,L)
 else match BC K m.ht with
  | none=>([],10,L)
  | some h=>
   if m.k=4∧(Av L m.p.s m.p.sc).1.cl=false∧H5 m.p h.h h.t=false then ([],14,L)
   else if ¬ m.k=4∧KR h.r m=false then ([],18,L)
   else if IL m (Av L m.p.s m.p.sc).1.o≠0 then ([],IL m (Av L m.p.s m.p.sc).1.o,L)
   else if m.k=4∧(Av L m.p.s m.p.sc).1.o=true∧(((Av L m.p.s m.p.sc).1.cl=true∧m.nx<(Av L m.p.s m.p.sc).1.st)∨((Av L m.p.s m.p.sc).1.cl=false∧¬ m.nx=m.p.q)) then ([],16,L)
   else if Ia h.r m (Av L m.p.s m.p.sc).1.o=false then ([],18,L)
   else (K8 m (Av L m.p.s m.p.sc).1,0,Ha L m (Av L m.p.s m.p.sc).1)
open Classical in
noncomputable def EJ (L:List PrP) (K:List HdC) (ht tm:Int) (m:MsgC):List EvC × Int × List PrP:=
 if ¬ Eq m then ([],1,L) else if m.k=2 then H7 L K ht tm m else if m.k=3 then HO L K m else Gn L K m
noncomputable def Dj (L:List PrP) (p:List UInt8) (c:Int) (d:List UInt8) (th ta:Int):PktC:=⟨p,c,(Av L p c).1.p,(Av L p c).1.c,Fg L 4 p c,d,th,ta⟩
noncomputable def NY (L:List PrP) (p:List UInt8) (c:Int) (d:List UInt8) (th ta:Int):Int:=
 if (Av L p c).2=false then 11 else if (Av L p c).1.cl=true then 12 else if 1099511627776<Fg L 4 p c then 19 else if BO (Dj L p c d th ta)=false then 1 else 0
noncomputable def IX (L:List PrP) (q:PktC):List PrP:=A7 (A7 L (Ah 4 q.s q.sc 0) (pn (q.q+1))) (Ah 1 q.s q.sc q.q) (Cg q)
theorem JH{A:Prop}(h:A:=by first|(simp[Br,lk,r_two,rl_cons,rl_nil,al_agg,al_bool,AV.alias,EN,view,l_all, *];done)|fail):A:=h
end
end Go.Proofs.YtfgihnhoocnmdaaGreatDoor
