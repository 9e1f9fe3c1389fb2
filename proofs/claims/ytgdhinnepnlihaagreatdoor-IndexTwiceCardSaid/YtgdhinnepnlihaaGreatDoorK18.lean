import Derived.Test.YtgdhinnepnlihaaGreatDoorK10
import Derived.Test.YtgdhinnepnlihaaGreatDoorK13
import Derived.Test.YtgdhinnepnlihaaGreatDoorK11
import Derived.Test.YtgdhinnepnlihaaGreatDoorK15
import Derived.Lib.Join
import Derived.Shelf.Strings.Repeat
import Derived.Shelf.Strings.OnBuilder
namespace Go.Proofs.YtgdhinnepnlihaaGreatDoor
set_option linter.all false
set_option maxHeartbeats 9000000
section
open Go.RowKit
abbrev Wd:=BitVec 32
def wI(x:Wd):Int:=(x.toNat:Int)
abbrev aW(x:Wd):AV:=.int .u32 (wI x)
theorem wrap_u32(n:Int):IntKind.wrap .u32 n=n % 4294967296:=rfl
theorem b7L(x:Wd):0≤wI x∧wI x<4294967296:=by
 have:=x.isLt
 unfold wI;omega
theorem b0U(x:Wd):wI x % 4294967296=wI x:=Int.emod_eq_of_lt (b7L x).1 (b7L x).2
theorem b5W(x:Wd):BitVec.ofInt 32 (wI x)=x:=by
 unfold wI;simp
theorem b2H(x y:Wd):IntKind.wrap .u32 (wI x+wI y)=wI (x+y):=by
 rw[wrap_u32];unfold wI;rw[BitVec.toNat_add];omega
theorem b2L(x y:Wd):IntKind.wrap .u32 ((BitVec.ofInt (IntKind.bits .u32) (wI x) ^^^ BitVec.ofInt (IntKind.bits .u32) (wI y)).toNat)=wI (x ^^^ y):=by
 show IntKind.wrap .u32 (((BitVec.ofInt 32 (wI x)) ^^^ (BitVec.ofInt 32 (wI y))).toNat:Int)=_
 rw[b5W,b5W,wrap_u32];exact b0U _
theorem b2I(x y:Wd):IntKind.wrap .u32 ((BitVec.ofInt (IntKind.bits .u32) (wI x) &&& BitVec.ofInt (IntKind.bits .u32) (wI y)).toNat)=wI (x &&& y):=by
 show IntKind.wrap .u32 (((BitVec.ofInt 32 (wI x)) &&& (BitVec.ofInt 32 (wI y))).toNat:Int)=_
 rw[b5W,b5W,wrap_u32];exact b0U _
theorem b4C(x y:Wd):IntKind.wrap .u32 ((BitVec.ofInt (IntKind.bits .u32) (wI x) ||| BitVec.ofInt (IntKind.bits .u32) (wI y)).toNat)=wI (x ||| y):=by
 show IntKind.wrap .u32 (((BitVec.ofInt 32 (wI x)) ||| (BitVec.ofInt 32 (wI y))).toNat:Int)=_
 rw[b5W,b5W,wrap_u32];exact b0U _
theorem b2J(x:Wd):IntKind.wrap .u32 ((BitVec.ofInt (IntKind.bits .u32) (if IntKind.signed .u32=true then -1 else IntKind.max .u32) ^^^ BitVec.ofInt (IntKind.bits .u32) (wI x)).toNat)=wI (~~~x):=by
 show IntKind.wrap .u32 (((BitVec.ofInt 32 4294967295) ^^^ (BitVec.ofInt 32 (wI x))).toNat:Int)=_
 rw[b5W,wrap_u32,show BitVec.ofInt 32 4294967295=BitVec.allOnes 32 from rfl,BitVec.allOnes_xor];exact b0U _
theorem a8A(m:Nat):((2:Int) ^ m)=((2 ^ m:Nat):Int):=by
 induction m with
 | zero=>rfl
 | succ m ih=>rw[Int.pow_succ,ih,Nat.pow_succ];rfl
theorem a5M(x:Wd)(n:Nat):(wI x).fdiv (2 ^ (min n (IntKind.bits .u32)))=wI (x >>> n):=by
 show (wI x).fdiv (2 ^ (min n 32))=_
 unfold wI
 rw[BitVec.toNat_ushiftRight,Nat.shiftRight_eq_div_pow,a8A,Int.fdiv_eq_ediv_of_nonneg _ (Int.natCast_nonneg _)]
 have key:x.toNat / 2 ^ (min n 32)=x.toNat / 2 ^ n:=by
  rcases Nat.le_total n 32 with h|h
  ·rw[Nat.min_eq_left h]
  ·rw[Nat.min_eq_right h,Nat.div_eq_of_lt x.isLt,Nat.div_eq_of_lt (Nat.lt_of_lt_of_le x.isLt (Nat.pow_le_pow_right (by omega) h))]
 rw[← key];rfl
theorem a9A(x:Wd)(n:Nat):IntKind.wrap .u32 (wI x * 2 ^ (min n (IntKind.bits .u32)))=wI (x <<< n):=by
 show IntKind.wrap .u32 (wI x * 2 ^ (min n 32))=_
 rw[wrap_u32]
 unfold wI
 rw[BitVec.toNat_shiftLeft,Nat.shiftLeft_eq,a8A]
 have key:x.toNat * 2 ^ (min n 32) % 4294967296=x.toNat * 2 ^ n % 2 ^ 32:=by
  rcases Nat.le_total n 32 with h|h
  ·rw[Nat.min_eq_left h]
  ·rw[Nat.min_eq_right h]
   have h1:x.toNat * 2 ^ n % 2 ^ 32=0:=by
    rw[show n=32+(n - 32) by omega,Nat.pow_add, ← Nat.mul_assoc,Nat.mul_right_comm]
    exact Nat.mul_mod_left _ _
   rw[h1];exact Nat.mul_mod_left _ _
 rw[← key];rfl
theorem b7M(b:UInt8):IntKind.wrap .u32 (b.toNat:Int)=wI (BitVec.ofNat 32 b.toNat):=by
 rw[wrap_u32];unfold wI
 have:=b.toNat_lt
 rw[BitVec.toNat_ofNat];omega
def wB(x:Wd):UInt8:=UInt8.ofNat x.toNat
theorem b3W(x:Wd):IntKind.wrap .u8 (wI x)=((wB x).toNat:Int):=by
 show wI x % 256=_
 unfold wB wI
 rw[UInt8.toNat_ofNat'];omega
def rot(x:Wd)(n:Nat):Wd:=(x <<< (32 - n)) ||| (x >>> n)
theorem b9f(x:Wd)(n:Nat):(x >>> n) ||| (x <<< (32 - n))=rot x n:=BitVec.or_comm _ _
structure S8 where
 a:Wd
 b:Wd
 c:Wd
 d:Wd
 e:Wd
 f:Wd
 g:Wd
 h:Wd
abbrev S8.l(s:S8):List Wd:=[s.a,s.b,s.c,s.d,s.e,s.f,s.g,s.h]
abbrev S8.c8(s:S8):List AV:=[aW s.a,aW s.b,aW s.c,aW s.d,aW s.e,aW s.f,aW s.g,aW s.h]
def stepT(s:S8)(k w:Wd):Wd:=s.h+((rot s.e 6 ^^^ rot s.e 11) ^^^ rot s.e 25)+((s.e &&& s.f) ^^^ (~~~s.e &&& s.g))+k+w
def b5N(s:S8):Wd:=((rot s.a 2 ^^^ rot s.a 13) ^^^ rot s.a 22)+(((s.a &&& s.b) ^^^ (s.a &&& s.c)) ^^^ (s.b &&& s.c))
def b2D(s:S8)(k w:Wd):S8:=⟨stepT s k w+b5N s,s.a,s.b,s.c,s.d+stepT s k w,s.e,s.f,s.g⟩
def b0X(b:List UInt8)(i:Nat):Wd:=BitVec.ofNat 32 (b.getD i 0).toNat
def b4e(b:List UInt8)(i:Nat):Wd:=((b0X b (4 * i) <<< 24 ||| b0X b (4 * i+1) <<< 16) ||| b0X b (4 * i+2) <<< 8) ||| b0X b (4 * i+3)
def nxW(l:List Wd)(i:Nat):Wd:=l.getD (i - 16) 0+((rot (l.getD (i - 15) 0) 7 ^^^ rot (l.getD (i - 15) 0) 18) ^^^ (l.getD (i - 15) 0) >>> 3)+l.getD (i - 7) 0+((rot (l.getD (i - 2) 0) 17 ^^^ rot (l.getD (i - 2) 0) 19) ^^^ (l.getD (i - 2) 0) >>> 10)
def sched(b:List UInt8):Nat→List Wd
 | 0=>[]
 | i+1=>sched b i++[if i<16 then b4e b i else nxW (sched b i) i]
theorem a1m(b:List UInt8)(n:Nat):(sched b n).length=n:=by
 induction n with
 | zero=>rfl
 | succ n ih=>simp[sched,ih]
def a5R(b:List UInt8)(n:Nat):List Wd:=sched b n++List.replicate (64 - n) 0
theorem a5S(b:List UInt8)(n:Nat)(h:n≤64):(a5R b n).length=64:=by simp[a5R,a1m];omega
theorem b3L(b:List UInt8)(n i:Nat)(h:i<n):(a5R b n).getD i 0=(sched b n).getD i 0:=by
 simp only[a5R,List.getD]
 rw[List.getElem?_append_left (by rw[a1m];exact h)]
theorem a5T(b:List UInt8)(n:Nat)(h:n<64)(x:Wd)(hx:x=if n<16 then b4e b n else nxW (sched b n) n):(a5R b n).set n x=a5R b (n+1):=by
 subst hx
 unfold a5R
 rw[List.set_append_right _ _ (by rw[a1m];exact Nat.le_refl n),a1m,Nat.sub_self,show 64 - n=(64 - (n+1))+1 by omega,List.replicate_succ,List.set_cons_zero,sched]
 simp
def shaK:List Wd:=[
  0x428a2f98,0x71374491,0xb5c0fbcf,0xe9b5dba5,0x3956c25b,0x59f111f1,0x923f82a4,0xab1c5ed5,
  0xd807aa98,0x12835b01,0x243185be,0x550c7dc3,0x72be5d74,0x80deb1fe,0x9bdc06a7,0xc19bf174,
  0xe49b69c1,0xefbe4786,0x0fc19dc6,0x240ca1cc,0x2de92c6f,0x4a7484aa,0x5cb0a9dc,0x76f988da,
  0x983e5152,0xa831c66d,0xb00327c8,0xbf597fc7,0xc6e00bf3,0xd5a79147,0x06ca6351,0x14292967,
  0x27b70a85,0x2e1b2138,0x4d2c6dfc,0x53380d13,0x650a7354,0x766a0abb,0x81c2c92e,0x92722c85,
  0xa2bfe8a1,0xa81a664b,0xc24b8b70,0xc76c51a3,0xd192e819,0xd6990624,0xf40e3585,0x106aa070,
  0x19a4c116,0x1e376c08,0x2748774c,0x34b0bcb5,0x391c0cb3,0x4ed8aa4a,0x5b9cca4f,0x682e6ff3,
  0x748f82ee,0x78a5636f,0x84c87814,0x8cc70208,0x90befffa,0xa4506ceb,0xbef9a3f7,0xc67178f2]
def sha0:S8:=⟨0x6a09e667,0xbb67ae85,0x3c6ef372,0xa54ff53a,0x510e527f,0x9b05688c,0x1f83d9ab,0x5be0cd19⟩
def a9F(s:S8)(W:List Wd):Nat→S8
 | 0=>s
 | i+1=>b2D (a9F s W i) (shaK.getD i 0) (W.getD i 0)
def b4F(s t:S8):S8:=⟨s.a+t.a,s.b+t.b,s.c+t.c,s.d+t.d,s.e+t.e,s.f+t.f,s.g+t.g,s.h+t.h⟩
def b5d(s:S8)(b:List UInt8):S8:=b4F s (a9F s (sched b 64) 64)
def a7D(b:List UInt8):Nat→S8
 | 0=>sha0
 | n+1=>b5d (a7D b n) ((b.drop (64 * n)).take 64)
def len8(n:Nat):List UInt8:=(List.range 8).map fun k=>UInt8.ofNat (n * 8 / 2 ^ (8 * (7 - k)))
def a3b(s:List UInt8):List UInt8:=s++(128::List.replicate ((119 - s.length % 64) % 64) 0++len8 s.length)
def b4q(s:S8)(i:Nat):UInt8:=wB ((s.l.getD (i / 4) 0) >>> (24 - 8 * (i % 4)))
def a4Y(s:S8):List UInt8:=(List.range 32).map (b4q s)
def a8v(s:S8)(i:Nat):List UInt8:=(List.range i).map (b4q s)++List.replicate (32 - i) 0
theorem a5P(s:S8)(i:Nat)(h:i≤32):(a8v s i).length=32:=by simp[a8v];omega
theorem b0E(s:S8)(i:Nat)(h:i<32)(x:UInt8)(hx:x=b4q s i):(a8v s i).set i x=a8v s (i+1):=by
 subst hx
 unfold a8v
 have e:((List.range i).map (b4q s)).length=i:=by simp
 rw[List.set_append_right _ _ (by rw[e];exact Nat.le_refl i),e,Nat.sub_self,show 32 - i=(32 - (i+1))+1 by omega,List.replicate_succ,List.set_cons_zero,List.range_succ]
 simp
theorem b0D(s:S8):a8v s 32=a4Y s:=by simp[a8v,a4Y]
def b3N(s:List UInt8):List UInt8:=a4Y (a7D (a3b s) ((a3b s).length / 64))
theorem a4W(s:List UInt8):(b3N s).length=32:=by simp[b3N,a4Y]
theorem b0I(s:List UInt8):(a3b s).length=64 * ((a3b s).length / 64)∧64≤(a3b s).length:=by
 have h:(a3b s).length=s.length+(1+(119 - s.length % 64) % 64+8):=by simp[a3b,len8];omega
 omega
end
section
open Go.RowKit
set_option maxRecDepth 100000
theorem b5j(own:Option Nat)(z:List UInt8)(l:List (List UInt8))(hn:l.length≤140737488355328)(hl:(Lib.join l z).length≤140737488355328):CP Tryz.prog 274 [.sl own 1 (l.map fun p=>[AV.str p]),.str z] (.str (Lib.join l z)):=by
 intro W U us hG hlen hu
 match us,hlen with
 | [v,w],_=>
  have hw:=(hu 1 w _ rfl rfl).str_inv
  subst hw
  have hv:=hu 0 v _ rfl rfl
  generalize hels:(l.map fun p=>[AV.str p])=els at hv
  cases hv with
  | sl A cap _ _ b o _ f hcap hmax hA hs hc hvv=>
   by_cases h0:l=[]
   ·subst h0
    simp at hels
    subst hels
    refine (Tryz.strings_Join_none A cap ⟨z.toArray⟩ W).mono ?_
    rintro e W' ⟨rfl,rfl⟩
    exact ⟨_,U,rfl,.str [],trivial,Ext.refl _ _⟩
   ·have hll:els.length=l.length:=by simp[← hels]
    have hlt:0<els.length:=by rw[hll];exact List.length_pos_iff.2 h0
    obtain rfl:=hA hlt
    have hx:els.length=(l.map fun p=>(⟨p.toArray⟩:ByteArray)).length:=by simp[hll]
    have hj:((l.map fun p=>(⟨p.toArray⟩:ByteArray)).map (·.data.toList))=l:=by simp[List.map_map,Function.comp_def]
    have hbk:b<W.heap.size:=World.block_lt_of_cell? W ⟨b,o+0 * 1+0,none⟩ (hc 0 0 hlt (by omega)).1
    have:=Tryz.strings_Join b o cap (l.map fun p=>(⟨p.toArray⟩:ByteArray)) ⟨z.toArray⟩ W (fun j x hx=>by
     simp only[List.getElem?_map,Option.map_eq_some_iff]at hx
     obtain ⟨p,hp,rfl⟩:=hx
     have hjl:j<els.length:=by rw[hll];exact (List.getElem?_eq_some_iff.1 hp).1
     have h1:=(hc j 0 hjl (by omega)).1
     have h2:=hvv j [AV.str p] 0 (.str p) (by rw[← hels];simp[hp]) rfl
     rw[show o+j * 1+0=o+j by omega]at h1
     rw[h1]
     generalize f j 0=y at h2
     cases h2
     rfl) hbk (by rw[← hx,hll];exact hn) (by rw[← hx];exact hcap) (by rw[hj];exact hl)
    rw[hj, ← hx]at this
    refine this.mono ?_
    rintro e W' ⟨rfl,hB⟩
    exact ⟨_,U,rfl,.str _,trivial,⟨hB,fun _ _ _=>Iff.rfl⟩⟩
theorem a4K:∀ l:List (List UInt8),Lib.join l []=l.flatten
 | []=>rfl
 | [x]=>by simp[Lib.join,List.intercalate]
 | x::y::l=>by
  have:=a4K (y::l)
  simp only[Lib.join,List.intercalate]at this ⊢
  simp[List.intersperse,this]
theorem b0K:∀ n,Lib.repeatL [0] n=List.replicate n 0
 | 0=>rfl
 | n+1=>by rw[Lib.repeatL,b0K n,List.replicate_succ];rfl
theorem b6M(n:Nat)(hn:n≤1000000):CP Tryz.prog 275 [.str [0],.int .i64 (n:Int)] (.str (List.replicate n 0)):=
 CP_lib (vs:=[.string ⟨#[0]⟩,.int .i64 (n:Int)]) (v:=.string ⟨(List.replicate n (0:UInt8)).toArray⟩) rfl (by simp) rfl fun W=>
  (Tryz.strings_Repeat ⟨#[0]⟩ n W (by omega) (by have:(⟨#[0]⟩:ByteArray).size=1:=rfl;rw[this];omega)).mono fun e w' ⟨h1,h2⟩=>⟨by rw[h1, ← b0K],h2⟩
theorem b7e:∀ a:Fin 32,1≤a.val→IntKind.wrap .u64 ((BitVec.ofInt 64 (IntKind.wrap .u64 (0 - (a.val:Int))) &&& BitVec.ofInt 64 31).toNat:Int)=((32 - a.val:Nat):Int):=by decide
theorem rl1(a:Nat)(h:1≤a∧a≤31):IntKind.wrap .u64 ((BitVec.ofInt (IntKind.bits .u64) (IntKind.wrap .u64 (0 - (a:Int))) &&& BitVec.ofInt (IntKind.bits .u64) 31).toNat:Int)=((32 - a:Nat):Int):=b7e ⟨a,by omega⟩ h.1
theorem rl2(a:Nat)(h:1≤a∧a≤31):IntKind.wrap .u64 (32 - ((32 - a:Nat):Int))=(a:Int):=by
 show (32 - ((32 - a:Nat):Int)) % 18446744073709551616=a
 omega
theorem nn(n:Nat):(0≤(n:Int))=True:=by simp
theorem b4x(x:Wd)(a:Nat):(x <<< (32 - a)) ||| (x >>> a)=rot x a:=rfl
theorem sxShj{A B:Prop}(h:B)(e:A=B:=by (simp (disch:=omega) only[*, ↓Ed,Eu, ↓reduceIte,reduceCtorEq,Nat.reduceAdd,Nat.reduceEqDiff,Nat.reduceLT,Nat.reduceLeDiff,Int.reduceToNat,Int.reduceEq,Int.reduceLT,Int.reduceLE,w64,List.length_append,List.length_map,b4C,a9A,a5M,Int.toNat_natCast,nn,b4x];first|done|rfl)):A:=e▸h
theorem a9r(x:Wd)(a:Nat)(h:1≤a∧a≤31):CP Tryz.prog 325 [aW x,.int .i64 (0 - (a:Int))] (aW (rot x a)):=by
 refine a3P _ _ (by simp) ?_
 simp only[a2q,rl1 a h,rl2 a h,b4C,a9A,a5M,Int.toNat_natCast,nn, ↓Ed,Eu, ↓reduceIte,reduceCtorEq,Nat.reduceAdd,Nat.reduceEqDiff,Nat.reduceLT,Nat.reduceLeDiff,Int.reduceToNat,Int.reduceEq,Int.reduceLT,Int.reduceLE,w64,List.length_append,List.length_map,b4C,a9A,a5M,Int.toNat_natCast,nn,b4x]
 repeat' ((first|exact tt|refine na fun b=>?_|refine nb fun b hb=>?_|refine iq ?_|(refine jq ?_ ?_<;>intro h h')|refine Two_intro ?_ ?_|exact wZ|fail)<;>try refine sxShj ?_)
end
section
open Go.RowKit
set_option maxRecDepth 100000
abbrev z64:List AV:=[.int .u32 0,.int .u32 0,.int .u32 0,.int .u32 0,.int .u32 0,.int .u32 0,.int .u32 0,.int .u32 0,.int .u32 0,.int .u32 0,.int .u32 0,.int .u32 0,.int .u32 0,.int .u32 0,.int .u32 0,.int .u32 0,.int .u32 0,.int .u32 0,.int .u32 0,.int .u32 0,.int .u32 0,.int .u32 0,.int .u32 0,.int .u32 0,.int .u32 0,.int .u32 0,.int .u32 0,.int .u32 0,.int .u32 0,.int .u32 0,.int .u32 0,.int .u32 0,.int .u32 0,.int .u32 0,.int .u32 0,.int .u32 0,.int .u32 0,.int .u32 0,.int .u32 0,.int .u32 0,.int .u32 0,.int .u32 0,.int .u32 0,.int .u32 0,.int .u32 0,.int .u32 0,.int .u32 0,.int .u32 0,.int .u32 0,.int .u32 0,.int .u32 0,.int .u32 0,.int .u32 0,.int .u32 0,.int .u32 0,.int .u32 0,.int .u32 0,.int .u32 0,.int .u32 0,.int .u32 0,.int .u32 0,.int .u32 0,.int .u32 0,.int .u32 0]
theorem b4D(s:List UInt8):(a5R s 0).map aW=z64:=rfl
theorem b0O:([.int .u32 1116352408,.int .u32 1899447441,.int .u32 3049323471,.int .u32 3921009573,.int .u32 961987163,.int .u32 1508970993,.int .u32 2453635748,.int .u32 2870763221,.int .u32 3624381080,.int .u32 310598401,.int .u32 607225278,.int .u32 1426881987,.int .u32 1925078388,.int .u32 2162078206,.int .u32 2614888103,.int .u32 3248222580,.int .u32 3835390401,.int .u32 4022224774,.int .u32 264347078,.int .u32 604807628,.int .u32 770255983,.int .u32 1249150122,.int .u32 1555081692,.int .u32 1996064986,.int .u32 2554220882,.int .u32 2821834349,.int .u32 2952996808,.int .u32 3210313671,.int .u32 3336571891,.int .u32 3584528711,.int .u32 113926993,.int .u32 338241895,.int .u32 666307205,.int .u32 773529912,.int .u32 1294757372,.int .u32 1396182291,.int .u32 1695183700,.int .u32 1986661051,.int .u32 2177026350,.int .u32 2456956037,.int .u32 2730485921,.int .u32 2820302411,.int .u32 3259730800,.int .u32 3345764771,.int .u32 3516065817,.int .u32 3600352804,.int .u32 4094571909,.int .u32 275423344,.int .u32 430227734,.int .u32 506948616,.int .u32 659060556,.int .u32 883997877,.int .u32 958139571,.int .u32 1322822218,.int .u32 1537002063,.int .u32 1747873779,.int .u32 1955562222,.int .u32 2024104815,.int .u32 2227730452,.int .u32 2361852424,.int .u32 2428436474,.int .u32 2756734187,.int .u32 3204031479,.int .u32 3329325298]:List AV)=shaK.map aW:=rfl
end
section
open Go.RowKit
set_option maxRecDepth 100000
theorem c0o(i:Nat):(4 * (i:Int)).toNat=4 * i:=by omega
theorem b7H(i:Nat):(4 * (i:Int)+1).toNat=4 * i+1:=by omega
theorem b7I(i:Nat):(4 * (i:Int)+2).toNat=4 * i+2:=by omega
theorem b7J(i:Nat):(4 * (i:Int)+3).toNat=4 * i+3:=by omega
theorem b8G(i k:Nat):((i:Int) - (k:Int)).toNat=i - k:=by omega
theorem b6z(i:Nat):((i:Int) - 16).toNat=i - 16:=by omega
theorem b6A(i:Nat):((i:Int) - 15).toNat=i - 15:=by omega
theorem b6B(i:Nat):((i:Int) - 7).toNat=i - 7:=by omega
theorem c0n(i:Nat):((i:Int) - 2).toNat=i - 2:=by omega
theorem a8M(l:List Wd)(i:Nat)(hi:i<l.length)(K:AV→Prop):RK (ldR none ((l.map aW).drop i)) K=K (aW (l.getD i 0)):=by
 rw[List.drop_eq_getElem_cons (by simpa using hi)]
 apply propext
 simp[RK,ldR,AV.alias,List.getD,hi]
theorem a7K(l:List Wd)(i:Nat)(x:Wd)(hi:i<l.length):splice (l.map aW) i [aW x]=(l.set i x).map aW:=by
 induction l generalizing i with
 | nil=>simp at hi
 | cons y l ih=>cases i with
  | zero=>simp[splice]
  | succ i=>simp only[List.map_cons,splice,List.set_cons_succ];rw[ih i (by simpa using hi)]
theorem b4z(s:List UInt8)(i n:Nat)(h:n<i∧i≤64)(K:AV→Prop):RK (ldR none (((a5R s i).map aW).drop n)) K=K (aW ((sched s i).getD n 0)):=by
 rw[a8M _ _ (by rw[a5S s i h.2];omega),b3L s i n h.1]
theorem a2Y(s:List UInt8)(i:Nat)(h:i≤64):((a5R s i).map aW).length=64:=by rw[List.length_map,a5S s i h]
theorem a1W:∀ (z X:List AV),z.length=X.length→splice z 0 X=X
 | [],[],_=>rfl
 | [],_::_,h=>by simp at h
 | _::_,[],h=>by simp at h
 | _::z,x::X,h=>by
  show x::splice z 0 X=x::X
  rw[a1W z X (by simpa using h)]
theorem a5l(l:List Wd):(l.map aW).map AV.store=l.map aW:=by
 rw[List.map_map];rfl
theorem sxSha{A B:Prop}(h:B)(e:A=B:=by (simp (disch:=omega) only[*, ↓Ed,Eu, ↓reduceIte,reduceCtorEq,Nat.reduceAdd,Nat.reduceEqDiff,Nat.reduceLT,Nat.reduceLeDiff,Int.reduceToNat,Int.reduceEq,Int.reduceLT,Int.reduceLE,w64,List.length_append,List.length_map,b4C,b2I,b2L,b2H,b2J,a9A,a5M,b7M,Int.toNat_natCast,nn,b8G,b6z,b6A,b6B,c0n,c0o,b7H,b7I,b7J,Nat.mul_one,Nat.zero_add,Int.reduceAdd,b4z,a2Y];first|done|rfl)):A:=e▸h
theorem b4u(w:Wd)(a b c:Nat)(ha:1≤a∧a≤31)(hb:1≤b∧b≤31)(hc:1≤c∧c≤31):CP Tryz.prog 306 [aW w,.int .i64 (a:Int),.int .i64 (b:Int),.int .i64 (c:Int)] (aW ((rot w a ^^^ rot w b) ^^^ rot w c)):=by
 refine a9U _ _ (by simp) ?_
 simp only[a7u];refine sxSha ?_
 repeat' ((first|exact tt|refine CallO_pure (a9r w a ha) ?_|refine CallO_pure (a9r w b hb) ?_|refine CallO_pure (a9r w c hc) ?_|refine na fun b=>?_|refine nb fun b hb=>?_|refine iq ?_|(refine jq ?_ ?_<;>intro h h')|refine Two_intro ?_ ?_|exact wZ|fail)<;>try refine sxSha ?_)
theorem b2t(w:Wd)(a b c:Nat)(ha:1≤a∧a≤31)(hb:1≤b∧b≤31):CP Tryz.prog 324 [aW w,.int .i64 (a:Int),.int .i64 (b:Int),.int .i64 (c:Int)] (aW ((rot w a ^^^ rot w b) ^^^ w >>> c)):=by
 refine a9j _ _ (by simp) ?_
 simp only[a6e];refine sxSha ?_
 repeat' ((first|exact tt|refine CallW_intro (a9r w a ha) ?_|refine CallW_intro (a9r w b hb) ?_|refine na fun b=>?_|refine nb fun b hb=>?_|refine iq ?_|(refine jq ?_ ?_<;>intro h h')|refine Two_intro ?_ ?_|exact wZ|fail)<;>try refine sxSha ?_)
theorem b3A(w:Wd):CP Tryz.prog 324 [aW w,.int .i64 7,.int .i64 18,.int .i64 3] (aW ((rot w 7 ^^^ rot w 18) ^^^ w >>> 3)):=b2t w 7 18 3 (by omega) (by omega)
theorem b3B(w:Wd):CP Tryz.prog 324 [aW w,.int .i64 17,.int .i64 19,.int .i64 10] (aW ((rot w 17 ^^^ rot w 19) ^^^ w >>> 10)):=b2t w 17 19 10 (by omega) (by omega)
theorem b3C(s:List UInt8)(hs:s.length=64):CP Tryz.prog 305 [.str s] (.agg ((sched s 64).map aW)):=by
 refine a8s _ _ (by simp) ?_
 simp only[a5u];refine sxSha ?_
 repeat' ((first|exact tt|refine na fun b=>?_|refine nb fun b hb=>?_|refine iq ?_|(refine jq ?_ ?_<;>intro h h')|refine Two_intro ?_ ?_|exact wZ|fail)<;>try refine sxSha ?_)
 rename_i r
 obtain ⟨z,hz,hzl⟩:∃ z:List AV,z64=z∧z.length=64:=⟨_,rfl,rfl⟩
 refine wpx_loop (fun i:Nat=>⟨lk [(0,.str s),(2,.ptr r 0),(3,.ptr b 0),(5,.int .i64 (i:Int))],lk [(r,z),(b,(a5R s i).map aW)]⟩) (fun i=>i≤64) (fun i=>64 - i) 0 (by omega) (Le_lit (by rw[← hz,b4D s];simp[LeL,lk,hb])) ?_
 clear hz
 intro i hi
 by_cases hlt:i<64
 ·have f1:a0a (decide ((i:Int)<64)=true):=fo
  have l64:(a5R s i).length=64:=a5S s i hi
  by_cases h16:i<16
  ·have f2:a0a (decide ((i:Int)<16)=true):=fo
   have hS:=a7K (a5R s i) i (b4e s i) (by omega)
   rw[a5T s i hlt (b4e s i) (by rw[if_pos h16])]at hS
   have hX:=a2Y s i hi
   generalize (a5R s i).map aW=X at *
   clear l64
   simp only[b4e,b0X]at hS
   refine sxSha ?_
   repeat' ((first|exact tt|refine na fun b=>?_|refine nb fun b hb=>?_|refine iq ?_|(refine jq ?_ ?_<;>intro h h')|refine Two_intro ?_ ?_|exact wZ|fail)<;>try refine sxSha ?_)
   all_goals exact Round_lit (i+1) ⟨Le_lit (by simp[LeL,lk,hb]),by omega,by omega⟩
  ·have f2:a0a (decide ((i:Int)<16)=false):=fo
   have hS:=a7K (a5R s i) i (nxW (sched s i) i) (by omega)
   rw[a5T s i hlt (nxW (sched s i) i) (by rw[if_neg h16])]at hS
   have hX:=a2Y s i hi
   clear l64
   simp only[nxW]at hS
   refine sxSha ?_
   repeat' ((first|exact tt|refine CallW_intro (b3A _) ?_|refine CallW_intro (b3B _) ?_|refine na fun b=>?_|refine nb fun b hb=>?_|refine iq ?_|(refine jq ?_ ?_<;>intro h h')|refine Two_intro ?_ ?_|exact wZ|fail)<;>try refine sxSha ?_)
   all_goals exact Round_lit (i+1) ⟨Le_lit (by simp[LeL,lk,hb]),by omega,by omega⟩
 ·have f1:a0a (decide ((i:Int)<64)=false):=fo
  obtain rfl:i=64:=by omega
  have hX:(a5R s 64)=sched s 64:=by simp[a5R]
  have hL:((sched s 64).map aW).length=64:=by rw[List.length_map,a1m]
  rw[hX]
  have hT:List.take 64 ((sched s 64).map aW)=(sched s 64).map aW:=List.take_of_length_le (by omega)
  have hP:=a1W z ((sched s 64).map aW) (by omega)
  have hS:=a5l (sched s 64)
  clear hX
  generalize (sched s 64).map aW=X at *
  refine sxSha ?_
  repeat' ((first|exact tt|refine na fun b=>?_|refine nb fun b hb=>?_|refine iq ?_|(refine jq ?_ ?_<;>intro h h')|refine Two_intro ?_ ?_|exact wZ|fail)<;>try refine sxSha ?_)
end
section
open Go.RowKit
set_option maxRecDepth 100000
theorem b3K(s:List UInt8)(n:Nat)(h:n<64)(K:AV→Prop):RK (ldR none (((sched s 64).map aW).drop n)) K=K (aW ((sched s 64).getD n 0)):=a8M _ _ (by rw[a1m];exact h) K
theorem b7Z(n:Nat)(h:n<64)(K:AV→Prop):RK (ldR none ((shaK.map aW).drop n)) K=K (aW (shaK.getD n 0)):=a8M _ _ h K
theorem b5C(w:Wd):CP Tryz.prog 306 [aW w,.int .i64 6,.int .i64 11,.int .i64 25] (aW ((rot w 6 ^^^ rot w 11) ^^^ rot w 25)):=b4u w 6 11 25 (by omega) (by omega) (by omega)
theorem b5D(w:Wd):CP Tryz.prog 306 [aW w,.int .i64 2,.int .i64 13,.int .i64 22] (aW ((rot w 2 ^^^ rot w 13) ^^^ rot w 22)):=b4u w 2 13 22 (by omega) (by omega) (by omega)
def a5m(h s:S8)(i:Nat):List AV:=[aW (if 0<i then h.a+s.a else h.a),aW (if 1<i then h.b+s.b else h.b),aW (if 2<i then h.c+s.c else h.c),aW (if 3<i then h.d+s.d else h.d),
 aW (if 4<i then h.e+s.e else h.e),aW (if 5<i then h.f+s.f else h.f),aW (if 6<i then h.g+s.g else h.g),aW (if 7<i then h.h+s.h else h.h)]
abbrev z8:List AV:=[.int .u32 0,.int .u32 0,.int .u32 0,.int .u32 0,.int .u32 0,.int .u32 0,.int .u32 0,.int .u32 0]
theorem sxShb{A B:Prop}(h:B)(e:A=B:=by (simp (disch:=omega) only[*, ↓Ed,Eu, ↓reduceIte,reduceCtorEq,Nat.reduceAdd,Nat.reduceEqDiff,Nat.reduceLT,Nat.reduceLeDiff,Int.reduceToNat,Int.reduceEq,Int.reduceLT,Int.reduceLE,w64,List.length_append,List.length_map,b4C,b2I,b2L,b2H,b2J,a9A,a5M,b7M,Int.toNat_natCast,nn,Nat.mul_one,Nat.zero_add,Int.reduceAdd,b3K,b7Z,a1m,S8.c8,a5m];first|done|rfl)):A:=e▸h
set_option maxHeartbeats 2000000 in
theorem b8X(h:S8)(c:List UInt8)(hc:c.length=64):CP Tryz.prog 278 [.agg h.c8,.str c] (.agg (b5d h c).c8):=by
 refine b1i _ _ (by simp) ?_
 have hS:=b3C c hc
 simp (disch:=omega) only[a8O,b0O, ↓Ed,Eu, ↓reduceIte,reduceCtorEq,Nat.reduceAdd,Nat.reduceEqDiff,Nat.reduceLT,Nat.reduceLeDiff,Int.reduceToNat,Int.reduceEq,Int.reduceLT,Int.reduceLE,w64,List.length_append,List.length_map,b4C,b2I,b2L,b2H,b2J,a9A,a5M,b7M,Int.toNat_natCast,nn,Nat.mul_one,Nat.zero_add,Int.reduceAdd,b3K,b7Z,a1m,S8.c8,a5m]
 repeat' ((first|exact tt|refine CallO_pure (hS) ?_|refine na fun b=>?_|refine nb fun b hb=>?_|refine iq ?_|(refine jq ?_ ?_<;>intro h h')|refine Two_intro ?_ ?_|exact wZ|fail)<;>try refine sxShb ?_)
 rename_i bh br hbr
 clear hS
 have hL:((sched c 64).map aW).length=64:=by rw[List.length_map,a1m]
 refine wpx_loop (fun i:Nat=>⟨lk [(2,.ptr bh 0),(4,.ptr br 0),(5,.ptr b 0),(13,.agg ((sched c 64).map aW)),(14,.int .i64 (i:Int))],lk [(bh,h.c8),(br,z8),(b,(a9F h (sched c 64) i).c8)]⟩) (fun i=>i≤64) (fun i=>64 - i) 0 (by omega) (Le_lit (by simp[LeL,lk,hb,hbr,a9F])) ?_
 intro i hi
 by_cases hlt:i<64
 ·have f1:a0a (decide ((i:Int)<64)=true):=fo
  have hR:a9F h (sched c 64) (i+1)=b2D (a9F h (sched c 64) i) (shaK.getD i 0) ((sched c 64).getD i 0):=rfl
  generalize a9F h (sched c 64) i=S at *
  simp (disch:=omega) only[hb,hbr,hL,b0O, ↓Ed,Eu, ↓reduceIte,reduceCtorEq,Nat.reduceAdd,Nat.reduceEqDiff,Nat.reduceLT,Nat.reduceLeDiff,Int.reduceToNat,Int.reduceEq,Int.reduceLT,Int.reduceLE,w64,List.length_append,List.length_map,b4C,b2I,b2L,b2H,b2J,a9A,a5M,b7M,Int.toNat_natCast,nn,Nat.mul_one,Nat.zero_add,Int.reduceAdd,b3K,b7Z,a1m,S8.c8,a5m]
  repeat' ((first|exact tt|refine CallW_intro (b5C _) ?_|refine CallW_intro (b5D _) ?_|refine na fun b=>?_|refine nb fun b hb=>?_|refine iq ?_|(refine jq ?_ ?_<;>intro h h')|refine Two_intro ?_ ?_|exact wZ|fail)<;>try refine sxShb ?_)
  all_goals exact Round_lit (i+1) ⟨Le_lit (by simp[-List.getD_eq_getElem?_getD,LeL,lk,hb,hbr,hR,b2D,stepT,b5N]),by omega,by omega⟩
 have f1:a0a (decide ((i:Int)<64)=false):=fo
 obtain rfl:i=64:=by omega
 have hM:b5d h c=b4F h (a9F h (sched c 64) 64):=rfl
 rw[hM]
 generalize a9F h (sched c 64) 64=S at *
 clear hL hM hlt hi
 refine sxShb ?_
 repeat' ((first|exact tt|refine na fun b=>?_|refine nb fun b hb=>?_|refine iq ?_|(refine jq ?_ ?_<;>intro h h')|refine Two_intro ?_ ?_|exact wZ|fail)<;>try refine sxShb ?_)
 clear f1
 refine wpx_loop (fun i:Nat=>⟨lk [(2,.ptr bh 0),(4,.ptr br 0),(5,.ptr b 0),(85,.int .i64 (i:Int))],lk [(bh,a5m h S i),(br,z8),(b,S.c8)]⟩) (fun i=>i≤8) (fun i=>8 - i) 0 (by omega) (Le_lit (by simp[LeL,lk,hb,hbr,a5m])) ?_
 intro i hi
 by_cases hlt:i<8
 ·have hc8:i=0∨i=1∨i=2∨i=3∨i=4∨i=5∨i=6∨i=7:=by omega
  rcases hc8 with rfl|rfl|rfl|rfl|rfl|rfl|rfl|rfl
  all_goals (refine sxShb ?_;try exact tt)
  all_goals repeat' ((first|exact tt|refine na fun b=>?_|refine nb fun b hb=>?_|refine iq ?_|(refine jq ?_ ?_<;>intro h h')|refine Two_intro ?_ ?_|exact wZ|fail)<;>try refine sxShb ?_)
  all_goals first|exact Round_lit 1 ⟨Le_lit (by simp[LeL,lk,hb,hbr,a5m]),by omega,by omega⟩|exact Round_lit 2 ⟨Le_lit (by simp[LeL,lk,hb,hbr,a5m]),by omega,by omega⟩|exact Round_lit 3 ⟨Le_lit (by simp[LeL,lk,hb,hbr,a5m]),by omega,by omega⟩|exact Round_lit 4 ⟨Le_lit (by simp[LeL,lk,hb,hbr,a5m]),by omega,by omega⟩|exact Round_lit 5 ⟨Le_lit (by simp[LeL,lk,hb,hbr,a5m]),by omega,by omega⟩|exact Round_lit 6 ⟨Le_lit (by simp[LeL,lk,hb,hbr,a5m]),by omega,by omega⟩|exact Round_lit 7 ⟨Le_lit (by simp[LeL,lk,hb,hbr,a5m]),by omega,by omega⟩|exact Round_lit 8 ⟨Le_lit (by simp[LeL,lk,hb,hbr,a5m]),by omega,by omega⟩
 have f1:a0a (decide ((i:Int)<8)=false):=fo
 obtain rfl:i=8:=by omega
 have hA:a5m h S 8=(b4F h S).c8:=rfl
 rw[hA]
 generalize b4F h S=R
 clear hA hlt hi
 refine sxShb ?_
 repeat' ((first|exact tt|refine na fun b=>?_|refine nb fun b hb=>?_|refine iq ?_|(refine jq ?_ ?_<;>intro h h')|refine Two_intro ?_ ?_|exact wZ|fail)<;>try refine sxShb ?_)
end
section
open Go.RowKit
set_option maxRecDepth 100000
theorem k0:((0:Nat):Int)=0:=rfl
theorem k1:((1:Nat):Int)=1:=rfl
theorem k2:((2:Nat):Int)=2:=rfl
theorem k3:((3:Nat):Int)=3:=rfl
theorem k4:((4:Nat):Int)=4:=rfl
theorem k5n:((5:Nat):Int)=5:=rfl
theorem k6:((6:Nat):Int)=6:=rfl
theorem k7:((7:Nat):Int)=7:=rfl
def byL(n k:Nat):UInt8:=UInt8.ofNat (n * 8 / 2 ^ (8 * k))
def b1W(n i:Nat):List AV:=[byC (if 7<i then byL n 7 else 0),byC (if 6<i then byL n 6 else 0),byC (if 5<i then byL n 5 else 0),byC (if 4<i then byL n 4 else 0),byC (if 3<i then byL n 3 else 0),byC (if 2<i then byL n 2 else 0),byC (if 1<i then byL n 1 else 0),byC (if 0<i then byL n 0 else 0)]
theorem c0A(n:Nat)(h:n≤281474976710656):IntKind.wrap .u64 (IntKind.wrap .u64 (n:Int) * 2 ^ (min 3 (IntKind.bits .u64)))=((n * 8:Nat):Int):=by
 show ((n:Int) % 18446744073709551616 * 8) % 18446744073709551616=_
 omega
theorem b8a(m k:Nat):IntKind.wrap .u8 (((m:Nat):Int).fdiv (2 ^ k))=((UInt8.ofNat (m / 2 ^ k)).toNat:Int):=by
 show ((m:Int).fdiv (2 ^ k)) % 256=_
 rw[a8A,Int.fdiv_eq_ediv_of_nonneg _ (Int.natCast_nonneg _),UInt8.toNat_ofNat']
 rfl
theorem sxShc{A B:Prop}(h:B)(e:A=B:=by (simp (disch:=omega) only[*, ↓Ed,Eu, ↓reduceIte,reduceCtorEq,Nat.reduceAdd,Nat.reduceEqDiff,Nat.reduceLT,Nat.reduceLeDiff,Int.reduceToNat,Int.reduceEq,Int.reduceLT,Int.reduceLE,w64,List.length_append,List.length_map,Int.toNat_natCast,nn,Nat.mul_one,Nat.zero_add,Int.reduceAdd,b1W,Int.reduceSub,Int.reduceMul,b8a,c0A,k0,k1,k2,k3,k4,k5n,k6,k7];first|done|rfl)):A:=e▸h
theorem b6V(n:Nat)(h:n≤281474976710656):CP Tryz.prog 276 [.int .i64 (n:Int)] (.str (len8 n)):=by
 refine a8r _ _ (by simp) ?_
 simp only[a5t];refine sxShc ?_
 repeat' ((first|exact tt|refine na fun b=>?_|refine nb fun b hb=>?_|refine iq ?_|(refine jq ?_ ?_<;>intro h h')|refine Two_intro ?_ ?_|exact wZ|fail)<;>try refine sxShc ?_)
 refine wpx_loop (fun i:Nat=>⟨lk [(0,.int .i64 (n:Int)),(3,.ptr b 0),(5,.int .i64 (i:Int))],lk [(b,b1W n i)]⟩) (fun i=>i≤8) (fun i=>8 - i) 0 (by omega) (Le_lit (by simp[LeL,lk,b1W,byC])) ?_
 intro i hi
 by_cases hlt:i<8
 ·have f1:a0a (decide ((i:Int)<8)=true):=fo
  have hc8:i=0∨i=1∨i=2∨i=3∨i=4∨i=5∨i=6∨i=7:=by omega
  rcases hc8 with rfl|rfl|rfl|rfl|rfl|rfl|rfl|rfl
  all_goals (refine sxShc ?_;try exact tt)
  all_goals repeat' ((first|exact tt|refine na fun b=>?_|refine nb fun b hb=>?_|refine iq ?_|(refine jq ?_ ?_<;>intro h h')|refine Two_intro ?_ ?_|exact wZ|fail)<;>try refine sxShc ?_)
  all_goals first|exact Round_lit 1 ⟨Le_lit (by simp[LeL,lk,b1W,byC,byL,IntKind.bits]),by omega,by omega⟩|exact Round_lit 2 ⟨Le_lit (by simp[LeL,lk,b1W,byC,byL,IntKind.bits]),by omega,by omega⟩|exact Round_lit 3 ⟨Le_lit (by simp[LeL,lk,b1W,byC,byL,IntKind.bits]),by omega,by omega⟩|exact Round_lit 4 ⟨Le_lit (by simp[LeL,lk,b1W,byC,byL,IntKind.bits]),by omega,by omega⟩|exact Round_lit 5 ⟨Le_lit (by simp[LeL,lk,b1W,byC,byL,IntKind.bits]),by omega,by omega⟩|exact Round_lit 6 ⟨Le_lit (by simp[LeL,lk,b1W,byC,byL,IntKind.bits]),by omega,by omega⟩|exact Round_lit 7 ⟨Le_lit (by simp[LeL,lk,b1W,byC,byL,IntKind.bits]),by omega,by omega⟩|exact Round_lit 8 ⟨Le_lit (by simp[LeL,lk,b1W,byC,byL,IntKind.bits]),by omega,by omega⟩
 have f1:a0a (decide ((i:Int)<8)=false):=fo
 obtain rfl:i=8:=by omega
 refine sxShc ?_
 repeat' ((first|exact tt|refine BytesO_intro (len8 n) rfl rfl ?_|refine na fun b=>?_|refine nb fun b hb=>?_|refine iq ?_|(refine jq ?_ ?_<;>intro h h')|refine Two_intro ?_ ?_|exact wZ|fail)<;>try refine sxShc ?_)
abbrev hcs(l:List UInt8):List AV:=l.map byC
theorem b5B(l:List UInt8)(hl:l.length=32):CP Tryz.prog 228 [.agg (hcs l)] (.str l):=by
 refine a9T _ _ (by simp) ?_
 have hs:(hcs l).map AV.store=hcs l:=by rw[List.map_map];rfl
 have ht:List.take 32 (hcs l)=hcs l:=List.take_of_length_le (by simp[hl])
 have h0:0<(hcs l).length:=by simp[hl]
 simp only[a7t];refine sxShc ?_
 repeat' ((first|exact tt|refine BytesO_intro l rfl hl ?_|refine na fun b=>?_|refine nb fun b hb=>?_|refine iq ?_|(refine jq ?_ ?_<;>intro h h')|refine Two_intro ?_ ?_|exact wZ|fail)<;>try refine sxShc ?_)
end
section
open Go.RowKit
set_option maxRecDepth 100000
theorem a4N(n:Nat):(len8 n).length=8:=by simp[len8]
theorem tm1(n:Nat):(n:Int).tmod 64=((n % 64:Nat):Int):=rfl
theorem tm2(n:Nat):(119 - ((n % 64:Nat):Int)).tmod 64=(((119 - n % 64) % 64:Nat):Int):=by
 rw[show (119 - ((n % 64:Nat):Int))=((119 - n % 64:Nat):Int) by omega];rfl
theorem tq4(i:Nat):(i:Int).tdiv 4=((i / 4:Nat):Int):=rfl
theorem tm4(i:Nat):(i:Int).tmod 4=((i % 4:Nat):Int):=rfl
theorem sh4(i:Nat):(24 - ((i % 4:Nat):Int) * 8).toNat=24 - 8 * (i % 4):=by omega
theorem a7L(l:List UInt8)(i:Nat)(x:UInt8)(hi:i<l.length):splice (l.map byC) i [byC x]=(l.set i x).map byC:=by
 induction l generalizing i with
 | nil=>simp at hi
 | cons y l ih=>cases i with
  | zero=>simp[splice]
  | succ i=>simp only[List.map_cons,splice,List.set_cons_succ];rw[ih i (by simpa using hi)]
abbrev z32:List AV:=[.int .u8 0,.int .u8 0,.int .u8 0,.int .u8 0,.int .u8 0,.int .u8 0,.int .u8 0,.int .u8 0,.int .u8 0,.int .u8 0,.int .u8 0,.int .u8 0,.int .u8 0,.int .u8 0,.int .u8 0,.int .u8 0,.int .u8 0,.int .u8 0,.int .u8 0,.int .u8 0,.int .u8 0,.int .u8 0,.int .u8 0,.int .u8 0,.int .u8 0,.int .u8 0,.int .u8 0,.int .u8 0,.int .u8 0,.int .u8 0,.int .u8 0,.int .u8 0]
theorem sxShd{A B:Prop}(h:B)(e:A=B:=by (simp (disch:=omega) only[*, ↓Ed,Eu, ↓reduceIte,reduceCtorEq,Nat.reduceAdd,Nat.reduceEqDiff,Nat.reduceLT,Nat.reduceLeDiff,Int.reduceToNat,Int.reduceEq,Int.reduceLT,Int.reduceLE,w64,List.length_append,List.length_map,List.length_replicate,List.length_cons,List.length_nil,List.length_drop,List.length_take,a4N,Int.toNat_natCast,nn,Nat.mul_one,Nat.zero_add,Int.reduceAdd,a4K,tm1,tm2,tq4,tm4,sh4,a5M,b3W];first|done|rfl)):A:=e▸h
theorem b5n:CP Tryz.prog 277 [] (.agg sha0.c8):=by
 refine a9i _ _ (by simp) ?_
 simp only[a6d];refine sxShd ?_
 repeat' ((first|exact tt|refine na fun b=>?_|refine nb fun b hb=>?_|refine iq ?_|(refine jq ?_ ?_<;>intro h h')|refine Two_intro ?_ ?_|exact wZ|fail)<;>try refine sxShd ?_)
 all_goals rfl
set_option maxHeartbeats 2000000 in
theorem b6Y(g:AV)(l:List (List UInt8))(hg:g.alias=.sl none 1 (l.map fun p=>[.str p]))(hn:l.length≤1000000)(hl:l.flatten.length≤140737488355328):CP Tryz.prog 229 [g] (.agg (hcs (b3N l.flatten))):=by
 have hJ:=b5j none [] l (by omega) (by rw[a4K];exact hl)
 rw[a4K]at hJ
 generalize l.flatten=s at *
 have hR:=b6M ((119 - s.length % 64) % 64) (by omega)
 have hL:=b6V s.length (by omega)
 refine b1h _ _ (by simp) ?_
 simp only[a8N];refine sxShd ?_
 repeat' ((first|exact tt|refine CallO_pure (hJ) ?_|refine CallO_pure (hR) ?_|refine CallO_pure (hL) ?_|refine CallO_pure (b5n) ?_|refine na fun b=>?_|refine nb fun b hb=>?_|refine iq ?_|(refine jq ?_ ?_<;>intro h h')|refine Two_intro ?_ ?_|exact wZ|fail)<;>try refine sxShd ?_)
 rename_i br
 clear hJ hR hL
 obtain ⟨N,hN,hN1⟩:∃ N,(a3b s).length=64 * N∧(a3b s).length / 64=N:=⟨_,(b0I s).1,rfl⟩
 have hSh:b3N s=a4Y (a7D (a3b s) N):=by rw[← hN1];rfl
 have hPd:a3b s=s++([128]++List.replicate ((119 - s.length % 64) % 64) 0++len8 s.length):=by simp[a3b]
 obtain ⟨z,hz,hzl⟩:∃ z:List AV,z32=z∧z.length=32:=⟨_,rfl,rfl⟩
 have hPl:(a3b s).length≤140737488355328+200:=by rw[hPd];simp[len8];omega
 refine wpx_loop (fun k:Nat=>⟨lk [(2,.ptr br 0),(3,.str ((a3b s).drop (64 * k))),(5,.ptr b 0)],lk [(br,z),(b,(a7D (a3b s) k).c8)]⟩) (fun k=>k≤N) (fun k=>N - k) 0 (by omega) (Le_lit (by rw[← hz,hPd];simp[LeL,lk,hb,a7D])) ?_
 clear hz hPd hN1
 rw[hSh]
 clear hSh
 intro k hk
 by_cases hlt:k<N
 ·have hne:(a3b s).drop (64 * k)≠[]:=fun e=>by
   have:=congrArg List.length e
   rw[List.length_drop]at this
   simp at this;omega
  have f1:a0a (decide ((a3b s).drop (64 * k)=[])=false):=by simp only[a0a,Hn];exact hne
  have hR:a7D (a3b s) (k+1)=b5d (a7D (a3b s) k) (((a3b s).drop (64 * k)).take 64):=rfl
  have hM:=b8X (a7D (a3b s) k) (((a3b s).drop (64 * k)).take 64) (by rw[List.length_take,List.length_drop];omega)
  have hdl:((a3b s).drop (64 * k)).length=64 * N - 64 * k:=by rw[List.length_drop,hN]
  have hdd:((a3b s).drop (64 * k)).drop 64=(a3b s).drop (64 * (k+1)):=by rw[List.drop_drop];congr 1
  rw[← hR]at hM
  have hdt:((a3b s).drop (64 * k)).take (64 * N - 64 * k)=(a3b s).drop (64 * k):=List.take_of_length_le (by omega)
  generalize hS':a7D (a3b s) (k+1)=S' at *
  generalize a7D (a3b s) k=S at *
  generalize (a3b s).drop (64 * k)=q at *
  clear hne hR
  refine sxShd ?_
  repeat' ((first|exact tt|refine CallW_intro (hM) ?_|refine na fun b=>?_|refine nb fun b hb=>?_|refine iq ?_|(refine jq ?_ ?_<;>intro h h')|refine Two_intro ?_ ?_|exact wZ|fail)<;>try refine sxShd ?_)
  all_goals exact Round_lit (k+1) ⟨Le_lit (by simp[LeL,lk,hb, *]),by omega,by omega⟩
 obtain rfl:k=N:=by omega
 have hne:(a3b s).drop (64 * k)=[]:=List.drop_eq_nil_of_le (by omega)
 have f1:a0a (decide ((a3b s).drop (64 * k)=[])=true):=by simp only[a0a,Hn];exact hne
 generalize a7D (a3b s) k=S at *
 rw[hne]at f1 ⊢
 clear hne hN hlt hk hPl
 refine sxShd ?_
 repeat' ((first|exact tt|refine na fun b=>?_|refine nb fun b hb=>?_|refine iq ?_|(refine jq ?_ ?_<;>intro h h')|refine Two_intro ?_ ?_|exact wZ|fail)<;>try refine sxShd ?_)
 rename_i bs hbs
 clear f1
 have hO:(a8v S 0).map byC=z32:=rfl
 have h8:S.c8=S.l.map aW:=rfl
 refine wpx_loop (fun i:Nat=>⟨lk [(2,.ptr br 0),(5,.ptr bs 0),(6,.ptr b 0),(32,.int .i64 (i:Int))],lk [(br,z),(bs,S.l.map aW),(b,(a8v S i).map byC)]⟩) (fun i=>i≤32) (fun i=>32 - i) 0 (by omega) (Le_lit (by rw[hO];simp[LeL,lk,hb,hbs])) ?_
 clear hO h8
 intro i hi
 by_cases hlt:i<32
 ·have f1:a0a (decide ((i:Int)<32)=true):=fo
  have h4:i / 4<8:=by omega
  have hld:=a8M S.l (i / 4) h4
  have hst:=a7L (a8v S i) i (b4q S i) (by rw[a5P S i hi];exact hlt)
  rw[b0E S i hlt _ rfl]at hst
  have hlen:((a8v S i).map byC).length=32:=by rw[List.length_map,a5P S i hi]
  have hlen8:(S.l.map aW).length=8:=rfl
  have hB:b4q S i=wB ((S.l.getD (i / 4) 0) >>> (24 - 8 * (i % 4))):=rfl
  rw[hB]at hst
  simp only[byC]at hst
  generalize S.l=sl at *
  generalize (a8v S i).map byC=X at *
  clear hB
  refine sxShd ?_
  repeat' ((first|exact tt|refine na fun b=>?_|refine nb fun b hb=>?_|refine iq ?_|(refine jq ?_ ?_<;>intro h h')|refine Two_intro ?_ ?_|exact wZ|fail)<;>try refine sxShd ?_)
  all_goals exact Round_lit (i+1) ⟨Le_lit (by simp[LeL,lk,hb,hbs]),by omega,by omega⟩
 have f1:a0a (decide ((i:Int)<32)=false):=fo
 obtain rfl:i=32:=by omega
 have hT:List.take 32 (hcs (a4Y S))=hcs (a4Y S):=List.take_of_length_le (by simp[a4Y])
 have hst:(hcs (a4Y S)).map AV.store=hcs (a4Y S):=by rw[List.map_map];rfl
 have hP:=a1W z (hcs (a4Y S)) (by rw[hzl];simp[a4Y])
 have hL:(hcs (a4Y S)).length=32:=by simp[a4Y]
 rw[show (a8v S 32).map byC=hcs (a4Y S) by rw[b0D]]
 generalize hcs (a4Y S)=X at *
 generalize S.l.map aW=Y at *
 refine sxShd ?_
 repeat' ((first|exact tt|refine na fun b=>?_|refine nb fun b hb=>?_|refine iq ?_|(refine jq ?_ ?_<;>intro h h')|refine Two_intro ?_ ?_|exact wZ|fail)<;>try refine sxShd ?_)
end
section
open Go.RowKit
set_option maxRecDepth 100000
theorem t32(n:Nat):(32 - (n:Int)).toNat=32 - n:=by omega
theorem b6s(l:List UInt8)(i:Nat)(h:i<l.length):(l.map a0m).getD i []=a0m (l.getD i 0):=by simp[List.getD,h]
theorem b8A(b:UInt8)(K:AV→Prop):RK (ldR none (a0m b)) K=K (.int .u8 (b.toNat:Int)):=by simp[RK,ldR,a0m,AV.alias]
theorem sxShr{A B:Prop}(h:B)(e:A=B:=by (simp (disch:=omega) only[*, ↓Ed,Eu, ↓reduceIte,reduceCtorEq,Nat.reduceAdd,Nat.reduceEqDiff,Nat.reduceLT,Nat.reduceLeDiff,Int.reduceToNat,Int.reduceEq,Int.reduceLT,Int.reduceLE,w64,List.length_append,List.length_map,b4C,b2I,b2L,b2H,b2J,a9A,a5M,b7M,Int.toNat_natCast,nn,b6z,b6A,b6B,c0n,c0o,b7H,b7I,b7J,Nat.mul_one,Nat.zero_add,Int.reduceAdd,b4z,a2Y,b3K,b7Z,a1m,S8.c8,a5m,t32,b9f,b6s,a5l,b8A];first|done|rfl)):A:=e▸h
theorem b5z(x:Wd)(n:Nat)(h:1≤n∧n≤31):CP Tryz.prog 273 [aW x,.int .i64 (n:Int)] (aW (rot x n)):=by
 refine a6M _ _ (by simp) ?_
 simp only[a4g];refine sxShr ?_
 repeat' ((first|exact tt|refine na fun b=>?_|refine nb fun b hb=>?_|refine iq ?_|(refine jq ?_ ?_<;>intro h h')|refine Two_intro ?_ ?_|exact wZ|fail)<;>try refine sxShr ?_)
 all_goals omega
theorem a1P(x:Wd)(k:Int)(n:Nat)(hk:k=(n:Int))(h:1≤n∧n≤31):CP Tryz.prog 273 [aW x,.int .i64 k] (aW (rot x n)):=by subst hk;exact b5z x n h
theorem b5r:CP Tryz.prog 226 [] (.agg (shaK.map aW)):=by
 refine a3T _ _ (by simp) ?_
 simp only[a2t];refine sxShr ?_
 repeat' ((first|exact tt|refine na fun b=>?_|refine nb fun b hb=>?_|refine iq ?_|(refine jq ?_ ?_<;>intro h h')|refine Two_intro ?_ ?_|exact wZ|fail)<;>try refine sxShr ?_)
 all_goals rfl
abbrev b9R(l:List UInt8):AV:=.sl none 1 (l.map a0m)
set_option maxHeartbeats 4000000 in
theorem b6X(h:S8)(s:List UInt8)(hs:s.length=64):CP Tryz.prog 227 [.agg h.c8,b9R s,.agg (shaK.map aW)] (.agg (b5d h s).c8):=by
 refine a7h _ _ (by simp) ?_
 have hk64:(shaK.map aW).length=64:=rfl
 have h0k:0<(shaK.map aW).length:=by rw[hk64];omega
 have hst:=a5l shaK
 generalize hK:shaK.map aW=KK at *
 simp only[a4E];refine sxShr ?_
 repeat' ((first|exact tt|refine na fun b=>?_|refine nb fun b hb=>?_|refine iq ?_|(refine jq ?_ ?_<;>intro h h')|refine Two_intro ?_ ?_|exact wZ|fail)<;>try refine sxShr ?_)
 rename_i bh bk hbk br hbr
 subst hK
 clear hst
 refine wpx_loop (fun i:Nat=>⟨lk [(1,b9R s),(3,.ptr bh 0),(5,.ptr bk 0),(6,.ptr br 0),(7,.ptr b 0),(8,.int .i64 (i:Int))],lk [(bh,h.c8),(bk,shaK.map aW),(br,z8),(b,(a5R s i).map aW)]⟩) (fun i=>i≤64) (fun i=>64 - i) 0 (by omega) (Le_lit (by rw[b4D s];simp[LeL,lk,hb,hbk,hbr])) ?_
 intro i hi
 by_cases hlt:i<64
 ·have f1:a0a (decide ((i:Int)<64)=true):=fo
  have l64:(a5R s i).length=64:=a5S s i hi
  by_cases h16:i<16
  ·have f2:a0a (decide ((i:Int)<16)=true):=fo
   have hS:=a7K (a5R s i) i (b4e s i) (by omega)
   rw[a5T s i hlt (b4e s i) (by rw[if_pos h16])]at hS
   have hX:=a2Y s i hi
   generalize (a5R s i).map aW=X at *
   clear l64 hk64 h0k
   simp only[b4e,b0X]at hS
   refine sxShr ?_
   repeat' ((first|exact tt|refine na fun b=>?_|refine nb fun b hb=>?_|refine iq ?_|(refine jq ?_ ?_<;>intro h h')|refine Two_intro ?_ ?_|exact wZ|fail)<;>try refine sxShr ?_)
   all_goals exact Round_lit (i+1) ⟨Le_lit (by simp[LeL,lk,hb,hbk,hbr]),by omega,by omega⟩
  ·have f2:a0a (decide ((i:Int)<16)=false):=fo
   have hS:=a7K (a5R s i) i (nxW (sched s i) i) (by omega)
   rw[a5T s i hlt (nxW (sched s i) i) (by rw[if_neg h16])]at hS
   have hX:=a2Y s i hi
   clear l64 hk64 h0k
   simp only[nxW]at hS
   refine sxShr ?_
   repeat' ((first|exact tt|refine CallW_intro (a1P _ 7 7 rfl (by omega)) ?_|refine CallW_intro (a1P _ 18 18 rfl (by omega)) ?_|refine CallW_intro (a1P _ 17 17 rfl (by omega)) ?_|refine CallW_intro (a1P _ 19 19 rfl (by omega)) ?_|refine na fun b=>?_|refine nb fun b hb=>?_|refine iq ?_|(refine jq ?_ ?_<;>intro h h')|refine Two_intro ?_ ?_|exact wZ|fail)<;>try refine sxShr ?_)
   all_goals exact Round_lit (i+1) ⟨Le_lit (by simp[LeL,lk,hb,hbk,hbr]),by omega,by omega⟩
 have f1:a0a (decide ((i:Int)<64)=false):=fo
 obtain rfl:i=64:=by omega
 rw[show (a5R s 64)=sched s 64 by simp[a5R]]
 refine sxShr ?_
 repeat' ((first|exact tt|refine na fun b=>?_|refine nb fun b hb=>?_|refine iq ?_|(refine jq ?_ ?_<;>intro h h')|refine Two_intro ?_ ?_|exact wZ|fail)<;>try refine sxShr ?_)
 rename_i bw hbw
 clear f1 hlt hi
 refine wpx_loop (fun i:Nat=>⟨lk [(3,.ptr bh 0),(5,.ptr bk 0),(6,.ptr br 0),(7,.ptr bw 0),(11,.ptr b 0),(12,.int .i64 (i:Int))],lk [(bh,h.c8),(bk,shaK.map aW),(br,z8),(bw,(sched s 64).map aW),(b,(a9F h (sched s 64) i).c8)]⟩) (fun i=>i≤64) (fun i=>64 - i) 0 (by omega) (Le_lit (by simp[LeL,lk,hb,hbk,hbr,hbw,a9F])) ?_
 intro i hi
 by_cases hlt:i<64
 ·have f1:a0a (decide ((i:Int)<64)=true):=fo
  have hR:a9F h (sched s 64) (i+1)=b2D (a9F h (sched s 64) i) (shaK.getD i 0) ((sched s 64).getD i 0):=rfl
  generalize a9F h (sched s 64) i=S at *
  clear hk64 h0k
  refine sxShr ?_
  repeat' ((first|exact tt|refine CallW_intro (a1P _ 6 6 rfl (by omega)) ?_|refine CallW_intro (a1P _ 11 11 rfl (by omega)) ?_|refine CallW_intro (a1P _ 25 25 rfl (by omega)) ?_|refine CallW_intro (a1P _ 2 2 rfl (by omega)) ?_|refine CallW_intro (a1P _ 13 13 rfl (by omega)) ?_|refine CallW_intro (a1P _ 22 22 rfl (by omega)) ?_|refine na fun b=>?_|refine nb fun b hb=>?_|refine iq ?_|(refine jq ?_ ?_<;>intro h h')|refine Two_intro ?_ ?_|exact wZ|fail)<;>try refine sxShr ?_)
  all_goals exact Round_lit (i+1) ⟨Le_lit (by simp[-List.getD_eq_getElem?_getD,LeL,lk,hb,hbk,hbr,hbw,hR,b2D,stepT,b5N]),by omega,by omega⟩
 have f1:a0a (decide ((i:Int)<64)=false):=fo
 obtain rfl:i=64:=by omega
 have hM:b5d h s=b4F h (a9F h (sched s 64) 64):=rfl
 rw[hM]
 generalize a9F h (sched s 64) 64=S at *
 clear hk64 h0k hM hlt hi
 refine sxShr ?_
 repeat' ((first|exact tt|refine na fun b=>?_|refine nb fun b hb=>?_|refine iq ?_|(refine jq ?_ ?_<;>intro h h')|refine Two_intro ?_ ?_|exact wZ|fail)<;>try refine sxShr ?_)
 clear f1
 refine wpx_loop (fun i:Nat=>⟨lk [(3,.ptr bh 0),(6,.ptr br 0),(11,.ptr b 0),(17,.int .i64 (i:Int))],lk [(bh,a5m h S i),(br,z8),(b,S.c8)]⟩) (fun i=>i≤8) (fun i=>8 - i) 0 (by omega) (Le_lit (by simp[LeL,lk,hb,hbk,hbr,hbw,a5m])) ?_
 intro i hi
 by_cases hlt:i<8
 ·have hc8:i=0∨i=1∨i=2∨i=3∨i=4∨i=5∨i=6∨i=7:=by omega
  rcases hc8 with rfl|rfl|rfl|rfl|rfl|rfl|rfl|rfl
  all_goals (refine sxShr ?_;try exact tt)
  all_goals repeat' ((first|exact tt|refine na fun b=>?_|refine nb fun b hb=>?_|refine iq ?_|(refine jq ?_ ?_<;>intro h h')|refine Two_intro ?_ ?_|exact wZ|fail)<;>try refine sxShr ?_)
  all_goals first|exact Round_lit 1 ⟨Le_lit (by simp[LeL,lk,hb,hbk,hbr,hbw,a5m]),by omega,by omega⟩|exact Round_lit 2 ⟨Le_lit (by simp[LeL,lk,hb,hbk,hbr,hbw,a5m]),by omega,by omega⟩|exact Round_lit 3 ⟨Le_lit (by simp[LeL,lk,hb,hbk,hbr,hbw,a5m]),by omega,by omega⟩|exact Round_lit 4 ⟨Le_lit (by simp[LeL,lk,hb,hbk,hbr,hbw,a5m]),by omega,by omega⟩|exact Round_lit 5 ⟨Le_lit (by simp[LeL,lk,hb,hbk,hbr,hbw,a5m]),by omega,by omega⟩|exact Round_lit 6 ⟨Le_lit (by simp[LeL,lk,hb,hbk,hbr,hbw,a5m]),by omega,by omega⟩|exact Round_lit 7 ⟨Le_lit (by simp[LeL,lk,hb,hbk,hbr,hbw,a5m]),by omega,by omega⟩|exact Round_lit 8 ⟨Le_lit (by simp[LeL,lk,hb,hbk,hbr,hbw,a5m]),by omega,by omega⟩
 have f1:a0a (decide ((i:Int)<8)=false):=fo
 obtain rfl:i=8:=by omega
 have hA:a5m h S 8=(b4F h S).c8:=rfl
 rw[hA]
 generalize b4F h S=R
 clear hA hlt hi
 refine sxShr ?_
 repeat' ((first|exact tt|refine na fun b=>?_|refine nb fun b hb=>?_|refine iq ?_|(refine jq ?_ ?_<;>intro h h')|refine Two_intro ?_ ?_|exact wZ|fail)<;>try refine sxShr ?_)
end
section
open Go.RowKit
set_option maxRecDepth 100000
theorem b9H(i:Nat):(24 - 8 * ((i % 4:Nat):Int)).toNat=24 - 8 * (i % 4):=by omega
theorem a5w(n:Nat):len8 n=[byL n 7,byL n 6,byL n 5,byL n 4,byL n 3,byL n 2,byL n 1,byL n 0]:=rfl
theorem a8D:shaK.length=64:=rfl
theorem b5M:splice z64 0 (shaK.map aW)=shaK.map aW:=a1W z64 _ rfl
theorem b5a(n:Nat)(h:n≤281474976710656):IntKind.wrap .u64 (IntKind.wrap .u64 (n:Int) * 8)=((n * 8:Nat):Int):=by
 show ((n:Int) % 18446744073709551616 * 8) % 18446744073709551616=_
 omega
theorem b4J(l:List UInt8)(i:Nat)(hi:i<l.length)(K:AV→Prop):RK (ldR none ((l.map byC).drop i)) K=K (byC (l.getD i 0)):=by
 rw[List.drop_eq_getElem_cons (by simpa using hi)]
 apply propext
 simp[RK,ldR,byC,AV.alias,List.getD,hi]
def b1y(l:List UInt8)(i:Nat):List UInt8:=l.take i++List.replicate (32 - i) 0
theorem b0t(l:List UInt8)(i:Nat)(hl:l.length=32)(h:i≤32):(b1y l i).length=32:=by simp[b1y];omega
theorem b3d(l:List UInt8)(i:Nat)(hl:l.length=32)(h:i<32):(b1y l i).set i (l.getD i 0)=b1y l (i+1):=by
 unfold b1y
 have e:(l.take i).length=i:=by simp;omega
 rw[List.set_append_right _ _ (by rw[e];exact Nat.le_refl i),e,Nat.sub_self,show 32 - i=(32 - (i+1))+1 by omega,List.replicate_succ,List.set_cons_zero,List.take_succ,List.getElem?_eq_getElem (by omega)]
 simp[-List.take_append_getElem,List.getD,show i<l.length by omega]
theorem sxShs{A B:Prop}(h:B)(e:A=B:=by (simp (disch:=omega) only[*, ↓Ed,Eu, ↓reduceIte,reduceCtorEq,Nat.reduceAdd,Nat.reduceEqDiff,Nat.reduceLT,Nat.reduceLeDiff,Int.reduceToNat,Int.reduceEq,Int.reduceLT,Int.reduceLE,w64,List.length_append,List.length_map,List.length_replicate,List.length_cons,List.length_nil,Int.toNat_natCast,nn,Nat.mul_one,Nat.zero_add,Int.reduceAdd,Int.reduceSub,Int.reduceMul,tm1,tq4,tm4,b9H,a5M,b3W,b8a,b5a,k0,k1,k2,k3,k4,k5n,k6,k7,a5l,List.length_take,a4N,a8D,b5M];first|done|rfl)):A:=e▸h
theorem b5y(l:List UInt8)(hl:l.length=32):CP Tryz.prog 179 [.agg (hcs l)] (.str l):=by
 refine a6K _ _ (by simp) ?_
 have hs:(hcs l).map AV.store=hcs l:=by rw[List.map_map];rfl
 have h0:0<(hcs l).length:=by simp[hl]
 simp only[a4e];refine sxShs ?_
 repeat' ((first|exact tt|refine na fun b=>?_|refine nb fun b hb=>?_|refine iq ?_|(refine jq ?_ ?_<;>intro h h')|refine Two_intro ?_ ?_|exact wZ|fail)<;>try refine sxShs ?_)
 rename_i bl
 clear hs h0
 refine wpx_loop (fun i:Nat=>⟨lk [(1,.ptr bl 0),(3,.osl b 0 32),(4,.int .i64 (i:Int))],lk [(bl,hcs l),(b,(b1y l i).map byC)]⟩) (fun i=>i≤32) (fun i=>32 - i) 0 (by omega) (Le_lit (by simp[LeL,lk,hb,b1y,byC])) ?_
 intro i hi
 by_cases hlt:i<32
 ·have f1:a0a (decide ((i:Int)<32)=true):=fo
  have hld:∀ K:AV→Prop,RK (ldR none ((hcs l).drop i)) K=K (byC (l.getD i 0)):=b4J l i (by omega)
  have hst:=a7L (b1y l i) i (l.getD i 0) (by rw[b0t l i hl hi];exact hlt)
  rw[b3d l i hl hlt]at hst
  have hlen:((b1y l i).map byC).length=32:=by rw[List.length_map,b0t l i hl hi]
  have hlen2:(hcs l).length=32:=by rw[List.length_map,hl]
  have hal:(byC (l.getD i 0)).alias=byC (l.getD i 0):=rfl
  have hce:(byC (l.getD i 0)).cells=[byC (l.getD i 0)]:=rfl
  generalize (b1y l i).map byC=X at *
  generalize byC (l.getD i 0)=y at *
  generalize hcs l=Y at *
  refine sxShs ?_
  repeat' ((first|exact tt|refine na fun b=>?_|refine nb fun b hb=>?_|refine iq ?_|(refine jq ?_ ?_<;>intro h h')|refine Two_intro ?_ ?_|exact wZ|fail)<;>try refine sxShs ?_)
  all_goals exact Round_lit (i+1) ⟨Le_lit (by simp[LeL,lk,hb]),by omega,by omega⟩
 have f1:a0a (decide ((i:Int)<32)=false):=fo
 obtain rfl:i=32:=by omega
 rw[show b1y l 32=l by simp[b1y];exact List.take_of_length_le (by omega)]
 refine sxShs ?_
 repeat' ((first|exact tt|refine BytesO_intro l (List.take_of_length_le (by simp[hl])) hl ?_|refine na fun b=>?_|refine nb fun b hb=>?_|refine iq ?_|(refine jq ?_ ?_<;>intro h h')|refine Two_intro ?_ ?_|exact wZ|fail)<;>try refine sxShs ?_)
set_option maxHeartbeats 4000000 in
theorem b6W(s:List UInt8)(hl:s.length≤100000000000000):CP Tryz.prog 180 [.str s] (.agg (hcs (b3N s))):=by
 refine a7g _ _ (by simp) ?_
 have hmx:maxLen=9223372036854775807:=rfl
 simp only[a4D];refine sxShs ?_
 repeat' ((first|exact tt|refine na fun b=>?_|refine nb fun b hb=>?_|refine iq ?_|(refine jq ?_ ?_<;>intro h h')|refine Two_intro ?_ ?_|exact wZ|fail)<;>try refine sxShs ?_)
 obtain ⟨z,hz,hzl⟩:∃ z:List AV,z32=z∧z.length=32:=⟨_,rfl,rfl⟩
 refine wpx_loop (fun k:Nat=>⟨lk [(0,.str s),(2,.ptr b 0),(3,.sl (some 5) 1 ((s++128::List.replicate k 0).map a0m))],lk [(b,z)]⟩) (fun k=>k≤(119 - s.length % 64) % 64) (fun k=>(119 - s.length % 64) % 64 - k) 0 (by omega) (Le_lit (by rw[← hz];simp[LeL,lk,a0m])) ?_
 clear hz
 intro k hk
 have hq:(s++128::List.replicate k (0:UInt8)).length=s.length+(k+1):=by simp
 by_cases hlt:k<(119 - s.length % 64) % 64
 ·have f1:a0a (decide ((((s++128::List.replicate k (0:UInt8)).length % 64:Nat):Int)=56)=false):=fo
  have hn:(s++128::List.replicate k (0:UInt8)).map a0m++[[.int .u8 0]]=(s++128::List.replicate (k+1) 0).map a0m:=by
   rw[List.replicate_succ'];simp[a0m]
  generalize (s++128::List.replicate k (0:UInt8))=q at *
  simp (disch:=omega) only[hn,List.nil_append, ↓Ed,Eu, ↓reduceIte,reduceCtorEq,Nat.reduceAdd,Nat.reduceEqDiff,Nat.reduceLT,Nat.reduceLeDiff,Int.reduceToNat,Int.reduceEq,Int.reduceLT,Int.reduceLE,w64,List.length_append,List.length_map,List.length_replicate,List.length_cons,List.length_nil,Int.toNat_natCast,nn,Nat.mul_one,Nat.zero_add,Int.reduceAdd,Int.reduceSub,Int.reduceMul,tm1,tq4,tm4,b9H,a5M,b3W,b8a,b5a,k0,k1,k2,k3,k4,k5n,k6,k7,a5l,List.length_take,a4N,a8D,b5M]
  repeat' ((first|exact tt|refine na fun b=>?_|refine nb fun b hb=>?_|refine iq ?_|(refine jq ?_ ?_<;>intro h h')|refine Two_intro ?_ ?_|exact wZ|fail)<;>try refine sxShs ?_)
  all_goals exact Round_lit (k+1) ⟨Le_lit (by simp[LeL,lk]),by omega,by omega⟩
 obtain rfl:k=(119 - s.length % 64) % 64:=by omega
 have f1:a0a (decide ((((s++128::List.replicate ((119 - s.length % 64) % 64) (0:UInt8)).length % 64:Nat):Int)=56)=true):=fo
 have hP:(s++128::List.replicate ((119 - s.length % 64) % 64) 0)++len8 s.length=a3b s:=by simp[a3b]
 obtain ⟨N,hN,hN1⟩:∃ N,(a3b s).length=64 * N∧(a3b s).length / 64=N:=⟨_,(b0I s).1,rfl⟩
 have hSh:b3N s=a4Y (a7D (a3b s) N):=by rw[← hN1];rfl
 clear hN1 hlt hk
 rw[hSh]
 clear hSh
 generalize (s++128::List.replicate ((119 - s.length % 64) % 64) (0:UInt8))=q at *
 simp (disch:=omega) only[List.nil_append, ↓Ed,Eu, ↓reduceIte,reduceCtorEq,Nat.reduceAdd,Nat.reduceEqDiff,Nat.reduceLT,Nat.reduceLeDiff,Int.reduceToNat,Int.reduceEq,Int.reduceLT,Int.reduceLE,w64,List.length_append,List.length_map,List.length_replicate,List.length_cons,List.length_nil,Int.toNat_natCast,nn,Nat.mul_one,Nat.zero_add,Int.reduceAdd,Int.reduceSub,Int.reduceMul,tm1,tq4,tm4,b9H,a5M,b3W,b8a,b5a,k0,k1,k2,k3,k4,k5n,k6,k7,a5l,List.length_take,a4N,a8D,b5M]
 repeat' ((first|exact tt|refine na fun b=>?_|refine nb fun b hb=>?_|refine iq ?_|(refine jq ?_ ?_<;>intro h h')|refine Two_intro ?_ ?_|exact wZ|fail)<;>try refine sxShs ?_)
 clear f1
 refine wpx_loop (fun j:Nat=>⟨lk [(2,.ptr b 0),(3,.sl (some 5) 1 ((q++(len8 s.length).take j).map a0m)),(4,.int .u64 ((s.length * 8:Nat):Int)),(5,.int .i64 (7 - (j:Int)))],lk [(b,z)]⟩) (fun j=>j≤8) (fun j=>8 - j) 0 (by omega) (Le_lit (by simp[LeL,lk])) ?_
 intro j hj
 by_cases hlt:j<8
 ·have hc8:j=0∨j=1∨j=2∨j=3∨j=4∨j=5∨j=6∨j=7:=by omega
  rcases hc8 with rfl|rfl|rfl|rfl|rfl|rfl|rfl|rfl
  all_goals (refine sxShs ?_;try exact tt)
  all_goals repeat' ((first|exact tt|refine na fun b=>?_|refine nb fun b hb=>?_|refine iq ?_|(refine jq ?_ ?_<;>intro h h')|refine Two_intro ?_ ?_|exact wZ|fail)<;>try refine sxShs ?_)
  all_goals first|exact Round_lit 1 ⟨Le_lit (by simp[LeL,lk,a5w,byL,a0m,IntKind.bits]),by omega,by omega⟩|exact Round_lit 2 ⟨Le_lit (by simp[LeL,lk,a5w,byL,a0m,IntKind.bits]),by omega,by omega⟩|exact Round_lit 3 ⟨Le_lit (by simp[LeL,lk,a5w,byL,a0m,IntKind.bits]),by omega,by omega⟩|exact Round_lit 4 ⟨Le_lit (by simp[LeL,lk,a5w,byL,a0m,IntKind.bits]),by omega,by omega⟩|exact Round_lit 5 ⟨Le_lit (by simp[LeL,lk,a5w,byL,a0m,IntKind.bits]),by omega,by omega⟩|exact Round_lit 6 ⟨Le_lit (by simp[LeL,lk,a5w,byL,a0m,IntKind.bits]),by omega,by omega⟩|exact Round_lit 7 ⟨Le_lit (by simp[LeL,lk,a5w,byL,a0m,IntKind.bits]),by omega,by omega⟩|exact Round_lit 8 ⟨Le_lit (by simp[LeL,lk,a5w,byL,a0m,IntKind.bits]),by omega,by omega⟩
 obtain rfl:j=8:=by omega
 rw[show q++(len8 s.length).take 8=a3b s by rw[List.take_of_length_le (by simp[len8]),hP]]
 have hpb:64 * N≤100000000000300:=by rw[← hN, ← hP,List.length_append,a4N,hq];omega
 clear hP hq hlt hj
 generalize a3b s=p at *
 refine sxShs ?_
 repeat' ((first|exact tt|refine CallO_pure (b5r) ?_|refine na fun b=>?_|refine nb fun b hb=>?_|refine iq ?_|(refine jq ?_ ?_<;>intro h h')|refine Two_intro ?_ ?_|exact wZ|fail)<;>try refine sxShs ?_)
 rename_i br bh hbh
 refine wpx_loop (fun k:Nat=>⟨lk [(2,.ptr br 0),(3,.sl (some 5) 1 (p.map a0m)),(6,.ptr bh 0),(7,.ptr b 0),(8,.int .i64 (64 * (k:Int)))],lk [(br,z),(bh,(a7D p k).c8),(b,shaK.map aW)]⟩) (fun k=>k≤N) (fun k=>N - k) 0 (by omega) (Le_lit (by simp[LeL,lk,hb,hbh,a7D,sha0,wI])) ?_
 intro k hk
 by_cases hlt:k<N
 ·have f1:a0a (decide (64 * (k:Int)<(p.length:Int))=true):=fo
  have hR:a7D p (k+1)=b5d (a7D p k) ((p.drop (64 * k)).take 64):=rfl
  have hM:=b6X (a7D p k) ((p.drop (64 * k)).take 64) (by rw[List.length_take,List.length_drop];omega)
  have hch:List.drop (64 * k) (List.take (64 * k+64) (p.map a0m))=((p.drop (64 * k)).take 64).map a0m:=by
   rw[List.drop_take,show 64 * k+64 - 64 * k=64 by omega,List.map_take,List.map_drop]
  have t1:(64 * (k:Int)).toNat=64 * k:=by omega
  have t2:(64 * (k:Int)+64).toNat=64 * k+64:=by omega
  have t3:List.take 64 (shaK.map aW)=shaK.map aW:=rfl
  rw[← hR]at hM
  generalize hS':a7D p (k+1)=S' at *
  generalize a7D p k=S at *
  generalize (p.drop (64 * k)).take 64=c at *
  clear hR
  refine sxShs ?_
  repeat' ((first|exact tt|refine CallW_intro (hM) ?_|refine na fun b=>?_|refine nb fun b hb=>?_|refine iq ?_|(refine jq ?_ ?_<;>intro h h')|refine Two_intro ?_ ?_|exact wZ|fail)<;>try refine sxShs ?_)
  all_goals exact Round_lit (k+1) ⟨Le_lit (by simp[LeL,lk,hb,hbh,hS'];omega),by omega,by omega⟩
 obtain rfl:k=N:=by omega
 have f1:a0a (decide (64 * (k:Int)<(p.length:Int))=false):=fo
 generalize a7D p k=S at *
 refine sxShs ?_
 repeat' ((first|exact tt|refine na fun b=>?_|refine nb fun b hb=>?_|refine iq ?_|(refine jq ?_ ?_<;>intro h h')|refine Two_intro ?_ ?_|exact wZ|fail)<;>try refine sxShs ?_)
 rename_i bk hbk
 clear f1 hlt hk hN
 have hO:(a8v S 0).map byC=z32:=rfl
 refine wpx_loop (fun i:Nat=>⟨lk [(2,.ptr br 0),(6,.ptr bh 0),(9,.ptr b 0),(10,.int .i64 (i:Int))],lk [(br,z),(bh,S.l.map aW),(b,(a8v S i).map byC)]⟩) (fun i=>i≤32) (fun i=>32 - i) 0 (by omega) (Le_lit (by rw[hO];simp[LeL,lk,hb,hbh,hbk])) ?_
 clear hO
 intro i hi
 by_cases hlt:i<32
 ·have f1:a0a (decide ((i:Int)<32)=true):=fo
  have h4:i / 4<8:=by omega
  have hld:=a8M S.l (i / 4) h4
  have hst:=a7L (a8v S i) i (b4q S i) (by rw[a5P S i hi];exact hlt)
  rw[b0E S i hlt _ rfl]at hst
  have hlen:((a8v S i).map byC).length=32:=by rw[List.length_map,a5P S i hi]
  have hlen8:(S.l.map aW).length=8:=rfl
  have hB:b4q S i=wB ((S.l.getD (i / 4) 0) >>> (24 - 8 * (i % 4))):=rfl
  rw[hB]at hst
  simp only[byC]at hst
  generalize S.l=sl at *
  generalize (a8v S i).map byC=X at *
  clear hB
  refine sxShs ?_
  repeat' ((first|exact tt|refine na fun b=>?_|refine nb fun b hb=>?_|refine iq ?_|(refine jq ?_ ?_<;>intro h h')|refine Two_intro ?_ ?_|exact wZ|fail)<;>try refine sxShs ?_)
  all_goals exact Round_lit (i+1) ⟨Le_lit (by simp[LeL,lk,hb,hbh,hbk]),by omega,by omega⟩
 have f1:a0a (decide ((i:Int)<32)=false):=fo
 obtain rfl:i=32:=by omega
 have hT:List.take 32 (hcs (a4Y S))=hcs (a4Y S):=List.take_of_length_le (by simp[a4Y])
 have hst:(hcs (a4Y S)).map AV.store=hcs (a4Y S):=by rw[List.map_map];rfl
 have hP:=a1W z (hcs (a4Y S)) (by rw[hzl];simp[a4Y])
 have hL:(hcs (a4Y S)).length=32:=by simp[a4Y]
 rw[show (a8v S 32).map byC=hcs (a4Y S) by rw[b0D]]
 generalize hcs (a4Y S)=X at *
 generalize S.l.map aW=Y at *
 refine sxShs ?_
 repeat' ((first|exact tt|refine na fun b=>?_|refine nb fun b hb=>?_|refine iq ?_|(refine jq ?_ ?_<;>intro h h')|refine Two_intro ?_ ?_|exact wZ|fail)<;>try refine sxShs ?_)
end
end Go.Proofs.YtgdhinnepnlihaaGreatDoor
