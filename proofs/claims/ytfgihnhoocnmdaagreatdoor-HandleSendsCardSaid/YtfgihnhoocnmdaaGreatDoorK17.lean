import Derived.Test.YtfgihnhoocnmdaaGreatDoorK10
import Derived.Shelf.SlGeneric
import Derived.Shelf.SlSortCmp.NoneTotal
import Derived.Ground.SlsfProg
import Derived.Test.YtfgihnhoocnmdaaGreatDoorProg
import Derived.Test.YtfgihnhoocnmdaaGreatDoorK14
import Derived.Test.YtfgihnhoocnmdaaGreatDoorK11
import Derived.Test.YtfgihnhoocnmdaaGreatDoorK16
import Derived.Test.YtfgihnhoocnmdaaGreatDoorK15
import Derived.Shelf.Strings.SlTrimAscii
import Derived.WalkSmall
import Derived.Test.YtfgihnhoocnmdaaGreatDoorK12
import Derived.Lib.ItoaNum
import Derived.Lib.IndexMore
import Derived.Lib.Strings
import Derived.Lib.SplitLaws
import Derived.Laws.BitsAllLaws
namespace Go.Proofs.YtfgihnhoocnmdaaGreatDoor
set_option linter.all false
set_option maxHeartbeats 9000000
section
open Go.RowKit
abbrev Wd:=BitVec 32
def wI(x:Wd):Int:=(x.toNat:Int)
abbrev aW(x:Wd):AV:=.int .u32 (wI x)
theorem wrap_u32(n:Int):IntKind.wrap .u32 n=n % 4294967296:=rfl
theorem b7e(x:Wd):0≤wI x∧wI x<4294967296:=by
 have:=x.isLt
 unfold wI;omega
theorem b0x(x:Wd):wI x % 4294967296=wI x:=Int.emod_eq_of_lt (b7e x).1 (b7e x).2
theorem b5t(x:Wd):BitVec.ofInt 32 (wI x)=x:=by
 unfold wI;simp
theorem b2e(x y:Wd):IntKind.wrap .u32 (wI x+wI y)=wI (x+y):=by
 rw[wrap_u32];unfold wI;rw[BitVec.toNat_add];omega
theorem b2h(x y:Wd):IntKind.wrap .u32 ((BitVec.ofInt (IntKind.bits .u32) (wI x) ^^^ BitVec.ofInt (IntKind.bits .u32) (wI y)).toNat)=wI (x ^^^ y):=by
 show IntKind.wrap .u32 (((BitVec.ofInt 32 (wI x)) ^^^ (BitVec.ofInt 32 (wI y))).toNat:Int)=_
 rw[b5t,b5t,wrap_u32];exact b0x _
theorem b2f(x y:Wd):IntKind.wrap .u32 ((BitVec.ofInt (IntKind.bits .u32) (wI x) &&& BitVec.ofInt (IntKind.bits .u32) (wI y)).toNat)=wI (x &&& y):=by
 show IntKind.wrap .u32 (((BitVec.ofInt 32 (wI x)) &&& (BitVec.ofInt 32 (wI y))).toNat:Int)=_
 rw[b5t,b5t,wrap_u32];exact b0x _
theorem b4b(x y:Wd):IntKind.wrap .u32 ((BitVec.ofInt (IntKind.bits .u32) (wI x) ||| BitVec.ofInt (IntKind.bits .u32) (wI y)).toNat)=wI (x ||| y):=by
 show IntKind.wrap .u32 (((BitVec.ofInt 32 (wI x)) ||| (BitVec.ofInt 32 (wI y))).toNat:Int)=_
 rw[b5t,b5t,wrap_u32];exact b0x _
theorem b2g(x:Wd):IntKind.wrap .u32 ((BitVec.ofInt (IntKind.bits .u32) (if IntKind.signed .u32=true then -1 else IntKind.max .u32) ^^^ BitVec.ofInt (IntKind.bits .u32) (wI x)).toNat)=wI (~~~x):=by
 show IntKind.wrap .u32 (((BitVec.ofInt 32 4294967295) ^^^ (BitVec.ofInt 32 (wI x))).toNat:Int)=_
 rw[b5t,wrap_u32,show BitVec.ofInt 32 4294967295=BitVec.allOnes 32 from rfl,BitVec.allOnes_xor];exact b0x _
theorem a8g(m:Nat):((2:Int) ^ m)=((2 ^ m:Nat):Int):=by
 induction m with
 | zero=>rfl
 | succ m ih=>rw[Int.pow_succ,ih,Nat.pow_succ];rfl
theorem a5O(x:Wd)(n:Nat):(wI x).fdiv (2 ^ (min n (IntKind.bits .u32)))=wI (x >>> n):=by
 show (wI x).fdiv (2 ^ (min n 32))=_
 unfold wI
 rw[BitVec.toNat_ushiftRight,Nat.shiftRight_eq_div_pow,a8g,Int.fdiv_eq_ediv_of_nonneg _ (Int.natCast_nonneg _)]
 have key:x.toNat / 2 ^ (min n 32)=x.toNat / 2 ^ n:=by
  rcases Nat.le_total n 32 with h|h
  ·rw[Nat.min_eq_left h]
  ·rw[Nat.min_eq_right h,Nat.div_eq_of_lt x.isLt,Nat.div_eq_of_lt (Nat.lt_of_lt_of_le x.isLt (Nat.pow_le_pow_right (by omega) h))]
 rw[← key];rfl
theorem a9c(x:Wd)(n:Nat):IntKind.wrap .u32 (wI x * 2 ^ (min n (IntKind.bits .u32)))=wI (x <<< n):=by
 show IntKind.wrap .u32 (wI x * 2 ^ (min n 32))=_
 rw[wrap_u32]
 unfold wI
 rw[BitVec.toNat_shiftLeft,Nat.shiftLeft_eq,a8g]
 have key:x.toNat * 2 ^ (min n 32) % 4294967296=x.toNat * 2 ^ n % 2 ^ 32:=by
  rcases Nat.le_total n 32 with h|h
  ·rw[Nat.min_eq_left h]
  ·rw[Nat.min_eq_right h]
   have h1:x.toNat * 2 ^ n % 2 ^ 32=0:=by
    rw[show n=32+(n - 32) by omega,Nat.pow_add, ← Nat.mul_assoc,Nat.mul_right_comm]
    exact Nat.mul_mod_left _ _
   rw[h1];exact Nat.mul_mod_left _ _
 rw[← key];rfl
theorem b7f(b:UInt8):IntKind.wrap .u32 (b.toNat:Int)=wI (BitVec.ofNat 32 b.toNat):=by
 rw[wrap_u32];unfold wI
 have:=b.toNat_lt
 rw[BitVec.toNat_ofNat];omega
def wB(x:Wd):UInt8:=UInt8.ofNat x.toNat
theorem b3s(x:Wd):IntKind.wrap .u8 (wI x)=((wB x).toNat:Int):=by
 show wI x % 256=_
 unfold wB wI
 rw[UInt8.toNat_ofNat'];omega
def rot(x:Wd)(n:Nat):Wd:=(x <<< (32 - n)) ||| (x >>> n)
theorem c2u(x:Wd)(n:Nat):(x >>> n) ||| (x <<< (32 - n))=rot x n:=BitVec.or_comm _ _
structure S8 where
 a:Wd
 b:Wd
 c:Wd
 d:Wd
 e:Wd
 f:Wd
 g:Wd
 h:Wd
abbrev S8.l(s:S8):List Wd:=[s.a,s.b,s.c,s.d,s.e,s.f,s.g,s.h]
abbrev S8.c8(s:S8):List AV:=[aW s.a,aW s.b,aW s.c,aW s.d,aW s.e,aW s.f,aW s.g,aW s.h]
def stepT(s:S8)(k w:Wd):Wd:=s.h+((rot s.e 6 ^^^ rot s.e 11) ^^^ rot s.e 25)+((s.e &&& s.f) ^^^ (~~~s.e &&& s.g))+k+w
def b5l(s:S8):Wd:=((rot s.a 2 ^^^ rot s.a 13) ^^^ rot s.a 22)+(((s.a &&& s.b) ^^^ (s.a &&& s.c)) ^^^ (s.b &&& s.c))
def b1X(s:S8)(k w:Wd):S8:=⟨stepT s k w+b5l s,s.a,s.b,s.c,s.d+stepT s k w,s.e,s.f,s.g⟩
def b0B(b:List UInt8)(i:Nat):Wd:=BitVec.ofNat 32 (b.getD i 0).toNat
def b3x(b:List UInt8)(i:Nat):Wd:=((b0B b (4 * i) <<< 24 ||| b0B b (4 * i+1) <<< 16) ||| b0B b (4 * i+2) <<< 8) ||| b0B b (4 * i+3)
def nxW(l:List Wd)(i:Nat):Wd:=l.getD (i - 16) 0+((rot (l.getD (i - 15) 0) 7 ^^^ rot (l.getD (i - 15) 0) 18) ^^^ (l.getD (i - 15) 0) >>> 3)+l.getD (i - 7) 0+((rot (l.getD (i - 2) 0) 17 ^^^ rot (l.getD (i - 2) 0) 19) ^^^ (l.getD (i - 2) 0) >>> 10)
def a0x(b:List UInt8):Nat→List Wd
 | 0=>[]
 | i+1=>a0x b i++[if i<16 then b3x b i else nxW (a0x b i) i]
theorem a0K(b:List UInt8)(n:Nat):(a0x b n).length=n:=by
 induction n with
 | zero=>rfl
 | succ n ih=>simp[a0x,ih]
def a5T(b:List UInt8)(n:Nat):List Wd:=a0x b n++List.replicate (64 - n) 0
theorem a5U(b:List UInt8)(n:Nat)(h:n≤64):(a5T b n).length=64:=by simp[a5T,a0K];omega
theorem b3i(b:List UInt8)(n i:Nat)(h:i<n):(a5T b n).getD i 0=(a0x b n).getD i 0:=by
 simp only[a5T,List.getD]
 rw[List.getElem?_append_left (by rw[a0K];exact h)]
theorem a5V(b:List UInt8)(n:Nat)(h:n<64)(x:Wd)(hx:x=if n<16 then b3x b n else nxW (a0x b n) n):(a5T b n).set n x=a5T b (n+1):=by
 subst hx
 unfold a5T
 rw[List.set_append_right _ _ (by rw[a0K];exact Nat.le_refl n),a0K,Nat.sub_self,show 64 - n=(64 - (n+1))+1 by omega,List.replicate_succ,List.set_cons_zero,a0x]
 simp
def shaK:List Wd:=[
  0x428a2f98,0x71374491,0xb5c0fbcf,0xe9b5dba5,0x3956c25b,0x59f111f1,0x923f82a4,0xab1c5ed5,
  0xd807aa98,0x12835b01,0x243185be,0x550c7dc3,0x72be5d74,0x80deb1fe,0x9bdc06a7,0xc19bf174,
  0xe49b69c1,0xefbe4786,0x0fc19dc6,0x240ca1cc,0x2de92c6f,0x4a7484aa,0x5cb0a9dc,0x76f988da,
  0x983e5152,0xa831c66d,0xb00327c8,0xbf597fc7,0xc6e00bf3,0xd5a79147,0x06ca6351,0x14292967,
  0x27b70a85,0x2e1b2138,0x4d2c6dfc,0x53380d13,0x650a7354,0x766a0abb,0x81c2c92e,0x92722c85,
  0xa2bfe8a1,0xa81a664b,0xc24b8b70,0xc76c51a3,0xd192e819,0xd6990624,0xf40e3585,0x106aa070,
  0x19a4c116,0x1e376c08,0x2748774c,0x34b0bcb5,0x391c0cb3,0x4ed8aa4a,0x5b9cca4f,0x682e6ff3,
  0x748f82ee,0x78a5636f,0x84c87814,0x8cc70208,0x90befffa,0xa4506ceb,0xbef9a3f7,0xc67178f2]
def sha0:S8:=⟨0x6a09e667,0xbb67ae85,0x3c6ef372,0xa54ff53a,0x510e527f,0x9b05688c,0x1f83d9ab,0x5be0cd19⟩
def a9g(s:S8)(W:List Wd):Nat→S8
 | 0=>s
 | i+1=>b1X (a9g s W i) (shaK.getD i 0) (W.getD i 0)
def b4e(s t:S8):S8:=⟨s.a+t.a,s.b+t.b,s.c+t.c,s.d+t.d,s.e+t.e,s.f+t.f,s.g+t.g,s.h+t.h⟩
def b4G(s:S8)(b:List UInt8):S8:=b4e s (a9g s (a0x b 64) 64)
def a7w(b:List UInt8):Nat→S8
 | 0=>sha0
 | n+1=>b4G (a7w b n) ((b.drop (64 * n)).take 64)
def len8(n:Nat):List UInt8:=(List.range 8).map fun k=>UInt8.ofNat (n * 8 / 2 ^ (8 * (7 - k)))
def a2u(s:List UInt8):List UInt8:=s++(128::List.replicate ((119 - s.length % 64) % 64) 0++len8 s.length)
def b3L(s:S8)(i:Nat):UInt8:=wB ((s.l.getD (i / 4) 0) >>> (24 - 8 * (i % 4)))
def a4Q(s:S8):List UInt8:=(List.range 32).map (b3L s)
def a7X(s:S8)(i:Nat):List UInt8:=(List.range i).map (b3L s)++List.replicate (32 - i) 0
theorem a5S(s:S8)(i:Nat)(h:i≤32):(a7X s i).length=32:=by simp[a7X];omega
theorem b0g(s:S8)(i:Nat)(h:i<32)(x:UInt8)(hx:x=b3L s i):(a7X s i).set i x=a7X s (i+1):=by
 subst hx
 unfold a7X
 have e:((List.range i).map (b3L s)).length=i:=by simp
 rw[List.set_append_right _ _ (by rw[e];exact Nat.le_refl i),e,Nat.sub_self,show 32 - i=(32 - (i+1))+1 by omega,List.replicate_succ,List.set_cons_zero,List.range_succ]
 simp
theorem b0f(s:S8):a7X s 32=a4Q s:=by simp[a7X,a4Q]
def a4h(s:List UInt8):List UInt8:=a4Q (a7w (a2u s) ((a2u s).length / 64))
theorem a0U(s:List UInt8):(a4h s).length=32:=by simp[a4h,a4Q]
theorem b0k(s:List UInt8):(a2u s).length=64 * ((a2u s).length / 64)∧64≤(a2u s).length:=by
 have h:(a2u s).length=s.length+(1+(119 - s.length % 64) % 64+8):=by simp[a2u,len8];omega
 omega
end
section
open Go.RowKit
set_option maxRecDepth 100000
def eight(n:Nat):List UInt8:=[UInt8.ofNat (n / 72057594037927936),UInt8.ofNat (n / 281474976710656),UInt8.ofNat (n / 1099511627776),UInt8.ofNat (n / 4294967296),UInt8.ofNat (n / 16777216),UInt8.ofNat (n / 65536),UInt8.ofNat (n / 256),UInt8.ofNat n]
theorem a1h(n:Nat):(eight n).length=8:=rfl
def a2e(n:Nat):Nat:=2 ^ Nat.log2 (n - 1)
theorem a9X(n:Nat):0<a2e n:=Nat.two_pow_pos _
theorem half_lt{n:Nat}(h:1<n):a2e n<n:=by
 have:=Nat.log2_self_le (n:=n - 1) (by omega)
 unfold a2e;omega
theorem half_ge{n:Nat}(h:1<n):n≤2 * a2e n:=by
 have:=Nat.lt_log2_self (n:=n - 1)
 rw[Nat.pow_succ]at this
 unfold a2e;omega
theorem half_one{n k:Nat}(h1:2 ^ k<n)(h2:n≤2 * 2 ^ k):2 ^ k=a2e n:=by
 have e:Nat.log2 (n - 1)=k:=by
  rw[Nat.log2_eq_iff (by omega),Nat.pow_succ]
  omega
 unfold a2e;rw[e]
abbrev Hs:=List UInt8
def b2l:Hs:=List.replicate 32 0
def a9r(a b:Hs):Hs:=a4h (1::(a++b))
def a8I(k v:List UInt8):Hs:=a4h (0::(eight k.length++(k++v)))
def a9G(n:Nat)(top:Hs):Hs:=a4h (2::(eight n++top))
theorem b0b(a b:Hs):(a9r a b).length=32:=a0U _
theorem a7L(k v:List UInt8):(a8I k v).length=32:=a0U _
theorem a8l(n:Nat)(t:Hs):(a9G n t).length=32:=a0U _
def b0W(l:List Hs):Hs:=
 if h:1<l.length then a9r (b0W (l.take (a2e l.length))) (b0W (l.drop (a2e l.length))) else l.getD 0 b2l
termination_by l.length
decreasing_by
 ·have:=half_lt h;simp;omega
 ·have:=a9X l.length;simp;omega
theorem top_one{l:List Hs}(h:l.length≤1):b0W l=l.getD 0 b2l:=by unfold b0W;rw[dif_neg (by omega)]
theorem top_more{l:List Hs}(h:1<l.length):b0W l=a9r (b0W (l.take (a2e l.length))) (b0W (l.drop (a2e l.length))):=by rw[b0W,dif_pos h]
theorem top_len{l:List Hs}(h:∀ x∈l,x.length=32):(b0W l).length=32:=by
 by_cases h1:1<l.length
 ·rw[top_more h1];exact b0b _ _
 ·rw[top_one (by omega)]
  cases l with
  | nil=>rfl
  | cons x r=>exact h x (by simp)
structure LfC where
 k:List UInt8
 v:List UInt8
 i:Int
 p:List Hs
 h:∀ x∈p,x.length=32
instance:Inhabited LfC:=⟨⟨[],[],0,[],by simp⟩⟩
def hI(l:Hs):List Int:=l.map fun b=>(b.toNat:Int)
def a7k(l:List (List UInt8 × List UInt8)):List Hs:=l.map fun q=>a8I q.1 q.2
theorem b4J(l:List (List UInt8 × List UInt8)):∀ x∈a7k l,x.length=32:=fun x hx=>by
 obtain ⟨q,_,rfl⟩:=List.mem_map.1 hx;exact a7L _ _
def b2J(l:List (List UInt8 × List UInt8)):Hs:=a9G l.length (b0W (a7k l))
end
end Go.Proofs.YtfgihnhoocnmdaaGreatDoor
namespace Go.Proofs
open Go.Shelf
def Tryz.sort180_ren:Go.Shelf.Ren:=⟨fun|6=>180|15=>217|14=>216|28=>242|29=>243|20=>234|21=>235|22=>236|23=>237|24=>238|25=>239|26=>240|27=>241|46=>256|47=>257|48=>258|49=>259|50=>260|57=>265|n=>n,fun|22=>47|24=>31|25=>195|3=>3|39=>225|0=>0|53=>211|55=>210|4=>4|46=>293|45=>292|50=>113|5=>5|9=>9|66=>305|70=>309|76=>314|77=>230|n=>n,fun|n=>n⟩
theorem Tryz.sort180:Go.Proofs.SlLaysF0.n6 Tryz.prog Tryz.sort180_ren:={
 mixed:=by kernel_rfl
 f6:=⟨Tryz.f180.name,by decide,Tryz.func180.trans (congrArg some (by kernel_rfl))⟩
 f14:=⟨Tryz.f216.name,by decide,Tryz.func216.trans (congrArg some (by kernel_rfl))⟩
 f15:=Tryz.func217.trans (congrArg some (by kernel_rfl))
 f20:=⟨Tryz.f234.name,by decide,Tryz.func234.trans (congrArg some (by kernel_rfl))⟩
 f21:=⟨Tryz.f235.name,by decide,Tryz.func235.trans (congrArg some (by kernel_rfl))⟩
 f22:=⟨Tryz.f236.name,by decide,Tryz.func236.trans (congrArg some (by kernel_rfl))⟩
 f23:=⟨Tryz.f237.name,by decide,Tryz.func237.trans (congrArg some (by kernel_rfl))⟩
 f24:=⟨Tryz.f238.name,by decide,Tryz.func238.trans (congrArg some (by kernel_rfl))⟩
 f25:=⟨Tryz.f239.name,by decide,Tryz.func239.trans (congrArg some (by kernel_rfl))⟩
 f26:=⟨Tryz.f240.name,by decide,Tryz.func240.trans (congrArg some (by kernel_rfl))⟩
 f27:=⟨Tryz.f241.name,by decide,Tryz.func241.trans (congrArg some (by kernel_rfl))⟩
 f28:=Tryz.func242.trans (congrArg some (by kernel_rfl))
 f29:=Tryz.func243.trans (congrArg some (by kernel_rfl))
 f46:=⟨Tryz.f256.name,by decide,Tryz.func256.trans (congrArg some (by kernel_rfl))⟩
 f47:=Tryz.func257.trans (congrArg some (by kernel_rfl))
 f48:=Tryz.func258.trans (congrArg some (by kernel_rfl))
 f49:=⟨Tryz.f259.name,by decide,Tryz.func259.trans (congrArg some (by kernel_rfl))⟩
 f50:=⟨Tryz.f260.name,by decide,Tryz.func260.trans (congrArg some (by kernel_rfl))⟩
 f57:=⟨Tryz.f265.name,by decide,Tryz.func265.trans (congrArg some (by kernel_rfl))⟩
 t0:=Tryz.underlying0
 a0:=Tryz.isAgg0
 z0:=Tryz.sizeOf0
 v0:=Tryz.zeroValue0
 t3:=Tryz.underlying3
 a3:=Tryz.isAgg3
 z3:=Tryz.sizeOf3
 v3:=Tryz.zeroValue3
 t4:=Tryz.underlying4
 a4:=Tryz.isAgg4
 z4:=Tryz.sizeOf4
 v4:=Tryz.zeroValue4
 t5:=Tryz.underlying5
 a5:=Tryz.isAgg5
 z5:=Tryz.sizeOf5
 v5:=Tryz.zeroValue5
 t9:=Tryz.underlying9
 a9:=Tryz.isAgg9
 z9:=Tryz.sizeOf9
 v9:=Tryz.zeroValue9
 t22:=Tryz.underlying47
 a22:=Tryz.isAgg47
 z22:=Tryz.sizeOf47
 v22:=Tryz.zeroValue47
 t25:=Tryz.underlying195
 a25:=Tryz.isAgg195
 z25:=Tryz.sizeOf195
 v25:=Tryz.zeroValue195
 t39:=Tryz.underlying225
 a39:=Tryz.isAgg225
 z39:=Tryz.sizeOf225
 v39:=Tryz.zeroValue225
 t45:=Tryz.underlying292
 a45:=Tryz.isAgg292
 z45:=Tryz.sizeOf292
 v45:=Tryz.zeroValue292
 t46:=Tryz.underlying293
 a46:=Tryz.isAgg293
 z46:=Tryz.sizeOf293
 v46:=Tryz.zeroValue293
 t50:=Tryz.underlying113
 a50:=Tryz.isAgg113
 z50:=Tryz.sizeOf113
 v50:=Tryz.zeroValue113
 t53:=Tryz.underlying211
 a53:=Tryz.isAgg211
 z53:=Tryz.sizeOf211
 v53:=Tryz.zeroValue211
 t55:=Tryz.underlying210
 a55:=Tryz.isAgg210
 z55:=Tryz.sizeOf210
 v55:=Tryz.zeroValue210
 t66:=Tryz.underlying305
 a66:=Tryz.isAgg305
 z66:=Tryz.sizeOf305
 v66:=Tryz.zeroValue305
 t70:=Tryz.underlying309
 a70:=Tryz.isAgg309
 z70:=Tryz.sizeOf309
 v70:=Tryz.zeroValue309
 t76:=Tryz.underlying314
 a76:=Tryz.isAgg314
 z76:=Tryz.sizeOf314
 v76:=Tryz.zeroValue314
 t77:=Tryz.underlying230
 a77:=Tryz.isAgg230
 z77:=Tryz.sizeOf230
 v77:=Tryz.zeroValue230 }
end Go.Proofs
namespace Go.Proofs.YtfgihnhoocnmdaaGreatDoor
set_option linter.all false
set_option maxHeartbeats 9000000
section
open Go.RowKit
set_option maxRecDepth 100000
theorem below_grow{W:World}{n:Nat}{os:Array Obj}:Below W.heap.size W (Sort.grow (W.drewN n) os):=
 ⟨rfl,rfl,rfl,by simp[Sort.grow,World.drewN],fun k hk=>by simp[Sort.grow,World.drewN,Array.getElem?_append,hk]⟩
theorem pow_tab{W:World}{U:Nat→Nat→Prop}(h:Glob W U):Lib.TabIs Tryz.prog W "internal/strconv.uint64pow10" .u64 Lib.pow10Tab:=by
 obtain ⟨⟨cs,ty,fr,e,rfl⟩,_⟩:=h (2,fun cs=>cs=(Lib.pow10Tab.map fun z=>Value.int .u64 z).toArray) (by simp[a3j])
 have hg:Tryz.prog.globalNamed "internal/strconv.uint64pow10" = some 2:=by kernel_rfl
 simp only[Lib.TabIs,World.var?,hg,Option.bind_some,e]
theorem b9q(n:Int)(h : -9223372036854775808≤n∧n≤9223372036854775807):CP Tryz.prog 112 [.int .i64 n] (.str (Lib.itoa n)):=
 CP_libG (vs:=[.int .i64 n]) (v:=.string ⟨(Lib.itoa n).toArray⟩) rfl (by simp) rfl fun W U hG=>
  (Tryz.strconv_Itoa n h.1 h.2 W (pow_tab hG)).mono fun e w' ⟨h1,k,os,h2⟩=>⟨h1,h2▸below_grow⟩
end
section
open Go
def a9o(c:UInt8):Prop:=48≤c.toNat∧c.toNat≤57
instance (c:UInt8):Decidable (a9o c):=by unfold a9o;exact inferInstance
def b7d(s:List UInt8):Nat:=s.foldl (fun v c=>10 * v+(c.toNat - 48)) 0
def b9w(s:List UInt8):Prop:=(∀ c∈s,a9o c)∧¬ (1<s.length∧s.getD 0 0=48)
instance (s:List UInt8):Decidable (b9w s):=by unfold b9w;exact inferInstance
abbrev dig(n:Nat):List UInt8:=Lib.decDigits n
theorem dig_lo{n:Nat}(h:n<10):dig n=[UInt8.ofNat (48+n)]:=by rw[dig,Lib.decDigits,dif_pos h]
theorem dig_hi{n:Nat}(h:¬ n<10):dig n=dig (n / 10)++[UInt8.ofNat (48+n % 10)]:=by rw[dig,Lib.decDigits,dif_neg h]
theorem u8n{n:Nat}(h:n<256):(UInt8.ofNat n).toNat=n:=by rw[UInt8.toNat_ofNat'];omega
theorem b4n:∀ (n:Nat), ∀ c∈dig n,a9o c:=by
 intro n
 induction n using Nat.strongRecOn with
 | _ n ih=>
  intro c hc
  by_cases h:n<10
  ·rw[dig_lo h]at hc
   simp only[List.mem_singleton]at hc
   subst hc
   unfold a9o
   rw[u8n (by omega)];omega
  ·rw[dig_hi h]at hc
   rcases List.mem_append.1 hc with hc|hc
   ·exact ih (n / 10) (by omega) c hc
   ·simp only[List.mem_singleton]at hc
    subst hc
    unfold a9o
    rw[u8n (by omega)];omega
theorem b5T(s:List UInt8)(c:UInt8):b7d (s++[c])=10 * b7d s+(c.toNat - 48):=by simp[b7d,List.foldl_append]
theorem b1i(n:Nat):b7d (dig n)=n:=by
 induction n using Nat.strongRecOn with
 | _ n ih=>
  by_cases h:n<10
  ·rw[dig_lo h]
   simp only[b7d,List.foldl_cons,List.foldl_nil]
   rw[u8n (by omega)];omega
  ·rw[dig_hi h,b5T,ih (n / 10) (by omega),u8n (by omega)];omega
theorem c1y(n:Nat):dig n≠[]:=by
 by_cases h:n<10
 ·rw[dig_lo h];simp
 ·rw[dig_hi h];simp
theorem a7F:∀ (k n:Nat),n<10 ^ (k+1)→(dig n).length≤k+1
 | 0,n,h=>by rw[dig_lo (by omega)];simp
 | k+1,n,h=>by
  by_cases hn:n<10
  ·rw[dig_lo hn];simp
  ·rw[dig_hi hn]
   have:=a7F k (n / 10) (by rw[Nat.pow_succ]at h;omega)
   simp only[List.length_append,List.length_cons,List.length_nil];omega
theorem dig_inj{a b:Nat}(h:dig a=dig b):a=b:=by rw[← b1i a, ← b1i b,h]
end
section
open Go.RowKit
set_option maxRecDepth 100000
theorem a9Z:1000000≤maxLen:=by unfold maxLen;decide
abbrev bts(l:List UInt8):List (List AV):=l.map a0h
theorem sxPaa{A B:Prop}(h:B)(e:A=B:=by (simp (disch:=omega) only[*, ↓Ed,Eu, ↓reduceIte,reduceCtorEq,Nat.reduceAdd,Nat.reduceEqDiff,Nat.reduceLT,Nat.reduceLeDiff,Int.reduceToNat,Int.reduceEq,Int.reduceLT,Int.reduceLE,w64,a6Q,List.length_append,Nat.reduceMul];first|done|rfl)):A:=e▸h
theorem b7g(n:Int):CP Tryz.prog 113 [.int .i64 n] (.bool (decide (1≤n)&&decide (n≤3))):=by
 refine a9d _ _ (by simp) ?_
 simp only[a5g];refine sxPaa ?_
 repeat' ((first|exact tt|refine na fun b=>?_|refine nb fun b hb=>?_|refine iq ?_|(refine jq ?_ ?_<;>intro h h')|refine Two_intro ?_ ?_|exact wZ|fail)<;>try refine sxPaa ?_)
 all_goals (try simp only[a0d,Hn]at *)
 all_goals simp_all
 all_goals omega
end
section
open Go
abbrev chn:List UInt8:=[99,104,97,110,110,101,108,45]
abbrev b3c:List UInt8:=[112,111,114,116,115]
abbrev b2w:List UInt8:=[99,104,97,110,110,101,108,115]
abbrev b6Q:List UInt8:=[115,101,113,117,101,110,99,101,115]
def a1I(k:Int):List UInt8:=
 if k=1 then [99,111,109,109,105,116,109,101,110,116,115] else if k=2 then [114,101,99,101,105,112,116,115] else if k=3 then [97,99,107,115] else if k=4 then [110,101,120,116,83,101,113,117,101,110,99,101,83,101,110,100] else if k=5 then [110,101,120,116,83,101,113,117,101,110,99,101,82,101,99,118] else if k=6 then [110,101,120,116,83,101,113,117,101,110,99,101,65,99,107] else if k=7 then [99,104,97,110,110,101,108,69,110,100,115] else []
theorem wordP_out{k:Int}(h:k<1∨7<k):a1I k=[]:=by
 unfold a1I
 repeat rw[if_neg (by omega)]
theorem wordP_in{k:Int}(h:1≤k∧k≤7):a1I k≠[]:=by
 obtain rfl|rfl|rfl|rfl|rfl|rfl|rfl:k=1∨k=2∨k=3∨k=4∨k=5∨k=6∨k=7:=by omega
 all_goals simp[a1I]
theorem wordP_inj{k j:Int}(h:1≤k∧k≤7)(g:1≤j∧j≤7)(e:a1I k=a1I j):k=j:=by
 obtain rfl|rfl|rfl|rfl|rfl|rfl|rfl:k=1∨k=2∨k=3∨k=4∨k=5∨k=6∨k=7:=by omega
 all_goals
  obtain rfl|rfl|rfl|rfl|rfl|rfl|rfl:j=1∨j=2∨j=3∨j=4∨j=5∨j=6∨j=7:=by omega
  all_goals first|rfl|(simp[a1I]at e)
theorem a6O(k:Int):(a1I k).length≤16:=by
 unfold a1I
 repeat' split
 all_goals decide
theorem b0y(k:Int):47 ∉ a1I k:=by
 unfold a1I
 repeat' split
 all_goals decide
theorem itoa_dig{n:Int}(h:0≤n):Lib.itoa n=dig n.toNat:=by unfold Lib.itoa;rw[if_neg (by omega)]
def a7C(k:Int)(p:List UInt8)(c:Int):List UInt8:=a1I k++[47]++b3c++[47]++p++[47]++b2w++[47]++chn++Lib.itoa c
noncomputable def ofP (k:Int) (p:List UInt8) (c q:Int):List UInt8:=
 if a1I k=[]∨¬ a1S p c=true then [] else if 1≤k∧k≤3 then if 1≤q∧q≤1099511627776 then a7C k p c++[47]++b6Q++[47]++Lib.itoa q else [] else if q=0 then a7C k p c else []
theorem mayP_t{p:List UInt8}{c:Int}(h:a1S p c=true):p.length≤12∧0≤c∧c≤999∧a6U p:=by
 simp only[a1S,Bool.and_eq_true,decide_eq_true_eq,nameP_iff]at h
 exact ⟨h.1.1.2.1,h.1.2,h.2,h.1.1⟩
theorem dig_len3{c:Int}(h:0≤c∧c≤999):(Lib.itoa c).length≤3:=by rw[itoa_dig h.1];exact a7F 2 _ (by omega)
theorem dig_len13{c:Int}(h:0≤c∧c≤1099511627776):(Lib.itoa c).length≤13:=by rw[itoa_dig h.1];exact a7F 12 _ (by omega)
end
section
open Go.RowKit
set_option maxRecDepth 100000
theorem sxPab{A B:Prop}(h:B)(e:A=B:=by (simp (disch:=omega) only[*, ↓Ed,Eu, ↓reduceIte,reduceCtorEq,Nat.reduceAdd,Nat.reduceEqDiff,Nat.reduceLT,Nat.reduceLeDiff,Int.reduceToNat,Int.reduceEq,Int.reduceLT,Int.reduceLE,w64,a6Q,List.length_append,Nat.reduceMul];first|done|rfl)):A:=e▸h
theorem b3o(k:Int):CP Tryz.prog 110 [.int .i64 k] (.str (a1I k)):=by
 by_cases h:0≤k∧k≤7
 ·obtain rfl|rfl|rfl|rfl|rfl|rfl|rfl|rfl:k=0∨k=1∨k=2∨k=3∨k=4∨k=5∨k=6∨k=7:=by omega
  all_goals
   refine a6L _ _ (by simp) ?_
   simp only[a4G];refine sxPab ?_
   repeat' ((first|exact tt|refine na fun b=>?_|refine nb fun b hb=>?_|refine iq ?_|(refine jq ?_ ?_<;>intro h h')|refine Two_intro ?_ ?_|exact wZ|fail)<;>try refine sxPab ?_)
  all_goals first|rfl|(simp[a1I];done)|skip
 ·refine a6L _ _ (by simp) ?_
  simp only[a4G];refine sxPab ?_
  repeat' ((first|exact tt|refine na fun b=>?_|refine nb fun b hb=>?_|refine iq ?_|(refine jq ?_ ?_<;>intro h h')|refine Two_intro ?_ ?_|exact wZ|fail)<;>try refine sxPab ?_)
  all_goals first|(simp[wordP_out (show k<1∨7<k by omega)];done)|(exfalso;simp only[a0d,Hn]at *;omega)
theorem b0R(k:Int):CP Tryz.prog 49 [.int .i64 k] (.str (a1I k)):=by
 refine a8p _ _ (by simp) ?_
 simp only[a4D];refine sxPab ?_
 repeat' ((first|exact tt|refine na fun b=>?_|refine nb fun b hb=>?_|refine iq ?_|(refine jq ?_ ?_<;>intro h h')|refine Two_intro ?_ ?_|exact wZ|fail)<;>try refine sxPab ?_)
 all_goals (try simp only[a0d,Hn]at *)
 all_goals (try subst_vars)
 all_goals first|rfl|(simp[a1I, *];done)|skip
theorem b5k(k:Int)(p:List UInt8)(c q:Int)(hp:p.length≤1000000):CP Tryz.prog 52 [.int .i64 k,.agg [.str p,.int .i64 c],.int .i64 q] (.str (ofP k p c q)):=by
 have hm:=a9Z
 have hw:=a6O k
 have ht13:_→(Lib.itoa q).length≤13:=dig_len13
 cases hM:a1S p c with
 | false=>
  refine a9B _ _ (by simp) ?_
  simp only[a7G];refine sxPab ?_
  repeat' ((first|exact tt|refine CallO_pure (b3o k) ?_|refine CallW_intro (b3o k) ?_|refine CallO_pure (a8z p c (by omega)) ?_|refine na fun b=>?_|refine nb fun b hb=>?_|refine iq ?_|(refine jq ?_ ?_<;>intro h h')|refine Two_intro ?_ ?_|exact wZ|fail)<;>try refine sxPab ?_)
  all_goals simp[ofP,hM]
 | true=>
  obtain ⟨hp2,hc1,hc2,_⟩:=mayP_t hM
  have h3:=dig_len3 ⟨hc1,hc2⟩
  refine a9B _ _ (by simp) ?_
  simp only[a7G];refine sxPab ?_
  repeat' ((first|exact tt|refine CallO_pure (b3o k) ?_|refine CallW_intro (b3o k) ?_|refine CallO_pure (a8z p c (by omega)) ?_|refine CallO_pure (b7g k) ?_|refine CallW_intro (b9q c (by omega)) ?_|refine CallO_pure (b9q q (by simp only[a0d,Hn]at *;omega)) ?_|refine na fun b=>?_|refine nb fun b hb=>?_|refine iq ?_|(refine jq ?_ ?_<;>intro h h')|refine Two_intro ?_ ?_|exact wZ|fail)<;>try refine sxPab ?_)
  all_goals (try simp only[a0d,Hn]at *)
  all_goals simp_all [ofP,a7C,b3c,b2w,chn,b6Q]
  all_goals omega
end
section
open Go.RowKit
set_option maxRecDepth 100000
theorem c2K(u:Nat):(u:Int).tmod 10=((u % 10:Nat):Int):=rfl
theorem c2J(u:Nat):(u:Int).tdiv 10=((u / 10:Nat):Int):=rfl
theorem c2B(c:UInt8):IntKind.i64.wrap (c.toNat:Int)=c.toNat:=w64 (by have:=c.toNat_lt;omega)
theorem c2H(n:Nat):[[AV.int .u8 (IntKind.u8.wrap (48+((n % 10:Nat):Int)))]]=bts [UInt8.ofNat (48+n % 10)]:=by
 simp only[bts,List.map_cons,List.map_nil,a0h,List.cons.injEq,AV.int.injEq,and_true,true_and]
 rw[u8n (by omega),IntKind.wrap_u8];omega
def c0r(u:Nat)(out:List UInt8):List UInt8:=if u=0 then out else dig u++out
theorem digR_step{u:Nat}(out:List UInt8)(h:0<u):c0r (u / 10) (UInt8.ofNat (48+u % 10)::out)=c0r u out:=by
 unfold c0r
 rw[if_neg (show ¬ u=0 by omega)]
 by_cases hu:u<10
 ·rw[if_pos (by omega),dig_lo hu,show u % 10=u by omega];rfl
 ·rw[if_neg (by omega),dig_hi hu];simp
theorem b3N(n:Nat):c0r (n / 10) [UInt8.ofNat (48+n % 10)]=dig n:=by
 by_cases h:n=0
 ·subst h;rw[dig_lo (by omega)];rfl
 ·rw[digR_step [] (by omega)];unfold c0r;rw[if_neg h,List.append_nil]
theorem sxPac{A B:Prop}(h:B)(e:A=B:=by (simp (disch:=omega) only[*, ↓Ed,Eu, ↓reduceIte,reduceCtorEq,Nat.reduceAdd,Nat.reduceEqDiff,Nat.reduceLT,Nat.reduceLeDiff,Int.reduceToNat,Int.reduceEq,Int.reduceLT,Int.reduceLE,w64,a6Q,List.length_append,Nat.reduceMul,c2K,c2J,List.length_map,c2B];first|done|rfl)):A:=e▸h
theorem b6V(n:Nat)(hn:n≤72057594037927935):CP Tryz.prog 51 [.int .i64 n] (.str (dig n)):=by
 have hm:=a9Z
 have hl:=a7F 16 n (by omega)
 refine a6u _ _ (by simp) ?_
 simp only[a3c];refine sxPac ?_
 repeat' ((first|exact tt|refine na fun b=>?_|refine nb fun b hb=>?_|refine iq ?_|(refine jq ?_ ?_<;>intro h h')|refine Two_intro ?_ ?_|exact wZ|fail)<;>try refine sxPac ?_)
 simp (disch:=omega) only[c2H, ↓Ed,Eu, ↓reduceIte,reduceCtorEq,Nat.reduceAdd,Nat.reduceEqDiff,Nat.reduceLT,Nat.reduceLeDiff,Int.reduceToNat,Int.reduceEq,Int.reduceLT,Int.reduceLE,w64,a6Q,List.length_append,Nat.reduceMul,c2K,c2J,List.length_map,c2B]
 refine wpx_loop (fun x:List UInt8 × Nat=>⟨lk [(0,.int .i64 (x.2:Int)),(3,.sl (some 5) 1 (bts x.1))],lk []⟩) (fun x=>a0d (c0r x.2 x.1=dig n)∧x.1.length≤17∧x.2≤72057594037927935) (fun x=>x.2) ([UInt8.ofNat (48+n % 10)],n / 10) ⟨b3N n,by simp,by simp only;omega⟩ (Le_lit (by simp[LeL,lk])) ?_
 rintro ⟨out,u⟩ ⟨h1,h2,h3⟩
 simp only at h1 h2 h3
 refine sxPac ?_
 repeat' ((first|exact tt|refine na fun b=>?_|refine nb fun b hb=>?_|refine iq ?_|(refine jq ?_ ?_<;>intro h h')|refine Two_intro ?_ ?_|exact wZ|fail)<;>try refine sxPac ?_)
 all_goals (try simp only[a0d,Hn]at *)
 ·have hl2:out.length+1≤17:=by
   rw[← h1]at hl
   unfold c0r at hl
   rw[if_neg (by omega)]at hl
   have:=List.length_pos_iff.2 (c1y u)
   simp only[List.length_append]at hl;omega
  rw[c2H, ← List.map_append]
  refine Round_lit (UInt8.ofNat (48+u % 10)::out,u / 10) ⟨Le_lit (by simp[LeL,lk]),⟨(digR_step out (by omega)).trans h1,by simp only[List.length_cons];omega,by simp only;omega⟩,by simp only;omega⟩
 ·obtain rfl:u=0:=by omega
  exact h1
end
section
open Go.RowKit
set_option maxRecDepth 100000
theorem byn(c:UInt8):((c.toNat:Int)=47)=(c=47):=propext ⟨fun h=>UInt8.toNat_inj.1 (by have:(47:UInt8).toNat=47:=rfl;omega),fun h=>by rw[h];rfl⟩
theorem b9p(c:Int)(h:0≤c∧c≤72057594037927935):CP Tryz.prog 51 [.int .i64 c] (.str (Lib.itoa c)):=by
 rw[itoa_dig h.1]
 have e:c=(c.toNat:Int):=by omega
 have:=b6V c.toNat (by omega)
 rwa [← e]at this
theorem sxPad{A B:Prop}(h:B)(e:A=B:=by (simp (disch:=omega) only[*, ↓Ed,Eu, ↓reduceIte,reduceCtorEq,Nat.reduceAdd,Nat.reduceEqDiff,Nat.reduceLT,Nat.reduceLeDiff,Int.reduceToNat,Int.reduceEq,Int.reduceLT,Int.reduceLE,w64,a6Q,List.length_append,Nat.reduceMul,List.length_map,c2B,byn];first|done|rfl)):A:=e▸h
theorem b3T(k:Int)(p:List UInt8)(c q:Int)(hp:p.length≤1000000):CP Tryz.prog 16 [.int .i64 k,.agg [.str p,.int .i64 c],.int .i64 q] (.str (ofP k p c q)):=by
 have hm:=a9Z
 have hw:=a6O k
 have ht13:_→(Lib.itoa q).length≤13:=dig_len13
 cases hM:a1S p c with
 | false=>
  refine a5G _ _ (by simp) ?_
  simp only[a3C];refine sxPad ?_
  repeat' ((first|exact tt|refine CallO_pure (b0R k) ?_|refine CallW_intro (b0R k) ?_|refine CallO_pure (a2U p c (by omega)) ?_|refine na fun b=>?_|refine nb fun b hb=>?_|refine iq ?_|(refine jq ?_ ?_<;>intro h h')|refine Two_intro ?_ ?_|exact wZ|fail)<;>try refine sxPad ?_)
  all_goals simp[ofP,hM]
 | true=>
  obtain ⟨hp2,hc1,hc2,_⟩:=mayP_t hM
  have h3:=dig_len3 ⟨hc1,hc2⟩
  have hk:a1I k≠[]→1≤k:=fun h=>by by_cases g:1≤k;exact g;exact absurd (wordP_out (by omega)) h
  refine a5G _ _ (by simp) ?_
  simp only[a3C];refine sxPad ?_
  repeat' ((first|exact tt|refine CallO_pure (b0R k) ?_|refine CallW_intro (b0R k) ?_|refine CallO_pure (a2U p c (by omega)) ?_|refine CallW_intro (b9p c (by omega)) ?_|refine CallO_pure (b9p q (by simp only[a0d,Hn]at *;omega)) ?_|refine na fun b=>?_|refine nb fun b hb=>?_|refine iq ?_|(refine jq ?_ ?_<;>intro h h')|refine Two_intro ?_ ?_|exact wZ|fail)<;>try refine sxPad ?_)
  all_goals (try simp only[a0d,Hn]at *)
  all_goals simp_all [ofP,a7C,b3c,b2w,chn,b6Q]
  all_goals omega
end
section
open Go.RowKit
set_option maxRecDepth 100000
end
section
open Go
set_option maxRecDepth 100000
theorem a3W:∀ {a b x y:List UInt8},47 ∉ a→47 ∉ b→a++47::x=b++47::y→a=b∧x=y
 | [],[],_,_,_,_,h=>⟨rfl,by simpa using h⟩
 | [],d::b,_,_,_,hb,h=>by simp at h;exact absurd h.1 (fun e=>hb (by simp[e]))
 | c::a,[],_,_,ha,_,h=>by simp at h;exact absurd h.1 (fun e=>ha (by simp[e]))
 | c::a,d::b,x,y,ha,hb,h=>by
  simp only[List.cons_append,List.cons.injEq]at h
  obtain ⟨rfl,h⟩:=h
  obtain ⟨e1,e2⟩:=a3W (fun g=>ha (by simp[g])) (fun g=>hb (by simp[g])) h
  exact ⟨by rw[e1],e2⟩
theorem name_no{p:List UInt8}(h:a6U p):47 ∉ p:=by
 intro hm
 obtain ⟨i,hi,e⟩:=List.getElem_of_mem hm
 have:=h.2.2 i hi
 unfold a9s at this
 have e2:p.getD i 0=47:=by rw[List.getD,List.getElem?_eq_getElem hi];exact e
 rw[e2]at this
 have h47:(47:UInt8).toNat=47:=rfl
 omega
theorem b5S(n:Nat):47 ∉ dig n:=fun h=>by
 have:=b4n n 47 h
 unfold a9o at this
 have h47:(47:UInt8).toNat=47:=rfl
 omega
theorem itoa_no{n:Int}(h:0≤n):47 ∉ Lib.itoa n:=by rw[itoa_dig h];exact b5S _
theorem itoa_inj{n m:Int}(h:0≤n)(g:0≤m)(e:Lib.itoa n=Lib.itoa m):n=m:=by
 rw[itoa_dig h,itoa_dig g]at e
 have:=dig_inj e
 omega
theorem chan_no{n:Int}(h:0≤n):47 ∉ chn++Lib.itoa n:=by
 intro hm
 rcases List.mem_append.1 hm with hm|hm
 ·revert hm;decide
 ·exact itoa_no h hm
inductive OfQ:List UInt8→Int→List UInt8→Int→Int→Prop
 | num {k p c q} (hk:1≤k∧k≤3) (hp:a6U p) (hc:0≤c∧c≤999) (hq:1≤q∧q≤1099511627776):
   OfQ (a1I k++47::(b3c++47::(p++47::(b2w++47::((chn++Lib.itoa c)++47::(b6Q++47::Lib.itoa q)))))) k p c q
 | base {k p c} (hk:4≤k∧k≤7) (hp:a6U p) (hc:0≤c∧c≤999):OfQ (a1I k++47::(b3c++47::(p++47::(b2w++47::(chn++Lib.itoa c))))) k p c 0
theorem ofP_q{k:Int}{p:List UInt8}{c q:Int}:ofP k p c q=[]∨OfQ (ofP k p c q) k p c q:=by
 unfold ofP
 split
 ·exact .inl rfl
 rename_i h
 simp only[not_or,Decidable.not_not]at h
 obtain ⟨hw,hm⟩:=h
 have hm:=mayP_t hm
 have hk:1≤k∧k≤7:=by
  by_cases g:1≤k∧k≤7
  ·exact g
  ·exact absurd (wordP_out (by omega)) hw
 split
 ·split
  ·right
   have:=OfQ.num (k:=k) (p:=p) (c:=c) (q:=q) (by omega) hm.2.2.2 ⟨hm.2.1,hm.2.2.1⟩ (by assumption)
   simpa[a7C]using this
  ·exact .inl rfl
 ·split
  ·subst_vars
   right
   have:=OfQ.base (k:=k) (p:=p) (c:=c) (by omega) hm.2.2.2 ⟨hm.2.1,hm.2.2.1⟩
   simpa[a7C]using this
  ·exact .inl rfl
theorem OfQ.ne{s k p c q}(h:OfQ s k p c q):s≠[]:=by cases h<;>simp
theorem OfQ.inj{s k p c q k' p' c' q'}(h:OfQ s k p c q)(g:OfQ s k' p' c' q'):k=k'∧p=p'∧c=c'∧q=q':=by
 have main:∀ {x y:List UInt8} {k k':Int} {p p':List UInt8},(1≤k∧k≤7)→(1≤k'∧k'≤7)→a6U p→a6U p'→
   a1I k++47::(b3c++47::(p++47::(b2w++47::x)))=a1I k'++47::(b3c++47::(p'++47::(b2w++47::y)))→k=k'∧p=p'∧x=y:=by
  intro x y k k' p p' h1 h2 h3 h4 e
  obtain ⟨e1,e⟩:=a3W (b0y k) (b0y k') e
  obtain ⟨_,e⟩:=a3W (by decide) (by decide) e
  obtain ⟨e2,e⟩:=a3W (name_no h3) (name_no h4) e
  obtain ⟨_,e⟩:=a3W (by decide) (by decide) e
  exact ⟨wordP_inj h1 h2 e1,e2,e⟩
 generalize hs:s=t at h g
 cases h with
 | num hk hp hc hq=>
  generalize hs:a1I k++47::(b3c++47::(p++47::(b2w++47::((chn++Lib.itoa c)++47::(b6Q++47::Lib.itoa q)))))=t at g
  cases g with
  | num hk' hp' hc' hq'=>
   obtain ⟨e1,e2,e⟩:=main (by omega) (by omega) hp hp' hs
   obtain ⟨e3,e⟩:=a3W (chan_no hc.1) (chan_no hc'.1) e
   obtain ⟨_,e⟩:=a3W (by decide) (by decide) e
   exact ⟨e1,e2,itoa_inj hc.1 hc'.1 (List.append_cancel_left e3),itoa_inj (by omega) (by omega) e⟩
  | base hk' hp' hc'=>
   obtain ⟨e1,e2,e⟩:=main (by omega) (by omega) hp hp' hs
   omega
 | base hk hp hc=>
  generalize hs:a1I k++47::(b3c++47::(p++47::(b2w++47::(chn++Lib.itoa c))))=t at g
  cases g with
  | num hk' hp' hc' hq'=>
   obtain ⟨e1,e2,e⟩:=main (by omega) (by omega) hp hp' hs
   omega
  | base hk' hp' hc'=>
   obtain ⟨e1,e2,e⟩:=main (by omega) (by omega) hp hp' hs
   exact ⟨e1,e2,itoa_inj hc.1 hc'.1 (List.append_cancel_left e),rfl⟩
def sp:List UInt8→List (List UInt8)
 | []=>[[]]
 | c::t=>if c=47 then []::sp t else match sp t with | []=>[[c]]|x::xs=>(c::x)::xs
theorem b2M:∀ {a:List UInt8},47 ∉ a→sp a=[a]
 | [],_=>rfl
 | c::t,h=>by
  simp only[List.mem_cons,not_or]at h
  rw[sp,if_neg (fun e=>h.1 e.symm),b2M h.2]
theorem a3P:∀ {a x:List UInt8},47 ∉ a→sp (a++47::x)=a::sp x
 | [],x,_=>by simp[sp]
 | c::t,x,h=>by
  simp only[List.mem_cons,not_or]at h
  rw[List.cons_append,sp,if_neg (fun e=>h.1 e.symm),a3P h.2]
theorem OfQ.sp{s k p c q}(h:OfQ s k p c q):sp s=if k≤3 then [a1I k,b3c,p,b2w,chn++Lib.itoa c,b6Q,Lib.itoa q] else [a1I k,b3c,p,b2w,chn++Lib.itoa c]:=by
 cases h with
 | num hk hp hc hq=>
  rw[if_pos hk.2,a3P (b0y k),a3P (by decide),a3P (name_no hp),a3P (by decide),a3P (chan_no hc.1),a3P (by decide),b2M (itoa_no (by omega))]
 | base hk hp hc=>
  rw[if_neg (by omega),a3P (b0y k),a3P (by decide),a3P (name_no hp),a3P (by decide),b2M (chan_no hc.1)]
end
section
open Go.RowKit
set_option maxRecDepth 100000
end
section
open Go
set_option maxRecDepth 100000
end
section
open Go.RowKit
set_option maxRecDepth 100000
theorem gd{l:List (List UInt8)}{i:Nat}(h:(i:Int)<l.length):(l.map fun p=>[AV.str p]).getD i []=[AV.str (l.getD i [])]:=by
 have h':i<l.length:=by omega
 simp[List.getD,List.getElem?_eq_getElem h']
end
section
open Go.RowKit
set_option maxRecDepth 100000
end
section
open Go.RowKit
set_option maxRecDepth 100000
theorem q_len{s k p c q}(h:OfQ s k p c q):s.length≤160:=by
 have hw:=a6O k
 cases h with
 | num hk hp hc hq=>
  have h3:=dig_len3 hc
  have h13:=dig_len13 (c:=q) (by omega)
  have:=hp.2.1
  simp only[List.length_append,List.length_cons,List.length_nil];omega
 | base hk hp hc=>
  have h3:=dig_len3 hc
  have:=hp.2.1
  simp only[List.length_append,List.length_cons,List.length_nil];omega
end
section
def a9F(n:Nat):List UInt8:=if n<128 then [UInt8.ofNat n] else UInt8.ofNat (n % 128+128)::a9F (n / 128)
termination_by n
decreasing_by omega
def pn(v:Int):List UInt8:=if 0≤v∧v≤72057594037927935 then a9F v.toNat else []
theorem put7_lo{n:Nat}(h:n<128):a9F n=[UInt8.ofNat n]:=by rw[a9F,if_pos h]
theorem put7_hi{n:Nat}(h:128≤n):a9F n=UInt8.ofNat (n % 128+128)::a9F (n / 128):=by rw[a9F,if_neg (by omega)]
theorem b3u:∀ (k n:Nat),n<128 ^ (k+1)→(a9F n).length≤k+1
 | 0,n,h=>by rw[put7_lo (by omega)];simp
 | k+1,n,h=>by
  by_cases hn:n<128
  ·rw[put7_lo hn];simp
  ·rw[put7_hi (by omega)]
   have:=b3u k (n / 128) (by rw[Nat.pow_succ]at h;omega)
   simp only[List.length_cons];omega
theorem a0I(v:Int):(pn v).length≤8:=by
 unfold pn
 split
 ·exact b3u 7 _ (by simp;omega)
 ·simp
theorem c1e(n:Nat):a9F n≠[]:=by
 by_cases hn:n<128
 ·rw[put7_lo hn];simp
 ·rw[put7_hi (by omega)];simp
theorem b5p(v:Int):pn v=[]↔¬ (0≤v∧v≤72057594037927935):=by
 unfold pn
 split
 ·simp[c1e, *]
 ·simp[*]
def a2h:Nat→List UInt8→Bool→Int × Nat × Int
 | 0,_,_=>(0,0,4)
 | _+1,[],_=>(0,0,2)
 | f+1,c::r,fst=>
  if c.toNat<128 then (if c.toNat=0∧fst=false then (0,0,3) else ((c.toNat:Int),1,0))
  else match a2h f r false with
   | (v,n,e)=>if e=0 then (((c.toNat % 128:Nat):Int)+128 * v,n+1,0) else (0,0,e)
def nx(s:List UInt8)(at':Int):Int × Int × Int:=
 if 0≤at'∧at'≤s.length then
  match a2h 8 (s.drop at'.toNat) true with
  | (v,n,e)=>if e=0 then (v,at'+n,0) else (0,0,e)
 else (0,0,1)
def b2P(u k:Nat):Int × Nat × Int→Int × Nat × Int
 | (v,n,e)=>if e=0 then ((u:Int)+128 ^ k * v,n+k,0) else (0,0,e)
theorem b4x(u k f:Nat)(c:UInt8)(r:List UInt8)(b:Bool)(h:128≤c.toNat):
  b2P u k (a2h (f+1) (c::r) b)=b2P (u+c.toNat % 128 * 128 ^ k) (k+1) (a2h f r false):=by
 rw[a2h,if_neg (by omega)]
 obtain ⟨v,n,e⟩:=a2h f r false
 by_cases he:e=0
 ·simp only[b2P,he,if_true,Prod.mk.injEq,and_true]
  refine ⟨?_,by omega⟩
  rw[Int.mul_add,Int.pow_succ,Int.mul_assoc, ← Int.add_assoc,Int.natCast_add,Int.natCast_mul,Int.natCast_pow,Int.mul_comm (128 ^ k:Int)]
  rfl
 ·simp[b2P,he]
theorem b2U:∀ (f:Nat) (r:List UInt8) (b:Bool),0≤(a2h f r b).1∧(a2h f r b).1<128 ^ f∧(a2h f r b).2.1≤r.length
 | 0,_,_=>by simp[a2h]
 | f+1,[],_=>by simp[a2h];exact Int.pow_pos (by omega)
 | f+1,c::r,b=>by
  have hp:(0:Int)<128 ^ f:=Int.pow_pos (by omega)
  have hp':(128:Int) ^ (f+1)=128 ^ f * 128:=Int.pow_succ _ _
  rw[a2h]
  split
  ·split
   ·refine ⟨by simp,by simp;omega,by simp⟩
   ·refine ⟨by simp, ?_,by simp⟩
    simp only
    omega
  ·have ih:=b2U f r false
   generalize a2h f r false=g at ih ⊢
   obtain ⟨v,n,e⟩:=g
   simp only at ih ⊢
   split
   ·refine ⟨by omega,by omega,by simp;omega⟩
   ·refine ⟨by simp,by simp;omega,by simp⟩
theorem b2V:∀ (f:Nat) (r:List UInt8) (b:Bool),(a2h f r b).2.2≠0→(a2h f r b).1=0∧(a2h f r b).2.1=0
 | 0,_,_,_=>by simp[a2h]
 | f+1,[],_,_=>by simp[a2h]
 | f+1,c::r,b,h=>by
  rw[a2h]at h ⊢
  split at h
  ·rename_i hc
   rw[if_pos hc]
   split at h
   ·rename_i hd;rw[if_pos hd];simp
   ·simp at h
  ·rename_i hc
   rw[if_neg hc]
   generalize a2h f r false=g at h ⊢
   obtain ⟨v,n,e⟩:=g
   simp only at h ⊢
   split at h
   ·simp at h
   ·rename_i he;rw[if_neg he];simp
theorem b1n(g:Int × Nat × Int)(h:g.2.2≠0→g.1=0∧g.2.1=0):b2P 0 0 g=g:=by
 obtain ⟨v,n,e⟩:=g
 by_cases he:e=0
 ·simp[b2P,he]
 ·have:=h he
  simp only at this
  simp[b2P,he,this]
def b4y(i:Nat):Int × Nat × Int→Int × Int × Int
 | (v,n,e)=>if e=0 then (v,(i:Int)+n,0) else (0,0,e)
theorem nx_in{s:List UInt8}{i:Nat}(h:i≤s.length):nx s i=b4y i (a2h 8 (s.drop i) true):=by
 simp only[nx,if_pos (show (0≤(i:Int)∧(i:Int)≤s.length) by omega),Int.toNat_natCast]
 rfl
theorem nx_out{s:List UInt8}{i:Int}(h:¬ (0≤i∧i≤s.length)):nx s i=(0,0,1):=by simp only[nx,if_neg h]
theorem tn2(i k:Nat):((i:Int)+(k:Int)).toNat=i+k:=by omega
theorem drop_get{s:List UInt8}{i:Nat}(h:i<s.length):s.drop i=s.getD i 0::s.drop (i+1):=by
 rw[List.drop_eq_getElem_cons h];simp[h]
theorem inv7{s:List UInt8}{i k u:Nat}(h1:k<8)(h2:a2h 8 (s.drop i) true=b2P u k (a2h (8 - k) (s.drop (i+k)) (decide (k=0)))):
  (s.length≤i+k→a2h 8 (s.drop i) true=(0,0,2))∧
  (i+k<s.length→128≤(s.getD (i+k) 0).toNat→a2h 8 (s.drop i) true=b2P (u+(s.getD (i+k) 0).toNat % 128 * 128 ^ k) (k+1) (a2h (8 - (k+1)) (s.drop (i+(k+1))) (decide (k+1=0))))∧
  (i+k<s.length→(s.getD (i+k) 0).toNat=0→0<k→a2h 8 (s.drop i) true=(0,0,3))∧
  (i+k<s.length→(s.getD (i+k) 0).toNat<128→¬ ((s.getD (i+k) 0).toNat=0∧0<k)→a2h 8 (s.drop i) true=(((u+(s.getD (i+k) 0).toNat % 128 * 128 ^ k:Nat):Int),k+1,0)):=by
 have e:8 - k=(8 - (k+1))+1:=by omega
 rw[h2]
 refine ⟨fun h=>?_,fun h g=>?_,fun h g g'=>?_,fun h g g'=>?_⟩
 ·rw[List.drop_eq_nil_of_le h,e,a2h];rfl
 ·rw[e,drop_get h,b4x _ _ _ _ _ _ g]
  rfl
 ·rw[e,drop_get h,a2h,if_pos (by omega),if_pos ⟨g,by simp;omega⟩];rfl
 ·rw[e,drop_get h,a2h,if_pos (by omega),if_neg (by rintro ⟨a,b⟩;simp at b;exact g' ⟨a,by omega⟩)]
  simp only[b2P,if_true]
  rw[Nat.mod_eq_of_lt g,Int.natCast_add,Int.natCast_mul,Int.natCast_pow,Int.mul_comm,Nat.add_comm 1 k]
  rfl
theorem b8k(n:Nat):IntKind.u8.wrap ((BitVec.ofInt IntKind.u8.bits (IntKind.u8.wrap (n:Int)) ||| BitVec.ofInt IntKind.u8.bits 128).toNat:Int)=((n % 128+128:Nat):Int):=by
 have h:∀ x:BitVec 8,(x ||| 128#8).toNat=x.toNat % 128+128:=by decide
 have e:(BitVec.ofInt 8 ((n:Int) % 256)).toNat=n % 256:=by
  rw[BitVec.toNat_ofInt];omega
 have:=h (BitVec.ofInt 8 ((n:Int) % 256))
 rw[IntKind.wrap_u8,IntKind.wrap_u8]
 show ((BitVec.ofInt 8 ((n:Int) % 256) ||| 128#8).toNat:Int) % 256=_
 rw[this,e]
 omega
theorem c0p(c:UInt8):IntKind.u8.wrap ((BitVec.ofInt IntKind.u8.bits (c.toNat:Int) &&& ~~~BitVec.ofInt IntKind.u8.bits 128).toNat:Int)=((c.toNat % 128:Nat):Int):=by
 have h:∀ x:BitVec 8,(x &&& ~~~128#8).toNat=x.toNat % 128:=by decide
 have hc:c.toNat<256:=c.toNat_lt
 have e:(BitVec.ofInt 8 (c.toNat:Int)).toNat=c.toNat:=by
  rw[BitVec.toNat_ofInt];omega
 have:=h (BitVec.ofInt 8 (c.toNat:Int))
 rw[IntKind.wrap_u8]
 show ((BitVec.ofInt 8 (c.toNat:Int) &&& ~~~128#8).toNat:Int) % 256=_
 rw[this,e]
 omega
theorem c0i(n:Nat):(n:Int).fdiv (2 ^ (min 7 IntKind.u64.bits))=((n / 128:Nat):Int):=by
 have:(2:Int) ^ (min 7 IntKind.u64.bits)=128:=by decide
 rw[this,Int.fdiv_eq_ediv_of_nonneg _ (by omega)]
 omega
theorem c1J(u c m:Nat)(hu:u<2 ^ m)(hs:u+c * 2 ^ m<2 ^ 64):IntKind.u64.wrap ((BitVec.ofInt IntKind.u64.bits (u:Int) ||| BitVec.ofInt IntKind.u64.bits ((c * 2 ^ m:Nat):Int)).toNat:Int)=((u+c * 2 ^ m:Nat):Int):=by
 have h1:(BitVec.ofInt 64 (u:Int)).toNat=u:=by rw[BitVec.toNat_ofInt];omega
 have h2:(BitVec.ofInt 64 ((c * 2 ^ m:Nat):Int)).toNat=c * 2 ^ m:=by rw[BitVec.toNat_ofInt];omega
 rw[IntKind.wrap_u64]
 show ((BitVec.ofInt 64 (u:Int) ||| BitVec.ofInt 64 ((c * 2 ^ m:Nat):Int)).toNat:Int) % 18446744073709551616=_
 rw[BitVec.toNat_or,h1,h2]
 have:u ||| c * 2 ^ m=u+c * 2 ^ m:=by
  have:=Nat.shiftLeft_add_eq_or_of_lt hu c
  rw[Nat.shiftLeft_eq]at this
  rw[Nat.or_comm, ← this,Nat.add_comm]
 rw[this]
 omega
theorem c2s(k:Nat):2 ^ (7 * k)=128 ^ k:=by rw[Nat.pow_mul]
theorem c2I(u k:Nat)(c:UInt8)(hu:u<128 ^ k)(hk:k≤7):
  IntKind.u64.wrap ((BitVec.ofInt IntKind.u64.bits (u:Int) ||| BitVec.ofInt IntKind.u64.bits (IntKind.u64.wrap (IntKind.u64.wrap (IntKind.u8.wrap ((BitVec.ofInt IntKind.u8.bits (c.toNat:Int) &&& ~~~BitVec.ofInt IntKind.u8.bits 128).toNat:Int)) * 2 ^ min (7 * (k:Int)).toNat IntKind.u64.bits))).toNat:Int)=((u+c.toNat % 128 * 128 ^ k:Nat):Int):=by
 rw[c0p]
 have hd:c.toNat % 128<128:=by omega
 generalize c.toNat % 128=d at hd
 have e:min (7 * (k:Int)).toNat IntKind.u64.bits=7 * k:=by
  have:IntKind.u64.bits=64:=rfl
  omega
 have h2:u+d * 2 ^ (7 * k)<2 ^ 64:=by
  have h3:2 ^ (7 * k)≤2 ^ 49:=Nat.pow_le_pow_right (by omega) (by omega)
  have:=Nat.mul_le_mul (show d≤127 by omega) h3
  rw[← c2s]at hu
  omega
 have h3:((d:Int) * 2 ^ (7 * k))=((d * 2 ^ (7 * k):Nat):Int):=by rw[Int.natCast_mul,Int.natCast_pow];rfl
 have h4:IntKind.u64.wrap (d:Int)=d:=by rw[IntKind.wrap_u64];omega
 have h5:IntKind.u64.wrap ((d * 2 ^ (7 * k):Nat):Int)=((d * 2 ^ (7 * k):Nat):Int):=by rw[IntKind.wrap_u64];omega
 rw[e,h4,h3,h5, ← c2s]
 exact c1J u d (7 * k) (by rw[c2s];exact hu) h2
end
section
set_option maxRecDepth 100000
theorem a7o:1000000≤maxLen:=by unfold maxLen;decide
abbrev btl(l:List UInt8):List (List AV):=l.map a0h
theorem sxLeb{A B:Prop}(h:B)(e:A=B:=by (simp (disch:=omega) only[*, ↓Ed,Eu, ↓reduceIte,reduceCtorEq,Nat.reduceAdd,Nat.reduceEqDiff,Nat.reduceLT,Nat.reduceLeDiff,Int.reduceToNat,Int.reduceEq,Int.reduceLT,Int.reduceLE,w64,b8k,c0i,List.length_map,List.length_append];first|done|rfl)):A:=e▸h
theorem b6q(v:Int):CP Tryz.prog 173 [.int .i64 v] (.bool (decide (0≤v∧v≤72057594037927935))):=by
 refine b0I _ _ (by simp) ?_
 simp only[a8u];refine sxLeb ?_
 repeat' ((first|exact tt|refine na fun b=>?_|refine nb fun b hb=>?_|refine iq ?_|(refine jq ?_ ?_<;>intro h h')|refine Two_intro ?_ ?_|exact wZ|fail)<;>try refine sxLeb ?_)
 all_goals (try simp only[a0d,Hn]at *)
 all_goals simp[*]
 all_goals omega
theorem c1A(u:Nat):[[AV.int .u8 ((u % 128+128:Nat):Int)]]=btl [UInt8.ofNat (u % 128+128)]:=by
 have:(UInt8.ofNat (u % 128+128)).toNat=u % 128+128:=by rw[UInt8.toNat_ofNat'];omega
 show [[AV.int .u8 _]]=[[AV.int .u8 (((UInt8.ofNat (u % 128+128)).toNat:Nat):Int)]]
 rw[this]
theorem c1C(u:Nat)(h:u<128):[[AV.int .u8 (IntKind.u8.wrap (u:Int))]]=btl [UInt8.ofNat u]:=by
 have:(UInt8.ofNat u).toNat=u:=by rw[UInt8.toNat_ofNat'];omega
 simp only[List.map_cons,List.map_nil,a0h,this,IntKind.wrap_u8,List.cons.injEq,AV.int.injEq,and_true,true_and]
 omega
theorem c0I(v:Int):CP Tryz.prog 122 [.int .i64 v] (.str (pn v)):=by
 have hm:=a7o
 refine b3O _ _ (by simp) ?_
 simp only[b1f];refine sxLeb ?_
 repeat' ((first|exact tt|refine CallO_pure (b6q _) ?_|refine na fun b=>?_|refine nb fun b hb=>?_|refine iq ?_|(refine jq ?_ ?_<;>intro h h')|refine Two_intro ?_ ?_|exact wZ|fail)<;>try refine sxLeb ?_)
 ·have hv:=of_decide_eq_true h
  have hp:pn v=a9F v.toNat:=by simp only[pn,if_pos hv]
  have h8:=a0I v
  rw[hp]at h8 ⊢
  refine wpx_loop (fun x:List UInt8 × Nat=>⟨lk [(3,.sl (some 5) 1 (btl x.1)),(4,.int .u64 (x.2:Int))],lk []⟩) (fun x=>x.1++a9F x.2=a9F v.toNat∧x.1.length≤8) (fun x=>x.2) ([],v.toNat) (by simp) (Le_lit (by simp[LeL,lk,IntKind.wrap_u64];omega)) ?_
  rintro ⟨out,u⟩ ⟨h1,h2⟩
  simp only at h1 h2
  refine sxLeb ?_
  repeat' ((first|exact tt|refine na fun b=>?_|refine nb fun b hb=>?_|refine iq ?_|(refine jq ?_ ?_<;>intro h h')|refine Two_intro ?_ ?_|exact wZ|fail)<;>try refine sxLeb ?_)
  ·rw[c1A, ← List.map_append]
   rw[put7_hi (by omega),List.append_cons]at h1
   refine Round_lit (out++[UInt8.ofNat (u % 128+128)],u / 128) ⟨Le_lit (by simp[LeL,lk]),⟨h1, ?_⟩,by simp only;omega⟩
   rw[← h1]at h8
   simp only[List.length_append]at h8 ⊢
   omega
  ·rw[put7_lo (by omega)]at h1
   rw[c1C u (by omega), ← List.map_append,h1,BytesW_map]
   refine sxLeb ?_;try exact tt
 ·have hv:=of_decide_eq_false h
  simp only[pn,if_neg hv]
theorem b9G(s:List UInt8)(at':Int)(hs:s.length≤4611686018427387904):
  CP Tryz.prog 119 [.str s,.int .i64 at'] (.tup [.int .i64 (nx s at').1,.int .i64 (nx s at').2.1,.int .i64 (nx s at').2.2]):=by
 refine b2i _ _ (by simp) ?_
 simp only[a9q];refine sxLeb ?_
 repeat' ((first|exact tt|refine na fun b=>?_|refine nb fun b hb=>?_|refine iq ?_|(refine jq ?_ ?_<;>intro h h')|refine Two_intro ?_ ?_|exact wZ|fail)<;>try refine sxLeb ?_)
 ·simp[nx_out (show ¬ (0≤at'∧at'≤s.length) by omega)]
 ·simp[nx_out (show ¬ (0≤at'∧at'≤s.length) by omega)]
 obtain ⟨i,rfl⟩:∃ i:Nat,at'=i:=⟨at'.toNat,by omega⟩
 have hi:i≤s.length:=by omega
 rw[nx_in hi]
 refine wpx_loop (fun x:Nat × Nat=>⟨lk [(0,.str s),(1,.int .i64 i),(7,.int .u64 (x.1:Int)),(18,.int .i64 x.2)],lk []⟩)
  (fun x=>x.2≤8∧x.1<128 ^ x.2∧a0d (a2h 8 (s.drop i) true=b2P x.1 x.2 (a2h (8 - x.2) (s.drop (i+x.2)) (decide (x.2=0))))) (fun x=>8 - x.2) (0,0)
  ⟨by omega,by simp,(b1n _ (b2V _ _ _)).symm⟩ (Le_lit (by simp[LeL,lk,IntKind.wrap_u64])) ?_
 rintro ⟨u,k⟩ ⟨h1,h2,h3⟩
 simp only at h1 h2 h3
 refine sxLeb ?_
 repeat' ((first|exact tt|refine na fun b=>?_|refine nb fun b hb=>?_|refine iq ?_|(refine jq ?_ ?_<;>intro h h')|refine Two_intro ?_ ?_|exact wZ|fail)<;>try refine sxLeb ?_)
 ·rw[(inv7 (by omega) h3).1 (by omega)];simp[b4y]
 ·(try rw[tn2]at h);rw[tn2]at h'
  have hc:=(s.getD (i+k) 0).toNat_lt
  refine Round_lit (u+(s.getD (i+k) 0).toNat % 128 * 128 ^ k,k+1) ⟨Le_lit ?_,⟨by simp only;omega, ?_,(inv7 (by omega) h3).2.1 (by omega) (by omega)⟩,by simp only;omega⟩
  ·simp only[LeL,lk_cons,tn2,c2I u k _ h2 (by omega)]
   simp
  ·simp only[Nat.pow_succ]
   have:(s.getD (i+k) 0).toNat % 128 * 128 ^ k≤127 * 128 ^ k:=Nat.mul_le_mul_right _ (by omega)
   omega
 ·simp only[a0d,Hn,tn2]at *
  rw[(inv7 (by omega) h3).2.2.1 (by omega) (by omega) (by omega)];simp[b4y]
 case' refine_2.refine_2.refine_2=>
  rw[h3,show 8 - k=0 by omega];simp[b2P,a2h,b4y]
 all_goals
  rw[c2I u k _ h2 (by omega)]
  simp only[a0d,Hn,tn2]at *
  rw[(inv7 (by omega) h3).2.2.2 (by omega) (by omega) (by omega)]
  have hp:128 ^ k≤128 ^ 7:=Nat.pow_le_pow_right (by omega) (by omega)
  have hq:(s.getD (i+k) 0).toNat % 128 * 128 ^ k≤127 * 128 ^ k:=Nat.mul_le_mul_right _ (by omega)
  generalize (s.getD (i+k) 0).toNat % 128 * 128 ^ k=z at *
  rw[w64 (by omega)]
  simp[b4y]
  try omega
end
section
set_option maxRecDepth 100000
theorem c2C(c:UInt8):IntKind.i64.wrap (c.toNat:Int)=c.toNat:=w64 (by have:=c.toNat_lt;omega)
theorem c2A(u:Nat):(u:Int).tmod 128=((u % 128:Nat):Int):=rfl
theorem c2z(u:Nat):(u:Int).tdiv 128=((u / 128:Nat):Int):=rfl
theorem c1B(u:Nat):[[AV.int .u8 (IntKind.u8.wrap (((u % 128:Nat):Int)+128))]]=btl [UInt8.ofNat (u % 128+128)]:=by
 rw[← c1A,IntKind.wrap_u8]
 simp only[List.cons.injEq,AV.int.injEq,and_true,true_and]
 omega
theorem sxRle{A B:Prop}(h:B)(e:A=B:=by (simp (disch:=omega) only[*, ↓Ed,Eu, ↓reduceIte,reduceCtorEq,Nat.reduceAdd,Nat.reduceEqDiff,Nat.reduceLT,Nat.reduceLeDiff,Int.reduceToNat,Int.reduceEq,Int.reduceLT,Int.reduceLE,w64,c2A,c2z,c2C,List.length_map,List.length_append];first|done|rfl)):A:=e▸h
theorem b0H(v:Int):CP Tryz.prog 128 [.int .i64 v] (.str (pn v)):=by
 have hm:=a7o
 refine a6w _ _ (by simp) ?_
 simp only[a3e];refine sxRle ?_
 repeat' ((first|exact tt|refine na fun b=>?_|refine nb fun b hb=>?_|refine iq ?_|(refine jq ?_ ?_<;>intro h h')|refine Two_intro ?_ ?_|exact wZ|fail)<;>try refine sxRle ?_)
 ·simp[pn];omega
 ·simp[pn];omega
 obtain ⟨n,rfl⟩:∃ n:Nat,v=n:=⟨v.toNat,by omega⟩
 have hp:pn n=a9F n:=by simp only[pn,if_pos (show (0≤(n:Int)∧(n:Int)≤72057594037927935) by omega),Int.toNat_natCast]
 have h8:=a0I n
 rw[hp]at h8 ⊢
 refine wpx_loop (fun x:List UInt8 × Nat=>⟨lk [(0,.int .i64 (x.2:Int)),(3,.sl (some 5) 1 (btl x.1))],lk []⟩) (fun x=>a0d (x.1++a9F x.2=a9F n)∧x.1.length≤8∧x.2≤72057594037927935) (fun x=>x.2) ([],n) (by simp[a0d];omega) (Le_lit (by simp[LeL,lk])) ?_
 rintro ⟨out,u⟩ ⟨h1,h2,h3⟩
 simp only at h1 h2 h3
 refine sxRle ?_
 repeat' ((first|exact tt|refine na fun b=>?_|refine nb fun b hb=>?_|refine iq ?_|(refine jq ?_ ?_<;>intro h h')|refine Two_intro ?_ ?_|exact wZ|fail)<;>try refine sxRle ?_)
 ·rw[c1B, ← List.map_append]
  rw[put7_hi (by omega),List.append_cons]at h1
  refine Round_lit (out++[UInt8.ofNat (u % 128+128)],u / 128) ⟨Le_lit (by simp[LeL,lk]),⟨h1, ?_,by simp only;omega⟩,by simp only;omega⟩
  rw[← show _=a9F n from h1]at h8
  simp only[List.length_append]at h8 ⊢
  omega
 ·rw[put7_lo (by omega)]at h1
  rw[c1C u (by omega), ← List.map_append,show _=a9F n from h1,BytesW_map]
  refine sxRle ?_;try exact tt
theorem nx_at{s:List UInt8}{i:Int}(h:0≤i∧i≤s.length):∃ n:Nat,i=n∧n≤s.length:=⟨i.toNat,by omega,by omega⟩
theorem a8r(s:List UInt8)(at':Int)(hs:s.length≤4611686018427387904):
  CP Tryz.prog 127 [.str s,.int .i64 at'] (.tup [.int .i64 (nx s at').1,.int .i64 (nx s at').2.1,.int .i64 (nx s at').2.2]):=by
 refine a5F _ _ (by simp) ?_
 simp only[a2C];refine sxRle ?_
 repeat' ((first|exact tt|refine na fun b=>?_|refine nb fun b hb=>?_|refine iq ?_|(refine jq ?_ ?_<;>intro h h')|refine Two_intro ?_ ?_|exact wZ|fail)<;>try refine sxRle ?_)
 ·simp[nx_out (show ¬ (0≤at'∧at'≤s.length) by omega)]
 ·simp[nx_out (show ¬ (0≤at'∧at'≤s.length) by omega)]
 obtain ⟨i,rfl,hi⟩:=nx_at (s:=s) (i:=at') (by omega)
 rw[nx_in hi]
 refine wpx_loop (fun x:Nat × Nat=>⟨lk [(0,.str s),(1,.int .i64 (i+x.2:Nat)),(7,.int .i64 (x.1:Int)),(8,.int .i64 (128 ^ x.2:Nat)),(9,.int .i64 x.2)],lk []⟩)
  (fun x=>x.2≤8∧x.1<128 ^ x.2∧a0d (a2h 8 (s.drop i) true=b2P x.1 x.2 (a2h (8 - x.2) (s.drop (i+x.2)) (decide (x.2=0))))) (fun x=>8 - x.2) (0,0)
  ⟨by omega,by simp,(b1n _ (b2V _ _ _)).symm⟩ (Le_lit (by simp[LeL,lk])) ?_
 rintro ⟨u,k⟩ ⟨h1,h2,h3⟩
 simp only at h1 h2 h3
 have hp:k<8→128 ^ k≤562949953421312:=fun h=>Nat.pow_le_pow_right (n:=128) (j:=7) (by omega) (by omega)
 have hq:(s.getD (i+k) 0).toNat % 128 * 128 ^ k≤127 * 128 ^ k:=Nat.mul_le_mul_right _ (by omega)
 refine sxRle ?_
 repeat' ((first|exact tt|refine na fun b=>?_|refine nb fun b hb=>?_|refine iq ?_|(refine jq ?_ ?_<;>intro h h')|refine Two_intro ?_ ?_|exact wZ|fail)<;>try refine sxRle ?_)
 case' refine_2.refine_2.refine_2=>
  rw[h3,show 8 - k=0 by omega];simp[b2P,a2h,b4y]
 all_goals
  simp only[a0d,Hn]at *
 ·rw[(inv7 (by omega) h3).1 (by omega)];simp[b4y]
 ·rw[(inv7 (by omega) h3).2.2.1 (by omega) (by omega) (by omega)];simp[b4y]
 ·rw[(inv7 (by omega) h3).2.2.2 (by omega) (by omega) (by omega)]
  simp[b4y];omega
 ·rw[(inv7 (by omega) h3).2.2.2 (by omega) (by omega) (by omega)]
  simp[b4y];omega
 ·refine Round_lit (u+(s.getD (i+k) 0).toNat % 128 * 128 ^ k,k+1) ⟨Le_lit ?_,⟨by simp only;omega, ?_,(inv7 (by omega) h3).2.1 (by omega) (by omega)⟩,by simp only;omega⟩
  ·simp only[LeL,lk_cons,Nat.pow_succ]
   simp
   omega
  ·simp only[Nat.pow_succ]
   omega
end
section
def a8k(s:List UInt8)(least most:Int)(x:Int × Int):Int × Int × Int:=
 if x.2≠0 then (0,x.1,x.2) else if (nx s x.1).2.2≠0 then (0,x.1,(nx s x.1).2.2)
 else if (nx s x.1).1<least∨most<(nx s x.1).1 then (0,x.1,1) else ((nx s x.1).1,(nx s x.1).2.1,0)
def a5h(s:List UInt8)(most:Int)(x:Int × Int):List UInt8 × Int × Int:=
 if x.2≠0 then ([],x.1,x.2) else if (nx s x.1).2.2≠0 then ([],x.1,(nx s x.1).2.2)
 else if most<(nx s x.1).1 then ([],x.1,4) else if (s.length:Int) - (nx s x.1).2.1<(nx s x.1).1 then ([],x.1,2)
 else ((s.take ((nx s x.1).2.1+(nx s x.1).1).toNat).drop (nx s x.1).2.1.toNat,(nx s x.1).2.1+(nx s x.1).1,0)
def rend(s:List UInt8)(x:Int × Int):Int:=if x.2=0∧x.1<s.length then 3 else x.2
theorem b3b(s:List UInt8)(n:Int):0≤(nx s n).1∧(nx s n).1<72057594037927936∧0≤(nx s n).2.1∧(nx s n).2.1≤s.length:=by
 unfold nx
 split
 ·have hb:=b2U 8 (s.drop n.toNat) true
  generalize a2h 8 (s.drop n.toNat) true=g at hb
  obtain ⟨v,k,e⟩:=g
  simp only[List.length_drop]at hb ⊢
  split
  ·simp only;omega
  ·simp only;omega
 ·simp only;omega
theorem b9j(s:List UInt8)(n:Int)(h:(nx s n).2.2≠0):(nx s n).1=0∧(nx s n).2.1=0:=by
 unfold nx at h ⊢
 split
 ·rename_i hn
  rw[if_pos hn]at h
  generalize a2h 8 (s.drop n.toNat) true=g at h ⊢
  obtain ⟨v,k,e⟩:=g
  simp only at h ⊢
  split
  ·rename_i he;rw[if_pos he]at h;simp at h
  ·simp
 ·simp
theorem b5x(s:List UInt8)(least most:Int)(x:Int × Int)(h:0≤x.1∧x.1≤s.length):0≤(a8k s least most x).2.1∧(a8k s least most x).2.1≤s.length:=by
 have:=b3b s x.1
 unfold a8k
 split
 ·exact h
 split
 ·exact h
 split
 ·exact h
 ·simp only;omega
end
end Go.Proofs.YtfgihnhoocnmdaaGreatDoor
