import Derived.Shelf.Strings.Builder1
import Derived.Shelf.Strings.Builder2
import Derived.Shelf.Strings.OnBuilder
import Derived.Shelf.Small.Utf8
import Derived.Shelf.Small.Bits
import Derived.Shelf.Small.Strs
import Derived.Shelf.Small.Wraps
import Derived.Shelf.Strings.BuilderF
import Derived.Shelf.Strconv.Itoa0
import Derived.Shelf.LaysM
import Derived.Shelf.Strconv.Clone
import Derived.Shelf.Strings.Search1
import Derived.Shelf.Strings.Search2
import Derived.Shelf.Strings.Search3
import Derived.Shelf.Strings.Count
import Derived.Shelf.Strings.Shaped
import Derived.Shelf.Strings.Prefix
import Derived.Shelf.Strings.Runes
import Derived.Shelf.Strings.AsciiSet
import Derived.Shelf.Bits.Mul64
import Derived.Shelf.Strings.Repeat
import Derived.Shelf.Unicode.DecodeSlow
import Derived.Ground.SlgnProg
import Derived.Shelf.SlicesE.Clone
import Derived.Ground.SlgmProg
import Derived.Shelf.SortM.Plain
import Derived.Shelf.SortM.SortNone
import Derived.Test.YtgdhinnepnlihaaGreatDoorProg
namespace Go.Proofs
open Go.Shelf
open Go.RowKit in
open Go.RowKit in
open Go.RowKit in
open Go.RowKit in
open Go.RowKit in
open Go.RowKit in
def Tryz.lays156_ren:Go.Shelf.Ren:=⟨fun|156=>274|165=>300|166=>301|169=>302|240=>320|241=>321|276=>332|277=>333|n=>n,fun|31=>33|9=>9|3=>3|4=>4|0=>0|20=>20|72=>359|76=>362|70=>357|37=>36|75=>361|127=>283|164=>385|5=>5|80=>364|n=>n,fun|n=>n⟩
theorem Tryz.lays156:Go.Proofs.Lays.n156 Tryz.prog Tryz.lays156_ren:={
 mixed:=by kernel_rfl
 f156:=Tryz.func274.trans (congrArg some (by kernel_rfl))
 f165:=Tryz.func300.trans (congrArg some (by kernel_rfl))
 f166:=Tryz.func301.trans (congrArg some (by kernel_rfl))
 f169:=Tryz.func302.trans (congrArg some (by kernel_rfl))
 f240:=Tryz.func320.trans (congrArg some (by kernel_rfl))
 f241:=Tryz.func321.trans (congrArg some (by kernel_rfl))
 f276:=Tryz.func332.trans (congrArg some (by kernel_rfl))
 f277:=Tryz.func333.trans (congrArg some (by kernel_rfl))
 t0:=Tryz.underlying0
 a0:=Tryz.isAgg0
 z0:=Tryz.sizeOf0
 v0:=Tryz.zeroValue0
 t3:=Tryz.underlying3
 a3:=Tryz.isAgg3
 z3:=Tryz.sizeOf3
 v3:=Tryz.zeroValue3
 t4:=Tryz.underlying4
 a4:=Tryz.isAgg4
 z4:=Tryz.sizeOf4
 v4:=Tryz.zeroValue4
 t9:=Tryz.underlying9
 a9:=Tryz.isAgg9
 z9:=Tryz.sizeOf9
 v9:=Tryz.zeroValue9
 t20:=Tryz.underlying20
 a20:=Tryz.isAgg20
 z20:=Tryz.sizeOf20
 v20:=Tryz.zeroValue20
 t31:=Tryz.underlying33
 a31:=Tryz.isAgg33
 z31:=Tryz.sizeOf33
 v31:=Tryz.zeroValue33
 t37:=Tryz.underlying36
 a37:=Tryz.isAgg36
 z37:=Tryz.sizeOf36
 v37:=Tryz.zeroValue36
 t70:=Tryz.underlying357
 a70:=Tryz.isAgg357
 z70:=Tryz.sizeOf357
 v70:=Tryz.zeroValue357
 t72:=Tryz.underlying359
 a72:=Tryz.isAgg359
 z72:=Tryz.sizeOf359
 v72:=Tryz.zeroValue359
 t75:=Tryz.underlying361
 a75:=Tryz.isAgg361
 z75:=Tryz.sizeOf361
 v75:=Tryz.zeroValue361
 t76:=Tryz.underlying362
 a76:=Tryz.isAgg362
 z76:=Tryz.sizeOf362
 v76:=Tryz.zeroValue362
 t127:=Tryz.underlying283
 a127:=Tryz.isAgg283
 z127:=Tryz.sizeOf283
 v127:=Tryz.zeroValue283
 t164:=Tryz.underlying385
 a164:=Tryz.isAgg385
 z164:=Tryz.sizeOf385
 v164:=Tryz.zeroValue385 }
theorem Tryz.Builder_Extra_156:Builder.Extra Tryz.prog Tryz.lays156_ren:={
 sizeBuilder:=by kernel_rfl
 liesBuilder:=by kernel_rfl
 t5:=Tryz.underlying5
 a5:=Tryz.isAgg5
 z5:=Tryz.sizeOf5
 v5:=Tryz.zeroValue5
 infoByte:=by kernel_rfl
 cellsByte:=by kernel_rfl
 sizeByte:=by kernel_rfl
 neB5:=by decide }
open Go.RowKit in
theorem Tryz.strings_Join_none(a:Option Addr)(c:Nat)(sep:ByteArray)(w:World):
  Calls Tryz.prog 274 #[.slice a 0 c,.string sep] w fun e w'=>e=.returned (.string ⟨#[]⟩)∧w'=w:=Any.strings_Join_none Tryz.lays156 Tryz.Builder_Extra_156 a c sep w
open Go.RowKit in
theorem Tryz.strings_Join(bk o c:Nat)(xs:List ByteArray)(sep:ByteArray)(w:World)(hcells:∀ (j:Nat) x,xs[j]?=some x→w.cell? ⟨bk,o+j,none⟩=some (.string x))(hbk:bk<w.heap.size)(hN:xs.length≤140737488355328)(hcap:xs.length≤c)(hlen:(Lib.join (xs.map (·.data.toList)) sep.data.toList).length≤140737488355328):
  Calls Tryz.prog 274 #[.slice (some ⟨bk,o,none⟩) xs.length c,.string sep] w fun e w'=>e=.returned (.string ⟨(Lib.join (xs.map (·.data.toList)) sep.data.toList).toArray⟩)∧Below w.heap.size w w':=Any.strings_Join Tryz.lays156 Tryz.Builder_Extra_156 bk o c xs sep w hcells hbk hN hcap hlen
def Tryz.lays125_ren:Go.Shelf.Ren:=⟨fun|125=>176|128=>222|129=>223|n=>n,fun|46=>236|3=>3|51=>295|53=>235|4=>4|5=>5|9=>9|n=>n,fun|n=>n⟩
theorem Tryz.lays125:Go.Proofs.Lays.n125 Tryz.prog Tryz.lays125_ren:={
 mixed:=by kernel_rfl
 f125:=Tryz.func176.trans (congrArg some (by kernel_rfl))
 f128:=Tryz.func222.trans (congrArg some (by kernel_rfl))
 f129:=Tryz.func223.trans (congrArg some (by kernel_rfl))
 t3:=Tryz.underlying3
 a3:=Tryz.isAgg3
 z3:=Tryz.sizeOf3
 v3:=Tryz.zeroValue3
 t4:=Tryz.underlying4
 a4:=Tryz.isAgg4
 z4:=Tryz.sizeOf4
 v4:=Tryz.zeroValue4
 t5:=Tryz.underlying5
 a5:=Tryz.isAgg5
 z5:=Tryz.sizeOf5
 v5:=Tryz.zeroValue5
 t9:=Tryz.underlying9
 a9:=Tryz.isAgg9
 z9:=Tryz.sizeOf9
 v9:=Tryz.zeroValue9
 t46:=Tryz.underlying236
 a46:=Tryz.isAgg236
 z46:=Tryz.sizeOf236
 v46:=Tryz.zeroValue236
 t51:=Tryz.underlying295
 a51:=Tryz.isAgg295
 z51:=Tryz.sizeOf295
 v51:=Tryz.zeroValue295
 t53:=Tryz.underlying235
 a53:=Tryz.isAgg235
 z53:=Tryz.sizeOf235
 v53:=Tryz.zeroValue235 }
theorem Tryz.bits_Len(x:Int)(w:World)(h0:0≤x)(h1:x≤18446744073709551615):
  Calls Tryz.prog 176 #[.int .u64 x] w fun e w'=>e=.returned (.int .i64 (Lib.bitLen x.toNat))∧w'=w:=Any.bits_Len Tryz.lays125 x w h0 h1
open Go.RowKit in
open Go.RowKit in
open Go.RowKit in
open Go.RowKit in
open Go.RowKit in
open Go.RowKit in
open Go.RowKit in
open Go.RowKit in
open Go.RowKit in
open Go.RowKit in
def Tryz.laysM316_ren:Go.Shelf.Ren:=⟨fun|316=>159|n=>n,fun|9=>9|3=>3|4=>4|37=>36|0=>0|127=>283|5=>5|n=>n,fun|n=>n⟩
theorem Tryz.laysM316:Go.Proofs.LaysM.n316 Tryz.prog Tryz.laysM316_ren:={
 mixed:=by kernel_rfl
 f316:=Tryz.func159.trans (congrArg some (by kernel_rfl))
 t0:=Tryz.underlying0
 a0:=Tryz.isAgg0
 z0:=Tryz.sizeOf0
 v0:=Tryz.zeroValue0
 t3:=Tryz.underlying3
 a3:=Tryz.isAgg3
 z3:=Tryz.sizeOf3
 v3:=Tryz.zeroValue3
 t4:=Tryz.underlying4
 a4:=Tryz.isAgg4
 z4:=Tryz.sizeOf4
 v4:=Tryz.zeroValue4
 t9:=Tryz.underlying9
 a9:=Tryz.isAgg9
 z9:=Tryz.sizeOf9
 v9:=Tryz.zeroValue9
 t37:=Tryz.underlying36
 a37:=Tryz.isAgg36
 z37:=Tryz.sizeOf36
 v37:=Tryz.zeroValue36
 t127:=Tryz.underlying283
 a127:=Tryz.isAgg283
 z127:=Tryz.sizeOf283
 v127:=Tryz.zeroValue283
 t5:=Tryz.underlying5
 a5:=Tryz.isAgg5
 z5:=Tryz.sizeOf5
 v5:=Tryz.zeroValue5
 i0:=by kernel_rfl
 i3:=by kernel_rfl
 i4:=by kernel_rfl
 i5:=by kernel_rfl
 i9:=by kernel_rfl
 i37:=by kernel_rfl
 i127:=by kernel_rfl }
open Go.RowKit in
theorem Tryz.stringslite_Clone(s:ByteArray)(w:World)(hlim:s.size≤281474976710656):
  Calls Tryz.prog 159 #[.string s] w fun e w'=>e=.returned (.string s)∧Below w.heap.size w w':=Any.stringslite_Clone Tryz.laysM316 s w hlim
open Go.RowKit Go.Lib in
open Go.RowKit Go.Lib in
open Go.RowKit Go.Lib in
open Go.RowKit Go.Lib in
open Go.RowKit Go.Lib in
open Go.RowKit Go.Lib in
open Go.RowKit Go.Lib in
open Go.RowKit Go.Lib in
open Go.RowKit Go.Lib in
open Go.RowKit Go.Lib in
open Go.RowKit Go.Lib in
open Go.RowKit Go.Lib in
open Go.RowKit Go.Lib in
def Tryz.lays105_ren:Go.Shelf.Ren:=⟨fun|105=>275|212=>303|99=>171|165=>300|166=>301|170=>304|169=>302|263=>322|264=>323|206=>210|240=>320|241=>321|276=>332|277=>333|n=>n,fun|9=>9|3=>3|4=>4|20=>20|0=>0|46=>236|109=>365|5=>5|72=>359|76=>362|51=>295|146=>375|53=>235|148=>377|70=>357|37=>36|75=>361|127=>283|164=>385|80=>364|n=>n,fun|n=>n⟩
theorem Tryz.lays105:Go.Proofs.Lays.n105 Tryz.prog Tryz.lays105_ren:={
 mixed:=by kernel_rfl
 f99:=Tryz.func171.trans (congrArg some (by kernel_rfl))
 f105:=Tryz.func275.trans (congrArg some (by kernel_rfl))
 f165:=Tryz.func300.trans (congrArg some (by kernel_rfl))
 f166:=Tryz.func301.trans (congrArg some (by kernel_rfl))
 f169:=Tryz.func302.trans (congrArg some (by kernel_rfl))
 f170:=Tryz.func304.trans (congrArg some (by kernel_rfl))
 f206:=Tryz.func210.trans (congrArg some (by kernel_rfl))
 f212:=Tryz.func303.trans (congrArg some (by kernel_rfl))
 f240:=Tryz.func320.trans (congrArg some (by kernel_rfl))
 f241:=Tryz.func321.trans (congrArg some (by kernel_rfl))
 f263:=Tryz.func322.trans (congrArg some (by kernel_rfl))
 f264:=Tryz.func323.trans (congrArg some (by kernel_rfl))
 f276:=Tryz.func332.trans (congrArg some (by kernel_rfl))
 f277:=Tryz.func333.trans (congrArg some (by kernel_rfl))
 t0:=Tryz.underlying0
 a0:=Tryz.isAgg0
 z0:=Tryz.sizeOf0
 v0:=Tryz.zeroValue0
 t3:=Tryz.underlying3
 a3:=Tryz.isAgg3
 z3:=Tryz.sizeOf3
 v3:=Tryz.zeroValue3
 t4:=Tryz.underlying4
 a4:=Tryz.isAgg4
 z4:=Tryz.sizeOf4
 v4:=Tryz.zeroValue4
 t5:=Tryz.underlying5
 a5:=Tryz.isAgg5
 z5:=Tryz.sizeOf5
 v5:=Tryz.zeroValue5
 t9:=Tryz.underlying9
 a9:=Tryz.isAgg9
 z9:=Tryz.sizeOf9
 v9:=Tryz.zeroValue9
 t20:=Tryz.underlying20
 a20:=Tryz.isAgg20
 z20:=Tryz.sizeOf20
 v20:=Tryz.zeroValue20
 t37:=Tryz.underlying36
 a37:=Tryz.isAgg36
 z37:=Tryz.sizeOf36
 v37:=Tryz.zeroValue36
 t46:=Tryz.underlying236
 a46:=Tryz.isAgg236
 z46:=Tryz.sizeOf236
 v46:=Tryz.zeroValue236
 t51:=Tryz.underlying295
 a51:=Tryz.isAgg295
 z51:=Tryz.sizeOf295
 v51:=Tryz.zeroValue295
 t53:=Tryz.underlying235
 a53:=Tryz.isAgg235
 z53:=Tryz.sizeOf235
 v53:=Tryz.zeroValue235
 t70:=Tryz.underlying357
 a70:=Tryz.isAgg357
 z70:=Tryz.sizeOf357
 v70:=Tryz.zeroValue357
 t72:=Tryz.underlying359
 a72:=Tryz.isAgg359
 z72:=Tryz.sizeOf359
 v72:=Tryz.zeroValue359
 t75:=Tryz.underlying361
 a75:=Tryz.isAgg361
 z75:=Tryz.sizeOf361
 v75:=Tryz.zeroValue361
 t76:=Tryz.underlying362
 a76:=Tryz.isAgg362
 z76:=Tryz.sizeOf362
 v76:=Tryz.zeroValue362
 t109:=Tryz.underlying365
 a109:=Tryz.isAgg365
 z109:=Tryz.sizeOf365
 v109:=Tryz.zeroValue365
 t127:=Tryz.underlying283
 a127:=Tryz.isAgg283
 z127:=Tryz.sizeOf283
 v127:=Tryz.zeroValue283
 t146:=Tryz.underlying375
 a146:=Tryz.isAgg375
 z146:=Tryz.sizeOf375
 v146:=Tryz.zeroValue375
 t148:=Tryz.underlying377
 a148:=Tryz.isAgg377
 z148:=Tryz.sizeOf377
 v148:=Tryz.zeroValue377
 t164:=Tryz.underlying385
 a164:=Tryz.isAgg385
 z164:=Tryz.sizeOf385
 v164:=Tryz.zeroValue385 }
theorem Tryz.Builder_Extra_105:Builder.Extra Tryz.prog Tryz.lays105_ren:={
 sizeBuilder:=by kernel_rfl
 liesBuilder:=by kernel_rfl
 t5:=Tryz.underlying5
 a5:=Tryz.isAgg5
 z5:=Tryz.sizeOf5
 v5:=Tryz.zeroValue5
 infoByte:=by kernel_rfl
 cellsByte:=by kernel_rfl
 sizeByte:=by kernel_rfl
 neB5:=by decide }
open Go.RowKit Go.Lib in
open Go.RowKit Go.Lib in
open Go.RowKit Go.Lib in
open Go.RowKit Go.Lib in
open Go.RowKit Go.Lib in
theorem Tryz.strings_Repeat(s:ByteArray)(c:Nat)(w:World)(hc:c≤9223372036854775807)(hlen:s.size * c≤140737488355328):
  Calls Tryz.prog 275 #[.string s,.int .i64 c] w fun e w'=>e=.returned (.string ⟨(Lib.repeatL s.data.toList c).toArray⟩)∧Below w.heap.size w w':=Any.strings_Repeat Tryz.lays105 Tryz.Builder_Extra_105 s c w hc hlen
def Tryz.laysSlE041_f127_ren:Go.Shelf.Ren:=⟨fun|41=>127|n=>n,fun|22=>23|23=>3|4=>4|n=>n,fun|n=>n⟩
theorem Tryz.laysSlE041_f127:Go.Proofs.SlLaysE0.n41 Tryz.prog Tryz.laysSlE041_f127_ren:={
 mixed:=by kernel_rfl
 f41:=⟨Tryz.f127.name,by decide,Tryz.func127.trans (congrArg some (by kernel_rfl))⟩
 t4:=Tryz.underlying4
 a4:=Tryz.isAgg4
 z4:=Tryz.sizeOf4
 v4:=Tryz.zeroValue4
 t22:=Tryz.underlying23
 a22:=Tryz.isAgg23
 z22:=Tryz.sizeOf23
 v22:=Tryz.zeroValue23 }
open Go.RowKit Go.Lib in
theorem Tryz.slices_Clone(i0:TypeInfo)(z:Value)(size bytes:Nat)(hi:Tryz.prog.info? 3=some i0)(hz0:i0.zero=some z)(hz1:i0.size=size)(hz2:i0.bytes=bytes)(hzs:z.cells.size=size)(hsz:0<size)(z23:∀ w,(Go.sizeOf 3).run Tryz.prog w=.ok size w)(b off n c:Nat)(news:List Value)(w:World)(hl:news.length=n * size)(hn:n≤maxLen)(hbig:n * bytes≤140737488355328)(hc:∀ j u,news[j]?=some u→w.cell? ⟨b,off+j,none⟩=some u)(h1:∀ u∈news,u.oneCell'=true):
  Calls Tryz.prog 127 #[.slice (some ⟨b,off,none⟩) n c] w fun e w'=>∃ v',e=.returned v'∧w'.ownsRow w.heap.size 3 size v' n news∧v' ≠ .slice none 0 0∧Below w.heap.size w w':=AnyE.slices_Clone Tryz.laysSlE041_f127 i0 z size bytes hi hz0 hz1 hz2 hzs hsz z23 b off n c news w hl hn hbig hc h1
open Go.RowKit Go.Lib in
theorem Tryz.slices_Clone_nil(n c:Nat)(w:World):
  Calls Tryz.prog 127 #[.slice none n c] w fun e w'=>e=.returned (.slice none 0 0)∧w'=w:=AnyE.slices_Clone_nil Tryz.laysSlE041_f127 n c w
def Tryz.laysSlM5_f128_ren:Go.Shelf.Ren:=⟨fun|5=>128|8=>176|7=>187|19=>222|20=>223|10=>231|11=>232|12=>233|13=>234|14=>235|15=>236|16=>237|17=>238|18=>239|30=>280|31=>269|32=>270|33=>281|34=>282|35=>283|40=>307|n=>n,fun|23=>23|25=>3|3=>3|32=>236|22=>23|0=>0|44=>295|46=>235|4=>4|36=>289|35=>288|41=>171|5=>5|9=>9|53=>329|57=>333|63=>355|64=>261|n=>n,fun|n=>n⟩
theorem Tryz.laysSlM5_f128:Go.Proofs.SlLaysM.n5 Tryz.prog Tryz.laysSlM5_f128_ren:={
 mixed:=by kernel_rfl
 f5:=⟨Tryz.f128.name,by decide,Tryz.func128.trans (congrArg some (by kernel_rfl))⟩
 f7:=⟨Tryz.f187.name,by decide,Tryz.func187.trans (congrArg some (by kernel_rfl))⟩
 f8:=Tryz.func176.trans (congrArg some (by kernel_rfl))
 f10:=⟨Tryz.f231.name,by decide,Tryz.func231.trans (congrArg some (by kernel_rfl))⟩
 f11:=⟨Tryz.f232.name,by decide,Tryz.func232.trans (congrArg some (by kernel_rfl))⟩
 f12:=⟨Tryz.f233.name,by decide,Tryz.func233.trans (congrArg some (by kernel_rfl))⟩
 f13:=⟨Tryz.f234.name,by decide,Tryz.func234.trans (congrArg some (by kernel_rfl))⟩
 f14:=⟨Tryz.f235.name,by decide,Tryz.func235.trans (congrArg some (by kernel_rfl))⟩
 f15:=⟨Tryz.f236.name,by decide,Tryz.func236.trans (congrArg some (by kernel_rfl))⟩
 f16:=⟨Tryz.f237.name,by decide,Tryz.func237.trans (congrArg some (by kernel_rfl))⟩
 f17:=⟨Tryz.f238.name,by decide,Tryz.func238.trans (congrArg some (by kernel_rfl))⟩
 f18:=⟨Tryz.f239.name,by decide,Tryz.func239.trans (congrArg some (by kernel_rfl))⟩
 f19:=Tryz.func222.trans (congrArg some (by kernel_rfl))
 f20:=Tryz.func223.trans (congrArg some (by kernel_rfl))
 f30:=⟨Tryz.f280.name,by decide,Tryz.func280.trans (congrArg some (by kernel_rfl))⟩
 f31:=Tryz.func269.trans (congrArg some (by kernel_rfl))
 f32:=Tryz.func270.trans (congrArg some (by kernel_rfl))
 f33:=⟨Tryz.f281.name,by decide,Tryz.func281.trans (congrArg some (by kernel_rfl))⟩
 f34:=⟨Tryz.f282.name,by decide,Tryz.func282.trans (congrArg some (by kernel_rfl))⟩
 f35:=⟨Tryz.f283.name,by decide,Tryz.func283.trans (congrArg some (by kernel_rfl))⟩
 f40:=⟨Tryz.f307.name,by decide,Tryz.func307.trans (congrArg some (by kernel_rfl))⟩
 t0:=Tryz.underlying0
 a0:=Tryz.isAgg0
 z0:=Tryz.sizeOf0
 v0:=Tryz.zeroValue0
 t3:=Tryz.underlying3
 a3:=Tryz.isAgg3
 z3:=Tryz.sizeOf3
 v3:=Tryz.zeroValue3
 t4:=Tryz.underlying4
 a4:=Tryz.isAgg4
 z4:=Tryz.sizeOf4
 v4:=Tryz.zeroValue4
 t5:=Tryz.underlying5
 a5:=Tryz.isAgg5
 z5:=Tryz.sizeOf5
 v5:=Tryz.zeroValue5
 t9:=Tryz.underlying9
 a9:=Tryz.isAgg9
 z9:=Tryz.sizeOf9
 v9:=Tryz.zeroValue9
 t22:=Tryz.underlying23
 a22:=Tryz.isAgg23
 z22:=Tryz.sizeOf23
 v22:=Tryz.zeroValue23
 t23:=Tryz.underlying23
 a23:=Tryz.isAgg23
 z23:=Tryz.sizeOf23
 v23:=Tryz.zeroValue23
 t25:=Tryz.underlying3
 a25:=Tryz.isAgg3
 z25:=Tryz.sizeOf3
 v25:=Tryz.zeroValue3
 t32:=Tryz.underlying236
 a32:=Tryz.isAgg236
 z32:=Tryz.sizeOf236
 v32:=Tryz.zeroValue236
 t35:=Tryz.underlying288
 a35:=Tryz.isAgg288
 z35:=Tryz.sizeOf288
 v35:=Tryz.zeroValue288
 t36:=Tryz.underlying289
 a36:=Tryz.isAgg289
 z36:=Tryz.sizeOf289
 v36:=Tryz.zeroValue289
 t41:=Tryz.underlying171
 a41:=Tryz.isAgg171
 z41:=Tryz.sizeOf171
 v41:=Tryz.zeroValue171
 t44:=Tryz.underlying295
 a44:=Tryz.isAgg295
 z44:=Tryz.sizeOf295
 v44:=Tryz.zeroValue295
 t46:=Tryz.underlying235
 a46:=Tryz.isAgg235
 z46:=Tryz.sizeOf235
 v46:=Tryz.zeroValue235
 t53:=Tryz.underlying329
 a53:=Tryz.isAgg329
 z53:=Tryz.sizeOf329
 v53:=Tryz.zeroValue329
 t57:=Tryz.underlying333
 a57:=Tryz.isAgg333
 z57:=Tryz.sizeOf333
 v57:=Tryz.zeroValue333
 t63:=Tryz.underlying355
 a63:=Tryz.isAgg355
 z63:=Tryz.sizeOf355
 v63:=Tryz.zeroValue355
 t64:=Tryz.underlying261
 a64:=Tryz.isAgg261
 z64:=Tryz.sizeOf261
 v64:=Tryz.zeroValue261 }
open Go.Sort Go.RowKit in
theorem Tryz.slices_Sort_int(blk off cap:Nat)(zs:List Int)(w:World)(hH:Holds (Value.int .i64) w blk off zs.toArray)(hblk:blk<w.heap.size)(hsz:zs.length<4611686018427387904):
  Calls Tryz.prog 128 #[.slice (some ⟨blk,off,none⟩) zs.length cap] w fun e w'=>
   e=.returned (.tuple #[])∧∃ n os,w'=grow (putRow (Value.int .i64) (Sort.ahead w n) blk off (zs.mergeSort fun x y=>decide (x≤y)).toArray) os:=AnyM.slices_Sort_int Tryz.laysSlM5_f128 blk off cap zs w hH hblk hsz
open Go.RowKit Go.Sort in
theorem Tryz.slices_Sort_int_none(p:Option Addr)(cap:Nat)(w:World):
  Calls Tryz.prog 128 #[.slice p 0 cap] w fun e w'=>e=.returned (.tuple #[])∧w'=w:=AnyM.slices_Sort_int_none Tryz.laysSlM5_f128 p cap w
end Go.Proofs
