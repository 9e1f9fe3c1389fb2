import Derived.Shelf.Strings.Builder1
import Derived.Shelf.Strings.Builder2
import Derived.Shelf.Strings.OnBuilder
import Derived.Shelf.Small.Bits
import Derived.Shelf.Small.Strs
import Derived.Shelf.Strings.BuilderF
import Derived.Shelf.Strconv.Itoa0
import Derived.Shelf.Strconv.Itoa1
import Derived.Shelf.LaysM
import Derived.Shelf.Strconv.Itoa2
import Derived.Shelf.Strconv.Itoa3
import Derived.Shelf.Strconv.Clone
import Derived.Shelf.Strings.Prefix
import Derived.Shelf.Bits.Mul64
import Derived.Shelf.Strings.Repeat
import Derived.Test.YtfgihnhoocnmdaaGreatDoorJ0
namespace Go.Proofs
open Go.Shelf
open Go.RowKit in
open Go.RowKit in
open Go.RowKit in
open Go.RowKit in
open Go.RowKit in
open Go.RowKit in
def Tryz.lays156_ren:Go.Shelf.Ren:=⟨fun|156=>204|165=>222|166=>223|169=>224|240=>245|241=>246|276=>261|277=>262|n=>n,fun|31=>254|9=>9|3=>3|4=>4|0=>0|20=>20|72=>274|76=>277|70=>272|37=>178|75=>276|127=>246|164=>311|5=>5|80=>279|n=>n,fun|n=>n⟩
theorem Tryz.lays156:Go.Proofs.Lays.n156 Tryz.prog Tryz.lays156_ren:={
 mixed:=by kernel_rfl
 f156:=Tryz.func204.trans (congrArg some (by kernel_rfl))
 f165:=Tryz.func222.trans (congrArg some (by kernel_rfl))
 f166:=Tryz.func223.trans (congrArg some (by kernel_rfl))
 f169:=Tryz.func224.trans (congrArg some (by kernel_rfl))
 f240:=Tryz.func245.trans (congrArg some (by kernel_rfl))
 f241:=Tryz.func246.trans (congrArg some (by kernel_rfl))
 f276:=Tryz.func261.trans (congrArg some (by kernel_rfl))
 f277:=Tryz.func262.trans (congrArg some (by kernel_rfl))
 t0:=Tryz.underlying0
 a0:=Tryz.isAgg0
 z0:=Tryz.sizeOf0
 v0:=Tryz.zeroValue0
 t3:=Tryz.underlying3
 a3:=Tryz.isAgg3
 z3:=Tryz.sizeOf3
 v3:=Tryz.zeroValue3
 t4:=Tryz.underlying4
 a4:=Tryz.isAgg4
 z4:=Tryz.sizeOf4
 v4:=Tryz.zeroValue4
 t9:=Tryz.underlying9
 a9:=Tryz.isAgg9
 z9:=Tryz.sizeOf9
 v9:=Tryz.zeroValue9
 t20:=Tryz.underlying20
 a20:=Tryz.isAgg20
 z20:=Tryz.sizeOf20
 v20:=Tryz.zeroValue20
 t31:=Tryz.underlying254
 a31:=Tryz.isAgg254
 z31:=Tryz.sizeOf254
 v31:=Tryz.zeroValue254
 t37:=Tryz.underlying178
 a37:=Tryz.isAgg178
 z37:=Tryz.sizeOf178
 v37:=Tryz.zeroValue178
 t70:=Tryz.underlying272
 a70:=Tryz.isAgg272
 z70:=Tryz.sizeOf272
 v70:=Tryz.zeroValue272
 t72:=Tryz.underlying274
 a72:=Tryz.isAgg274
 z72:=Tryz.sizeOf274
 v72:=Tryz.zeroValue274
 t75:=Tryz.underlying276
 a75:=Tryz.isAgg276
 z75:=Tryz.sizeOf276
 v75:=Tryz.zeroValue276
 t76:=Tryz.underlying277
 a76:=Tryz.isAgg277
 z76:=Tryz.sizeOf277
 v76:=Tryz.zeroValue277
 t127:=Tryz.underlying246
 a127:=Tryz.isAgg246
 z127:=Tryz.sizeOf246
 v127:=Tryz.zeroValue246
 t164:=Tryz.underlying311
 a164:=Tryz.isAgg311
 z164:=Tryz.sizeOf311
 v164:=Tryz.zeroValue311 }
theorem Tryz.Builder_Extra_156:Builder.Extra Tryz.prog Tryz.lays156_ren:={
 sizeBuilder:=by kernel_rfl
 liesBuilder:=by kernel_rfl
 t5:=Tryz.underlying5
 a5:=Tryz.isAgg5
 z5:=Tryz.sizeOf5
 v5:=Tryz.zeroValue5
 infoByte:=by kernel_rfl
 cellsByte:=by kernel_rfl
 sizeByte:=by kernel_rfl
 neB5:=by decide }
open Go.RowKit in
theorem Tryz.strings_Join_none(a:Option Addr)(c:Nat)(sep:ByteArray)(w:World):
  Calls Tryz.prog 204 #[.slice a 0 c,.string sep] w fun e w'=>e=.returned (.string ⟨#[]⟩)∧w'=w:=Any.strings_Join_none Tryz.lays156 Tryz.Builder_Extra_156 a c sep w
open Go.RowKit in
theorem Tryz.strings_Join(bk o c:Nat)(xs:List ByteArray)(sep:ByteArray)(w:World)(hcells:∀ (j:Nat) x,xs[j]?=some x→w.cell? ⟨bk,o+j,none⟩=some (.string x))(hbk:bk<w.heap.size)(hN:xs.length≤140737488355328)(hcap:xs.length≤c)(hlen:(Lib.join (xs.map (·.data.toList)) sep.data.toList).length≤140737488355328):
  Calls Tryz.prog 204 #[.slice (some ⟨bk,o,none⟩) xs.length c,.string sep] w fun e w'=>e=.returned (.string ⟨(Lib.join (xs.map (·.data.toList)) sep.data.toList).toArray⟩)∧Below w.heap.size w w':=Any.strings_Join Tryz.lays156 Tryz.Builder_Extra_156 bk o c xs sep w hcells hbk hN hcap hlen
def Tryz.lays125_ren:Go.Shelf.Ren:=⟨fun|125=>217|128=>242|129=>243|n=>n,fun|46=>225|3=>3|51=>211|53=>210|4=>4|5=>5|9=>9|n=>n,fun|n=>n⟩
theorem Tryz.lays125:Go.Proofs.Lays.n125 Tryz.prog Tryz.lays125_ren:={
 mixed:=by kernel_rfl
 f125:=Tryz.func217.trans (congrArg some (by kernel_rfl))
 f128:=Tryz.func242.trans (congrArg some (by kernel_rfl))
 f129:=Tryz.func243.trans (congrArg some (by kernel_rfl))
 t3:=Tryz.underlying3
 a3:=Tryz.isAgg3
 z3:=Tryz.sizeOf3
 v3:=Tryz.zeroValue3
 t4:=Tryz.underlying4
 a4:=Tryz.isAgg4
 z4:=Tryz.sizeOf4
 v4:=Tryz.zeroValue4
 t5:=Tryz.underlying5
 a5:=Tryz.isAgg5
 z5:=Tryz.sizeOf5
 v5:=Tryz.zeroValue5
 t9:=Tryz.underlying9
 a9:=Tryz.isAgg9
 z9:=Tryz.sizeOf9
 v9:=Tryz.zeroValue9
 t46:=Tryz.underlying225
 a46:=Tryz.isAgg225
 z46:=Tryz.sizeOf225
 v46:=Tryz.zeroValue225
 t51:=Tryz.underlying211
 a51:=Tryz.isAgg211
 z51:=Tryz.sizeOf211
 v51:=Tryz.zeroValue211
 t53:=Tryz.underlying210
 a53:=Tryz.isAgg210
 z53:=Tryz.sizeOf210
 v53:=Tryz.zeroValue210 }
theorem Tryz.bits_Len(x:Int)(w:World)(h0:0≤x)(h1:x≤18446744073709551615):
  Calls Tryz.prog 217 #[.int .u64 x] w fun e w'=>e=.returned (.int .i64 (Lib.bitLen x.toNat))∧w'=w:=Any.bits_Len Tryz.lays125 x w h0 h1
open Go.RowKit in
def Tryz.lays106_ren:Go.Shelf.Ren:=⟨fun|106=>108|213=>167|265=>213|n=>n,fun|9=>9|3=>3|n=>n,fun|n=>n⟩
theorem Tryz.lays106:Go.Proofs.Lays.n106 Tryz.prog Tryz.lays106_ren:={
 mixed:=by kernel_rfl
 f106:=Tryz.func108.trans (congrArg some (by kernel_rfl))
 f213:=Tryz.func167.trans (congrArg some (by kernel_rfl))
 f265:=Tryz.func213.trans (congrArg some (by kernel_rfl))
 t3:=Tryz.underlying3
 a3:=Tryz.isAgg3
 z3:=Tryz.sizeOf3
 v3:=Tryz.zeroValue3
 t9:=Tryz.underlying9
 a9:=Tryz.isAgg9
 z9:=Tryz.sizeOf9
 v9:=Tryz.zeroValue9 }
open Go.RowKit in
theorem Tryz.strings_Compare(a b:ByteArray)(w:World):
  Calls Tryz.prog 108 #[.string a,.string b] w fun e w'=>e=.returned (.int .i64 (Lib.compareBytes a.data.toList b.data.toList))∧w'=w:=Any.strings_Compare Tryz.lays106 a b w
open Go.RowKit in
open Go.RowKit in
open Go.RowKit in
open Go.RowKit in
open Go.Lib in
open Go.Lib in
open Go.Lib in
open Go.Lib in
open Go.RowKit Go.Sort Go.Lib in
open Go.RowKit Go.Sort Go.Lib in
open Go.RowKit Go.Sort Go.Lib in
open Go.RowKit Go.Sort Go.Lib in
open Go.RowKit Go.Sort Go.Lib in
def Tryz.laysM171_ren:Go.Shelf.Ren:=⟨fun|171=>112|243=>169|246=>214|283=>230|284=>231|285=>232|286=>233|129=>243|317=>252|318=>253|319=>254|320=>255|337=>263|338=>264|n=>n,fun|3=>3|9=>9|2=>2|4=>4|171=>286|0=>0|53=>210|37=>178|5=>5|173=>289|212=>303|51=>211|20=>20|213=>304|46=>225|232=>28|233=>316|n=>n,fun|17=>2|18=>3|19=>4|n=>n⟩
theorem Tryz.laysM171:Go.Proofs.LaysM.n171 Tryz.prog Tryz.laysM171_ren:={
 mixed:=by kernel_rfl
 f129:=Tryz.func243.trans (congrArg some (by kernel_rfl))
 f171:=Tryz.func112.trans (congrArg some (by kernel_rfl))
 f243:=Tryz.func169.trans (congrArg some (by kernel_rfl))
 f246:=Tryz.func214.trans (congrArg some (by kernel_rfl))
 f283:=Tryz.func230.trans (congrArg some (by kernel_rfl))
 f284:=Tryz.func231.trans (congrArg some (by kernel_rfl))
 f285:=Tryz.func232.trans (congrArg some (by kernel_rfl))
 f286:=Tryz.func233.trans (congrArg some (by kernel_rfl))
 f317:=Tryz.func252.trans (congrArg some (by kernel_rfl))
 f318:=Tryz.func253.trans (congrArg some (by kernel_rfl))
 f319:=Tryz.func254.trans (congrArg some (by kernel_rfl))
 f320:=Tryz.func255.trans (congrArg some (by kernel_rfl))
 f337:=Tryz.func263.trans (congrArg some (by kernel_rfl))
 f338:=Tryz.func264.trans (congrArg some (by kernel_rfl))
 t0:=Tryz.underlying0
 a0:=Tryz.isAgg0
 z0:=Tryz.sizeOf0
 v0:=Tryz.zeroValue0
 t2:=Tryz.underlying2
 a2:=Tryz.isAgg2
 z2:=Tryz.sizeOf2
 v2:=Tryz.zeroValue2
 t3:=Tryz.underlying3
 a3:=Tryz.isAgg3
 z3:=Tryz.sizeOf3
 v3:=Tryz.zeroValue3
 t4:=Tryz.underlying4
 a4:=Tryz.isAgg4
 z4:=Tryz.sizeOf4
 v4:=Tryz.zeroValue4
 t5:=Tryz.underlying5
 a5:=Tryz.isAgg5
 z5:=Tryz.sizeOf5
 v5:=Tryz.zeroValue5
 t9:=Tryz.underlying9
 a9:=Tryz.isAgg9
 z9:=Tryz.sizeOf9
 v9:=Tryz.zeroValue9
 t20:=Tryz.underlying20
 a20:=Tryz.isAgg20
 z20:=Tryz.sizeOf20
 v20:=Tryz.zeroValue20
 t37:=Tryz.underlying178
 a37:=Tryz.isAgg178
 z37:=Tryz.sizeOf178
 v37:=Tryz.zeroValue178
 t46:=Tryz.underlying225
 a46:=Tryz.isAgg225
 z46:=Tryz.sizeOf225
 v46:=Tryz.zeroValue225
 t51:=Tryz.underlying211
 a51:=Tryz.isAgg211
 z51:=Tryz.sizeOf211
 v51:=Tryz.zeroValue211
 t53:=Tryz.underlying210
 a53:=Tryz.isAgg210
 z53:=Tryz.sizeOf210
 v53:=Tryz.zeroValue210
 t171:=Tryz.underlying286
 a171:=Tryz.isAgg286
 z171:=Tryz.sizeOf286
 v171:=Tryz.zeroValue286
 t173:=Tryz.underlying289
 a173:=Tryz.isAgg289
 z173:=Tryz.sizeOf289
 v173:=Tryz.zeroValue289
 t212:=Tryz.underlying303
 a212:=Tryz.isAgg303
 z212:=Tryz.sizeOf303
 v212:=Tryz.zeroValue303
 t213:=Tryz.underlying304
 a213:=Tryz.isAgg304
 z213:=Tryz.sizeOf304
 t232:=Tryz.underlying28
 a232:=Tryz.isAgg28
 z232:=Tryz.sizeOf28
 v232:=Tryz.zeroValue28
 t233:=Tryz.underlying316
 a233:=Tryz.isAgg316
 z233:=Tryz.sizeOf316
 v233:=Tryz.zeroValue316
 g17:=by kernel_rfl
 g18:=by kernel_rfl
 g19:=by kernel_rfl
 i0:=by kernel_rfl
 i2:=by kernel_rfl
 i3:=by kernel_rfl
 i4:=by kernel_rfl
 i5:=by kernel_rfl
 i9:=by kernel_rfl
 i20:=by kernel_rfl
 i37:=by kernel_rfl
 i46:=by kernel_rfl
 i51:=by kernel_rfl
 i53:=by kernel_rfl
 i171:=by kernel_rfl
 i173:=by kernel_rfl
 i212:=by kernel_rfl
 i232:=by kernel_rfl
 i233:=by kernel_rfl
 m17:=by kernel_rfl
 m18:=by kernel_rfl
 m19:=by kernel_rfl }
open Go.RowKit Go.Sort Go.Lib in
theorem Tryz.strconv_Itoa(n:Int)(h0 : -9223372036854775808≤n)(h1:n≤9223372036854775807)(w:World)(htab:Lib.TabIs Tryz.prog w "internal/strconv.uint64pow10" .u64 Lib.pow10Tab):
  Calls Tryz.prog 112 #[.int .i64 n] w fun e w'=>e=.returned (.string ⟨(Lib.itoa n).toArray⟩)∧∃ k os,w'=grow (w.drewN k) os:=Any.strconv_Itoa Tryz.laysM171 n h0 h1 w htab
open Go.RowKit Go.Sort Go.Lib in
def Tryz.laysM316_ren:Go.Shelf.Ren:=⟨fun|316=>146|n=>n,fun|9=>9|3=>3|4=>4|37=>178|0=>0|127=>246|5=>5|n=>n,fun|n=>n⟩
theorem Tryz.laysM316:Go.Proofs.LaysM.n316 Tryz.prog Tryz.laysM316_ren:={
 mixed:=by kernel_rfl
 f316:=Tryz.func146.trans (congrArg some (by kernel_rfl))
 t0:=Tryz.underlying0
 a0:=Tryz.isAgg0
 z0:=Tryz.sizeOf0
 v0:=Tryz.zeroValue0
 t3:=Tryz.underlying3
 a3:=Tryz.isAgg3
 z3:=Tryz.sizeOf3
 v3:=Tryz.zeroValue3
 t4:=Tryz.underlying4
 a4:=Tryz.isAgg4
 z4:=Tryz.sizeOf4
 v4:=Tryz.zeroValue4
 t9:=Tryz.underlying9
 a9:=Tryz.isAgg9
 z9:=Tryz.sizeOf9
 v9:=Tryz.zeroValue9
 t37:=Tryz.underlying178
 a37:=Tryz.isAgg178
 z37:=Tryz.sizeOf178
 v37:=Tryz.zeroValue178
 t127:=Tryz.underlying246
 a127:=Tryz.isAgg246
 z127:=Tryz.sizeOf246
 v127:=Tryz.zeroValue246
 t5:=Tryz.underlying5
 a5:=Tryz.isAgg5
 z5:=Tryz.sizeOf5
 v5:=Tryz.zeroValue5
 i0:=by kernel_rfl
 i3:=by kernel_rfl
 i4:=by kernel_rfl
 i5:=by kernel_rfl
 i9:=by kernel_rfl
 i37:=by kernel_rfl
 i127:=by kernel_rfl }
open Go.RowKit in
theorem Tryz.stringslite_Clone(s:ByteArray)(w:World)(hlim:s.size≤281474976710656):
  Calls Tryz.prog 146 #[.string s] w fun e w'=>e=.returned (.string s)∧Below w.heap.size w w':=Any.stringslite_Clone Tryz.laysM316 s w hlim
open Go.RowKit Go.Lib in
def Tryz.lays99_ren:Go.Shelf.Ren:=⟨fun|99=>162|206=>203|n=>n,fun|9=>9|4=>4|3=>3|n=>n,fun|n=>n⟩
theorem Tryz.lays99:Go.Proofs.Lays.n99 Tryz.prog Tryz.lays99_ren:={
 mixed:=by kernel_rfl
 f99:=Tryz.func162.trans (congrArg some (by kernel_rfl))
 f206:=Tryz.func203.trans (congrArg some (by kernel_rfl))
 t3:=Tryz.underlying3
 a3:=Tryz.isAgg3
 z3:=Tryz.sizeOf3
 v3:=Tryz.zeroValue3
 t4:=Tryz.underlying4
 a4:=Tryz.isAgg4
 z4:=Tryz.sizeOf4
 v4:=Tryz.zeroValue4
 t9:=Tryz.underlying9
 a9:=Tryz.isAgg9
 z9:=Tryz.sizeOf9
 v9:=Tryz.zeroValue9 }
open Go.RowKit Go.Lib in
theorem Tryz.strings_HasPrefix(s p:ByteArray)(w:World):
  Calls Tryz.prog 162 #[.string s,.string p] w fun e w'=>e=.returned (.bool (Lib.hasPrefix s.data.toList p.data.toList))∧w'=w:=Any.strings_HasPrefix Tryz.lays99 s p w
open Go.RowKit Go.Lib in
def Tryz.lays105_ren:Go.Shelf.Ren:=⟨fun|105=>205|212=>225|99=>162|165=>222|166=>223|170=>226|169=>224|263=>247|264=>248|206=>203|240=>245|241=>246|276=>261|277=>262|n=>n,fun|9=>9|3=>3|4=>4|20=>20|0=>0|46=>225|109=>280|5=>5|72=>274|76=>277|51=>211|146=>299|53=>210|148=>301|70=>272|37=>178|75=>276|127=>246|164=>311|80=>279|n=>n,fun|n=>n⟩
theorem Tryz.lays105:Go.Proofs.Lays.n105 Tryz.prog Tryz.lays105_ren:={
 mixed:=by kernel_rfl
 f99:=Tryz.func162.trans (congrArg some (by kernel_rfl))
 f105:=Tryz.func205.trans (congrArg some (by kernel_rfl))
 f165:=Tryz.func222.trans (congrArg some (by kernel_rfl))
 f166:=Tryz.func223.trans (congrArg some (by kernel_rfl))
 f169:=Tryz.func224.trans (congrArg some (by kernel_rfl))
 f170:=Tryz.func226.trans (congrArg some (by kernel_rfl))
 f206:=Tryz.func203.trans (congrArg some (by kernel_rfl))
 f212:=Tryz.func225.trans (congrArg some (by kernel_rfl))
 f240:=Tryz.func245.trans (congrArg some (by kernel_rfl))
 f241:=Tryz.func246.trans (congrArg some (by kernel_rfl))
 f263:=Tryz.func247.trans (congrArg some (by kernel_rfl))
 f264:=Tryz.func248.trans (congrArg some (by kernel_rfl))
 f276:=Tryz.func261.trans (congrArg some (by kernel_rfl))
 f277:=Tryz.func262.trans (congrArg some (by kernel_rfl))
 t0:=Tryz.underlying0
 a0:=Tryz.isAgg0
 z0:=Tryz.sizeOf0
 v0:=Tryz.zeroValue0
 t3:=Tryz.underlying3
 a3:=Tryz.isAgg3
 z3:=Tryz.sizeOf3
 v3:=Tryz.zeroValue3
 t4:=Tryz.underlying4
 a4:=Tryz.isAgg4
 z4:=Tryz.sizeOf4
 v4:=Tryz.zeroValue4
 t5:=Tryz.underlying5
 a5:=Tryz.isAgg5
 z5:=Tryz.sizeOf5
 v5:=Tryz.zeroValue5
 t9:=Tryz.underlying9
 a9:=Tryz.isAgg9
 z9:=Tryz.sizeOf9
 v9:=Tryz.zeroValue9
 t20:=Tryz.underlying20
 a20:=Tryz.isAgg20
 z20:=Tryz.sizeOf20
 v20:=Tryz.zeroValue20
 t37:=Tryz.underlying178
 a37:=Tryz.isAgg178
 z37:=Tryz.sizeOf178
 v37:=Tryz.zeroValue178
 t46:=Tryz.underlying225
 a46:=Tryz.isAgg225
 z46:=Tryz.sizeOf225
 v46:=Tryz.zeroValue225
 t51:=Tryz.underlying211
 a51:=Tryz.isAgg211
 z51:=Tryz.sizeOf211
 v51:=Tryz.zeroValue211
 t53:=Tryz.underlying210
 a53:=Tryz.isAgg210
 z53:=Tryz.sizeOf210
 v53:=Tryz.zeroValue210
 t70:=Tryz.underlying272
 a70:=Tryz.isAgg272
 z70:=Tryz.sizeOf272
 v70:=Tryz.zeroValue272
 t72:=Tryz.underlying274
 a72:=Tryz.isAgg274
 z72:=Tryz.sizeOf274
 v72:=Tryz.zeroValue274
 t75:=Tryz.underlying276
 a75:=Tryz.isAgg276
 z75:=Tryz.sizeOf276
 v75:=Tryz.zeroValue276
 t76:=Tryz.underlying277
 a76:=Tryz.isAgg277
 z76:=Tryz.sizeOf277
 v76:=Tryz.zeroValue277
 t109:=Tryz.underlying280
 a109:=Tryz.isAgg280
 z109:=Tryz.sizeOf280
 v109:=Tryz.zeroValue280
 t127:=Tryz.underlying246
 a127:=Tryz.isAgg246
 z127:=Tryz.sizeOf246
 v127:=Tryz.zeroValue246
 t146:=Tryz.underlying299
 a146:=Tryz.isAgg299
 z146:=Tryz.sizeOf299
 v146:=Tryz.zeroValue299
 t148:=Tryz.underlying301
 a148:=Tryz.isAgg301
 z148:=Tryz.sizeOf301
 v148:=Tryz.zeroValue301
 t164:=Tryz.underlying311
 a164:=Tryz.isAgg311
 z164:=Tryz.sizeOf311
 v164:=Tryz.zeroValue311 }
theorem Tryz.Builder_Extra_105:Builder.Extra Tryz.prog Tryz.lays105_ren:={
 sizeBuilder:=by kernel_rfl
 liesBuilder:=by kernel_rfl
 t5:=Tryz.underlying5
 a5:=Tryz.isAgg5
 z5:=Tryz.sizeOf5
 v5:=Tryz.zeroValue5
 infoByte:=by kernel_rfl
 cellsByte:=by kernel_rfl
 sizeByte:=by kernel_rfl
 neB5:=by decide }
open Go.RowKit Go.Lib in
open Go.RowKit Go.Lib in
open Go.RowKit Go.Lib in
open Go.RowKit Go.Lib in
open Go.RowKit Go.Lib in
theorem Tryz.strings_Repeat(s:ByteArray)(c:Nat)(w:World)(hc:c≤9223372036854775807)(hlen:s.size * c≤140737488355328):
  Calls Tryz.prog 205 #[.string s,.int .i64 c] w fun e w'=>e=.returned (.string ⟨(Lib.repeatL s.data.toList c).toArray⟩)∧Below w.heap.size w w':=Any.strings_Repeat Tryz.lays105 Tryz.Builder_Extra_105 s c w hc hlen
end Go.Proofs
