import Derived.Shelf.Strings.Trim
import Derived.Shelf.Small.Bits
import Derived.Shelf.Small.Strs
import Derived.Shelf.Small.Wraps
import Derived.Shelf.Strconv.Itoa0
import Derived.Shelf.Strconv.Itoa1
import Derived.Shelf.LaysM
import Derived.Shelf.Strconv.Itoa2
import Derived.Shelf.Strconv.Itoa3
import Derived.Shelf.Strconv.Clone
import Derived.Shelf.Strings.Search1
import Derived.Shelf.Strings.Search2
import Derived.Shelf.Strings.Search3
import Derived.Shelf.Strings.Count
import Derived.Shelf.Strings.Prefix
import Derived.Shelf.Strings.Split
import Derived.Shelf.Strings.SplitShaped
import Derived.Shelf.Strings.Runes
import Derived.Shelf.Strings.AsciiSet
import Derived.Test.YthdcogkdacnheaaGreatDoorProg
namespace Go.Proofs
open Go.Shelf
open Go.RowKit in
open Go.RowKit in
def Tryz.lays160_ren:Go.Shelf.Ren:=⟨fun|160=>107|232=>126|231=>125|227=>127|234=>129|233=>128|236=>131|235=>130|228=>145|271=>147|151=>146|197=>142|120=>159|152=>158|260=>153|137=>164|119=>165|224=>156|225=>155|217=>154|266=>162|n=>n,fun|9=>9|4=>4|3=>3|5=>5|117=>166|116=>165|0=>0|124=>169|21=>21|105=>181|46=>115|119=>192|139=>195|138=>194|n=>n,fun|3=>2|4=>3|n=>n⟩
theorem Tryz.lays160:Go.Proofs.Lays.n160 Tryz.prog Tryz.lays160_ren:={
 mixed:=by kernel_rfl
 f119:=Tryz.func165.trans (congrArg some (by kernel_rfl))
 f120:=Tryz.func159.trans (congrArg some (by kernel_rfl))
 f137:=Tryz.func164.trans (congrArg some (by kernel_rfl))
 f151:=Tryz.func146.trans (congrArg some (by kernel_rfl))
 f152:=Tryz.func158.trans (congrArg some (by kernel_rfl))
 f160:=Tryz.func107.trans (congrArg some (by kernel_rfl))
 f197:=Tryz.func142.trans (congrArg some (by kernel_rfl))
 f217:=Tryz.func154.trans (congrArg some (by kernel_rfl))
 f224:=Tryz.func156.trans (congrArg some (by kernel_rfl))
 f225:=Tryz.func155.trans (congrArg some (by kernel_rfl))
 f227:=Tryz.func127.trans (congrArg some (by kernel_rfl))
 f228:=Tryz.func145.trans (congrArg some (by kernel_rfl))
 f231:=Tryz.func125.trans (congrArg some (by kernel_rfl))
 f232:=Tryz.func126.trans (congrArg some (by kernel_rfl))
 f233:=Tryz.func128.trans (congrArg some (by kernel_rfl))
 f234:=Tryz.func129.trans (congrArg some (by kernel_rfl))
 f235:=Tryz.func130.trans (congrArg some (by kernel_rfl))
 f236:=Tryz.func131.trans (congrArg some (by kernel_rfl))
 f260:=Tryz.func153.trans (congrArg some (by kernel_rfl))
 f266:=Tryz.func162.trans (congrArg some (by kernel_rfl))
 f271:=Tryz.func147.trans (congrArg some (by kernel_rfl))
 t0:=Tryz.underlying0
 a0:=Tryz.isAgg0
 z0:=Tryz.sizeOf0
 v0:=Tryz.zeroValue0
 t3:=Tryz.underlying3
 a3:=Tryz.isAgg3
 z3:=Tryz.sizeOf3
 v3:=Tryz.zeroValue3
 t4:=Tryz.underlying4
 a4:=Tryz.isAgg4
 z4:=Tryz.sizeOf4
 v4:=Tryz.zeroValue4
 t5:=Tryz.underlying5
 a5:=Tryz.isAgg5
 z5:=Tryz.sizeOf5
 v5:=Tryz.zeroValue5
 t9:=Tryz.underlying9
 a9:=Tryz.isAgg9
 z9:=Tryz.sizeOf9
 v9:=Tryz.zeroValue9
 t21:=Tryz.underlying21
 a21:=Tryz.isAgg21
 z21:=Tryz.sizeOf21
 v21:=Tryz.zeroValue21
 t46:=Tryz.underlying115
 a46:=Tryz.isAgg115
 z46:=Tryz.sizeOf115
 v46:=Tryz.zeroValue115
 t105:=Tryz.underlying181
 a105:=Tryz.isAgg181
 z105:=Tryz.sizeOf181
 v105:=Tryz.zeroValue181
 t116:=Tryz.underlying165
 a116:=Tryz.isAgg165
 z116:=Tryz.sizeOf165
 t117:=Tryz.underlying166
 a117:=Tryz.isAgg166
 z117:=Tryz.sizeOf166
 v117:=Tryz.zeroValue166
 t119:=Tryz.underlying192
 a119:=Tryz.isAgg192
 z119:=Tryz.sizeOf192
 t124:=Tryz.underlying169
 a124:=Tryz.isAgg169
 z124:=Tryz.sizeOf169
 v124:=Tryz.zeroValue169
 t138:=Tryz.underlying194
 a138:=Tryz.isAgg194
 z138:=Tryz.sizeOf194
 v138:=Tryz.zeroValue194
 t139:=Tryz.underlying195
 a139:=Tryz.isAgg195
 z139:=Tryz.sizeOf195
 v139:=Tryz.zeroValue195
 g3:=by kernel_rfl
 g4:=by kernel_rfl }
open Go.RowKit in
open Go.RowKit in
def Tryz.lays106_ren:Go.Shelf.Ren:=⟨fun|106=>78|213=>99|265=>119|n=>n,fun|9=>9|3=>3|n=>n,fun|n=>n⟩
theorem Tryz.lays106:Go.Proofs.Lays.n106 Tryz.prog Tryz.lays106_ren:={
 mixed:=by kernel_rfl
 f106:=Tryz.func78.trans (congrArg some (by kernel_rfl))
 f213:=Tryz.func99.trans (congrArg some (by kernel_rfl))
 f265:=Tryz.func119.trans (congrArg some (by kernel_rfl))
 t3:=Tryz.underlying3
 a3:=Tryz.isAgg3
 z3:=Tryz.sizeOf3
 v3:=Tryz.zeroValue3
 t9:=Tryz.underlying9
 a9:=Tryz.isAgg9
 z9:=Tryz.sizeOf9
 v9:=Tryz.zeroValue9 }
open Go.RowKit in
theorem Tryz.strings_Compare(a b:ByteArray)(w:World):
  Calls Tryz.prog 78 #[.string a,.string b] w fun e w'=>e=.returned (.int .i64 (Lib.compareBytes a.data.toList b.data.toList))∧w'=w:=Any.strings_Compare Tryz.lays106 a b w
open Go.RowKit in
open Go.RowKit in
def Tryz.lays103_ren:Go.Shelf.Ren:=⟨fun|103=>106|210=>124|206=>104|n=>n,fun|9=>9|4=>4|24=>89|3=>3|n=>n,fun|n=>n⟩
theorem Tryz.lays103:Go.Proofs.Lays.n103 Tryz.prog Tryz.lays103_ren:={
 mixed:=by kernel_rfl
 f103:=Tryz.func106.trans (congrArg some (by kernel_rfl))
 f206:=Tryz.func104.trans (congrArg some (by kernel_rfl))
 f210:=Tryz.func124.trans (congrArg some (by kernel_rfl))
 t3:=Tryz.underlying3
 a3:=Tryz.isAgg3
 z3:=Tryz.sizeOf3
 v3:=Tryz.zeroValue3
 t4:=Tryz.underlying4
 a4:=Tryz.isAgg4
 z4:=Tryz.sizeOf4
 v4:=Tryz.zeroValue4
 t9:=Tryz.underlying9
 a9:=Tryz.isAgg9
 z9:=Tryz.sizeOf9
 v9:=Tryz.zeroValue9
 t24:=Tryz.underlying89
 a24:=Tryz.isAgg89
 z24:=Tryz.sizeOf89
 v24:=Tryz.zeroValue89 }
open Go.RowKit in
theorem Tryz.strings_CutPrefix(s p:ByteArray)(w:World):
  Calls Tryz.prog 106 #[.string s,.string p] w fun e w'=>e=.returned (.tuple #[.string ⟨(Lib.trimPrefix s.data.toList p.data.toList).toArray⟩,.bool (Lib.hasPrefix s.data.toList p.data.toList)])∧w'=w:=Any.strings_CutPrefix Tryz.lays103 s p w
open Go.Lib in
open Go.Lib in
open Go.Lib in
open Go.Lib in
open Go.RowKit Go.Sort Go.Lib in
open Go.RowKit Go.Sort Go.Lib in
open Go.RowKit Go.Sort Go.Lib in
open Go.RowKit Go.Sort Go.Lib in
open Go.RowKit Go.Sort Go.Lib in
def Tryz.laysM171_ren:Go.Shelf.Ren:=⟨fun|171=>69|243=>98|246=>118|283=>137|284=>138|285=>139|286=>140|129=>117|317=>149|318=>150|319=>151|320=>152|337=>160|338=>161|n=>n,fun|3=>3|9=>9|2=>2|4=>4|171=>176|0=>0|53=>114|37=>113|5=>5|173=>178|212=>189|51=>158|20=>20|213=>190|46=>115|232=>199|233=>200|n=>n,fun|17=>1|18=>4|19=>5|n=>n⟩
theorem Tryz.laysM171:Go.Proofs.LaysM.n171 Tryz.prog Tryz.laysM171_ren:={
 mixed:=by kernel_rfl
 f129:=Tryz.func117.trans (congrArg some (by kernel_rfl))
 f171:=Tryz.func69.trans (congrArg some (by kernel_rfl))
 f243:=Tryz.func98.trans (congrArg some (by kernel_rfl))
 f246:=Tryz.func118.trans (congrArg some (by kernel_rfl))
 f283:=Tryz.func137.trans (congrArg some (by kernel_rfl))
 f284:=Tryz.func138.trans (congrArg some (by kernel_rfl))
 f285:=Tryz.func139.trans (congrArg some (by kernel_rfl))
 f286:=Tryz.func140.trans (congrArg some (by kernel_rfl))
 f317:=Tryz.func149.trans (congrArg some (by kernel_rfl))
 f318:=Tryz.func150.trans (congrArg some (by kernel_rfl))
 f319:=Tryz.func151.trans (congrArg some (by kernel_rfl))
 f320:=Tryz.func152.trans (congrArg some (by kernel_rfl))
 f337:=Tryz.func160.trans (congrArg some (by kernel_rfl))
 f338:=Tryz.func161.trans (congrArg some (by kernel_rfl))
 t0:=Tryz.underlying0
 a0:=Tryz.isAgg0
 z0:=Tryz.sizeOf0
 v0:=Tryz.zeroValue0
 t2:=Tryz.underlying2
 a2:=Tryz.isAgg2
 z2:=Tryz.sizeOf2
 v2:=Tryz.zeroValue2
 t3:=Tryz.underlying3
 a3:=Tryz.isAgg3
 z3:=Tryz.sizeOf3
 v3:=Tryz.zeroValue3
 t4:=Tryz.underlying4
 a4:=Tryz.isAgg4
 z4:=Tryz.sizeOf4
 v4:=Tryz.zeroValue4
 t5:=Tryz.underlying5
 a5:=Tryz.isAgg5
 z5:=Tryz.sizeOf5
 v5:=Tryz.zeroValue5
 t9:=Tryz.underlying9
 a9:=Tryz.isAgg9
 z9:=Tryz.sizeOf9
 v9:=Tryz.zeroValue9
 t20:=Tryz.underlying20
 a20:=Tryz.isAgg20
 z20:=Tryz.sizeOf20
 v20:=Tryz.zeroValue20
 t37:=Tryz.underlying113
 a37:=Tryz.isAgg113
 z37:=Tryz.sizeOf113
 v37:=Tryz.zeroValue113
 t46:=Tryz.underlying115
 a46:=Tryz.isAgg115
 z46:=Tryz.sizeOf115
 v46:=Tryz.zeroValue115
 t51:=Tryz.underlying158
 a51:=Tryz.isAgg158
 z51:=Tryz.sizeOf158
 v51:=Tryz.zeroValue158
 t53:=Tryz.underlying114
 a53:=Tryz.isAgg114
 z53:=Tryz.sizeOf114
 v53:=Tryz.zeroValue114
 t171:=Tryz.underlying176
 a171:=Tryz.isAgg176
 z171:=Tryz.sizeOf176
 v171:=Tryz.zeroValue176
 t173:=Tryz.underlying178
 a173:=Tryz.isAgg178
 z173:=Tryz.sizeOf178
 v173:=Tryz.zeroValue178
 t212:=Tryz.underlying189
 a212:=Tryz.isAgg189
 z212:=Tryz.sizeOf189
 v212:=Tryz.zeroValue189
 t213:=Tryz.underlying190
 a213:=Tryz.isAgg190
 z213:=Tryz.sizeOf190
 t232:=Tryz.underlying199
 a232:=Tryz.isAgg199
 z232:=Tryz.sizeOf199
 v232:=Tryz.zeroValue199
 t233:=Tryz.underlying200
 a233:=Tryz.isAgg200
 z233:=Tryz.sizeOf200
 v233:=Tryz.zeroValue200
 g17:=by kernel_rfl
 g18:=by kernel_rfl
 g19:=by kernel_rfl
 i0:=by kernel_rfl
 i2:=by kernel_rfl
 i3:=by kernel_rfl
 i4:=by kernel_rfl
 i5:=by kernel_rfl
 i9:=by kernel_rfl
 i20:=by kernel_rfl
 i37:=by kernel_rfl
 i46:=by kernel_rfl
 i51:=by kernel_rfl
 i53:=by kernel_rfl
 i171:=by kernel_rfl
 i173:=by kernel_rfl
 i212:=by kernel_rfl
 i232:=by kernel_rfl
 i233:=by kernel_rfl
 m17:=by kernel_rfl
 m18:=by kernel_rfl
 m19:=by kernel_rfl }
open Go.RowKit Go.Sort Go.Lib in
theorem Tryz.strconv_Itoa(n:Int)(h0 : -9223372036854775808≤n)(h1:n≤9223372036854775807)(w:World)(htab:Lib.TabIs Tryz.prog w "internal/strconv.uint64pow10" .u64 Lib.pow10Tab):
  Calls Tryz.prog 69 #[.int .i64 n] w fun e w'=>e=.returned (.string ⟨(Lib.itoa n).toArray⟩)∧∃ k os,w'=grow (w.drewN k) os:=Any.strconv_Itoa Tryz.laysM171 n h0 h1 w htab
open Go.RowKit Go.Sort Go.Lib in
def Tryz.laysM316_ren:Go.Shelf.Ren:=⟨fun|316=>74|n=>n,fun|9=>9|3=>3|4=>4|37=>113|0=>0|127=>140|5=>5|n=>n,fun|n=>n⟩
theorem Tryz.laysM316:Go.Proofs.LaysM.n316 Tryz.prog Tryz.laysM316_ren:={
 mixed:=by kernel_rfl
 f316:=Tryz.func74.trans (congrArg some (by kernel_rfl))
 t0:=Tryz.underlying0
 a0:=Tryz.isAgg0
 z0:=Tryz.sizeOf0
 v0:=Tryz.zeroValue0
 t3:=Tryz.underlying3
 a3:=Tryz.isAgg3
 z3:=Tryz.sizeOf3
 v3:=Tryz.zeroValue3
 t4:=Tryz.underlying4
 a4:=Tryz.isAgg4
 z4:=Tryz.sizeOf4
 v4:=Tryz.zeroValue4
 t9:=Tryz.underlying9
 a9:=Tryz.isAgg9
 z9:=Tryz.sizeOf9
 v9:=Tryz.zeroValue9
 t37:=Tryz.underlying113
 a37:=Tryz.isAgg113
 z37:=Tryz.sizeOf113
 v37:=Tryz.zeroValue113
 t127:=Tryz.underlying140
 a127:=Tryz.isAgg140
 z127:=Tryz.sizeOf140
 v127:=Tryz.zeroValue140
 t5:=Tryz.underlying5
 a5:=Tryz.isAgg5
 z5:=Tryz.sizeOf5
 v5:=Tryz.zeroValue5
 i0:=by kernel_rfl
 i3:=by kernel_rfl
 i4:=by kernel_rfl
 i5:=by kernel_rfl
 i9:=by kernel_rfl
 i37:=by kernel_rfl
 i127:=by kernel_rfl }
open Go.RowKit in
theorem Tryz.stringslite_Clone(s:ByteArray)(w:World)(hlim:s.size≤281474976710656):
  Calls Tryz.prog 74 #[.string s] w fun e w'=>e=.returned (.string s)∧Below w.heap.size w w':=Any.stringslite_Clone Tryz.laysM316 s w hlim
open Go.RowKit Go.Lib in
open Go.RowKit Go.Lib in
open Go.RowKit Go.Lib in
open Go.RowKit Go.Lib in
open Go.RowKit Go.Lib in
open Go.RowKit Go.Lib in
open Go.RowKit Go.Lib in
open Go.RowKit Go.Lib in
open Go.RowKit Go.Lib in
open Go.RowKit Go.Lib in
def Tryz.lays99_ren:Go.Shelf.Ren:=⟨fun|99=>90|206=>104|n=>n,fun|9=>9|4=>4|3=>3|n=>n,fun|n=>n⟩
theorem Tryz.lays99:Go.Proofs.Lays.n99 Tryz.prog Tryz.lays99_ren:={
 mixed:=by kernel_rfl
 f99:=Tryz.func90.trans (congrArg some (by kernel_rfl))
 f206:=Tryz.func104.trans (congrArg some (by kernel_rfl))
 t3:=Tryz.underlying3
 a3:=Tryz.isAgg3
 z3:=Tryz.sizeOf3
 v3:=Tryz.zeroValue3
 t4:=Tryz.underlying4
 a4:=Tryz.isAgg4
 z4:=Tryz.sizeOf4
 v4:=Tryz.zeroValue4
 t9:=Tryz.underlying9
 a9:=Tryz.isAgg9
 z9:=Tryz.sizeOf9
 v9:=Tryz.zeroValue9 }
open Go.RowKit Go.Lib in
theorem Tryz.strings_HasPrefix(s p:ByteArray)(w:World):
  Calls Tryz.prog 90 #[.string s,.string p] w fun e w'=>e=.returned (.bool (Lib.hasPrefix s.data.toList p.data.toList))∧w'=w:=Any.strings_HasPrefix Tryz.lays99 s p w
open Go.RowKit Go.Lib in
def Tryz.lays146_ren:Go.Shelf.Ren:=⟨fun|146=>91|221=>105|268=>121|138=>122|143=>123|195=>141|197=>142|218=>143|219=>144|260=>153|217=>154|225=>155|224=>156|267=>157|266=>162|314=>163|n=>n,fun|9=>9|31=>128|3=>3|4=>4|0=>0|105=>181|21=>21|5=>5|46=>115|119=>192|139=>195|138=>194|146=>196|51=>158|n=>n,fun|1=>0|3=>2|4=>3|n=>n⟩
theorem Tryz.lays146:Go.Proofs.Lays.n146 Tryz.prog Tryz.lays146_ren:={
 mixed:=by kernel_rfl
 f138:=Tryz.func122.trans (congrArg some (by kernel_rfl))
 f143:=Tryz.func123.trans (congrArg some (by kernel_rfl))
 f146:=Tryz.func91.trans (congrArg some (by kernel_rfl))
 f195:=Tryz.func141.trans (congrArg some (by kernel_rfl))
 f197:=Tryz.func142.trans (congrArg some (by kernel_rfl))
 f217:=Tryz.func154.trans (congrArg some (by kernel_rfl))
 f218:=Tryz.func143.trans (congrArg some (by kernel_rfl))
 f219:=Tryz.func144.trans (congrArg some (by kernel_rfl))
 f221:=Tryz.func105.trans (congrArg some (by kernel_rfl))
 f224:=Tryz.func156.trans (congrArg some (by kernel_rfl))
 f225:=Tryz.func155.trans (congrArg some (by kernel_rfl))
 f260:=Tryz.func153.trans (congrArg some (by kernel_rfl))
 f266:=Tryz.func162.trans (congrArg some (by kernel_rfl))
 f267:=Tryz.func157.trans (congrArg some (by kernel_rfl))
 f268:=Tryz.func121.trans (congrArg some (by kernel_rfl))
 f314:=Tryz.func163.trans (congrArg some (by kernel_rfl))
 t0:=Tryz.underlying0
 a0:=Tryz.isAgg0
 z0:=Tryz.sizeOf0
 v0:=Tryz.zeroValue0
 t3:=Tryz.underlying3
 a3:=Tryz.isAgg3
 z3:=Tryz.sizeOf3
 v3:=Tryz.zeroValue3
 t4:=Tryz.underlying4
 a4:=Tryz.isAgg4
 z4:=Tryz.sizeOf4
 v4:=Tryz.zeroValue4
 t5:=Tryz.underlying5
 a5:=Tryz.isAgg5
 z5:=Tryz.sizeOf5
 v5:=Tryz.zeroValue5
 t9:=Tryz.underlying9
 a9:=Tryz.isAgg9
 z9:=Tryz.sizeOf9
 v9:=Tryz.zeroValue9
 t21:=Tryz.underlying21
 a21:=Tryz.isAgg21
 z21:=Tryz.sizeOf21
 v21:=Tryz.zeroValue21
 t31:=Tryz.underlying128
 a31:=Tryz.isAgg128
 z31:=Tryz.sizeOf128
 v31:=Tryz.zeroValue128
 t46:=Tryz.underlying115
 a46:=Tryz.isAgg115
 z46:=Tryz.sizeOf115
 v46:=Tryz.zeroValue115
 t51:=Tryz.underlying158
 a51:=Tryz.isAgg158
 z51:=Tryz.sizeOf158
 v51:=Tryz.zeroValue158
 t105:=Tryz.underlying181
 a105:=Tryz.isAgg181
 z105:=Tryz.sizeOf181
 v105:=Tryz.zeroValue181
 t119:=Tryz.underlying192
 a119:=Tryz.isAgg192
 z119:=Tryz.sizeOf192
 t138:=Tryz.underlying194
 a138:=Tryz.isAgg194
 z138:=Tryz.sizeOf194
 v138:=Tryz.zeroValue194
 t139:=Tryz.underlying195
 a139:=Tryz.isAgg195
 z139:=Tryz.sizeOf195
 v139:=Tryz.zeroValue195
 t146:=Tryz.underlying196
 a146:=Tryz.isAgg196
 z146:=Tryz.sizeOf196
 v146:=Tryz.zeroValue196
 g1:=by kernel_rfl
 g3:=by kernel_rfl
 g4:=by kernel_rfl }
open Go.RowKit Go.Lib in
theorem Tryz.strings_Split(s sep:ByteArray)(m:Int)(w:World)(hs:s.size<4294967281)(hm:w.cell? ⟨0,0,none⟩=some (.int .i64 m))(h1:1≤sep.size):
  Calls Tryz.prog 91 #[.string s,.string sep] w fun e w'=>
   e=.returned (.slice (some ⟨w.heap.size,0,none⟩) (Lib.countB s sep+1) (Lib.countB s sep+1))∧w'=w.alloc (.cells ((Lib.splitB sep 0 (Lib.countB s sep) s).map Value.string).toArray 9):=Any.strings_Split Tryz.lays146 (by kernel_rfl) s sep m w hs hm h1
def Tryz.laysM146_ren:Go.Shelf.Ren:=⟨fun|146=>91|221=>105|268=>121|138=>122|143=>123|195=>141|197=>142|218=>143|219=>144|260=>153|217=>154|225=>155|224=>156|267=>157|266=>162|314=>163|n=>n,fun|9=>9|31=>128|3=>3|4=>4|0=>0|105=>181|21=>21|5=>5|46=>115|119=>192|139=>195|138=>194|146=>196|51=>158|n=>n,fun|1=>0|3=>2|4=>3|n=>n⟩
theorem Tryz.laysM146:Go.Proofs.LaysM.n146 Tryz.prog Tryz.laysM146_ren:={
 mixed:=by kernel_rfl
 f138:=Tryz.func122.trans (congrArg some (by kernel_rfl))
 f143:=Tryz.func123.trans (congrArg some (by kernel_rfl))
 f146:=Tryz.func91.trans (congrArg some (by kernel_rfl))
 f195:=Tryz.func141.trans (congrArg some (by kernel_rfl))
 f197:=Tryz.func142.trans (congrArg some (by kernel_rfl))
 f217:=Tryz.func154.trans (congrArg some (by kernel_rfl))
 f218:=Tryz.func143.trans (congrArg some (by kernel_rfl))
 f219:=Tryz.func144.trans (congrArg some (by kernel_rfl))
 f221:=Tryz.func105.trans (congrArg some (by kernel_rfl))
 f224:=Tryz.func156.trans (congrArg some (by kernel_rfl))
 f225:=Tryz.func155.trans (congrArg some (by kernel_rfl))
 f260:=Tryz.func153.trans (congrArg some (by kernel_rfl))
 f266:=Tryz.func162.trans (congrArg some (by kernel_rfl))
 f267:=Tryz.func157.trans (congrArg some (by kernel_rfl))
 f268:=Tryz.func121.trans (congrArg some (by kernel_rfl))
 f314:=Tryz.func163.trans (congrArg some (by kernel_rfl))
 t0:=Tryz.underlying0
 a0:=Tryz.isAgg0
 z0:=Tryz.sizeOf0
 v0:=Tryz.zeroValue0
 t3:=Tryz.underlying3
 a3:=Tryz.isAgg3
 z3:=Tryz.sizeOf3
 v3:=Tryz.zeroValue3
 t4:=Tryz.underlying4
 a4:=Tryz.isAgg4
 z4:=Tryz.sizeOf4
 v4:=Tryz.zeroValue4
 t5:=Tryz.underlying5
 a5:=Tryz.isAgg5
 z5:=Tryz.sizeOf5
 v5:=Tryz.zeroValue5
 t9:=Tryz.underlying9
 a9:=Tryz.isAgg9
 z9:=Tryz.sizeOf9
 v9:=Tryz.zeroValue9
 t21:=Tryz.underlying21
 a21:=Tryz.isAgg21
 z21:=Tryz.sizeOf21
 v21:=Tryz.zeroValue21
 t31:=Tryz.underlying128
 a31:=Tryz.isAgg128
 z31:=Tryz.sizeOf128
 v31:=Tryz.zeroValue128
 t46:=Tryz.underlying115
 a46:=Tryz.isAgg115
 z46:=Tryz.sizeOf115
 v46:=Tryz.zeroValue115
 t51:=Tryz.underlying158
 a51:=Tryz.isAgg158
 z51:=Tryz.sizeOf158
 v51:=Tryz.zeroValue158
 t105:=Tryz.underlying181
 a105:=Tryz.isAgg181
 z105:=Tryz.sizeOf181
 v105:=Tryz.zeroValue181
 t119:=Tryz.underlying192
 a119:=Tryz.isAgg192
 z119:=Tryz.sizeOf192
 t138:=Tryz.underlying194
 a138:=Tryz.isAgg194
 z138:=Tryz.sizeOf194
 v138:=Tryz.zeroValue194
 t139:=Tryz.underlying195
 a139:=Tryz.isAgg195
 z139:=Tryz.sizeOf195
 v139:=Tryz.zeroValue195
 t146:=Tryz.underlying196
 a146:=Tryz.isAgg196
 z146:=Tryz.sizeOf196
 v146:=Tryz.zeroValue196
 g1:=by kernel_rfl
 g3:=by kernel_rfl
 g4:=by kernel_rfl
 i0:=by kernel_rfl
 i3:=by kernel_rfl
 i4:=by kernel_rfl
 i5:=by kernel_rfl
 i9:=by kernel_rfl
 i21:=by kernel_rfl
 i31:=by kernel_rfl
 i46:=by kernel_rfl
 i51:=by kernel_rfl
 i105:=by kernel_rfl
 i138:=by kernel_rfl
 i139:=by kernel_rfl
 i146:=by kernel_rfl
 m1:=by kernel_rfl
 s1_3:=fun w h=>Go.Proofs.cell_of_shapedOpen_int (zero := #[.int .i64 0]) (t:=3) h (of_decide_eq_true (by kernel_rfl)) (by kernel_rfl) rfl (by kernel_rfl) (by kernel_rfl) Tryz.underlying3
 m3:=by kernel_rfl
 m4:=by kernel_rfl }
end Go.Proofs
