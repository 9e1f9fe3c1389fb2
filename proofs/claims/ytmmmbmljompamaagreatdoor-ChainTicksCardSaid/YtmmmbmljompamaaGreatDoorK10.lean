import Derived.Shelf.Strings.Builder1
import Derived.Shelf.Strings.Builder2
import Derived.Shelf.Strings.OnBuilder
import Derived.Shelf.Small.Bits
import Derived.Shelf.Small.Strs
import Derived.Shelf.Strings.BuilderF
import Derived.Shelf.Strconv.Itoa0
import Derived.Shelf.Strconv.Itoa1
import Derived.Shelf.LaysM
import Derived.Shelf.Strconv.Itoa2
import Derived.Shelf.Strconv.Itoa3
import Derived.Shelf.Strconv.Clone
import Derived.Shelf.Strings.Prefix
import Derived.Shelf.Bits.Mul64
import Derived.Shelf.Strings.Repeat
import Derived.Ground.SlgnProg
import Derived.Shelf.SlicesE.Clone
import Derived.Test.YtmmmbmljompamaaGreatDoorProg
namespace Go.Proofs
open Go.Shelf
open Go.RowKit in
open Go.RowKit in
open Go.RowKit in
open Go.RowKit in
open Go.RowKit in
open Go.RowKit in
def Tryz.lays156_ren : Go.Shelf.Ren := ⟨fun | 156 => 71 | 165 => 89 | 166 => 90 | 169 => 91 | 240 => 101 | 241 => 102 | 276 => 116 | 277 => 117 | n => n, fun | 31 => 44 | 9 => 9 | 3 => 3 | 4 => 4 | 0 => 0 | 20 => 20 | 72 => 158 | 76 => 161 | 70 => 156 | 37 => 105 | 75 => 160 | 127 => 169 | 164 => 184 | 5 => 5 | 80 => 46 | n => n, fun | n => n⟩
theorem Tryz.lays156 : Go.Proofs.Lays.n156 Tryz.prog Tryz.lays156_ren := {
  mixed := by kernel_rfl
  f156 := Tryz.func71.trans (congrArg some (by kernel_rfl))
  f165 := Tryz.func89.trans (congrArg some (by kernel_rfl))
  f166 := Tryz.func90.trans (congrArg some (by kernel_rfl))
  f169 := Tryz.func91.trans (congrArg some (by kernel_rfl))
  f240 := Tryz.func101.trans (congrArg some (by kernel_rfl))
  f241 := Tryz.func102.trans (congrArg some (by kernel_rfl))
  f276 := Tryz.func116.trans (congrArg some (by kernel_rfl))
  f277 := Tryz.func117.trans (congrArg some (by kernel_rfl))
  t0 := Tryz.underlying0
  a0 := Tryz.isAgg0
  z0 := Tryz.sizeOf0
  v0 := Tryz.zeroValue0
  t3 := Tryz.underlying3
  a3 := Tryz.isAgg3
  z3 := Tryz.sizeOf3
  v3 := Tryz.zeroValue3
  t4 := Tryz.underlying4
  a4 := Tryz.isAgg4
  z4 := Tryz.sizeOf4
  v4 := Tryz.zeroValue4
  t9 := Tryz.underlying9
  a9 := Tryz.isAgg9
  z9 := Tryz.sizeOf9
  v9 := Tryz.zeroValue9
  t20 := Tryz.underlying20
  a20 := Tryz.isAgg20
  z20 := Tryz.sizeOf20
  v20 := Tryz.zeroValue20
  t31 := Tryz.underlying44
  a31 := Tryz.isAgg44
  z31 := Tryz.sizeOf44
  v31 := Tryz.zeroValue44
  t37 := Tryz.underlying105
  a37 := Tryz.isAgg105
  z37 := Tryz.sizeOf105
  v37 := Tryz.zeroValue105
  t70 := Tryz.underlying156
  a70 := Tryz.isAgg156
  z70 := Tryz.sizeOf156
  v70 := Tryz.zeroValue156
  t72 := Tryz.underlying158
  a72 := Tryz.isAgg158
  z72 := Tryz.sizeOf158
  v72 := Tryz.zeroValue158
  t75 := Tryz.underlying160
  a75 := Tryz.isAgg160
  z75 := Tryz.sizeOf160
  v75 := Tryz.zeroValue160
  t76 := Tryz.underlying161
  a76 := Tryz.isAgg161
  z76 := Tryz.sizeOf161
  v76 := Tryz.zeroValue161
  t127 := Tryz.underlying169
  a127 := Tryz.isAgg169
  z127 := Tryz.sizeOf169
  v127 := Tryz.zeroValue169
  t164 := Tryz.underlying184
  a164 := Tryz.isAgg184
  z164 := Tryz.sizeOf184
  v164 := Tryz.zeroValue184 }
theorem Tryz.Builder_Extra_156 : Builder.Extra Tryz.prog Tryz.lays156_ren := {
  sizeBuilder := by kernel_rfl
  liesBuilder := by kernel_rfl
  t5 := Tryz.underlying5
  a5 := Tryz.isAgg5
  z5 := Tryz.sizeOf5
  v5 := Tryz.zeroValue5
  infoByte := by kernel_rfl
  cellsByte := by kernel_rfl
  sizeByte := by kernel_rfl
  neB5 := by decide }
open Go.RowKit in
theorem Tryz.strings_Join_none (a : Option Addr) (c : Nat) (sep : ByteArray) (w : World) :
    Calls Tryz.prog 71 #[.slice a 0 c, .string sep] w fun e w' => e = .returned (.string ⟨#[]⟩) ∧ w' = w := Any.strings_Join_none Tryz.lays156 Tryz.Builder_Extra_156 a c sep w
open Go.RowKit in
theorem Tryz.strings_Join (bk o c : Nat) (xs : List ByteArray) (sep : ByteArray) (w : World) (hcells : ∀ (j : Nat) x, xs[j]? = some x → w.cell? ⟨bk, o + j, none⟩ = some (.string x)) (hbk : bk < w.heap.size) (hN : xs.length ≤ 140737488355328) (hcap : xs.length ≤ c) (hlen : (Lib.join (xs.map (·.data.toList)) sep.data.toList).length ≤ 140737488355328) :
    Calls Tryz.prog 71 #[.slice (some ⟨bk, o, none⟩) xs.length c, .string sep] w fun e w' => e = .returned (.string ⟨(Lib.join (xs.map (·.data.toList)) sep.data.toList).toArray⟩) ∧ Below w.heap.size w w' := Any.strings_Join Tryz.lays156 Tryz.Builder_Extra_156 bk o c xs sep w hcells hbk hN hcap hlen
open Go.RowKit in
open Go.RowKit in
open Go.RowKit in
open Go.RowKit in
open Go.RowKit in
open Go.RowKit in
open Go.Lib in
open Go.Lib in
open Go.Lib in
open Go.Lib in
open Go.RowKit Go.Sort Go.Lib in
open Go.RowKit Go.Sort Go.Lib in
open Go.RowKit Go.Sort Go.Lib in
open Go.RowKit Go.Sort Go.Lib in
open Go.RowKit Go.Sort Go.Lib in
open Go.RowKit Go.Sort Go.Lib in
open Go.RowKit Go.Sort Go.Lib in
open Go.RowKit in
open Go.RowKit Go.Lib in
open Go.RowKit Go.Lib in
open Go.RowKit Go.Lib in
def Tryz.lays105_ren : Go.Shelf.Ren := ⟨fun | 105 => 72 | 212 => 92 | 99 => 93 | 165 => 89 | 166 => 90 | 170 => 94 | 169 => 91 | 263 => 103 | 264 => 104 | 206 => 105 | 240 => 101 | 241 => 102 | 276 => 116 | 277 => 117 | n => n, fun | 9 => 9 | 3 => 3 | 4 => 4 | 20 => 20 | 0 => 0 | 46 => 131 | 109 => 163 | 5 => 5 | 72 => 158 | 76 => 161 | 51 => 141 | 146 => 172 | 53 => 104 | 148 => 174 | 70 => 156 | 37 => 105 | 75 => 160 | 127 => 169 | 164 => 184 | 80 => 46 | n => n, fun | n => n⟩
theorem Tryz.lays105 : Go.Proofs.Lays.n105 Tryz.prog Tryz.lays105_ren := {
  mixed := by kernel_rfl
  f99 := Tryz.func93.trans (congrArg some (by kernel_rfl))
  f105 := Tryz.func72.trans (congrArg some (by kernel_rfl))
  f165 := Tryz.func89.trans (congrArg some (by kernel_rfl))
  f166 := Tryz.func90.trans (congrArg some (by kernel_rfl))
  f169 := Tryz.func91.trans (congrArg some (by kernel_rfl))
  f170 := Tryz.func94.trans (congrArg some (by kernel_rfl))
  f206 := Tryz.func105.trans (congrArg some (by kernel_rfl))
  f212 := Tryz.func92.trans (congrArg some (by kernel_rfl))
  f240 := Tryz.func101.trans (congrArg some (by kernel_rfl))
  f241 := Tryz.func102.trans (congrArg some (by kernel_rfl))
  f263 := Tryz.func103.trans (congrArg some (by kernel_rfl))
  f264 := Tryz.func104.trans (congrArg some (by kernel_rfl))
  f276 := Tryz.func116.trans (congrArg some (by kernel_rfl))
  f277 := Tryz.func117.trans (congrArg some (by kernel_rfl))
  t0 := Tryz.underlying0
  a0 := Tryz.isAgg0
  z0 := Tryz.sizeOf0
  v0 := Tryz.zeroValue0
  t3 := Tryz.underlying3
  a3 := Tryz.isAgg3
  z3 := Tryz.sizeOf3
  v3 := Tryz.zeroValue3
  t4 := Tryz.underlying4
  a4 := Tryz.isAgg4
  z4 := Tryz.sizeOf4
  v4 := Tryz.zeroValue4
  t5 := Tryz.underlying5
  a5 := Tryz.isAgg5
  z5 := Tryz.sizeOf5
  v5 := Tryz.zeroValue5
  t9 := Tryz.underlying9
  a9 := Tryz.isAgg9
  z9 := Tryz.sizeOf9
  v9 := Tryz.zeroValue9
  t20 := Tryz.underlying20
  a20 := Tryz.isAgg20
  z20 := Tryz.sizeOf20
  v20 := Tryz.zeroValue20
  t37 := Tryz.underlying105
  a37 := Tryz.isAgg105
  z37 := Tryz.sizeOf105
  v37 := Tryz.zeroValue105
  t46 := Tryz.underlying131
  a46 := Tryz.isAgg131
  z46 := Tryz.sizeOf131
  v46 := Tryz.zeroValue131
  t51 := Tryz.underlying141
  a51 := Tryz.isAgg141
  z51 := Tryz.sizeOf141
  v51 := Tryz.zeroValue141
  t53 := Tryz.underlying104
  a53 := Tryz.isAgg104
  z53 := Tryz.sizeOf104
  v53 := Tryz.zeroValue104
  t70 := Tryz.underlying156
  a70 := Tryz.isAgg156
  z70 := Tryz.sizeOf156
  v70 := Tryz.zeroValue156
  t72 := Tryz.underlying158
  a72 := Tryz.isAgg158
  z72 := Tryz.sizeOf158
  v72 := Tryz.zeroValue158
  t75 := Tryz.underlying160
  a75 := Tryz.isAgg160
  z75 := Tryz.sizeOf160
  v75 := Tryz.zeroValue160
  t76 := Tryz.underlying161
  a76 := Tryz.isAgg161
  z76 := Tryz.sizeOf161
  v76 := Tryz.zeroValue161
  t109 := Tryz.underlying163
  a109 := Tryz.isAgg163
  z109 := Tryz.sizeOf163
  v109 := Tryz.zeroValue163
  t127 := Tryz.underlying169
  a127 := Tryz.isAgg169
  z127 := Tryz.sizeOf169
  v127 := Tryz.zeroValue169
  t146 := Tryz.underlying172
  a146 := Tryz.isAgg172
  z146 := Tryz.sizeOf172
  v146 := Tryz.zeroValue172
  t148 := Tryz.underlying174
  a148 := Tryz.isAgg174
  z148 := Tryz.sizeOf174
  v148 := Tryz.zeroValue174
  t164 := Tryz.underlying184
  a164 := Tryz.isAgg184
  z164 := Tryz.sizeOf184
  v164 := Tryz.zeroValue184 }
theorem Tryz.Builder_Extra_105 : Builder.Extra Tryz.prog Tryz.lays105_ren := {
  sizeBuilder := by kernel_rfl
  liesBuilder := by kernel_rfl
  t5 := Tryz.underlying5
  a5 := Tryz.isAgg5
  z5 := Tryz.sizeOf5
  v5 := Tryz.zeroValue5
  infoByte := by kernel_rfl
  cellsByte := by kernel_rfl
  sizeByte := by kernel_rfl
  neB5 := by decide }
open Go.RowKit Go.Lib in
open Go.RowKit Go.Lib in
open Go.RowKit Go.Lib in
open Go.RowKit Go.Lib in
open Go.RowKit Go.Lib in
theorem Tryz.strings_Repeat (s : ByteArray) (c : Nat) (w : World) (hc : c ≤ 9223372036854775807) (hlen : s.size * c ≤ 140737488355328) :
    Calls Tryz.prog 72 #[.string s, .int .i64 c] w fun e w' => e = .returned (.string ⟨(Lib.repeatL s.data.toList c).toArray⟩) ∧ Below w.heap.size w w' := Any.strings_Repeat Tryz.lays105 Tryz.Builder_Extra_105 s c w hc hlen
def Tryz.laysSlE041_f25_ren : Go.Shelf.Ren := ⟨fun | 41 => 25 | n => n, fun | 22 => 44 | 23 => 9 | 4 => 4 | n => n, fun | n => n⟩
theorem Tryz.laysSlE041_f25 : Go.Proofs.SlLaysE0.n41 Tryz.prog Tryz.laysSlE041_f25_ren := {
  mixed := by kernel_rfl
  f41 := ⟨Tryz.f25.name, by decide, Tryz.func25.trans (congrArg some (by kernel_rfl))⟩
  t4 := Tryz.underlying4
  a4 := Tryz.isAgg4
  z4 := Tryz.sizeOf4
  v4 := Tryz.zeroValue4
  t22 := Tryz.underlying44
  a22 := Tryz.isAgg44
  z22 := Tryz.sizeOf44
  v22 := Tryz.zeroValue44 }
open Go.RowKit Go.Lib in
theorem Tryz.slices_Clone (i0 : TypeInfo) (z : Value) (size bytes : Nat) (hi : Tryz.prog.info? 9 = some i0) (hz0 : i0.zero = some z) (hz1 : i0.size = size) (hz2 : i0.bytes = bytes) (hzs : z.cells.size = size) (hsz : 0 < size) (z23 : ∀ w, (Go.sizeOf 9).run Tryz.prog w = .ok size w) (b off n c : Nat) (news : List Value) (w : World) (hl : news.length = n * size) (hn : n ≤ maxLen) (hbig : n * bytes ≤ 140737488355328) (hc : ∀ j u, news[j]? = some u → w.cell? ⟨b, off + j, none⟩ = some u) (h1 : ∀ u ∈ news, u.oneCell' = true) :
    Calls Tryz.prog 25 #[.slice (some ⟨b, off, none⟩) n c] w fun e w' => ∃ v', e = .returned v' ∧ w'.ownsRow w.heap.size 9 size v' n news ∧ v' ≠ .slice none 0 0 ∧ Below w.heap.size w w' := AnyE.slices_Clone Tryz.laysSlE041_f25 i0 z size bytes hi hz0 hz1 hz2 hzs hsz z23 b off n c news w hl hn hbig hc h1
open Go.RowKit Go.Lib in
theorem Tryz.slices_Clone_nil (n c : Nat) (w : World) :
    Calls Tryz.prog 25 #[.slice none n c] w fun e w' => e = .returned (.slice none 0 0) ∧ w' = w := AnyE.slices_Clone_nil Tryz.laysSlE041_f25 n c w
end Go.Proofs
