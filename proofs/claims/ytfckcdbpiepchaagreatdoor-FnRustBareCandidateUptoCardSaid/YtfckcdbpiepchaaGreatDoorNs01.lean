/-
  DERIVED: THE SHELF's CONTRACTS AT THIS DUMP, IN PLAIN WORDS (tools/lay-plain.mjs out of 'TryzShelf.lean', which tools/lay-shelf.mjs wrote): THE SAME DECLARATIONS UNDER THE SAME NAMES: 'import', 'namespace', 'open', 'def', 'theorem' AND NOTHING ELSE: no command of the shelf's: FOR A HAND-IN. Each laying: the table of numbers ('.._ren') and one theorem, a field a fact of the dump's own or the kernel's comparison; each contract: ONE APPLICATION.
-/
import Derived.Shelf.Strings.Builder1
import Derived.Shelf.Small.Utf8
import Derived.Shelf.Strings.BuilderF
import Derived.Shelf.Strings.BuilderK
import Derived.Shelf.Strconv.Itoa0
import Derived.Shelf.Strconv.Itoa1
import Derived.Shelf.LaysM
import Derived.Shelf.Strconv.Itoa2
import Derived.Shelf.Strconv.Itoa3
import Derived.Shelf.Strconv.Itoa4
import Derived.Shelf.Strings.LastIndex
import Derived.Shelf.Strings.LastIndexAll
import Derived.Shelf.Strings.Prefix
import Derived.Shelf.Strings.BuilderCap
import Derived.Shelf.Unicode.ValidAny
import Derived.Ground.PaProg
import Derived.Shelf.Path.Small
import Derived.Test.YtfckcdbpiepchaaGreatDoorProg
namespace Go.Proofs
open Go.Shelf
def Tryz.lays119_ren:Go.Shelf.Ren:=⟨fun|119=>185|n=>n,fun|21=>21|4=>4|n=>n,fun|n=>n⟩
theorem Tryz.lays119:Go.Proofs.Lays.n119 Tryz.prog Tryz.lays119_ren:={
 mixed:=by kernel_rfl
 f119:=Tryz.func185.trans (congrArg some (by kernel_rfl))
 t4:=Tryz.underlying4
 a4:=Tryz.isAgg4
 z4:=Tryz.sizeOf4
 v4:=Tryz.zeroValue4
 t21:=Tryz.underlying21
 a21:=Tryz.isAgg21
 z21:=Tryz.sizeOf21
 v21:=Tryz.zeroValue21 }
theorem Tryz.utf8_ValidRune (r:Int)(w:World) :
  Calls Tryz.prog 185 #[.int .i32 r] w fun e w'=>e=.returned (.bool (Lib.validRune r))∧w'=w:=Any.utf8_ValidRune Tryz.lays119 r w
def Tryz.lays283_ren:Go.Shelf.Ren:=⟨fun|283=>176|n=>n,fun|3=>3|9=>9|4=>4|n=>n,fun|n=>n⟩
theorem Tryz.lays283:Go.Proofs.Lays.n283 Tryz.prog Tryz.lays283_ren:={
 mixed:=by kernel_rfl
 f283:=Tryz.func176.trans (congrArg some (by kernel_rfl))
 t3:=Tryz.underlying3
 a3:=Tryz.isAgg3
 z3:=Tryz.sizeOf3
 v3:=Tryz.zeroValue3
 t4:=Tryz.underlying4
 a4:=Tryz.isAgg4
 z4:=Tryz.sizeOf4
 v4:=Tryz.zeroValue4
 t9:=Tryz.underlying9
 a9:=Tryz.isAgg9
 z9:=Tryz.sizeOf9
 v9:=Tryz.zeroValue9 }
open Go.Lib in
theorem Tryz.internal_strconv_small (i:Nat)(h:i < 100)(w:World) :
  Calls Tryz.prog 176 #[.int .i64 i] w fun e w'=>e=.returned (.string ⟨(Lib.decDigits i).toArray⟩)∧w'=w:=Any.internal_strconv_small Tryz.lays283 i h w
def Tryz.laysM284_ren:Go.Shelf.Ren:=⟨fun|284=>177|129=>189|317=>188|318=>190|n=>n,fun|53=>25|3=>3|212=>167|0=>0|4=>4|46=>109|5=>5|9=>9|n=>n,fun|17=>4|n=>n⟩
theorem Tryz.laysM284:Go.Proofs.LaysM.n284 Tryz.prog Tryz.laysM284_ren:={
 mixed:=by kernel_rfl
 f129:=Tryz.func189.trans (congrArg some (by kernel_rfl))
 f284:=Tryz.func177.trans (congrArg some (by kernel_rfl))
 f317:=Tryz.func188.trans (congrArg some (by kernel_rfl))
 f318:=Tryz.func190.trans (congrArg some (by kernel_rfl))
 t0:=Tryz.underlying0
 a0:=Tryz.isAgg0
 z0:=Tryz.sizeOf0
 v0:=Tryz.zeroValue0
 t3:=Tryz.underlying3
 a3:=Tryz.isAgg3
 z3:=Tryz.sizeOf3
 v3:=Tryz.zeroValue3
 t4:=Tryz.underlying4
 a4:=Tryz.isAgg4
 z4:=Tryz.sizeOf4
 v4:=Tryz.zeroValue4
 t5:=Tryz.underlying5
 a5:=Tryz.isAgg5
 z5:=Tryz.sizeOf5
 v5:=Tryz.zeroValue5
 t9:=Tryz.underlying9
 a9:=Tryz.isAgg9
 z9:=Tryz.sizeOf9
 v9:=Tryz.zeroValue9
 t46:=Tryz.underlying109
 a46:=Tryz.isAgg109
 z46:=Tryz.sizeOf109
 v46:=Tryz.zeroValue109
 t53:=Tryz.underlying25
 a53:=Tryz.isAgg25
 z53:=Tryz.sizeOf25
 v53:=Tryz.zeroValue25
 t212:=Tryz.underlying167
 a212:=Tryz.isAgg167
 z212:=Tryz.sizeOf167
 v212:=Tryz.zeroValue167
 g17:=by kernel_rfl
 i0:=by kernel_rfl
 i3:=by kernel_rfl
 i4:=by kernel_rfl
 i5:=by kernel_rfl
 i9:=by kernel_rfl
 i46:=by kernel_rfl
 i53:=by kernel_rfl
 i212:=by kernel_rfl
 m17:=by kernel_rfl }
open Go.Lib in
theorem Tryz.internal_strconv_numDigits (u : Nat) (h1 : 1 ≤ u) (h2 : u < 18446744073709551616) (w : World) (htab : Lib.TabIs Tryz.prog w "internal/strconv.uint64pow10" .u64 Lib.pow10Tab) :
  Calls Tryz.prog 177 #[.int .u64 u] w fun e w'=>e=.returned (.int .i64 (Lib.nDigits u))∧w'=w:=Any.internal_strconv_numDigits Tryz.laysM284 u h1 h2 w htab
def Tryz.lays285_ren:Go.Shelf.Ren:=⟨fun|285=>178|n=>n,fun|37=>22|53=>25|3=>3|4=>4|51=>168|9=>9|5=>5|0=>0|n=>n,fun|n=>n⟩
theorem Tryz.lays285:Go.Proofs.Lays.n285 Tryz.prog Tryz.lays285_ren:={
 mixed:=by kernel_rfl
 f285:=Tryz.func178.trans (congrArg some (by kernel_rfl))
 t0:=Tryz.underlying0
 a0:=Tryz.isAgg0
 z0:=Tryz.sizeOf0
 v0:=Tryz.zeroValue0
 t3:=Tryz.underlying3
 a3:=Tryz.isAgg3
 z3:=Tryz.sizeOf3
 v3:=Tryz.zeroValue3
 t4:=Tryz.underlying4
 a4:=Tryz.isAgg4
 z4:=Tryz.sizeOf4
 v4:=Tryz.zeroValue4
 t5:=Tryz.underlying5
 a5:=Tryz.isAgg5
 z5:=Tryz.sizeOf5
 v5:=Tryz.zeroValue5
 t9:=Tryz.underlying9
 a9:=Tryz.isAgg9
 z9:=Tryz.sizeOf9
 v9:=Tryz.zeroValue9
 t37:=Tryz.underlying22
 a37:=Tryz.isAgg22
 z37:=Tryz.sizeOf22
 v37:=Tryz.zeroValue22
 t51:=Tryz.underlying168
 a51:=Tryz.isAgg168
 z51:=Tryz.sizeOf168
 v51:=Tryz.zeroValue168
 t53:=Tryz.underlying25
 a53:=Tryz.isAgg25
 z53:=Tryz.sizeOf25
 v53:=Tryz.zeroValue25 }
open Go.RowKit Go.Sort Go.Lib in
theorem Tryz.internal_strconv_formatBase10 (blk off cap:Nat)(u:Nat)(d:Array UInt8)(w:World) (hH:Holds (fun(b:UInt8)=>Value.int .u8 (b.toNat:Int)) w blk off d) (hu:u < 10 ^ d.size) (hu64:u < 18446744073709551616) (hsz:d.size < 4611686018427387904) :
  Calls Tryz.prog 178 #[.slice (some ⟨blk,off,none⟩) d.size cap,.int .u64 u] w fun e w'=>
   e=.returned (.tuple #[])∧∃ (n v':Nat) (dk:Array UInt8),w'=(putRow (fun(b:UInt8)=>Value.int .u8 (b.toNat:Int)) w blk off dk).drewN n∧FmtInv d.size u 0 v' dk:=Any.internal_strconv_formatBase10 Tryz.lays285 blk off cap u d w hH hu hu64 hsz
def Tryz.laysM171_ren:Go.Shelf.Ren:=⟨fun|171=>161|243=>180|246=>153|283=>176|284=>177|285=>178|286=>179|129=>189|317=>188|318=>190|319=>191|320=>192|337=>196|338=>197|n=>n,fun|3=>3|9=>9|2=>2|4=>4|171=>158|0=>0|53=>25|37=>22|5=>5|173=>161|212=>167|51=>168|20=>20|213=>169|46=>109|232=>175|233=>176|n=>n,fun|17=>4|18=>6|19=>7|n=>n⟩
theorem Tryz.laysM171:Go.Proofs.LaysM.n171 Tryz.prog Tryz.laysM171_ren:={
 mixed:=by kernel_rfl
 f129:=Tryz.func189.trans (congrArg some (by kernel_rfl))
 f171:=Tryz.func161.trans (congrArg some (by kernel_rfl))
 f243:=Tryz.func180.trans (congrArg some (by kernel_rfl))
 f246:=Tryz.func153.trans (congrArg some (by kernel_rfl))
 f283:=Tryz.func176.trans (congrArg some (by kernel_rfl))
 f284:=Tryz.func177.trans (congrArg some (by kernel_rfl))
 f285:=Tryz.func178.trans (congrArg some (by kernel_rfl))
 f286:=Tryz.func179.trans (congrArg some (by kernel_rfl))
 f317:=Tryz.func188.trans (congrArg some (by kernel_rfl))
 f318:=Tryz.func190.trans (congrArg some (by kernel_rfl))
 f319:=Tryz.func191.trans (congrArg some (by kernel_rfl))
 f320:=Tryz.func192.trans (congrArg some (by kernel_rfl))
 f337:=Tryz.func196.trans (congrArg some (by kernel_rfl))
 f338:=Tryz.func197.trans (congrArg some (by kernel_rfl))
 t0:=Tryz.underlying0
 a0:=Tryz.isAgg0
 z0:=Tryz.sizeOf0
 v0:=Tryz.zeroValue0
 t2:=Tryz.underlying2
 a2:=Tryz.isAgg2
 z2:=Tryz.sizeOf2
 v2:=Tryz.zeroValue2
 t3:=Tryz.underlying3
 a3:=Tryz.isAgg3
 z3:=Tryz.sizeOf3
 v3:=Tryz.zeroValue3
 t4:=Tryz.underlying4
 a4:=Tryz.isAgg4
 z4:=Tryz.sizeOf4
 v4:=Tryz.zeroValue4
 t5:=Tryz.underlying5
 a5:=Tryz.isAgg5
 z5:=Tryz.sizeOf5
 v5:=Tryz.zeroValue5
 t9:=Tryz.underlying9
 a9:=Tryz.isAgg9
 z9:=Tryz.sizeOf9
 v9:=Tryz.zeroValue9
 t20:=Tryz.underlying20
 a20:=Tryz.isAgg20
 z20:=Tryz.sizeOf20
 v20:=Tryz.zeroValue20
 t37:=Tryz.underlying22
 a37:=Tryz.isAgg22
 z37:=Tryz.sizeOf22
 v37:=Tryz.zeroValue22
 t46:=Tryz.underlying109
 a46:=Tryz.isAgg109
 z46:=Tryz.sizeOf109
 v46:=Tryz.zeroValue109
 t51:=Tryz.underlying168
 a51:=Tryz.isAgg168
 z51:=Tryz.sizeOf168
 v51:=Tryz.zeroValue168
 t53:=Tryz.underlying25
 a53:=Tryz.isAgg25
 z53:=Tryz.sizeOf25
 v53:=Tryz.zeroValue25
 t171:=Tryz.underlying158
 a171:=Tryz.isAgg158
 z171:=Tryz.sizeOf158
 v171:=Tryz.zeroValue158
 t173:=Tryz.underlying161
 a173:=Tryz.isAgg161
 z173:=Tryz.sizeOf161
 v173:=Tryz.zeroValue161
 t212:=Tryz.underlying167
 a212:=Tryz.isAgg167
 z212:=Tryz.sizeOf167
 v212:=Tryz.zeroValue167
 t213:=Tryz.underlying169
 a213:=Tryz.isAgg169
 z213:=Tryz.sizeOf169
 t232:=Tryz.underlying175
 a232:=Tryz.isAgg175
 z232:=Tryz.sizeOf175
 v232:=Tryz.zeroValue175
 t233:=Tryz.underlying176
 a233:=Tryz.isAgg176
 z233:=Tryz.sizeOf176
 v233:=Tryz.zeroValue176
 g17:=by kernel_rfl
 g18:=by kernel_rfl
 g19:=by kernel_rfl
 i0:=by kernel_rfl
 i2:=by kernel_rfl
 i3:=by kernel_rfl
 i4:=by kernel_rfl
 i5:=by kernel_rfl
 i9:=by kernel_rfl
 i20:=by kernel_rfl
 i37:=by kernel_rfl
 i46:=by kernel_rfl
 i51:=by kernel_rfl
 i53:=by kernel_rfl
 i171:=by kernel_rfl
 i173:=by kernel_rfl
 i212:=by kernel_rfl
 i232:=by kernel_rfl
 i233:=by kernel_rfl
 m17:=by kernel_rfl
 m18:=by kernel_rfl
 m19:=by kernel_rfl }
open Go.RowKit Go.Sort Go.Lib in
theorem Tryz.strconv_Itoa (n : Int) (h0 : -9223372036854775808 ≤ n) (h1 : n ≤ 9223372036854775807) (w : World) (htab : Lib.TabIs Tryz.prog w "internal/strconv.uint64pow10" .u64 Lib.pow10Tab) :
  Calls Tryz.prog 161 #[.int .i64 n] w fun e w'=>e=.returned (.string ⟨(Lib.itoa n).toArray⟩)∧∃ k os,w'=grow (w.drewN k) os:=Any.strconv_Itoa Tryz.laysM171 n h0 h1 w htab
def Tryz.laysM173_ren:Go.Shelf.Ren:=⟨fun|173=>127|246=>153|283=>176|284=>177|285=>178|286=>179|129=>189|317=>188|318=>190|319=>191|320=>192|337=>196|338=>197|n=>n,fun|2=>2|3=>3|9=>9|4=>4|171=>158|0=>0|53=>25|37=>22|5=>5|173=>161|212=>167|51=>168|20=>20|213=>169|46=>109|232=>175|233=>176|n=>n,fun|17=>4|18=>6|19=>7|n=>n⟩
theorem Tryz.laysM173:Go.Proofs.LaysM.n173 Tryz.prog Tryz.laysM173_ren:={
 mixed:=by kernel_rfl
 f129:=Tryz.func189.trans (congrArg some (by kernel_rfl))
 f173:=Tryz.func127.trans (congrArg some (by kernel_rfl))
 f246:=Tryz.func153.trans (congrArg some (by kernel_rfl))
 f283:=Tryz.func176.trans (congrArg some (by kernel_rfl))
 f284:=Tryz.func177.trans (congrArg some (by kernel_rfl))
 f285:=Tryz.func178.trans (congrArg some (by kernel_rfl))
 f286:=Tryz.func179.trans (congrArg some (by kernel_rfl))
 f317:=Tryz.func188.trans (congrArg some (by kernel_rfl))
 f318:=Tryz.func190.trans (congrArg some (by kernel_rfl))
 f319:=Tryz.func191.trans (congrArg some (by kernel_rfl))
 f320:=Tryz.func192.trans (congrArg some (by kernel_rfl))
 f337:=Tryz.func196.trans (congrArg some (by kernel_rfl))
 f338:=Tryz.func197.trans (congrArg some (by kernel_rfl))
 t0:=Tryz.underlying0
 a0:=Tryz.isAgg0
 z0:=Tryz.sizeOf0
 v0:=Tryz.zeroValue0
 t2:=Tryz.underlying2
 a2:=Tryz.isAgg2
 z2:=Tryz.sizeOf2
 v2:=Tryz.zeroValue2
 t3:=Tryz.underlying3
 a3:=Tryz.isAgg3
 z3:=Tryz.sizeOf3
 v3:=Tryz.zeroValue3
 t4:=Tryz.underlying4
 a4:=Tryz.isAgg4
 z4:=Tryz.sizeOf4
 v4:=Tryz.zeroValue4
 t5:=Tryz.underlying5
 a5:=Tryz.isAgg5
 z5:=Tryz.sizeOf5
 v5:=Tryz.zeroValue5
 t9:=Tryz.underlying9
 a9:=Tryz.isAgg9
 z9:=Tryz.sizeOf9
 v9:=Tryz.zeroValue9
 t20:=Tryz.underlying20
 a20:=Tryz.isAgg20
 z20:=Tryz.sizeOf20
 v20:=Tryz.zeroValue20
 t37:=Tryz.underlying22
 a37:=Tryz.isAgg22
 z37:=Tryz.sizeOf22
 v37:=Tryz.zeroValue22
 t46:=Tryz.underlying109
 a46:=Tryz.isAgg109
 z46:=Tryz.sizeOf109
 v46:=Tryz.zeroValue109
 t51:=Tryz.underlying168
 a51:=Tryz.isAgg168
 z51:=Tryz.sizeOf168
 v51:=Tryz.zeroValue168
 t53:=Tryz.underlying25
 a53:=Tryz.isAgg25
 z53:=Tryz.sizeOf25
 v53:=Tryz.zeroValue25
 t171:=Tryz.underlying158
 a171:=Tryz.isAgg158
 z171:=Tryz.sizeOf158
 v171:=Tryz.zeroValue158
 t173:=Tryz.underlying161
 a173:=Tryz.isAgg161
 z173:=Tryz.sizeOf161
 v173:=Tryz.zeroValue161
 t212:=Tryz.underlying167
 a212:=Tryz.isAgg167
 z212:=Tryz.sizeOf167
 v212:=Tryz.zeroValue167
 t213:=Tryz.underlying169
 a213:=Tryz.isAgg169
 z213:=Tryz.sizeOf169
 t232:=Tryz.underlying175
 a232:=Tryz.isAgg175
 z232:=Tryz.sizeOf175
 v232:=Tryz.zeroValue175
 t233:=Tryz.underlying176
 a233:=Tryz.isAgg176
 z233:=Tryz.sizeOf176
 v233:=Tryz.zeroValue176
 g17:=by kernel_rfl
 g18:=by kernel_rfl
 g19:=by kernel_rfl
 i0:=by kernel_rfl
 i2:=by kernel_rfl
 i3:=by kernel_rfl
 i4:=by kernel_rfl
 i5:=by kernel_rfl
 i9:=by kernel_rfl
 i20:=by kernel_rfl
 i37:=by kernel_rfl
 i46:=by kernel_rfl
 i51:=by kernel_rfl
 i53:=by kernel_rfl
 i171:=by kernel_rfl
 i173:=by kernel_rfl
 i212:=by kernel_rfl
 i232:=by kernel_rfl
 i233:=by kernel_rfl
 m17:=by kernel_rfl
 m18:=by kernel_rfl
 m19:=by kernel_rfl }
open Go.RowKit Go.Sort Go.Lib in
theorem Tryz.strconv_FormatInt_10 (n : Int) (h0 : -9223372036854775808 ≤ n) (h1 : n ≤ 9223372036854775807) (w : World) (htab : Lib.TabIs Tryz.prog w "internal/strconv.uint64pow10" .u64 Lib.pow10Tab) :
  Calls Tryz.prog 127 #[.int .i64 n,.int .i64 10] w fun e w'=>e=.returned (.string ⟨(Lib.itoa n).toArray⟩)∧∃ k os,w'=grow (w.drewN k) os:=Any.strconv_FormatInt_10 Tryz.laysM173 n h0 h1 w htab
def Tryz.lays148_ren:Go.Shelf.Ren:=⟨fun|148=>184|222=>193|223=>194|269=>198|n=>n,fun|9=>9|3=>3|4=>4|5=>5|146=>173|51=>168|46=>109|n=>n,fun|n=>n⟩
theorem Tryz.lays148:Go.Proofs.Lays.n148 Tryz.prog Tryz.lays148_ren:={
 mixed:=by kernel_rfl
 f148:=Tryz.func184.trans (congrArg some (by kernel_rfl))
 f222:=Tryz.func193.trans (congrArg some (by kernel_rfl))
 f223:=Tryz.func194.trans (congrArg some (by kernel_rfl))
 f269:=Tryz.func198.trans (congrArg some (by kernel_rfl))
 t3:=Tryz.underlying3
 a3:=Tryz.isAgg3
 z3:=Tryz.sizeOf3
 v3:=Tryz.zeroValue3
 t4:=Tryz.underlying4
 a4:=Tryz.isAgg4
 z4:=Tryz.sizeOf4
 v4:=Tryz.zeroValue4
 t5:=Tryz.underlying5
 a5:=Tryz.isAgg5
 z5:=Tryz.sizeOf5
 v5:=Tryz.zeroValue5
 t9:=Tryz.underlying9
 a9:=Tryz.isAgg9
 z9:=Tryz.sizeOf9
 v9:=Tryz.zeroValue9
 t46:=Tryz.underlying109
 a46:=Tryz.isAgg109
 z46:=Tryz.sizeOf109
 v46:=Tryz.zeroValue109
 t51:=Tryz.underlying168
 a51:=Tryz.isAgg168
 z51:=Tryz.sizeOf168
 v51:=Tryz.zeroValue168
 t146:=Tryz.underlying173
 a146:=Tryz.isAgg173
 z146:=Tryz.sizeOf173
 v146:=Tryz.zeroValue173 }
open Go.RowKit Go.Lib in
theorem Tryz.strings_LastIndex_one (s sub:ByteArray)(h1:sub.size=1)(hs:s.size < 4611686018427387904)(w:World) :
  Calls Tryz.prog 184 #[.string s,.string sub] w fun e w'=>e=.returned (.int .i64 (Lib.lastIndexByte s ((sub[0]'(by omega)).toNat:Int)))∧w'=w:=Any.strings_LastIndex_one Tryz.lays148 s sub h1 hs w
def Tryz.lays99_ren:Go.Shelf.Ren:=⟨fun|99=>64|206=>98|n=>n,fun|9=>9|4=>4|3=>3|n=>n,fun|n=>n⟩
theorem Tryz.lays99:Go.Proofs.Lays.n99 Tryz.prog Tryz.lays99_ren:={
 mixed:=by kernel_rfl
 f99:=Tryz.func64.trans (congrArg some (by kernel_rfl))
 f206:=Tryz.func98.trans (congrArg some (by kernel_rfl))
 t3:=Tryz.underlying3
 a3:=Tryz.isAgg3
 z3:=Tryz.sizeOf3
 v3:=Tryz.zeroValue3
 t4:=Tryz.underlying4
 a4:=Tryz.isAgg4
 z4:=Tryz.sizeOf4
 v4:=Tryz.zeroValue4
 t9:=Tryz.underlying9
 a9:=Tryz.isAgg9
 z9:=Tryz.sizeOf9
 v9:=Tryz.zeroValue9 }
open Go.RowKit Go.Lib in
theorem Tryz.strings_HasPrefix (s p:ByteArray)(w:World) :
  Calls Tryz.prog 64 #[.string s,.string p] w fun e w'=>e=.returned (.bool (Lib.hasPrefix s.data.toList p.data.toList))∧w'=w:=Any.strings_HasPrefix Tryz.lays99 s p w
end Go.Proofs
