/-
  The contracts of the library functions that the lexer calls, laid at this program: white space, runes, numbers as texts, repetition, the buffer of bytes. Walks of the laws' small functions on texts: ascii, upper, turned; and of EqualFold of the package char and of the thin package. Each writes only blocks of its own. Contracts of the lexer's functions that pass over blanks and comments, and of the tests of bytes. Slices of bytes of the call's own that grow: append to nil, to a converted text, to a row. Contract of token.ZzKeyword: whether a text in capitals is a keyword. Conditions: of each, in its statement.
-/
import Derived.Shelf.Strings.Builder1
import Derived.Shelf.Strings.Builder2
import Derived.Shelf.Strings.BuilderF
import Derived.Shelf.Strconv.Itoa0
import Derived.Shelf.Strconv.Itoa1
import Derived.Shelf.LaysM
import Derived.Shelf.Strconv.Itoa2
import Derived.Shelf.Strconv.Itoa3
import Derived.Shelf.Bytes.Len
import Derived.Shelf.Bytes.TryGrow
import Derived.Shelf.Bytes.GrowSliceCatch
import Derived.Shelf.Bytes.GrowSlice
import Derived.Shelf.Bytes.GrowRow0
import Derived.Shelf.Bytes.GrowRow
import Derived.Shelf.Bytes.GrowNil
import Derived.Shelf.Bytes.Grow
import Derived.Shelf.Bytes.WriteString
import Derived.Shelf.Bytes.String
import Derived.Shelf.Strconv.Clone
import Derived.Shelf.Strconv.SyntaxError
import Derived.Shelf.LaysC
import Derived.Shelf.Strconv.ToError
import Derived.Shelf.Strconv.RangeError
import Derived.Shelf.Strconv.ToErrorRange
import Derived.Shelf.Strings.Prefix
import Derived.Shelf.Unicode.Latin
import Derived.Shelf.Unicode.Decode
import Derived.Shelf.Bits.Mul64
import Derived.Shelf.Strings.Repeat
import Derived.Shelf.Unicode.DecodeSlow
import Derived.Shelf.Unicode.DecodeAny
import Derived.Shelf.Unicode.Is16White
import Derived.Shelf.Unicode.IsSpaceAny
import Derived.Shelf.Unicode.Is16Any
import Derived.Shelf.Unicode.Is32Any
import Derived.Shelf.Unicode.ExclAny
import Derived.Test.YtaamolahbkgofaaGreatDoorProg
import Derived.Test.YtaamolahbkgofaaGreatDoorK01
import Derived.Deep.QuietTactic
import Derived.BigQuiet
import Derived.StillTailTactics
import Derived.ArgAppend
import Derived.Lib.EndianMore
namespace Go.Proofs
open Go.Shelf
def Tryz.laysM171_ren:Go.Shelf.Ren:=⟨fun|171=>65|243=>100|246=>118|283=>126|284=>127|285=>128|286=>129|129=>137|317=>136|318=>138|319=>139|320=>140|337=>143|338=>144|n=>n,fun|3=>3|9=>9|2=>2|4=>4|171=>190|0=>0|53=>36|37=>37|5=>5|173=>193|212=>203|51=>155|20=>20|213=>204|46=>119|232=>213|233=>214|n=>n,fun|17=>6|18=>9|19=>10|n=>n⟩
theorem Tryz.laysM171:Go.Proofs.LaysM.n171 Tryz.prog Tryz.laysM171_ren:={
 mixed:=by kernel_rfl
 f129:=Tryz.func137.trans (congrArg some (by kernel_rfl))
 f171:=Tryz.func65.trans (congrArg some (by kernel_rfl))
 f243:=Tryz.func100.trans (congrArg some (by kernel_rfl))
 f246:=Tryz.func118.trans (congrArg some (by kernel_rfl))
 f283:=Tryz.func126.trans (congrArg some (by kernel_rfl))
 f284:=Tryz.func127.trans (congrArg some (by kernel_rfl))
 f285:=Tryz.func128.trans (congrArg some (by kernel_rfl))
 f286:=Tryz.func129.trans (congrArg some (by kernel_rfl))
 f317:=Tryz.func136.trans (congrArg some (by kernel_rfl))
 f318:=Tryz.func138.trans (congrArg some (by kernel_rfl))
 f319:=Tryz.func139.trans (congrArg some (by kernel_rfl))
 f320:=Tryz.func140.trans (congrArg some (by kernel_rfl))
 f337:=Tryz.func143.trans (congrArg some (by kernel_rfl))
 f338:=Tryz.func144.trans (congrArg some (by kernel_rfl))
 t0:=Tryz.underlying0
 a0:=Tryz.isAgg0
 z0:=Tryz.sizeOf0
 v0:=Tryz.zeroValue0
 t2:=Tryz.underlying2
 a2:=Tryz.isAgg2
 z2:=Tryz.sizeOf2
 v2:=Tryz.zeroValue2
 t3:=Tryz.underlying3
 a3:=Tryz.isAgg3
 z3:=Tryz.sizeOf3
 v3:=Tryz.zeroValue3
 t4:=Tryz.underlying4
 a4:=Tryz.isAgg4
 z4:=Tryz.sizeOf4
 v4:=Tryz.zeroValue4
 t5:=Tryz.underlying5
 a5:=Tryz.isAgg5
 z5:=Tryz.sizeOf5
 v5:=Tryz.zeroValue5
 t9:=Tryz.underlying9
 a9:=Tryz.isAgg9
 z9:=Tryz.sizeOf9
 v9:=Tryz.zeroValue9
 t20:=Tryz.underlying20
 a20:=Tryz.isAgg20
 z20:=Tryz.sizeOf20
 v20:=Tryz.zeroValue20
 t37:=Tryz.underlying37
 a37:=Tryz.isAgg37
 z37:=Tryz.sizeOf37
 v37:=Tryz.zeroValue37
 t46:=Tryz.underlying119
 a46:=Tryz.isAgg119
 z46:=Tryz.sizeOf119
 v46:=Tryz.zeroValue119
 t51:=Tryz.underlying155
 a51:=Tryz.isAgg155
 z51:=Tryz.sizeOf155
 v51:=Tryz.zeroValue155
 t53:=Tryz.underlying36
 a53:=Tryz.isAgg36
 z53:=Tryz.sizeOf36
 v53:=Tryz.zeroValue36
 t171:=Tryz.underlying190
 a171:=Tryz.isAgg190
 z171:=Tryz.sizeOf190
 v171:=Tryz.zeroValue190
 t173:=Tryz.underlying193
 a173:=Tryz.isAgg193
 z173:=Tryz.sizeOf193
 v173:=Tryz.zeroValue193
 t212:=Tryz.underlying203
 a212:=Tryz.isAgg203
 z212:=Tryz.sizeOf203
 v212:=Tryz.zeroValue203
 t213:=Tryz.underlying204
 a213:=Tryz.isAgg204
 z213:=Tryz.sizeOf204
 t232:=Tryz.underlying213
 a232:=Tryz.isAgg213
 z232:=Tryz.sizeOf213
 v232:=Tryz.zeroValue213
 t233:=Tryz.underlying214
 a233:=Tryz.isAgg214
 z233:=Tryz.sizeOf214
 v233:=Tryz.zeroValue214
 g17:=by kernel_rfl
 g18:=by kernel_rfl
 g19:=by kernel_rfl
 i0:=by kernel_rfl
 i2:=by kernel_rfl
 i3:=by kernel_rfl
 i4:=by kernel_rfl
 i5:=by kernel_rfl
 i9:=by kernel_rfl
 i20:=by kernel_rfl
 i37:=by kernel_rfl
 i46:=by kernel_rfl
 i51:=by kernel_rfl
 i53:=by kernel_rfl
 i171:=by kernel_rfl
 i173:=by kernel_rfl
 i212:=by kernel_rfl
 i232:=by kernel_rfl
 i233:=by kernel_rfl
 m17:=by kernel_rfl
 m18:=by kernel_rfl
 m19:=by kernel_rfl }
open Go.RowKit Go.Sort Go.Lib in
/-- strconv.Itoa: "Itoa is equivalent to FormatInt(int64(i), 10).": i's DECIMAL NUMERAL ('Lib.itoa': a '-' where i is negative, then the digits), FOR EVERY int. The world behind the call: the world before it, new blocks behind the heap (the library's 'var a [24]byte'), draws. (LAID: no walk: one application.) -/
theorem Tryz.strconv_Itoa (n:Int) (h0 : -9223372036854775808≤n) (h1:n≤9223372036854775807) (w:World) (htab:Lib.TabIs Tryz.prog w "internal/strconv.uint64pow10" .u64 Lib.pow10Tab) :
  Calls Tryz.prog 65 #[.int .i64 n] w fun e w'=>e=.returned (.string ⟨(Lib.itoa n).toArray⟩)∧∃k os,w'=grow (w.drewN k) os:=Any.strconv_Itoa Tryz.laysM171 n h0 h1 w htab
def Tryz.laysM178_ren:Go.Shelf.Ren:=⟨fun|178=>45|251=>63|252=>64|181=>97|184=>98|290=>99|324=>117|n=>n,fun|130=>115|9=>9|3=>3|75=>54|0=>0|93=>94|91=>92|131=>116|4=>4|37=>37|20=>20|80=>99|5=>5|n=>n,fun|14=>1|n=>n⟩
theorem Tryz.laysM178:Go.Proofs.LaysM.n178 Tryz.prog Tryz.laysM178_ren:={
 mixed:=by kernel_rfl
 f178:=Tryz.func45.trans (congrArg some (by kernel_rfl))
 f181:=Tryz.func97.trans (congrArg some (by kernel_rfl))
 f184:=Tryz.func98.trans (congrArg some (by kernel_rfl))
 f251:=Tryz.func63.trans (congrArg some (by kernel_rfl))
 f252:=Tryz.func64.trans (congrArg some (by kernel_rfl))
 f290:=Tryz.func99.trans (congrArg some (by kernel_rfl))
 f324:=Tryz.func117.trans (congrArg some (by kernel_rfl))
 t0:=Tryz.underlying0
 a0:=Tryz.isAgg0
 z0:=Tryz.sizeOf0
 v0:=Tryz.zeroValue0
 t3:=Tryz.underlying3
 a3:=Tryz.isAgg3
 z3:=Tryz.sizeOf3
 v3:=Tryz.zeroValue3
 t4:=Tryz.underlying4
 a4:=Tryz.isAgg4
 z4:=Tryz.sizeOf4
 v4:=Tryz.zeroValue4
 t9:=Tryz.underlying9
 a9:=Tryz.isAgg9
 z9:=Tryz.sizeOf9
 v9:=Tryz.zeroValue9
 t20:=Tryz.underlying20
 a20:=Tryz.isAgg20
 z20:=Tryz.sizeOf20
 v20:=Tryz.zeroValue20
 t37:=Tryz.underlying37
 a37:=Tryz.isAgg37
 z37:=Tryz.sizeOf37
 v37:=Tryz.zeroValue37
 t75:=Tryz.underlying54
 a75:=Tryz.isAgg54
 z75:=Tryz.sizeOf54
 v75:=Tryz.zeroValue54
 t91:=Tryz.underlying92
 a91:=Tryz.isAgg92
 z91:=Tryz.sizeOf92
 v91:=Tryz.zeroValue92
 t93:=Tryz.underlying94
 a93:=Tryz.isAgg94
 z93:=Tryz.sizeOf94
 v93:=Tryz.zeroValue94
 t130:=Tryz.underlying115
 a130:=Tryz.isAgg115
 z130:=Tryz.sizeOf115
 v130:=Tryz.zeroValue115
 t131:=Tryz.underlying116
 a131:=Tryz.isAgg116
 z131:=Tryz.sizeOf116
 v131:=Tryz.zeroValue116
 g14:=by kernel_rfl
 t5:=Tryz.underlying5
 a5:=Tryz.isAgg5
 z5:=Tryz.sizeOf5
 v5:=Tryz.zeroValue5
 t80:=Tryz.underlying99
 a80:=Tryz.isAgg99
 z80:=Tryz.sizeOf99
 v80:=Tryz.zeroValue99
 i0:=by kernel_rfl
 i3:=by kernel_rfl
 i4:=by kernel_rfl
 i5:=by kernel_rfl
 i9:=by kernel_rfl
 i20:=by kernel_rfl
 i37:=by kernel_rfl
 i75:=by kernel_rfl
 i80:=by kernel_rfl
 i91:=by kernel_rfl
 i93:=by kernel_rfl
 i130:=by kernel_rfl
 i131:=by kernel_rfl
 m14:=by kernel_rfl }
open Go.RowKit in
/-- (*bytes.Buffer).WriteString: "WriteString appends the contents of s to the buffer, growing the buffer as needed. The return value n is the length of s; err is always nil." (LAID: no walk: one application.) -/
theorem Tryz.Buffer_WriteString (B b:Nat) (bs:List Value) (s:ByteArray) (w:World) (h:Lib.IsBuffer 94 5 B b bs w) (hBw:B≤w.heap.size) (h1:∀v∈bs,v.oneCell'=true) (hlim:bs.length+s.size≤140737488355328) :
  Calls Tryz.prog 45 #[.pointer (some ⟨b,0,none⟩),.string s] w fun e w'=>e=.returned (.tuple #[.int .i64 s.size,.nilIface])∧Lib.IsBuffer 94 5 B b (bs++Lib.byteCells s.data.toList) w'∧Below B w w':=Any.Buffer_WriteString Tryz.laysM178 B b bs s w h hBw h1 hlim
def Tryz.laysM182_ren:Go.Shelf.Ren:=⟨fun|182=>48|n=>n,fun|130=>115|9=>9|4=>4|0=>0|93=>94|37=>37|3=>3|91=>92|5=>5|n=>n,fun|n=>n⟩
theorem Tryz.laysM182:Go.Proofs.LaysM.n182 Tryz.prog Tryz.laysM182_ren:={
 mixed:=by kernel_rfl
 f182:=Tryz.func48.trans (congrArg some (by kernel_rfl))
 t0:=Tryz.underlying0
 a0:=Tryz.isAgg0
 z0:=Tryz.sizeOf0
 v0:=Tryz.zeroValue0
 t3:=Tryz.underlying3
 a3:=Tryz.isAgg3
 z3:=Tryz.sizeOf3
 v3:=Tryz.zeroValue3
 t4:=Tryz.underlying4
 a4:=Tryz.isAgg4
 z4:=Tryz.sizeOf4
 v4:=Tryz.zeroValue4
 t9:=Tryz.underlying9
 a9:=Tryz.isAgg9
 z9:=Tryz.sizeOf9
 v9:=Tryz.zeroValue9
 t37:=Tryz.underlying37
 a37:=Tryz.isAgg37
 z37:=Tryz.sizeOf37
 v37:=Tryz.zeroValue37
 t93:=Tryz.underlying94
 a93:=Tryz.isAgg94
 z93:=Tryz.sizeOf94
 v93:=Tryz.zeroValue94
 t130:=Tryz.underlying115
 a130:=Tryz.isAgg115
 z130:=Tryz.sizeOf115
 v130:=Tryz.zeroValue115
 t5:=Tryz.underlying5
 a5:=Tryz.isAgg5
 z5:=Tryz.sizeOf5
 v5:=Tryz.zeroValue5
 t91:=Tryz.underlying92
 a91:=Tryz.isAgg92
 z91:=Tryz.sizeOf92
 v91:=Tryz.zeroValue92
 i0:=by kernel_rfl
 i3:=by kernel_rfl
 i4:=by kernel_rfl
 i5:=by kernel_rfl
 i9:=by kernel_rfl
 i37:=by kernel_rfl
 i91:=by kernel_rfl
 i93:=by kernel_rfl
 i130:=by kernel_rfl }
open Go.RowKit in
/-- (*bytes.Buffer).String: "String returns the contents of the unread portion of the buffer as a string.": THE BYTES THAT WERE WRITTEN. The world is as it was but for the count of draws (the statement has two reads: its order is drawn). (LAID: no walk: one application.) -/
theorem Tryz.Buffer_String (B b:Nat) (l:List UInt8) (w:World) (h:Lib.IsBuffer 94 5 B b (Lib.byteCells l) w) :
  Calls Tryz.prog 48 #[.pointer (some ⟨b,0,none⟩)] w fun e w'=>e=.returned (.string ⟨l.toArray⟩)∧∃n,w'=w.drewN n:=Any.Buffer_String Tryz.laysM182 B b l w h
def Tryz.laysC245_ren:Go.Shelf.Ren:=⟨fun|245=>124|279=>132|280=>133|281=>134|282=>135|316=>141|171=>65|205=>142|243=>100|246=>118|283=>126|284=>127|285=>128|286=>129|129=>137|317=>136|318=>138|319=>139|320=>140|337=>143|338=>144|n=>n,fun|9=>9|3=>3|75=>54|167=>197|4=>4|168=>199|210=>207|37=>37|0=>0|127=>160|145=>212|143=>210|2=>2|171=>190|53=>36|5=>5|173=>193|212=>203|51=>155|20=>20|213=>204|46=>119|232=>213|233=>214|80=>99|n=>n,fun|15=>7|16=>8|17=>6|18=>9|19=>10|n=>n⟩
theorem Tryz.laysC245:Go.Proofs.LaysC.n245 Tryz.prog Tryz.laysC245_ren:={
 mixed:=by kernel_rfl
 f129:=Tryz.func137.trans (congrArg some (by kernel_rfl))
 f171:=Tryz.func65.trans (congrArg some (by kernel_rfl))
 f205:=Tryz.func142.trans (congrArg some (by kernel_rfl))
 f243:=Tryz.func100.trans (congrArg some (by kernel_rfl))
 f245:=Tryz.func124.trans (congrArg some (by kernel_rfl))
 f246:=Tryz.func118.trans (congrArg some (by kernel_rfl))
 f279:=Tryz.func132.trans (congrArg some (by kernel_rfl))
 f280:=Tryz.func133.trans (congrArg some (by kernel_rfl))
 f281:=Tryz.func134.trans (congrArg some (by kernel_rfl))
 f282:=Tryz.func135.trans (congrArg some (by kernel_rfl))
 f283:=Tryz.func126.trans (congrArg some (by kernel_rfl))
 f284:=Tryz.func127.trans (congrArg some (by kernel_rfl))
 f285:=Tryz.func128.trans (congrArg some (by kernel_rfl))
 f286:=Tryz.func129.trans (congrArg some (by kernel_rfl))
 f316:=Tryz.func141.trans (congrArg some (by kernel_rfl))
 f317:=Tryz.func136.trans (congrArg some (by kernel_rfl))
 f318:=Tryz.func138.trans (congrArg some (by kernel_rfl))
 f319:=Tryz.func139.trans (congrArg some (by kernel_rfl))
 f320:=Tryz.func140.trans (congrArg some (by kernel_rfl))
 f337:=Tryz.func143.trans (congrArg some (by kernel_rfl))
 f338:=Tryz.func144.trans (congrArg some (by kernel_rfl))
 t0:=Tryz.underlying0
 a0:=Tryz.isAgg0
 z0:=Tryz.sizeOf0
 v0:=Tryz.zeroValue0
 t2:=Tryz.underlying2
 a2:=Tryz.isAgg2
 z2:=Tryz.sizeOf2
 v2:=Tryz.zeroValue2
 t3:=Tryz.underlying3
 a3:=Tryz.isAgg3
 z3:=Tryz.sizeOf3
 v3:=Tryz.zeroValue3
 t4:=Tryz.underlying4
 a4:=Tryz.isAgg4
 z4:=Tryz.sizeOf4
 v4:=Tryz.zeroValue4
 t5:=Tryz.underlying5
 a5:=Tryz.isAgg5
 z5:=Tryz.sizeOf5
 v5:=Tryz.zeroValue5
 t9:=Tryz.underlying9
 a9:=Tryz.isAgg9
 z9:=Tryz.sizeOf9
 v9:=Tryz.zeroValue9
 t20:=Tryz.underlying20
 a20:=Tryz.isAgg20
 z20:=Tryz.sizeOf20
 v20:=Tryz.zeroValue20
 t37:=Tryz.underlying37
 a37:=Tryz.isAgg37
 z37:=Tryz.sizeOf37
 v37:=Tryz.zeroValue37
 t46:=Tryz.underlying119
 a46:=Tryz.isAgg119
 z46:=Tryz.sizeOf119
 v46:=Tryz.zeroValue119
 t51:=Tryz.underlying155
 a51:=Tryz.isAgg155
 z51:=Tryz.sizeOf155
 v51:=Tryz.zeroValue155
 t53:=Tryz.underlying36
 a53:=Tryz.isAgg36
 z53:=Tryz.sizeOf36
 v53:=Tryz.zeroValue36
 t75:=Tryz.underlying54
 a75:=Tryz.isAgg54
 z75:=Tryz.sizeOf54
 v75:=Tryz.zeroValue54
 t127:=Tryz.underlying160
 a127:=Tryz.isAgg160
 z127:=Tryz.sizeOf160
 v127:=Tryz.zeroValue160
 t143:=Tryz.underlying210
 a143:=Tryz.isAgg210
 z143:=Tryz.sizeOf210
 v143:=Tryz.zeroValue210
 t145:=Tryz.underlying212
 a145:=Tryz.isAgg212
 z145:=Tryz.sizeOf212
 v145:=Tryz.zeroValue212
 t167:=Tryz.underlying197
 a167:=Tryz.isAgg197
 z167:=Tryz.sizeOf197
 v167:=Tryz.zeroValue197
 t168:=Tryz.underlying199
 a168:=Tryz.isAgg199
 z168:=Tryz.sizeOf199
 v168:=Tryz.zeroValue199
 t171:=Tryz.underlying190
 a171:=Tryz.isAgg190
 z171:=Tryz.sizeOf190
 v171:=Tryz.zeroValue190
 t173:=Tryz.underlying193
 a173:=Tryz.isAgg193
 z173:=Tryz.sizeOf193
 v173:=Tryz.zeroValue193
 t210:=Tryz.underlying207
 a210:=Tryz.isAgg207
 z210:=Tryz.sizeOf207
 v210:=Tryz.zeroValue207
 t212:=Tryz.underlying203
 a212:=Tryz.isAgg203
 z212:=Tryz.sizeOf203
 v212:=Tryz.zeroValue203
 t213:=Tryz.underlying204
 a213:=Tryz.isAgg204
 z213:=Tryz.sizeOf204
 t232:=Tryz.underlying213
 a232:=Tryz.isAgg213
 z232:=Tryz.sizeOf213
 v232:=Tryz.zeroValue213
 t233:=Tryz.underlying214
 a233:=Tryz.isAgg214
 z233:=Tryz.sizeOf214
 v233:=Tryz.zeroValue214
 g15:=by kernel_rfl
 g16:=by kernel_rfl
 g17:=by kernel_rfl
 g18:=by kernel_rfl
 g19:=by kernel_rfl
 t80:=Tryz.underlying99
 a80:=Tryz.isAgg99
 z80:=Tryz.sizeOf99
 v80:=Tryz.zeroValue99
 i0:=by kernel_rfl
 i2:=by kernel_rfl
 i3:=by kernel_rfl
 i4:=by kernel_rfl
 i5:=by kernel_rfl
 i9:=by kernel_rfl
 i20:=by kernel_rfl
 i37:=by kernel_rfl
 i46:=by kernel_rfl
 i51:=by kernel_rfl
 i53:=by kernel_rfl
 i75:=by kernel_rfl
 i80:=by kernel_rfl
 i127:=by kernel_rfl
 i143:=by kernel_rfl
 i145:=by kernel_rfl
 i167:=by kernel_rfl
 i168:=by kernel_rfl
 i171:=by kernel_rfl
 i173:=by kernel_rfl
 i210:=by kernel_rfl
 i212:=by kernel_rfl
 i232:=by kernel_rfl
 i233:=by kernel_rfl
 m15:=by kernel_rfl
 m16:=by kernel_rfl
 m17:=by kernel_rfl
 m18:=by kernel_rfl
 m19:=by kernel_rfl
 c0:=by kernel_rfl
 c2:=by kernel_rfl
 c3:=by kernel_rfl
 c4:=by kernel_rfl
 c5:=by kernel_rfl
 c9:=by kernel_rfl
 c20:=by kernel_rfl
 c37:=by kernel_rfl
 c46:=by kernel_rfl
 c51:=by kernel_rfl
 c53:=by kernel_rfl
 c75:=by kernel_rfl
 c80:=by kernel_rfl
 c127:=by kernel_rfl
 c143:=by kernel_rfl
 c145:=by kernel_rfl
 c167:=by kernel_rfl
 c168:=by kernel_rfl
 c171:=by kernel_rfl
 c173:=by kernel_rfl
 c210:=by kernel_rfl
 c212:=by kernel_rfl
 c213:=by kernel_rfl
 c232:=by kernel_rfl
 c233:=by kernel_rfl }
open Go.RowKit in
/-- strconv.toError, at the inner package's ErrSyntax: 'syntaxError(fn, s)' as an error: A *NumError IN A NEW BLOCK. (LAID: no walk: one application.) -/
theorem Tryz.strconv_toError_syntax (fn s:ByteArray) (base bits:Int) (ev:Value) (w:World) (hlim:s.size≤281474976710656) (hv:w.cell? ⟨7,0,none⟩=some ev) (hev:ev=.nilIface∨∃te pe,ev=.iface te pe) :
  Calls Tryz.prog 124 #[.string fn,.string s,.int .i64 base,.int .i64 bits,.iface 197 (.int .i64 2)] w fun e w'=>∃N,e=.returned (.iface 199 (.pointer (some ⟨N,0,none⟩)))∧w.heap.size≤N∧w'.heap[N]?=some (.cells #[.string fn,.string s,ev] 207 (0,0))∧Below w.heap.size w w':=Any.strconv_toError_syntax Tryz.laysC245 fn s base bits ev w hlim hv hev
open Go.RowKit in
/-- strconv.toError, at the inner package's ErrRange: 'rangeError(fn, s)' as an error: A *NumError IN A NEW BLOCK. (LAID: no walk: one application.) -/
theorem Tryz.strconv_toError_range (fn s:ByteArray) (base bits:Int) (ev:Value) (w:World) (hlim:s.size≤281474976710656) (hv:w.cell? ⟨8,0,none⟩=some ev) (hev:ev=.nilIface∨∃te pe,ev=.iface te pe) :
  Calls Tryz.prog 124 #[.string fn,.string s,.int .i64 base,.int .i64 bits,.iface 197 (.int .i64 1)] w fun e w'=>∃N,e=.returned (.iface 199 (.pointer (some ⟨N,0,none⟩)))∧w.heap.size≤N∧w'.heap[N]?=some (.cells #[.string fn,.string s,ev] 207 (0,0))∧Below w.heap.size w w':=Any.strconv_toError_range Tryz.laysC245 fn s base bits ev w hlim hv hev
def Tryz.lays199_ren:Go.Shelf.Ren:=⟨fun|199=>74|261=>107|311=>121|312=>122|n=>n,fun|21=>21|4=>4|51=>155|141=>162|0=>0|196=>181|193=>178|3=>3|198=>184|49=>182|194=>179|201=>187|226=>195|46=>119|227=>196|n=>n,fun|6=>2|n=>n⟩
theorem Tryz.lays199:Go.Proofs.Lays.n199 Tryz.prog Tryz.lays199_ren:={
 mixed:=by kernel_rfl
 f199:=Tryz.func74.trans (congrArg some (by kernel_rfl))
 f261:=Tryz.func107.trans (congrArg some (by kernel_rfl))
 f311:=Tryz.func121.trans (congrArg some (by kernel_rfl))
 f312:=Tryz.func122.trans (congrArg some (by kernel_rfl))
 t0:=Tryz.underlying0
 a0:=Tryz.isAgg0
 z0:=Tryz.sizeOf0
 v0:=Tryz.zeroValue0
 t3:=Tryz.underlying3
 a3:=Tryz.isAgg3
 z3:=Tryz.sizeOf3
 v3:=Tryz.zeroValue3
 t4:=Tryz.underlying4
 a4:=Tryz.isAgg4
 z4:=Tryz.sizeOf4
 v4:=Tryz.zeroValue4
 t21:=Tryz.underlying21
 a21:=Tryz.isAgg21
 z21:=Tryz.sizeOf21
 v21:=Tryz.zeroValue21
 t46:=Tryz.underlying119
 a46:=Tryz.isAgg119
 z46:=Tryz.sizeOf119
 v46:=Tryz.zeroValue119
 t49:=Tryz.underlying182
 a49:=Tryz.isAgg182
 z49:=Tryz.sizeOf182
 v49:=Tryz.zeroValue182
 t51:=Tryz.underlying155
 a51:=Tryz.isAgg155
 z51:=Tryz.sizeOf155
 v51:=Tryz.zeroValue155
 t141:=Tryz.underlying162
 a141:=Tryz.isAgg162
 z141:=Tryz.sizeOf162
 v141:=Tryz.zeroValue162
 t193:=Tryz.underlying178
 a193:=Tryz.isAgg178
 z193:=Tryz.sizeOf178
 v193:=Tryz.zeroValue178
 t194:=Tryz.underlying179
 a194:=Tryz.isAgg179
 z194:=Tryz.sizeOf179
 v194:=Tryz.zeroValue179
 t196:=Tryz.underlying181
 a196:=Tryz.isAgg181
 z196:=Tryz.sizeOf181
 v196:=Tryz.zeroValue181
 t198:=Tryz.underlying184
 a198:=Tryz.isAgg184
 z198:=Tryz.sizeOf184
 v198:=Tryz.zeroValue184
 t201:=Tryz.underlying187
 a201:=Tryz.isAgg187
 z201:=Tryz.sizeOf187
 v201:=Tryz.zeroValue187
 t226:=Tryz.underlying195
 a226:=Tryz.isAgg195
 z226:=Tryz.sizeOf195
 v226:=Tryz.zeroValue195
 t227:=Tryz.underlying196
 a227:=Tryz.isAgg196
 z227:=Tryz.sizeOf196
 v227:=Tryz.zeroValue196
 g6:=by kernel_rfl }
def Tryz.lays197_ren:Go.Shelf.Ren:=⟨fun|197=>73|260=>106|n=>n,fun|9=>9|21=>21|3=>3|4=>4|5=>5|105=>127|119=>174|0=>0|46=>119|139=>177|138=>176|n=>n,fun|3=>3|4=>4|n=>n⟩
theorem Tryz.lays197:Go.Proofs.Lays.n197 Tryz.prog Tryz.lays197_ren:={
 mixed:=by kernel_rfl
 f197:=Tryz.func73.trans (congrArg some (by kernel_rfl))
 f260:=Tryz.func106.trans (congrArg some (by kernel_rfl))
 t0:=Tryz.underlying0
 a0:=Tryz.isAgg0
 z0:=Tryz.sizeOf0
 v0:=Tryz.zeroValue0
 t3:=Tryz.underlying3
 a3:=Tryz.isAgg3
 z3:=Tryz.sizeOf3
 v3:=Tryz.zeroValue3
 t4:=Tryz.underlying4
 a4:=Tryz.isAgg4
 z4:=Tryz.sizeOf4
 v4:=Tryz.zeroValue4
 t5:=Tryz.underlying5
 a5:=Tryz.isAgg5
 z5:=Tryz.sizeOf5
 v5:=Tryz.zeroValue5
 t9:=Tryz.underlying9
 a9:=Tryz.isAgg9
 z9:=Tryz.sizeOf9
 v9:=Tryz.zeroValue9
 t21:=Tryz.underlying21
 a21:=Tryz.isAgg21
 z21:=Tryz.sizeOf21
 v21:=Tryz.zeroValue21
 t46:=Tryz.underlying119
 a46:=Tryz.isAgg119
 z46:=Tryz.sizeOf119
 v46:=Tryz.zeroValue119
 t105:=Tryz.underlying127
 a105:=Tryz.isAgg127
 z105:=Tryz.sizeOf127
 v105:=Tryz.zeroValue127
 t119:=Tryz.underlying174
 a119:=Tryz.isAgg174
 z119:=Tryz.sizeOf174
 t138:=Tryz.underlying176
 a138:=Tryz.isAgg176
 z138:=Tryz.sizeOf176
 v138:=Tryz.zeroValue176
 t139:=Tryz.underlying177
 a139:=Tryz.isAgg177
 z139:=Tryz.sizeOf177
 v139:=Tryz.zeroValue177
 g3:=by kernel_rfl
 g4:=by kernel_rfl }
def Tryz.lays105_ren:Go.Shelf.Ren:=⟨fun|105=>47|212=>66|99=>67|165=>68|166=>69|170=>70|169=>71|263=>101|264=>102|206=>103|240=>104|241=>105|276=>119|277=>120|n=>n,fun|9=>9|3=>3|4=>4|20=>20|0=>0|46=>119|109=>120|5=>5|72=>124|76=>95|51=>155|146=>156|53=>36|148=>158|70=>122|37=>37|75=>54|127=>160|164=>103|80=>99|n=>n,fun|n=>n⟩
theorem Tryz.lays105:Go.Proofs.Lays.n105 Tryz.prog Tryz.lays105_ren:={
 mixed:=by kernel_rfl
 f99:=Tryz.func67.trans (congrArg some (by kernel_rfl))
 f105:=Tryz.func47.trans (congrArg some (by kernel_rfl))
 f165:=Tryz.func68.trans (congrArg some (by kernel_rfl))
 f166:=Tryz.func69.trans (congrArg some (by kernel_rfl))
 f169:=Tryz.func71.trans (congrArg some (by kernel_rfl))
 f170:=Tryz.func70.trans (congrArg some (by kernel_rfl))
 f206:=Tryz.func103.trans (congrArg some (by kernel_rfl))
 f212:=Tryz.func66.trans (congrArg some (by kernel_rfl))
 f240:=Tryz.func104.trans (congrArg some (by kernel_rfl))
 f241:=Tryz.func105.trans (congrArg some (by kernel_rfl))
 f263:=Tryz.func101.trans (congrArg some (by kernel_rfl))
 f264:=Tryz.func102.trans (congrArg some (by kernel_rfl))
 f276:=Tryz.func119.trans (congrArg some (by kernel_rfl))
 f277:=Tryz.func120.trans (congrArg some (by kernel_rfl))
 t0:=Tryz.underlying0
 a0:=Tryz.isAgg0
 z0:=Tryz.sizeOf0
 v0:=Tryz.zeroValue0
 t3:=Tryz.underlying3
 a3:=Tryz.isAgg3
 z3:=Tryz.sizeOf3
 v3:=Tryz.zeroValue3
 t4:=Tryz.underlying4
 a4:=Tryz.isAgg4
 z4:=Tryz.sizeOf4
 v4:=Tryz.zeroValue4
 t5:=Tryz.underlying5
 a5:=Tryz.isAgg5
 z5:=Tryz.sizeOf5
 v5:=Tryz.zeroValue5
 t9:=Tryz.underlying9
 a9:=Tryz.isAgg9
 z9:=Tryz.sizeOf9
 v9:=Tryz.zeroValue9
 t20:=Tryz.underlying20
 a20:=Tryz.isAgg20
 z20:=Tryz.sizeOf20
 v20:=Tryz.zeroValue20
 t37:=Tryz.underlying37
 a37:=Tryz.isAgg37
 z37:=Tryz.sizeOf37
 v37:=Tryz.zeroValue37
 t46:=Tryz.underlying119
 a46:=Tryz.isAgg119
 z46:=Tryz.sizeOf119
 v46:=Tryz.zeroValue119
 t51:=Tryz.underlying155
 a51:=Tryz.isAgg155
 z51:=Tryz.sizeOf155
 v51:=Tryz.zeroValue155
 t53:=Tryz.underlying36
 a53:=Tryz.isAgg36
 z53:=Tryz.sizeOf36
 v53:=Tryz.zeroValue36
 t70:=Tryz.underlying122
 a70:=Tryz.isAgg122
 z70:=Tryz.sizeOf122
 v70:=Tryz.zeroValue122
 t72:=Tryz.underlying124
 a72:=Tryz.isAgg124
 z72:=Tryz.sizeOf124
 v72:=Tryz.zeroValue124
 t75:=Tryz.underlying54
 a75:=Tryz.isAgg54
 z75:=Tryz.sizeOf54
 v75:=Tryz.zeroValue54
 t76:=Tryz.underlying95
 a76:=Tryz.isAgg95
 z76:=Tryz.sizeOf95
 v76:=Tryz.zeroValue95
 t109:=Tryz.underlying120
 a109:=Tryz.isAgg120
 z109:=Tryz.sizeOf120
 v109:=Tryz.zeroValue120
 t127:=Tryz.underlying160
 a127:=Tryz.isAgg160
 z127:=Tryz.sizeOf160
 v127:=Tryz.zeroValue160
 t146:=Tryz.underlying156
 a146:=Tryz.isAgg156
 z146:=Tryz.sizeOf156
 v146:=Tryz.zeroValue156
 t148:=Tryz.underlying158
 a148:=Tryz.isAgg158
 z148:=Tryz.sizeOf158
 v148:=Tryz.zeroValue158
 t164:=Tryz.underlying103
 a164:=Tryz.isAgg103
 z164:=Tryz.sizeOf103
 v164:=Tryz.zeroValue103 }
theorem Tryz.Builder_Extra_105:Builder.Extra Tryz.prog Tryz.lays105_ren:={
 sizeBuilder:=by kernel_rfl
 liesBuilder:=by kernel_rfl
 t5:=Tryz.underlying5
 a5:=Tryz.isAgg5
 z5:=Tryz.sizeOf5
 v5:=Tryz.zeroValue5
 infoByte:=by kernel_rfl
 cellsByte:=by kernel_rfl
 sizeByte:=by kernel_rfl
 neB5:=by decide }
open Go.RowKit Go.Lib in
/-- **strings.Repeat: count ≥ 0, the result within one allocation: count copies of s.** (LAID: no walk: one application.) -/
theorem Tryz.strings_Repeat (s:ByteArray) (c:Nat) (w:World) (hc:c≤9223372036854775807) (hlen:s.size*c≤140737488355328) :
  Calls Tryz.prog 47 #[.string s,.int .i64 c] w fun e w'=>e=.returned (.string ⟨(Lib.repeatL s.data.toList c).toArray⟩)∧Below w.heap.size w w':=Any.strings_Repeat Tryz.lays105 Tryz.Builder_Extra_105 s c w hc hlen
open Go.RowKit Go.Lib in
/-- **unicode/utf8.DecodeRuneInString AT EVERY STRING.** (LAID: no walk: one application.) -/
theorem Tryz.utf8_DecodeRuneInString (s:ByteArray) (w:World) (hT:Lib.Utf8Tabs 3 4 w) :
  Calls Tryz.prog 73 #[.string s] w fun e w'=>e=.returned (.tuple #[.int .i32 (Lib.decodeGo s).1,.int .i64 (Lib.decodeGo s).2])∧Below w.heap.size w w':=Any.utf8_DecodeRuneInString Tryz.lays197 s w hT
open Go.RowKit Go.Lib in
/-- **unicode.IsSpace AT EVERY int32.** (LAID: no walk: one application.) -/
theorem Tryz.unicode_IsSpace_any (r:Int) (w:World) (hlo : -2147483648≤r) (hhi:r≤2147483647) (hW:Lib.WhiteTab 2 w) :
  Calls Tryz.prog 74 #[.int .i32 r] w fun e w'=>e=.returned (.bool (Lib.isSpaceZ r))∧Below w.heap.size w w':=Any.unicode_IsSpace_any Tryz.lays199 r w hlo hhi hW
end Go.Proofs
namespace Go.Proofs.YtaamolahbkgofaaGreatDoor.texts
open Go.RowKit mem plain
/-- All bytes are below 128. -/
def asciiB (s:ByteArray):Bool:=s.data.toList.all fun c=>decide (c.toNat<128)
theorem ascii_yes (s:ByteArray) (h:∀j (hj:j<s.size),s[j].toNat<128):asciiB s=true:=by
 simp only [asciiB,List.all_eq_true,decide_eq_true_eq]
 intro c hc
 obtain ⟨j,hj,rfl⟩:=List.getElem_of_mem hc
 exact h j (by simpa using hj)
theorem ascii_no (s:ByteArray) (j:Nat) (hj:j<s.size) (h:128≤s[j].toNat):asciiB s=false:=by
 rw [Bool.eq_false_iff]
 intro hall
 simp only [asciiB,List.all_eq_true,decide_eq_true_eq] at hall
 have:=hall s[j] (by exact List.getElem_mem (l:=s.data.toList) (by simpa using hj))
 omega
set_option maxRecDepth 100000 in
theorem ascii_any (s:ByteArray) (w:World) (hs:s.size≤maxLen):Calls Tryz.prog 21 #[.string s] w fun e w'=>e=.returned (.bool (asciiB s))∧w=w':=by
 unfold maxLen at hs
 go_enter Tryz.func21,Tryz.ntmps21
 go_wp2
 go_loop [3] (fun i=>∃k:Nat,k≤s.size∧i=.int .i64 k∧Hid (∀j (hj:j<s.size),j<k→s[j].toNat<128)) (fun i=>s.size-(intOf i).toNat)
 case atStart=>exact ⟨0,Nat.zero_le _,rfl,fun j _ h=>absurd h (by omega)⟩
 case round =>
  obtain ⟨k,hk,rfl,H⟩:=hrel
  by_cases hlt:k<s.size
  ·go_wp2
   ·have h8:(128:Int)≤(s[k].toNat:Int):=by assumption
    go_ret
    exact ⟨ret_bool (ascii_no s k hlt (by omega)).symm,rfl⟩
   ·have h8:(s[k].toNat:Int)<128:=by assumption
    go_round
    case rel=>exact ⟨k+1,by omega,by go_num,fun j hj hjk=>if e:j=k then by subst e;omega else H.out j hj (by omega)⟩
    case measure=>simp [intOf];omega
  ·go_wp2
   go_ret
   exact ⟨ret_bool (ascii_yes s fun j hj=>H.out j hj (by omega)).symm,rfl⟩
/-- The capitals are the same. -/
def foldB (s t:ByteArray):Bool:=decide (upper s.data.toList=upper t.data.toList)
theorem fold_yes (s t:ByteArray) (hn:s.size=t.size) (h:∀j (hj:j<s.size) (hj':j<t.size),up s[j]=up t[j]):foldB s t=true:=by
 simp only [foldB,decide_eq_true_eq]
 refine List.ext_getElem (by simpa [upper] using hn) fun j h1 h2=>?_
 have h1':j<s.size:=by simpa [upper] using h1
 have h2':j<t.size:=by simpa [upper] using h2
 have:=h j h1' h2'
 simp only [upper,List.getElem_map]
 exact this
theorem fold_size (s t:ByteArray) (hn:¬s.size=t.size):foldB s t=false:=by
 rw [Bool.eq_false_iff]
 intro h
 simp only [foldB,decide_eq_true_eq] at h
 have:=congrArg List.length h
 simp [upper] at this
 exact hn this
theorem fold_no (s t:ByteArray) (j:Nat) (hj:j<s.size) (hj':j<t.size) (h:¬up s[j]=up t[j]):foldB s t=false:=by
 rw [Bool.eq_false_iff]
 intro he
 simp only [foldB,decide_eq_true_eq] at he
 have e1:(upper s.data.toList)[j]?=some (up s[j]):=by
  have:j<s.data.toList.length:=by simpa using hj
  simp only [upper,List.getElem?_map,List.getElem?_eq_getElem this,Option.map_some]
  rfl
 have e2:(upper t.data.toList)[j]?=some (up t[j]):=by
  have:j<t.data.toList.length:=by simpa using hj'
  simp only [upper,List.getElem?_map,List.getElem?_eq_getElem this,Option.map_some]
  rfl
 rw [he,e2] at e1
 injection e1 with e1
 exact h e1.symm
/-- What both branches of the fold of one byte make of it: as numbers. -/
theorem up_num (c:UInt8):((up c).toNat:Int)=if 97≤(c.toNat:Int)∧(c.toNat:Int)≤122 then 65+((c.toNat:Int)-97) else (c.toNat:Int):=by
 by_cases h:97≤c.toNat∧c.toNat≤122
 ·rw [up_hit h,if_pos (by omega)]
  omega
 ·rw [up_miss h,if_neg (by omega)]
theorem up_eq {c d:UInt8} (h:((up c).toNat:Int)=(up d).toNat):up c=up d:=UInt8.toNat_inj.1 (by omega)
set_option maxHeartbeats 1000000 in
set_option maxRecDepth 100000 in
theorem fold_any (s t:ByteArray) (w:World) (hs:s.size≤maxLen) :
  Calls Tryz.prog 53 #[.string s,.string t] w fun e w'=>e=.returned (.bool (foldB s t))∧∃n,w'=w.drewN n:=by
 unfold maxLen at hs
 by_cases hn:s.size=t.size
 ·have Hn:=Lib.hid hn
  have hn1:(((s.size:Nat):Int) != (t.size:Int))=false:=by simp [hn]
  have ht':¬t.size<s.size:=by omega
  have ht'':¬s.size<t.size:=by omega
  clear hn
  go_enter Tryz.func53,Tryz.ntmps53
  go_wp2
  go_loopw [5] (fun i wr=>∃k n:Nat,k≤s.size∧i=.int .i64 k∧wr=w.drewN n∧Hid (∀j (hj:j<s.size) (hj':j<t.size),j<k→up s[j]=up t[j])) (fun i _=>s.size-(intOf i).toNat)
  case atStart=>exact ⟨0,0,Nat.zero_le _,rfl,rfl,fun j _ _ h=>absurd h (by omega)⟩
  case round =>
   obtain ⟨k,n,hk,rfl,rfl,H⟩:=hrel
   by_cases hlt:k<s.size
   ·have hlt2:k<t.size:=by omega
    have U1:=Lib.hid (up_num s[k])
    have U2:=Lib.hid (up_num t[k])
    have B1:(s[k].toNat:Int)≤255:=by have:=s[k].toNat_lt;omega
    have B2:(t[k].toNat:Int)≤255:=by have:=t[k].toNat_lt;omega
    go_wp2
    go_quiet (fail)
    go_wp2
    all_goals first
     | (go_ret;refine ⟨ret_bool (fold_no s t k hlt hlt2 fun e=>?_).symm,_,rfl⟩;have e1:=congrArg (fun c:UInt8=>(c.toNat:Int)) e;simp only [U1.out,U2.out] at e1;simp only [bne_iff_ne] at *;split at e1 <;> split at e1 <;> omega)
     | (refine ⟨⟨k+1,_,by omega,by go_num,rfl,fun j hj hj' hjk=>if e:j=k then ?_ else H.out j hj hj' (by omega)⟩,by simp [intOf];omega⟩;subst e;refine up_eq ?_;rw [U1.out,U2.out];simp only [bne_eq_false_iff_eq] at *;split <;> split <;> omega)
   ·go_wp2
    go_ret
    exact ⟨ret_bool (fold_yes s t Hn.out fun j hj hj'=>H.out j hj hj' (by omega)).symm,_,rfl⟩
 ·have hn1:(((s.size:Nat):Int) != (t.size:Int))=true:=by simp;omega
  have F:=Lib.hid (fold_size s t hn)
  go_enter Tryz.func53,Tryz.ntmps53
  go_wp2
  go_ret
  exact ⟨ret_bool F.out.symm,0,rfl⟩
theorem size_list (s:ByteArray):s.data.toList.length=s.size:=by simp
set_option maxHeartbeats 1000000 in
set_option maxRecDepth 100000 in
theorem upper_any (s:ByteArray) (w:World) (hs:s.size≤maxLen) :
  Calls Tryz.prog 24 #[.string s] w fun e w'=>e=.returned (.string ⟨(upper s.data.toList).toArray⟩)∧Below w.heap.size w w':=by
 unfold maxLen at hs
 obtain ⟨cap,W1,hconv,H1⟩:=conv_bytes (P:=Tryz.prog) w 9 37 5 s Tryz.underlying9 Tryz.underlying37 Tryz.underlying5
 generalize hb:w.heap.size=b at hconv H1 ⊢
 have Hb:=Lib.hid hb
 clear hb
 have L:=Lib.hid (size_list s)
 generalize s.data.toList=l at H1 L ⊢
 go_enter Tryz.func24,Tryz.ntmps24
 go_wp2
 go_loopw [9] (fun i wr=>∃k:Nat,k≤s.size∧i=.int .i64 k∧OwnB w wr b (upTo k l)) (fun i _=>s.size-(intOf i).toNat)
 case atStart=>exact ⟨0,Nat.zero_le _,rfl,by rw [upTo_zero];exact H1⟩
 case round =>
  obtain ⟨k,hk,rfl,H⟩:=hrel
  by_cases hlt:k<s.size
  ·have hkl:k<l.length:=by have:=L.out;omega
   have hku:k<(upTo k l).length:=by rw [upTo_length];exact hkl
   have hcell:=H.cells k hku
   have hfree:=H.free k hku
   rw [upTo_get k l hkl hku] at hcell
   have Hs:=Lib.hid (fun c=>H.set k hku c)
   have S:=Lib.hid (upTo_succ k l hkl)
   have U:=Lib.hid (fun h:97≤l[k].toNat∧l[k].toNat≤122=>up_hit h)
   have M:=Lib.hid (fun h:¬(97≤l[k].toNat∧l[k].toNat≤122)=>upTo_skip k l hkl (up_miss h))
   have B1:(l[k].toNat:Int)≤255:=by have:=l[k].toNat_lt;omega
   generalize l[k]=c at hcell S U M Hs B1
   have H':=Lib.hid H
   clear H hkl hku
   go_wp2
   ·have h1:(97:Int)≤(c.toNat:Int):=by assumption
    have h2:(c.toNat:Int)≤122:=by assumption
    refine ⟨⟨k+1,by omega,by go_num, ?_⟩,by simp [intOf];omega⟩
    rw [S.out,←U.out ⟨by omega,by omega⟩]
    exact Hs.out _
   ·have h2:(122:Int)<(c.toNat:Int):=by assumption
    refine ⟨⟨k+1,by omega,by go_num, ?_⟩,by simp [intOf];omega⟩
    rw [M.out (by omega)]
    exact H'.out
   ·have h2:¬(97:Int)≤(c.toNat:Int):=by assumption
    refine ⟨⟨k+1,by omega,by go_num, ?_⟩,by simp [intOf];omega⟩
    rw [M.out (by omega)]
    exact H'.out
  ·have hkn:k=l.length:=by have:=L.out;omega
   subst hkn
   rw [upTo_all] at H
   have hback:=conv_back (P:=Tryz.prog) H 37 9 5 s.size cap (by rw [←L.out];simp [upper]) Tryz.underlying37 Tryz.underlying5 Tryz.underlying9
   have hge:s.size≤l.length:=by omega
   have HB:=Lib.hid H.below
   clear H
   go_wp2
   go_ret
   exact ⟨rfl,by rw [←Hb.out];exact HB.out⟩
/-- What turned answers: a case variant of the text, in blocks of its own. -/
def Turned (s:ByteArray) (w:World) (e:Ending) (w':World):Prop:=∃r:List UInt8,e=.returned (.string ⟨r.toArray⟩)∧CaseOf s.data.toList r∧Below w.heap.size w w'
set_option maxHeartbeats 4000000 in
set_option maxRecDepth 100000 in
theorem turned_any (s:ByteArray) (m:Int) (w:World) (hs:s.size≤maxLen) (_hm0:0≤m) (_hm1:m≤18446744073709551615) :
  Calls Tryz.prog 18 #[.string s,.int .u64 m] w (Turned s w):=by
 unfold maxLen at hs
 obtain ⟨cap,W1,hconv,H1⟩:=conv_bytes (P:=Tryz.prog) w 9 37 5 s Tryz.underlying9 Tryz.underlying37 Tryz.underlying5
 generalize hb:w.heap.size=b at hconv H1
 have Hb:=Lib.hid hb
 clear hb
 have L:=Lib.hid (size_list s)
 generalize hl:s.data.toList=l at H1 L
 have Hl:=Lib.hid hl
 clear hl
 go_enter Tryz.func18,Tryz.ntmps18
 go_wp2
 go_loopw [13] (fun i wr=>∃(k:Nat) (r:List UInt8),k≤s.size∧i=.int .i64 k∧OwnB w wr b r∧TurnTo k l r) (fun i _=>s.size-(intOf i).toNat)
 case atStart=>exact ⟨0,l,Nat.zero_le _,rfl,H1,TurnTo.zero l⟩
 case round =>
  obtain ⟨k,r,hk,rfl,H,T⟩:=hrel
  by_cases hlt:k<s.size
  ·have hkl:k<l.length:=by have:=L.out;omega
   have hkr:k<r.length:=by have:=T.1.1;omega
   have hcell:=H.cells k hkr
   have hfree:=H.free k hkr
   rw [T.2 k hkl hkr (Nat.le_refl _)] at hcell
   have Hs:=Lib.hid (fun nq c=>(H.drewN nq).set k hkr c)
   have S:=Lib.hid (fun ha:alpha l[k]=true=>T.turn hkl ha)
   have U:=Lib.hid (flip_num l[k])
   have T':=Lib.hid T.skip
   have A:=Lib.hid (show alpha l[k]=decide ((97≤l[k].toNat∧l[k].toNat≤122)∨(65≤l[k].toNat∧l[k].toNat≤90)) from rfl)
   have B1:(l[k].toNat:Int)≤255:=by have:=l[k].toNat_lt;omega
   generalize l[k]=c at hcell S U A Hs B1
   have H':=Lib.hid H
   clear H hkl hkr T
   rcases (show (c.toNat:Int)<65∨(65≤(c.toNat:Int)∧(c.toNat:Int)≤90)∨(90<(c.toNat:Int)∧(c.toNat:Int)<97)∨(97≤(c.toNat:Int)∧(c.toNat:Int)≤122)∨122<(c.toNat:Int) from by omega) with h|⟨h,h'⟩|⟨h,h'⟩|⟨h,h'⟩|h
   ·have d1:decide ((97:Int)≤(c.toNat:Int))=false:=by simp;omega
    have d3:decide ((65:Int)≤(c.toNat:Int))=false:=by simp;omega
    go_wp2
    go_quiet (fail)
    clear d1 d3
    go_wp2
    all_goals first
     | (refine ⟨⟨k+1,_,by omega,by go_num,H'.out.drewN nq,T'.out⟩,by simp [intOf];omega⟩;done)
     | (refine ⟨⟨k+1,_,by omega,by go_num, ?_,S.out (by rw [A.out];simp;omega)⟩,by simp [intOf];omega⟩;rw [U.out];exact Hs.out nq _)
   ·have d1:decide ((97:Int)≤(c.toNat:Int))=false:=by simp;omega
    have d3:decide ((65:Int)≤(c.toNat:Int))=true:=by simp;omega
    have d4:decide ((c.toNat:Int)≤90)=true:=by simp;omega
    go_wp2
    go_quiet (fail)
    clear d1 d3 d4
    go_wp2
    all_goals first
     | (refine ⟨⟨k+1,_,by omega,by go_num,H'.out.drewN nq,T'.out⟩,by simp [intOf];omega⟩;done)
     | (refine ⟨⟨k+1,_,by omega,by go_num, ?_,S.out (by rw [A.out];simp;omega)⟩,by simp [intOf];omega⟩;rw [U.out];exact Hs.out nq _)
   ·have d1:decide ((97:Int)≤(c.toNat:Int))=false:=by simp;omega
    have d3:decide ((65:Int)≤(c.toNat:Int))=true:=by simp;omega
    have d4:decide ((c.toNat:Int)≤90)=false:=by simp;omega
    go_wp2
    go_quiet (fail)
    clear d1 d3 d4
    go_wp2
    all_goals first
     | (refine ⟨⟨k+1,_,by omega,by go_num,H'.out.drewN nq,T'.out⟩,by simp [intOf];omega⟩;done)
     | (refine ⟨⟨k+1,_,by omega,by go_num, ?_,S.out (by rw [A.out];simp;omega)⟩,by simp [intOf];omega⟩;rw [U.out];exact Hs.out nq _)
   ·have d1:decide ((97:Int)≤(c.toNat:Int))=true:=by simp;omega
    have d2:decide ((c.toNat:Int)≤122)=true:=by simp;omega
    have d3:decide ((65:Int)≤(c.toNat:Int))=true:=by simp;omega
    have d4:decide ((c.toNat:Int)≤90)=false:=by simp;omega
    go_wp2
    go_quiet (fail)
    clear d1 d2 d3 d4
    go_wp2
    all_goals first
     | (refine ⟨⟨k+1,_,by omega,by go_num,H'.out.drewN nq,T'.out⟩,by simp [intOf];omega⟩;done)
     | (refine ⟨⟨k+1,_,by omega,by go_num, ?_,S.out (by rw [A.out];simp;omega)⟩,by simp [intOf];omega⟩;rw [U.out];exact Hs.out nq _)
   ·have d1:decide ((97:Int)≤(c.toNat:Int))=true:=by simp;omega
    have d2:decide ((c.toNat:Int)≤122)=false:=by simp;omega
    have d3:decide ((65:Int)≤(c.toNat:Int))=true:=by simp;omega
    have d4:decide ((c.toNat:Int)≤90)=false:=by simp;omega
    go_wp2
    go_quiet (fail)
    clear d1 d2 d3 d4
    go_wp2
    all_goals first
     | (refine ⟨⟨k+1,_,by omega,by go_num,H'.out.drewN nq,T'.out⟩,by simp [intOf];omega⟩;done)
     | (refine ⟨⟨k+1,_,by omega,by go_num, ?_,S.out (by rw [A.out];simp;omega)⟩,by simp [intOf];omega⟩;rw [U.out];exact Hs.out nq _)
  ·have hrn:r.length=s.size:=by have:=L.out;have:=T.1.1;omega
   have hback:=conv_back (P:=Tryz.prog) H 37 9 5 s.size cap hrn Tryz.underlying37 Tryz.underlying5 Tryz.underlying9
   have HB:=Lib.hid H.below
   have HT:=Lib.hid T.1
   clear H T hrn
   go_wp2
   go_ret
   exact ⟨r,rfl,by rw [Hl.out];exact HT.out,HB.out⟩
end Go.Proofs.YtaamolahbkgofaaGreatDoor.texts
namespace Go.Proofs.YtaamolahbkgofaaGreatDoor.lex
open Go.RowKit mem lines
/-! ### Bytes -/
theorem isDigit_any (a:Int) (w:World):Calls Tryz.prog 83 #[.int .u8 a] w fun e w'=>e=.returned (.bool (decide (48≤a∧a≤57)))∧w=w':=by
 go_enter Tryz.func83,Tryz.ntmps83
 go_wp2
 all_goals go_ret
 all_goals exact ⟨ret_bool (by first|(simp <;> omega)|(rw [Bool.eq_iff_iff];simp <;> omega)),rfl⟩
theorem isStart_any (a:Int) (w:World):Calls Tryz.prog 85 #[.int .u8 a] w fun e w'=>e=.returned (.bool (decide ((97≤a∧a≤122)∨(65≤a∧a≤90)∨a=95)))∧w=w':=by
 go_enter Tryz.func85,Tryz.ntmps85
 go_wp2
 all_goals go_ret
 all_goals exact ⟨ret_bool (by first|(simp <;> omega)|(rw [Bool.eq_iff_iff];simp <;> omega)),rfl⟩
theorem isPart_any (a:Int) (w:World):Calls Tryz.prog 79 #[.int .u8 a] w fun e w'=>e=.returned (.bool (decide ((48≤a∧a≤57)∨(97≤a∧a≤122)∨(65≤a∧a≤90)∨a=95)))∧w=w':=by
 go_enter Tryz.func79,Tryz.ntmps79
 go_wp2
 all_goals go_ret
 all_goals exact ⟨ret_bool (by first|(simp <;> omega)|(rw [Bool.eq_iff_iff];simp <;> omega)),rfl⟩
theorem isHex_any (a:Int) (w:World):Calls Tryz.prog 109 #[.int .u8 a] w fun e w'=>e=.returned (.bool (decide ((48≤a∧a≤57)∨(97≤a∧a≤102)∨(65≤a∧a≤70))))∧w=w':=by
 go_enter Tryz.func109,Tryz.ntmps109
 go_wp2
 all_goals go_ret
 all_goals exact ⟨ret_bool (by first|(simp <;> omega)|(rw [Bool.eq_iff_iff];simp <;> omega)),rfl⟩
theorem isOct_any (a:Int) (w:World):Calls Tryz.prog 113 #[.int .u8 a] w fun e w'=>e=.returned (.bool (decide (48≤a∧a≤55)))∧w=w':=by
 go_enter Tryz.func113,Tryz.ntmps113
 go_wp2
 all_goals go_ret
 all_goals exact ⟨ret_bool (by first|(simp <;> omega)|(rw [Bool.eq_iff_iff];simp <;> omega)),rfl⟩
/-! ### White space -/
theorem isSpace_rest (s:ByteArray) (p:Nat) (hp:p<s.size):lx.spLen (rest s p)=if Lib.isSpaceZ (Lib.decodeGo (s.extract p s.size)).1 then (Lib.decodeGo (s.extract p s.size)).2 else 0:=by
 have hne:rest s p≠[]:=by
  intro h
  have:=congrArg List.length h
  rw [rest_length] at this
  simp at this
  omega
 have e:(s.extract p s.size).size=s.size-p:=by simp
 have e2:(⟨(rest s p).toArray⟩:ByteArray)=s.extract p s.size:=by
  apply ByteArray.ext
  apply Array.ext'
  simp only [rest,ByteArray.data_extract,Array.toList_extract,List.extract_eq_take_drop]
  rw [List.take_of_length_le (by simp)]
 have hz:¬(s.extract p s.size).size=0:=by omega
 show Lib.headSpace _=_
 rw [Lib.headSpace_eq _ hne,Lib.isSpaceZ_nat]
 unfold Lib.decodeL Lib.decodeGo
 rw [e2]
 simp only [if_neg hz]
end Go.Proofs.YtaamolahbkgofaaGreatDoor.lex
namespace Go.Proofs.YtaamolahbkgofaaGreatDoor.lex
open Go.RowKit mem lines
/-- v is a slice of n bytes l in a block of the call's own (from base on); or nil, and l is empty. -/
def Row (base:Nat) (v:Value) (n:Nat) (l:List UInt8) (W:World):Prop :=
 l.length=n∧((v=.slice none 0 0∧n=0) ∨
  ∃g cap,v=.slice (some ⟨g,0,none⟩) n cap∧base≤g∧g<W.heap.size∧n≤cap∧(∀j (h:j<l.length),W.cell? ⟨g,j,none⟩=some (.int .u8 (l[j].toNat:Int))) ∧
   ∀j,n≤j→j<cap→(W.cell? ⟨g,j,none⟩).isSome=true∧W.frozen? ⟨g,j,none⟩=false)
theorem Row.nil (base:Nat) (W:World):Row base (.slice none 0 0) 0 [] W:=⟨rfl,.inl ⟨rfl,rfl⟩⟩
theorem Row.below {base n:Nat} {v:Value} {l:List UInt8} {W W':World} (h:Row base v n l W) (hb:Below W.heap.size W W'):Row base v n l W':=by
 obtain ⟨hl,h|⟨g,cap,hv,h1,h2,h3,h4,h5⟩⟩:=h
 ·exact ⟨hl,.inl h⟩
 ·refine ⟨hl,.inr ⟨g,cap,hv,h1,Nat.lt_of_lt_of_le h2 hb.size,h3,fun j hj=>(hb.cell h2).trans (h4 j hj),fun j hj1 hj2=>?_⟩⟩
  have e:=hb.block g h2
  have:=h5 j hj1 hj2
  refine ⟨by rw [hb.cell h2];exact this.1, ?_⟩
  have e2:W'.frozen? ⟨g,j,none⟩=W.frozen? ⟨g,j,none⟩:=by simp only [World.frozen?,e]
  rw [e2]
  exact this.2
theorem Row.drewN {base n:Nat} {v:Value} {l:List UInt8} {W:World} (h:Row base v n l W) (k:Nat):Row base v n l (W.drewN k):=h
theorem row_of_own {base B n:Nat} {v:Value} {xs:List Value} {l:List UInt8} {W:World} (h:W.ownsRow B 5 1 v n xs) (hx:xs=l.map fun c=>Value.int .u8 (c.toNat:Int)) (hB:base≤B):Row base v n l W:=by
 obtain ⟨h1,h|⟨g,cap,cur,hv,hg,hh,hn,hc,hs,ht⟩⟩:=h
 ·refine ⟨?_,.inl h⟩
  have:=congrArg List.length hx
  simp at this
  omega
 ·have hl:l.length=n:=by
   have:=congrArg List.length hx
   simp at this
   omega
  refine ⟨hl,.inr ⟨g,cap,hv,Nat.le_trans hB hg,lt_of_heap hh,hn,fun j hj=>?_,fun j hj1 hj2=>⟨?_,free_of_heap hh j⟩⟩⟩
  ·rw [cells_of_heap hh j]
   have e:(cur.toList.take (n*1))[j]?=(l.map fun c=>Value.int .u8 (c.toNat:Int))[j]?:=by rw [ht,hx]
   rw [List.getElem?_take,if_pos (by omega),Array.getElem?_toList] at e
   rw [e]
   simp [hj]
  ·rw [cells_of_heap hh j]
   have:j<cur.size:=by omega
   simp [this]
/-- A text turned to bytes. -/
theorem row_conv (base:Nat) (w:World) (s:ByteArray) (hb:base≤w.heap.size) :
  ∃v W1,(convert 9 37 (.string s)).run Tryz.prog w=.ok v W1∧Row base v s.size s.data.toList W1∧Below w.heap.size w W1∧(v=.slice none 0 0→False):=by
 refine ⟨_,_,run_bytes_of_string w 9 37 5 s Tryz.underlying9 Tryz.underlying37 Tryz.underlying5,⟨size_list s,.inr ⟨w.heap.size,_,rfl,hb,by simp,grownCap_ge w _ _ _,fun j hj=>?_,fun j h1 h2=>?_⟩⟩,
  ((Below.refl _ _).drew).alloc (Nat.le_refl _) _,fun h=>by cases h⟩
 ·have hnew:∀(cs:Array Value) (r:Nat × Nat),(w.drew.alloc (.cells cs 5 r)).heap[w.heap.size]?=some (.cells cs 5 r):=fun cs r=>by
   show (w.heap.push _)[w.heap.size]?=_
   simp
  simp only [World.cell?,hnew]
  exact bytesRow_cell s _ j hj
 ·have hnew:∀(cs:Array Value) (r:Nat × Nat),(w.drew.alloc (.cells cs 5 r)).heap[w.heap.size]?=some (.cells cs 5 r):=fun cs r=>by
   show (w.heap.push _)[w.heap.size]?=_
   simp
  have hle:j<(bytesRow s (grownCap w s.size 0 5)).size:=by simp [bytesRow];omega
  refine ⟨?_, ?_⟩
  ·simp only [World.cell?,hnew]
   simp [hle]
  ·simp only [World.frozen?,hnew]
   simp
   omega
theorem u8Info:(Tryz.prog.info? 5).map (fun i=>(i.zero,i.size,i.bytes))=some (some (.int .u8 0),1,1):=by kernel_rfl
def u8V (c:UInt8):Value:=.int .u8 (c.toNat:Int)
theorem one_u8 (l:List UInt8):∀u∈l.map u8V,u.oneCell'=true:=by
 intro u hu
 obtain ⟨c,_,rfl⟩:=List.mem_map.1 hu
 rfl
/-- append of some bytes to such a slice. -/
theorem wpList_append_row (w:World) {ops:Array Oper} {rest:List Oper} {o:Oper} {a:Act} {Q:Exit→Act→World→Prop} (hg:o.guard=none) (s x:Operand)
  (hop:o.op=.call { callee:=.builtin .append,args:=#[s,x],argTypes:=#[37,37] })
  (base n:Nat) (l:List UInt8) (v:Value) (hs:a.eval s=v) (hv:Row base v n l w) (hbase:base≤w.heap.size)
  (ad:Addr) (m c:Nat) (news:List UInt8) (hx:a.eval x=.slice (some ad) m c) (hn:news.length=m) (hm:0<m) (hc:∀j u,(news.map u8V)[j]?=some u→w.cell? (ad.add j)=some u)
  (hb:n+m≤1000000)
  (h:∀v' w',Row base v' (n+m) (l++news) w'→(v'=.slice none 0 0→False)→Below base w w'→wpList Tryz.prog ops Q rest (a.put o.dst v') w'):wpList Tryz.prog ops Q (o::rest) a w:=by
 obtain ⟨i0,hi,hz0,hz1,hz2⟩:=info_parts u8Info
 obtain ⟨hl,⟨rfl,rfl⟩|⟨g,cap,rfl,h1,h2,h3,h4,h5⟩⟩:=hv
 ·have hl0:l=[]:=List.length_eq_zero_iff.1 hl
  subst hl0
  refine wpList_append_grows w hg s x 37 hop 5 i0 _ 1 1 Tryz.underlying37 hi hz0 hz1 hz2 rfl (by decide) none 0 0 [] hs (fun _=>⟨rfl,rfl⟩) rfl (fun b hb=>by cases hb) ad m c (news.map u8V) hx (by simp [hn]) hc (one_u8 news) (by omega) (by unfold maxLen;omega) (by omega) ?_
  intro v' w' h6 h7
  refine h v' w' (row_of_own h6 (by simp [u8V]) hbase) (fun e=>?_) ⟨h7.os,h7.tape,h7.output,h7.size,fun i hi=>h7.block i (by omega) (by simp)⟩
  subst e
  rcases h6.2 with ⟨_,h0⟩|⟨g,cap,cur,hv,_⟩
  ·omega
  ·cases hv
 ·refine wpList_append_arg w hg s x 37 hop 5 i0 _ 1 1 Tryz.underlying37 hi hz0 hz1 hz2 rfl (by decide) g 0 n cap (l.map u8V) hs (by simp [hl]) (fun j u hj=>?_) ad m c (news.map u8V) hx (by simp [hn]) hc (one_u8 news)
   (fun hr j hj=>?_) (by unfold maxLen;omega) (by omega) (fun hr=>?_) (fun hr v' w' h6 h7=>?_)
  ·obtain ⟨j1,e⟩:=List.getElem?_eq_some_iff.1 hj
   have j2:j<l.length:=by simpa using j1
   rw [Nat.zero_add,h4 j j2,←e]
   simp [u8V]
  ·have j2:j<m:=by simpa [hn] using hj
   have:=h5 (n+j) (by omega) (by omega)
   simpa using this
  ·refine h _ _ ⟨by simp [hl,hn],.inr ⟨g,cap,rfl,h1, ?_,hr,fun j hj=>?_,fun j hj1 hj2=>?_⟩⟩ (fun e=>by cases e) (Lib.below_setCells_w h1 _ _ _)
   ·exact Nat.lt_of_lt_of_le h2 (Lib.below_setCells_w (Nat.le_refl g) _ _ _).size
   ·by_cases hjl:j<l.length
    ·rw [World.cell?_setCells_out g _ _ _ _ (fun _ _=>.inl (by simp;omega)),h4 j hjl]
     simp [hjl]
    ·have hj':j-l.length<news.length:=by simp at hj;omega
     have key:=World.cell?_setCells_in g (news.map u8V) (0+n*1) w (fun j hj=>by
      have j2:j<m:=by simpa [hn] using hj
      have:=h5 (n+j) (by omega) (by omega)
      simpa using this.1) (j-l.length) (by simpa using hj')
     have e:0+n*1+(j-l.length)=j:=by omega
     rw [e] at key
     rw [key]
     simp [u8V,List.getElem_append_right (by omega:l.length≤j)]
   ·have:=h5 j (by omega) hj2
    rw [World.frozen?_setCells,World.cell?_setCells_out g _ _ _ _ (fun _ _=>.inr (by simp [hn];omega))]
    exact this
  ·refine h v' w' (row_of_own h6 (by rw [List.map_append];rfl) hbase) (fun e=>?_) ⟨h7.os,h7.tape,h7.output,h7.size,fun i hi=>h7.block i (by omega) (by simp)⟩
   subst e
   rcases h6.2 with ⟨_,h0⟩|⟨g,cap,cur,hv,_⟩
   ·omega
   ·cases hv
/-- And back: such a slice as a text. -/
theorem row_back {base n:Nat} {v:Value} {l:List UInt8} {W:World} (h:Row base v n l W) (hv:v=.slice none 0 0→False):(convert 37 9 v).run Tryz.prog W=.ok (.string ⟨l.toArray⟩) W:=by
 obtain ⟨rfl,⟨e,_⟩|⟨g,cap,rfl,h1,h2,h3,h4,h5⟩⟩:=h
 ·exact absurd e (fun e=>hv e)
 ·refine run_convert_bytes_back W 37 9 5 ⟨g,0,none⟩ cap l Tryz.underlying37 Tryz.underlying5 Tryz.underlying9 fun j hj=>?_
  rw [←h4 j hj]
  congr 1
  simp only [Addr.add]
  split <;> simp_all
end Go.Proofs.YtaamolahbkgofaaGreatDoor.lex
namespace Go.Proofs.YtaamolahbkgofaaGreatDoor.lex
open Go.RowKit mem
set_option maxHeartbeats 8000000 in
set_option maxRecDepth 100000 in
theorem keyword_any (k:ByteArray) (w:World):Calls Tryz.prog 49 #[.string k] w fun e w'=>e=.returned (.bool (lx.keyword k.data.toList))∧w=w':=by
 go_enter Tryz.func49,Tryz.ntmps49
 go_wp2
 all_goals go_ret
 all_goals refine ⟨ret_bool ?_,rfl⟩
 all_goals rw [←Lib.toList_data]
 all_goals unfold lx.keyword lx.kws
 all_goals simp only [List.contains_cons, *,Bool.true_or,Bool.or_true,List.contains_nil,Bool.or_false]
 all_goals simp_all
end Go.Proofs.YtaamolahbkgofaaGreatDoor.lex
