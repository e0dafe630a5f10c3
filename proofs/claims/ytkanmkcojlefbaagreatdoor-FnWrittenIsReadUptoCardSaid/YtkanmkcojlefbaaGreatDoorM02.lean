/-
  Part of the proof; holds the texts Shelf2, FmtO, Sum, Hd, Acc.
-/
import Derived.Shelf.Strings.OnBuilder
import Derived.Shelf.Small.Utf8
import Derived.Shelf.Strings.BuilderK
import Derived.Shelf.Strconv.Itoa4
import Derived.Shelf.Strconv.ErrVarParseInt
import Derived.Shelf.Strings.LastIndexAll
import Derived.Shelf.Strings.Repeat
import Derived.Shelf.Path.Join
import Derived.Test.YtkanmkcojlefbaaGreatDoorM01
set_option maxRecDepth 100000
set_option linter.unusedSimpArgs false
set_option linter.unusedVariables false
namespace Go.Proofs
open Go.Shelf
def Tryz.laysM171_ren:Go.Shelf.Ren:=⟨fun|171=>190|243=>231|246=>168|283=>221|284=>222|285=>223|286=>224|129=>258|317=>257|318=>259|319=>260|320=>261|337=>288|338=>289|n=>n,fun|3=>3|9=>9|2=>2|4=>4|171=>294|0=>0|53=>124|37=>35|5=>5|173=>297|212=>335|51=>331|20=>20|213=>336|46=>167|232=>381|233=>382|n=>n,fun|17=>10|18=>14|19=>15|n=>n⟩
theorem Tryz.laysM171:Go.Proofs.LaysM.n171 Tryz.prog Tryz.laysM171_ren:= {
 mixed:=by kernel_rfl
 f129:=Tryz.func258.trans (congrArg some (by kernel_rfl))
 f171:=Tryz.func190.trans (congrArg some (by kernel_rfl))
 f243:=Tryz.func231.trans (congrArg some (by kernel_rfl))
 f246:=Tryz.func168.trans (congrArg some (by kernel_rfl))
 f283:=Tryz.func221.trans (congrArg some (by kernel_rfl))
 f284:=Tryz.func222.trans (congrArg some (by kernel_rfl))
 f285:=Tryz.func223.trans (congrArg some (by kernel_rfl))
 f286:=Tryz.func224.trans (congrArg some (by kernel_rfl))
 f317:=Tryz.func257.trans (congrArg some (by kernel_rfl))
 f318:=Tryz.func259.trans (congrArg some (by kernel_rfl))
 f319:=Tryz.func260.trans (congrArg some (by kernel_rfl))
 f320:=Tryz.func261.trans (congrArg some (by kernel_rfl))
 f337:=Tryz.func288.trans (congrArg some (by kernel_rfl))
 f338:=Tryz.func289.trans (congrArg some (by kernel_rfl))
 t0:=Tryz.underlying0
 a0:=Tryz.isAgg0
 z0:=Tryz.sizeOf0
 v0:=Tryz.zeroValue0
 t2:=Tryz.underlying2
 a2:=Tryz.isAgg2
 z2:=Tryz.sizeOf2
 v2:=Tryz.zeroValue2
 t3:=Tryz.underlying3
 a3:=Tryz.isAgg3
 z3:=Tryz.sizeOf3
 v3:=Tryz.zeroValue3
 t4:=Tryz.underlying4
 a4:=Tryz.isAgg4
 z4:=Tryz.sizeOf4
 v4:=Tryz.zeroValue4
 t5:=Tryz.underlying5
 a5:=Tryz.isAgg5
 z5:=Tryz.sizeOf5
 v5:=Tryz.zeroValue5
 t9:=Tryz.underlying9
 a9:=Tryz.isAgg9
 z9:=Tryz.sizeOf9
 v9:=Tryz.zeroValue9
 t20:=Tryz.underlying20
 a20:=Tryz.isAgg20
 z20:=Tryz.sizeOf20
 v20:=Tryz.zeroValue20
 t37:=Tryz.underlying35
 a37:=Tryz.isAgg35
 z37:=Tryz.sizeOf35
 v37:=Tryz.zeroValue35
 t46:=Tryz.underlying167
 a46:=Tryz.isAgg167
 z46:=Tryz.sizeOf167
 v46:=Tryz.zeroValue167
 t51:=Tryz.underlying331
 a51:=Tryz.isAgg331
 z51:=Tryz.sizeOf331
 v51:=Tryz.zeroValue331
 t53:=Tryz.underlying124
 a53:=Tryz.isAgg124
 z53:=Tryz.sizeOf124
 v53:=Tryz.zeroValue124
 t171:=Tryz.underlying294
 a171:=Tryz.isAgg294
 z171:=Tryz.sizeOf294
 v171:=Tryz.zeroValue294
 t173:=Tryz.underlying297
 a173:=Tryz.isAgg297
 z173:=Tryz.sizeOf297
 v173:=Tryz.zeroValue297
 t212:=Tryz.underlying335
 a212:=Tryz.isAgg335
 z212:=Tryz.sizeOf335
 v212:=Tryz.zeroValue335
 t213:=Tryz.underlying336
 a213:=Tryz.isAgg336
 z213:=Tryz.sizeOf336
 t232:=Tryz.underlying381
 a232:=Tryz.isAgg381
 z232:=Tryz.sizeOf381
 v232:=Tryz.zeroValue381
 t233:=Tryz.underlying382
 a233:=Tryz.isAgg382
 z233:=Tryz.sizeOf382
 v233:=Tryz.zeroValue382
 g17:=by kernel_rfl
 g18:=by kernel_rfl
 g19:=by kernel_rfl
 i0:=by kernel_rfl
 i2:=by kernel_rfl
 i3:=by kernel_rfl
 i4:=by kernel_rfl
 i5:=by kernel_rfl
 i9:=by kernel_rfl
 i20:=by kernel_rfl
 i37:=by kernel_rfl
 i46:=by kernel_rfl
 i51:=by kernel_rfl
 i53:=by kernel_rfl
 i171:=by kernel_rfl
 i173:=by kernel_rfl
 i212:=by kernel_rfl
 i232:=by kernel_rfl
 i233:=by kernel_rfl
 m17:=by kernel_rfl
 m18:=by kernel_rfl
 m19:=by kernel_rfl}
open Go.RowKit Go.Sort Go.Lib in
theorem Tryz.strconv_Itoa (n:Int) (h0: -9223372036854775808<=n) (h1:n<=9223372036854775807) (w:World) (AA:Lib.TabIs Tryz.prog w "internal/strconv.uint64pow10" .u64 Lib.pow10Tab):
  Calls Tryz.prog 190 #[.int .i64 n] w λe w'=>e= .returned (.string ⟨(Lib.itoa n).toArray⟩)/\∃k os,w'=grow (w.drewN k) os:=Any.strconv_Itoa Tryz.laysM171 n h0 h1 w AA
def Tryz.laysM173_ren:Go.Shelf.Ren:=⟨fun|173=>101|246=>168|283=>221|284=>222|285=>223|286=>224|129=>258|317=>257|318=>259|319=>260|320=>261|337=>288|338=>289|n=>n,fun|2=>2|3=>3|9=>9|4=>4|171=>294|0=>0|53=>124|37=>35|5=>5|173=>297|212=>335|51=>331|20=>20|213=>336|46=>167|232=>381|233=>382|n=>n,fun|17=>10|18=>14|19=>15|n=>n⟩
theorem Tryz.laysM173:Go.Proofs.LaysM.n173 Tryz.prog Tryz.laysM173_ren:= {
 mixed:=by kernel_rfl
 f129:=Tryz.func258.trans (congrArg some (by kernel_rfl))
 f173:=Tryz.func101.trans (congrArg some (by kernel_rfl))
 f246:=Tryz.func168.trans (congrArg some (by kernel_rfl))
 f283:=Tryz.func221.trans (congrArg some (by kernel_rfl))
 f284:=Tryz.func222.trans (congrArg some (by kernel_rfl))
 f285:=Tryz.func223.trans (congrArg some (by kernel_rfl))
 f286:=Tryz.func224.trans (congrArg some (by kernel_rfl))
 f317:=Tryz.func257.trans (congrArg some (by kernel_rfl))
 f318:=Tryz.func259.trans (congrArg some (by kernel_rfl))
 f319:=Tryz.func260.trans (congrArg some (by kernel_rfl))
 f320:=Tryz.func261.trans (congrArg some (by kernel_rfl))
 f337:=Tryz.func288.trans (congrArg some (by kernel_rfl))
 f338:=Tryz.func289.trans (congrArg some (by kernel_rfl))
 t0:=Tryz.underlying0
 a0:=Tryz.isAgg0
 z0:=Tryz.sizeOf0
 v0:=Tryz.zeroValue0
 t2:=Tryz.underlying2
 a2:=Tryz.isAgg2
 z2:=Tryz.sizeOf2
 v2:=Tryz.zeroValue2
 t3:=Tryz.underlying3
 a3:=Tryz.isAgg3
 z3:=Tryz.sizeOf3
 v3:=Tryz.zeroValue3
 t4:=Tryz.underlying4
 a4:=Tryz.isAgg4
 z4:=Tryz.sizeOf4
 v4:=Tryz.zeroValue4
 t5:=Tryz.underlying5
 a5:=Tryz.isAgg5
 z5:=Tryz.sizeOf5
 v5:=Tryz.zeroValue5
 t9:=Tryz.underlying9
 a9:=Tryz.isAgg9
 z9:=Tryz.sizeOf9
 v9:=Tryz.zeroValue9
 t20:=Tryz.underlying20
 a20:=Tryz.isAgg20
 z20:=Tryz.sizeOf20
 v20:=Tryz.zeroValue20
 t37:=Tryz.underlying35
 a37:=Tryz.isAgg35
 z37:=Tryz.sizeOf35
 v37:=Tryz.zeroValue35
 t46:=Tryz.underlying167
 a46:=Tryz.isAgg167
 z46:=Tryz.sizeOf167
 v46:=Tryz.zeroValue167
 t51:=Tryz.underlying331
 a51:=Tryz.isAgg331
 z51:=Tryz.sizeOf331
 v51:=Tryz.zeroValue331
 t53:=Tryz.underlying124
 a53:=Tryz.isAgg124
 z53:=Tryz.sizeOf124
 v53:=Tryz.zeroValue124
 t171:=Tryz.underlying294
 a171:=Tryz.isAgg294
 z171:=Tryz.sizeOf294
 v171:=Tryz.zeroValue294
 t173:=Tryz.underlying297
 a173:=Tryz.isAgg297
 z173:=Tryz.sizeOf297
 v173:=Tryz.zeroValue297
 t212:=Tryz.underlying335
 a212:=Tryz.isAgg335
 z212:=Tryz.sizeOf335
 v212:=Tryz.zeroValue335
 t213:=Tryz.underlying336
 a213:=Tryz.isAgg336
 z213:=Tryz.sizeOf336
 t232:=Tryz.underlying381
 a232:=Tryz.isAgg381
 z232:=Tryz.sizeOf381
 v232:=Tryz.zeroValue381
 t233:=Tryz.underlying382
 a233:=Tryz.isAgg382
 z233:=Tryz.sizeOf382
 v233:=Tryz.zeroValue382
 g17:=by kernel_rfl
 g18:=by kernel_rfl
 g19:=by kernel_rfl
 i0:=by kernel_rfl
 i2:=by kernel_rfl
 i3:=by kernel_rfl
 i4:=by kernel_rfl
 i5:=by kernel_rfl
 i9:=by kernel_rfl
 i20:=by kernel_rfl
 i37:=by kernel_rfl
 i46:=by kernel_rfl
 i51:=by kernel_rfl
 i53:=by kernel_rfl
 i171:=by kernel_rfl
 i173:=by kernel_rfl
 i212:=by kernel_rfl
 i232:=by kernel_rfl
 i233:=by kernel_rfl
 m17:=by kernel_rfl
 m18:=by kernel_rfl
 m19:=by kernel_rfl}
open Go.RowKit Go.Sort Go.Lib in
theorem Tryz.strconv_FormatInt_10 (n:Int) (h0: -9223372036854775808<=n) (h1:n<=9223372036854775807) (w:World) (AA:Lib.TabIs Tryz.prog w "internal/strconv.uint64pow10" .u64 Lib.pow10Tab):
  Calls Tryz.prog 101 #[.int .i64 n,.int .i64 10] w λe w'=>e= .returned (.string ⟨(Lib.itoa n).toArray⟩)/\∃k os,w'=grow (w.drewN k) os:=Any.strconv_FormatInt_10 Tryz.laysM173 n h0 h1 w AA
def Tryz.laysC174_ren:Go.Shelf.Ren:=⟨fun|174=>208|247=>240|245=>241|287=>278|279=>279|280=>280|281=>281|282=>282|321=>305|322=>306|316=>307|171=>190|205=>87|243=>231|246=>168|283=>221|284=>222|285=>223|286=>224|129=>258|317=>257|318=>259|319=>260|320=>261|337=>288|338=>289|n=>n,fun|9=>9|3=>3|2=>2|75=>72|85=>269|4=>4|167=>355|5=>5|53=>124|175=>351|46=>167|168=>356|37=>35|0=>0|210=>378|21=>21|127=>264|145=>247|143=>245|171=>294|173=>297|212=>335|51=>331|20=>20|213=>336|232=>381|233=>382|80=>214|n=>n,fun|15=>12|16=>13|17=>10|18=>14|19=>15|n=>n⟩
theorem Tryz.laysC174:Go.Proofs.LaysC.n174 Tryz.prog Tryz.laysC174_ren:= {
 mixed:=by kernel_rfl
 f129:=Tryz.func258.trans (congrArg some (by kernel_rfl))
 f171:=Tryz.func190.trans (congrArg some (by kernel_rfl))
 f174:=Tryz.func208.trans (congrArg some (by kernel_rfl))
 f205:=Tryz.func87.trans (congrArg some (by kernel_rfl))
 f243:=Tryz.func231.trans (congrArg some (by kernel_rfl))
 f245:=Tryz.func241.trans (congrArg some (by kernel_rfl))
 f246:=Tryz.func168.trans (congrArg some (by kernel_rfl))
 f247:=Tryz.func240.trans (congrArg some (by kernel_rfl))
 f279:=Tryz.func279.trans (congrArg some (by kernel_rfl))
 f280:=Tryz.func280.trans (congrArg some (by kernel_rfl))
 f281:=Tryz.func281.trans (congrArg some (by kernel_rfl))
 f282:=Tryz.func282.trans (congrArg some (by kernel_rfl))
 f283:=Tryz.func221.trans (congrArg some (by kernel_rfl))
 f284:=Tryz.func222.trans (congrArg some (by kernel_rfl))
 f285:=Tryz.func223.trans (congrArg some (by kernel_rfl))
 f286:=Tryz.func224.trans (congrArg some (by kernel_rfl))
 f287:=Tryz.func278.trans (congrArg some (by kernel_rfl))
 f316:=Tryz.func307.trans (congrArg some (by kernel_rfl))
 f317:=Tryz.func257.trans (congrArg some (by kernel_rfl))
 f318:=Tryz.func259.trans (congrArg some (by kernel_rfl))
 f319:=Tryz.func260.trans (congrArg some (by kernel_rfl))
 f320:=Tryz.func261.trans (congrArg some (by kernel_rfl))
 f321:=Tryz.func305.trans (congrArg some (by kernel_rfl))
 f322:=Tryz.func306.trans (congrArg some (by kernel_rfl))
 f337:=Tryz.func288.trans (congrArg some (by kernel_rfl))
 f338:=Tryz.func289.trans (congrArg some (by kernel_rfl))
 t0:=Tryz.underlying0
 a0:=Tryz.isAgg0
 z0:=Tryz.sizeOf0
 v0:=Tryz.zeroValue0
 t2:=Tryz.underlying2
 a2:=Tryz.isAgg2
 z2:=Tryz.sizeOf2
 v2:=Tryz.zeroValue2
 t3:=Tryz.underlying3
 a3:=Tryz.isAgg3
 z3:=Tryz.sizeOf3
 v3:=Tryz.zeroValue3
 t4:=Tryz.underlying4
 a4:=Tryz.isAgg4
 z4:=Tryz.sizeOf4
 v4:=Tryz.zeroValue4
 t5:=Tryz.underlying5
 a5:=Tryz.isAgg5
 z5:=Tryz.sizeOf5
 v5:=Tryz.zeroValue5
 t9:=Tryz.underlying9
 a9:=Tryz.isAgg9
 z9:=Tryz.sizeOf9
 v9:=Tryz.zeroValue9
 t20:=Tryz.underlying20
 a20:=Tryz.isAgg20
 z20:=Tryz.sizeOf20
 v20:=Tryz.zeroValue20
 t21:=Tryz.underlying21
 a21:=Tryz.isAgg21
 z21:=Tryz.sizeOf21
 v21:=Tryz.zeroValue21
 t37:=Tryz.underlying35
 a37:=Tryz.isAgg35
 z37:=Tryz.sizeOf35
 v37:=Tryz.zeroValue35
 t46:=Tryz.underlying167
 a46:=Tryz.isAgg167
 z46:=Tryz.sizeOf167
 v46:=Tryz.zeroValue167
 t51:=Tryz.underlying331
 a51:=Tryz.isAgg331
 z51:=Tryz.sizeOf331
 v51:=Tryz.zeroValue331
 t53:=Tryz.underlying124
 a53:=Tryz.isAgg124
 z53:=Tryz.sizeOf124
 v53:=Tryz.zeroValue124
 t75:=Tryz.underlying72
 a75:=Tryz.isAgg72
 z75:=Tryz.sizeOf72
 v75:=Tryz.zeroValue72
 t85:=Tryz.underlying269
 a85:=Tryz.isAgg269
 z85:=Tryz.sizeOf269
 v85:=Tryz.zeroValue269
 t127:=Tryz.underlying264
 a127:=Tryz.isAgg264
 z127:=Tryz.sizeOf264
 v127:=Tryz.zeroValue264
 t143:=Tryz.underlying245
 a143:=Tryz.isAgg245
 z143:=Tryz.sizeOf245
 v143:=Tryz.zeroValue245
 t145:=Tryz.underlying247
 a145:=Tryz.isAgg247
 z145:=Tryz.sizeOf247
 v145:=Tryz.zeroValue247
 t167:=Tryz.underlying355
 a167:=Tryz.isAgg355
 z167:=Tryz.sizeOf355
 v167:=Tryz.zeroValue355
 t168:=Tryz.underlying356
 a168:=Tryz.isAgg356
 z168:=Tryz.sizeOf356
 v168:=Tryz.zeroValue356
 t171:=Tryz.underlying294
 a171:=Tryz.isAgg294
 z171:=Tryz.sizeOf294
 v171:=Tryz.zeroValue294
 t173:=Tryz.underlying297
 a173:=Tryz.isAgg297
 z173:=Tryz.sizeOf297
 v173:=Tryz.zeroValue297
 t175:=Tryz.underlying351
 a175:=Tryz.isAgg351
 z175:=Tryz.sizeOf351
 v175:=Tryz.zeroValue351
 t210:=Tryz.underlying378
 a210:=Tryz.isAgg378
 z210:=Tryz.sizeOf378
 v210:=Tryz.zeroValue378
 t212:=Tryz.underlying335
 a212:=Tryz.isAgg335
 z212:=Tryz.sizeOf335
 v212:=Tryz.zeroValue335
 t213:=Tryz.underlying336
 a213:=Tryz.isAgg336
 z213:=Tryz.sizeOf336
 t232:=Tryz.underlying381
 a232:=Tryz.isAgg381
 z232:=Tryz.sizeOf381
 v232:=Tryz.zeroValue381
 t233:=Tryz.underlying382
 a233:=Tryz.isAgg382
 z233:=Tryz.sizeOf382
 v233:=Tryz.zeroValue382
 g15:=by kernel_rfl
 g16:=by kernel_rfl
 g17:=by kernel_rfl
 g18:=by kernel_rfl
 g19:=by kernel_rfl
 t80:=Tryz.underlying214
 a80:=Tryz.isAgg214
 z80:=Tryz.sizeOf214
 v80:=Tryz.zeroValue214
 i0:=by kernel_rfl
 i2:=by kernel_rfl
 i3:=by kernel_rfl
 i4:=by kernel_rfl
 i5:=by kernel_rfl
 i9:=by kernel_rfl
 i20:=by kernel_rfl
 i21:=by kernel_rfl
 i37:=by kernel_rfl
 i46:=by kernel_rfl
 i51:=by kernel_rfl
 i53:=by kernel_rfl
 i75:=by kernel_rfl
 i80:=by kernel_rfl
 i85:=by kernel_rfl
 i127:=by kernel_rfl
 i143:=by kernel_rfl
 i145:=by kernel_rfl
 i167:=by kernel_rfl
 i168:=by kernel_rfl
 i171:=by kernel_rfl
 i173:=by kernel_rfl
 i175:=by kernel_rfl
 i210:=by kernel_rfl
 i212:=by kernel_rfl
 i232:=by kernel_rfl
 i233:=by kernel_rfl
 m15:=by kernel_rfl
 m16:=by kernel_rfl
 m17:=by kernel_rfl
 m18:=by kernel_rfl
 m19:=by kernel_rfl
 c0:=by kernel_rfl
 c2:=by kernel_rfl
 c3:=by kernel_rfl
 c4:=by kernel_rfl
 c5:=by kernel_rfl
 c9:=by kernel_rfl
 c20:=by kernel_rfl
 c21:=by kernel_rfl
 c37:=by kernel_rfl
 c46:=by kernel_rfl
 c51:=by kernel_rfl
 c53:=by kernel_rfl
 c75:=by kernel_rfl
 c80:=by kernel_rfl
 c85:=by kernel_rfl
 c127:=by kernel_rfl
 c143:=by kernel_rfl
 c145:=by kernel_rfl
 c167:=by kernel_rfl
 c168:=by kernel_rfl
 c171:=by kernel_rfl
 c173:=by kernel_rfl
 c175:=by kernel_rfl
 c210:=by kernel_rfl
 c212:=by kernel_rfl
 c213:=by kernel_rfl
 c232:=by kernel_rfl
 c233:=by kernel_rfl}
open Go.RowKit in
theorem Tryz.strconv_ParseInt_10_at0_ok (s:ByteArray) (AA:s.size<=9223372036854775806) (v:Int) (h:Lib.parseIntB 64 s.data.toList= .ok v) (w:World):
  Calls Tryz.prog 208 #[.string s,.int .i64 10,.int .i64 0] w λe w'=>e= .returned (.tuple #[.int .i64 v,.nilIface])/\(w'=w\/∃t,w'=Lib.bytesWorld w 5 t):=Any.strconv_ParseInt_10_at0_ok Tryz.laysC174 s AA v h w
open Go.RowKit in
theorem Tryz.strconv_ParseInt_10_at64_ok (s:ByteArray) (AA:s.size<=9223372036854775806) (v:Int) (h:Lib.parseIntB 64 s.data.toList= .ok v) (w:World):
  Calls Tryz.prog 208 #[.string s,.int .i64 10,.int .i64 64] w λe w'=>e= .returned (.tuple #[.int .i64 v,.nilIface])/\(w'=w\/∃t,w'=Lib.bytesWorld w 5 t):=Any.strconv_ParseInt_10_at64_ok Tryz.laysC174 s AA v h w
def Tryz.lays148_ren:Go.Shelf.Ren:=⟨fun|148=>167|222=>192|223=>220|269=>256|n=>n,fun|9=>9|3=>3|4=>4|5=>5|146=>332|51=>331|46=>167|n=>n,fun|n=>n⟩
theorem Tryz.lays148:Go.Proofs.Lays.n148 Tryz.prog Tryz.lays148_ren:= {
 mixed:=by kernel_rfl
 f148:=Tryz.func167.trans (congrArg some (by kernel_rfl))
 f222:=Tryz.func192.trans (congrArg some (by kernel_rfl))
 f223:=Tryz.func220.trans (congrArg some (by kernel_rfl))
 f269:=Tryz.func256.trans (congrArg some (by kernel_rfl))
 t3:=Tryz.underlying3
 a3:=Tryz.isAgg3
 z3:=Tryz.sizeOf3
 v3:=Tryz.zeroValue3
 t4:=Tryz.underlying4
 a4:=Tryz.isAgg4
 z4:=Tryz.sizeOf4
 v4:=Tryz.zeroValue4
 t5:=Tryz.underlying5
 a5:=Tryz.isAgg5
 z5:=Tryz.sizeOf5
 v5:=Tryz.zeroValue5
 t9:=Tryz.underlying9
 a9:=Tryz.isAgg9
 z9:=Tryz.sizeOf9
 v9:=Tryz.zeroValue9
 t46:=Tryz.underlying167
 a46:=Tryz.isAgg167
 z46:=Tryz.sizeOf167
 v46:=Tryz.zeroValue167
 t51:=Tryz.underlying331
 a51:=Tryz.isAgg331
 z51:=Tryz.sizeOf331
 v51:=Tryz.zeroValue331
 t146:=Tryz.underlying332
 a146:=Tryz.isAgg332
 z146:=Tryz.sizeOf332
 v146:=Tryz.zeroValue332}
open Go.RowKit Go.Lib in
theorem Tryz.strings_LastIndex (s AA:ByteArray) (hs:s.size<4611686018427387904) (w:World):
  Calls Tryz.prog 167 #[.string s,.string AA] w λe w'=>e= .returned (.int .i64 (Lib.lastIndex s.data.toList AA.data.toList))/\w'=w:=Any.strings_LastIndex Tryz.lays148 s AA hs w
def Tryz.lays99_ren:Go.Shelf.Ren:=⟨fun|99=>125|206=>172|n=>n,fun|9=>9|4=>4|3=>3|n=>n,fun|n=>n⟩
theorem Tryz.lays99:Go.Proofs.Lays.n99 Tryz.prog Tryz.lays99_ren:= {
 mixed:=by kernel_rfl
 f99:=Tryz.func125.trans (congrArg some (by kernel_rfl))
 f206:=Tryz.func172.trans (congrArg some (by kernel_rfl))
 t3:=Tryz.underlying3
 a3:=Tryz.isAgg3
 z3:=Tryz.sizeOf3
 v3:=Tryz.zeroValue3
 t4:=Tryz.underlying4
 a4:=Tryz.isAgg4
 z4:=Tryz.sizeOf4
 v4:=Tryz.zeroValue4
 t9:=Tryz.underlying9
 a9:=Tryz.isAgg9
 z9:=Tryz.sizeOf9
 v9:=Tryz.zeroValue9}
open Go.RowKit Go.Lib in
theorem Tryz.strings_HasPrefix (s p:ByteArray) (w:World):
  Calls Tryz.prog 125 #[.string s,.string p] w λe w'=>e= .returned (.bool (Lib.hasPrefix s.data.toList p.data.toList))/\w'=w:=Any.strings_HasPrefix Tryz.lays99 s p w
def Tryz.lays100_ren:Go.Shelf.Ren:=⟨fun|100=>63|207=>88|n=>n,fun|9=>9|4=>4|3=>3|n=>n,fun|n=>n⟩
theorem Tryz.lays100:Go.Proofs.Lays.n100 Tryz.prog Tryz.lays100_ren:= {
 mixed:=by kernel_rfl
 f100:=Tryz.func63.trans (congrArg some (by kernel_rfl))
 f207:=Tryz.func88.trans (congrArg some (by kernel_rfl))
 t3:=Tryz.underlying3
 a3:=Tryz.isAgg3
 z3:=Tryz.sizeOf3
 v3:=Tryz.zeroValue3
 t4:=Tryz.underlying4
 a4:=Tryz.isAgg4
 z4:=Tryz.sizeOf4
 v4:=Tryz.zeroValue4
 t9:=Tryz.underlying9
 a9:=Tryz.isAgg9
 z9:=Tryz.sizeOf9
 v9:=Tryz.zeroValue9}
open Go.RowKit Go.Lib in
theorem Tryz.strings_HasSuffix (s p:ByteArray) (w:World) (hs:s.size<=9223372036854775807):
  Calls Tryz.prog 63 #[.string s,.string p] w λe w'=>e= .returned (.bool (Lib.hasSuffix s.data.toList p.data.toList))/\w'=w:=Any.strings_HasSuffix Tryz.lays100 s p w hs
def Tryz.lays105_ren:Go.Shelf.Ren:=⟨fun|105=>175|212=>225|99=>125|165=>226|166=>137|170=>227|169=>140|263=>262|264=>263|206=>172|240=>191|241=>264|276=>232|277=>290|n=>n,fun|9=>9|3=>3|4=>4|20=>20|0=>0|46=>167|109=>299|5=>5|72=>203|76=>92|51=>331|146=>332|53=>124|148=>338|70=>201|37=>35|75=>72|127=>264|164=>305|80=>214|n=>n,fun|n=>n⟩
theorem Tryz.lays105:Go.Proofs.Lays.n105 Tryz.prog Tryz.lays105_ren:= {
 mixed:=by kernel_rfl
 f99:=Tryz.func125.trans (congrArg some (by kernel_rfl))
 f105:=Tryz.func175.trans (congrArg some (by kernel_rfl))
 f165:=Tryz.func226.trans (congrArg some (by kernel_rfl))
 f166:=Tryz.func137.trans (congrArg some (by kernel_rfl))
 f169:=Tryz.func140.trans (congrArg some (by kernel_rfl))
 f170:=Tryz.func227.trans (congrArg some (by kernel_rfl))
 f206:=Tryz.func172.trans (congrArg some (by kernel_rfl))
 f212:=Tryz.func225.trans (congrArg some (by kernel_rfl))
 f240:=Tryz.func191.trans (congrArg some (by kernel_rfl))
 f241:=Tryz.func264.trans (congrArg some (by kernel_rfl))
 f263:=Tryz.func262.trans (congrArg some (by kernel_rfl))
 f264:=Tryz.func263.trans (congrArg some (by kernel_rfl))
 f276:=Tryz.func232.trans (congrArg some (by kernel_rfl))
 f277:=Tryz.func290.trans (congrArg some (by kernel_rfl))
 t0:=Tryz.underlying0
 a0:=Tryz.isAgg0
 z0:=Tryz.sizeOf0
 v0:=Tryz.zeroValue0
 t3:=Tryz.underlying3
 a3:=Tryz.isAgg3
 z3:=Tryz.sizeOf3
 v3:=Tryz.zeroValue3
 t4:=Tryz.underlying4
 a4:=Tryz.isAgg4
 z4:=Tryz.sizeOf4
 v4:=Tryz.zeroValue4
 t5:=Tryz.underlying5
 a5:=Tryz.isAgg5
 z5:=Tryz.sizeOf5
 v5:=Tryz.zeroValue5
 t9:=Tryz.underlying9
 a9:=Tryz.isAgg9
 z9:=Tryz.sizeOf9
 v9:=Tryz.zeroValue9
 t20:=Tryz.underlying20
 a20:=Tryz.isAgg20
 z20:=Tryz.sizeOf20
 v20:=Tryz.zeroValue20
 t37:=Tryz.underlying35
 a37:=Tryz.isAgg35
 z37:=Tryz.sizeOf35
 v37:=Tryz.zeroValue35
 t46:=Tryz.underlying167
 a46:=Tryz.isAgg167
 z46:=Tryz.sizeOf167
 v46:=Tryz.zeroValue167
 t51:=Tryz.underlying331
 a51:=Tryz.isAgg331
 z51:=Tryz.sizeOf331
 v51:=Tryz.zeroValue331
 t53:=Tryz.underlying124
 a53:=Tryz.isAgg124
 z53:=Tryz.sizeOf124
 v53:=Tryz.zeroValue124
 t70:=Tryz.underlying201
 a70:=Tryz.isAgg201
 z70:=Tryz.sizeOf201
 v70:=Tryz.zeroValue201
 t72:=Tryz.underlying203
 a72:=Tryz.isAgg203
 z72:=Tryz.sizeOf203
 v72:=Tryz.zeroValue203
 t75:=Tryz.underlying72
 a75:=Tryz.isAgg72
 z75:=Tryz.sizeOf72
 v75:=Tryz.zeroValue72
 t76:=Tryz.underlying92
 a76:=Tryz.isAgg92
 z76:=Tryz.sizeOf92
 v76:=Tryz.zeroValue92
 t109:=Tryz.underlying299
 a109:=Tryz.isAgg299
 z109:=Tryz.sizeOf299
 v109:=Tryz.zeroValue299
 t127:=Tryz.underlying264
 a127:=Tryz.isAgg264
 z127:=Tryz.sizeOf264
 v127:=Tryz.zeroValue264
 t146:=Tryz.underlying332
 a146:=Tryz.isAgg332
 z146:=Tryz.sizeOf332
 v146:=Tryz.zeroValue332
 t148:=Tryz.underlying338
 a148:=Tryz.isAgg338
 z148:=Tryz.sizeOf338
 v148:=Tryz.zeroValue338
 t164:=Tryz.underlying305
 a164:=Tryz.isAgg305
 z164:=Tryz.sizeOf305
 v164:=Tryz.zeroValue305}
theorem Tryz.Builder_Extra_105:Builder.Extra Tryz.prog Tryz.lays105_ren:= {
 sizeBuilder:=by kernel_rfl
 liesBuilder:=by kernel_rfl
 t5:=Tryz.underlying5
 a5:=Tryz.isAgg5
 z5:=Tryz.sizeOf5
 v5:=Tryz.zeroValue5
 infoByte:=by kernel_rfl
 cellsByte:=by kernel_rfl
 sizeByte:=by kernel_rfl
 neB5:=by decide}
open Go.RowKit Go.Lib in
theorem Tryz.strings_Repeat (s:ByteArray) (c:Nat) (w:World) (hc:c<=9223372036854775807) (AA:s.size*c<=140737488355328):
  Calls Tryz.prog 175 #[.string s,.int .i64 c] w λe w'=>e= .returned (.string ⟨(Lib.repeatL s.data.toList c).toArray⟩)/\Below w.heap.size w w':=Any.strings_Repeat Tryz.lays105 Tryz.Builder_Extra_105 s c w hc AA
def Tryz.lays187_ren:Go.Shelf.Ren:=⟨fun|187=>212|255=>242|n=>n,fun|37=>35|5=>5|3=>3|n=>n,fun|n=>n⟩
theorem Tryz.lays187:Go.Proofs.Lays.n187 Tryz.prog Tryz.lays187_ren:= {
 mixed:=by kernel_rfl
 f187:=Tryz.func212.trans (congrArg some (by kernel_rfl))
 f255:=Tryz.func242.trans (congrArg some (by kernel_rfl))
 t3:=Tryz.underlying3
 a3:=Tryz.isAgg3
 z3:=Tryz.sizeOf3
 v3:=Tryz.zeroValue3
 t5:=Tryz.underlying5
 a5:=Tryz.isAgg5
 z5:=Tryz.sizeOf5
 v5:=Tryz.zeroValue5
 t37:=Tryz.underlying35
 a37:=Tryz.isAgg35
 z37:=Tryz.sizeOf35
 v37:=Tryz.zeroValue35}
def Tryz.laysPa29_ren:Go.Shelf.Ren:=⟨fun|29=>138|45=>192|n=>n,fun|9=>9|5=>5|3=>3|4=>4|n=>n,fun|n=>n⟩
theorem Tryz.laysPa29:Go.Proofs.Lays.p29 Tryz.prog Tryz.laysPa29_ren:= {
 mixed:=by kernel_rfl
 f29:=Tryz.func138.trans (congrArg some (by kernel_rfl))
 f45:=Tryz.func192.trans (congrArg some (by kernel_rfl))
 t3:=Tryz.underlying3
 a3:=Tryz.isAgg3
 z3:=Tryz.sizeOf3
 v3:=Tryz.zeroValue3
 t4:=Tryz.underlying4
 a4:=Tryz.isAgg4
 z4:=Tryz.sizeOf4
 v4:=Tryz.zeroValue4
 t5:=Tryz.underlying5
 a5:=Tryz.isAgg5
 z5:=Tryz.sizeOf5
 v5:=Tryz.zeroValue5
 t9:=Tryz.underlying9
 a9:=Tryz.isAgg9
 z9:=Tryz.sizeOf9
 v9:=Tryz.zeroValue9}
open Go.RowKit Go.Lib in
theorem Tryz.path_Split (s:ByteArray) (w:World) (hs:s.size<=9223372036854775807):
  Calls Tryz.prog 138 #[.string s] w λe w'=>e= .returned (.tuple #[.string ⟨(Pa.split s.data.toList).1.toArray⟩,.string ⟨(Pa.split s.data.toList).2.toArray⟩])/\∃n,w'=w.drewN n:=Any.path_Split Tryz.laysPa29 s w hs
def Tryz.laysPah31_ren:Go.Shelf.Ren:=⟨fun|31=>139|30=>193|46=>233|47=>234|48=>235|n=>n,fun|26=>54|9=>9|3=>3|0=>0|4=>4|30=>35|5=>5|42=>308|48=>349|n=>n,fun|n=>n⟩
theorem Tryz.laysPah31:Go.Proofs.Lays.ph31 Tryz.prog Tryz.laysPah31_ren:= {
 mixed:=by kernel_rfl
 f30:=Tryz.func193.trans (congrArg some (by kernel_rfl))
 f31:=Tryz.func139.trans (congrArg some (by kernel_rfl))
 f46:=Tryz.func233.trans (congrArg some (by kernel_rfl))
 f47:=Tryz.func234.trans (congrArg some (by kernel_rfl))
 f48:=Tryz.func235.trans (congrArg some (by kernel_rfl))
 t0:=Tryz.underlying0
 a0:=Tryz.isAgg0
 z0:=Tryz.sizeOf0
 v0:=Tryz.zeroValue0
 t3:=Tryz.underlying3
 a3:=Tryz.isAgg3
 z3:=Tryz.sizeOf3
 v3:=Tryz.zeroValue3
 t4:=Tryz.underlying4
 a4:=Tryz.isAgg4
 z4:=Tryz.sizeOf4
 v4:=Tryz.zeroValue4
 t5:=Tryz.underlying5
 a5:=Tryz.isAgg5
 z5:=Tryz.sizeOf5
 v5:=Tryz.zeroValue5
 t9:=Tryz.underlying9
 a9:=Tryz.isAgg9
 z9:=Tryz.sizeOf9
 v9:=Tryz.zeroValue9
 t26:=Tryz.underlying54
 a26:=Tryz.isAgg54
 z26:=Tryz.sizeOf54
 v26:=Tryz.zeroValue54
 t30:=Tryz.underlying35
 a30:=Tryz.isAgg35
 z30:=Tryz.sizeOf35
 v30:=Tryz.zeroValue35
 t42:=Tryz.underlying308
 a42:=Tryz.isAgg308
 z42:=Tryz.sizeOf308
 v42:=Tryz.zeroValue308
 t48:=Tryz.underlying349
 a48:=Tryz.isAgg349
 z48:=Tryz.sizeOf349
 v48:=Tryz.zeroValue349
 info5:=by kernel_rfl}
open Go.RowKit Go.Lib in
theorem Tryz.path_Join (bk o c:Nat) (xs:List ByteArray) (w:World) (AA:∀ (j:Nat) x,xs[j]?=some x->w.cell? ⟨bk,o+j,none⟩=some (.string x)) (AC:bk<w.heap.size) (AB:Pa.lens (xs.map (·.data.toList))+xs.length<=281474976710656):
  Calls Tryz.prog 139 #[.slice (some ⟨bk,o,none⟩) xs.length c] w λe w'=>e= .returned (.string ⟨(Pa.joinL (xs.map (·.data.toList))).toArray⟩)/\Below w.heap.size w w':=Any.path_Join Tryz.laysPah31 bk o c xs w AA AC AB
theorem Tryz.bytes_IndexByte (b o n c:Nat) (xs:List Int) (cv:Int) (w:World) (hx:xs.length=n) (hc:∀i,i<n->w.cell? ⟨b,o+i,none⟩=some (.int .u8 (xs.getD i 0))):
  Calls Tryz.prog 212 #[.slice (some ⟨b,o,none⟩) n c,.int .u8 cv] w λe w'=>e= .returned (.int .i64 (Lib.indexByte (Lib.bytesOf xs) cv.toNat.toUInt8))/\w'=w:=Any.bytes_IndexByte Tryz.lays187 b o n c xs cv w hx hc
end Go.Proofs
namespace Go.Proofs.YtkanmkcojlefbaaGreatDoor
open Go.RowKit
def B8 (n:Nat) (x:Int):Bool:=decide (0<=x/\x<8^ (n-1))
theorem A2U (x:Int) (w:World) (n:Nat) (hn:n=7\/n=8\/n=12) (h0: -9223372036854775808<=x) (h1:x<=9223372036854775807):Calls Tryz.prog 100 #[.int .i64 n,.int .i64 x] w λe w'=>e= .returned (.bool (B8 n x))/\w=w':=by
 by_cases hx:0<=x
 ·rcases hn with rfl|rfl|rfl
  ·have e:B8 7 x=decide (x<262144):=by simp[B8,hx]
   rw[e];go_enter Tryz.func100,Tryz.ntmps100
   go_wp2
   go_ret
   exact⟨rfl,rfl⟩
  ·have e:B8 8 x=decide (x<2097152):=by simp[B8,hx]
   rw[e];go_enter Tryz.func100,Tryz.ntmps100
   go_wp2
   go_ret
   exact⟨rfl,rfl⟩
  ·have e:B8 12 x=decide (x<8589934592):=by simp[B8,hx]
   rw[e];go_enter Tryz.func100,Tryz.ntmps100
   go_wp2
   go_ret
   exact⟨rfl,rfl⟩
 ·have e:B8 n x=false:=by simp[B8,hx]
  rw[e];have AA: (n:Int)<=12/\(7:Int)<=n:=by omega
  go_enter Tryz.func100,Tryz.ntmps100
  go_wp2
  go_ret
  exact⟨rfl,rfl⟩
def C2 (n u:Nat):List UInt8:=List.replicate (n-1- (E3 u).length) 48++E3 u++[0]
theorem D2 (n u:Nat) (hn:2<=n) (h:u<8^ (n-1)): (C2 n u).length=n:=by
 have:=A1T (n-2) u (by rwa [show n-2+1=n-1 by omega]);simp[C2];omega
theorem A8L (c:Nat): (⟨(Lib.repeatL [48] c).toArray⟩:ByteArray)=⟨(List.replicate c (48:UInt8)).toArray⟩:=by
 congr 2
 induction c with
 |zero=>rfl
 |succ c ih=>
  have AA:Lib.repeatL [48] c=List.replicate c 48:=by simpa using ih
  show _=_
  rw[List.replicate_succ,<-AA];rfl
theorem U1 (w:World) (fb g n c:Nat) (x:Int) (T:TypeId) (AD:List Value) (AG:List UInt8) (post:List Value) (h:E4 w g T AD AG post) (hn:AG.length=n) (AJ:n=7\/n=8\/n=12) (AP:n<=c)
  (hx:B8 n x=true) (hg:g≠15) (AM:w.cell? ⟨15,7,none⟩=some (.int .u8 3)):
  Calls Tryz.prog 130 #[.pointer (some ⟨fb,0,none⟩),.slice (some ⟨g,AD.length,none⟩) n c,.int .i64 x] w λe w'=>e= .returned (.tuple #[])/\E4 w' g T AD (C2 n x.toNat) post/\Fr w.heap.size [g] w w':=by
 simp only[B8,decide_eq_true_eq] at hx;have AL:x.toNat<8^ (n-2+1):=by rw[show n-2+1=n-1 by omega];rcases AJ with rfl|rfl|rfl<;>omega
 have AX:x<8589934592:=by rcases AJ with rfl|rfl|rfl<;>omega
 have AE:=A2U x w n AJ (by omega) (by omega);rw[show B8 n x=true by simp[B8];exact hx] at AE;have hf:=A4t x w hx.1 (by omega) AM;have hl:=A1T (n-2) x.toNat AL;have AS:=A0n x.toNat;have AC:C2 n x.toNat=List.replicate (n-1- (E3 x.toNat).length) 48++E3 x.toNat++[0]:=rfl;have AI:=D2 n x.toNat (by omega) (by rwa [show n-2+1=n-1 by omega] at AL);generalize C2 n x.toNat=F at*;generalize E3 x.toNat=ds at*;have hS:∀w',Below w.heap.size w w'->E4 w' g T AD AG post:=λw' hb=>(hb.block g (A8 h)).trans h
 have AB:∀w' s,Below w.heap.size w w'->s++[0]=F->Calls Tryz.prog 129 #[.pointer (some ⟨fb,0,none⟩),.slice (some ⟨g,AD.length,none⟩) n c,str s] w' λe w2=>e= .returned (.tuple #[])/\E4 w2 g T AD F post/\Fr w.heap.size [g] w w2:=λw' s hb hs=>by
  have AU:s.length+1=n:=by rw[<-AI,<-hs];simp
  refine(W8 w' fb g n c s T AD AG post (hS w' hb) hn AP (by omega) (by omega)).mono ?_;rintro e w2 ⟨rfl,h1,h2⟩;rw[List.drop_eq_nil_of_le (by omega),hs] at h1;exact⟨rfl,h1,(Fr.of_below hb _ _).trans (h2.wide hb.size (by simp))⟩
 have AT: (n:Int)<=12/\(7:Int)<=n:=by omega
 have AV:IntKind.i64.wrap ((n:Int)-ds.length)=(n:Int)-ds.length:=by rw[zQ _ (by omega)]
 have AW:IntKind.i64.wrap ((n:Int)-ds.length-1)=(n:Int)-ds.length-1:=by rw[zQ _ (by omega)]
 go_enter Tryz.func130,Tryz.ntmps130
 go_wp2_with fail
 refine AE.mono ?_;rintro e w1 ⟨rfl,rfl⟩;go_wp2_with fail
 refine hf.mono ?_;rintro e w1 ⟨rfl,AH⟩;by_cases hz:ds.length+1<n
 ·have AQ: (0:Int)< (n:Int)-ds.length-1:=by omega
  have AA:=λw'=>Tryz.strings_Repeat ⟨[48].toArray⟩ (n-1-ds.length) w' (by omega) (by simp[ByteArray.size];omega);rw[show(((n-1-ds.length:Nat)):Int)=(n:Int)-ds.length-1 by omega] at AA;simp only[List.toList_toArray] at AA;rw[A8L] at AA;go_wp2_with fail
  refine(AA _).mono ?_;rintro e w2 ⟨rfl,AO⟩;go_wp2_with fail
  rw[V5];refine(AB _ (List.replicate (n-1-ds.length) 48++ds) (AH.trans (AO.mono AH.size)) AC.symm).mono ?_;rintro e w3 ⟨rfl,h3,h4⟩;go_wp2_with fail
  go_end0
  exact⟨rfl,h3,h4⟩
 ·have AQ:¬(0:Int)< (n:Int)-ds.length-1:=by omega
  have AR:n-1-ds.length=0:=by omega
  rw[AR] at AC;go_wp2_with fail
  refine(AB _ ds AH (by rw[AC];rfl)).mono ?_;rintro e w3 ⟨rfl,h3,h4⟩;go_wp2_with fail
  go_end0
  exact⟨rfl,h3,h4⟩
theorem A4R (w:World) (fb g n c:Nat) (x:Int) (T:TypeId) (AC:List Value) (AI:List UInt8) (post:List Value) (AP:Value) (aE:Addr) (h:E4 w g T AC AI post) (hn:AI.length=n) (AW:n=7\/n=8\/n=12) (AX:n<=c)
  (AY: -9223372036854775808<=x) (AZ:x<=9223372036854775807) (hx:B8 n x=false) (AT:w.cell? ⟨15,7,none⟩=some (.int .u8 3))
  (AE:w.heap[fb]?=some (.cells #[AP] 196 (0,0))) (AR:fb≠g) (AM:fb≠15) (hE:w.cell? ⟨3,0,none⟩=some (I7 aE)):
  Calls Tryz.prog 130 #[.pointer (some ⟨fb,0,none⟩),.slice (some ⟨g,AC.length,none⟩) n c,.int .i64 x] w λe w'=>e= .returned (.tuple #[])/\E4 w' g T AC (C2 n 0) post/\w'.heap[fb]?=some (.cells #[I7 aE] 196 (0,0))/\Fr w.heap.size [g,fb] w w':=by
 have AG:=A2U x w n AW AY AZ;rw[hx] at AG;have Ad:w.cell? ⟨fb,0,none⟩=some AP:=by rw[zA AE];rfl
 have Al:w.frozen? ⟨fb,0,none⟩=false:=zE AE 0;have AA:=B6 (i:=0) (I7 aE) AE;have h0:E4 (w.setCell ⟨fb,0,none⟩ (I7 aE)) g T AC AI post:=(C0 _ (Ne.symm AR)).trans h;have AL:Fr w.heap.size [g,fb] w (w.setCell ⟨fb,0,none⟩ (I7 aE)):=(Fr.refl _ _ w).setCell (.inl (by simp)) _;have AJ: (w.setCell ⟨fb,0,none⟩ (I7 aE)).cell? ⟨15,7,none⟩=some (.int .u8 3):=by rw[zZ (w:=w) (C0 _ (by simpa using Ne.symm AM))];exact AT
 have hf:=A4t 0 (w.setCell ⟨fb,0,none⟩ (I7 aE)) (by omega) (by omega) AJ;have AO:=D2 n 0 (by omega) (Nat.pow_pos (by omega));have AD:C2 n 0=List.replicate (n-1- (E3 0).length) 48++E3 0++[0]:=rfl;have AV: (E3 0).length=1:=by rw[U4 (by omega)];rfl
 simp only[Int.toNat_zero] at hf;generalize C2 n 0=F at*;generalize E3 0=ds at*;have Ag: (w.setCell ⟨fb,0,none⟩ (I7 aE)).heap.size=w.heap.size:=by simp[World.setCell]
 generalize Ah:w.setCell ⟨fb,0,none⟩ (I7 aE)=w1 at*
 have AH:∀w' s,Below w1.heap.size w1 w'->s++[0]=F->Calls Tryz.prog 129 #[.pointer (some ⟨fb,0,none⟩),.slice (some ⟨g,AC.length,none⟩) n c,str s] w' λe w2=>e= .returned (.tuple #[])/\E4 w2 g T AC F post/\w2.heap[fb]?=some (.cells #[I7 aE] 196 (0,0))/\Fr w.heap.size [g,fb] w w2:=λw' s hb hs=>by
  have Af:s.length+1=n:=by rw[<-AO,<-hs];simp
  refine(W8 w' fb g n c s T AC AI post ((hb.block g (A8 h0)).trans h0) hn AX (by omega) (by omega)).mono ?_;rintro e w2 ⟨rfl,h1,h2⟩;rw[List.drop_eq_nil_of_le (by omega),hs] at h1;have h3:=h2.cells ((hb.block fb (A8 AA)).trans AA) (by simpa using AR) (.inr (by decide));exact⟨rfl,h1,h3,(AL.trans (Fr.of_below hb _ _)).trans (h2.wide (by have:=hb.size;omega) (by simp))⟩
 have Ae: (n:Int)<=12/\(7:Int)<=n:=by omega
 have Ac: (ds.length:Int)=1:=by omega
 have Ai:IntKind.i64.wrap ((n:Int)-1)=(n:Int)-1:=by rw[zQ _ (by omega)]
 have Aj:IntKind.i64.wrap ((n:Int)-1-1)=(n:Int)-1-1:=by rw[zQ _ (by omega)]
 have Ak: (0:Int)< (n:Int)-1-1:=by omega
 have AB:=λw'=>Tryz.strings_Repeat ⟨[48].toArray⟩ (n-1-1) w' (by omega) (by simp[ByteArray.size];omega);rw[show(((n-1-1:Nat)):Int)=(n:Int)-1-1 by omega] at AB;simp only[List.toList_toArray] at AB;rw[A8L] at AB;rw[AV] at AD;have Hh:=A0 h;have Ab:=A0 h0;have HF:=A0 AL;have Aa:=A0 AE;have AS:=A0 AA;clear h h0 AL AE AA;go_enter Tryz.func130,Tryz.ntmps130
 go_wp2_with fail
 refine AG.mono ?_;rintro e w1 ⟨rfl,rfl⟩;go_wp2_with fail
 refine hf.mono ?_;rintro e w2 ⟨rfl,AQ⟩;go_wp2_with fail
 refine(AB _).mono ?_;rintro e w3 ⟨rfl,AU⟩;go_wp2_with fail
 rw[V5];refine(AH _ (List.replicate (n-1-1) 48++ds) (AQ.trans (AU.mono AQ.size)) AD.symm).mono ?_;rintro e w4 ⟨rfl,h3,h4,h5⟩;go_wp2_with fail
 go_end0
 exact⟨rfl,h3,h4,h5⟩
theorem N0 (w:World) (fb g n c:Nat) (x:Int) (T:TypeId) (AB:List Value) (AD:List UInt8) (post:List Value) (AC:Value) (aE:Addr) (h:E4 w g T AB AD post) (hn:AD.length=n) (AI:n=7\/n=8\/n=12) (AJ:n<=c)
  (AO: -9223372036854775808<=x) (AP:x<=9223372036854775807) (hg:g≠15) (AG:w.cell? ⟨15,7,none⟩=some (.int .u8 3))
  (AH:w.heap[fb]?=some (.cells #[AC] 196 (0,0))) (AL:fb≠g) (AE:fb≠15) (hE:w.cell? ⟨3,0,none⟩=some (I7 aE)):
  Calls Tryz.prog 130 #[.pointer (some ⟨fb,0,none⟩),.slice (some ⟨g,AB.length,none⟩) n c,.int .i64 x] w λe w'=>e= .returned (.tuple #[])/\
   ∃AA,(B8 n x=true->AA=AC)/\E4 w' g T AB (C2 n (if B8 n x then x.toNat else 0)) post/\w'.heap[fb]?=some (.cells #[AA] 196 (0,0))/\Fr w.heap.size [g,fb] w w':=by
 by_cases hx:B8 n x=true
 ·refine(U1 w fb g n c x T AB AD post h hn AI AJ hx hg AG).mono ?_
  rintro e w' ⟨rfl,h1,h2⟩;rw[hx];exact⟨rfl,AC,λ_=>rfl,h1,h2.cells AH (by simpa using AL) (.inr (by decide)),h2.wide (zB _) (by simp)⟩
 ·have AM:B8 n x=false:=by simpa using hx
  refine(A4R w fb g n c x T AB AD post AC aE h hn AI AJ AO AP AM AG AH AL AE hE).mono ?_;rintro e w' ⟨rfl,h1,h2,h3⟩;rw[AM];exact⟨rfl,I7 aE,(λh=>by cases h),h1,h2,h3⟩
def A4q (bs:List UInt8) (k:Nat):Nat:=if 148<=k/\k<156 then 32 else(bs.getD k 0).toNat
def X8 (bs:List UInt8):Nat->Nat
 |0=>0
 |k+1=>X8 bs k+A4q bs k
theorem B3v (bs:List UInt8) (k:Nat):A4q bs k<=255:=by
 rw[A4q];split
 ·omega
 ·have:=(bs.getD k 0).toNat_lt;omega
theorem A0l (bs:List UInt8):∀k,X8 bs k<=255*k
 |0=>zB _
 |k+1=>by have:=A0l bs k;have:=B3v bs k;rw[X8];omega
theorem A2w (w:World) (g:Nat) (T:TypeId) (AE:List Value) (bs:List UInt8) (post:List Value) (h:E4 w g T AE bs post) (hn:bs.length=512):
  Calls Tryz.prog 185 #[.pointer (some ⟨g,AE.length,none⟩)] w λe w'=>(∃z:Int,e= .returned (.tuple #[.int .i64 (X8 bs 512),.int .i64 z]))/\A1h w w':=by
 have H:=A0 h;clear h;go_enter Tryz.func185,Tryz.ntmps185
 go_wp2_with fail
 go_loopw [2,3,7] (λa b i wr=>∃ (k:Nat) (z:Int),k<=512/\a= .int .i64 (X8 bs k)/\b= .int .i64 z/\i= .int .i64 k/\A1h w wr) (λ_ _ i _=>512- (intOf i).toNat)
 case atStart=>exact⟨0,0,by omega,rfl,rfl,rfl,A1h.refl w⟩
 case round=>
  obtain⟨k,z,hk,rfl,rfl,rfl,hd⟩:=hrel;have AA:=A0 hd;by_cases AJ:k<512
  ·have AH: (k:Int)<512:=by omega
   obtain⟨x,hx⟩:∃x,bs[k]?=some x:=⟨_,zF (by omega)⟩
   have hc:wr.cell? ⟨g,AE.length+k,none⟩=some (.int .u8 x.toNat):=by
    obtain⟨nd,rfl⟩:=hd;exact H.out.cell k x hx
   have AI:=A0l bs k;have AL:=x.toNat_lt;have e1:X8 bs (k+1)=X8 bs k+A4q bs k:=rfl;by_cases AG:148<=k/\k<156
   ·have AB: (148:Int)<=k:=by omega
    have AC: (k:Int)<156:=by omega
    have e2:A4q bs k=32:=by rw[A4q,if_pos AG]
    have E:=A0 (e1.trans (by rw[e2]));clear hd hx e1 e2;go_wp2_with fail
    go_quiet (fail)
    go_wp2_with fail
    go_roundw
    case rel=>exact⟨k+1,_,by omega,by rw[E.out];rfl,rfl,by go_num,AA.out.next _⟩
    case measure=>simp[intOf];omega
   ·have e2:A4q bs k=x.toNat:=by rw[A4q,if_neg AG,List.getD_eq_getElem?_getD,hx];rfl
    have E:=A0 (e1.trans (by rw[e2]));clear hd hx e1 e2;by_cases AB:148<=k
    ·have AD: (148:Int)<=k:=by omega
     have AC:¬(k:Int)<156:=by omega
     go_wp2_with fail
     go_quiet (fail)
     go_wp2_with fail
     go_roundw
     case rel=>exact⟨k+1,_,by omega,by rw[E.out];rfl,rfl,by go_num,AA.out.next _⟩
     case measure=>simp[intOf];omega
    ·have AD:¬(148:Int)<=k:=by omega
     go_wp2_with fail
     go_quiet (fail)
     go_wp2_with fail
     go_roundw
     case rel=>exact⟨k+1,_,by omega,by rw[E.out];rfl,rfl,by go_num,AA.out.next _⟩
     case measure=>simp[intOf];omega
  ·have AH:¬(k:Int)<512:=by omega
   obtain rfl:k=512:=by omega
   clear hd;go_wp2_with fail
   go_ret2
   exact⟨⟨z,rfl⟩,AA.out⟩
def C4 (w:World) (v:Value) (e:Ending) (w':World):Prop:=e= .returned v/\w=w'
def A8x (n:Nat):Code->Bool
 | .region k _ _=>k==n
 | .seq a _=>A8x n a
 |_=>false
def I2 (n:Nat):Code->Code
 | .seq a b=>match A8x n a with
  |true=> .seq a b
  |false=>I2 n b
 |c=>c
structure Hd where
 typ:Int
 name:List UInt8
 link:List UInt8
 size:Int
 mode:Int
 uid:Int
 gid:Int
 user:List UInt8
 group:List UInt8
 mw:Int
 mx:Int
 aw:Int
 ax:Int
 cw:Int
 cx:Int
 maj:Int
 mnr:Int
 xattr:Value
 recs:Value
 fmt:Int
def Hd.cells (h:Hd):List Value:=[.int .u8 h.typ,str h.name,str h.link,.int .i64 h.size,.int .i64 h.mode,.int .i64 h.uid,.int .i64 h.gid,str h.user,str h.group,.int .u64 h.mw,.int .i64 h.mx,.int .u64 h.aw,.int .i64 h.ax,.int .u64 h.cw,.int .i64 h.cx,.int .i64 h.maj,.int .i64 h.mnr,h.xattr,h.recs,.int .i64 h.fmt]
def N6 (l:List UInt8):Nat:=if 156<l.length then 156 else if l[l.length-1]?=some 47 then l.length-1 else l.length
def M4 (l:List UInt8):Int:=Lib.lastIndex (l.take (N6 l)) [47]
def J2 (l:List UInt8):Bool:=decide (100<l.length)&&D6 l&&decide (0<M4 l/\(l.length:Int)-M4 l-1<=100/\(l.length:Int)-M4 l-1≠0/\M4 l<=155)
def U8 (l:List UInt8) (w:World) (e:Ending) (w':World):Prop:=
 e= .returned (if J2 l then .tuple #[str (l.take (M4 l).toNat),str (l.drop ((M4 l).toNat+1)),.bool true] else .tuple #[str [],str [],.bool false])/\Below w.heap.size w w'
theorem A5Z (w:World) (a:Addr):Calls Tryz.prog 106 #[.pointer (some a)] w (C4 w (.pointer (some a))):=by
 go_enter Tryz.func106,Tryz.ntmps106
 go_wp2_with fail
 go_ret
 exact⟨rfl,rfl⟩
theorem Z0 (w:World) (a:Addr):Calls Tryz.prog 107 #[.pointer (some a)] w (C4 w (.pointer (some a))):=by
 go_enter Tryz.func107,Tryz.ntmps107
 go_wp2_with fail
 go_ret
 exact⟨rfl,rfl⟩
theorem A8Y (w:World) (a:Addr):Calls Tryz.prog 108 #[.pointer (some a)] w (C4 w (.pointer (some a))):=by
 go_enter Tryz.func108,Tryz.ntmps108
 go_wp2_with fail
 go_ret
 exact⟨rfl,rfl⟩
theorem B3W (w:World) (a:Addr):Calls Tryz.prog 178 #[.pointer (some a)] w (C4 w (.pointer (some a))):=by
 go_enter Tryz.func178,Tryz.ntmps178
 go_wp2_with fail
 go_ret
 exact⟨rfl,rfl⟩
theorem A0q (w:World) (g o:Nat):Calls Tryz.prog 109 #[.pointer (some ⟨g,o,none⟩)] w (C4 w (.slice (some ⟨g,o,none⟩) 100 512)):=by
 go_enter Tryz.func109,Tryz.ntmps109
 go_wp2_with fail
 go_ret
 exact⟨rfl,rfl⟩
theorem A1a (w:World) (g o:Nat):Calls Tryz.prog 110 #[.pointer (some ⟨g,o,none⟩)] w (C4 w (.slice (some ⟨g,o+157,none⟩) 100 355)):=by
 go_enter Tryz.func110,Tryz.ntmps110
 go_wp2_with fail
 go_ret
 exact⟨rfl,rfl⟩
theorem A0F (w:World) (g o:Nat):Calls Tryz.prog 113 #[.pointer (some ⟨g,o,none⟩)] w (C4 w (.slice (some ⟨g,o+100,none⟩) 8 412)):=by
 go_enter Tryz.func113,Tryz.ntmps113
 go_wp2_with fail
 go_ret
 exact⟨rfl,rfl⟩
theorem A1g (w:World) (g o:Nat):Calls Tryz.prog 114 #[.pointer (some ⟨g,o,none⟩)] w (C4 w (.slice (some ⟨g,o+108,none⟩) 8 404)):=by
 go_enter Tryz.func114,Tryz.ntmps114
 go_wp2_with fail
 go_ret
 exact⟨rfl,rfl⟩
theorem A1f (w:World) (g o:Nat):Calls Tryz.prog 115 #[.pointer (some ⟨g,o,none⟩)] w (C4 w (.slice (some ⟨g,o+116,none⟩) 8 396)):=by
 go_enter Tryz.func115,Tryz.ntmps115
 go_wp2_with fail
 go_ret
 exact⟨rfl,rfl⟩
theorem A0G (w:World) (g o:Nat):Calls Tryz.prog 116 #[.pointer (some ⟨g,o,none⟩)] w (C4 w (.slice (some ⟨g,o+124,none⟩) 12 388)):=by
 go_enter Tryz.func116,Tryz.ntmps116
 go_wp2_with fail
 go_ret
 exact⟨rfl,rfl⟩
theorem V8 (w:World) (g o:Nat):Calls Tryz.prog 119 #[.pointer (some ⟨g,o,none⟩)] w (C4 w (.slice (some ⟨g,o+136,none⟩) 12 376)):=by
 go_enter Tryz.func119,Tryz.ntmps119
 go_wp2_with fail
 go_ret
 exact⟨rfl,rfl⟩
theorem B0M (w:World) (g o:Nat):Calls Tryz.prog 184 #[.pointer (some ⟨g,o,none⟩)] w (C4 w (.slice (some ⟨g,o+148,none⟩) 8 364)):=by
 go_enter Tryz.func184,Tryz.ntmps184
 go_wp2_with fail
 go_ret
 exact⟨rfl,rfl⟩
theorem A3t (w:World) (g o:Nat):Calls Tryz.prog 174 #[.pointer (some ⟨g,o,none⟩)] w (C4 w (.slice (some ⟨g,o+156,none⟩) 1 356)):=by
 go_enter Tryz.func174,Tryz.ntmps174
 go_wp2_with fail
 go_ret
 exact⟨rfl,rfl⟩
theorem A3T (w:World) (g o:Nat):Calls Tryz.prog 111 #[.pointer (some ⟨g,o,none⟩)] w (C4 w (.slice (some ⟨g,o+265,none⟩) 32 247)):=by
 go_enter Tryz.func111,Tryz.ntmps111
 go_wp2_with fail
 go_ret
 exact⟨rfl,rfl⟩
theorem A1Z (w:World) (g o:Nat):Calls Tryz.prog 112 #[.pointer (some ⟨g,o,none⟩)] w (C4 w (.slice (some ⟨g,o+297,none⟩) 32 215)):=by
 go_enter Tryz.func112,Tryz.ntmps112
 go_wp2_with fail
 go_ret
 exact⟨rfl,rfl⟩
theorem A7I (w:World) (g o:Nat):Calls Tryz.prog 117 #[.pointer (some ⟨g,o,none⟩)] w (C4 w (.slice (some ⟨g,o+329,none⟩) 8 183)):=by
 go_enter Tryz.func117,Tryz.ntmps117
 go_wp2_with fail
 go_ret
 exact⟨rfl,rfl⟩
theorem A7J (w:World) (g o:Nat):Calls Tryz.prog 118 #[.pointer (some ⟨g,o,none⟩)] w (C4 w (.slice (some ⟨g,o+337,none⟩) 8 175)):=by
 go_enter Tryz.func118,Tryz.ntmps118
 go_wp2_with fail
 go_ret
 exact⟨rfl,rfl⟩
theorem A7K (w:World) (g o:Nat):Calls Tryz.prog 131 #[.pointer (some ⟨g,o,none⟩)] w (C4 w (.slice (some ⟨g,o+345,none⟩) 155 167)):=by
 go_enter Tryz.func131,Tryz.ntmps131
 go_wp2_with fail
 go_ret
 exact⟨rfl,rfl⟩
theorem A9l (w:World) (g o:Nat):Calls Tryz.prog 182 #[.pointer (some ⟨g,o,none⟩)] w (C4 w (.slice (some ⟨g,o+257,none⟩) 6 255)):=by
 go_enter Tryz.func182,Tryz.ntmps182
 go_wp2_with fail
 go_ret
 exact⟨rfl,rfl⟩
theorem A5a (w:World) (g o:Nat):Calls Tryz.prog 183 #[.pointer (some ⟨g,o,none⟩)] w (C4 w (.slice (some ⟨g,o+263,none⟩) 2 249)):=by
 go_enter Tryz.func183,Tryz.ntmps183
 go_wp2_with fail
 go_ret
 exact⟨rfl,rfl⟩
theorem B5S (w:World) (g o:Nat):Calls Tryz.prog 176 #[.pointer (some ⟨g,o,none⟩)] w (C4 w (.slice (some ⟨g,o+257,none⟩) 6 255)):=by
 go_enter Tryz.func176,Tryz.ntmps176
 go_wp2_with fail
 go_ret
 exact⟨rfl,rfl⟩
theorem B2N (w:World) (g o:Nat):Calls Tryz.prog 177 #[.pointer (some ⟨g,o,none⟩)] w (C4 w (.slice (some ⟨g,o+263,none⟩) 2 249)):=by
 go_enter Tryz.func177,Tryz.ntmps177
 go_wp2_with fail
 go_ret
 exact⟨rfl,rfl⟩
theorem A6r (w:World) (g o:Nat):Calls Tryz.prog 120 #[.pointer (some ⟨g,o,none⟩)] w (C4 w (.slice (some ⟨g,o+345,none⟩) 12 167)):=by
 go_enter Tryz.func120,Tryz.ntmps120
 go_wp2_with fail
 go_ret
 exact⟨rfl,rfl⟩
theorem A6s (w:World) (g o:Nat):Calls Tryz.prog 121 #[.pointer (some ⟨g,o,none⟩)] w (C4 w (.slice (some ⟨g,o+357,none⟩) 12 155)):=by
 go_enter Tryz.func121,Tryz.ntmps121
 go_wp2_with fail
 go_ret
 exact⟨rfl,rfl⟩
theorem A8P (w:World) (g o:Nat):Calls Tryz.prog 181 #[.pointer (some ⟨g,o,none⟩)] w (C4 w (.slice (some ⟨g,o+508,none⟩) 4 4)):=by
 go_enter Tryz.func181,Tryz.ntmps181
 go_wp2_with fail
 go_ret
 exact⟨rfl,rfl⟩
end Go.Proofs.YtkanmkcojlefbaaGreatDoor
