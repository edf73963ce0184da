/- Part of the proof that laws.FnSchemaAgain answers true. Conditions: none. -/
import Derived.Shelf.Strings.Builder1
import Derived.Shelf.Strings.Builder2
import Derived.Shelf.Strings.OnBuilder
import Derived.Shelf.Small.Utf8
import Derived.Shelf.Strings.BuilderF
import Derived.Shelf.Strings.BuilderK
import Derived.Shelf.Utf8.AppendRunePlain
import Derived.Shelf.LaysM
import Derived.Shelf.Bytes.Len
import Derived.Shelf.Bytes.TryGrow
import Derived.Shelf.Bytes.GrowSliceCatch
import Derived.Shelf.Bytes.GrowSlice
import Derived.Shelf.Bytes.GrowRow0
import Derived.Shelf.Bytes.GrowRow
import Derived.Shelf.Bytes.GrowNil
import Derived.Shelf.Bytes.Grow
import Derived.Shelf.Bytes.WriteByte
import Derived.Shelf.Bytes.WriteString
import Derived.Shelf.Bytes.String
import Derived.Shelf.Bytes.GrowRow0Kept
import Derived.Shelf.Bytes.GrowRowKept
import Derived.Shelf.Bytes.GrowNilKept
import Derived.Shelf.Bytes.GrowKept
import Derived.Shelf.Bytes.WriteByteKept
import Derived.Shelf.Bytes.WriteStringKept
import Derived.Shelf.Bytes.ResetKept
import Derived.Shelf.Bytes.WriteKept
import Derived.Shelf.Bytes.BufferK
import Derived.Shelf.Bytes.GrowRow0Own
import Derived.Shelf.Bytes.GrowRowOwn
import Derived.Shelf.Bytes.GrowNilOwn
import Derived.Shelf.Bytes.GrowOwn
import Derived.Ground.MzProg
import Derived.Shelf.Wr.WriteRuneAscii
import Derived.Shelf.Wr.WriteRune
import Derived.Shelf.Strings.Prefix
import Derived.Shelf.Bits.Mul64
import Derived.Shelf.Strings.Repeat
import Derived.Shelf.Unicode.DecodeSlow
import Derived.Shelf.Unicode.DecodeAny
import Derived.Shelf.Unicode.DecodeLast
import Derived.Test.YtdpmeahgjjmdiaaGreatDoorProg
set_option linter.all false
namespace Go.Proofs
open Go.Shelf
def Tryz.lZ:Go.Shelf.Ren:=⟨λ|165=>214|240=>227|241=>228|276=>231|277=>232|n=>n,λ|70=>78|3=>3|0=>0|4=>4|9=>9|20=>20|72=>81|37=>79|164=>369|5=>5|n=>n,λ|n=>n⟩
theorem Tryz.yY:Go.Proofs.Lays.n165 Tryz.prog Tryz.lZ:={
 mixed:=by kernel_rfl
 f165:=Tryz.func214.trans (congrArg some (by kernel_rfl))
 f240:=Tryz.func227.trans (congrArg some (by kernel_rfl))
 f241:=Tryz.func228.trans (congrArg some (by kernel_rfl))
 f276:=Tryz.func231.trans (congrArg some (by kernel_rfl))
 f277:=Tryz.func232.trans (congrArg some (by kernel_rfl))
 t0:=Tryz.underlying0
 a0:=Tryz.isAgg0
 z0:=Tryz.sizeOf0
 v0:=Tryz.zeroValue0
 t3:=Tryz.underlying3
 a3:=Tryz.isAgg3
 z3:=Tryz.sizeOf3
 v3:=Tryz.zeroValue3
 t4:=Tryz.underlying4
 a4:=Tryz.isAgg4
 z4:=Tryz.sizeOf4
 v4:=Tryz.zeroValue4
 t9:=Tryz.underlying9
 a9:=Tryz.isAgg9
 z9:=Tryz.sizeOf9
 v9:=Tryz.zeroValue9
 t20:=Tryz.underlying20
 a20:=Tryz.isAgg20
 z20:=Tryz.sizeOf20
 v20:=Tryz.zeroValue20
 t37:=Tryz.underlying79
 a37:=Tryz.isAgg79
 z37:=Tryz.sizeOf79
 v37:=Tryz.zeroValue79
 t70:=Tryz.underlying78
 a70:=Tryz.isAgg78
 z70:=Tryz.sizeOf78
 v70:=Tryz.zeroValue78
 t72:=Tryz.underlying81
 a72:=Tryz.isAgg81
 z72:=Tryz.sizeOf81
 v72:=Tryz.zeroValue81
 t164:=Tryz.underlying369
 a164:=Tryz.isAgg369
 z164:=Tryz.sizeOf369
 v164:=Tryz.zeroValue369}
theorem Tryz.k6:Builder.Extra Tryz.prog Tryz.lZ:={
 sizeBuilder:=by kernel_rfl
 liesBuilder:=by kernel_rfl
 t5:=Tryz.underlying5
 a5:=Tryz.isAgg5
 z5:=Tryz.sizeOf5
 v5:=Tryz.zeroValue5
 infoByte:=by kernel_rfl
 cellsByte:=by kernel_rfl
 sizeByte:=by kernel_rfl
 neB5:=by decide}
open Go.RowKit in
theorem Tryz.Builder_Grow_fresh (B b n:Nat) (w:World) (M:B<=b) (l:w.heap[b]?=some (.cells #[.pointer none,.slice none 0 0] 81 (0,0))) (t:B<=w.heap.size) (O:n<=281474976710656):
 Calls Tryz.prog 214 #[.pointer (some ⟨b,0,none⟩),.int .i64 n] w λ e w'=>e=.returned (.tuple #[])/\(Lib.BuilderAt 81 5 B b (.pointer (some ⟨b,0,none⟩)) [] w'/\Below B w w'):=Any.Builder_Grow_fresh Tryz.yY Tryz.k6 B b n w M l t O
def Tryz.lN:Go.Shelf.Ren:=⟨λ|156=>190|165=>214|166=>215|169=>30|240=>227|241=>228|276=>231|277=>232|n=>n,λ|31=>56|9=>9|3=>3|4=>4|0=>0|20=>20|72=>81|76=>312|70=>78|37=>79|75=>43|127=>167|164=>369|5=>5|80=>88|n=>n,λ|n=>n⟩
theorem Tryz.tK:Go.Proofs.Lays.n156 Tryz.prog Tryz.lN:={
 mixed:=by kernel_rfl
 f156:=Tryz.func190.trans (congrArg some (by kernel_rfl))
 f165:=Tryz.func214.trans (congrArg some (by kernel_rfl))
 f166:=Tryz.func215.trans (congrArg some (by kernel_rfl))
 f169:=Tryz.func30.trans (congrArg some (by kernel_rfl))
 f240:=Tryz.func227.trans (congrArg some (by kernel_rfl))
 f241:=Tryz.func228.trans (congrArg some (by kernel_rfl))
 f276:=Tryz.func231.trans (congrArg some (by kernel_rfl))
 f277:=Tryz.func232.trans (congrArg some (by kernel_rfl))
 t0:=Tryz.underlying0
 a0:=Tryz.isAgg0
 z0:=Tryz.sizeOf0
 v0:=Tryz.zeroValue0
 t3:=Tryz.underlying3
 a3:=Tryz.isAgg3
 z3:=Tryz.sizeOf3
 v3:=Tryz.zeroValue3
 t4:=Tryz.underlying4
 a4:=Tryz.isAgg4
 z4:=Tryz.sizeOf4
 v4:=Tryz.zeroValue4
 t9:=Tryz.underlying9
 a9:=Tryz.isAgg9
 z9:=Tryz.sizeOf9
 v9:=Tryz.zeroValue9
 t20:=Tryz.underlying20
 a20:=Tryz.isAgg20
 z20:=Tryz.sizeOf20
 v20:=Tryz.zeroValue20
 t31:=Tryz.underlying56
 a31:=Tryz.isAgg56
 z31:=Tryz.sizeOf56
 v31:=Tryz.zeroValue56
 t37:=Tryz.underlying79
 a37:=Tryz.isAgg79
 z37:=Tryz.sizeOf79
 v37:=Tryz.zeroValue79
 t70:=Tryz.underlying78
 a70:=Tryz.isAgg78
 z70:=Tryz.sizeOf78
 v70:=Tryz.zeroValue78
 t72:=Tryz.underlying81
 a72:=Tryz.isAgg81
 z72:=Tryz.sizeOf81
 v72:=Tryz.zeroValue81
 t75:=Tryz.underlying43
 a75:=Tryz.isAgg43
 z75:=Tryz.sizeOf43
 v75:=Tryz.zeroValue43
 t76:=Tryz.underlying312
 a76:=Tryz.isAgg312
 z76:=Tryz.sizeOf312
 v76:=Tryz.zeroValue312
 t127:=Tryz.underlying167
 a127:=Tryz.isAgg167
 z127:=Tryz.sizeOf167
 v127:=Tryz.zeroValue167
 t164:=Tryz.underlying369
 a164:=Tryz.isAgg369
 z164:=Tryz.sizeOf369
 v164:=Tryz.zeroValue369}
theorem Tryz.h1:Builder.Extra Tryz.prog Tryz.lN:={
 sizeBuilder:=by kernel_rfl
 liesBuilder:=by kernel_rfl
 t5:=Tryz.underlying5
 a5:=Tryz.isAgg5
 z5:=Tryz.sizeOf5
 v5:=Tryz.zeroValue5
 infoByte:=by kernel_rfl
 cellsByte:=by kernel_rfl
 sizeByte:=by kernel_rfl
 neB5:=by decide}
open Go.RowKit in
theorem Tryz.strings_Join_none (a:Option Addr) (c:Nat) (sep:ByteArray) (w:World):
 Calls Tryz.prog 190 #[.slice a 0 c,.string sep] w λ e w'=>e=.returned (.string ⟨#[]⟩)/\w'=w:=Any.strings_Join_none Tryz.tK Tryz.h1 a c sep w
open Go.RowKit in
theorem Tryz.strings_Join (b o c:Nat) (xs:List ByteArray) (sep:ByteArray) (w:World) (a: ∀(j:Nat) x,xs[j]?=some x->w.cell? ⟨b,o+j,none⟩=some (.string x)) (l:b<w.heap.size) (hN:xs.length<=140737488355328) (q:xs.length<=c) (hlen:(Lib.join (xs.map (·.data.toList)) sep.data.toList).length<=140737488355328):
 Calls Tryz.prog 190 #[.slice (some ⟨b,o,none⟩) xs.length c,.string sep] w λ e w'=>e=.returned (.string ⟨(Lib.join (xs.map (·.data.toList)) sep.data.toList).toArray⟩)/\Below w.heap.size w w':=Any.strings_Join Tryz.tK Tryz.h1 b o c xs sep w a l hN q hlen
def Tryz.r3:Go.Shelf.Ren:=⟨λ|119=>193|n=>n,λ|21=>21|4=>4|n=>n,λ|n=>n⟩
theorem Tryz.yi:Go.Proofs.Lays.n119 Tryz.prog Tryz.r3:={
 mixed:=by kernel_rfl
 f119:=Tryz.func193.trans (congrArg some (by kernel_rfl))
 t4:=Tryz.underlying4
 a4:=Tryz.isAgg4
 z4:=Tryz.sizeOf4
 v4:=Tryz.zeroValue4
 t21:=Tryz.underlying21
 a21:=Tryz.isAgg21
 z21:=Tryz.sizeOf21
 v21:=Tryz.zeroValue21}
theorem Tryz.utf8_ValidRune(r:Int)(w:World):
 Calls Tryz.prog 193 #[.int .i32 r] w λ e w'=>e=.returned (.bool (Lib.validRune r))/\w'=w:=Any.utf8_ValidRune Tryz.yi r w
def Tryz.qu:Go.Shelf.Ren:=⟨λ|242=>192|278=>216|n=>n,λ|37=>79|21=>21|51=>349|4=>4|5=>5|46=>352|n=>n,λ|n=>n⟩
theorem Tryz.yl:Go.Proofs.Lays.n242 Tryz.prog Tryz.qu:={
 mixed:=by kernel_rfl
 f242:=Tryz.func192.trans (congrArg some (by kernel_rfl))
 f278:=Tryz.func216.trans (congrArg some (by kernel_rfl))
 t4:=Tryz.underlying4
 a4:=Tryz.isAgg4
 z4:=Tryz.sizeOf4
 v4:=Tryz.zeroValue4
 t5:=Tryz.underlying5
 a5:=Tryz.isAgg5
 z5:=Tryz.sizeOf5
 v5:=Tryz.zeroValue5
 t21:=Tryz.underlying21
 a21:=Tryz.isAgg21
 z21:=Tryz.sizeOf21
 v21:=Tryz.zeroValue21
 t37:=Tryz.underlying79
 a37:=Tryz.isAgg79
 z37:=Tryz.sizeOf79
 v37:=Tryz.zeroValue79
 t46:=Tryz.underlying352
 a46:=Tryz.isAgg352
 z46:=Tryz.sizeOf352
 v46:=Tryz.zeroValue352
 t51:=Tryz.underlying349
 a51:=Tryz.isAgg349
 z51:=Tryz.sizeOf349
 v51:=Tryz.zeroValue349}
open Go.RowKit in
theorem Tryz.utf8_AppendRune_plain (B:Nat) (v:Value) (n:Nat) (xs:List Value) (r:Int) (A: -2147483648<=r) (aC:r<=2147483647) (w:World) (Z:w.ownsRow B 5 1 v n xs) (hlen:n+4<=140737488355328) (t:B<=w.heap.size):
 Calls Tryz.prog 192 #[v,.int .i32 r] w λ e w'=> ∃v',e=.returned v'/\w'.ownsRow B 5 1 v' (n+(Lib.runeCells r).length) (xs++Lib.runeCells r)/\ ∃o,(w.alloc o).grownBy w' v.ownBlock:=Any.utf8_AppendRune_plain Tryz.yl (by kernel_rfl) B v n xs r A aC w Z hlen t
def Tryz.pL:Go.Shelf.Ren:=⟨λ|251=>186|n=>n,λ|130=>316|3=>3|4=>4|0=>0|93=>309|37=>79|91=>307|5=>5|n=>n,λ|n=>n⟩
theorem Tryz.rz:Go.Proofs.LaysM.n251 Tryz.prog Tryz.pL:={
 mixed:=by kernel_rfl
 f251:=Tryz.func186.trans (congrArg some (by kernel_rfl))
 t0:=Tryz.underlying0
 a0:=Tryz.isAgg0
 z0:=Tryz.sizeOf0
 v0:=Tryz.zeroValue0
 t3:=Tryz.underlying3
 a3:=Tryz.isAgg3
 z3:=Tryz.sizeOf3
 v3:=Tryz.zeroValue3
 t4:=Tryz.underlying4
 a4:=Tryz.isAgg4
 z4:=Tryz.sizeOf4
 v4:=Tryz.zeroValue4
 t37:=Tryz.underlying79
 a37:=Tryz.isAgg79
 z37:=Tryz.sizeOf79
 v37:=Tryz.zeroValue79
 t93:=Tryz.underlying309
 a93:=Tryz.isAgg309
 z93:=Tryz.sizeOf309
 v93:=Tryz.zeroValue309
 t130:=Tryz.underlying316
 a130:=Tryz.isAgg316
 z130:=Tryz.sizeOf316
 v130:=Tryz.zeroValue316
 t5:=Tryz.underlying5
 a5:=Tryz.isAgg5
 z5:=Tryz.sizeOf5
 v5:=Tryz.zeroValue5
 t91:=Tryz.underlying307
 a91:=Tryz.isAgg307
 z91:=Tryz.sizeOf307
 v91:=Tryz.zeroValue307
 i0:=by kernel_rfl
 i3:=by kernel_rfl
 i4:=by kernel_rfl
 i5:=by kernel_rfl
 i37:=by kernel_rfl
 i91:=by kernel_rfl
 i93:=by kernel_rfl
 i130:=by kernel_rfl}
open Go.RowKit in
theorem Tryz.Buffer_tryGrow_room (b:Nat) (a:Option Addr) (l cap n:Nat) (w:World) (c0:w.cell? ⟨b,0,none⟩=some (.slice a l cap)) (f0:w.frozen? ⟨b,0,none⟩=false) (Q:l<=cap) (q:cap<=maxLen) (O:n<=cap-l):
 Calls Tryz.prog 186 #[.pointer (some ⟨b,0,none⟩),.int .i64 n] w λ e w'=>e=.returned (.tuple #[.int .i64 l,.bool true])/\w'=w.setCell ⟨b,0,none⟩ (.slice a (l+n) cap):=Any.Buffer_tryGrow_room Tryz.rz b a l cap n w c0 f0 Q q O
open Go.RowKit in
theorem Tryz.Buffer_tryGrow_none (b:Nat) (a:Option Addr) (l cap n:Nat) (w:World) (c0:w.cell? ⟨b,0,none⟩=some (.slice a l cap)) (Q:l<=cap) (q:cap<=maxLen) (O:cap-l<n):
 Calls Tryz.prog 186 #[.pointer (some ⟨b,0,none⟩),.int .i64 n] w λ e w'=>e=.returned (.tuple #[.int .i64 0,.bool false])/\w'=w:=Any.Buffer_tryGrow_none Tryz.rz b a l cap n w c0 Q q O
def Tryz.pQ:Go.Shelf.Ren:=⟨λ|324=>226|n=>n,λ|20=>20|4=>4|75=>43|0=>0|80=>88|9=>9|n=>n,λ|14=>0|n=>n⟩
theorem Tryz.xK:Go.Proofs.LaysM.n324 Tryz.prog Tryz.pQ:={
 mixed:=by kernel_rfl
 f324:=Tryz.func226.trans (congrArg some (by kernel_rfl))
 t0:=Tryz.underlying0
 a0:=Tryz.isAgg0
 z0:=Tryz.sizeOf0
 v0:=Tryz.zeroValue0
 t4:=Tryz.underlying4
 a4:=Tryz.isAgg4
 z4:=Tryz.sizeOf4
 v4:=Tryz.zeroValue4
 t20:=Tryz.underlying20
 a20:=Tryz.isAgg20
 z20:=Tryz.sizeOf20
 v20:=Tryz.zeroValue20
 t75:=Tryz.underlying43
 a75:=Tryz.isAgg43
 z75:=Tryz.sizeOf43
 v75:=Tryz.zeroValue43
 g14:=by kernel_rfl
 t9:=Tryz.underlying9
 a9:=Tryz.isAgg9
 z9:=Tryz.sizeOf9
 v9:=Tryz.zeroValue9
 t80:=Tryz.underlying88
 a80:=Tryz.isAgg88
 z80:=Tryz.sizeOf88
 v80:=Tryz.zeroValue88
 i0:=by kernel_rfl
 i4:=by kernel_rfl
 i9:=by kernel_rfl
 i20:=by kernel_rfl
 i75:=by kernel_rfl
 i80:=by kernel_rfl
 m14:=by kernel_rfl}
theorem Tryz.growSlice_catch_idle(w:World):
 CallsD Tryz.prog 226 #[] .returning w λ e D w'=>e=.returned (.tuple #[])/\D=.returning/\w'=w:=Any.growSlice_catch_idle Tryz.xK w
def Tryz.pV:Go.Shelf.Ren:=⟨λ|179=>165|251=>186|252=>187|181=>210|184=>211|290=>212|324=>226|n=>n,λ|130=>316|5=>5|75=>43|0=>0|93=>309|91=>307|3=>3|131=>344|4=>4|37=>79|20=>20|80=>88|9=>9|n=>n,λ|14=>0|n=>n⟩
theorem Tryz.wU:Go.Proofs.LaysM.n179 Tryz.prog Tryz.pV:={
 mixed:=by kernel_rfl
 f179:=Tryz.func165.trans (congrArg some (by kernel_rfl))
 f181:=Tryz.func210.trans (congrArg some (by kernel_rfl))
 f184:=Tryz.func211.trans (congrArg some (by kernel_rfl))
 f251:=Tryz.func186.trans (congrArg some (by kernel_rfl))
 f252:=Tryz.func187.trans (congrArg some (by kernel_rfl))
 f290:=Tryz.func212.trans (congrArg some (by kernel_rfl))
 f324:=Tryz.func226.trans (congrArg some (by kernel_rfl))
 t0:=Tryz.underlying0
 a0:=Tryz.isAgg0
 z0:=Tryz.sizeOf0
 v0:=Tryz.zeroValue0
 t3:=Tryz.underlying3
 a3:=Tryz.isAgg3
 z3:=Tryz.sizeOf3
 v3:=Tryz.zeroValue3
 t4:=Tryz.underlying4
 a4:=Tryz.isAgg4
 z4:=Tryz.sizeOf4
 v4:=Tryz.zeroValue4
 t5:=Tryz.underlying5
 a5:=Tryz.isAgg5
 z5:=Tryz.sizeOf5
 v5:=Tryz.zeroValue5
 t20:=Tryz.underlying20
 a20:=Tryz.isAgg20
 z20:=Tryz.sizeOf20
 v20:=Tryz.zeroValue20
 t37:=Tryz.underlying79
 a37:=Tryz.isAgg79
 z37:=Tryz.sizeOf79
 v37:=Tryz.zeroValue79
 t75:=Tryz.underlying43
 a75:=Tryz.isAgg43
 z75:=Tryz.sizeOf43
 v75:=Tryz.zeroValue43
 t91:=Tryz.underlying307
 a91:=Tryz.isAgg307
 z91:=Tryz.sizeOf307
 v91:=Tryz.zeroValue307
 t93:=Tryz.underlying309
 a93:=Tryz.isAgg309
 z93:=Tryz.sizeOf309
 v93:=Tryz.zeroValue309
 t130:=Tryz.underlying316
 a130:=Tryz.isAgg316
 z130:=Tryz.sizeOf316
 v130:=Tryz.zeroValue316
 t131:=Tryz.underlying344
 a131:=Tryz.isAgg344
 z131:=Tryz.sizeOf344
 v131:=Tryz.zeroValue344
 g14:=by kernel_rfl
 t9:=Tryz.underlying9
 a9:=Tryz.isAgg9
 z9:=Tryz.sizeOf9
 v9:=Tryz.zeroValue9
 t80:=Tryz.underlying88
 a80:=Tryz.isAgg88
 z80:=Tryz.sizeOf88
 v80:=Tryz.zeroValue88
 i0:=by kernel_rfl
 i3:=by kernel_rfl
 i4:=by kernel_rfl
 i5:=by kernel_rfl
 i9:=by kernel_rfl
 i20:=by kernel_rfl
 i37:=by kernel_rfl
 i75:=by kernel_rfl
 i80:=by kernel_rfl
 i91:=by kernel_rfl
 i93:=by kernel_rfl
 i130:=by kernel_rfl
 i131:=by kernel_rfl
 m14:=by kernel_rfl}
open Go.RowKit in
theorem Tryz.Buffer_WriteByte (B b:Nat) (bs:List Value) (c:Int) (w:World) (h:Lib.IsBuffer 309 5 B b bs w) (t:B<=w.heap.size) (G: ∀v∈bs,v.oneCell'=true) (d:bs.length+1<=140737488355328):
 Calls Tryz.prog 165 #[.pointer (some ⟨b,0,none⟩),.int .u8 c] w λ e w'=>e=.returned .nilIface/\Lib.IsBuffer 309 5 B b (bs++[.int .u8 c]) w'/\Below B w w':=Any.Buffer_WriteByte Tryz.wU B b bs c w h t G d
def Tryz.pG:Go.Shelf.Ren:=⟨λ|178=>168|251=>186|252=>187|181=>210|184=>211|290=>212|324=>226|n=>n,λ|130=>316|9=>9|3=>3|75=>43|0=>0|93=>309|91=>307|131=>344|4=>4|37=>79|20=>20|80=>88|5=>5|n=>n,λ|14=>0|n=>n⟩
theorem Tryz.wY:Go.Proofs.LaysM.n178 Tryz.prog Tryz.pG:={
 mixed:=by kernel_rfl
 f178:=Tryz.func168.trans (congrArg some (by kernel_rfl))
 f181:=Tryz.func210.trans (congrArg some (by kernel_rfl))
 f184:=Tryz.func211.trans (congrArg some (by kernel_rfl))
 f251:=Tryz.func186.trans (congrArg some (by kernel_rfl))
 f252:=Tryz.func187.trans (congrArg some (by kernel_rfl))
 f290:=Tryz.func212.trans (congrArg some (by kernel_rfl))
 f324:=Tryz.func226.trans (congrArg some (by kernel_rfl))
 t0:=Tryz.underlying0
 a0:=Tryz.isAgg0
 z0:=Tryz.sizeOf0
 v0:=Tryz.zeroValue0
 t3:=Tryz.underlying3
 a3:=Tryz.isAgg3
 z3:=Tryz.sizeOf3
 v3:=Tryz.zeroValue3
 t4:=Tryz.underlying4
 a4:=Tryz.isAgg4
 z4:=Tryz.sizeOf4
 v4:=Tryz.zeroValue4
 t9:=Tryz.underlying9
 a9:=Tryz.isAgg9
 z9:=Tryz.sizeOf9
 v9:=Tryz.zeroValue9
 t20:=Tryz.underlying20
 a20:=Tryz.isAgg20
 z20:=Tryz.sizeOf20
 v20:=Tryz.zeroValue20
 t37:=Tryz.underlying79
 a37:=Tryz.isAgg79
 z37:=Tryz.sizeOf79
 v37:=Tryz.zeroValue79
 t75:=Tryz.underlying43
 a75:=Tryz.isAgg43
 z75:=Tryz.sizeOf43
 v75:=Tryz.zeroValue43
 t91:=Tryz.underlying307
 a91:=Tryz.isAgg307
 z91:=Tryz.sizeOf307
 v91:=Tryz.zeroValue307
 t93:=Tryz.underlying309
 a93:=Tryz.isAgg309
 z93:=Tryz.sizeOf309
 v93:=Tryz.zeroValue309
 t130:=Tryz.underlying316
 a130:=Tryz.isAgg316
 z130:=Tryz.sizeOf316
 v130:=Tryz.zeroValue316
 t131:=Tryz.underlying344
 a131:=Tryz.isAgg344
 z131:=Tryz.sizeOf344
 v131:=Tryz.zeroValue344
 g14:=by kernel_rfl
 t5:=Tryz.underlying5
 a5:=Tryz.isAgg5
 z5:=Tryz.sizeOf5
 v5:=Tryz.zeroValue5
 t80:=Tryz.underlying88
 a80:=Tryz.isAgg88
 z80:=Tryz.sizeOf88
 v80:=Tryz.zeroValue88
 i0:=by kernel_rfl
 i3:=by kernel_rfl
 i4:=by kernel_rfl
 i5:=by kernel_rfl
 i9:=by kernel_rfl
 i20:=by kernel_rfl
 i37:=by kernel_rfl
 i75:=by kernel_rfl
 i80:=by kernel_rfl
 i91:=by kernel_rfl
 i93:=by kernel_rfl
 i130:=by kernel_rfl
 i131:=by kernel_rfl
 m14:=by kernel_rfl}
open Go.RowKit in
theorem Tryz.Buffer_WriteString (B b:Nat) (bs:List Value) (s:ByteArray) (w:World) (h:Lib.IsBuffer 309 5 B b bs w) (t:B<=w.heap.size) (G: ∀v∈bs,v.oneCell'=true) (d:bs.length+s.size<=140737488355328):
 Calls Tryz.prog 168 #[.pointer (some ⟨b,0,none⟩),.string s] w λ e w'=>e=.returned (.tuple #[.int .i64 s.size,.nilIface])/\Lib.IsBuffer 309 5 B b (bs++Lib.byteCells s.data.toList) w'/\Below B w w':=Any.Buffer_WriteString Tryz.wY B b bs s w h t G d
def Tryz.pH:Go.Shelf.Ren:=⟨λ|182=>167|n=>n,λ|130=>316|9=>9|4=>4|0=>0|93=>309|37=>79|3=>3|91=>307|5=>5|n=>n,λ|n=>n⟩
theorem Tryz.wQ:Go.Proofs.LaysM.n182 Tryz.prog Tryz.pH:={
 mixed:=by kernel_rfl
 f182:=Tryz.func167.trans (congrArg some (by kernel_rfl))
 t0:=Tryz.underlying0
 a0:=Tryz.isAgg0
 z0:=Tryz.sizeOf0
 v0:=Tryz.zeroValue0
 t3:=Tryz.underlying3
 a3:=Tryz.isAgg3
 z3:=Tryz.sizeOf3
 v3:=Tryz.zeroValue3
 t4:=Tryz.underlying4
 a4:=Tryz.isAgg4
 z4:=Tryz.sizeOf4
 v4:=Tryz.zeroValue4
 t9:=Tryz.underlying9
 a9:=Tryz.isAgg9
 z9:=Tryz.sizeOf9
 v9:=Tryz.zeroValue9
 t37:=Tryz.underlying79
 a37:=Tryz.isAgg79
 z37:=Tryz.sizeOf79
 v37:=Tryz.zeroValue79
 t93:=Tryz.underlying309
 a93:=Tryz.isAgg309
 z93:=Tryz.sizeOf309
 v93:=Tryz.zeroValue309
 t130:=Tryz.underlying316
 a130:=Tryz.isAgg316
 z130:=Tryz.sizeOf316
 v130:=Tryz.zeroValue316
 t5:=Tryz.underlying5
 a5:=Tryz.isAgg5
 z5:=Tryz.sizeOf5
 v5:=Tryz.zeroValue5
 t91:=Tryz.underlying307
 a91:=Tryz.isAgg307
 z91:=Tryz.sizeOf307
 v91:=Tryz.zeroValue307
 i0:=by kernel_rfl
 i3:=by kernel_rfl
 i4:=by kernel_rfl
 i5:=by kernel_rfl
 i9:=by kernel_rfl
 i37:=by kernel_rfl
 i91:=by kernel_rfl
 i93:=by kernel_rfl
 i130:=by kernel_rfl}
open Go.RowKit in
theorem Tryz.Buffer_String (B b:Nat) (l:List UInt8) (w:World) (h:Lib.IsBuffer 309 5 B b (Lib.byteCells l) w):
 Calls Tryz.prog 167 #[.pointer (some ⟨b,0,none⟩)] w λ e w'=>e=.returned (.string ⟨l.toArray⟩)/\ ∃n,w'=w.drewN n:=Any.Buffer_String Tryz.wQ B b l w h
def Tryz.rP:Go.Shelf.Ren:=⟨λ|5=>170|7=>165|8=>186|9=>187|10=>192|11=>210|12=>211|13=>212|14=>216|15=>226|n=>n,λ|34=>316|21=>21|3=>3|28=>43|35=>349|4=>4|5=>5|0=>0|26=>309|24=>307|37=>344|22=>79|43=>352|20=>20|31=>88|9=>9|n=>n,λ|0=>0|n=>n⟩
theorem Tryz.zx:Go.Proofs.LaysWr.n5 Tryz.prog Tryz.rP:={
 mixed:=by kernel_rfl
 f5:=Tryz.func170.trans (congrArg some (by kernel_rfl))
 f7:=Tryz.func165.trans (congrArg some (by kernel_rfl))
 f8:=Tryz.func186.trans (congrArg some (by kernel_rfl))
 f9:=Tryz.func187.trans (congrArg some (by kernel_rfl))
 f10:=Tryz.func192.trans (congrArg some (by kernel_rfl))
 f11:=Tryz.func210.trans (congrArg some (by kernel_rfl))
 f12:=Tryz.func211.trans (congrArg some (by kernel_rfl))
 f13:=Tryz.func212.trans (congrArg some (by kernel_rfl))
 f14:=Tryz.func216.trans (congrArg some (by kernel_rfl))
 f15:=Tryz.func226.trans (congrArg some (by kernel_rfl))
 t0:=Tryz.underlying0
 a0:=Tryz.isAgg0
 z0:=Tryz.sizeOf0
 v0:=Tryz.zeroValue0
 i0:=by kernel_rfl
 t3:=Tryz.underlying3
 a3:=Tryz.isAgg3
 z3:=Tryz.sizeOf3
 v3:=Tryz.zeroValue3
 i3:=by kernel_rfl
 t4:=Tryz.underlying4
 a4:=Tryz.isAgg4
 z4:=Tryz.sizeOf4
 v4:=Tryz.zeroValue4
 i4:=by kernel_rfl
 t5:=Tryz.underlying5
 a5:=Tryz.isAgg5
 z5:=Tryz.sizeOf5
 v5:=Tryz.zeroValue5
 i5:=by kernel_rfl
 t9:=Tryz.underlying9
 a9:=Tryz.isAgg9
 z9:=Tryz.sizeOf9
 v9:=Tryz.zeroValue9
 i9:=by kernel_rfl
 t20:=Tryz.underlying20
 a20:=Tryz.isAgg20
 z20:=Tryz.sizeOf20
 v20:=Tryz.zeroValue20
 i20:=by kernel_rfl
 t21:=Tryz.underlying21
 a21:=Tryz.isAgg21
 z21:=Tryz.sizeOf21
 v21:=Tryz.zeroValue21
 i21:=by kernel_rfl
 t22:=Tryz.underlying79
 a22:=Tryz.isAgg79
 z22:=Tryz.sizeOf79
 v22:=Tryz.zeroValue79
 i22:=by kernel_rfl
 t24:=Tryz.underlying307
 a24:=Tryz.isAgg307
 z24:=Tryz.sizeOf307
 v24:=Tryz.zeroValue307
 i24:=by kernel_rfl
 t26:=Tryz.underlying309
 a26:=Tryz.isAgg309
 z26:=Tryz.sizeOf309
 v26:=Tryz.zeroValue309
 i26:=by kernel_rfl
 t28:=Tryz.underlying43
 a28:=Tryz.isAgg43
 z28:=Tryz.sizeOf43
 v28:=Tryz.zeroValue43
 i28:=by kernel_rfl
 t31:=Tryz.underlying88
 a31:=Tryz.isAgg88
 z31:=Tryz.sizeOf88
 v31:=Tryz.zeroValue88
 i31:=by kernel_rfl
 t34:=Tryz.underlying316
 a34:=Tryz.isAgg316
 z34:=Tryz.sizeOf316
 v34:=Tryz.zeroValue316
 i34:=by kernel_rfl
 t35:=Tryz.underlying349
 a35:=Tryz.isAgg349
 z35:=Tryz.sizeOf349
 v35:=Tryz.zeroValue349
 i35:=by kernel_rfl
 t37:=Tryz.underlying344
 a37:=Tryz.isAgg344
 z37:=Tryz.sizeOf344
 v37:=Tryz.zeroValue344
 i37:=by kernel_rfl
 t43:=Tryz.underlying352
 a43:=Tryz.isAgg352
 z43:=Tryz.sizeOf352
 v43:=Tryz.zeroValue352
 i43:=by kernel_rfl
 g0:=by kernel_rfl
 m0:=by kernel_rfl}
open Go.RowKit in
theorem Tryz.Buffer_WriteRune_k (B b:Nat) (bs:List Value) (r:Int) (A: -2147483648<=r) (aC:r<=2147483647) (w:World) (h:Lib.IsBuffer 309 5 B b bs w) (t:B<=w.heap.size) (G: ∀v∈bs,v.oneCell'=true) (d:bs.length+4<=140737488355328):
 Calls Tryz.prog 170 #[.pointer (some ⟨b,0,none⟩),.int .i32 r] w λ e w'=>e=.returned (.tuple #[.int .i64 (Lib.runeCells r).length,.nilIface])/\Lib.IsBuffer 309 5 B b (bs++Lib.runeCells r) w'/\Below B w w'/\Lib.OthersKept 5 (some b) w w':=Any.Buffer_WriteRune_k Tryz.zx B b bs r A aC w h t G d
def Tryz.te:Go.Shelf.Ren:=⟨λ|99=>293|206=>305|n=>n,λ|9=>9|4=>4|3=>3|n=>n,λ|n=>n⟩
theorem Tryz.AG:Go.Proofs.Lays.n99 Tryz.prog Tryz.te:={
 mixed:=by kernel_rfl
 f99:=Tryz.func293.trans (congrArg some (by kernel_rfl))
 f206:=Tryz.func305.trans (congrArg some (by kernel_rfl))
 t3:=Tryz.underlying3
 a3:=Tryz.isAgg3
 z3:=Tryz.sizeOf3
 v3:=Tryz.zeroValue3
 t4:=Tryz.underlying4
 a4:=Tryz.isAgg4
 z4:=Tryz.sizeOf4
 v4:=Tryz.zeroValue4
 t9:=Tryz.underlying9
 a9:=Tryz.isAgg9
 z9:=Tryz.sizeOf9
 v9:=Tryz.zeroValue9}
open Go.RowKit Go.Lib in
theorem Tryz.strings_HasPrefix (s p:ByteArray) (w:World):
 Calls Tryz.prog 293 #[.string s,.string p] w λ e w'=>e=.returned (.bool (Lib.hasPrefix s.data.toList p.data.toList))/\w'=w:=Any.strings_HasPrefix Tryz.AG s p w
def Tryz.lW:Go.Shelf.Ren:=⟨λ|105=>298|212=>309|99=>293|165=>214|166=>215|170=>310|169=>30|263=>316|264=>317|206=>305|240=>227|241=>228|276=>231|277=>232|n=>n,λ|9=>9|3=>3|4=>4|20=>20|0=>0|46=>352|109=>421|5=>5|72=>81|76=>312|51=>349|146=>427|53=>429|148=>430|70=>78|37=>79|75=>43|127=>167|164=>369|80=>88|n=>n,λ|n=>n⟩
theorem Tryz.yD:Go.Proofs.Lays.n105 Tryz.prog Tryz.lW:={
 mixed:=by kernel_rfl
 f99:=Tryz.func293.trans (congrArg some (by kernel_rfl))
 f105:=Tryz.func298.trans (congrArg some (by kernel_rfl))
 f165:=Tryz.func214.trans (congrArg some (by kernel_rfl))
 f166:=Tryz.func215.trans (congrArg some (by kernel_rfl))
 f169:=Tryz.func30.trans (congrArg some (by kernel_rfl))
 f170:=Tryz.func310.trans (congrArg some (by kernel_rfl))
 f206:=Tryz.func305.trans (congrArg some (by kernel_rfl))
 f212:=Tryz.func309.trans (congrArg some (by kernel_rfl))
 f240:=Tryz.func227.trans (congrArg some (by kernel_rfl))
 f241:=Tryz.func228.trans (congrArg some (by kernel_rfl))
 f263:=Tryz.func316.trans (congrArg some (by kernel_rfl))
 f264:=Tryz.func317.trans (congrArg some (by kernel_rfl))
 f276:=Tryz.func231.trans (congrArg some (by kernel_rfl))
 f277:=Tryz.func232.trans (congrArg some (by kernel_rfl))
 t0:=Tryz.underlying0
 a0:=Tryz.isAgg0
 z0:=Tryz.sizeOf0
 v0:=Tryz.zeroValue0
 t3:=Tryz.underlying3
 a3:=Tryz.isAgg3
 z3:=Tryz.sizeOf3
 v3:=Tryz.zeroValue3
 t4:=Tryz.underlying4
 a4:=Tryz.isAgg4
 z4:=Tryz.sizeOf4
 v4:=Tryz.zeroValue4
 t5:=Tryz.underlying5
 a5:=Tryz.isAgg5
 z5:=Tryz.sizeOf5
 v5:=Tryz.zeroValue5
 t9:=Tryz.underlying9
 a9:=Tryz.isAgg9
 z9:=Tryz.sizeOf9
 v9:=Tryz.zeroValue9
 t20:=Tryz.underlying20
 a20:=Tryz.isAgg20
 z20:=Tryz.sizeOf20
 v20:=Tryz.zeroValue20
 t37:=Tryz.underlying79
 a37:=Tryz.isAgg79
 z37:=Tryz.sizeOf79
 v37:=Tryz.zeroValue79
 t46:=Tryz.underlying352
 a46:=Tryz.isAgg352
 z46:=Tryz.sizeOf352
 v46:=Tryz.zeroValue352
 t51:=Tryz.underlying349
 a51:=Tryz.isAgg349
 z51:=Tryz.sizeOf349
 v51:=Tryz.zeroValue349
 t53:=Tryz.underlying429
 a53:=Tryz.isAgg429
 z53:=Tryz.sizeOf429
 v53:=Tryz.zeroValue429
 t70:=Tryz.underlying78
 a70:=Tryz.isAgg78
 z70:=Tryz.sizeOf78
 v70:=Tryz.zeroValue78
 t72:=Tryz.underlying81
 a72:=Tryz.isAgg81
 z72:=Tryz.sizeOf81
 v72:=Tryz.zeroValue81
 t75:=Tryz.underlying43
 a75:=Tryz.isAgg43
 z75:=Tryz.sizeOf43
 v75:=Tryz.zeroValue43
 t76:=Tryz.underlying312
 a76:=Tryz.isAgg312
 z76:=Tryz.sizeOf312
 v76:=Tryz.zeroValue312
 t109:=Tryz.underlying421
 a109:=Tryz.isAgg421
 z109:=Tryz.sizeOf421
 v109:=Tryz.zeroValue421
 t127:=Tryz.underlying167
 a127:=Tryz.isAgg167
 z127:=Tryz.sizeOf167
 v127:=Tryz.zeroValue167
 t146:=Tryz.underlying427
 a146:=Tryz.isAgg427
 z146:=Tryz.sizeOf427
 v146:=Tryz.zeroValue427
 t148:=Tryz.underlying430
 a148:=Tryz.isAgg430
 z148:=Tryz.sizeOf430
 v148:=Tryz.zeroValue430
 t164:=Tryz.underlying369
 a164:=Tryz.isAgg369
 z164:=Tryz.sizeOf369
 v164:=Tryz.zeroValue369}
theorem Tryz.kH:Builder.Extra Tryz.prog Tryz.lW:={
 sizeBuilder:=by kernel_rfl
 liesBuilder:=by kernel_rfl
 t5:=Tryz.underlying5
 a5:=Tryz.isAgg5
 z5:=Tryz.sizeOf5
 v5:=Tryz.zeroValue5
 infoByte:=by kernel_rfl
 cellsByte:=by kernel_rfl
 sizeByte:=by kernel_rfl
 neB5:=by decide}
open Go.RowKit Go.Lib in
theorem Tryz.strings_Repeat (s:ByteArray) (c:Nat) (w:World) (J:c<=9223372036854775807) (hlen:s.size*c<=140737488355328):
 Calls Tryz.prog 298 #[.string s,.int .i64 c] w λ e w'=>e=.returned (.string ⟨(Lib.repeatL s.data.toList c).toArray⟩)/\Below w.heap.size w w':=Any.strings_Repeat Tryz.yD Tryz.kH s c w J hlen
def Tryz.lO:Go.Shelf.Ren:=⟨λ|260=>191|n=>n,λ|9=>9|21=>21|3=>3|4=>4|5=>5|119=>361|0=>0|46=>352|139=>364|138=>363|n=>n,λ|3=>1|4=>2|n=>n⟩
theorem Tryz.zq:Go.Proofs.Lays.n260 Tryz.prog Tryz.lO:={
 mixed:=by kernel_rfl
 f260:=Tryz.func191.trans (congrArg some (by kernel_rfl))
 t0:=Tryz.underlying0
 a0:=Tryz.isAgg0
 z0:=Tryz.sizeOf0
 v0:=Tryz.zeroValue0
 t3:=Tryz.underlying3
 a3:=Tryz.isAgg3
 z3:=Tryz.sizeOf3
 v3:=Tryz.zeroValue3
 t4:=Tryz.underlying4
 a4:=Tryz.isAgg4
 z4:=Tryz.sizeOf4
 v4:=Tryz.zeroValue4
 t5:=Tryz.underlying5
 a5:=Tryz.isAgg5
 z5:=Tryz.sizeOf5
 v5:=Tryz.zeroValue5
 t9:=Tryz.underlying9
 a9:=Tryz.isAgg9
 z9:=Tryz.sizeOf9
 v9:=Tryz.zeroValue9
 t21:=Tryz.underlying21
 a21:=Tryz.isAgg21
 z21:=Tryz.sizeOf21
 v21:=Tryz.zeroValue21
 t46:=Tryz.underlying352
 a46:=Tryz.isAgg352
 z46:=Tryz.sizeOf352
 v46:=Tryz.zeroValue352
 t119:=Tryz.underlying361
 a119:=Tryz.isAgg361
 z119:=Tryz.sizeOf361
 t138:=Tryz.underlying363
 a138:=Tryz.isAgg363
 z138:=Tryz.sizeOf363
 v138:=Tryz.zeroValue363
 t139:=Tryz.underlying364
 a139:=Tryz.isAgg364
 z139:=Tryz.sizeOf364
 v139:=Tryz.zeroValue364
 g3:=by kernel_rfl
 g4:=by kernel_rfl}
def Tryz.qp:Go.Shelf.Ren:=⟨λ|197=>169|260=>191|n=>n,λ|9=>9|21=>21|3=>3|4=>4|5=>5|105=>302|119=>361|0=>0|46=>352|139=>364|138=>363|n=>n,λ|3=>1|4=>2|n=>n⟩
theorem Tryz.yq:Go.Proofs.Lays.n197 Tryz.prog Tryz.qp:={
 mixed:=by kernel_rfl
 f197:=Tryz.func169.trans (congrArg some (by kernel_rfl))
 f260:=Tryz.func191.trans (congrArg some (by kernel_rfl))
 t0:=Tryz.underlying0
 a0:=Tryz.isAgg0
 z0:=Tryz.sizeOf0
 v0:=Tryz.zeroValue0
 t3:=Tryz.underlying3
 a3:=Tryz.isAgg3
 z3:=Tryz.sizeOf3
 v3:=Tryz.zeroValue3
 t4:=Tryz.underlying4
 a4:=Tryz.isAgg4
 z4:=Tryz.sizeOf4
 v4:=Tryz.zeroValue4
 t5:=Tryz.underlying5
 a5:=Tryz.isAgg5
 z5:=Tryz.sizeOf5
 v5:=Tryz.zeroValue5
 t9:=Tryz.underlying9
 a9:=Tryz.isAgg9
 z9:=Tryz.sizeOf9
 v9:=Tryz.zeroValue9
 t21:=Tryz.underlying21
 a21:=Tryz.isAgg21
 z21:=Tryz.sizeOf21
 v21:=Tryz.zeroValue21
 t46:=Tryz.underlying352
 a46:=Tryz.isAgg352
 z46:=Tryz.sizeOf352
 v46:=Tryz.zeroValue352
 t105:=Tryz.underlying302
 a105:=Tryz.isAgg302
 z105:=Tryz.sizeOf302
 v105:=Tryz.zeroValue302
 t119:=Tryz.underlying361
 a119:=Tryz.isAgg361
 z119:=Tryz.sizeOf361
 t138:=Tryz.underlying363
 a138:=Tryz.isAgg363
 z138:=Tryz.sizeOf363
 v138:=Tryz.zeroValue363
 t139:=Tryz.underlying364
 a139:=Tryz.isAgg364
 z139:=Tryz.sizeOf364
 v139:=Tryz.zeroValue364
 g3:=by kernel_rfl
 g4:=by kernel_rfl}
open Go.RowKit Go.Lib in
theorem Tryz.utf8_DecodeRuneInString (s:ByteArray) (w:World) (hT:Lib.Utf8Tabs 1 2 w):
 Calls Tryz.prog 169 #[.string s] w λ e w'=>e=.returned (.tuple #[.int .i32 (Lib.decodeGo s).1,.int .i64 (Lib.decodeGo s).2])/\Below w.heap.size w w':=Any.utf8_DecodeRuneInString Tryz.yq s w hT
def Tryz.qs:Go.Shelf.Ren:=⟨λ|271=>300|120=>311|197=>169|260=>191|n=>n,λ|9=>9|21=>21|3=>3|4=>4|5=>5|105=>302|119=>361|0=>0|46=>352|139=>364|138=>363|n=>n,λ|3=>1|4=>2|n=>n⟩
theorem Tryz.yT:Go.Proofs.Lays.n271 Tryz.prog Tryz.qs:={
 mixed:=by kernel_rfl
 f120:=Tryz.func311.trans (congrArg some (by kernel_rfl))
 f197:=Tryz.func169.trans (congrArg some (by kernel_rfl))
 f260:=Tryz.func191.trans (congrArg some (by kernel_rfl))
 f271:=Tryz.func300.trans (congrArg some (by kernel_rfl))
 t0:=Tryz.underlying0
 a0:=Tryz.isAgg0
 z0:=Tryz.sizeOf0
 v0:=Tryz.zeroValue0
 t3:=Tryz.underlying3
 a3:=Tryz.isAgg3
 z3:=Tryz.sizeOf3
 v3:=Tryz.zeroValue3
 t4:=Tryz.underlying4
 a4:=Tryz.isAgg4
 z4:=Tryz.sizeOf4
 v4:=Tryz.zeroValue4
 t5:=Tryz.underlying5
 a5:=Tryz.isAgg5
 z5:=Tryz.sizeOf5
 v5:=Tryz.zeroValue5
 t9:=Tryz.underlying9
 a9:=Tryz.isAgg9
 z9:=Tryz.sizeOf9
 v9:=Tryz.zeroValue9
 t21:=Tryz.underlying21
 a21:=Tryz.isAgg21
 z21:=Tryz.sizeOf21
 v21:=Tryz.zeroValue21
 t46:=Tryz.underlying352
 a46:=Tryz.isAgg352
 z46:=Tryz.sizeOf352
 v46:=Tryz.zeroValue352
 t105:=Tryz.underlying302
 a105:=Tryz.isAgg302
 z105:=Tryz.sizeOf302
 v105:=Tryz.zeroValue302
 t119:=Tryz.underlying361
 a119:=Tryz.isAgg361
 z119:=Tryz.sizeOf361
 t138:=Tryz.underlying363
 a138:=Tryz.isAgg363
 z138:=Tryz.sizeOf363
 v138:=Tryz.zeroValue363
 t139:=Tryz.underlying364
 a139:=Tryz.isAgg364
 z139:=Tryz.sizeOf364
 v139:=Tryz.zeroValue364
 g3:=by kernel_rfl
 g4:=by kernel_rfl}
open Go.RowKit Go.Lib in
theorem Tryz.utf8_DecodeLastRuneInString (s:ByteArray) (w:World) (aJ:s.size<=9223372036854775807) (hT:Lib.Utf8Tabs 1 2 w):
 Calls Tryz.prog 300 #[.string s] w λ e w'=>e=.returned (.tuple #[.int .i32 (Lib.decodeLastL s.data.toList).1,.int .i64 (Lib.decodeLastL s.data.toList).2])/\Below w.heap.size w w':=Any.utf8_DecodeLastRuneInString Tryz.yT s w aJ hT
end Go.Proofs
