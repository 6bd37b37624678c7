import Derived.Shelf.Small.Bits
import Derived.Shelf.Small.Strs
import Derived.Shelf.Strconv.Itoa0
import Derived.Ground.MnProg
import Derived.Shelf.Bin.BEUint32
import Derived.Shelf.Bin.BEPutUint32
import Derived.Shelf.Bin.BEUint64
import Derived.Shelf.Bin.BEPutUint64
import Derived.Shelf.Bin.PutUvarint
import Derived.Shelf.Bin.PutVarint
import Derived.Shelf.Sort.Plain
import Derived.Shelf.Slices.In.SortNone
import Derived.Shelf.Bytes.SlEqualAll
import Derived.Shelf.Bytes.Small
import Derived.Shelf.SlSortCmp.SmallK
import Derived.Ground.SlsfProg
import Derived.Test.YtlgefdfflmgocaaGreatDoorProg
set_option linter.all false
namespace Go.Proofs
open Go.Shelf
def Tryz.lays128_ren:Go.Shelf.Ren:=⟨fun|128=>88|n=>n,fun|51=>224|3=>3|4=>4|46=>119|5=>5|9=>9|n=>n,fun|n=>n⟩
theorem Tryz.lays128:Go.Proofs.Lays.n128 Tryz.prog Tryz.lays128_ren:={
 mixed:=by kernel_rfl
 f128:=Tryz.func88.trans (congrArg some (by kernel_rfl))
 t3:=Tryz.underlying3
 a3:=Tryz.isAgg3
 z3:=Tryz.sizeOf3
 v3:=Tryz.zeroValue3
 t4:=Tryz.underlying4
 a4:=Tryz.isAgg4
 z4:=Tryz.sizeOf4
 v4:=Tryz.zeroValue4
 t5:=Tryz.underlying5
 a5:=Tryz.isAgg5
 z5:=Tryz.sizeOf5
 v5:=Tryz.zeroValue5
 t9:=Tryz.underlying9
 a9:=Tryz.isAgg9
 z9:=Tryz.sizeOf9
 v9:=Tryz.zeroValue9
 t46:=Tryz.underlying119
 a46:=Tryz.isAgg119
 z46:=Tryz.sizeOf119
 v46:=Tryz.zeroValue119
 t51:=Tryz.underlying224
 a51:=Tryz.isAgg224
 z51:=Tryz.sizeOf224
 v51:=Tryz.zeroValue224}
theorem Tryz.bits_Len32(x:Int)(w:World)(h0:0≤x)(h1:x≤4294967295):
 Calls Tryz.prog 88 #[.int .u32 x] w fun e w'=>e=.returned (.int .i64 (Lib.bitLen x.toNat))∧w'=w:=Any.bits_Len32 Tryz.lays128 x w h0 h1
def Tryz.lays125_ren:Go.Shelf.Ren:=⟨fun|125=>45|128=>88|129=>89|n=>n,fun|46=>119|3=>3|51=>224|53=>41|4=>4|5=>5|9=>9|n=>n,fun|n=>n⟩
theorem Tryz.lays125:Go.Proofs.Lays.n125 Tryz.prog Tryz.lays125_ren:={
 mixed:=by kernel_rfl
 f125:=Tryz.func45.trans (congrArg some (by kernel_rfl))
 f128:=Tryz.func88.trans (congrArg some (by kernel_rfl))
 f129:=Tryz.func89.trans (congrArg some (by kernel_rfl))
 t3:=Tryz.underlying3
 a3:=Tryz.isAgg3
 z3:=Tryz.sizeOf3
 v3:=Tryz.zeroValue3
 t4:=Tryz.underlying4
 a4:=Tryz.isAgg4
 z4:=Tryz.sizeOf4
 v4:=Tryz.zeroValue4
 t5:=Tryz.underlying5
 a5:=Tryz.isAgg5
 z5:=Tryz.sizeOf5
 v5:=Tryz.zeroValue5
 t9:=Tryz.underlying9
 a9:=Tryz.isAgg9
 z9:=Tryz.sizeOf9
 v9:=Tryz.zeroValue9
 t46:=Tryz.underlying119
 a46:=Tryz.isAgg119
 z46:=Tryz.sizeOf119
 v46:=Tryz.zeroValue119
 t51:=Tryz.underlying224
 a51:=Tryz.isAgg224
 z51:=Tryz.sizeOf224
 v51:=Tryz.zeroValue224
 t53:=Tryz.underlying41
 a53:=Tryz.isAgg41
 z53:=Tryz.sizeOf41
 v53:=Tryz.zeroValue41}
theorem Tryz.bits_Len(x:Int)(w:World)(h0:0≤x)(h1:x≤18446744073709551615):
 Calls Tryz.prog 45 #[.int .u64 x] w fun e w'=>e=.returned (.int .i64 (Lib.bitLen x.toNat))∧w'=w:=Any.bits_Len Tryz.lays125 x w h0 h1
def Tryz.lays213_ren:Go.Shelf.Ren:=⟨fun|213=>214|265=>236|n=>n,fun|9=>9|3=>3|n=>n,fun|n=>n⟩
theorem Tryz.lays213:Go.Proofs.Lays.n213 Tryz.prog Tryz.lays213_ren:={
 mixed:=by kernel_rfl
 f213:=Tryz.func214.trans (congrArg some (by kernel_rfl))
 f265:=Tryz.func236.trans (congrArg some (by kernel_rfl))
 t3:=Tryz.underlying3
 a3:=Tryz.isAgg3
 z3:=Tryz.sizeOf3
 v3:=Tryz.zeroValue3
 t9:=Tryz.underlying9
 a9:=Tryz.isAgg9
 z9:=Tryz.sizeOf9
 v9:=Tryz.zeroValue9}
open Go.RowKit in
theorem Tryz.bytealg_CompareString(a b:ByteArray)(w:World):
 Calls Tryz.prog 214 #[.string a,.string b] w fun e w'=>e=.returned (.int .i64 (Lib.compareBytes a.data.toList b.data.toList))∧w'=w:=Any.bytealg_CompareString Tryz.lays213 a b w
def Tryz.lays106_ren:Go.Shelf.Ren:=⟨fun|106=>172|213=>214|265=>236|n=>n,fun|9=>9|3=>3|n=>n,fun|n=>n⟩
theorem Tryz.lays106:Go.Proofs.Lays.n106 Tryz.prog Tryz.lays106_ren:={
 mixed:=by kernel_rfl
 f106:=Tryz.func172.trans (congrArg some (by kernel_rfl))
 f213:=Tryz.func214.trans (congrArg some (by kernel_rfl))
 f265:=Tryz.func236.trans (congrArg some (by kernel_rfl))
 t3:=Tryz.underlying3
 a3:=Tryz.isAgg3
 z3:=Tryz.sizeOf3
 v3:=Tryz.zeroValue3
 t9:=Tryz.underlying9
 a9:=Tryz.isAgg9
 z9:=Tryz.sizeOf9
 v9:=Tryz.zeroValue9}
open Go.RowKit in
theorem Tryz.strings_Compare(a b:ByteArray)(w:World):
 Calls Tryz.prog 172 #[.string a,.string b] w fun e w'=>e=.returned (.int .i64 (Lib.compareBytes a.data.toList b.data.toList))∧w'=w:=Any.strings_Compare Tryz.lays106 a b w
def Tryz.lays129_ren:Go.Shelf.Ren:=⟨fun|129=>89|n=>n,fun|53=>41|3=>3|4=>4|46=>119|5=>5|9=>9|n=>n,fun|n=>n⟩
theorem Tryz.lays129:Go.Proofs.Lays.n129 Tryz.prog Tryz.lays129_ren:={
 mixed:=by kernel_rfl
 f129:=Tryz.func89.trans (congrArg some (by kernel_rfl))
 t3:=Tryz.underlying3
 a3:=Tryz.isAgg3
 z3:=Tryz.sizeOf3
 v3:=Tryz.zeroValue3
 t4:=Tryz.underlying4
 a4:=Tryz.isAgg4
 z4:=Tryz.sizeOf4
 v4:=Tryz.zeroValue4
 t5:=Tryz.underlying5
 a5:=Tryz.isAgg5
 z5:=Tryz.sizeOf5
 v5:=Tryz.zeroValue5
 t9:=Tryz.underlying9
 a9:=Tryz.isAgg9
 z9:=Tryz.sizeOf9
 v9:=Tryz.zeroValue9
 t46:=Tryz.underlying119
 a46:=Tryz.isAgg119
 z46:=Tryz.sizeOf119
 v46:=Tryz.zeroValue119
 t53:=Tryz.underlying41
 a53:=Tryz.isAgg41
 z53:=Tryz.sizeOf41
 v53:=Tryz.zeroValue41}
theorem Tryz.bits_Len64(x:Int)(w:World)(h0:0≤x)(h1:x≤18446744073709551615):
 Calls Tryz.prog 89 #[.int .u64 x] w fun e w'=>e=.returned (.int .i64 (Lib.bitLen x.toNat))∧w'=w:=Any.bits_Len64 Tryz.lays129 x w h0 h1
def Tryz.laysBin39_ren:Go.Shelf.Ren:=⟨fun|39=>120|n=>n,fun|37=>273|22=>65|29=>224|0=>0|5=>5|45=>119|n=>n,fun|n=>n⟩
theorem Tryz.laysBin39:Go.Proofs.LaysBin.n39 Tryz.prog Tryz.laysBin39_ren:={
 mixed:=by kernel_rfl
 f39:=Tryz.func120.trans (congrArg some (by kernel_rfl))
 t0:=Tryz.underlying0
 a0:=Tryz.isAgg0
 z0:=Tryz.sizeOf0
 v0:=Tryz.zeroValue0
 i0:=by kernel_rfl
 t5:=Tryz.underlying5
 a5:=Tryz.isAgg5
 z5:=Tryz.sizeOf5
 v5:=Tryz.zeroValue5
 i5:=by kernel_rfl
 t22:=Tryz.underlying65
 a22:=Tryz.isAgg65
 z22:=Tryz.sizeOf65
 v22:=Tryz.zeroValue65
 i22:=by kernel_rfl
 t29:=Tryz.underlying224
 a29:=Tryz.isAgg224
 z29:=Tryz.sizeOf224
 v29:=Tryz.zeroValue224
 i29:=by kernel_rfl
 t37:=Tryz.underlying273
 a37:=Tryz.isAgg273
 z37:=Tryz.sizeOf273
 v37:=Tryz.zeroValue273
 i37:=by kernel_rfl
 t45:=Tryz.underlying119
 a45:=Tryz.isAgg119
 z45:=Tryz.sizeOf119
 v45:=Tryz.zeroValue119
 i45:=by kernel_rfl}
open Go.RowKit in
theorem Tryz.binary_BE_Uint32(g o n c:Nat)(b0 b1 b2 b3:UInt8)(w:World)(hn:4≤n)(c0:w.cell? ⟨g,o,none⟩=some (.int .u8 b0.toNat))(c1:w.cell? ⟨g,o+1,none⟩=some (.int .u8 b1.toNat))(c2:w.cell? ⟨g,o+2,none⟩=some (.int .u8 b2.toNat))(c3:w.cell? ⟨g,o+3,none⟩=some (.int .u8 b3.toNat)):
 Calls Tryz.prog 120 #[.agg #[],.slice (some ⟨g,o,none⟩) n c] w fun e w'=>e=.returned (.int .u32 (Lib.beNat [b0,b1,b2,b3]))∧Below w.heap.size w w':=Any.binary_BE_Uint32 Tryz.laysBin39 g o n c b0 b1 b2 b3 w hn c0 c1 c2 c3
def Tryz.laysBin40_ren:Go.Shelf.Ren:=⟨fun|40=>223|n=>n,fun|37=>273|22=>65|29=>224|0=>0|5=>5|45=>119|n=>n,fun|n=>n⟩
theorem Tryz.laysBin40:Go.Proofs.LaysBin.n40 Tryz.prog Tryz.laysBin40_ren:={
 mixed:=by kernel_rfl
 f40:=Tryz.func223.trans (congrArg some (by kernel_rfl))
 t0:=Tryz.underlying0
 a0:=Tryz.isAgg0
 z0:=Tryz.sizeOf0
 v0:=Tryz.zeroValue0
 i0:=by kernel_rfl
 t5:=Tryz.underlying5
 a5:=Tryz.isAgg5
 z5:=Tryz.sizeOf5
 v5:=Tryz.zeroValue5
 i5:=by kernel_rfl
 t22:=Tryz.underlying65
 a22:=Tryz.isAgg65
 z22:=Tryz.sizeOf65
 v22:=Tryz.zeroValue65
 i22:=by kernel_rfl
 t29:=Tryz.underlying224
 a29:=Tryz.isAgg224
 z29:=Tryz.sizeOf224
 v29:=Tryz.zeroValue224
 i29:=by kernel_rfl
 t37:=Tryz.underlying273
 a37:=Tryz.isAgg273
 z37:=Tryz.sizeOf273
 v37:=Tryz.zeroValue273
 i37:=by kernel_rfl
 t45:=Tryz.underlying119
 a45:=Tryz.isAgg119
 z45:=Tryz.sizeOf119
 v45:=Tryz.zeroValue119
 i45:=by kernel_rfl}
open Go.RowKit in
theorem Tryz.binary_BE_PutUint32(g o n c v:Nat)(hv:v<4294967296)(x0 x1 x2 x3:Value)(w:World)(hn:4≤n)(c0:w.cell? ⟨g,o,none⟩=some x0)(c1:w.cell? ⟨g,o+1,none⟩=some x1)(c2:w.cell? ⟨g,o+2,none⟩=some x2)(c3:w.cell? ⟨g,o+3,none⟩=some x3)(f0:w.frozen? ⟨g,o,none⟩=false)(f1:w.frozen? ⟨g,o+1,none⟩=false)(f2:w.frozen? ⟨g,o+2,none⟩=false)(f3:w.frozen? ⟨g,o+3,none⟩=false):
 Calls Tryz.prog 223 #[.agg #[],.slice (some ⟨g,o,none⟩) n c,.int .u32 v] w fun e w'=>e=.returned (.tuple #[])∧w'=(w.alloc (.cells #[] 273)).setCells g o (Lib.byteCells (Lib.beBytes 4 v)):=Any.binary_BE_PutUint32 Tryz.laysBin40 g o n c v hv x0 x1 x2 x3 w hn c0 c1 c2 c3 f0 f1 f2 f3
def Tryz.laysBin42_ren:Go.Shelf.Ren:=⟨fun|42=>237|n=>n,fun|37=>273|22=>65|33=>41|0=>0|5=>5|45=>119|n=>n,fun|n=>n⟩
theorem Tryz.laysBin42:Go.Proofs.LaysBin.n42 Tryz.prog Tryz.laysBin42_ren:={
 mixed:=by kernel_rfl
 f42:=Tryz.func237.trans (congrArg some (by kernel_rfl))
 t0:=Tryz.underlying0
 a0:=Tryz.isAgg0
 z0:=Tryz.sizeOf0
 v0:=Tryz.zeroValue0
 i0:=by kernel_rfl
 t5:=Tryz.underlying5
 a5:=Tryz.isAgg5
 z5:=Tryz.sizeOf5
 v5:=Tryz.zeroValue5
 i5:=by kernel_rfl
 t22:=Tryz.underlying65
 a22:=Tryz.isAgg65
 z22:=Tryz.sizeOf65
 v22:=Tryz.zeroValue65
 i22:=by kernel_rfl
 t33:=Tryz.underlying41
 a33:=Tryz.isAgg41
 z33:=Tryz.sizeOf41
 v33:=Tryz.zeroValue41
 i33:=by kernel_rfl
 t37:=Tryz.underlying273
 a37:=Tryz.isAgg273
 z37:=Tryz.sizeOf273
 v37:=Tryz.zeroValue273
 i37:=by kernel_rfl
 t45:=Tryz.underlying119
 a45:=Tryz.isAgg119
 z45:=Tryz.sizeOf119
 v45:=Tryz.zeroValue119
 i45:=by kernel_rfl}
open Go.RowKit in
theorem Tryz.binary_BE_Uint64(g o n c:Nat)(b0 b1 b2 b3 b4 b5 b6 b7:UInt8)(w:World)(hn:8≤n)(c0:w.cell? ⟨g,o,none⟩=some (.int .u8 b0.toNat))(c1:w.cell? ⟨g,o+1,none⟩=some (.int .u8 b1.toNat))(c2:w.cell? ⟨g,o+2,none⟩=some (.int .u8 b2.toNat))(c3:w.cell? ⟨g,o+3,none⟩=some (.int .u8 b3.toNat))(c4:w.cell? ⟨g,o+4,none⟩=some (.int .u8 b4.toNat))(c5:w.cell? ⟨g,o+5,none⟩=some (.int .u8 b5.toNat))(c6:w.cell? ⟨g,o+6,none⟩=some (.int .u8 b6.toNat))(c7:w.cell? ⟨g,o+7,none⟩=some (.int .u8 b7.toNat)):
 Calls Tryz.prog 237 #[.agg #[],.slice (some ⟨g,o,none⟩) n c] w fun e w'=>e=.returned (.int .u64 (Lib.beNat [b0,b1,b2,b3,b4,b5,b6,b7]))∧Below w.heap.size w w':=Any.binary_BE_Uint64 Tryz.laysBin42 g o n c b0 b1 b2 b3 b4 b5 b6 b7 w hn c0 c1 c2 c3 c4 c5 c6 c7
def Tryz.laysBin43_ren:Go.Shelf.Ren:=⟨fun|43=>227|n=>n,fun|37=>273|22=>65|33=>41|0=>0|5=>5|45=>119|n=>n,fun|n=>n⟩
theorem Tryz.laysBin43:Go.Proofs.LaysBin.n43 Tryz.prog Tryz.laysBin43_ren:={
 mixed:=by kernel_rfl
 f43:=Tryz.func227.trans (congrArg some (by kernel_rfl))
 t0:=Tryz.underlying0
 a0:=Tryz.isAgg0
 z0:=Tryz.sizeOf0
 v0:=Tryz.zeroValue0
 i0:=by kernel_rfl
 t5:=Tryz.underlying5
 a5:=Tryz.isAgg5
 z5:=Tryz.sizeOf5
 v5:=Tryz.zeroValue5
 i5:=by kernel_rfl
 t22:=Tryz.underlying65
 a22:=Tryz.isAgg65
 z22:=Tryz.sizeOf65
 v22:=Tryz.zeroValue65
 i22:=by kernel_rfl
 t33:=Tryz.underlying41
 a33:=Tryz.isAgg41
 z33:=Tryz.sizeOf41
 v33:=Tryz.zeroValue41
 i33:=by kernel_rfl
 t37:=Tryz.underlying273
 a37:=Tryz.isAgg273
 z37:=Tryz.sizeOf273
 v37:=Tryz.zeroValue273
 i37:=by kernel_rfl
 t45:=Tryz.underlying119
 a45:=Tryz.isAgg119
 z45:=Tryz.sizeOf119
 v45:=Tryz.zeroValue119
 i45:=by kernel_rfl}
open Go.RowKit in
theorem Tryz.binary_BE_PutUint64(g o n c v:Nat)(hv:v<18446744073709551616)(x0 x1 x2 x3 x4 x5 x6 x7:Value)(w:World)(hn:8≤n)(c0:w.cell? ⟨g,o,none⟩=some x0)(c1:w.cell? ⟨g,o+1,none⟩=some x1)(c2:w.cell? ⟨g,o+2,none⟩=some x2)(c3:w.cell? ⟨g,o+3,none⟩=some x3)(c4:w.cell? ⟨g,o+4,none⟩=some x4)(c5:w.cell? ⟨g,o+5,none⟩=some x5)(c6:w.cell? ⟨g,o+6,none⟩=some x6)(c7:w.cell? ⟨g,o+7,none⟩=some x7)(f0:w.frozen? ⟨g,o,none⟩=false)(f1:w.frozen? ⟨g,o+1,none⟩=false)(f2:w.frozen? ⟨g,o+2,none⟩=false)(f3:w.frozen? ⟨g,o+3,none⟩=false)(f4:w.frozen? ⟨g,o+4,none⟩=false)(f5:w.frozen? ⟨g,o+5,none⟩=false)(f6:w.frozen? ⟨g,o+6,none⟩=false)(f7:w.frozen? ⟨g,o+7,none⟩=false):
 Calls Tryz.prog 227 #[.agg #[],.slice (some ⟨g,o,none⟩) n c,.int .u64 v] w fun e w'=>e=.returned (.tuple #[])∧w'=(w.alloc (.cells #[] 273)).setCells g o (Lib.byteCells (Lib.beBytes 8 v)):=Any.binary_BE_PutUint64 Tryz.laysBin43 g o n c v hv x0 x1 x2 x3 x4 x5 x6 x7 w hn c0 c1 c2 c3 c4 c5 c6 c7 f0 f1 f2 f3 f4 f5 f6 f7
def Tryz.laysBin46_ren:Go.Shelf.Ren:=⟨fun|46=>167|n=>n,fun|22=>65|33=>41|3=>3|4=>4|5=>5|0=>0|45=>119|n=>n,fun|n=>n⟩
theorem Tryz.laysBin46:Go.Proofs.LaysBin.n46 Tryz.prog Tryz.laysBin46_ren:={
 mixed:=by kernel_rfl
 f46:=Tryz.func167.trans (congrArg some (by kernel_rfl))
 t0:=Tryz.underlying0
 a0:=Tryz.isAgg0
 z0:=Tryz.sizeOf0
 v0:=Tryz.zeroValue0
 i0:=by kernel_rfl
 t3:=Tryz.underlying3
 a3:=Tryz.isAgg3
 z3:=Tryz.sizeOf3
 v3:=Tryz.zeroValue3
 i3:=by kernel_rfl
 t4:=Tryz.underlying4
 a4:=Tryz.isAgg4
 z4:=Tryz.sizeOf4
 v4:=Tryz.zeroValue4
 i4:=by kernel_rfl
 t5:=Tryz.underlying5
 a5:=Tryz.isAgg5
 z5:=Tryz.sizeOf5
 v5:=Tryz.zeroValue5
 i5:=by kernel_rfl
 t22:=Tryz.underlying65
 a22:=Tryz.isAgg65
 z22:=Tryz.sizeOf65
 v22:=Tryz.zeroValue65
 i22:=by kernel_rfl
 t33:=Tryz.underlying41
 a33:=Tryz.isAgg41
 z33:=Tryz.sizeOf41
 v33:=Tryz.zeroValue41
 i33:=by kernel_rfl
 t45:=Tryz.underlying119
 a45:=Tryz.isAgg119
 z45:=Tryz.sizeOf119
 v45:=Tryz.zeroValue119
 i45:=by kernel_rfl}
open Go.RowKit in
theorem Tryz.binary_PutUvarint(g o n c x:Nat)(hx:x<18446744073709551616)(w:World)(hn:(Lib.uvarint x).length≤n)(hcell:∀j,j<(Lib.uvarint x).length→(w.cell? ⟨g,o+j,none⟩).isSome=true∧w.frozen? ⟨g,o+j,none⟩=false):
 Calls Tryz.prog 167 #[.slice (some ⟨g,o,none⟩) n c,.int .u64 x] w fun e w'=>e=.returned (.int .i64 (Lib.uvarint x).length)∧w'=w.setCells g o (Lib.byteCells (Lib.uvarint x)):=Any.binary_PutUvarint Tryz.laysBin46 g o n c x hx w hn hcell
def Tryz.laysBin49_ren:Go.Shelf.Ren:=⟨fun|49=>166|46=>167|n=>n,fun|22=>65|2=>2|3=>3|33=>41|45=>119|4=>4|5=>5|0=>0|n=>n,fun|n=>n⟩
theorem Tryz.laysBin49:Go.Proofs.LaysBin.n49 Tryz.prog Tryz.laysBin49_ren:={
 mixed:=by kernel_rfl
 f46:=Tryz.func167.trans (congrArg some (by kernel_rfl))
 f49:=Tryz.func166.trans (congrArg some (by kernel_rfl))
 t0:=Tryz.underlying0
 a0:=Tryz.isAgg0
 z0:=Tryz.sizeOf0
 v0:=Tryz.zeroValue0
 i0:=by kernel_rfl
 t2:=Tryz.underlying2
 a2:=Tryz.isAgg2
 z2:=Tryz.sizeOf2
 v2:=Tryz.zeroValue2
 i2:=by kernel_rfl
 t3:=Tryz.underlying3
 a3:=Tryz.isAgg3
 z3:=Tryz.sizeOf3
 v3:=Tryz.zeroValue3
 i3:=by kernel_rfl
 t4:=Tryz.underlying4
 a4:=Tryz.isAgg4
 z4:=Tryz.sizeOf4
 v4:=Tryz.zeroValue4
 i4:=by kernel_rfl
 t5:=Tryz.underlying5
 a5:=Tryz.isAgg5
 z5:=Tryz.sizeOf5
 v5:=Tryz.zeroValue5
 i5:=by kernel_rfl
 t22:=Tryz.underlying65
 a22:=Tryz.isAgg65
 z22:=Tryz.sizeOf65
 v22:=Tryz.zeroValue65
 i22:=by kernel_rfl
 t33:=Tryz.underlying41
 a33:=Tryz.isAgg41
 z33:=Tryz.sizeOf41
 v33:=Tryz.zeroValue41
 i33:=by kernel_rfl
 t45:=Tryz.underlying119
 a45:=Tryz.isAgg119
 z45:=Tryz.sizeOf119
 v45:=Tryz.zeroValue119
 i45:=by kernel_rfl}
open Go.RowKit in
theorem Tryz.binary_PutVarint(g o n c:Nat)(x:Int)(h0: -9223372036854775808≤x)(h1:x≤9223372036854775807)(w:World)(hn:(Lib.uvarint (Lib.zigzag x)).length≤n)(hcell:∀j,j<(Lib.uvarint (Lib.zigzag x)).length→(w.cell? ⟨g,o+j,none⟩).isSome=true∧w.frozen? ⟨g,o+j,none⟩=false):
 Calls Tryz.prog 166 #[.slice (some ⟨g,o,none⟩) n c,.int .i64 x] w fun e w'=>e=.returned (.int .i64 (Lib.uvarint (Lib.zigzag x)).length)∧w'=w.setCells g o (Lib.byteCells (Lib.uvarint (Lib.zigzag x))):=Any.binary_PutVarint Tryz.laysBin49 g o n c x h0 h1 w hn hcell
def Tryz.lays190_ren:Go.Shelf.Ren:=⟨fun|190=>20|125=>45|258=>44|128=>88|129=>89|302=>79|303=>80|304=>81|305=>82|306=>83|307=>84|308=>85|309=>86|310=>87|333=>145|329=>146|330=>147|334=>148|335=>149|336=>150|344=>193|n=>n,fun|31=>59|9=>9|3=>3|46=>119|0=>0|51=>224|53=>41|4=>4|183=>216|182=>215|131=>221|5=>5|218=>307|222=>310|228=>365|229=>319|n=>n,fun|n=>n⟩
theorem Tryz.lays190:Go.Proofs.Lays.n190 Tryz.prog Tryz.lays190_ren:={
 mixed:=by kernel_rfl
 f125:=Tryz.func45.trans (congrArg some (by kernel_rfl))
 f128:=Tryz.func88.trans (congrArg some (by kernel_rfl))
 f129:=Tryz.func89.trans (congrArg some (by kernel_rfl))
 f190:=Tryz.func20.trans (congrArg some (by kernel_rfl))
 f258:=Tryz.func44.trans (congrArg some (by kernel_rfl))
 f302:=Tryz.func79.trans (congrArg some (by kernel_rfl))
 f303:=Tryz.func80.trans (congrArg some (by kernel_rfl))
 f304:=Tryz.func81.trans (congrArg some (by kernel_rfl))
 f305:=Tryz.func82.trans (congrArg some (by kernel_rfl))
 f306:=Tryz.func83.trans (congrArg some (by kernel_rfl))
 f307:=Tryz.func84.trans (congrArg some (by kernel_rfl))
 f308:=Tryz.func85.trans (congrArg some (by kernel_rfl))
 f309:=Tryz.func86.trans (congrArg some (by kernel_rfl))
 f310:=Tryz.func87.trans (congrArg some (by kernel_rfl))
 f329:=Tryz.func146.trans (congrArg some (by kernel_rfl))
 f330:=Tryz.func147.trans (congrArg some (by kernel_rfl))
 f333:=Tryz.func145.trans (congrArg some (by kernel_rfl))
 f334:=Tryz.func148.trans (congrArg some (by kernel_rfl))
 f335:=Tryz.func149.trans (congrArg some (by kernel_rfl))
 f336:=Tryz.func150.trans (congrArg some (by kernel_rfl))
 f344:=Tryz.func193.trans (congrArg some (by kernel_rfl))
 t0:=Tryz.underlying0
 a0:=Tryz.isAgg0
 z0:=Tryz.sizeOf0
 v0:=Tryz.zeroValue0
 t3:=Tryz.underlying3
 a3:=Tryz.isAgg3
 z3:=Tryz.sizeOf3
 v3:=Tryz.zeroValue3
 t4:=Tryz.underlying4
 a4:=Tryz.isAgg4
 z4:=Tryz.sizeOf4
 v4:=Tryz.zeroValue4
 t5:=Tryz.underlying5
 a5:=Tryz.isAgg5
 z5:=Tryz.sizeOf5
 v5:=Tryz.zeroValue5
 t9:=Tryz.underlying9
 a9:=Tryz.isAgg9
 z9:=Tryz.sizeOf9
 v9:=Tryz.zeroValue9
 t31:=Tryz.underlying59
 a31:=Tryz.isAgg59
 z31:=Tryz.sizeOf59
 v31:=Tryz.zeroValue59
 t46:=Tryz.underlying119
 a46:=Tryz.isAgg119
 z46:=Tryz.sizeOf119
 v46:=Tryz.zeroValue119
 t51:=Tryz.underlying224
 a51:=Tryz.isAgg224
 z51:=Tryz.sizeOf224
 v51:=Tryz.zeroValue224
 t53:=Tryz.underlying41
 a53:=Tryz.isAgg41
 z53:=Tryz.sizeOf41
 v53:=Tryz.zeroValue41
 t131:=Tryz.underlying221
 a131:=Tryz.isAgg221
 z131:=Tryz.sizeOf221
 v131:=Tryz.zeroValue221
 t182:=Tryz.underlying215
 a182:=Tryz.isAgg215
 z182:=Tryz.sizeOf215
 v182:=Tryz.zeroValue215
 t183:=Tryz.underlying216
 a183:=Tryz.isAgg216
 z183:=Tryz.sizeOf216
 v183:=Tryz.zeroValue216
 t218:=Tryz.underlying307
 a218:=Tryz.isAgg307
 z218:=Tryz.sizeOf307
 v218:=Tryz.zeroValue307
 t222:=Tryz.underlying310
 a222:=Tryz.isAgg310
 z222:=Tryz.sizeOf310
 v222:=Tryz.zeroValue310
 t228:=Tryz.underlying365
 a228:=Tryz.isAgg365
 z228:=Tryz.sizeOf365
 v228:=Tryz.zeroValue365
 t229:=Tryz.underlying319
 a229:=Tryz.isAgg319
 z229:=Tryz.sizeOf319
 v229:=Tryz.zeroValue319}
open Go.Sort Go.RowKit in
theorem Tryz.slices_Sort_string(blk off cap:Nat)(ss:List (List UInt8))(w:World)(hH:Holds encStr w blk off ss.toArray)(hblk:blk<w.heap.size)(hsz:ss.length<4611686018427387904):
 Calls Tryz.prog 20 #[.slice (some ⟨blk,off,none⟩) ss.length cap] w fun e w'=>
  e=.returned (.tuple #[])∧∃n os,w'=grow (putRow encStr (Sort.ahead w n) blk off (ss.mergeSort fun x y=>decide (x≤y)).toArray) os:=Any.slices_Sort_string Tryz.lays190 blk off cap ss w hH hblk hsz
open Go.RowKit Go.Sort in
theorem Tryz.slices_Sort_string_none(p:Option Addr)(cap:Nat)(w:World):
 Calls Tryz.prog 20 #[.slice p 0 cap] w fun e w'=>e=.returned (.tuple #[])∧w'=w:=Any.slices_Sort_string_none Tryz.lays190 p cap w
def Tryz.laysnb115_ren:Go.Shelf.Ren:=⟨fun|115=>207|n=>n,fun|37=>65|4=>4|9=>9|5=>5|n=>n,fun|n=>n⟩
theorem Tryz.laysnb115:Go.Proofs.Lays.nb115 Tryz.prog Tryz.laysnb115_ren:={
 mixed:=by kernel_rfl
 f115:=Tryz.func207.trans (congrArg some (by kernel_rfl))
 t4:=Tryz.underlying4
 a4:=Tryz.isAgg4
 z4:=Tryz.sizeOf4
 v4:=Tryz.zeroValue4
 t9:=Tryz.underlying9
 a9:=Tryz.isAgg9
 z9:=Tryz.sizeOf9
 v9:=Tryz.zeroValue9
 t37:=Tryz.underlying65
 a37:=Tryz.isAgg65
 z37:=Tryz.sizeOf65
 v37:=Tryz.zeroValue65
 t5:=Tryz.underlying5
 a5:=Tryz.isAgg5
 z5:=Tryz.sizeOf5
 v5:=Tryz.zeroValue5}
theorem Tryz.bytes_Equal_all(p1 p2:Option Addr)(n c m d:Nat)(xs ys:List Int)(w:World)(hx:xs.length=n)(hy:ys.length=m)(h1:Lib.BytesIn w p1 n xs)(h2:Lib.BytesIn w p2 m ys):
 Calls Tryz.prog 207 #[.slice p1 n c,.slice p2 m d] w fun e w'=>e=.returned (.bool (Lib.bytesOf xs==Lib.bytesOf ys))∧w'=w:=Any.bytes_Equal_all Tryz.laysnb115 p1 p2 n c m d xs ys w hx hy h1 h2
def Tryz.lays115_ren:Go.Shelf.Ren:=⟨fun|115=>207|n=>n,fun|37=>65|4=>4|9=>9|5=>5|n=>n,fun|n=>n⟩
theorem Tryz.lays115:Go.Proofs.Lays.n115 Tryz.prog Tryz.lays115_ren:={
 mixed:=by kernel_rfl
 f115:=Tryz.func207.trans (congrArg some (by kernel_rfl))
 t4:=Tryz.underlying4
 a4:=Tryz.isAgg4
 z4:=Tryz.sizeOf4
 v4:=Tryz.zeroValue4
 t9:=Tryz.underlying9
 a9:=Tryz.isAgg9
 z9:=Tryz.sizeOf9
 v9:=Tryz.zeroValue9
 t37:=Tryz.underlying65
 a37:=Tryz.isAgg65
 z37:=Tryz.sizeOf65
 v37:=Tryz.zeroValue65}
theorem Tryz.bytes_Equal(v1 v2:Value)(xs ys:List Int)(w:World)(h1:(convert 65 9 v1).run Tryz.prog w=.ok (.string (strOfNums xs)) w)(h2:(convert 65 9 v2).run Tryz.prog w=.ok (.string (strOfNums ys)) w):
 Calls Tryz.prog 207 #[v1,v2] w fun e w'=>e=.returned (.bool (Lib.bytesOf xs==Lib.bytesOf ys))∧w'=w:=Any.bytes_Equal Tryz.lays115 v1 v2 xs ys w h1 h2
def Tryz.sortLabel_ren:Go.Shelf.Ren:=⟨fun|6=>170|15=>45|14=>213|28=>88|29=>89|20=>228|21=>229|22=>230|23=>231|24=>232|25=>233|26=>234|27=>235|46=>247|47=>146|48=>147|49=>248|50=>249|57=>254|n=>n,fun|22=>186|24=>253|25=>328|3=>3|39=>119|0=>0|53=>224|55=>41|4=>4|46=>216|45=>215|50=>221|5=>5|9=>9|66=>307|70=>310|76=>365|77=>319|n=>n,fun|n=>n⟩
theorem Tryz.sortLabel:Go.Proofs.SlLaysF0.n6 Tryz.prog Tryz.sortLabel_ren:={
 mixed:=by kernel_rfl
 f6:=⟨Tryz.f170.name,by decide,Tryz.func170.trans (congrArg some (by kernel_rfl))⟩
 f14:=⟨Tryz.f213.name,by decide,Tryz.func213.trans (congrArg some (by kernel_rfl))⟩
 f15:=Tryz.func45.trans (congrArg some (by kernel_rfl))
 f20:=⟨Tryz.f228.name,by decide,Tryz.func228.trans (congrArg some (by kernel_rfl))⟩
 f21:=⟨Tryz.f229.name,by decide,Tryz.func229.trans (congrArg some (by kernel_rfl))⟩
 f22:=⟨Tryz.f230.name,by decide,Tryz.func230.trans (congrArg some (by kernel_rfl))⟩
 f23:=⟨Tryz.f231.name,by decide,Tryz.func231.trans (congrArg some (by kernel_rfl))⟩
 f24:=⟨Tryz.f232.name,by decide,Tryz.func232.trans (congrArg some (by kernel_rfl))⟩
 f25:=⟨Tryz.f233.name,by decide,Tryz.func233.trans (congrArg some (by kernel_rfl))⟩
 f26:=⟨Tryz.f234.name,by decide,Tryz.func234.trans (congrArg some (by kernel_rfl))⟩
 f27:=⟨Tryz.f235.name,by decide,Tryz.func235.trans (congrArg some (by kernel_rfl))⟩
 f28:=Tryz.func88.trans (congrArg some (by kernel_rfl))
 f29:=Tryz.func89.trans (congrArg some (by kernel_rfl))
 f46:=⟨Tryz.f247.name,by decide,Tryz.func247.trans (congrArg some (by kernel_rfl))⟩
 f47:=Tryz.func146.trans (congrArg some (by kernel_rfl))
 f48:=Tryz.func147.trans (congrArg some (by kernel_rfl))
 f49:=⟨Tryz.f248.name,by decide,Tryz.func248.trans (congrArg some (by kernel_rfl))⟩
 f50:=⟨Tryz.f249.name,by decide,Tryz.func249.trans (congrArg some (by kernel_rfl))⟩
 f57:=⟨Tryz.f254.name,by decide,Tryz.func254.trans (congrArg some (by kernel_rfl))⟩
 t0:=Tryz.underlying0
 a0:=Tryz.isAgg0
 z0:=Tryz.sizeOf0
 v0:=Tryz.zeroValue0
 t3:=Tryz.underlying3
 a3:=Tryz.isAgg3
 z3:=Tryz.sizeOf3
 v3:=Tryz.zeroValue3
 t4:=Tryz.underlying4
 a4:=Tryz.isAgg4
 z4:=Tryz.sizeOf4
 v4:=Tryz.zeroValue4
 t5:=Tryz.underlying5
 a5:=Tryz.isAgg5
 z5:=Tryz.sizeOf5
 v5:=Tryz.zeroValue5
 t9:=Tryz.underlying9
 a9:=Tryz.isAgg9
 z9:=Tryz.sizeOf9
 v9:=Tryz.zeroValue9
 t22:=Tryz.underlying186
 a22:=Tryz.isAgg186
 z22:=Tryz.sizeOf186
 v22:=Tryz.zeroValue186
 t25:=Tryz.underlying328
 a25:=Tryz.isAgg328
 z25:=Tryz.sizeOf328
 v25:=Tryz.zeroValue328
 t39:=Tryz.underlying119
 a39:=Tryz.isAgg119
 z39:=Tryz.sizeOf119
 v39:=Tryz.zeroValue119
 t45:=Tryz.underlying215
 a45:=Tryz.isAgg215
 z45:=Tryz.sizeOf215
 v45:=Tryz.zeroValue215
 t46:=Tryz.underlying216
 a46:=Tryz.isAgg216
 z46:=Tryz.sizeOf216
 v46:=Tryz.zeroValue216
 t50:=Tryz.underlying221
 a50:=Tryz.isAgg221
 z50:=Tryz.sizeOf221
 v50:=Tryz.zeroValue221
 t53:=Tryz.underlying224
 a53:=Tryz.isAgg224
 z53:=Tryz.sizeOf224
 v53:=Tryz.zeroValue224
 t55:=Tryz.underlying41
 a55:=Tryz.isAgg41
 z55:=Tryz.sizeOf41
 v55:=Tryz.zeroValue41
 t66:=Tryz.underlying307
 a66:=Tryz.isAgg307
 z66:=Tryz.sizeOf307
 v66:=Tryz.zeroValue307
 t70:=Tryz.underlying310
 a70:=Tryz.isAgg310
 z70:=Tryz.sizeOf310
 v70:=Tryz.zeroValue310
 t76:=Tryz.underlying365
 a76:=Tryz.isAgg365
 z76:=Tryz.sizeOf365
 v76:=Tryz.zeroValue365
 t77:=Tryz.underlying319
 a77:=Tryz.isAgg319
 z77:=Tryz.sizeOf319
 v77:=Tryz.zeroValue319}
end Go.Proofs
