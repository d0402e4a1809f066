/- DERIVED: THE SHELF's CONTRACTS AT THIS DUMP, IN PLAIN WORDS (tools/lay-plain.mjs out of 'TryzShelf.lean', which tools/lay-shelf.mjs wrote): THE SAME DECLARATIONS UNDER THE SAME NAMES: 'import', 'namespace', 'open', 'def', 'theorem' AND NOTHING ELSE: no command of the shelf's: FOR A HAND-IN. Each laying: the table of numbers ('.._ren') and one theorem, a field a fact of the dump's own or the kernel's comparison; each contract: ONE APPLICATION. -/
import Derived.Shelf.Small.Bits
import Derived.Shelf.Strconv.Itoa0
import Derived.Shelf.Bits.Mul64
import Derived.Test.YtohhkjamddojmaaGreatDoorProg
namespace Go.Proofs.YtohhkjamddojmaaGreatDoor
theorem Lz {p:Prop} (h:p):RowKit.Hid p:=h
end Go.Proofs.YtohhkjamddojmaaGreatDoor
namespace Go.Proofs
open Go.Shelf
def Tryz.lays134_ren:Go.Shelf.Ren:=⟨fun|134=>269|129=>198|n=>n,fun|53=>22|3=>3|4=>4|46=>24|5=>5|9=>9|n=>n,fun|n=>n⟩
theorem Tryz.lays134:Go.Proofs.Lays.n134 Tryz.prog Tryz.lays134_ren:={
 mixed:=by kernel_rfl
 f129:=Tryz.func198.trans (congrArg some (by kernel_rfl))
 f134:=Tryz.func269.trans (congrArg some (by kernel_rfl))
 t3:=Tryz.underlying3
 a3:=Tryz.isAgg3
 z3:=Tryz.sizeOf3
 v3:=Tryz.zeroValue3
 t4:=Tryz.underlying4
 a4:=Tryz.isAgg4
 z4:=Tryz.sizeOf4
 v4:=Tryz.zeroValue4
 t5:=Tryz.underlying5
 a5:=Tryz.isAgg5
 z5:=Tryz.sizeOf5
 v5:=Tryz.zeroValue5
 t9:=Tryz.underlying9
 a9:=Tryz.isAgg9
 z9:=Tryz.sizeOf9
 v9:=Tryz.zeroValue9
 t46:=Tryz.underlying24
 a46:=Tryz.isAgg24
 z46:=Tryz.sizeOf24
 v46:=Tryz.zeroValue24
 t53:=Tryz.underlying22
 a53:=Tryz.isAgg22
 z53:=Tryz.sizeOf22
 v53:=Tryz.zeroValue22 }
theorem Tryz.bits_LeadingZeros64 (x:Int) (w:World) (h0:0<=x) (h1:x<=18446744073709551615) :
 Calls Tryz.prog 269 #[.int .u64 x] w λe w'=>e=.returned (.int .i64 (64-(Lib.bitLen x.toNat:Int)))/\w'=w:=Any.bits_LeadingZeros64 Tryz.lays134 x w h0 h1
def Tryz.lays130_ren:Go.Shelf.Ren:=⟨fun|130=>244|125=>175|128=>197|129=>198|n=>n,fun|46=>24|3=>3|51=>63|53=>22|4=>4|5=>5|9=>9|n=>n,fun|n=>n⟩
theorem Tryz.lays130:Go.Proofs.Lays.n130 Tryz.prog Tryz.lays130_ren:={
 mixed:=by kernel_rfl
 f125:=Tryz.func175.trans (congrArg some (by kernel_rfl))
 f128:=Tryz.func197.trans (congrArg some (by kernel_rfl))
 f129:=Tryz.func198.trans (congrArg some (by kernel_rfl))
 f130:=Tryz.func244.trans (congrArg some (by kernel_rfl))
 t3:=Tryz.underlying3
 a3:=Tryz.isAgg3
 z3:=Tryz.sizeOf3
 v3:=Tryz.zeroValue3
 t4:=Tryz.underlying4
 a4:=Tryz.isAgg4
 z4:=Tryz.sizeOf4
 v4:=Tryz.zeroValue4
 t5:=Tryz.underlying5
 a5:=Tryz.isAgg5
 z5:=Tryz.sizeOf5
 v5:=Tryz.zeroValue5
 t9:=Tryz.underlying9
 a9:=Tryz.isAgg9
 z9:=Tryz.sizeOf9
 v9:=Tryz.zeroValue9
 t46:=Tryz.underlying24
 a46:=Tryz.isAgg24
 z46:=Tryz.sizeOf24
 v46:=Tryz.zeroValue24
 t51:=Tryz.underlying63
 a51:=Tryz.isAgg63
 z51:=Tryz.sizeOf63
 v51:=Tryz.zeroValue63
 t53:=Tryz.underlying22
 a53:=Tryz.isAgg22
 z53:=Tryz.sizeOf22
 v53:=Tryz.zeroValue22 }
theorem Tryz.bits_LeadingZeros (x:Int) (w:World) (h0:0<=x) (h1:x<=18446744073709551615) :
 Calls Tryz.prog 244 #[.int .u64 x] w λe w'=>e=.returned (.int .i64 (64-(Lib.bitLen x.toNat:Int)))/\w'=w:=Any.bits_LeadingZeros Tryz.lays130 x w h0 h1
def Tryz.lays212_ren:Go.Shelf.Ren:=⟨fun|212=>225|263=>251|264=>252|n=>n,fun|46=>24|51=>63|146=>296|53=>22|148=>298|n=>n,fun|n=>n⟩
theorem Tryz.lays212:Go.Proofs.Lays.n212 Tryz.prog Tryz.lays212_ren:={
 mixed:=by kernel_rfl
 f212:=Tryz.func225.trans (congrArg some (by kernel_rfl))
 f263:=Tryz.func251.trans (congrArg some (by kernel_rfl))
 f264:=Tryz.func252.trans (congrArg some (by kernel_rfl))
 t46:=Tryz.underlying24
 a46:=Tryz.isAgg24
 z46:=Tryz.sizeOf24
 v46:=Tryz.zeroValue24
 t51:=Tryz.underlying63
 a51:=Tryz.isAgg63
 z51:=Tryz.sizeOf63
 v51:=Tryz.zeroValue63
 t53:=Tryz.underlying22
 a53:=Tryz.isAgg22
 z53:=Tryz.sizeOf22
 v53:=Tryz.zeroValue22
 t146:=Tryz.underlying296
 a146:=Tryz.isAgg296
 z146:=Tryz.sizeOf296
 v146:=Tryz.zeroValue296
 t148:=Tryz.underlying298
 a148:=Tryz.isAgg298
 z148:=Tryz.sizeOf298
 v148:=Tryz.zeroValue298 }
open Go.RowKit Go.Lib in
theorem Tryz.bits_Mul (x y:Nat) (hx:x<18446744073709551616) (hy:y<18446744073709551616) (w:World) :
 Calls Tryz.prog 225 #[.int .u64 x,.int .u64 y] w λe w'=>e=.returned (.tuple #[.int .u64 ((x*y/18446744073709551616:Nat):Int),.int .u64 ((x*y%18446744073709551616:Nat):Int)])/\w'=w:=Any.bits_Mul Tryz.lays212 x y hx hy w
end Go.Proofs
