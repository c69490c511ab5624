/- The contracts of the library's DecodeRuneInString and IsUpper at this translation: laid by the kit's own shelf tool. -/
import Derived.Shelf.Unicode.DecodeAny
import Derived.Shelf.Unicode.PredsAny
import Derived.Test.YtggldaepncnnfaaDoorProg
namespace Go.Proofs
open Go.Shelf
def Tryd.lays201_ren : Go.Shelf.Ren := ⟨fun | 201 => 22 | 261 => 27 | 311 => 30 | 312 => 31 | n => n, fun | 21 => 21 | 4 => 4 | 51 => 44 | 5 => 5 | 119 => 45 | 0 => 0 | 141 => 47 | 196 => 51 | 193 => 48 | 3 => 3 | 198 => 54 | 49 => 52 | 194 => 49 | 201 => 57 | 226 => 64 | 46 => 59 | 227 => 65 | n => n, fun | 7 => 1 | 9 => 2 | n => n⟩
theorem Tryd.lays201 : Go.Proofs.Lays.n201 Tryd.prog Tryd.lays201_ren := {
  mixed := by kernel_rfl
  f201 := Tryd.func22.trans (congrArg some (by kernel_rfl))
  f261 := Tryd.func27.trans (congrArg some (by kernel_rfl))
  f311 := Tryd.func30.trans (congrArg some (by kernel_rfl))
  f312 := Tryd.func31.trans (congrArg some (by kernel_rfl))
  t0 := Tryd.underlying0
  a0 := Tryd.isAgg0
  z0 := Tryd.sizeOf0
  v0 := Tryd.zeroValue0
  t3 := Tryd.underlying3
  a3 := Tryd.isAgg3
  z3 := Tryd.sizeOf3
  v3 := Tryd.zeroValue3
  t4 := Tryd.underlying4
  a4 := Tryd.isAgg4
  z4 := Tryd.sizeOf4
  v4 := Tryd.zeroValue4
  t5 := Tryd.underlying5
  a5 := Tryd.isAgg5
  z5 := Tryd.sizeOf5
  v5 := Tryd.zeroValue5
  t21 := Tryd.underlying21
  a21 := Tryd.isAgg21
  z21 := Tryd.sizeOf21
  v21 := Tryd.zeroValue21
  t46 := Tryd.underlying59
  a46 := Tryd.isAgg59
  z46 := Tryd.sizeOf59
  v46 := Tryd.zeroValue59
  t49 := Tryd.underlying52
  a49 := Tryd.isAgg52
  z49 := Tryd.sizeOf52
  v49 := Tryd.zeroValue52
  t51 := Tryd.underlying44
  a51 := Tryd.isAgg44
  z51 := Tryd.sizeOf44
  v51 := Tryd.zeroValue44
  t119 := Tryd.underlying45
  a119 := Tryd.isAgg45
  z119 := Tryd.sizeOf45
  t141 := Tryd.underlying47
  a141 := Tryd.isAgg47
  z141 := Tryd.sizeOf47
  v141 := Tryd.zeroValue47
  t193 := Tryd.underlying48
  a193 := Tryd.isAgg48
  z193 := Tryd.sizeOf48
  v193 := Tryd.zeroValue48
  t194 := Tryd.underlying49
  a194 := Tryd.isAgg49
  z194 := Tryd.sizeOf49
  v194 := Tryd.zeroValue49
  t196 := Tryd.underlying51
  a196 := Tryd.isAgg51
  z196 := Tryd.sizeOf51
  v196 := Tryd.zeroValue51
  t198 := Tryd.underlying54
  a198 := Tryd.isAgg54
  z198 := Tryd.sizeOf54
  v198 := Tryd.zeroValue54
  t201 := Tryd.underlying57
  a201 := Tryd.isAgg57
  z201 := Tryd.sizeOf57
  v201 := Tryd.zeroValue57
  t226 := Tryd.underlying64
  a226 := Tryd.isAgg64
  z226 := Tryd.sizeOf64
  v226 := Tryd.zeroValue64
  t227 := Tryd.underlying65
  a227 := Tryd.isAgg65
  z227 := Tryd.sizeOf65
  v227 := Tryd.zeroValue65
  g7 := by kernel_rfl
  g9 := by kernel_rfl }
def Tryd.lays197_ren : Go.Shelf.Ren := ⟨fun | 197 => 23 | 260 => 28 | n => n, fun | 9 => 9 | 21 => 21 | 3 => 3 | 4 => 4 | 5 => 5 | 105 => 39 | 119 => 45 | 0 => 0 | 46 => 59 | 139 => 62 | 138 => 61 | n => n, fun | 3 => 3 | 4 => 4 | n => n⟩
theorem Tryd.lays197 : Go.Proofs.Lays.n197 Tryd.prog Tryd.lays197_ren := {
  mixed := by kernel_rfl
  f197 := Tryd.func23.trans (congrArg some (by kernel_rfl))
  f260 := Tryd.func28.trans (congrArg some (by kernel_rfl))
  t0 := Tryd.underlying0
  a0 := Tryd.isAgg0
  z0 := Tryd.sizeOf0
  v0 := Tryd.zeroValue0
  t3 := Tryd.underlying3
  a3 := Tryd.isAgg3
  z3 := Tryd.sizeOf3
  v3 := Tryd.zeroValue3
  t4 := Tryd.underlying4
  a4 := Tryd.isAgg4
  z4 := Tryd.sizeOf4
  v4 := Tryd.zeroValue4
  t5 := Tryd.underlying5
  a5 := Tryd.isAgg5
  z5 := Tryd.sizeOf5
  v5 := Tryd.zeroValue5
  t9 := Tryd.underlying9
  a9 := Tryd.isAgg9
  z9 := Tryd.sizeOf9
  v9 := Tryd.zeroValue9
  t21 := Tryd.underlying21
  a21 := Tryd.isAgg21
  z21 := Tryd.sizeOf21
  v21 := Tryd.zeroValue21
  t46 := Tryd.underlying59
  a46 := Tryd.isAgg59
  z46 := Tryd.sizeOf59
  v46 := Tryd.zeroValue59
  t105 := Tryd.underlying39
  a105 := Tryd.isAgg39
  z105 := Tryd.sizeOf39
  v105 := Tryd.zeroValue39
  t119 := Tryd.underlying45
  a119 := Tryd.isAgg45
  z119 := Tryd.sizeOf45
  t138 := Tryd.underlying61
  a138 := Tryd.isAgg61
  z138 := Tryd.sizeOf61
  v138 := Tryd.zeroValue61
  t139 := Tryd.underlying62
  a139 := Tryd.isAgg62
  z139 := Tryd.sizeOf62
  v139 := Tryd.zeroValue62
  g3 := by kernel_rfl
  g4 := by kernel_rfl }
open Go.RowKit Go.Lib in
theorem Tryd.utf8_DecodeRuneInString (s : ByteArray) (w : World) (hT : Lib.Utf8Tabs 3 4 w) :
    Calls Tryd.prog 23 #[.string s] w fun e w' => e = .returned (.tuple #[.int .i32 (Lib.decodeGo s).1, .int .i64 (Lib.decodeGo s).2]) ∧ Below w.heap.size w w' := Any.utf8_DecodeRuneInString Tryd.lays197 s w hT
open Go.RowKit Go.Lib in
theorem Tryd.unicode_IsUpper_any (T : RTab) (r : Int) (w : World) (hlo : -2147483648 ≤ r) (hhi : r ≤ 2147483647) (htab : Lib.TabIs Tryd.prog w "unicode.properties" .u8 Lib.propertiesTab) (hV : RVar 2 T w) (hok : RTabOk T) :
    Calls Tryd.prog 22 #[.int .i32 r] w fun e w' => e = .returned (.bool (if latin1 r then isUpperL r else exclGo T r)) ∧ Below w.heap.size w w' := Any.unicode_IsUpper_any Tryd.lays201 (by kernel_rfl) T r w hlo hhi htab hV hok
end Go.Proofs
