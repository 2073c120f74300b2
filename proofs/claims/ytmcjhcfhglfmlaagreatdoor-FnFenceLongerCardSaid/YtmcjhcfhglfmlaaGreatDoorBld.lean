/- The library's contracts on strings.Builder, laid at this program. -/
import Derived.Shelf.Strings.Builder1
import Derived.Ground.NamesProg
import Derived.Test.YtmcjhcfhglfmlaaGreatDoorProg
namespace Go.Proofs
open Go.Shelf
def Tryz.layXT_ren : Go.Shelf.Ren := ⟨fun | 169 => 43 | n => n, fun | 70 => 57 | 9 => 9 | 0 => 0 | 72 => 59 | 37 => 43 | 127 => 85 | 3 => 3 | 5 => 5 | n => n, fun | n => n⟩
theorem Tryz.layXT : Go.Proofs.Lays.n169 Tryz.prog Tryz.layXT_ren := {
  mixed := by kernel_rfl
  f169 := Tryz.func43.trans (congrArg some (by kernel_rfl))
  t0 := Tryz.underlying0
  a0 := Tryz.isAgg0
  z0 := Tryz.sizeOf0
  v0 := Tryz.zeroValue0
  t3 := Tryz.underlying3
  a3 := Tryz.isAgg3
  z3 := Tryz.sizeOf3
  v3 := Tryz.zeroValue3
  t9 := Tryz.underlying9
  a9 := Tryz.isAgg9
  z9 := Tryz.sizeOf9
  v9 := Tryz.zeroValue9
  t37 := Tryz.underlying43
  a37 := Tryz.isAgg43
  z37 := Tryz.sizeOf43
  v37 := Tryz.zeroValue43
  t70 := Tryz.underlying57
  a70 := Tryz.isAgg57
  z70 := Tryz.sizeOf57
  v70 := Tryz.zeroValue57
  t72 := Tryz.underlying59
  a72 := Tryz.isAgg59
  z72 := Tryz.sizeOf59
  v72 := Tryz.zeroValue59
  t127 := Tryz.underlying85
  a127 := Tryz.isAgg85
  z127 := Tryz.sizeOf85
  v127 := Tryz.zeroValue85 }
end Go.Proofs
