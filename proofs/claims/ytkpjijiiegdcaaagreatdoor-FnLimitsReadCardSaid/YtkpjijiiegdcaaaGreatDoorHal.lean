/- The codes are the program's: lines printed by a program of this work (codes2.py). -/
import Derived.Test.YtkpjijiiegdcaaaGreatDoorHak
import Derived.Test.YtkpjijiiegdcaaaGreatDoorRows
set_option maxRecDepth 100000
namespace Go.Ev
open Go.Proofs
theorem code4006 : codeOf Tryz.prog 6 = some c4006 := by kernel_rfl
theorem code4007 : codeOf Tryz.prog 7 = some c4007 := by kernel_rfl
theorem code4008 : codeOf Tryz.prog 8 = some c4008 := by kernel_rfl
theorem code4017 : codeOf Tryz.prog 17 = some c4017 := by kernel_rfl
theorem code4018 : codeOf Tryz.prog 18 = some c4018 := by kernel_rfl
theorem code4019 : codeOf Tryz.prog 19 = some c4019 := by kernel_rfl
theorem code4020 : codeOf Tryz.prog 20 = some c4020 := by kernel_rfl
theorem code4047 : codeOf Tryz.prog 47 = some c4047 := by kernel_rfl
theorem code4048 : codeOf Tryz.prog 48 = some c4048 := by kernel_rfl
theorem code4049 : codeOf Tryz.prog 49 = some c4049 := by kernel_rfl
theorem code2113 : codeOf Tryz.prog 50 = some c2113 := by kernel_rfl
theorem code4051 : codeOf Tryz.prog 51 = some c4051 := by kernel_rfl
theorem code4052 : codeOf Tryz.prog 52 = some c4052 := by kernel_rfl
theorem code4053 : codeOf Tryz.prog 53 = some c4053 := by kernel_rfl
theorem code2193 : codeOf Tryz.prog 179 = some c2193 := by kernel_rfl
theorem code4183 : codeOf Tryz.prog 183 = some c4183 := by kernel_rfl
theorem code4186 : codeOf Tryz.prog 186 = some c4186 := by kernel_rfl
theorem code4197 : codeOf Tryz.prog 197 = some c4197 := by kernel_rfl
theorem code4198 : codeOf Tryz.prog 198 = some c4198 := by kernel_rfl
theorem code4200 : codeOf Tryz.prog 200 = some c4200 := by kernel_rfl
theorem code1167 : codeOf Tryz.prog 199 = some c1167 := by kernel_rfl

end Go.Ev
