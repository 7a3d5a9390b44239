/- The codes are the program's: lines printed by a program of this work (codes2.py). -/
import Derived.Test.YtgonelmeonncpaaGreatDoorBak
import Derived.Test.YtgonelmeonncpaaGreatDoorRows
namespace Go.Ev
open Go.Proofs
theorem code2006 : codeOf Tryz.prog 6 = some c2006 := by kernel_rfl
theorem code2010 : codeOf Tryz.prog 10 = some c2010 := by kernel_rfl
theorem code2028 : codeOf Tryz.prog 28 = some c2028 := by kernel_rfl
theorem code2036 : codeOf Tryz.prog 36 = some c2036 := by kernel_rfl
theorem code2037 : codeOf Tryz.prog 37 = some c2037 := by kernel_rfl
theorem code2093 : codeOf Tryz.prog 93 = some c2093 := by kernel_rfl
theorem code2094 : codeOf Tryz.prog 94 = some c2094 := by kernel_rfl
theorem code2095 : codeOf Tryz.prog 95 = some c2095 := by kernel_rfl
theorem code2096 : codeOf Tryz.prog 96 = some c2096 := by kernel_rfl
theorem code2097 : codeOf Tryz.prog 97 = some c2097 := by kernel_rfl
theorem code2098 : codeOf Tryz.prog 98 = some c2098 := by kernel_rfl
theorem code2099 : codeOf Tryz.prog 99 = some c2099 := by kernel_rfl
theorem code2184 : codeOf Tryz.prog 184 = some c2184 := by kernel_rfl
theorem code2185 : codeOf Tryz.prog 185 = some c2185 := by kernel_rfl
theorem code2187 : codeOf Tryz.prog 187 = some c2187 := by kernel_rfl
theorem code2211 : codeOf Tryz.prog 211 = some c2211 := by kernel_rfl

end Go.Ev
