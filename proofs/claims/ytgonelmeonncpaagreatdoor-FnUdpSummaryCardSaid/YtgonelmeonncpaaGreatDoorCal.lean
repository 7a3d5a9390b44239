/- The codes are the program's: lines printed by a program of this work (codes2.py). -/
import Derived.Test.YtgonelmeonncpaaGreatDoorCak
import Derived.Test.YtgonelmeonncpaaGreatDoorRows
namespace Go.Ev
open Go.Proofs
theorem code2010 : codeOf Tryz.prog 10 = some c2010 := by kernel_rfl
theorem code2011 : codeOf Tryz.prog 11 = some c2011 := by kernel_rfl
theorem code2036 : codeOf Tryz.prog 36 = some c2036 := by kernel_rfl
theorem code2037 : codeOf Tryz.prog 37 = some c2037 := by kernel_rfl
theorem code2038 : codeOf Tryz.prog 38 = some c2038 := by kernel_rfl
theorem code2093 : codeOf Tryz.prog 93 = some c2093 := by kernel_rfl
theorem code2094 : codeOf Tryz.prog 94 = some c2094 := by kernel_rfl
theorem code2095 : codeOf Tryz.prog 95 = some c2095 := by kernel_rfl
theorem code2096 : codeOf Tryz.prog 96 = some c2096 := by kernel_rfl
theorem code2097 : codeOf Tryz.prog 97 = some c2097 := by kernel_rfl
theorem code2098 : codeOf Tryz.prog 98 = some c2098 := by kernel_rfl
theorem code2099 : codeOf Tryz.prog 99 = some c2099 := by kernel_rfl
theorem code2100 : codeOf Tryz.prog 100 = some c2100 := by kernel_rfl
theorem code2101 : codeOf Tryz.prog 101 = some c2101 := by kernel_rfl
theorem code2102 : codeOf Tryz.prog 102 = some c2102 := by kernel_rfl
theorem code2103 : codeOf Tryz.prog 103 = some c2103 := by kernel_rfl
theorem code2104 : codeOf Tryz.prog 104 = some c2104 := by kernel_rfl
theorem code2184 : codeOf Tryz.prog 184 = some c2184 := by kernel_rfl
theorem code2185 : codeOf Tryz.prog 185 = some c2185 := by kernel_rfl
theorem code2187 : codeOf Tryz.prog 187 = some c2187 := by kernel_rfl
theorem code2188 : codeOf Tryz.prog 188 = some c2188 := by kernel_rfl
theorem code2189 : codeOf Tryz.prog 189 = some c2189 := by kernel_rfl
theorem code2190 : codeOf Tryz.prog 190 = some c2190 := by kernel_rfl
theorem code2211 : codeOf Tryz.prog 211 = some c2211 := by kernel_rfl

end Go.Ev
