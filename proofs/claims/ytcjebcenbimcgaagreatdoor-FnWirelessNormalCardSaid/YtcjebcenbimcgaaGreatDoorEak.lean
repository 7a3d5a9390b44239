/- The codes are the program's: lines printed by a program of this work (codes2.py). -/
import Derived.Test.YtcjebcenbimcgaaGreatDoorEaj
import Derived.Test.YtcjebcenbimcgaaGreatDoorRows
namespace Go.Ev
open Go.Proofs
theorem code3006 : codeOf Tryz.prog 6 = some c3006 := by kernel_rfl
theorem code3007 : codeOf Tryz.prog 7 = some c3007 := by kernel_rfl
theorem code3008 : codeOf Tryz.prog 8 = some c3008 := by kernel_rfl
theorem code3026 : codeOf Tryz.prog 26 = some c3026 := by kernel_rfl
theorem code3027 : codeOf Tryz.prog 27 = some c3027 := by kernel_rfl
theorem code3028 : codeOf Tryz.prog 28 = some c3028 := by kernel_rfl
theorem code3029 : codeOf Tryz.prog 29 = some c3029 := by kernel_rfl
theorem code3066 : codeOf Tryz.prog 66 = some c3066 := by kernel_rfl
theorem code3069 : codeOf Tryz.prog 69 = some c3069 := by kernel_rfl
theorem code3071 : codeOf Tryz.prog 71 = some c3071 := by kernel_rfl
theorem code3072 : codeOf Tryz.prog 72 = some c3072 := by kernel_rfl
theorem code3073 : codeOf Tryz.prog 73 = some c3073 := by kernel_rfl
theorem code3074 : codeOf Tryz.prog 74 = some c3074 := by kernel_rfl
theorem code3075 : codeOf Tryz.prog 75 = some c3075 := by kernel_rfl
theorem code3076 : codeOf Tryz.prog 76 = some c3076 := by kernel_rfl
theorem code3077 : codeOf Tryz.prog 77 = some c3077 := by kernel_rfl
theorem code3142 : codeOf Tryz.prog 142 = some c3142 := by kernel_rfl
theorem code3144 : codeOf Tryz.prog 144 = some c3144 := by kernel_rfl
theorem code3193 : codeOf Tryz.prog 193 = some c3193 := by kernel_rfl

end Go.Ev
