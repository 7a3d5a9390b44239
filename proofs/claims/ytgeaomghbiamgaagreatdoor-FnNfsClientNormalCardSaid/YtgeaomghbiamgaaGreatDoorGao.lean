/- The codes are the program's: lines printed by a program of this work (codes2.py). -/
import Derived.Test.YtgeaomghbiamgaaGreatDoorGan
import Derived.Test.YtgeaomghbiamgaaGreatDoorRows
set_option maxRecDepth 100000
namespace Go.Ev
open Go.Proofs
theorem code3084 : codeOf Tryz.prog 25 = some c3084 := by kernel_rfl
theorem code3086 : codeOf Tryz.prog 27 = some c3086 := by kernel_rfl
theorem code3087 : codeOf Tryz.prog 28 = some c3087 := by kernel_rfl
theorem code3088 : codeOf Tryz.prog 29 = some c3088 := by kernel_rfl
theorem code3095 : codeOf Tryz.prog 37 = some c3095 := by kernel_rfl
theorem code3147 : codeOf Tryz.prog 65 = some c3147 := by kernel_rfl
theorem code3149 : codeOf Tryz.prog 68 = some c3149 := by kernel_rfl
theorem code3150 : codeOf Tryz.prog 69 = some c3150 := by kernel_rfl
theorem code3153 : codeOf Tryz.prog 79 = some c3153 := by kernel_rfl
theorem code3154 : codeOf Tryz.prog 80 = some c3154 := by kernel_rfl
theorem code3156 : codeOf Tryz.prog 82 = some c3156 := by kernel_rfl
theorem code3157 : codeOf Tryz.prog 83 = some c3157 := by kernel_rfl
theorem code3161 : codeOf Tryz.prog 87 = some c3161 := by kernel_rfl
theorem code3163 : codeOf Tryz.prog 89 = some c3163 := by kernel_rfl
theorem code3164 : codeOf Tryz.prog 90 = some c3164 := by kernel_rfl

end Go.Ev
