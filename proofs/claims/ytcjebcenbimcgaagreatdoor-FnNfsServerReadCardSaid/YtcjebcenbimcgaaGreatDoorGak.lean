/- The codes are the program's: lines printed by a program of this work (codes2.py). -/
import Derived.Test.YtcjebcenbimcgaaGreatDoorGaj
import Derived.Test.YtcjebcenbimcgaaGreatDoorRows
namespace Go.Ev
open Go.Proofs
theorem code3012 : codeOf Tryz.prog 12 = some c3012 := by kernel_rfl
theorem code3013 : codeOf Tryz.prog 13 = some c3013 := by kernel_rfl
theorem code3014 : codeOf Tryz.prog 14 = some c3014 := by kernel_rfl
theorem code3034 : codeOf Tryz.prog 34 = some c3034 := by kernel_rfl
theorem code3035 : codeOf Tryz.prog 35 = some c3035 := by kernel_rfl
theorem code3036 : codeOf Tryz.prog 36 = some c3036 := by kernel_rfl
theorem code3037 : codeOf Tryz.prog 37 = some c3037 := by kernel_rfl
theorem code3084 : codeOf Tryz.prog 84 = some c3084 := by kernel_rfl
theorem code3086 : codeOf Tryz.prog 86 = some c3086 := by kernel_rfl
theorem code3087 : codeOf Tryz.prog 87 = some c3087 := by kernel_rfl
theorem code3088 : codeOf Tryz.prog 88 = some c3088 := by kernel_rfl
theorem code3095 : codeOf Tryz.prog 95 = some c3095 := by kernel_rfl
theorem code3096 : codeOf Tryz.prog 96 = some c3096 := by kernel_rfl
theorem code3097 : codeOf Tryz.prog 97 = some c3097 := by kernel_rfl
theorem code3098 : codeOf Tryz.prog 98 = some c3098 := by kernel_rfl
theorem code3099 : codeOf Tryz.prog 99 = some c3099 := by kernel_rfl
theorem code3100 : codeOf Tryz.prog 100 = some c3100 := by kernel_rfl
theorem code3101 : codeOf Tryz.prog 101 = some c3101 := by kernel_rfl
theorem code3102 : codeOf Tryz.prog 102 = some c3102 := by kernel_rfl
theorem code3103 : codeOf Tryz.prog 103 = some c3103 := by kernel_rfl
theorem code3147 : codeOf Tryz.prog 147 = some c3147 := by kernel_rfl
theorem code3149 : codeOf Tryz.prog 149 = some c3149 := by kernel_rfl
theorem code3150 : codeOf Tryz.prog 150 = some c3150 := by kernel_rfl
theorem code3153 : codeOf Tryz.prog 153 = some c3153 := by kernel_rfl
theorem code3154 : codeOf Tryz.prog 154 = some c3154 := by kernel_rfl
theorem code3156 : codeOf Tryz.prog 156 = some c3156 := by kernel_rfl
theorem code3157 : codeOf Tryz.prog 157 = some c3157 := by kernel_rfl
theorem code3161 : codeOf Tryz.prog 161 = some c3161 := by kernel_rfl
theorem code3163 : codeOf Tryz.prog 163 = some c3163 := by kernel_rfl
theorem code3164 : codeOf Tryz.prog 164 = some c3164 := by kernel_rfl
theorem code3166 : codeOf Tryz.prog 166 = some c3166 := by kernel_rfl
theorem code3167 : codeOf Tryz.prog 167 = some c3167 := by kernel_rfl
theorem code3168 : codeOf Tryz.prog 168 = some c3168 := by kernel_rfl
theorem code3169 : codeOf Tryz.prog 169 = some c3169 := by kernel_rfl
theorem code3170 : codeOf Tryz.prog 170 = some c3170 := by kernel_rfl
theorem code3171 : codeOf Tryz.prog 171 = some c3171 := by kernel_rfl
theorem code3172 : codeOf Tryz.prog 172 = some c3172 := by kernel_rfl
theorem code3173 : codeOf Tryz.prog 173 = some c3173 := by kernel_rfl
theorem code3174 : codeOf Tryz.prog 174 = some c3174 := by kernel_rfl
theorem code3176 : codeOf Tryz.prog 176 = some c3176 := by kernel_rfl
theorem code3177 : codeOf Tryz.prog 177 = some c3177 := by kernel_rfl
theorem code3178 : codeOf Tryz.prog 178 = some c3178 := by kernel_rfl
theorem code3179 : codeOf Tryz.prog 179 = some c3179 := by kernel_rfl
theorem code3180 : codeOf Tryz.prog 180 = some c3180 := by kernel_rfl
theorem code3181 : codeOf Tryz.prog 181 = some c3181 := by kernel_rfl
theorem code3182 : codeOf Tryz.prog 182 = some c3182 := by kernel_rfl
theorem code3183 : codeOf Tryz.prog 183 = some c3183 := by kernel_rfl
theorem code3198 : codeOf Tryz.prog 198 = some c3198 := by kernel_rfl

end Go.Ev
