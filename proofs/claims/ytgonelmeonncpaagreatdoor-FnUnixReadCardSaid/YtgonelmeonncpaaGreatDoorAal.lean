/- The codes are the program's: lines printed by a program of this work (codes2.py). -/
import Derived.Test.YtgonelmeonncpaaGreatDoorAak
import Derived.Test.YtgonelmeonncpaaGreatDoorRows
namespace Go.Ev
open Go.Proofs
theorem code2007 : codeOf Tryz.prog 7 = some c2007 := by kernel_rfl
theorem code2008 : codeOf Tryz.prog 8 = some c2008 := by kernel_rfl
theorem code2009 : codeOf Tryz.prog 9 = some c2009 := by kernel_rfl
theorem code2031 : codeOf Tryz.prog 31 = some c2031 := by kernel_rfl
theorem code2032 : codeOf Tryz.prog 32 = some c2032 := by kernel_rfl
theorem code2033 : codeOf Tryz.prog 33 = some c2033 := by kernel_rfl
theorem code2034 : codeOf Tryz.prog 34 = some c2034 := by kernel_rfl
theorem code2081 : codeOf Tryz.prog 81 = some c2081 := by kernel_rfl
theorem code2083 : codeOf Tryz.prog 83 = some c2083 := by kernel_rfl
theorem code2084 : codeOf Tryz.prog 84 = some c2084 := by kernel_rfl
theorem code2085 : codeOf Tryz.prog 85 = some c2085 := by kernel_rfl
theorem code2086 : codeOf Tryz.prog 86 = some c2086 := by kernel_rfl
theorem code2087 : codeOf Tryz.prog 87 = some c2087 := by kernel_rfl
theorem code2177 : codeOf Tryz.prog 177 = some c2177 := by kernel_rfl
theorem code2178 : codeOf Tryz.prog 178 = some c2178 := by kernel_rfl
theorem code2179 : codeOf Tryz.prog 179 = some c2179 := by kernel_rfl
theorem code2180 : codeOf Tryz.prog 180 = some c2180 := by kernel_rfl
theorem code2181 : codeOf Tryz.prog 181 = some c2181 := by kernel_rfl
theorem code2182 : codeOf Tryz.prog 182 = some c2182 := by kernel_rfl
theorem code2183 : codeOf Tryz.prog 183 = some c2183 := by kernel_rfl
theorem code2207 : codeOf Tryz.prog 207 = some c2207 := by kernel_rfl
theorem code2208 : codeOf Tryz.prog 208 = some c2208 := by kernel_rfl
theorem code2209 : codeOf Tryz.prog 209 = some c2209 := by kernel_rfl
theorem code2210 : codeOf Tryz.prog 210 = some c2210 := by kernel_rfl
theorem code2228 : codeOf Tryz.prog 228 = some c2228 := by kernel_rfl
theorem code2243 : codeOf Tryz.prog 243 = some c2243 := by kernel_rfl
theorem code2244 : codeOf Tryz.prog 244 = some c2244 := by kernel_rfl
theorem code2245 : codeOf Tryz.prog 245 = some c2245 := by kernel_rfl
theorem code2246 : codeOf Tryz.prog 246 = some c2246 := by kernel_rfl
theorem code2247 : codeOf Tryz.prog 247 = some c2247 := by kernel_rfl
theorem code2248 : codeOf Tryz.prog 248 = some c2248 := by kernel_rfl
theorem code2256 : codeOf Tryz.prog 256 = some c2256 := by kernel_rfl
theorem code2263 : codeOf Tryz.prog 263 = some c2263 := by kernel_rfl

end Go.Ev
