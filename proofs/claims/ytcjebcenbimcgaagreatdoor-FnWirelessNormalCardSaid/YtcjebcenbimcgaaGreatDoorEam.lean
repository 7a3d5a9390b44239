/- The codes are the program's: lines printed by a program of this work (codes2.py). -/
import Derived.Test.YtcjebcenbimcgaaGreatDoorEal
import Derived.Test.YtcjebcenbimcgaaGreatDoorRows
namespace Go.Ev
open Go.Proofs
theorem code2243 : codeOf Tryz.prog 195 = some c2243 := by kernel_rfl
theorem code2256 : codeOf Tryz.prog 211 = some c2256 := by kernel_rfl
theorem code2263 : codeOf Tryz.prog 220 = some c2263 := by kernel_rfl

end Go.Ev
