/- The codes are the program's: lines printed by a program of this work (codes2.py). -/
import Derived.Test.YtcjebcenbimcgaaGreatDoorEan
import Derived.Test.YtcjebcenbimcgaaGreatDoorRows
namespace Go.Ev
open Go.Proofs
theorem code1143 : codeOf Tryz.prog 67 = some c1143 := by kernel_rfl
theorem code1157 : codeOf Tryz.prog 192 = some c1157 := by kernel_rfl
theorem code1166 : codeOf Tryz.prog 207 = some c1166 := by kernel_rfl
theorem code91 : codeOf Tryz.prog 120 = some c91 := by kernel_rfl

end Go.Ev
