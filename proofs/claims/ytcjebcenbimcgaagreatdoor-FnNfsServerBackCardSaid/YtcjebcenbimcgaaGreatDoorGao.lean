/- The codes are the program's: lines printed by a program of this work (codes2.py). -/
import Derived.Test.YtcjebcenbimcgaaGreatDoorGan
import Derived.Test.YtcjebcenbimcgaaGreatDoorRows
namespace Go.Ev
open Go.Proofs
theorem code91 : codeOf Tryz.prog 120 = some c91 := by kernel_rfl
theorem code1084 : codeOf Tryz.prog 148 = some c1084 := by kernel_rfl

end Go.Ev
