/- The codes are the program's: lines printed by a program of this work (codes2.py). -/
import Derived.Test.YtcjebcenbimcgaaGreatDoorGal
import Derived.Test.YtcjebcenbimcgaaGreatDoorRows
namespace Go.Ev
open Go.Proofs
theorem code51 : codeOf Tryz.prog 64 = some c51 := by kernel_rfl
theorem code101 : codeOf Tryz.prog 130 = some c101 := by kernel_rfl

end Go.Ev
