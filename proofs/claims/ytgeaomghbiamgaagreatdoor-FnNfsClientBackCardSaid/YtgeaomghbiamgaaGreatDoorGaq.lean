/- The codes are the program's: lines printed by a program of this work (codes2.py). -/
import Derived.Test.YtgeaomghbiamgaaGreatDoorGap
import Derived.Test.YtgeaomghbiamgaaGreatDoorRows
set_option maxRecDepth 100000
namespace Go.Ev
open Go.Proofs
theorem code91 : codeOf Tryz.prog 124 = some c91 := by kernel_rfl
theorem code1084 : codeOf Tryz.prog 67 = some c1084 := by kernel_rfl

end Go.Ev
