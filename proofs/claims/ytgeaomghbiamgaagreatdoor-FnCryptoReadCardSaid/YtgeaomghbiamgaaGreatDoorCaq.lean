/- The codes are the program's: lines printed by a program of this work (codes2.py). -/
import Derived.Test.YtgeaomghbiamgaaGreatDoorCap
import Derived.Test.YtgeaomghbiamgaaGreatDoorRows
set_option maxRecDepth 100000
namespace Go.Ev
open Go.Proofs
theorem code3193 : codeOf Tryz.prog 128 = some c3193 := by kernel_rfl

end Go.Ev
