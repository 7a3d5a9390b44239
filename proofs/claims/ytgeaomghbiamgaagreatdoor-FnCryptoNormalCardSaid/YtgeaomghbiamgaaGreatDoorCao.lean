/- The codes are the program's: lines printed by a program of this work (codes2.py). -/
import Derived.Test.YtgeaomghbiamgaaGreatDoorCan
import Derived.Test.YtgeaomghbiamgaaGreatDoorRows
set_option maxRecDepth 100000
namespace Go.Ev
open Go.Proofs
theorem code1114 : codeOf Tryz.prog 48 = some c1114 := by kernel_rfl

end Go.Ev
