/- The codes are the program's: lines printed by a program of this work (codes2.py). -/
import Derived.Test.YtkpjijiiegdcaaaGreatDoorHao
import Derived.Test.YtkpjijiiegdcaaaGreatDoorRows
set_option maxRecDepth 100000
namespace Go.Ev
open Go.Proofs
theorem code84 : codeOf Tryz.prog 178 = some c84 := by kernel_rfl
theorem code91 : codeOf Tryz.prog 195 = some c91 := by kernel_rfl

end Go.Ev
