/- The codes are the program's: lines printed by a program of this work (codes2.py). -/
import Derived.Test.YtkpjijiiegdcaaaGreatDoorMao
import Derived.Test.YtkpjijiiegdcaaaGreatDoorRows
set_option maxRecDepth 100000
namespace Go.Ev
open Go.Proofs
theorem code1145 : codeOf Tryz.prog 67 = some c1145 := by kernel_rfl
theorem code91 : codeOf Tryz.prog 195 = some c91 := by kernel_rfl
theorem code1084 : codeOf Tryz.prog 59 = some c1084 := by kernel_rfl

end Go.Ev
