/- The codes are the program's: lines printed by a program of this work (codes2.py). -/
import Derived.Test.YtgeaomghbiamgaaGreatDoorCar
import Derived.Test.YtgeaomghbiamgaaGreatDoorRows
set_option maxRecDepth 100000
namespace Go.Ev
open Go.Proofs
theorem code1145 : codeOf Tryz.prog 101 = some c1145 := by kernel_rfl
theorem code1157 : codeOf Tryz.prog 127 = some c1157 := by kernel_rfl
theorem code1166 : codeOf Tryz.prog 136 = some c1166 := by kernel_rfl
theorem code91 : codeOf Tryz.prog 124 = some c91 := by kernel_rfl
theorem code1158 : codeOf Tryz.prog 162 = some c1158 := by kernel_rfl

end Go.Ev
