/- The codes are the program's: lines printed by a program of this work (codes2.py). -/
import Derived.Test.YtgonelmeonncpaaGreatDoorAai
import Derived.Test.YtgonelmeonncpaaGreatDoorRows
namespace Go.Ev
open Go.Proofs
theorem code84 : codeOf Tryz.prog 129 = some c84 := by kernel_rfl
theorem code1113 : codeOf Tryz.prog 82 = some c1113 := by kernel_rfl
theorem code1143 : codeOf Tryz.prog 109 = some c1143 := by kernel_rfl
theorem code1166 : codeOf Tryz.prog 242 = some c1166 := by kernel_rfl
theorem code91 : codeOf Tryz.prog 136 = some c91 := by kernel_rfl
theorem code1158 : codeOf Tryz.prog 214 = some c1158 := by kernel_rfl

end Go.Ev
