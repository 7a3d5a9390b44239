/- The codes are the program's: lines printed by a program of this work (codes.sh). -/
import Derived.Test.YtabmfgoghdokbaaGreatDoorCodes2
import Derived.Test.YtabmfgoghdokbaaGreatDoorRows
import Derived.Test.YtabmfgoghdokbaaGreatDoorEvD
namespace Go.Ev
open Go.Proofs
theorem code125 : codeOf Tryz.prog 125 = some c125 := by kernel_rfl
theorem code154 : codeOf Tryz.prog 154 = some c154 := by kernel_rfl

end Go.Ev
