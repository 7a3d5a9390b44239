/- The codes are the program's: lines printed by a program of this work (codes2.py). -/
import Derived.Test.YtkpjijiiegdcaaaGreatDoorMam
import Derived.Test.YtkpjijiiegdcaaaGreatDoorRows
set_option maxRecDepth 100000
namespace Go.Ev
open Go.Proofs
theorem code3087 : codeOf Tryz.prog 32 = some c3087 := by kernel_rfl

end Go.Ev
