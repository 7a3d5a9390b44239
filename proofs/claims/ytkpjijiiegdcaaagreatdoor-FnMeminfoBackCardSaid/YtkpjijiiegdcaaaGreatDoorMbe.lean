/- Softirqs: the program's tree. -/
/- Softirqs: what is written of rows. -/
/- Softirqs: what is written of rows, whole. -/
/- Softirqs: the reference's printing, whole. -/
/- Softirqs: the reference's tree. -/
import Derived.Test.YtkpjijiiegdcaaaGreatDoorMas
import Derived.Test.YtkpjijiiegdcaaaGreatDoorMau
import Derived.Test.YtkpjijiiegdcaaaGreatDoorMah
import Derived.Test.YtkpjijiiegdcaaaGreatDoorMbc
import Derived.Test.YtkpjijiiegdcaaaGreatDoorMaz
set_option linter.unusedSimpArgs false
set_option linter.unusedVariables false
namespace Go.Ev
open Go.Proofs

end Go.Ev

set_option linter.unusedSimpArgs false
set_option linter.unusedVariables false
namespace Go.Ev
open Go.Proofs

end Go.Ev

set_option linter.unusedSimpArgs false
set_option linter.unusedVariables false
namespace Go.Ev
open Go.Proofs

end Go.Ev

set_option linter.unusedSimpArgs false
set_option linter.unusedVariables false
namespace Go.Ev
open Go.Proofs

end Go.Ev

set_option linter.unusedSimpArgs false
set_option linter.unusedVariables false
namespace Go.Ev
open Go.Proofs

def S35o (F : List SV → Option AV) : Prop := ∀ (nm : List UInt8) (u : Int), F [.str nm, .int .u64 u] = some (.sv (nodeV nm 3 false 0 u 0 [] []))

theorem ev35o (E : Env) (h : E.code 34 = some c35) : S35o (autoF E 34) := by
  intro nm u
  refine autoA_sv (n := 1) ?_ rfl
  unfold evPA
  simp only [h]
  simp [c35, nodeV]

end Go.Ev
