/- No codes. -/
import Derived.Test.YtkpjijiiegdcaaaGreatDoorMag
set_option linter.unusedVariables false
namespace Go.Ev
end Go.Ev
