/- No codes. -/
import Derived.Test.YtkpjijiiegdcaaaGreatDoorHag
set_option linter.unusedVariables false
namespace Go.Ev
end Go.Ev
