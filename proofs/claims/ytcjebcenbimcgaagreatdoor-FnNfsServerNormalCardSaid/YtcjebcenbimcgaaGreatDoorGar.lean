/- No codes. -/
import Derived.Test.YtcjebcenbimcgaaGreatDoorGag
set_option linter.unusedVariables false
namespace Go.Ev
end Go.Ev
