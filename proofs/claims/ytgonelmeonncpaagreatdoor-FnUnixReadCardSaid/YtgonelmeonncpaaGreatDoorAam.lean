/- The codes of the functions that the statements reach: lines printed by a program of this work (codes2.py). -/
import Derived.Test.YtgonelmeonncpaaGreatDoorAaf
set_option linter.unusedVariables false
namespace Go.Proofs
end Go.Proofs
namespace Go.Ev
def c1155 : AFn := { ntmps := 9, results := [.tmp 4], body := .seq (.seq (.region 0 [⟨some 4, .asg (.c (.bool false)), none⟩]) (.kill [4])) (.seq (.seq (.region 0 [⟨some 5, .mov (.t 0), none⟩, ⟨some 6, .mov (.t 1), none⟩, ⟨some 7, .call (.c (.fn 242 [] [])) [.t 5, .t 6], none⟩, ⟨some 8, .bin .geq (.t 7) (.c (.int .i64 0)), none⟩, ⟨some 4, .asg (.t 8), none⟩]) (.kill [0, 1, 5, 6, 7, 8])) .ret) }

end Go.Ev
