/- The codes of the functions that the statements reach: lines printed by a program of this work (codes2.py). -/
import Derived.Test.YtcjebcenbimcgaaGreatDoorDaf
set_option linter.unusedVariables false
namespace Go.Proofs
end Go.Proofs
namespace Go.Ev
def c91 : AFn := { ntmps := 26, results := [.tmp 6, .tmp 7], body := .seq (.seq (.region 0 [⟨some 6, .asg (.c (.int .u64 0)), none⟩, ⟨some 7, .asg (.c .nilI), none⟩]) (.kill [6, 7])) (.seq (.seq (.region 0 [⟨some 11, .mov (.t 0), none⟩, ⟨some 12, .mov (.t 1), none⟩, ⟨some 13, .mov (.t 2), none⟩, ⟨some 14, .call (.c (.fn 190 [] [])) [.t 11, .t 12, .t 13], none⟩, ⟨some 10, .mov (.t 14), none⟩, ⟨some 15, .ext (.t 10) 0, none⟩, ⟨some 16, .ext (.t 10) 1, none⟩, ⟨some 8, .asg (.t 15), none⟩, ⟨some 9, .asg (.t 16), none⟩]) (.kill [10, 11, 12, 13, 14, 15, 16])) (.seq (.seq (.seq (.region 0 [⟨some 17, .mov (.t 9), none⟩, ⟨some 18, .isNil .i true (.t 17), none⟩]) (.kill [17])) (.cond (.t 18) (.seq (.kill [18]) (.seq (.seq (.region 0 [⟨some 19, .mov (.t 8), none⟩, ⟨some 20, .mov (.t 0), none⟩, ⟨some 21, .mov (.t 1), none⟩, ⟨some 22, .mov (.t 2), none⟩, ⟨some 23, .mov (.t 9), none⟩, ⟨some 24, .call (.c (.fn 191 [] [])) [.c (.str [80, 97, 114, 115, 101, 85, 105, 110, 116]), .t 20, .t 21, .t 22, .t 23], none⟩, ⟨some 6, .asg (.t 19), none⟩, ⟨some 7, .asg (.t 24), none⟩]) (.kill [0, 1, 2, 8, 9, 19, 20, 21, 22, 23, 24])) .ret)) (.seq (.kill [0, 1, 2, 9, 18]) .skip))) (.seq (.seq (.region 0 [⟨some 25, .mov (.t 8), none⟩, ⟨some 6, .asg (.t 25), none⟩, ⟨some 7, .asg (.c .nilI), none⟩]) (.kill [8, 25])) .ret))), lk := false }

end Go.Ev
