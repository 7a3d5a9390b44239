/- The codes of the functions that the statements reach: lines printed by a program of this work (codes2.py). -/
import Derived.Test.YtkpjijiiegdcaaaGreatDoorHag
set_option linter.unusedVariables false
set_option maxRecDepth 100000
namespace Go.Proofs
end Go.Proofs
namespace Go.Ev
def c84 : AFn := { ntmps := 5, results := [.tmp 2, .tmp 3], body := .seq (.seq (.region 0 [⟨some 2, .asg (.c (.str [])), none⟩, ⟨some 3, .asg (.c .nilI), none⟩]) (.kill [2, 3])) (.seq (.seq (.region 0 [⟨some 4, .mov (.t 0), none⟩, ⟨some 2, .asg (.t 4), none⟩, ⟨some 3, .asg (.c .nilI), none⟩]) (.kill [0, 4])) .ret), lk := false, mu := [] }

def c91 : AFn := { ntmps := 26, results := [.tmp 6, .tmp 7], body := .seq (.seq (.region 0 [⟨some 6, .asg (.c (.int .u64 0)), none⟩, ⟨some 7, .asg (.c .nilI), none⟩]) (.kill [6, 7])) (.seq (.seq (.region 0 [⟨some 11, .mov (.t 0), none⟩, ⟨some 12, .mov (.t 1), none⟩, ⟨some 13, .mov (.t 2), none⟩, ⟨some 14, .call (.c (.fn 208 [] [])) [.t 11, .t 12, .t 13], none⟩, ⟨some 10, .mov (.t 14), none⟩, ⟨some 15, .ext (.t 10) 0, none⟩, ⟨some 16, .ext (.t 10) 1, none⟩, ⟨some 8, .asg (.t 15), none⟩, ⟨some 9, .asg (.t 16), none⟩]) (.kill [10, 11, 12, 13, 14, 15, 16])) (.seq (.seq (.seq (.region 0 [⟨some 17, .mov (.t 9), none⟩, ⟨some 18, .isNil .i true (.t 17), none⟩]) (.kill [17])) (.cond (.t 18) (.seq (.kill [18]) (.seq (.seq (.region 0 [⟨some 19, .mov (.t 8), none⟩, ⟨some 20, .mov (.t 0), none⟩, ⟨some 21, .mov (.t 1), none⟩, ⟨some 22, .mov (.t 2), none⟩, ⟨some 23, .mov (.t 9), none⟩, ⟨some 24, .call (.c (.fn 209 [] [])) [.c (.str [80, 97, 114, 115, 101, 85, 105, 110, 116]), .t 20, .t 21, .t 22, .t 23], none⟩, ⟨some 6, .asg (.t 19), none⟩, ⟨some 7, .asg (.t 24), none⟩]) (.kill [0, 1, 2, 8, 9, 19, 20, 21, 22, 23, 24])) .ret)) (.seq (.kill [0, 1, 2, 9, 18]) .skip))) (.seq (.seq (.region 0 [⟨some 25, .mov (.t 8), none⟩, ⟨some 6, .asg (.t 25), none⟩, ⟨some 7, .asg (.c .nilI), none⟩]) (.kill [8, 25])) .ret))), lk := false, mu := [] }

end Go.Ev
