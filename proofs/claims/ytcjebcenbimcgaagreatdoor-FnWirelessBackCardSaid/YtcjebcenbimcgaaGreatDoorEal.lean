/- The codes of the functions that the statements reach: lines printed by a program of this work (codes2.py). -/
import Derived.Test.YtcjebcenbimcgaaGreatDoorEaf
set_option linter.unusedVariables false
namespace Go.Proofs
end Go.Proofs
namespace Go.Ev
def c2243 : AFn := { ntmps := 8, results := [.tmp 4], body := .seq (.seq (.region 0 [⟨some 4, .asg (.c (.str [])), none⟩]) (.kill [4])) (.seq (.seq (.region 0 [⟨some 5, .mov (.t 0), none⟩, ⟨some 6, .mov (.t 1), none⟩, ⟨some 7, .call (.c (.fn 211 [] [])) [.t 5, .t 6], none⟩, ⟨some 4, .asg (.t 7), none⟩]) (.kill [0, 1, 5, 6, 7])) .ret), lk := false }

def c2256 : AFn := { ntmps := 16, results := [.tmp 4], body := .seq (.seq (.region 0 [⟨some 4, .asg (.c (.str [])), none⟩]) (.kill [4])) (.seq (.seq (.seq (.region 0 [⟨some 5, .mov (.t 0), none⟩, ⟨some 6, .mov (.t 1), none⟩, ⟨some 7, .call (.c (.fn 220 [] [])) [.t 5, .t 6], none⟩]) (.kill [5, 6])) (.cond (.t 7) (.seq (.kill [7]) (.seq (.seq (.region 0 [⟨some 8, .mov (.t 0), none⟩, ⟨some 9, .mov (.t 0), none⟩, ⟨some 10, .lenS (.t 9), none⟩, ⟨some 11, .mov (.t 1), none⟩, ⟨some 12, .lenS (.t 11), none⟩, ⟨some 13, .bin .sub (.t 10) (.t 12), none⟩, ⟨some 14, .subS (.t 8) none (some (.t 13)), none⟩, ⟨some 4, .asg (.t 14), none⟩]) (.kill [0, 1, 8, 9, 10, 11, 12, 13, 14])) .ret)) (.seq (.kill [1, 7]) .skip))) (.seq (.seq (.region 0 [⟨some 15, .mov (.t 0), none⟩, ⟨some 4, .asg (.t 15), none⟩]) (.kill [0, 15])) .ret)), lk := false }

def c2263 : AFn := { ntmps := 21, results := [.tmp 4], body := .seq (.seq (.region 0 [⟨some 4, .asg (.c (.bool false)), none⟩]) (.kill [4])) (.seq (.seq (.region 0 [⟨some 5, .mov (.t 0), none⟩, ⟨some 6, .lenS (.t 5), none⟩, ⟨some 7, .mov (.t 1), none⟩, ⟨some 8, .lenS (.t 7), none⟩, ⟨some 9, .bin .geq (.t 6) (.t 8), none⟩, ⟨some 10, .mov (.t 9), none⟩, ⟨some 11, .mov (.t 0), some (5, true)⟩, ⟨some 12, .mov (.t 0), some (5, true)⟩, ⟨some 13, .lenS (.t 12), some (5, true)⟩, ⟨some 14, .mov (.t 1), some (5, true)⟩, ⟨some 15, .lenS (.t 14), some (5, true)⟩, ⟨some 16, .bin .sub (.t 13) (.t 15), some (5, true)⟩, ⟨some 17, .subS (.t 11) (some (.t 16)) none, some (5, true)⟩, ⟨some 18, .mov (.t 1), some (5, true)⟩, ⟨some 19, .bin .eql (.t 17) (.t 18), some (5, true)⟩, ⟨some 20, .pick (.t 10) (.t 19) (.c (.bool false)), none⟩, ⟨some 4, .asg (.t 20), none⟩]) (.kill [0, 1, 5, 6, 7, 8, 9, 10, 11, 12, 13, 14, 15, 16, 17, 18, 19, 20])) .ret), lk := false }

end Go.Ev
