/- The codes of the functions that the statements reach: lines printed by a program of this work (codes2.py). -/
import Derived.Test.YtkpjijiiegdcaaaGreatDoorMag
set_option linter.unusedVariables false
set_option maxRecDepth 100000
namespace Go.Proofs
end Go.Proofs
namespace Go.Ev
def b3087_0 : ACode := .seq (.region 0 [⟨some 11, .bin .lss (.t 10) (.t 9), none⟩]) (.seq (.cond (.t 11) (.seq (.kill [11]) .skip) (.seq (.kill [1, 8, 9, 10, 11]) (.exit 0))) (.seq (.block 1 (.seq (.seq (.region 0 [⟨some 12, .iAddrS 3 (.t 8) (.t 10), none⟩, ⟨some 13, .load (some 3) (.t 12), none⟩, ⟨some 7, .new [.str [], .nilS, .nilS], none⟩, ⟨none, .store (some 3) (.t 7) (.t 13), none⟩]) (.kill [12, 13])) (.seq (.seq (.region 0 [⟨some 14, .fAddr 0 (.t 7), none⟩, ⟨some 15, .load none (.t 14), none⟩, ⟨some 16, .mov (.t 1), none⟩, ⟨some 17, .bin .eql (.t 15) (.t 16), none⟩]) (.kill [14, 15, 16])) (.cond (.t 17) (.seq (.kill [1, 8, 9, 10, 17]) (.seq (.seq (.region 0 [⟨some 18, .load (some 3) (.t 7), none⟩, ⟨none, .store (some 3) (.t 4) (.t 18), none⟩, ⟨some 5, .asg (.c (.bool true)), none⟩]) (.kill [7, 18])) .ret)) (.seq (.kill [7, 17]) .skip))))) (.seq (.region 0 [⟨some 19, .bin .add (.t 10) (.c (.int .i64 1)), none⟩, ⟨some 10, .mov (.t 19), none⟩]) (.kill [19]))))
def c3087 : AFn := { ntmps := 21, results := [.cell 4 (some 3), .tmp 5], body := .seq (.seq (.region 0 [⟨some 4, .new [.str [], .nilS, .nilS], none⟩, ⟨some 5, .asg (.c (.bool false)), none⟩]) (.kill [5])) (.seq (.seq (.seq (.region 0 [⟨some 8, .mov (.t 0), none⟩, ⟨some 9, .lenL (.t 8), none⟩, ⟨some 10, .mov (.c (.int .i64 0)), none⟩]) (.kill [0])) (.block 0 (.loop b3087_0))) (.seq (.seq (.region 0 [⟨some 20, .build [.str [], .nilS, .nilS] [], none⟩, ⟨none, .store (some 3) (.t 4) (.t 20), none⟩, ⟨some 5, .asg (.c (.bool false)), none⟩]) (.kill [20])) .ret)), lk := false, mu := [] }

end Go.Ev
