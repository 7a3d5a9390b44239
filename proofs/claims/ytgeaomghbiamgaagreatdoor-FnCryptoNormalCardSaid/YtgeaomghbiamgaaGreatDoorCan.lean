/- The codes of the functions that the statements reach: lines printed by a program of this work (codes2.py). -/
import Derived.Test.YtgeaomghbiamgaaGreatDoorCah
set_option linter.unusedVariables false
set_option maxRecDepth 100000
namespace Go.Proofs
end Go.Proofs
namespace Go.Ev
def c1114 : AFn := { ntmps := 5, results := [.cell 2 (some 8)], body := .seq (.region 0 [⟨some 2, .new [.str [], .int .i64 0, .bool false, .int .i64 0, .int .u64 0, .flt .f64 0, .str [], .nilS], none⟩]) (.seq (.seq (.region 0 [⟨some 3, .mov (.t 0), none⟩, ⟨some 4, .build [.str [], .int .i64 0, .bool false, .int .i64 0, .int .u64 0, .flt .f64 0, .str [], .nilS] [(0, 1, .t 3)], none⟩, ⟨none, .store (some 8) (.t 2) (.t 4), none⟩]) (.kill [0, 3, 4])) .ret), lk := false, mu := [] }

end Go.Ev
