/- The codes are the program's: lines printed by a program of this work (codes2.py). -/
import Derived.Test.YtcjebcenbimcgaaGreatDoorDal
import Derived.Test.YtcjebcenbimcgaaGreatDoorRows
namespace Go.Ev
open Go.Proofs
theorem code4 : codeOf Tryz.prog 4 = some c4 := by kernel_rfl
theorem code5 : codeOf Tryz.prog 5 = some c5 := by kernel_rfl
theorem code14 : codeOf Tryz.prog 20 = some c14 := by kernel_rfl
theorem code15 : codeOf Tryz.prog 21 = some c15 := by kernel_rfl
theorem code16 : codeOf Tryz.prog 22 = some c16 := by kernel_rfl
theorem code17 : codeOf Tryz.prog 23 = some c17 := by kernel_rfl
theorem code43 : codeOf Tryz.prog 56 = some c43 := by kernel_rfl
theorem code47 : codeOf Tryz.prog 60 = some c47 := by kernel_rfl
theorem code48 : codeOf Tryz.prog 61 = some c48 := by kernel_rfl
theorem code49 : codeOf Tryz.prog 62 = some c49 := by kernel_rfl
theorem code50 : codeOf Tryz.prog 63 = some c50 := by kernel_rfl
theorem code51 : codeOf Tryz.prog 64 = some c51 := by kernel_rfl
theorem code100 : codeOf Tryz.prog 129 = some c100 := by kernel_rfl
theorem code101 : codeOf Tryz.prog 130 = some c101 := by kernel_rfl
theorem code102 : codeOf Tryz.prog 131 = some c102 := by kernel_rfl
theorem code103 : codeOf Tryz.prog 132 = some c103 := by kernel_rfl
theorem code104 : codeOf Tryz.prog 133 = some c104 := by kernel_rfl
theorem code105 : codeOf Tryz.prog 134 = some c105 := by kernel_rfl
theorem code106 : codeOf Tryz.prog 135 = some c106 := by kernel_rfl
theorem code107 : codeOf Tryz.prog 136 = some c107 := by kernel_rfl
theorem code108 : codeOf Tryz.prog 137 = some c108 := by kernel_rfl
theorem code109 : codeOf Tryz.prog 138 = some c109 := by kernel_rfl
theorem code110 : codeOf Tryz.prog 139 = some c110 := by kernel_rfl
theorem code111 : codeOf Tryz.prog 140 = some c111 := by kernel_rfl

end Go.Ev
