/- The codes are the program's: lines printed by a program of this work (codes2.py). -/
import Derived.Test.YtgeaomghbiamgaaGreatDoorCal
import Derived.Test.YtgeaomghbiamgaaGreatDoorRows
set_option maxRecDepth 100000
namespace Go.Ev
open Go.Proofs
theorem code5006 : codeOf Tryz.prog 6 = some c5006 := by kernel_rfl
theorem code5007 : codeOf Tryz.prog 7 = some c5007 := by kernel_rfl
theorem code5008 : codeOf Tryz.prog 8 = some c5008 := by kernel_rfl
theorem code5017 : codeOf Tryz.prog 17 = some c5017 := by kernel_rfl
theorem code5018 : codeOf Tryz.prog 18 = some c5018 := by kernel_rfl
theorem code5019 : codeOf Tryz.prog 19 = some c5019 := by kernel_rfl
theorem code5020 : codeOf Tryz.prog 20 = some c5020 := by kernel_rfl
theorem code2191 : codeOf Tryz.prog 40 = some c2191 := by kernel_rfl
theorem code5042 : codeOf Tryz.prog 42 = some c5042 := by kernel_rfl
theorem code5043 : codeOf Tryz.prog 43 = some c5043 := by kernel_rfl
theorem code5044 : codeOf Tryz.prog 44 = some c5044 := by kernel_rfl
theorem code2110 : codeOf Tryz.prog 46 = some c2110 := by kernel_rfl
theorem code5052 : codeOf Tryz.prog 52 = some c5052 := by kernel_rfl
theorem code5054 : codeOf Tryz.prog 54 = some c5054 := by kernel_rfl
theorem code5055 : codeOf Tryz.prog 55 = some c5055 := by kernel_rfl
theorem code5056 : codeOf Tryz.prog 56 = some c5056 := by kernel_rfl
theorem code5057 : codeOf Tryz.prog 57 = some c5057 := by kernel_rfl
theorem code5058 : codeOf Tryz.prog 58 = some c5058 := by kernel_rfl
theorem code5100 : codeOf Tryz.prog 100 = some c5100 := by kernel_rfl
theorem code5102 : codeOf Tryz.prog 102 = some c5102 := by kernel_rfl
theorem code5103 : codeOf Tryz.prog 103 = some c5103 := by kernel_rfl
theorem code5104 : codeOf Tryz.prog 104 = some c5104 := by kernel_rfl
theorem code5105 : codeOf Tryz.prog 105 = some c5105 := by kernel_rfl
theorem code5106 : codeOf Tryz.prog 106 = some c5106 := by kernel_rfl
theorem code5107 : codeOf Tryz.prog 107 = some c5107 := by kernel_rfl
theorem code5108 : codeOf Tryz.prog 108 = some c5108 := by kernel_rfl
theorem code5109 : codeOf Tryz.prog 109 = some c5109 := by kernel_rfl
theorem code5110 : codeOf Tryz.prog 110 = some c5110 := by kernel_rfl
theorem code5111 : codeOf Tryz.prog 111 = some c5111 := by kernel_rfl
theorem code5112 : codeOf Tryz.prog 112 = some c5112 := by kernel_rfl
theorem code5113 : codeOf Tryz.prog 113 = some c5113 := by kernel_rfl
theorem code5114 : codeOf Tryz.prog 114 = some c5114 := by kernel_rfl
theorem code5115 : codeOf Tryz.prog 115 = some c5115 := by kernel_rfl
theorem code5129 : codeOf Tryz.prog 129 = some c5129 := by kernel_rfl
theorem code5139 : codeOf Tryz.prog 139 = some c5139 := by kernel_rfl
theorem code5140 : codeOf Tryz.prog 140 = some c5140 := by kernel_rfl
theorem code5141 : codeOf Tryz.prog 141 = some c5141 := by kernel_rfl
theorem code5142 : codeOf Tryz.prog 142 = some c5142 := by kernel_rfl
theorem code5155 : codeOf Tryz.prog 155 = some c5155 := by kernel_rfl
theorem code130 : codeOf Tryz.prog 126 = some c130 := by kernel_rfl
theorem code144 : codeOf Tryz.prog 135 = some c144 := by kernel_rfl

end Go.Ev
