/- The codes are the program's: lines printed by a program of this work (codes2.py). -/
import Derived.Test.YtgeaomghbiamgaaGreatDoorGaj
import Derived.Test.YtgeaomghbiamgaaGreatDoorRows
set_option maxRecDepth 100000
namespace Go.Ev
open Go.Proofs
theorem code9 : codeOf Tryz.prog 16 = some c9 := by kernel_rfl
theorem code13 : codeOf Tryz.prog 14 = some c13 := by kernel_rfl
theorem code25 : codeOf Tryz.prog 22 = some c25 := by kernel_rfl
theorem code26 : codeOf Tryz.prog 23 = some c26 := by kernel_rfl
theorem code27 : codeOf Tryz.prog 24 = some c27 := by kernel_rfl
theorem code28 : codeOf Tryz.prog 59 = some c28 := by kernel_rfl
theorem code30 : codeOf Tryz.prog 71 = some c30 := by kernel_rfl
theorem code33 : codeOf Tryz.prog 30 = some c33 := by kernel_rfl
theorem code36 : codeOf Tryz.prog 51 = some c36 := by kernel_rfl
theorem code38 : codeOf Tryz.prog 53 = some c38 := by kernel_rfl
theorem code45 : codeOf Tryz.prog 72 = some c45 := by kernel_rfl
theorem code52 : codeOf Tryz.prog 61 = some c52 := by kernel_rfl
theorem code55 : codeOf Tryz.prog 66 = some c55 := by kernel_rfl
theorem code74 : codeOf Tryz.prog 63 = some c74 := by kernel_rfl
theorem code77 : codeOf Tryz.prog 92 = some c77 := by kernel_rfl
theorem code78 : codeOf Tryz.prog 93 = some c78 := by kernel_rfl
theorem code81 : codeOf Tryz.prog 45 = some c81 := by kernel_rfl
theorem code82 : codeOf Tryz.prog 73 = some c82 := by kernel_rfl
theorem code85 : codeOf Tryz.prog 98 = some c85 := by kernel_rfl
theorem code87 : codeOf Tryz.prog 74 = some c87 := by kernel_rfl
theorem code88 : codeOf Tryz.prog 75 = some c88 := by kernel_rfl
theorem code90 : codeOf Tryz.prog 77 = some c90 := by kernel_rfl
theorem code97 : codeOf Tryz.prog 121 = some c97 := by kernel_rfl
theorem code99 : codeOf Tryz.prog 99 = some c99 := by kernel_rfl
theorem code117 : codeOf Tryz.prog 116 = some c117 := by kernel_rfl
theorem code118 : codeOf Tryz.prog 117 = some c118 := by kernel_rfl
theorem code119 : codeOf Tryz.prog 118 = some c119 := by kernel_rfl
theorem code120 : codeOf Tryz.prog 119 = some c120 := by kernel_rfl
theorem code121 : codeOf Tryz.prog 120 = some c121 := by kernel_rfl
theorem code122 : codeOf Tryz.prog 60 = some c122 := by kernel_rfl
theorem code123 : codeOf Tryz.prog 96 = some c123 := by kernel_rfl
theorem code125 : codeOf Tryz.prog 133 = some c125 := by kernel_rfl
theorem code127 : codeOf Tryz.prog 76 = some c127 := by kernel_rfl
theorem code128 : codeOf Tryz.prog 85 = some c128 := by kernel_rfl
theorem code133 : codeOf Tryz.prog 131 = some c133 := by kernel_rfl
theorem code134 : codeOf Tryz.prog 125 = some c134 := by kernel_rfl
theorem code135 : codeOf Tryz.prog 146 = some c135 := by kernel_rfl
theorem code145 : codeOf Tryz.prog 143 = some c145 := by kernel_rfl
theorem code150 : codeOf Tryz.prog 156 = some c150 := by kernel_rfl
theorem code155 : codeOf Tryz.prog 163 = some c155 := by kernel_rfl
theorem code158 : codeOf Tryz.prog 168 = some c158 := by kernel_rfl
theorem code163 : codeOf Tryz.prog 170 = some c163 := by kernel_rfl
theorem code164 : codeOf Tryz.prog 171 = some c164 := by kernel_rfl
theorem code172 : codeOf Tryz.prog 179 = some c172 := by kernel_rfl
theorem code174 : codeOf Tryz.prog 181 = some c174 := by kernel_rfl
theorem code1015 : codeOf Tryz.prog 9 = some c1015 := by kernel_rfl
theorem code1016 : codeOf Tryz.prog 10 = some c1016 := by kernel_rfl
theorem code1035 : codeOf Tryz.prog 21 = some c1035 := by kernel_rfl
theorem code1080 : codeOf Tryz.prog 62 = some c1080 := by kernel_rfl
theorem code35 : codeOf Tryz.prog 50 = some c35 := by kernel_rfl
theorem code31 : codeOf Tryz.prog 38 = some c31 := by kernel_rfl
theorem code79 : codeOf Tryz.prog 94 = some c79 := by kernel_rfl
theorem code80 : codeOf Tryz.prog 95 = some c80 := by kernel_rfl

end Go.Ev
