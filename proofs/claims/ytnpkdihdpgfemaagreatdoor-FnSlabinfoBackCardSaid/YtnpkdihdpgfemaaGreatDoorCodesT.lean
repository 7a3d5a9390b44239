/- The codes are the program's: lines printed by a program of this work (codes2.py). -/
/- The codes are the program's: lines printed by a program of this work (codes2.py). -/
import Derived.Test.YtnpkdihdpgfemaaGreatDoorCodes
import Derived.Test.YtnpkdihdpgfemaaGreatDoorRows
import Derived.Test.YtnpkdihdpgfemaaGreatDoorCodesB
namespace Go.Ev
open Go.Proofs
theorem code9 : codeOf Tryz.prog 22 = some c9 := by kernel_rfl
theorem code13 : codeOf Tryz.prog 20 = some c13 := by kernel_rfl
theorem code25 : codeOf Tryz.prog 36 = some c25 := by kernel_rfl
theorem code26 : codeOf Tryz.prog 37 = some c26 := by kernel_rfl
theorem code27 : codeOf Tryz.prog 38 = some c27 := by kernel_rfl
theorem code28 : codeOf Tryz.prog 64 = some c28 := by kernel_rfl
theorem code30 : codeOf Tryz.prog 52 = some c30 := by kernel_rfl
theorem code33 : codeOf Tryz.prog 43 = some c33 := by kernel_rfl
theorem code34 : codeOf Tryz.prog 57 = some c34 := by kernel_rfl
theorem code36 : codeOf Tryz.prog 59 = some c36 := by kernel_rfl
theorem code38 : codeOf Tryz.prog 45 = some c38 := by kernel_rfl
theorem code44 : codeOf Tryz.prog 55 = some c44 := by kernel_rfl
theorem code45 : codeOf Tryz.prog 85 = some c45 := by kernel_rfl
theorem code52 : codeOf Tryz.prog 65 = some c52 := by kernel_rfl
theorem code54 : codeOf Tryz.prog 51 = some c54 := by kernel_rfl
theorem code55 : codeOf Tryz.prog 53 = some c55 := by kernel_rfl
theorem code57 : codeOf Tryz.prog 54 = some c57 := by kernel_rfl
theorem code66 : codeOf Tryz.prog 42 = some c66 := by kernel_rfl
theorem code74 : codeOf Tryz.prog 81 = some c74 := by kernel_rfl
theorem code76 : codeOf Tryz.prog 124 = some c76 := by kernel_rfl
theorem code77 : codeOf Tryz.prog 66 = some c77 := by kernel_rfl
theorem code78 : codeOf Tryz.prog 98 = some c78 := by kernel_rfl
theorem code81 : codeOf Tryz.prog 108 = some c81 := by kernel_rfl
theorem code82 : codeOf Tryz.prog 56 = some c82 := by kernel_rfl
theorem code85 : codeOf Tryz.prog 88 = some c85 := by kernel_rfl
theorem code87 : codeOf Tryz.prog 90 = some c87 := by kernel_rfl
theorem code88 : codeOf Tryz.prog 91 = some c88 := by kernel_rfl
theorem code90 : codeOf Tryz.prog 93 = some c90 := by kernel_rfl
theorem code97 : codeOf Tryz.prog 136 = some c97 := by kernel_rfl
theorem code99 : codeOf Tryz.prog 101 = some c99 := by kernel_rfl
theorem code117 : codeOf Tryz.prog 131 = some c117 := by kernel_rfl
theorem code118 : codeOf Tryz.prog 132 = some c118 := by kernel_rfl
theorem code119 : codeOf Tryz.prog 133 = some c119 := by kernel_rfl
theorem code120 : codeOf Tryz.prog 134 = some c120 := by kernel_rfl
theorem code121 : codeOf Tryz.prog 135 = some c121 := by kernel_rfl
theorem code122 : codeOf Tryz.prog 99 = some c122 := by kernel_rfl
theorem code123 : codeOf Tryz.prog 126 = some c123 := by kernel_rfl
theorem code125 : codeOf Tryz.prog 163 = some c125 := by kernel_rfl
theorem code127 : codeOf Tryz.prog 92 = some c127 := by kernel_rfl
theorem code128 : codeOf Tryz.prog 96 = some c128 := by kernel_rfl
theorem code133 : codeOf Tryz.prog 148 = some c133 := by kernel_rfl
theorem code134 : codeOf Tryz.prog 111 = some c134 := by kernel_rfl
theorem code135 : codeOf Tryz.prog 171 = some c135 := by kernel_rfl
theorem code143 : codeOf Tryz.prog 95 = some c143 := by kernel_rfl
theorem code145 : codeOf Tryz.prog 160 = some c145 := by kernel_rfl
theorem code149 : codeOf Tryz.prog 139 = some c149 := by kernel_rfl
theorem code150 : codeOf Tryz.prog 170 = some c150 := by kernel_rfl
theorem code154 : codeOf Tryz.prog 150 = some c154 := by kernel_rfl
theorem code155 : codeOf Tryz.prog 175 = some c155 := by kernel_rfl
theorem code158 : codeOf Tryz.prog 179 = some c158 := by kernel_rfl
theorem code163 : codeOf Tryz.prog 184 = some c163 := by kernel_rfl
theorem code164 : codeOf Tryz.prog 185 = some c164 := by kernel_rfl
theorem code172 : codeOf Tryz.prog 193 = some c172 := by kernel_rfl
theorem code174 : codeOf Tryz.prog 195 = some c174 := by kernel_rfl
theorem code1015 : codeOf Tryz.prog 15 = some c1015 := by kernel_rfl
theorem code1016 : codeOf Tryz.prog 16 = some c1016 := by kernel_rfl
theorem code1035 : codeOf Tryz.prog 35 = some c1035 := by kernel_rfl
theorem code1080 : codeOf Tryz.prog 80 = some c1080 := by kernel_rfl
theorem code31 : codeOf Tryz.prog 67 = some c31 := by kernel_rfl
theorem code46 : codeOf Tryz.prog 112 = some c46 := by kernel_rfl
theorem code35 : codeOf Tryz.prog 115 = some c35 := by kernel_rfl

end Go.Ev

namespace Go.Ev
open Go.Proofs
theorem code84 : codeOf Tryz.prog 87 = some c84 := by kernel_rfl
theorem code1006 : codeOf Tryz.prog 6 = some c1006 := by kernel_rfl
theorem code1007 : codeOf Tryz.prog 7 = some c1007 := by kernel_rfl
theorem code1008 : codeOf Tryz.prog 8 = some c1008 := by kernel_rfl
theorem code1023 : codeOf Tryz.prog 23 = some c1023 := by kernel_rfl
theorem code1024 : codeOf Tryz.prog 24 = some c1024 := by kernel_rfl
theorem code1025 : codeOf Tryz.prog 25 = some c1025 := by kernel_rfl
theorem code1026 : codeOf Tryz.prog 26 = some c1026 := by kernel_rfl
theorem code1058 : codeOf Tryz.prog 58 = some c1058 := by kernel_rfl
theorem code1060 : codeOf Tryz.prog 60 = some c1060 := by kernel_rfl
theorem code1061 : codeOf Tryz.prog 61 = some c1061 := by kernel_rfl
theorem code1062 : codeOf Tryz.prog 62 = some c1062 := by kernel_rfl
theorem code1063 : codeOf Tryz.prog 63 = some c1063 := by kernel_rfl
theorem code1102 : codeOf Tryz.prog 102 = some c1102 := by kernel_rfl
theorem code1103 : codeOf Tryz.prog 103 = some c1103 := by kernel_rfl
theorem code1104 : codeOf Tryz.prog 104 = some c1104 := by kernel_rfl
theorem code1105 : codeOf Tryz.prog 105 = some c1105 := by kernel_rfl
theorem code1106 : codeOf Tryz.prog 106 = some c1106 := by kernel_rfl
theorem code1107 : codeOf Tryz.prog 107 = some c1107 := by kernel_rfl
theorem code1141 : codeOf Tryz.prog 141 = some c1141 := by kernel_rfl
theorem code1142 : codeOf Tryz.prog 142 = some c1142 := by kernel_rfl
theorem code1155 : codeOf Tryz.prog 155 = some c1155 := by kernel_rfl
theorem code1156 : codeOf Tryz.prog 156 = some c1156 := by kernel_rfl
theorem code1157 : codeOf Tryz.prog 157 = some c1157 := by kernel_rfl
theorem code1158 : codeOf Tryz.prog 158 = some c1158 := by kernel_rfl
theorem code1166 : codeOf Tryz.prog 166 = some c1166 := by kernel_rfl
theorem code1167 : codeOf Tryz.prog 167 = some c1167 := by kernel_rfl
theorem code91 : codeOf Tryz.prog 168 = some c91 := by kernel_rfl

end Go.Ev
