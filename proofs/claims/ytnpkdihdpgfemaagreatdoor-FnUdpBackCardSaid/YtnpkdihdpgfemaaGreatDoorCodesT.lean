/- The codes are the program's: lines printed by a program of this work (codes2.py). -/
/- The codes are the program's: lines printed by a program of this work (codes2.py). -/
import Derived.Test.YtnpkdihdpgfemaaGreatDoorCodes
import Derived.Test.YtnpkdihdpgfemaaGreatDoorRows
import Derived.Test.YtnpkdihdpgfemaaGreatDoorCodesB
namespace Go.Ev
open Go.Proofs
theorem code9 : codeOf Tryz.prog 22 = some c9 := by kernel_rfl
theorem code13 : codeOf Tryz.prog 20 = some c13 := by kernel_rfl
theorem code25 : codeOf Tryz.prog 36 = some c25 := by kernel_rfl
theorem code26 : codeOf Tryz.prog 37 = some c26 := by kernel_rfl
theorem code27 : codeOf Tryz.prog 38 = some c27 := by kernel_rfl
theorem code28 : codeOf Tryz.prog 64 = some c28 := by kernel_rfl
theorem code30 : codeOf Tryz.prog 52 = some c30 := by kernel_rfl
theorem code33 : codeOf Tryz.prog 43 = some c33 := by kernel_rfl
theorem code34 : codeOf Tryz.prog 57 = some c34 := by kernel_rfl
theorem code36 : codeOf Tryz.prog 59 = some c36 := by kernel_rfl
theorem code38 : codeOf Tryz.prog 45 = some c38 := by kernel_rfl
theorem code44 : codeOf Tryz.prog 55 = some c44 := by kernel_rfl
theorem code45 : codeOf Tryz.prog 85 = some c45 := by kernel_rfl
theorem code52 : codeOf Tryz.prog 65 = some c52 := by kernel_rfl
theorem code54 : codeOf Tryz.prog 51 = some c54 := by kernel_rfl
theorem code55 : codeOf Tryz.prog 53 = some c55 := by kernel_rfl
theorem code57 : codeOf Tryz.prog 54 = some c57 := by kernel_rfl
theorem code66 : codeOf Tryz.prog 42 = some c66 := by kernel_rfl
theorem code74 : codeOf Tryz.prog 81 = some c74 := by kernel_rfl
theorem code76 : codeOf Tryz.prog 124 = some c76 := by kernel_rfl
theorem code77 : codeOf Tryz.prog 66 = some c77 := by kernel_rfl
theorem code78 : codeOf Tryz.prog 98 = some c78 := by kernel_rfl
theorem code81 : codeOf Tryz.prog 108 = some c81 := by kernel_rfl
theorem code82 : codeOf Tryz.prog 56 = some c82 := by kernel_rfl
theorem code85 : codeOf Tryz.prog 88 = some c85 := by kernel_rfl
theorem code87 : codeOf Tryz.prog 90 = some c87 := by kernel_rfl
theorem code88 : codeOf Tryz.prog 91 = some c88 := by kernel_rfl
theorem code90 : codeOf Tryz.prog 93 = some c90 := by kernel_rfl
theorem code97 : codeOf Tryz.prog 136 = some c97 := by kernel_rfl
theorem code99 : codeOf Tryz.prog 101 = some c99 := by kernel_rfl
theorem code117 : codeOf Tryz.prog 131 = some c117 := by kernel_rfl
theorem code118 : codeOf Tryz.prog 132 = some c118 := by kernel_rfl
theorem code119 : codeOf Tryz.prog 133 = some c119 := by kernel_rfl
theorem code120 : codeOf Tryz.prog 134 = some c120 := by kernel_rfl
theorem code121 : codeOf Tryz.prog 135 = some c121 := by kernel_rfl
theorem code122 : codeOf Tryz.prog 99 = some c122 := by kernel_rfl
theorem code123 : codeOf Tryz.prog 126 = some c123 := by kernel_rfl
theorem code125 : codeOf Tryz.prog 163 = some c125 := by kernel_rfl
theorem code127 : codeOf Tryz.prog 92 = some c127 := by kernel_rfl
theorem code128 : codeOf Tryz.prog 96 = some c128 := by kernel_rfl
theorem code133 : codeOf Tryz.prog 148 = some c133 := by kernel_rfl
theorem code134 : codeOf Tryz.prog 111 = some c134 := by kernel_rfl
theorem code135 : codeOf Tryz.prog 171 = some c135 := by kernel_rfl
theorem code143 : codeOf Tryz.prog 95 = some c143 := by kernel_rfl
theorem code145 : codeOf Tryz.prog 160 = some c145 := by kernel_rfl
theorem code149 : codeOf Tryz.prog 139 = some c149 := by kernel_rfl
theorem code150 : codeOf Tryz.prog 170 = some c150 := by kernel_rfl
theorem code154 : codeOf Tryz.prog 150 = some c154 := by kernel_rfl
theorem code155 : codeOf Tryz.prog 175 = some c155 := by kernel_rfl
theorem code158 : codeOf Tryz.prog 179 = some c158 := by kernel_rfl
theorem code163 : codeOf Tryz.prog 184 = some c163 := by kernel_rfl
theorem code164 : codeOf Tryz.prog 185 = some c164 := by kernel_rfl
theorem code172 : codeOf Tryz.prog 193 = some c172 := by kernel_rfl
theorem code174 : codeOf Tryz.prog 195 = some c174 := by kernel_rfl
theorem code1015 : codeOf Tryz.prog 15 = some c1015 := by kernel_rfl
theorem code1016 : codeOf Tryz.prog 16 = some c1016 := by kernel_rfl
theorem code1035 : codeOf Tryz.prog 35 = some c1035 := by kernel_rfl
theorem code1050 : codeOf Tryz.prog 50 = some c1050 := by kernel_rfl
theorem code1080 : codeOf Tryz.prog 80 = some c1080 := by kernel_rfl
theorem code1083 : codeOf Tryz.prog 83 = some c1083 := by kernel_rfl
theorem code1097 : codeOf Tryz.prog 97 = some c1097 := by kernel_rfl
theorem code46 : codeOf Tryz.prog 112 = some c46 := by kernel_rfl
theorem code35 : codeOf Tryz.prog 115 = some c35 := by kernel_rfl

end Go.Ev

namespace Go.Ev
open Go.Proofs
theorem code84 : codeOf Tryz.prog 87 = some c84 := by kernel_rfl
theorem code1009 : codeOf Tryz.prog 9 = some c1009 := by kernel_rfl
theorem code1010 : codeOf Tryz.prog 10 = some c1010 := by kernel_rfl
theorem code1011 : codeOf Tryz.prog 11 = some c1011 := by kernel_rfl
theorem code1012 : codeOf Tryz.prog 12 = some c1012 := by kernel_rfl
theorem code1013 : codeOf Tryz.prog 13 = some c1013 := by kernel_rfl
theorem code1014 : codeOf Tryz.prog 14 = some c1014 := by kernel_rfl
theorem code1027 : codeOf Tryz.prog 27 = some c1027 := by kernel_rfl
theorem code1028 : codeOf Tryz.prog 28 = some c1028 := by kernel_rfl
theorem code1029 : codeOf Tryz.prog 29 = some c1029 := by kernel_rfl
theorem code1030 : codeOf Tryz.prog 30 = some c1030 := by kernel_rfl
theorem code1031 : codeOf Tryz.prog 31 = some c1031 := by kernel_rfl
theorem code1032 : codeOf Tryz.prog 32 = some c1032 := by kernel_rfl
theorem code1033 : codeOf Tryz.prog 33 = some c1033 := by kernel_rfl
theorem code1034 : codeOf Tryz.prog 34 = some c1034 := by kernel_rfl
theorem code1068 : codeOf Tryz.prog 68 = some c1068 := by kernel_rfl
theorem code1069 : codeOf Tryz.prog 69 = some c1069 := by kernel_rfl
theorem code1070 : codeOf Tryz.prog 70 = some c1070 := by kernel_rfl
theorem code1071 : codeOf Tryz.prog 71 = some c1071 := by kernel_rfl
theorem code1072 : codeOf Tryz.prog 72 = some c1072 := by kernel_rfl
theorem code1073 : codeOf Tryz.prog 73 = some c1073 := by kernel_rfl
theorem code1074 : codeOf Tryz.prog 74 = some c1074 := by kernel_rfl
theorem code1075 : codeOf Tryz.prog 75 = some c1075 := by kernel_rfl
theorem code1076 : codeOf Tryz.prog 76 = some c1076 := by kernel_rfl
theorem code1077 : codeOf Tryz.prog 77 = some c1077 := by kernel_rfl
theorem code1078 : codeOf Tryz.prog 78 = some c1078 := by kernel_rfl
theorem code1079 : codeOf Tryz.prog 79 = some c1079 := by kernel_rfl
theorem code1113 : codeOf Tryz.prog 113 = some c1113 := by kernel_rfl
theorem code1114 : codeOf Tryz.prog 114 = some c1114 := by kernel_rfl
theorem code1116 : codeOf Tryz.prog 116 = some c1116 := by kernel_rfl
theorem code1118 : codeOf Tryz.prog 118 = some c1118 := by kernel_rfl
theorem code1119 : codeOf Tryz.prog 119 = some c1119 := by kernel_rfl
theorem code1120 : codeOf Tryz.prog 120 = some c1120 := by kernel_rfl
theorem code1121 : codeOf Tryz.prog 121 = some c1121 := by kernel_rfl
theorem code1122 : codeOf Tryz.prog 122 = some c1122 := by kernel_rfl
theorem code1123 : codeOf Tryz.prog 123 = some c1123 := by kernel_rfl
theorem code1125 : codeOf Tryz.prog 125 = some c1125 := by kernel_rfl
theorem code1128 : codeOf Tryz.prog 128 = some c1128 := by kernel_rfl
theorem code1129 : codeOf Tryz.prog 129 = some c1129 := by kernel_rfl
theorem code1130 : codeOf Tryz.prog 130 = some c1130 := by kernel_rfl
theorem code1143 : codeOf Tryz.prog 143 = some c1143 := by kernel_rfl
theorem code1144 : codeOf Tryz.prog 144 = some c1144 := by kernel_rfl
theorem code1145 : codeOf Tryz.prog 145 = some c1145 := by kernel_rfl
theorem code1146 : codeOf Tryz.prog 146 = some c1146 := by kernel_rfl
theorem code1157 : codeOf Tryz.prog 157 = some c1157 := by kernel_rfl
theorem code1159 : codeOf Tryz.prog 159 = some c1159 := by kernel_rfl
theorem code1166 : codeOf Tryz.prog 166 = some c1166 := by kernel_rfl
theorem code91 : codeOf Tryz.prog 168 = some c91 := by kernel_rfl
theorem code1169 : codeOf Tryz.prog 169 = some c1169 := by kernel_rfl
theorem code1174 : codeOf Tryz.prog 174 = some c1174 := by kernel_rfl
theorem code1177 : codeOf Tryz.prog 177 = some c1177 := by kernel_rfl

end Go.Ev
