/- The codes are the program's: lines printed by a program of this work (codes2.py). -/
import Derived.Test.YtgonelmeonncpaaGreatDoorCai
import Derived.Test.YtgonelmeonncpaaGreatDoorRows
namespace Go.Ev
open Go.Proofs
theorem code84 : codeOf Tryz.prog 129 = some c84 := by kernel_rfl
theorem code1027 : codeOf Tryz.prog 35 = some c1027 := by kernel_rfl
theorem code1029 : codeOf Tryz.prog 26 = some c1029 := by kernel_rfl
theorem code1031 : codeOf Tryz.prog 25 = some c1031 := by kernel_rfl
theorem code1033 : codeOf Tryz.prog 27 = some c1033 := by kernel_rfl
theorem code1068 : codeOf Tryz.prog 70 = some c1068 := by kernel_rfl
theorem code1069 : codeOf Tryz.prog 71 = some c1069 := by kernel_rfl
theorem code1071 : codeOf Tryz.prog 72 = some c1071 := by kernel_rfl
theorem code1072 : codeOf Tryz.prog 73 = some c1072 := by kernel_rfl
theorem code1073 : codeOf Tryz.prog 74 = some c1073 := by kernel_rfl
theorem code1074 : codeOf Tryz.prog 75 = some c1074 := by kernel_rfl
theorem code1076 : codeOf Tryz.prog 76 = some c1076 := by kernel_rfl
theorem code1077 : codeOf Tryz.prog 77 = some c1077 := by kernel_rfl
theorem code1078 : codeOf Tryz.prog 78 = some c1078 := by kernel_rfl
theorem code1079 : codeOf Tryz.prog 79 = some c1079 := by kernel_rfl
theorem code1113 : codeOf Tryz.prog 82 = some c1113 := by kernel_rfl
theorem code1118 : codeOf Tryz.prog 161 = some c1118 := by kernel_rfl
theorem code1119 : codeOf Tryz.prog 162 = some c1119 := by kernel_rfl
theorem code1120 : codeOf Tryz.prog 163 = some c1120 := by kernel_rfl
theorem code1121 : codeOf Tryz.prog 164 = some c1121 := by kernel_rfl
theorem code1122 : codeOf Tryz.prog 165 = some c1122 := by kernel_rfl
theorem code1123 : codeOf Tryz.prog 166 = some c1123 := by kernel_rfl
theorem code1128 : codeOf Tryz.prog 168 = some c1128 := by kernel_rfl
theorem code1129 : codeOf Tryz.prog 169 = some c1129 := by kernel_rfl
theorem code1130 : codeOf Tryz.prog 170 = some c1130 := by kernel_rfl
theorem code1143 : codeOf Tryz.prog 109 = some c1143 := by kernel_rfl
theorem code1144 : codeOf Tryz.prog 203 = some c1144 := by kernel_rfl
theorem code1145 : codeOf Tryz.prog 186 = some c1145 := by kernel_rfl
theorem code1146 : codeOf Tryz.prog 204 = some c1146 := by kernel_rfl
theorem code1157 : codeOf Tryz.prog 239 = some c1157 := by kernel_rfl
theorem code1159 : codeOf Tryz.prog 225 = some c1159 := by kernel_rfl
theorem code1166 : codeOf Tryz.prog 242 = some c1166 := by kernel_rfl
theorem code91 : codeOf Tryz.prog 136 = some c91 := by kernel_rfl
theorem code1169 : codeOf Tryz.prog 240 = some c1169 := by kernel_rfl
theorem code1174 : codeOf Tryz.prog 254 = some c1174 := by kernel_rfl
theorem code1177 : codeOf Tryz.prog 260 = some c1177 := by kernel_rfl

end Go.Ev
