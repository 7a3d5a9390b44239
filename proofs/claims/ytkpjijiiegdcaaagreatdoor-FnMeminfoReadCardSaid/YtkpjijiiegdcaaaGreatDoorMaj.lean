/- The codes are the program's: lines printed by a program of this work (codes2.py). -/
import Derived.Test.YtkpjijiiegdcaaaGreatDoorMai
import Derived.Test.YtkpjijiiegdcaaaGreatDoorRows
set_option maxRecDepth 100000
namespace Go.Ev
open Go.Proofs
theorem code9 : codeOf Tryz.prog 16 = some c9 := by kernel_rfl
theorem code13 : codeOf Tryz.prog 14 = some c13 := by kernel_rfl
theorem code25 : codeOf Tryz.prog 22 = some c25 := by kernel_rfl
theorem code26 : codeOf Tryz.prog 23 = some c26 := by kernel_rfl
theorem code27 : codeOf Tryz.prog 24 = some c27 := by kernel_rfl
theorem code28 : codeOf Tryz.prog 41 = some c28 := by kernel_rfl
theorem code30 : codeOf Tryz.prog 61 = some c30 := by kernel_rfl
theorem code33 : codeOf Tryz.prog 35 = some c33 := by kernel_rfl
theorem code38 : codeOf Tryz.prog 37 = some c38 := by kernel_rfl
theorem code44 : codeOf Tryz.prog 26 = some c44 := by kernel_rfl
theorem code45 : codeOf Tryz.prog 29 = some c45 := by kernel_rfl
theorem code52 : codeOf Tryz.prog 42 = some c52 := by kernel_rfl
theorem code55 : codeOf Tryz.prog 46 = some c55 := by kernel_rfl
theorem code57 : codeOf Tryz.prog 58 = some c57 := by kernel_rfl
theorem code74 : codeOf Tryz.prog 56 = some c74 := by kernel_rfl
theorem code76 : codeOf Tryz.prog 43 = some c76 := by kernel_rfl
theorem code77 : codeOf Tryz.prog 44 = some c77 := by kernel_rfl
theorem code78 : codeOf Tryz.prog 174 = some c78 := by kernel_rfl
theorem code81 : codeOf Tryz.prog 54 = some c81 := by kernel_rfl
theorem code85 : codeOf Tryz.prog 64 = some c85 := by kernel_rfl
theorem code87 : codeOf Tryz.prog 181 = some c87 := by kernel_rfl
theorem code88 : codeOf Tryz.prog 182 = some c88 := by kernel_rfl
theorem code90 : codeOf Tryz.prog 184 = some c90 := by kernel_rfl
theorem code97 : codeOf Tryz.prog 60 = some c97 := by kernel_rfl
theorem code99 : codeOf Tryz.prog 63 = some c99 := by kernel_rfl
theorem code117 : codeOf Tryz.prog 189 = some c117 := by kernel_rfl
theorem code118 : codeOf Tryz.prog 190 = some c118 := by kernel_rfl
theorem code119 : codeOf Tryz.prog 191 = some c119 := by kernel_rfl
theorem code120 : codeOf Tryz.prog 192 = some c120 := by kernel_rfl
theorem code121 : codeOf Tryz.prog 193 = some c121 := by kernel_rfl
theorem code122 : codeOf Tryz.prog 196 = some c122 := by kernel_rfl
theorem code123 : codeOf Tryz.prog 188 = some c123 := by kernel_rfl
theorem code125 : codeOf Tryz.prog 208 = some c125 := by kernel_rfl
theorem code127 : codeOf Tryz.prog 194 = some c127 := by kernel_rfl
theorem code133 : codeOf Tryz.prog 206 = some c133 := by kernel_rfl
theorem code134 : codeOf Tryz.prog 204 = some c134 := by kernel_rfl
theorem code135 : codeOf Tryz.prog 215 = some c135 := by kernel_rfl
theorem code145 : codeOf Tryz.prog 214 = some c145 := by kernel_rfl
theorem code150 : codeOf Tryz.prog 226 = some c150 := by kernel_rfl
theorem code155 : codeOf Tryz.prog 230 = some c155 := by kernel_rfl
theorem code158 : codeOf Tryz.prog 233 = some c158 := by kernel_rfl
theorem code163 : codeOf Tryz.prog 235 = some c163 := by kernel_rfl
theorem code164 : codeOf Tryz.prog 236 = some c164 := by kernel_rfl
theorem code172 : codeOf Tryz.prog 244 = some c172 := by kernel_rfl
theorem code174 : codeOf Tryz.prog 246 = some c174 := by kernel_rfl
theorem code1015 : codeOf Tryz.prog 9 = some c1015 := by kernel_rfl
theorem code1016 : codeOf Tryz.prog 10 = some c1016 := by kernel_rfl
theorem code1035 : codeOf Tryz.prog 21 = some c1035 := by kernel_rfl
theorem code1080 : codeOf Tryz.prog 55 = some c1080 := by kernel_rfl
theorem code46 : codeOf Tryz.prog 28 = some c46 := by kernel_rfl
theorem code35 : codeOf Tryz.prog 34 = some c35 := by kernel_rfl
theorem code31 : codeOf Tryz.prog 45 = some c31 := by kernel_rfl
theorem code79 : codeOf Tryz.prog 175 = some c79 := by kernel_rfl
theorem code80 : codeOf Tryz.prog 176 = some c80 := by kernel_rfl

end Go.Ev
