/- The codes are the program's: lines printed by a program of this work (codes2.py). -/
import Derived.Test.YtgonelmeonncpaaGreatDoorCag
import Derived.Test.YtgonelmeonncpaaGreatDoorRows
namespace Go.Ev
open Go.Proofs
theorem code25 : codeOf Tryz.prog 29 = some c25 := by kernel_rfl
theorem code26 : codeOf Tryz.prog 43 = some c26 := by kernel_rfl
theorem code27 : codeOf Tryz.prog 44 = some c27 := by kernel_rfl
theorem code38 : codeOf Tryz.prog 55 = some c38 := by kernel_rfl
theorem code45 : codeOf Tryz.prog 62 = some c45 := by kernel_rfl
theorem code74 : codeOf Tryz.prog 80 = some c74 := by kernel_rfl
theorem code85 : codeOf Tryz.prog 130 = some c85 := by kernel_rfl
theorem code87 : codeOf Tryz.prog 132 = some c87 := by kernel_rfl
theorem code88 : codeOf Tryz.prog 133 = some c88 := by kernel_rfl
theorem code90 : codeOf Tryz.prog 135 = some c90 := by kernel_rfl
theorem code97 : codeOf Tryz.prog 142 = some c97 := by kernel_rfl
theorem code99 : codeOf Tryz.prog 144 = some c99 := by kernel_rfl
theorem code117 : codeOf Tryz.prog 171 = some c117 := by kernel_rfl
theorem code118 : codeOf Tryz.prog 172 = some c118 := by kernel_rfl
theorem code119 : codeOf Tryz.prog 173 = some c119 := by kernel_rfl
theorem code120 : codeOf Tryz.prog 174 = some c120 := by kernel_rfl
theorem code121 : codeOf Tryz.prog 175 = some c121 := by kernel_rfl
theorem code125 : codeOf Tryz.prog 199 = some c125 := by kernel_rfl
theorem code127 : codeOf Tryz.prog 201 = some c127 := by kernel_rfl
theorem code128 : codeOf Tryz.prog 202 = some c128 := by kernel_rfl
theorem code133 : codeOf Tryz.prog 206 = some c133 := by kernel_rfl
theorem code134 : codeOf Tryz.prog 159 = some c134 := by kernel_rfl
theorem code135 : codeOf Tryz.prog 217 = some c135 := by kernel_rfl
theorem code145 : codeOf Tryz.prog 226 = some c145 := by kernel_rfl
theorem code150 : codeOf Tryz.prog 241 = some c150 := by kernel_rfl
theorem code155 : codeOf Tryz.prog 255 = some c155 := by kernel_rfl
theorem code158 : codeOf Tryz.prog 262 = some c158 := by kernel_rfl
theorem code163 : codeOf Tryz.prog 268 = some c163 := by kernel_rfl
theorem code164 : codeOf Tryz.prog 269 = some c164 := by kernel_rfl
theorem code172 : codeOf Tryz.prog 277 = some c172 := by kernel_rfl
theorem code174 : codeOf Tryz.prog 279 = some c174 := by kernel_rfl
theorem code1015 : codeOf Tryz.prog 24 = some c1015 := by kernel_rfl
theorem code1035 : codeOf Tryz.prog 69 = some c1035 := by kernel_rfl
theorem code1080 : codeOf Tryz.prog 157 = some c1080 := by kernel_rfl
theorem code1083 : codeOf Tryz.prog 158 = some c1083 := by kernel_rfl
theorem code46 : codeOf Tryz.prog 63 = some c46 := by kernel_rfl

end Go.Ev
