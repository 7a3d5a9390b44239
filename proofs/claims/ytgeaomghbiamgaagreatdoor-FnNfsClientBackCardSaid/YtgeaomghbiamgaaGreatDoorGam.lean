/- The codes are the program's: lines printed by a program of this work (codes2.py). -/
import Derived.Test.YtgeaomghbiamgaaGreatDoorGal
import Derived.Test.YtgeaomghbiamgaaGreatDoorRows
set_option maxRecDepth 100000
namespace Go.Ev
open Go.Proofs
theorem code3009 : codeOf Tryz.prog 3 = some c3009 := by kernel_rfl
theorem code3010 : codeOf Tryz.prog 4 = some c3010 := by kernel_rfl
theorem code3011 : codeOf Tryz.prog 5 = some c3011 := by kernel_rfl
theorem code3030 : codeOf Tryz.prog 11 = some c3030 := by kernel_rfl
theorem code3031 : codeOf Tryz.prog 12 = some c3031 := by kernel_rfl
theorem code3032 : codeOf Tryz.prog 13 = some c3032 := by kernel_rfl
theorem code3033 : codeOf Tryz.prog 15 = some c3033 := by kernel_rfl
theorem code3085 : codeOf Tryz.prog 26 = some c3085 := by kernel_rfl
theorem code3089 : codeOf Tryz.prog 31 = some c3089 := by kernel_rfl
theorem code3090 : codeOf Tryz.prog 32 = some c3090 := by kernel_rfl
theorem code3091 : codeOf Tryz.prog 33 = some c3091 := by kernel_rfl
theorem code3092 : codeOf Tryz.prog 34 = some c3092 := by kernel_rfl
theorem code3093 : codeOf Tryz.prog 35 = some c3093 := by kernel_rfl
theorem code3094 : codeOf Tryz.prog 36 = some c3094 := by kernel_rfl
theorem code3151 : codeOf Tryz.prog 70 = some c3151 := by kernel_rfl
theorem code3155 : codeOf Tryz.prog 81 = some c3155 := by kernel_rfl
theorem code3158 : codeOf Tryz.prog 84 = some c3158 := by kernel_rfl
theorem code3162 : codeOf Tryz.prog 88 = some c3162 := by kernel_rfl
theorem code3165 : codeOf Tryz.prog 91 = some c3165 := by kernel_rfl

end Go.Ev
