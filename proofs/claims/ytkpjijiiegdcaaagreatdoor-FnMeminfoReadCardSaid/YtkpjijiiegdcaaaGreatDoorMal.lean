/- The codes are the program's: lines printed by a program of this work (codes2.py). -/
import Derived.Test.YtkpjijiiegdcaaaGreatDoorMak
import Derived.Test.YtkpjijiiegdcaaaGreatDoorRows
set_option maxRecDepth 100000
namespace Go.Ev
open Go.Proofs
theorem code4003 : codeOf Tryz.prog 3 = some c4003 := by kernel_rfl
theorem code4004 : codeOf Tryz.prog 4 = some c4004 := by kernel_rfl
theorem code4005 : codeOf Tryz.prog 5 = some c4005 := by kernel_rfl
theorem code4011 : codeOf Tryz.prog 11 = some c4011 := by kernel_rfl
theorem code4012 : codeOf Tryz.prog 12 = some c4012 := by kernel_rfl
theorem code4013 : codeOf Tryz.prog 13 = some c4013 := by kernel_rfl
theorem code4015 : codeOf Tryz.prog 15 = some c4015 := by kernel_rfl
theorem code4025 : codeOf Tryz.prog 25 = some c4025 := by kernel_rfl
theorem code4027 : codeOf Tryz.prog 27 = some c4027 := by kernel_rfl
theorem code4030 : codeOf Tryz.prog 30 = some c4030 := by kernel_rfl
theorem code4031 : codeOf Tryz.prog 31 = some c4031 := by kernel_rfl
theorem code4036 : codeOf Tryz.prog 36 = some c4036 := by kernel_rfl
theorem code4038 : codeOf Tryz.prog 38 = some c4038 := by kernel_rfl
theorem code4039 : codeOf Tryz.prog 39 = some c4039 := by kernel_rfl
theorem code4040 : codeOf Tryz.prog 40 = some c4040 := by kernel_rfl
theorem code4065 : codeOf Tryz.prog 65 = some c4065 := by kernel_rfl
theorem code4068 : codeOf Tryz.prog 68 = some c4068 := by kernel_rfl
theorem code4069 : codeOf Tryz.prog 69 = some c4069 := by kernel_rfl
theorem code4070 : codeOf Tryz.prog 70 = some c4070 := by kernel_rfl
theorem code4071 : codeOf Tryz.prog 71 = some c4071 := by kernel_rfl
theorem code4072 : codeOf Tryz.prog 72 = some c4072 := by kernel_rfl
theorem code4073 : codeOf Tryz.prog 73 = some c4073 := by kernel_rfl
theorem code4074 : codeOf Tryz.prog 74 = some c4074 := by kernel_rfl
theorem code4075 : codeOf Tryz.prog 75 = some c4075 := by kernel_rfl
theorem code4076 : codeOf Tryz.prog 76 = some c4076 := by kernel_rfl
theorem code4077 : codeOf Tryz.prog 77 = some c4077 := by kernel_rfl
theorem code4078 : codeOf Tryz.prog 78 = some c4078 := by kernel_rfl
theorem code4079 : codeOf Tryz.prog 79 = some c4079 := by kernel_rfl
theorem code4080 : codeOf Tryz.prog 80 = some c4080 := by kernel_rfl
theorem code4081 : codeOf Tryz.prog 81 = some c4081 := by kernel_rfl
theorem code4082 : codeOf Tryz.prog 82 = some c4082 := by kernel_rfl
theorem code4083 : codeOf Tryz.prog 83 = some c4083 := by kernel_rfl
theorem code4084 : codeOf Tryz.prog 84 = some c4084 := by kernel_rfl
theorem code4085 : codeOf Tryz.prog 85 = some c4085 := by kernel_rfl
theorem code4086 : codeOf Tryz.prog 86 = some c4086 := by kernel_rfl
theorem code4087 : codeOf Tryz.prog 87 = some c4087 := by kernel_rfl
theorem code4088 : codeOf Tryz.prog 88 = some c4088 := by kernel_rfl
theorem code4089 : codeOf Tryz.prog 89 = some c4089 := by kernel_rfl
theorem code4090 : codeOf Tryz.prog 90 = some c4090 := by kernel_rfl
theorem code4091 : codeOf Tryz.prog 91 = some c4091 := by kernel_rfl
theorem code4092 : codeOf Tryz.prog 92 = some c4092 := by kernel_rfl
theorem code4093 : codeOf Tryz.prog 93 = some c4093 := by kernel_rfl
theorem code4094 : codeOf Tryz.prog 94 = some c4094 := by kernel_rfl
theorem code4095 : codeOf Tryz.prog 95 = some c4095 := by kernel_rfl
theorem code4096 : codeOf Tryz.prog 96 = some c4096 := by kernel_rfl
theorem code4097 : codeOf Tryz.prog 97 = some c4097 := by kernel_rfl
theorem code4098 : codeOf Tryz.prog 98 = some c4098 := by kernel_rfl
theorem code4099 : codeOf Tryz.prog 99 = some c4099 := by kernel_rfl
theorem code1114 : codeOf Tryz.prog 33 = some c1114 := by kernel_rfl

end Go.Ev
