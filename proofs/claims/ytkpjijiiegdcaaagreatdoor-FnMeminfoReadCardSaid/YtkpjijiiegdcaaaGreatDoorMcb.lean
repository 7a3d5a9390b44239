/- The codes are the program's: lines printed by a program of this work (codes2.py). -/
import Derived.Test.YtkpjijiiegdcaaaGreatDoorMca
import Derived.Test.YtkpjijiiegdcaaaGreatDoorRows
set_option maxRecDepth 100000
namespace Go.Ev
open Go.Proofs
theorem code4100 : codeOf Tryz.prog 100 = some c4100 := by kernel_rfl
theorem code4101 : codeOf Tryz.prog 101 = some c4101 := by kernel_rfl
theorem code4102 : codeOf Tryz.prog 102 = some c4102 := by kernel_rfl
theorem code4103 : codeOf Tryz.prog 103 = some c4103 := by kernel_rfl
theorem code4104 : codeOf Tryz.prog 104 = some c4104 := by kernel_rfl
theorem code4105 : codeOf Tryz.prog 105 = some c4105 := by kernel_rfl
theorem code4106 : codeOf Tryz.prog 106 = some c4106 := by kernel_rfl
theorem code4107 : codeOf Tryz.prog 107 = some c4107 := by kernel_rfl
theorem code4108 : codeOf Tryz.prog 108 = some c4108 := by kernel_rfl
theorem code4109 : codeOf Tryz.prog 109 = some c4109 := by kernel_rfl
theorem code4110 : codeOf Tryz.prog 110 = some c4110 := by kernel_rfl
theorem code4111 : codeOf Tryz.prog 111 = some c4111 := by kernel_rfl
theorem code4112 : codeOf Tryz.prog 112 = some c4112 := by kernel_rfl
theorem code4113 : codeOf Tryz.prog 113 = some c4113 := by kernel_rfl
theorem code4114 : codeOf Tryz.prog 114 = some c4114 := by kernel_rfl
theorem code4115 : codeOf Tryz.prog 115 = some c4115 := by kernel_rfl
theorem code4116 : codeOf Tryz.prog 116 = some c4116 := by kernel_rfl
theorem code4117 : codeOf Tryz.prog 117 = some c4117 := by kernel_rfl
theorem code4118 : codeOf Tryz.prog 118 = some c4118 := by kernel_rfl
theorem code4119 : codeOf Tryz.prog 119 = some c4119 := by kernel_rfl
theorem code4120 : codeOf Tryz.prog 120 = some c4120 := by kernel_rfl
theorem code4121 : codeOf Tryz.prog 121 = some c4121 := by kernel_rfl
theorem code4122 : codeOf Tryz.prog 122 = some c4122 := by kernel_rfl
theorem code4123 : codeOf Tryz.prog 123 = some c4123 := by kernel_rfl
theorem code4124 : codeOf Tryz.prog 124 = some c4124 := by kernel_rfl
theorem code4125 : codeOf Tryz.prog 125 = some c4125 := by kernel_rfl
theorem code4126 : codeOf Tryz.prog 126 = some c4126 := by kernel_rfl
theorem code4127 : codeOf Tryz.prog 127 = some c4127 := by kernel_rfl
theorem code4128 : codeOf Tryz.prog 128 = some c4128 := by kernel_rfl
theorem code4129 : codeOf Tryz.prog 129 = some c4129 := by kernel_rfl
theorem code4130 : codeOf Tryz.prog 130 = some c4130 := by kernel_rfl
theorem code4131 : codeOf Tryz.prog 131 = some c4131 := by kernel_rfl
theorem code4132 : codeOf Tryz.prog 132 = some c4132 := by kernel_rfl
theorem code4133 : codeOf Tryz.prog 133 = some c4133 := by kernel_rfl
theorem code4134 : codeOf Tryz.prog 134 = some c4134 := by kernel_rfl
theorem code4135 : codeOf Tryz.prog 135 = some c4135 := by kernel_rfl
theorem code4136 : codeOf Tryz.prog 136 = some c4136 := by kernel_rfl
theorem code4137 : codeOf Tryz.prog 137 = some c4137 := by kernel_rfl
theorem code4138 : codeOf Tryz.prog 138 = some c4138 := by kernel_rfl
theorem code4139 : codeOf Tryz.prog 139 = some c4139 := by kernel_rfl
theorem code4140 : codeOf Tryz.prog 140 = some c4140 := by kernel_rfl
theorem code4141 : codeOf Tryz.prog 141 = some c4141 := by kernel_rfl
theorem code4142 : codeOf Tryz.prog 142 = some c4142 := by kernel_rfl
theorem code4143 : codeOf Tryz.prog 143 = some c4143 := by kernel_rfl
theorem code4144 : codeOf Tryz.prog 144 = some c4144 := by kernel_rfl
theorem code4145 : codeOf Tryz.prog 145 = some c4145 := by kernel_rfl
theorem code4146 : codeOf Tryz.prog 146 = some c4146 := by kernel_rfl
theorem code4147 : codeOf Tryz.prog 147 = some c4147 := by kernel_rfl
theorem code4148 : codeOf Tryz.prog 148 = some c4148 := by kernel_rfl
theorem code4149 : codeOf Tryz.prog 149 = some c4149 := by kernel_rfl
theorem code4150 : codeOf Tryz.prog 150 = some c4150 := by kernel_rfl
theorem code4151 : codeOf Tryz.prog 151 = some c4151 := by kernel_rfl
theorem code4152 : codeOf Tryz.prog 152 = some c4152 := by kernel_rfl
theorem code4153 : codeOf Tryz.prog 153 = some c4153 := by kernel_rfl
theorem code4154 : codeOf Tryz.prog 154 = some c4154 := by kernel_rfl
theorem code4155 : codeOf Tryz.prog 155 = some c4155 := by kernel_rfl
theorem code4156 : codeOf Tryz.prog 156 = some c4156 := by kernel_rfl
theorem code4157 : codeOf Tryz.prog 157 = some c4157 := by kernel_rfl
theorem code4158 : codeOf Tryz.prog 158 = some c4158 := by kernel_rfl
theorem code4159 : codeOf Tryz.prog 159 = some c4159 := by kernel_rfl
theorem code4160 : codeOf Tryz.prog 160 = some c4160 := by kernel_rfl
theorem code4161 : codeOf Tryz.prog 161 = some c4161 := by kernel_rfl
theorem code4162 : codeOf Tryz.prog 162 = some c4162 := by kernel_rfl
theorem code4163 : codeOf Tryz.prog 163 = some c4163 := by kernel_rfl
theorem code4164 : codeOf Tryz.prog 164 = some c4164 := by kernel_rfl
theorem code4165 : codeOf Tryz.prog 165 = some c4165 := by kernel_rfl
theorem code4166 : codeOf Tryz.prog 166 = some c4166 := by kernel_rfl
theorem code4167 : codeOf Tryz.prog 167 = some c4167 := by kernel_rfl
theorem code4168 : codeOf Tryz.prog 168 = some c4168 := by kernel_rfl
theorem code4169 : codeOf Tryz.prog 169 = some c4169 := by kernel_rfl
theorem code4170 : codeOf Tryz.prog 170 = some c4170 := by kernel_rfl
theorem code4171 : codeOf Tryz.prog 171 = some c4171 := by kernel_rfl
theorem code4172 : codeOf Tryz.prog 172 = some c4172 := by kernel_rfl
theorem code4173 : codeOf Tryz.prog 173 = some c4173 := by kernel_rfl

end Go.Ev
