/- The codes of the functions that the statements reach: lines printed by a program of this work (codes2.py). -/
import Derived.Test.YtkpjijiiegdcaaaGreatDoorMag
set_option linter.unusedVariables false
set_option maxRecDepth 100000
namespace Go.Proofs
end Go.Proofs
namespace Go.Ev
def c4100 : AFn := { ntmps := 8, results := [.cell 4 (some 8)], body := .seq (.region 0 [⟨some 4, .new [.str [], .int .i64 0, .bool false, .int .i64 0, .int .u64 0, .flt .f64 0, .str [], .nilS], none⟩]) (.seq (.seq (.region 0 [⟨some 5, .mov (.t 0), none⟩, ⟨some 6, .mov (.t 1), none⟩, ⟨some 7, .build [.str [], .int .i64 0, .bool false, .int .i64 0, .int .u64 0, .flt .f64 0, .str [], .nilS] [(0, 1, .t 5), (1, 1, .c (.int .i64 3)), (4, 1, .t 6)], none⟩, ⟨none, .store (some 8) (.t 4) (.t 7), none⟩]) (.kill [0, 1, 5, 6, 7])) .ret), lk := false, mu := [] }

def c4101 : AFn := c4100

def c4102 : AFn := c4100

def c4103 : AFn := c4100

def c4104 : AFn := c4100

def c4105 : AFn := c4100

def c4106 : AFn := c4100

def c4107 : AFn := c4100

def c4108 : AFn := c4100

def c4109 : AFn := c4100

def c4110 : AFn := c4100

def c4111 : AFn := c4100

def c4112 : AFn := c4100

def c4113 : AFn := c4100

def c4114 : AFn := c4100

def c4115 : AFn := c4100

def c4116 : AFn := c4100

def c4117 : AFn := c4100

def c4118 : AFn := c4100

def c4119 : AFn := c4100

def c4120 : AFn := c4100

def c4121 : AFn := c4100

def c4122 : AFn := c4100

def c4123 : AFn := c4100

def c4124 : AFn := c4100

def c4125 : AFn := c4100

def c4126 : AFn := c4100

def c4127 : AFn := c4100

def c4128 : AFn := c4100

def c4129 : AFn := c4100

def c4130 : AFn := c4100

def c4131 : AFn := c4100

def c4132 : AFn := c4100

def c4133 : AFn := c4100

def c4134 : AFn := c4100

def c4135 : AFn := c4100

def c4136 : AFn := c4100

def c4137 : AFn := c4100

def c4138 : AFn := c4100

def c4139 : AFn := c4100

def c4140 : AFn := c4100

def c4141 : AFn := c4100

def c4142 : AFn := c4100

def c4143 : AFn := c4100

def c4144 : AFn := c4100

def c4145 : AFn := c4100

def c4146 : AFn := c4100

def c4147 : AFn := c4100

def c4148 : AFn := c4100

def c4149 : AFn := c4100

def c4150 : AFn := c4100

def c4151 : AFn := c4100

def c4152 : AFn := c4100

def c4153 : AFn := c4100

def c4154 : AFn := c4100

def c4155 : AFn := c4100

def c4156 : AFn := c4100

def c4157 : AFn := c4100

def c4158 : AFn := c4100

def c4159 : AFn := c4100

def c4160 : AFn := c4100

def c4161 : AFn := c4100

def c4162 : AFn := c4100

def c4163 : AFn := c4100

def c4164 : AFn := c4100

def c4165 : AFn := c4100

def c4166 : AFn := c4100

def c4167 : AFn := c4100

def c4168 : AFn := c4100

def c4169 : AFn := c4100

def c4170 : AFn := c4100

def c4171 : AFn := c4100

def c4172 : AFn := c4100

def c4173 : AFn := c4100

end Go.Ev
