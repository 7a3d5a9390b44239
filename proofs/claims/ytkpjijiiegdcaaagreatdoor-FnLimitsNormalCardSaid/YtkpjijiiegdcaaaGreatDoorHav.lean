/- A chain of entries: lines printed by a program of this work (chaina.py). -/
import Derived.Test.YtkpjijiiegdcaaaGreatDoorHba
import Derived.Test.YtkpjijiiegdcaaaGreatDoorHar
import Derived.Test.YtkpjijiiegdcaaaGreatDoorHaw
set_option linter.unusedSimpArgs false
set_option linter.unusedVariables false
set_option maxRecDepth 4000
namespace Go.Ev
open Go.Proofs

noncomputable def e1 : Env := E0.add 204 F134
theorem b1 : Base Tryz.prog e1 := b0.add (p134 b0 rfl)
noncomputable def e2 : Env := e1.add 188 F123
theorem b2 : Base Tryz.prog e2 := b1.add (p123 b1 rfl rfl)
noncomputable def e3 : Env := e2.add 54 F81
theorem b3 : Base Tryz.prog e3 := b2.add (p81 b2 rfl rfl)
noncomputable def e4 : Env := e3.add 60 F97
theorem b4 : Base Tryz.prog e4 := b3.add (p97 b3 rfl)
noncomputable def e5 : Env := e4.add 29 F45
theorem b5 : Base Tryz.prog e5 := b4.add (p45 b4 rfl rfl)
noncomputable def e6 : Env := e5.add 174 F78
theorem b6 : Base Tryz.prog e6 := b5.add (p78 b5 rfl)
noncomputable def e7 : Env := e6.add 41 F28
theorem b7 : Base Tryz.prog e7 := b6.add (p28 b6 rfl)
noncomputable def e8 : Env := e7.add 42 F52
theorem b8 : Base Tryz.prog e8 := b7.add (p52 b7 rfl)
noncomputable def e9 : Env := e8.add 35 F33
theorem b9 : Base Tryz.prog e9 := b8.add (p33 b8 rfl)
noncomputable def e10 : Env := e9.add 61 F30
theorem b10 : Base Tryz.prog e10 := b9.add (p30 b9 rfl)
noncomputable def e11 : Env := e10.add 37 F38
theorem b11 : Base Tryz.prog e11 := b10.add (p38 b10 rfl)
noncomputable def e12 : Env := e11.add 26 F44
theorem b12 : Base Tryz.prog e12 := b11.add (p44 b11 rfl)
noncomputable def e13 : Env := e12.add 46 F55
theorem b13 : Base Tryz.prog e13 := b12.add (p55 b12 rfl)
noncomputable def e14 : Env := e13.add 178 F84
theorem b14 : Base Tryz.prog e14 := b13.add (p84 b13 rfl)
noncomputable def e15 : Env := e14.add 55 F1080
theorem b15 : Base Tryz.prog e15 := b14.add (p1080 b14 rfl)
noncomputable def e16 : Env := e15.add 21 F1035
theorem b16 : Base Tryz.prog e16 := b15.add (p1035 b15 rfl rfl)
noncomputable def e17 : Env := e16.add 9 F1015
theorem b17 : Base Tryz.prog e17 := b16.add (p1015 b16 rfl rfl)
noncomputable def e18 : Env := e17.add 22 F25
theorem b18 : Base Tryz.prog e18 := b17.add (p25 e17 rfl)
noncomputable def e19 : Env := e18.add 57 F75
theorem b19 : Base Tryz.prog e19 := b18.add (p75 e18)
noncomputable def e20 : Env := e19.add 24 F27
theorem b20 : Base Tryz.prog e20 := b19.add (p27 b19 rfl)
noncomputable def e21 : Env := e20.add 23 F26
theorem b21 : Base Tryz.prog e21 := b20.add (p26 b20 rfl rfl)
theorem s22_135 : S135 (autoF e21 215) := ev135 e21 rfl
noncomputable def e22 : Env := e21.add 215 (autoF e21 215)
theorem b22 : Base Tryz.prog e22 := b21.add (PureFn.auto b21.m b21.T b21.Q b21.P)
theorem s23_125 : S125v (autoF e22 208) := ev125v e22 rfl ⟨autoF e21 215, rfl, s22_135⟩
noncomputable def e23 : Env := e22.add 208 (autoF e22 208)
theorem b23 : Base Tryz.prog e23 := b22.add (PureFn.auto b22.m b22.T b22.Q b22.P)
theorem s24_91 : S91v (autoF e23 195) := ev91v e23 rfl ⟨autoF e22 208, rfl, s23_125⟩
noncomputable def e24 : Env := e23.add 195 (autoF e23 195)
theorem b24 : Base Tryz.prog e24 := b23.add (PureFn.auto b23.m b23.T b23.Q b23.P)
theorem s25_4198 : S4198 (autoF e24 198) := ev4198 e24 rfl
noncomputable def e25 : Env := e24.add 198 (autoF e24 198)
theorem b25 : Base Tryz.prog e25 := b24.add (PureFn.auto b24.m b24.T b24.Q b24.P)
theorem s26_1167 : S1167 (autoF e25 199) := ev1167 e25 rfl
noncomputable def e26 : Env := e25.add 199 (autoF e25 199)
theorem b26 : Base Tryz.prog e26 := b25.add (PureFn.auto b25.m b25.T b25.Q b25.P)
theorem s27_4197 : S4197 (autoF e26 197) := ev4197 e26 rfl ⟨autoF e24 198, rfl, s25_4198⟩ ⟨autoF e25 199, rfl, s26_1167⟩
noncomputable def e27 : Env := e26.add 197 (autoF e26 197)
theorem b27 : Base Tryz.prog e27 := b26.add (PureFn.auto b26.m b26.T b26.Q b26.P)
theorem s28_3193 : S3193g (autoF e27 185) := ev3193g e27 rfl spT0
noncomputable def e28 : Env := e27.add 185 (autoF e27 185)
theorem b28 : Base Tryz.prog e28 := b27.add (PureFn.auto b27.m b27.T b27.Q b27.P)
theorem s29_4048 : S4048 (autoF e28 48) := ev4048 e28 rfl rfl
noncomputable def e29 : Env := e28.add 48 (autoF e28 48)
theorem b29 : Base Tryz.prog e29 := b28.add (PureFn.auto b28.m b28.T b28.Q b28.P)
theorem s30_4047 : S4047 (autoF e29 47) := ev4047 e29 rfl
noncomputable def e30 : Env := e29.add 47 (autoF e29 47)
theorem b30 : Base Tryz.prog e30 := b29.add (PureFn.auto b29.m b29.T b29.Q b29.P)
theorem s31_4186 : S4186 (autoF e30 186) := ev4186 e30 rfl ⟨autoF e23 195, rfl, s24_91⟩
noncomputable def e31 : Env := e30.add 186 (autoF e30 186)
theorem b31 : Base Tryz.prog e31 := b30.add (PureFn.auto b30.m b30.T b30.Q b30.P)
theorem s32_4183 : S4183 (autoF e31 183) := ev4183 e31 rfl rfl rfl ⟨autoF e26 197, rfl, s27_4197⟩
noncomputable def e32 : Env := e31.add 183 (autoF e31 183)
theorem b32 : Base Tryz.prog e32 := b31.add (PureFn.auto b31.m b31.T b31.Q b31.P)
theorem s33_2113 : S2113t (autoF e32 50) := ev2113t e32 rfl rfl
noncomputable def e33 : Env := e32.add 50 (autoF e32 50)
theorem b33 : Base Tryz.prog e33 := b32.add (PureFn.auto b32.m b32.T b32.Q b32.P)
theorem s34_2193 : S2193t (autoF e33 179) := ev2193t e33 rfl
noncomputable def e34 : Env := e33.add 179 (autoF e33 179)
theorem b34 : Base Tryz.prog e34 := b33.add (PureFn.auto b33.m b33.T b33.Q b33.P)
theorem s35_4051 : S4051 (autoF e34 51) := ev4051c e34 rfl ⟨autoF e31 183, rfl, s32_4183⟩ ⟨autoF e27 185, rfl, s28_3193⟩ ⟨autoF e30 186, rfl, s31_4186⟩ rfl rfl rfl rfl rfl rfl rfl ⟨autoF e33 179, rfl, s34_2193⟩ rfl rfl rfl
noncomputable def e35 : Env := e34.add 51 (autoF e34 51)
theorem b35 : Base Tryz.prog e35 := b34.add (PureFn.auto b34.m b34.T b34.Q b34.P)
theorem s36_4053 : S4053 (autoF e35 53) := ev4053 e35 rfl
noncomputable def e36 : Env := e35.add 53 (autoF e35 53)
theorem b36 : Base Tryz.prog e36 := b35.add (PureFn.auto b35.m b35.T b35.Q b35.P)
theorem s37_4052 : S4052 (autoF e36 52) := ev4052 e36 rfl ⟨autoF e35 53, rfl, s36_4053⟩
noncomputable def e37 : Env := e36.add 52 (autoF e36 52)
theorem b37 : Base Tryz.prog e37 := b36.add (PureFn.auto b36.m b36.T b36.Q b36.P)
theorem s38_4049 : S4049 (autoF e37 49) := ev4049 e37 rfl rfl ⟨autoF e34 51, rfl, s35_4051⟩ ⟨autoF e36 52, rfl, s37_4052⟩
noncomputable def e38 : Env := e37.add 49 (autoF e37 49)
theorem b38 : Base Tryz.prog e38 := b37.add (PureFn.auto b37.m b37.T b37.Q b37.P)
theorem s39_4019 : S4019 (autoF e38 19) := ev4019 e38 rfl ⟨autoF e32 50, rfl, s33_2113⟩ ⟨autoF e37 49, rfl, s38_4049⟩
noncomputable def e39 : Env := e38.add 19 (autoF e38 19)
theorem b39 : Base Tryz.prog e39 := b38.add (PureFn.auto b38.m b38.T b38.Q b38.P)
theorem s40_35 : S35o (autoF e39 34) := ev35o e39 rfl
noncomputable def e40 : Env := e39.add 34 (autoF e39 34)
theorem b40 : Base Tryz.prog e40 := b39.add (PureFn.auto b39.m b39.T b39.Q b39.P)
theorem s41_4017 : S4017 (autoF e40 17) := ev4017 e40 rfl rfl ⟨autoF e28 48, rfl, s29_4048⟩ ⟨autoF e29 47, rfl, s30_4047⟩ rfl
noncomputable def e41 : Env := e40.add 17 (autoF e40 17)
theorem b41 : Base Tryz.prog e41 := b40.add (PureFn.auto b40.m b40.T b40.Q b40.P)
theorem s42_4018 : S4018 (autoF e41 18) := ev4018 e41 rfl ⟨autoF e40 17, rfl, s41_4017⟩ ⟨autoF e29 47, rfl, s30_4047⟩ ⟨autoF e39 34, rfl, s40_35⟩ rfl
noncomputable def e42 : Env := e41.add 18 (autoF e41 18)
theorem b42 : Base Tryz.prog e42 := b41.add (PureFn.auto b41.m b41.T b41.Q b41.P)
theorem s43_31 : S31l (autoF e42 45) := ev31l e42 rfl rfl ⟨autoF e40 17, rfl, s41_4017⟩
noncomputable def e43 : Env := e42.add 45 (autoF e42 45)
theorem b43 : Base Tryz.prog e43 := b42.add (PureFn.auto b42.m b42.T b42.Q b42.P)
theorem s44_4020 : S4020 (autoF e43 20) := ev4020 e43 rfl rfl rfl rfl ⟨autoF e42 45, rfl, s43_31⟩
noncomputable def e44 : Env := e43.add 20 (autoF e43 20)
theorem b44 : Base Tryz.prog e44 := b43.add (PureFn.auto b43.m b43.T b43.Q b43.P)
theorem s45_9 : S9li (autoF e44 16) := ev9li e44 rfl ⟨autoF e43 20, rfl, s44_4020⟩ ⟨autoF e41 18, rfl, s42_4018⟩ ⟨autoF e38 19, rfl, s39_4019⟩ rfl rfl rfl
noncomputable def e45 : Env := e44.add 16 (autoF e44 16)
theorem b45 : Base Tryz.prog e45 := b44.add (PureFn.auto b44.m b44.T b44.Q b44.P)
theorem s46_13 : S13li (autoF e45 14) := ev13li e45 rfl ⟨autoF e43 20, rfl, s44_4020⟩ ⟨autoF e40 17, rfl, s41_4017⟩ ⟨autoF e38 19, rfl, s39_4019⟩ rfl rfl rfl
noncomputable def e46 : Env := e45.add 14 (autoF e45 14)
theorem b46 : Base Tryz.prog e46 := b45.add (PureFn.auto b45.m b45.T b45.Q b45.P)
theorem s47_1016 : S1016li (autoF e46 10) := ev1016li e46 rfl ⟨autoF e40 17, rfl, s41_4017⟩ ⟨autoF e41 18, rfl, s42_4018⟩ ⟨autoF e38 19, rfl, s39_4019⟩ rfl rfl rfl
noncomputable def e47 : Env := e46.add 10 (autoF e46 10)
theorem b47 : Base Tryz.prog e47 := b46.add (PureFn.auto b46.m b46.T b46.Q b46.P)
theorem pu4006 : PureFn Tryz.prog E0 6 F1003 := (pbOf b47 (fun l hn n => ev4006 e47 rfl rfl ⟨autoF e46 10, rfl, s47_1016⟩ l hn n)).glob rfl
theorem pu4007 : PureFn Tryz.prog E0 7 F8x := (ptOf b47 (fun s n => ev4007 e47 rfl ⟨autoF e45 14, rfl, s46_13⟩ s n)).glob rfl
theorem pu4008 : PureFn Tryz.prog E0 8 F8x := (ptOf b47 (fun s n => ev4008 e47 rfl ⟨autoF e44 16, rfl, s45_9⟩ s n)).glob rfl

end Go.Ev
