/- A chain of entries: lines printed by a program of this work (chaina.py). -/
import Derived.Test.YtkpjijiiegdcaaaGreatDoorMbb
import Derived.Test.YtkpjijiiegdcaaaGreatDoorMba
import Derived.Test.YtkpjijiiegdcaaaGreatDoorMbi
set_option linter.unusedSimpArgs false
set_option linter.unusedVariables false
set_option maxRecDepth 4000
namespace Go.Ev
open Go.Proofs

noncomputable def e1 : Env := E0.add 204 F134
theorem b1 : Base Tryz.prog e1 := b0.add (p134 b0 rfl)
noncomputable def e2 : Env := e1.add 188 F123
theorem b2 : Base Tryz.prog e2 := b1.add (p123 b1 rfl rfl)
noncomputable def e3 : Env := e2.add 54 F81
theorem b3 : Base Tryz.prog e3 := b2.add (p81 b2 rfl rfl)
noncomputable def e4 : Env := e3.add 60 F97
theorem b4 : Base Tryz.prog e4 := b3.add (p97 b3 rfl)
noncomputable def e5 : Env := e4.add 29 F45
theorem b5 : Base Tryz.prog e5 := b4.add (p45 b4 rfl rfl)
noncomputable def e6 : Env := e5.add 174 F78
theorem b6 : Base Tryz.prog e6 := b5.add (p78 b5 rfl)
noncomputable def e7 : Env := e6.add 41 F28
theorem b7 : Base Tryz.prog e7 := b6.add (p28 b6 rfl)
noncomputable def e8 : Env := e7.add 42 F52
theorem b8 : Base Tryz.prog e8 := b7.add (p52 b7 rfl)
noncomputable def e9 : Env := e8.add 196 F122
theorem b9 : Base Tryz.prog e9 := b8.add (p122 b8 rfl)
noncomputable def e10 : Env := e9.add 175 F79
theorem b10 : Base Tryz.prog e10 := b9.add (p79 b9 rfl rfl rfl rfl)
noncomputable def e11 : Env := e10.add 176 F80
theorem b11 : Base Tryz.prog e11 := b10.add (p80 b10 rfl rfl)
noncomputable def e12 : Env := e11.add 35 F33
theorem b12 : Base Tryz.prog e12 := b11.add (p33 b11 rfl)
noncomputable def e13 : Env := e12.add 61 F30
theorem b13 : Base Tryz.prog e13 := b12.add (p30 b12 rfl)
noncomputable def e14 : Env := e13.add 37 F38
theorem b14 : Base Tryz.prog e14 := b13.add (p38 b13 rfl)
noncomputable def e15 : Env := e14.add 26 F44
theorem b15 : Base Tryz.prog e15 := b14.add (p44 b14 rfl)
noncomputable def e16 : Env := e15.add 46 F55
theorem b16 : Base Tryz.prog e16 := b15.add (p55 b15 rfl)
noncomputable def e17 : Env := e16.add 58 F57
theorem b17 : Base Tryz.prog e17 := b16.add (p57 b16 rfl)
noncomputable def e18 : Env := e17.add 43 F76
theorem b18 : Base Tryz.prog e18 := b17.add (p76 b17 rfl)
noncomputable def e19 : Env := e18.add 44 F77
theorem b19 : Base Tryz.prog e19 := b18.add (p77 b18 rfl rfl rfl)
noncomputable def e20 : Env := e19.add 64 F85
theorem b20 : Base Tryz.prog e20 := b19.add (p85 b19 rfl)
noncomputable def e21 : Env := e20.add 63 F99
theorem b21 : Base Tryz.prog e21 := b20.add (p99 b20 rfl)
noncomputable def e22 : Env := e21.add 194 F127
theorem b22 : Base Tryz.prog e22 := b21.add (p127 b21 rfl spT0)
noncomputable def e23 : Env := e22.add 59 F1084
theorem b23 : Base Tryz.prog e23 := b22.add (p1084 b22 rfl)
noncomputable def e24 : Env := e23.add 55 F1080
theorem b24 : Base Tryz.prog e24 := b23.add (p1080 b23 rfl)
noncomputable def e25 : Env := e24.add 21 F1035
theorem b25 : Base Tryz.prog e25 := b24.add (p1035 b24 rfl rfl)
noncomputable def e26 : Env := e25.add 9 F1015
theorem b26 : Base Tryz.prog e26 := b25.add (p1015 b25 rfl rfl)
noncomputable def e27 : Env := e26.add 22 F25
theorem b27 : Base Tryz.prog e27 := b26.add (p25 e26 rfl)
noncomputable def e28 : Env := e27.add 57 F75
theorem b28 : Base Tryz.prog e28 := b27.add (p75 e27)
noncomputable def e29 : Env := e28.add 24 F27
theorem b29 : Base Tryz.prog e29 := b28.add (p27 b28 rfl)
noncomputable def e30 : Env := e29.add 23 F26
theorem b30 : Base Tryz.prog e30 := b29.add (p26 b29 rfl rfl)
theorem s31_135 : S135 (autoF e30 215) := ev135 e30 rfl
noncomputable def e31 : Env := e30.add 215 (autoF e30 215)
theorem b31 : Base Tryz.prog e31 := b30.add (PureFn.auto b30.m b30.T b30.Q b30.P)
theorem s32_125 : S125u (autoF e31 208) := ev125u e31 rfl ⟨autoF e30 215, rfl, s31_135⟩
noncomputable def e32 : Env := e31.add 208 (autoF e31 208)
theorem b32 : Base Tryz.prog e32 := b31.add (PureFn.auto b31.m b31.T b31.Q b31.P)
theorem s33_91 : S91 (autoF e32 195) := ev91 e32 rfl ⟨autoF e31 208, rfl, s32_125⟩
noncomputable def e33 : Env := e32.add 195 (autoF e32 195)
theorem b33 : Base Tryz.prog e33 := b32.add (PureFn.auto b32.m b32.T b32.Q b32.P)
theorem s34_46 : S46 (autoF e33 28) := ev46 e33 rfl
noncomputable def e34 : Env := e33.add 28 (autoF e33 28)
theorem b34 : Base Tryz.prog e34 := b33.add (PureFn.auto b33.m b33.T b33.Q b33.P)
theorem s35_3087 : S3087 (autoF e34 32) := ev3087 e34 rfl
noncomputable def e35 : Env := e34.add 32 (autoF e34 32)
theorem b35 : Base Tryz.prog e35 := b34.add (PureFn.auto b34.m b34.T b34.Q b34.P)
theorem s36_35 : S35o (autoF e35 34) := ev35o e35 rfl
noncomputable def e36 : Env := e35.add 34 (autoF e35 34)
theorem b36 : Base Tryz.prog e36 := b35.add (PureFn.auto b35.m b35.T b35.Q b35.P)
theorem s37_1114 : S1114m (autoF e36 33) := ev1114m e36 rfl
noncomputable def e37 : Env := e36.add 33 (autoF e36 33)
theorem b37 : Base Tryz.prog e37 := b36.add (PureFn.auto b36.m b36.T b36.Q b36.P)
theorem s38_4031 : S4031 (autoF e37 31) := ev4031 e37 rfl
noncomputable def e38 : Env := e37.add 31 (autoF e37 31)
theorem b38 : Base Tryz.prog e38 := b37.add (PureFn.auto b37.m b37.T b37.Q b37.P)
theorem s39_4027 : S4027 (autoF e38 27) := ev4027 e38 rfl rfl
noncomputable def e39 : Env := e38.add 27 (autoF e38 27)
theorem b39 : Base Tryz.prog e39 := b38.add (PureFn.auto b38.m b38.T b38.Q b38.P)
theorem s40_4030 : S4030 (autoF e39 30) := ev4030 e39 rfl rfl
noncomputable def e40 : Env := e39.add 30 (autoF e39 30)
theorem b40 : Base Tryz.prog e40 := b39.add (PureFn.auto b39.m b39.T b39.Q b39.P)
theorem s41_4025 : S4025 (autoF e40 25) := ev4025 e40 rfl ⟨autoF e37 31, rfl, s38_4031⟩ rfl rfl rfl
noncomputable def e41 : Env := e40.add 25 (autoF e40 25)
theorem b41 : Base Tryz.prog e41 := b40.add (PureFn.auto b40.m b40.T b40.Q b40.P)
theorem s42_4011 : S4011 (autoF e41 11) := ev4011 e41 rfl ⟨autoF e40 25, rfl, s41_4025⟩ ⟨autoF e38 27, rfl, s39_4027⟩ ⟨autoF e39 30, rfl, s40_4030⟩ rfl rfl ⟨autoF e33 28, rfl, s34_46⟩
noncomputable def e42 : Env := e41.add 11 (autoF e41 11)
theorem b42 : Base Tryz.prog e42 := b41.add (PureFn.auto b41.m b41.T b41.Q b41.P)
theorem s43_4012 : S4012 (autoF e42 12) := ev4012 e42 rfl ⟨autoF e40 25, rfl, s41_4025⟩ ⟨autoF e37 31, rfl, s38_4031⟩ ⟨autoF e34 32, rfl, s35_3087⟩ ⟨autoF e39 30, rfl, s40_4030⟩ ⟨autoF e36 33, rfl, s37_1114⟩ ⟨autoF e35 34, rfl, s36_35⟩ rfl
noncomputable def e43 : Env := e42.add 12 (autoF e42 12)
theorem b43 : Base Tryz.prog e43 := b42.add (PureFn.auto b42.m b42.T b42.Q b42.P)
theorem s44_31 : S31m (autoF e43 45) := ev31m e43 rfl rfl rfl rfl ⟨autoF e41 11, rfl, s42_4011⟩
noncomputable def e44 : Env := e43.add 45 (autoF e43 45)
theorem b44 : Base Tryz.prog e44 := b43.add (PureFn.auto b43.m b43.T b43.Q b43.P)
theorem s45_4015 : S4015 (autoF e44 15) := ev4015 e44 rfl rfl ⟨autoF e38 27, rfl, s39_4027⟩ ⟨autoF e37 31, rfl, s38_4031⟩ rfl rfl rfl ⟨autoF e43 45, rfl, s44_31⟩
noncomputable def e45 : Env := e44.add 15 (autoF e44 15)
theorem b45 : Base Tryz.prog e45 := b44.add (PureFn.auto b44.m b44.T b44.Q b44.P)
theorem s46_1145 : S1145 (autoF e45 67) := ev1145 e45 rfl (by kernel_rfl) (by kernel_rfl)
noncomputable def e46 : Env := e45.add 67 (autoF e45 67)
theorem b46 : Base Tryz.prog e46 := b45.add (PureFn.auto b45.m b45.T b45.Q b45.P)
theorem s47_4065 : S4065 (autoF e46 65) := ev4065 e46 rfl rfl rfl rfl rfl ⟨autoF e32 195, rfl, s33_91⟩ rfl rfl rfl
noncomputable def e47 : Env := e46.add 65 (autoF e46 65)
theorem b47 : Base Tryz.prog e47 := b46.add (PureFn.auto b46.m b46.T b46.Q b46.P)
theorem s48_4040 : S4040 (autoF e47 40) := ev4040 e47 rfl ⟨autoF e45 67, rfl, s46_1145⟩
noncomputable def e48 : Env := e47.add 40 (autoF e47 40)
theorem b48 : Base Tryz.prog e48 := b47.add (PureFn.auto b47.m b47.T b47.Q b47.P)
theorem s49_4039 : S4039 (autoF e48 39) := ev4039 e48 rfl ⟨autoF e47 40, rfl, s48_4040⟩
noncomputable def e49 : Env := e48.add 39 (autoF e48 39)
theorem b49 : Base Tryz.prog e49 := b48.add (PureFn.auto b48.m b48.T b48.Q b48.P)
theorem s50_4038 : S4038 (autoF e49 38) := ev4038 e49 rfl rfl rfl ⟨autoF e46 65, rfl, s47_4065⟩
noncomputable def e50 : Env := e49.add 38 (autoF e49 38)
theorem b50 : Base Tryz.prog e50 := b49.add (PureFn.auto b49.m b49.T b49.Q b49.P)
theorem s51_4036 : S4036 (autoF e50 36) := ev4036 e50 rfl rfl ⟨autoF e49 38, rfl, s50_4038⟩ ⟨autoF e48 39, rfl, s49_4039⟩
noncomputable def e51 : Env := e50.add 36 (autoF e50 36)
theorem b51 : Base Tryz.prog e51 := b50.add (PureFn.auto b50.m b50.T b50.Q b50.P)
theorem s52_4013 : S4013 (autoF e51 13) := ev4013 e51 rfl rfl ⟨autoF e50 36, rfl, s51_4036⟩
noncomputable def e52 : Env := e51.add 13 (autoF e51 13)
theorem b52 : Base Tryz.prog e52 := b51.add (PureFn.auto b51.m b51.T b51.Q b51.P)
theorem s53_9 : S9me (autoF e52 16) := ev9me e52 rfl ⟨autoF e44 15, rfl, s45_4015⟩ ⟨autoF e42 12, rfl, s43_4012⟩ ⟨autoF e51 13, rfl, s52_4013⟩ rfl rfl rfl
noncomputable def e53 : Env := e52.add 16 (autoF e52 16)
theorem b53 : Base Tryz.prog e53 := b52.add (PureFn.auto b52.m b52.T b52.Q b52.P)
theorem s54_13 : S13me (autoF e53 14) := ev13me e53 rfl ⟨autoF e44 15, rfl, s45_4015⟩ ⟨autoF e41 11, rfl, s42_4011⟩ ⟨autoF e51 13, rfl, s52_4013⟩ rfl rfl rfl
noncomputable def e54 : Env := e53.add 14 (autoF e53 14)
theorem b54 : Base Tryz.prog e54 := b53.add (PureFn.auto b53.m b53.T b53.Q b53.P)
theorem s55_1016 : S1016me (autoF e54 10) := ev1016me e54 rfl ⟨autoF e41 11, rfl, s42_4011⟩ ⟨autoF e42 12, rfl, s43_4012⟩ ⟨autoF e51 13, rfl, s52_4013⟩ rfl rfl rfl
noncomputable def e55 : Env := e54.add 10 (autoF e54 10)
theorem b55 : Base Tryz.prog e55 := b54.add (PureFn.auto b54.m b54.T b54.Q b54.P)
theorem pu4003 : PureFn Tryz.prog E0 3 F1003 := (pbOf b55 (fun l hn n => ev4003 e55 rfl rfl ⟨autoF e54 10, rfl, s55_1016⟩ l hn n)).glob rfl
theorem pu4004 : PureFn Tryz.prog E0 4 F8x := (ptOf b55 (fun s n => ev4004 e55 rfl ⟨autoF e53 14, rfl, s54_13⟩ s n)).glob rfl
theorem pu4005 : PureFn Tryz.prog E0 5 F8x := (ptOf b55 (fun s n => ev4005 e55 rfl ⟨autoF e52 16, rfl, s53_9⟩ s n)).glob rfl

end Go.Ev
