/- A chain of entries: lines printed by a program of this work (chaina.py). -/
import Derived.Test.YtcjebcenbimcgaaGreatDoorDaq
import Derived.Test.YtcjebcenbimcgaaGreatDoorDap
import Derived.Test.YtcjebcenbimcgaaGreatDoorDat
set_option linter.unusedSimpArgs false
set_option linter.unusedVariables false
set_option maxRecDepth 4000
namespace Go.Ev
open Go.Proofs

noncomputable def e1 : Env := E0.add 146 F134
theorem b1 : Base Tryz.prog e1 := b0.add (p134 b0 rfl)
noncomputable def e2 : Env := e1.add 81 F123
theorem b2 : Base Tryz.prog e2 := b1.add (p123 b1 rfl rfl)
noncomputable def e3 : Env := e2.add 109 F81
theorem b3 : Base Tryz.prog e3 := b2.add (p81 b2 rfl rfl)
noncomputable def e4 : Env := e3.add 126 F97
theorem b4 : Base Tryz.prog e4 := b3.add (p97 b3 rfl)
noncomputable def e5 : Env := e4.add 58 F45
theorem b5 : Base Tryz.prog e5 := b4.add (p45 b4 rfl rfl)
noncomputable def e6 : Env := e5.add 57 F44
theorem b6 : Base Tryz.prog e6 := b5.add (p44 b5 rfl)
noncomputable def e7 : Env := e6.add 78 F78
theorem b7 : Base Tryz.prog e7 := b6.add (p78 b6 rfl)
noncomputable def e8 : Env := e7.add 41 F28
theorem b8 : Base Tryz.prog e8 := b7.add (p28 b7 rfl)
noncomputable def e9 : Env := e8.add 79 F52
theorem b9 : Base Tryz.prog e9 := b8.add (p52 b8 rfl)
noncomputable def e10 : Env := e9.add 46 F33
theorem b10 : Base Tryz.prog e10 := b9.add (p33 b9 rfl)
noncomputable def e11 : Env := e10.add 49 F36
theorem b11 : Base Tryz.prog e11 := b10.add (p36 b10 rfl)
noncomputable def e12 : Env := e11.add 80 F76
theorem b12 : Base Tryz.prog e12 := b11.add (p76 b11 rfl)
noncomputable def e13 : Env := e12.add 106 F77
theorem b13 : Base Tryz.prog e13 := b12.add (p77 b12 rfl rfl rfl)
noncomputable def e14 : Env := e13.add 51 F38
theorem b14 : Base Tryz.prog e14 := b13.add (p38 b13 rfl)
noncomputable def e15 : Env := e14.add 114 F85
theorem b15 : Base Tryz.prog e15 := b14.add (p85 b14 rfl)
noncomputable def e16 : Env := e15.add 128 F99
theorem b16 : Base Tryz.prog e16 := b15.add (p99 b15 rfl)
noncomputable def e17 : Env := e16.add 152 F127
theorem b17 : Base Tryz.prog e17 := b16.add (p127 b16 rfl spT0)
noncomputable def e18 : Env := e17.add 38 F25
theorem b18 : Base Tryz.prog e18 := b17.add (p25 e17 rfl)
noncomputable def e19 : Env := e18.add 105 F75
theorem b19 : Base Tryz.prog e19 := b18.add (p75 e18)
noncomputable def e20 : Env := e19.add 40 F27
theorem b20 : Base Tryz.prog e20 := b19.add (p27 b19 rfl)
noncomputable def e21 : Env := e20.add 39 F26
theorem b21 : Base Tryz.prog e21 := b20.add (p26 b20 rfl rfl)
theorem s22_46 : S46 (autoF e21 59) := ev46 e21 rfl
noncomputable def e22 : Env := e21.add 59 (autoF e21 59)
theorem b22 : Base Tryz.prog e22 := b21.add (PureFn.auto b21.m b21.T b21.Q b21.P)
theorem s23_35 : S35o (autoF e22 48) := ev35o e22 rfl
noncomputable def e23 : Env := e22.add 48 (autoF e22 48)
theorem b23 : Base Tryz.prog e23 := b22.add (PureFn.auto b22.m b22.T b22.Q b22.P)
theorem s24_43 : S43 (autoF e23 56) := ev43 e23 rfl
noncomputable def e24 : Env := e23.add 56 (autoF e23 56)
theorem b24 : Base Tryz.prog e24 := b23.add (PureFn.auto b23.m b23.T b23.Q b23.P)
theorem s25_15 : S15 (autoF e24 21) := ev15 e24 rfl ⟨autoF e23 56, rfl, s24_43⟩ rfl rfl ⟨autoF e21 59, rfl, s22_46⟩
noncomputable def e25 : Env := e24.add 21 (autoF e24 21)
theorem b25 : Base Tryz.prog e25 := b24.add (PureFn.auto b24.m b24.T b24.Q b24.P)
theorem s26_51 : S51 (autoF e25 64) := ev51 e25 rfl ⟨autoF e22 48, rfl, s23_35⟩ rfl
noncomputable def e26 : Env := e25.add 64 (autoF e25 64)
theorem b26 : Base Tryz.prog e26 := b25.add (PureFn.auto b25.m b25.T b25.Q b25.P)
theorem s27_17 : S17 (autoF e26 23) := ev17 e26 rfl ⟨autoF e24 21, rfl, s25_15⟩ ⟨autoF e23 56, rfl, s24_43⟩ ⟨autoF e25 64, rfl, s26_51⟩ rfl
noncomputable def e27 : Env := e26.add 23 (autoF e26 23)
theorem b27 : Base Tryz.prog e27 := b26.add (PureFn.auto b26.m b26.T b26.Q b26.P)
theorem s28_29 : S29c (autoF e27 42) := ev29c e27 rfl rfl rfl rfl
noncomputable def e28 : Env := e27.add 42 (autoF e27 42)
theorem b28 : Base Tryz.prog e28 := b27.add (PureFn.auto b27.m b27.T b27.Q b27.P)
theorem s29_31 : S31o (autoF e28 44) := ev31o e28 rfl rfl ⟨autoF e24 21, rfl, s25_15⟩
noncomputable def e29 : Env := e28.add 44 (autoF e28 44)
theorem b29 : Base Tryz.prog e29 := b28.add (PureFn.auto b28.m b28.T b28.Q b28.P)
theorem s30_14 : S14 (autoF e29 20) := ev14 e29 rfl rfl ⟨autoF e27 42, rfl, s28_29⟩ ⟨autoF e28 44, rfl, s29_31⟩
noncomputable def e30 : Env := e29.add 20 (autoF e29 20)
theorem b30 : Base Tryz.prog e30 := b29.add (PureFn.auto b29.m b29.T b29.Q b29.P)
theorem s31_125 : S125d (autoF e30 190) := ev125d e30 rfl
noncomputable def e31 : Env := e30.add 190 (autoF e30 190)
theorem b31 : Base Tryz.prog e31 := b30.add (PureFn.auto b30.m b30.T b30.Q b30.P)
theorem s32_91 : S91o (autoF e31 120) := ev91o e31 rfl ⟨autoF e30 190, rfl, s31_125⟩
noncomputable def e32 : Env := e31.add 120 (autoF e31 120)
theorem b32 : Base Tryz.prog e32 := b31.add (PureFn.auto b31.m b31.T b31.Q b31.P)
theorem s33_102 : SUn (autoF e32 131) := ev102 e32 rfl
noncomputable def e33 : Env := e32.add 131 (autoF e32 131)
theorem b33 : Base Tryz.prog e33 := b32.add (PureFn.auto b32.m b32.T b32.Q b32.P)
theorem s34_103 : SUn (autoF e33 132) := ev103 e33 rfl
noncomputable def e34 : Env := e33.add 132 (autoF e33 132)
theorem b34 : Base Tryz.prog e34 := b33.add (PureFn.auto b33.m b33.T b33.Q b33.P)
theorem s35_104 : SUn (autoF e34 133) := ev104 e34 rfl
noncomputable def e35 : Env := e34.add 133 (autoF e34 133)
theorem b35 : Base Tryz.prog e35 := b34.add (PureFn.auto b34.m b34.T b34.Q b34.P)
theorem s36_105 : SUn (autoF e35 134) := ev105 e35 rfl
noncomputable def e36 : Env := e35.add 134 (autoF e35 134)
theorem b36 : Base Tryz.prog e36 := b35.add (PureFn.auto b35.m b35.T b35.Q b35.P)
theorem s37_106 : SUn (autoF e36 135) := ev106 e36 rfl
noncomputable def e37 : Env := e36.add 135 (autoF e36 135)
theorem b37 : Base Tryz.prog e37 := b36.add (PureFn.auto b36.m b36.T b36.Q b36.P)
theorem s38_107 : SUn (autoF e37 136) := ev107 e37 rfl
noncomputable def e38 : Env := e37.add 136 (autoF e37 136)
theorem b38 : Base Tryz.prog e38 := b37.add (PureFn.auto b37.m b37.T b37.Q b37.P)
theorem s39_108 : SUn (autoF e38 137) := ev108 e38 rfl
noncomputable def e39 : Env := e38.add 137 (autoF e38 137)
theorem b39 : Base Tryz.prog e39 := b38.add (PureFn.auto b38.m b38.T b38.Q b38.P)
theorem s40_109 : SUn (autoF e39 138) := ev109 e39 rfl
noncomputable def e40 : Env := e39.add 138 (autoF e39 138)
theorem b40 : Base Tryz.prog e40 := b39.add (PureFn.auto b39.m b39.T b39.Q b39.P)
theorem s41_110 : SUn (autoF e40 139) := ev110 e40 rfl
noncomputable def e41 : Env := e40.add 139 (autoF e40 139)
theorem b41 : Base Tryz.prog e41 := b40.add (PureFn.auto b40.m b40.T b40.Q b40.P)
theorem s42_111 : SUn (autoF e41 140) := ev111 e41 rfl
noncomputable def e42 : Env := e41.add 140 (autoF e41 140)
theorem b42 : Base Tryz.prog e42 := b41.add (PureFn.auto b41.m b41.T b41.Q b41.P)
theorem s43_101 : S101 (autoF e42 130) := ev101 e42 rfl ⟨autoF e32 131, rfl, s33_102⟩ ⟨autoF e33 132, rfl, s34_103⟩ ⟨autoF e34 133, rfl, s35_104⟩ ⟨autoF e35 134, rfl, s36_105⟩ ⟨autoF e36 135, rfl, s37_106⟩ ⟨autoF e37 136, rfl, s38_107⟩ ⟨autoF e38 137, rfl, s39_108⟩ ⟨autoF e39 138, rfl, s40_109⟩ ⟨autoF e40 139, rfl, s41_110⟩ ⟨autoF e41 140, rfl, s42_111⟩
noncomputable def e43 : Env := e42.add 130 (autoF e42 130)
theorem b43 : Base Tryz.prog e43 := b42.add (PureFn.auto b42.m b42.T b42.Q b42.P)
theorem s44_50 : S50 (autoF e43 63) := ev50 e43 rfl ⟨autoF e42 130, rfl, s43_101⟩
noncomputable def e44 : Env := e43.add 63 (autoF e43 63)
theorem b44 : Base Tryz.prog e44 := b43.add (PureFn.auto b43.m b43.T b43.Q b43.P)
theorem s45_49 : S49 (autoF e44 62) := ev49 e44 rfl ⟨autoF e43 63, rfl, s44_50⟩
noncomputable def e45 : Env := e44.add 62 (autoF e44 62)
theorem b45 : Base Tryz.prog e45 := b44.add (PureFn.auto b44.m b44.T b44.Q b44.P)
theorem s46_100 : S100 (autoF e45 129) := ev100 e45 rfl rfl rfl rfl rfl rfl rfl rfl rfl rfl rfl ⟨autoF e31 120, rfl, s32_91⟩
noncomputable def e46 : Env := e45.add 129 (autoF e45 129)
theorem b46 : Base Tryz.prog e46 := b45.add (PureFn.auto b45.m b45.T b45.Q b45.P)
theorem s47_48 : S48 (autoF e46 61) := ev48 e46 rfl rfl rfl ⟨autoF e45 129, rfl, s46_100⟩
noncomputable def e47 : Env := e46.add 61 (autoF e46 61)
theorem b47 : Base Tryz.prog e47 := b46.add (PureFn.auto b46.m b46.T b46.Q b46.P)
theorem s48_47 : STr_si (autoF e47 60) := ev47 e47 rfl rfl ⟨autoF e46 61, rfl, s47_48⟩ ⟨autoF e44 62, rfl, s45_49⟩
noncomputable def e48 : Env := e47.add 60 (autoF e47 60)
theorem b48 : Base Tryz.prog e48 := b47.add (PureFn.auto b47.m b47.T b47.Q b47.P)
theorem s49_16 : SDoor_si (autoF e48 22) := ev16 e48 rfl rfl ⟨autoF e47 60, rfl, s48_47⟩
noncomputable def e49 : Env := e48.add 22 (autoF e48 22)
theorem b49 : Base Tryz.prog e49 := b48.add (PureFn.auto b48.m b48.T b48.Q b48.P)
theorem s50_9 : S9s (autoF e49 15) := ev9s e49 rfl ⟨autoF e29 20, rfl, s30_14⟩ ⟨autoF e26 23, rfl, s27_17⟩ ⟨autoF e48 22, rfl, s49_16⟩ rfl rfl rfl
noncomputable def e50 : Env := e49.add 15 (autoF e49 15)
theorem b50 : Base Tryz.prog e50 := b49.add (PureFn.auto b49.m b49.T b49.Q b49.P)
theorem s51_13 : S13s (autoF e50 19) := ev13s e50 rfl ⟨autoF e29 20, rfl, s30_14⟩ ⟨autoF e24 21, rfl, s25_15⟩ ⟨autoF e48 22, rfl, s49_16⟩ rfl rfl rfl
noncomputable def e51 : Env := e50.add 19 (autoF e50 19)
theorem b51 : Base Tryz.prog e51 := b50.add (PureFn.auto b50.m b50.T b50.Q b50.P)
theorem pu4 : PureFn Tryz.prog E0 4 F8x := (ptOf b51 (fun s n => ev4 e51 rfl ⟨autoF e50 19, rfl, s51_13⟩ s n)).glob rfl
theorem pu5 : PureFn Tryz.prog E0 5 F8x := (ptOf b51 (fun s n => ev5 e51 rfl ⟨autoF e49 15, rfl, s50_9⟩ s n)).glob rfl

end Go.Ev
