/- The seat's tables; the sanity check by evaluation; what the listed variables hold. -/
/- Environments entry by entry. -/
/- A chain of entries: lines printed by a program of this work (afiles.py). -/
import Derived.Test.YtnpkdihdpgfemaaGreatDoorCodesT
import Derived.Test.YtnpkdihdpgfemaaGreatDoorQA
import Derived.Test.YtnpkdihdpgfemaaGreatDoorQB
import Derived.Test.YtnpkdihdpgfemaaGreatDoorPA
import Derived.Laws.Externs
set_option linter.unusedSimpArgs false
set_option linter.unusedVariables false
namespace Go.Ev
open Go.Proofs

def codeTab : List (Nat × AFn) := [(22, c9), (20, c13), (36, c25), (37, c26), (38, c27), (64, c28), (52, c30), (43, c33), (57, c34), (59, c36), (45, c38), (55, c44), (85, c45), (65, c52), (51, c54), (53, c55), (54, c57), (42, c66), (81, c74), (124, c76), (66, c77), (98, c78), (108, c81), (56, c82), (88, c85), (90, c87), (91, c88), (93, c90), (136, c97), (101, c99), (131, c117), (132, c118), (133, c119), (134, c120), (135, c121), (99, c122), (126, c123), (163, c125), (92, c127), (96, c128), (148, c133), (111, c134), (171, c135), (95, c143), (160, c145), (139, c149), (170, c150), (150, c154), (175, c155), (179, c158), (184, c163), (185, c164), (193, c172), (195, c174), (3, c1003), (4, c1004), (5, c1005), (15, c1015), (16, c1016), (17, c1017), (18, c1018), (19, c1019), (21, c1021), (35, c1035), (39, c1039), (40, c1040), (41, c1041), (44, c1044), (46, c1046), (47, c1047), (48, c1048), (49, c1049), (50, c1050), (80, c1080), (83, c1083), (84, c1084), (97, c1097), (67, c31), (109, c79), (110, c80), (112, c46), (115, c35), (87, c84), (6, c1006), (7, c1007), (8, c1008), (9, c1009), (10, c1010), (11, c1011), (12, c1012), (13, c1013), (14, c1014), (23, c1023), (24, c1024), (25, c1025), (26, c1026), (27, c1027), (28, c1028), (29, c1029), (30, c1030), (31, c1031), (32, c1032), (33, c1033), (34, c1034), (58, c1058), (60, c1060), (61, c1061), (62, c1062), (63, c1063), (68, c1068), (69, c1069), (70, c1070), (71, c1071), (72, c1072), (73, c1073), (74, c1074), (75, c1075), (76, c1076), (77, c1077), (78, c1078), (79, c1079), (102, c1102), (103, c1103), (104, c1104), (105, c1105), (106, c1106), (107, c1107), (113, c1113), (114, c1114), (116, c1116), (118, c1118), (119, c1119), (120, c1120), (121, c1121), (122, c1122), (123, c1123), (125, c1125), (128, c1128), (129, c1129), (130, c1130), (141, c1141), (142, c1142), (143, c1143), (144, c1144), (145, c1145), (146, c1146), (155, c1155), (156, c1156), (157, c1157), (158, c1158), (159, c1159), (166, c1166), (167, c1167), (168, c91), (169, c1169), (172, c136), (174, c1174), (177, c1177)]

theorem codeTab_ok : ∀ p ∈ codeTab, codeOf Tryz.prog p.1 = some p.2 := by
  intro p hp
  simp only [codeTab, List.mem_cons, List.not_mem_nil, or_false] at hp
  rcases hp with rfl | rfl | rfl | rfl | rfl | rfl | rfl | rfl | rfl | rfl | rfl | rfl | rfl | rfl | rfl | rfl | rfl | rfl | rfl | rfl | rfl | rfl | rfl | rfl | rfl | rfl | rfl | rfl | rfl | rfl | rfl | rfl | rfl | rfl | rfl | rfl | rfl | rfl | rfl | rfl | rfl | rfl | rfl | rfl | rfl | rfl | rfl | rfl | rfl | rfl | rfl | rfl | rfl | rfl | rfl | rfl | rfl | rfl | rfl | rfl | rfl | rfl | rfl | rfl | rfl | rfl | rfl | rfl | rfl | rfl | rfl | rfl | rfl | rfl | rfl | rfl | rfl | rfl | rfl | rfl | rfl | rfl | rfl | rfl | rfl | rfl | rfl | rfl | rfl | rfl | rfl | rfl | rfl | rfl | rfl | rfl | rfl | rfl | rfl | rfl | rfl | rfl | rfl | rfl | rfl | rfl | rfl | rfl | rfl | rfl | rfl | rfl | rfl | rfl | rfl | rfl | rfl | rfl | rfl | rfl | rfl | rfl | rfl | rfl | rfl | rfl | rfl | rfl | rfl | rfl | rfl | rfl | rfl | rfl | rfl | rfl | rfl | rfl | rfl | rfl | rfl | rfl | rfl | rfl | rfl | rfl | rfl | rfl | rfl | rfl | rfl | rfl | rfl | rfl | rfl | rfl | rfl | rfl
  · exact code9
  · exact code13
  · exact code25
  · exact code26
  · exact code27
  · exact code28
  · exact code30
  · exact code33
  · exact code34
  · exact code36
  · exact code38
  · exact code44
  · exact code45
  · exact code52
  · exact code54
  · exact code55
  · exact code57
  · exact code66
  · exact code74
  · exact code76
  · exact code77
  · exact code78
  · exact code81
  · exact code82
  · exact code85
  · exact code87
  · exact code88
  · exact code90
  · exact code97
  · exact code99
  · exact code117
  · exact code118
  · exact code119
  · exact code120
  · exact code121
  · exact code122
  · exact code123
  · exact code125
  · exact code127
  · exact code128
  · exact code133
  · exact code134
  · exact code135
  · exact code143
  · exact code145
  · exact code149
  · exact code150
  · exact code154
  · exact code155
  · exact code158
  · exact code163
  · exact code164
  · exact code172
  · exact code174
  · exact code1003
  · exact code1004
  · exact code1005
  · exact code1015
  · exact code1016
  · exact code1017
  · exact code1018
  · exact code1019
  · exact code1021
  · exact code1035
  · exact code1039
  · exact code1040
  · exact code1041
  · exact code1044
  · exact code1046
  · exact code1047
  · exact code1048
  · exact code1049
  · exact code1050
  · exact code1080
  · exact code1083
  · exact code1084
  · exact code1097
  · exact code31
  · exact code79
  · exact code80
  · exact code46
  · exact code35
  · exact code84
  · exact code1006
  · exact code1007
  · exact code1008
  · exact code1009
  · exact code1010
  · exact code1011
  · exact code1012
  · exact code1013
  · exact code1014
  · exact code1023
  · exact code1024
  · exact code1025
  · exact code1026
  · exact code1027
  · exact code1028
  · exact code1029
  · exact code1030
  · exact code1031
  · exact code1032
  · exact code1033
  · exact code1034
  · exact code1058
  · exact code1060
  · exact code1061
  · exact code1062
  · exact code1063
  · exact code1068
  · exact code1069
  · exact code1070
  · exact code1071
  · exact code1072
  · exact code1073
  · exact code1074
  · exact code1075
  · exact code1076
  · exact code1077
  · exact code1078
  · exact code1079
  · exact code1102
  · exact code1103
  · exact code1104
  · exact code1105
  · exact code1106
  · exact code1107
  · exact code1113
  · exact code1114
  · exact code1116
  · exact code1118
  · exact code1119
  · exact code1120
  · exact code1121
  · exact code1122
  · exact code1123
  · exact code1125
  · exact code1128
  · exact code1129
  · exact code1130
  · exact code1141
  · exact code1142
  · exact code1143
  · exact code1144
  · exact code1145
  · exact code1146
  · exact code1155
  · exact code1156
  · exact code1157
  · exact code1158
  · exact code1159
  · exact code1166
  · exact code1167
  · exact code91
  · exact code1169
  · exact code136
  · exact code1174
  · exact code1177

def codeFn (f : Nat) : Option AFn := codeTab.lookup f

theorem codeFn_ok (f : Nat) (fn : AFn) (h : codeFn f = some fn) : codeOf Tryz.prog f = some fn := by
  unfold codeFn at h
  have key : ∀ (l : List (Nat × AFn)), l.lookup f = some fn → (f, fn) ∈ l := by
    intro l
    induction l with
    | nil => intro h; simp at h
    | cons p l ih =>
      obtain ⟨g, x⟩ := p
      intro h
      simp only [List.lookup] at h
      split at h
      · rename_i e
        have e' : f = g := by simpa using e
        simp only [Option.some.injEq] at h
        subst h; subst e'
        simp
      · simp [ih h]
  exact codeTab_ok (f, fn) (key _ h)

def lvl (E : Env) (L : List Nat) (N : Nat) : Nat → Env
  | 0 => E
  | k + 1 => { E with pure := fun f => if L.contains f then some (fun vs => evP (lvl E L N k) N f vs) else E.pure f }

theorem lvl_same (E : Env) (L : List Nat) (N : Nat) : ∀ k, (lvl E L N k).glob = E.glob ∧ (lvl E L N k).code = E.code ∧ (lvl E L N k).quiet = E.quiet
  | 0 => ⟨rfl, rfl, rfl⟩
  | _ + 1 => ⟨rfl, rfl, rfl⟩

theorem lvl_ok {P : Program} {E : Env} (hm : P.follows .mixedOrders = true) (hT : CodeT P E) (hQ : QuietOK P E) (hP : PureOK P E) (L : List Nat) (N : Nat) : ∀ k, PureOK P (lvl E L N k)
  | 0 => hP
  | k + 1 => by
    obtain ⟨h1, h2, h3⟩ := lvl_same E L N k
    refine ⟨fun f F hf => ?_, fun f k hf => ?_⟩
    rotate_left
    · exact hP.2 f _ hf
    simp only [lvl] at hf
    split at hf
    · simp only [Option.some.injEq] at hf
      subst hf
      have hT' : CodeT P (lvl E L N k) := by intro g fn hg; rw [h2] at hg; exact hT g fn hg
      have hQ' : QuietOK P (lvl E L N k) := by intro g hg; rw [h3] at hg; exact hQ g hg
      exact (evP_ok hm hT' hQ' (lvl_ok hm hT hQ hP L N k) N f).glob h1.symm
    · exact (hP.1 f F hf).glob rfl

def unlit : DataW Unit → Lit
  | .lit l => l
  | _ => .nil

/-- A laid datum's plain values. -/
def lits : DataW Unit → List Lit
  | .agg l => l.map unlit
  | .slice l _ => l.map unlit
  | d => [unlit d]

/-- The cells of a variable that is laid. -/
def svD (d : DataW Unit) : List SV := match d with
  | .slice _ _ => [.sl ((lits d).map litS)]
  | d => (lits d).map litS

def globT (f : Nat) : List SV := match f with
  | 1 => svD YtnpkdihdpgfemaaGreatDoor.Rows.laid_strings_asciiSpace
  | 5 => svD YtnpkdihdpgfemaaGreatDoor.Rows.laid_internal_strconv_float32info
  | 6 => svD YtnpkdihdpgfemaaGreatDoor.Rows.laid_internal_strconv_optimize
  | 7 => svD YtnpkdihdpgfemaaGreatDoor.Rows.laid_internal_strconv_float64info
  | 8 => svD YtnpkdihdpgfemaaGreatDoor.Rows.laid_internal_strconv_uint64pow10
  | 11 => svD YtnpkdihdpgfemaaGreatDoor.Rows.laid_internal_strconv_float64pow10
  | _ => []

def E0 : Env := { glob := globT, pure := fun _ => none, code := codeFn, quiet := quietT, look := fun f => if f = 96 then some 3 else none }

def livesL : List Nat := [45, 88, 101, 148, 92, 160, 170, 175, 179, 184, 185, 171, 193, 195, 134, 135, 133, 132]

set_option maxRecDepth 100000 in
theorem lives_ev : evP (lvl E0 livesL 200 12) 200 36 [] = some (.sv (.bool true)) := by kernel_rfl

theorem follows : Tryz.prog.follows .mixedOrders = true := by kernel_rfl

theorem look0 : LookOK Tryz.prog E0 := by
  intro f k h b w u hu us hs h0
  have h' : (if f = 96 then some 3 else none) = some k := h
  split at h' <;> simp only [Option.some.injEq, reduceCtorEq] at h'
  rename_i e
  subst e; subst h'
  exact .inr ⟨96, us, by simp [callFunc, Tryz.func96, show (Tryz.f96.name == "runtime.NumGoroutine") = false by kernel_rfl, show Tryz.f96.name ≠ "runtime.NumGoroutine" from of_decide_eq_true (by kernel_rfl), Tryz.f96], (lookErr b w u hu us hs h0).mono fun e w' h => h⟩

theorem b0 : Base Tryz.prog E0 := ⟨follows, codeT_of codeFn_ok, quiet_ok E0 rfl, And.intro (fun f F h => by cases h) look0⟩

theorem p25 (E : Env) (hE : E.glob = globT) : PureFn Tryz.prog E 36 F25 := by
  have h : PureFn Tryz.prog (lvl E0 livesL 200 12) 36 (evP (lvl E0 livesL 200 12) 200 36) := by
    obtain ⟨h1, h2, h3⟩ := lvl_same E0 livesL 200 12
    exact evP_ok follows (fun g fn hg => b0.T g fn (by rw [h2] at hg; exact hg)) (fun g hg => b0.Q g (by rw [h3] at hg; exact hg)) (lvl_ok follows b0.T b0.Q b0.P livesL 200 12) 200 36
  refine (h.glob (E' := E) (by rw [hE, (lvl_same E0 livesL 200 12).1]; rfl)).mono fun vs r hr => ?_
  unfold F25 at hr
  split at hr
  · rw [lives_ev]; exact hr
  · cases hr

theorem p75 (E : Env) : PureFn Tryz.prog E 82 F75 := by
  intro vs r hF F0 w us hG hw hs hr
  unfold F75 at hF
  split at hF
  · rename_i b
    simp only [Option.some.injEq] at hF; subst hF
    have h0 := hr 0 (.flt .f64 b) rfl
    have hsz : us.size = 1 := by simpa using hs
    obtain ⟨l⟩ := us
    match l, hsz with
    | [u], _ =>
      have hu : u = .float .f64 b := by
        have : RepS F0 (.flt .f64 b) u := by simpa using h0
        cases this; rfl
      subst hu
      refine .inl ⟨.int .u64 b, w, ?_, ⟨F0, [], fun _ => none⟩, ⟨rfl, rfl, rfl, Nat.le_refl _, fun _ _ => rfl, fun _ _ _ h => h, fun _ _ _ _ h => h, hw, rfl, fun _ _ => rfl, fun _ _ _ h => by cases h⟩, .sv _ _ _ (.int _ _)⟩
      rw [run_callFunc_extern Tryz.func82 (by kernel_rfl) (by kernel_rfl) (by kernel_rfl) (e := Extern.MathFloatBits.float64bits) (by kernel_rfl)]
      rfl
  · cases hF

def spCheck (l : List SV) : Bool := (List.range 128).all fun k => match l[k]? with
  | some (.int .u8 n) => n == ((if (decide (9 ≤ k) && decide (k ≤ 13)) || k == 32 then 1 else 0 : Nat) : Int)
  | _ => false

theorem spCheck_ok : spCheck (globT 1) = true := by kernel_rfl

theorem spT0 : SpT E0 := by
  intro c hc
  have h := List.all_eq_true.1 spCheck_ok c.toNat (List.mem_range.2 hc)
  show (globT 1).drop c.toNat = _
  have hl : c.toNat < (globT 1).length := by
    refine Decidable.byContradiction fun hn => ?_
    rw [List.getElem?_eq_none (by omega)] at h
    cases h
  rw [List.drop_eq_getElem_cons hl]
  congr 1
  rw [List.getElem?_eq_getElem hl] at h
  split at h
  · rename_i n hx
    simp only [Option.some.injEq] at hx
    rw [hx]
    have : n = (spV c : Nat) := by
      simp only [beq_iff_eq] at h
      rw [h]; unfold spV spC; rfl
    rw [this]
  · cases h

end Go.Ev

set_option linter.unusedSimpArgs false
set_option linter.unusedVariables false
namespace Go.Ev
open Go.Proofs

theorem Base.add {P : Program} {E : Env} (B : Base P E) {f : Nat} {F : List SV → Option AV} (hF : PureFn P E f F) : Base P (E.add f F) := ⟨B.m, fun g fn h => B.T g fn h, fun g h => B.Q g h, B.P.add hF⟩

theorem p27 {P : Program} {E : Env} (B : Base P E) (h : E.code 38 = some c27) : PureFn P E 38 F27 := pure27 B.m B.T B.Q B.P h
theorem p26 {P : Program} {E : Env} (B : Base P E) (h : E.code 37 = some c26) (h75 : E.pure 82 = some F75) : PureFn P E 37 F26 := pure26 B.m B.T B.Q B.P h h75

end Go.Ev

set_option linter.unusedSimpArgs false
set_option linter.unusedVariables false
namespace Go.Ev
open Go.Proofs

noncomputable def e1 : Env := E0.add 111 F134
theorem b1 : Base Tryz.prog e1 := b0.add (p134 b0 rfl)
noncomputable def e2 : Env := e1.add 126 F123
theorem b2 : Base Tryz.prog e2 := b1.add (p123 b1 rfl rfl)
noncomputable def e3 : Env := e2.add 108 F81
theorem b3 : Base Tryz.prog e3 := b2.add (p81 b2 rfl rfl)
noncomputable def e4 : Env := e3.add 136 F97
theorem b4 : Base Tryz.prog e4 := b3.add (p97 b3 rfl)
noncomputable def e5 : Env := e4.add 85 F45
theorem b5 : Base Tryz.prog e5 := b4.add (p45 b4 rfl rfl)
noncomputable def e6 : Env := e5.add 98 F78
theorem b6 : Base Tryz.prog e6 := b5.add (p78 b5 rfl)
noncomputable def e7 : Env := e6.add 64 F28
theorem b7 : Base Tryz.prog e7 := b6.add (p28 b6 rfl)
noncomputable def e8 : Env := e7.add 65 F52
theorem b8 : Base Tryz.prog e8 := b7.add (p52 b7 rfl)
noncomputable def e9 : Env := e8.add 43 F33
theorem b9 : Base Tryz.prog e9 := b8.add (p33 b8 rfl)
noncomputable def e10 : Env := e9.add 42 F66
theorem b10 : Base Tryz.prog e10 := b9.add (p66 b9 rfl)
noncomputable def e11 : Env := e10.add 45 F38
theorem b11 : Base Tryz.prog e11 := b10.add (p38 b10 rfl)
noncomputable def e12 : Env := e11.add 88 F85
theorem b12 : Base Tryz.prog e12 := b11.add (p85 b11 rfl)
noncomputable def e13 : Env := e12.add 92 F127
theorem b13 : Base Tryz.prog e13 := b12.add (p127 b12 rfl spT0)
noncomputable def e14 : Env := e13.add 139 F149
theorem b14 : Base Tryz.prog e14 := b13.add (p149 b13 rfl)
noncomputable def e15 : Env := e14.add 95 F143
theorem b15 : Base Tryz.prog e15 := b14.add (p143 b14 rfl rfl)
noncomputable def e16 : Env := e15.add 55 F44
theorem b16 : Base Tryz.prog e16 := b15.add (p44 b15 rfl)
noncomputable def e17 : Env := e16.add 97 F77
theorem b17 : Base Tryz.prog e17 := b16.add (p1097 b16 rfl rfl rfl)
noncomputable def e18 : Env := e17.add 41 F1041
theorem b18 : Base Tryz.prog e18 := b17.add (p1041 b17 rfl)
noncomputable def e19 : Env := e18.add 83 F1083
theorem b19 : Base Tryz.prog e19 := b18.add (p1083 b18 rfl)
noncomputable def e20 : Env := e19.add 84 F1084
theorem b20 : Base Tryz.prog e20 := b19.add (p1084 b19 rfl)
noncomputable def e21 : Env := e20.add 39 F1039
theorem b21 : Base Tryz.prog e21 := b20.add (p1039 b20 rfl rfl rfl rfl)
noncomputable def e22 : Env := e21.add 50 F1050
theorem b22 : Base Tryz.prog e22 := b21.add (p1050 b21 rfl)
noncomputable def e23 : Env := e22.add 49 F1049
theorem b23 : Base Tryz.prog e23 := b22.add (p1049 b22 rfl rfl rfl rfl rfl)
noncomputable def e24 : Env := e23.add 21 F1021
theorem b24 : Base Tryz.prog e24 := b23.add (p1021 b23 rfl rfl rfl rfl)
noncomputable def e25 : Env := e24.add 18 F1018
theorem b25 : Base Tryz.prog e25 := b24.add (p1018 b24 rfl rfl rfl rfl rfl)
noncomputable def e26 : Env := e25.add 40 F1040
theorem b26 : Base Tryz.prog e26 := b25.add (p1040 b25 rfl rfl rfl)
noncomputable def e27 : Env := e26.add 17 F1017
theorem b27 : Base Tryz.prog e27 := b26.add (p1017 b26 rfl rfl rfl)
noncomputable def e28 : Env := e27.add 87 F84
theorem b28 : Base Tryz.prog e28 := b27.add (p84 b27 rfl)
noncomputable def e29 : Env := e28.add 46 F1046
theorem b29 : Base Tryz.prog e29 := b28.add (p1046 b28 rfl rfl rfl rfl rfl rfl rfl rfl rfl rfl rfl rfl rfl rfl)
noncomputable def e30 : Env := e29.add 48 F1048
theorem b30 : Base Tryz.prog e30 := b29.add (p1048 b29 rfl)
noncomputable def e31 : Env := e30.add 47 F1047
theorem b31 : Base Tryz.prog e31 := b30.add (p1047 b30 rfl rfl)
noncomputable def e32 : Env := e31.add 44 F1044
theorem b32 : Base Tryz.prog e32 := b31.add (p1044 b31 rfl rfl rfl rfl)
noncomputable def e33 : Env := e32.add 19 F1019
theorem b33 : Base Tryz.prog e33 := b32.add (p1019 b32 rfl rfl rfl)
noncomputable def e34 : Env := e33.add 36 F25
theorem b34 : Base Tryz.prog e34 := b33.add (p25 e33 rfl)
noncomputable def e35 : Env := e34.add 82 F75
theorem b35 : Base Tryz.prog e35 := b34.add (p75 e34)
noncomputable def e36 : Env := e35.add 38 F27
theorem b36 : Base Tryz.prog e36 := b35.add (p27 b35 rfl)
noncomputable def e37 : Env := e36.add 37 F26
theorem b37 : Base Tryz.prog e37 := b36.add (p26 b36 rfl rfl)
noncomputable def e38 : Env := e37.add 22 F9xf
theorem b38 : Base Tryz.prog e38 := b37.add (p9xf b37 rfl rfl rfl rfl rfl rfl rfl)
noncomputable def e39 : Env := e38.add 20 F13xf
theorem b39 : Base Tryz.prog e39 := b38.add (p13xf b38 rfl rfl rfl rfl rfl rfl rfl)
noncomputable def e40 : Env := e39.add 80 F1080
theorem b40 : Base Tryz.prog e40 := b39.add (p1080 b39 rfl)
noncomputable def e41 : Env := e40.add 35 F1035
theorem b41 : Base Tryz.prog e41 := b40.add (p1035 b40 rfl rfl)
noncomputable def e42 : Env := e41.add 15 F1015
theorem b42 : Base Tryz.prog e42 := b41.add (p1015 b41 rfl rfl)
noncomputable def e43 : Env := e42.add 16 F1016
theorem b43 : Base Tryz.prog e43 := b42.add (p1016 b42 rfl rfl rfl rfl rfl rfl rfl)

end Go.Ev
