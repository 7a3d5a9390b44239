/- The seat's tables; the sanity check by evaluation; what the listed variables hold. -/
/- Environments entry by entry. -/
/- A chain of entries: lines printed by a program of this work (chaina.py). -/
import Derived.Test.YtnpkdihdpgfemaaGreatDoorCodesT
import Derived.Test.YtnpkdihdpgfemaaGreatDoorQA
import Derived.Test.YtnpkdihdpgfemaaGreatDoorQB
import Derived.Test.YtnpkdihdpgfemaaGreatDoorPA
import Derived.Laws.Externs
import Derived.Test.YtnpkdihdpgfemaaGreatDoorLB
set_option linter.unusedSimpArgs false
set_option linter.unusedVariables false
namespace Go.Ev
open Go.Proofs

def codeTab : List (Nat × AFn) := [(22, c9), (20, c13), (36, c25), (37, c26), (38, c27), (64, c28), (52, c30), (43, c33), (57, c34), (59, c36), (45, c38), (55, c44), (85, c45), (65, c52), (51, c54), (53, c55), (54, c57), (42, c66), (81, c74), (124, c76), (66, c77), (98, c78), (108, c81), (56, c82), (88, c85), (90, c87), (91, c88), (93, c90), (136, c97), (101, c99), (131, c117), (132, c118), (133, c119), (134, c120), (135, c121), (99, c122), (126, c123), (163, c125), (92, c127), (96, c128), (148, c133), (111, c134), (171, c135), (95, c143), (160, c145), (139, c149), (170, c150), (150, c154), (175, c155), (179, c158), (184, c163), (185, c164), (193, c172), (195, c174), (15, c1015), (16, c1016), (35, c1035), (50, c1050), (80, c1080), (83, c1083), (97, c1097), (112, c46), (115, c35), (87, c84), (9, c1009), (10, c1010), (11, c1011), (12, c1012), (13, c1013), (14, c1014), (27, c1027), (28, c1028), (29, c1029), (30, c1030), (31, c1031), (32, c1032), (33, c1033), (34, c1034), (68, c1068), (69, c1069), (70, c1070), (71, c1071), (72, c1072), (73, c1073), (74, c1074), (75, c1075), (76, c1076), (77, c1077), (78, c1078), (79, c1079), (113, c1113), (114, c1114), (116, c1116), (118, c1118), (119, c1119), (120, c1120), (121, c1121), (122, c1122), (123, c1123), (125, c1125), (128, c1128), (129, c1129), (130, c1130), (143, c1143), (144, c1144), (145, c1145), (146, c1146), (157, c1157), (159, c1159), (166, c1166), (168, c91), (169, c1169), (174, c1174), (177, c1177)]

theorem codeTab_ok : ∀ p ∈ codeTab, codeOf Tryz.prog p.1 = some p.2 := by
  intro p hp
  simp only [codeTab, List.mem_cons, List.not_mem_nil, or_false] at hp
  rcases hp with rfl | rfl | rfl | rfl | rfl | rfl | rfl | rfl | rfl | rfl | rfl | rfl | rfl | rfl | rfl | rfl | rfl | rfl | rfl | rfl | rfl | rfl | rfl | rfl | rfl | rfl | rfl | rfl | rfl | rfl | rfl | rfl | rfl | rfl | rfl | rfl | rfl | rfl | rfl | rfl | rfl | rfl | rfl | rfl | rfl | rfl | rfl | rfl | rfl | rfl | rfl | rfl | rfl | rfl | rfl | rfl | rfl | rfl | rfl | rfl | rfl | rfl | rfl | rfl | rfl | rfl | rfl | rfl | rfl | rfl | rfl | rfl | rfl | rfl | rfl | rfl | rfl | rfl | rfl | rfl | rfl | rfl | rfl | rfl | rfl | rfl | rfl | rfl | rfl | rfl | rfl | rfl | rfl | rfl | rfl | rfl | rfl | rfl | rfl | rfl | rfl | rfl | rfl | rfl | rfl | rfl | rfl | rfl | rfl | rfl | rfl | rfl | rfl | rfl
  · exact code9
  · exact code13
  · exact code25
  · exact code26
  · exact code27
  · exact code28
  · exact code30
  · exact code33
  · exact code34
  · exact code36
  · exact code38
  · exact code44
  · exact code45
  · exact code52
  · exact code54
  · exact code55
  · exact code57
  · exact code66
  · exact code74
  · exact code76
  · exact code77
  · exact code78
  · exact code81
  · exact code82
  · exact code85
  · exact code87
  · exact code88
  · exact code90
  · exact code97
  · exact code99
  · exact code117
  · exact code118
  · exact code119
  · exact code120
  · exact code121
  · exact code122
  · exact code123
  · exact code125
  · exact code127
  · exact code128
  · exact code133
  · exact code134
  · exact code135
  · exact code143
  · exact code145
  · exact code149
  · exact code150
  · exact code154
  · exact code155
  · exact code158
  · exact code163
  · exact code164
  · exact code172
  · exact code174
  · exact code1015
  · exact code1016
  · exact code1035
  · exact code1050
  · exact code1080
  · exact code1083
  · exact code1097
  · exact code46
  · exact code35
  · exact code84
  · exact code1009
  · exact code1010
  · exact code1011
  · exact code1012
  · exact code1013
  · exact code1014
  · exact code1027
  · exact code1028
  · exact code1029
  · exact code1030
  · exact code1031
  · exact code1032
  · exact code1033
  · exact code1034
  · exact code1068
  · exact code1069
  · exact code1070
  · exact code1071
  · exact code1072
  · exact code1073
  · exact code1074
  · exact code1075
  · exact code1076
  · exact code1077
  · exact code1078
  · exact code1079
  · exact code1113
  · exact code1114
  · exact code1116
  · exact code1118
  · exact code1119
  · exact code1120
  · exact code1121
  · exact code1122
  · exact code1123
  · exact code1125
  · exact code1128
  · exact code1129
  · exact code1130
  · exact code1143
  · exact code1144
  · exact code1145
  · exact code1146
  · exact code1157
  · exact code1159
  · exact code1166
  · exact code91
  · exact code1169
  · exact code1174
  · exact code1177

def codeFn (f : Nat) : Option AFn := codeTab.lookup f

theorem codeFn_ok (f : Nat) (fn : AFn) (h : codeFn f = some fn) : codeOf Tryz.prog f = some fn := by
  unfold codeFn at h
  have key : ∀ (l : List (Nat × AFn)), l.lookup f = some fn → (f, fn) ∈ l := by
    intro l
    induction l with
    | nil => intro h; simp at h
    | cons p l ih =>
      obtain ⟨g, x⟩ := p
      intro h
      simp only [List.lookup] at h
      split at h
      · rename_i e
        have e' : f = g := by simpa using e
        simp only [Option.some.injEq] at h
        subst h; subst e'
        simp
      · simp [ih h]
  exact codeTab_ok (f, fn) (key _ h)

def lvl (E : Env) (L : List Nat) (N : Nat) : Nat → Env
  | 0 => E
  | k + 1 => { E with pure := fun f => if L.contains f then some (fun vs => evP (lvl E L N k) N f vs) else E.pure f }

theorem lvl_same (E : Env) (L : List Nat) (N : Nat) : ∀ k, (lvl E L N k).glob = E.glob ∧ (lvl E L N k).code = E.code ∧ (lvl E L N k).quiet = E.quiet
  | 0 => ⟨rfl, rfl, rfl⟩
  | _ + 1 => ⟨rfl, rfl, rfl⟩

theorem lvl_ok {P : Program} {E : Env} (hm : P.follows .mixedOrders = true) (hT : CodeT P E) (hQ : QuietOK P E) (hP : PureOK P E) (L : List Nat) (N : Nat) : ∀ k, PureOK P (lvl E L N k)
  | 0 => hP
  | k + 1 => by
    obtain ⟨h1, h2, h3⟩ := lvl_same E L N k
    refine ⟨fun f F hf => ?_, fun f k hf => ?_⟩
    rotate_left
    · exact hP.2 f _ hf
    simp only [lvl] at hf
    split at hf
    · simp only [Option.some.injEq] at hf
      subst hf
      have hT' : CodeT P (lvl E L N k) := by intro g fn hg; rw [h2] at hg; exact hT g fn hg
      have hQ' : QuietOK P (lvl E L N k) := by intro g hg; rw [h3] at hg; exact hQ g hg
      exact (evP_ok hm hT' hQ' (lvl_ok hm hT hQ hP L N k) N f).glob h1.symm
    · exact (hP.1 f F hf).glob rfl

def unlit : DataW Unit → Lit
  | .lit l => l
  | _ => .nil

/-- A laid datum's plain values. -/
def lits : DataW Unit → List Lit
  | .agg l => l.map unlit
  | .slice l _ => l.map unlit
  | d => [unlit d]

/-- The cells of a variable that is laid. -/
def svD (d : DataW Unit) : List SV := match d with
  | .slice _ _ => [.sl ((lits d).map litS)]
  | d => (lits d).map litS

def globT (f : Nat) : List SV := match f with
  | 1 => svD YtnpkdihdpgfemaaGreatDoor.Rows.laid_strings_asciiSpace
  | 5 => svD YtnpkdihdpgfemaaGreatDoor.Rows.laid_internal_strconv_float32info
  | 6 => svD YtnpkdihdpgfemaaGreatDoor.Rows.laid_internal_strconv_optimize
  | 7 => svD YtnpkdihdpgfemaaGreatDoor.Rows.laid_internal_strconv_float64info
  | 8 => svD YtnpkdihdpgfemaaGreatDoor.Rows.laid_internal_strconv_uint64pow10
  | 11 => svD YtnpkdihdpgfemaaGreatDoor.Rows.laid_internal_strconv_float64pow10
  | _ => []

def E0 : Env := { glob := globT, pure := fun _ => none, code := codeFn, quiet := quietT, look := fun f => if f = 96 then some 3 else none }

def livesL : List Nat := [45, 88, 101, 148, 92, 160, 170, 175, 179, 184, 185, 171, 193, 195, 134, 135, 133, 132]

set_option maxRecDepth 100000 in
theorem lives_ev : evP (lvl E0 livesL 200 12) 200 36 [] = some (.sv (.bool true)) := by kernel_rfl

theorem follows : Tryz.prog.follows .mixedOrders = true := by kernel_rfl

theorem look0 : LookOK Tryz.prog E0 := by
  intro f k h b w u hu us hs h0
  have h' : (if f = 96 then some 3 else none) = some k := h
  split at h' <;> simp only [Option.some.injEq, reduceCtorEq] at h'
  rename_i e
  subst e; subst h'
  exact .inr ⟨96, us, by simp [callFunc, Tryz.func96, show (Tryz.f96.name == "runtime.NumGoroutine") = false by kernel_rfl, show Tryz.f96.name ≠ "runtime.NumGoroutine" from of_decide_eq_true (by kernel_rfl), Tryz.f96], (lookErr b w u hu us hs h0).mono fun e w' h => h⟩

theorem b0 : Base Tryz.prog E0 := ⟨follows, codeT_of codeFn_ok, quiet_ok E0 rfl, And.intro (fun f F h => by cases h) look0⟩

theorem p25 (E : Env) (hE : E.glob = globT) : PureFn Tryz.prog E 36 F25 := by
  have h : PureFn Tryz.prog (lvl E0 livesL 200 12) 36 (evP (lvl E0 livesL 200 12) 200 36) := by
    obtain ⟨h1, h2, h3⟩ := lvl_same E0 livesL 200 12
    exact evP_ok follows (fun g fn hg => b0.T g fn (by rw [h2] at hg; exact hg)) (fun g hg => b0.Q g (by rw [h3] at hg; exact hg)) (lvl_ok follows b0.T b0.Q b0.P livesL 200 12) 200 36
  refine (h.glob (E' := E) (by rw [hE, (lvl_same E0 livesL 200 12).1]; rfl)).mono fun vs r hr => ?_
  unfold F25 at hr
  split at hr
  · rw [lives_ev]; exact hr
  · cases hr

theorem p75 (E : Env) : PureFn Tryz.prog E 82 F75 := by
  intro vs r hF F0 w us hG hw hs hr
  unfold F75 at hF
  split at hF
  · rename_i b
    simp only [Option.some.injEq] at hF; subst hF
    have h0 := hr 0 (.flt .f64 b) rfl
    have hsz : us.size = 1 := by simpa using hs
    obtain ⟨l⟩ := us
    match l, hsz with
    | [u], _ =>
      have hu : u = .float .f64 b := by
        have : RepS F0 (.flt .f64 b) u := by simpa using h0
        cases this; rfl
      subst hu
      refine .inl ⟨.int .u64 b, w, ?_, ⟨F0, [], fun _ => none⟩, ⟨rfl, rfl, rfl, Nat.le_refl _, fun _ _ => rfl, fun _ _ _ h => h, fun _ _ _ _ h => h, hw, rfl, fun _ _ => rfl, fun _ _ _ h => by cases h⟩, .sv _ _ _ (.int _ _)⟩
      rw [run_callFunc_extern Tryz.func82 (by kernel_rfl) (by kernel_rfl) (by kernel_rfl) (e := Extern.MathFloatBits.float64bits) (by kernel_rfl)]
      rfl
  · cases hF

def spCheck (l : List SV) : Bool := (List.range 128).all fun k => match l[k]? with
  | some (.int .u8 n) => n == ((if (decide (9 ≤ k) && decide (k ≤ 13)) || k == 32 then 1 else 0 : Nat) : Int)
  | _ => false

theorem spCheck_ok : spCheck (globT 1) = true := by kernel_rfl

theorem spT0 : SpT E0 := by
  intro c hc
  have h := List.all_eq_true.1 spCheck_ok c.toNat (List.mem_range.2 hc)
  show (globT 1).drop c.toNat = _
  have hl : c.toNat < (globT 1).length := by
    refine Decidable.byContradiction fun hn => ?_
    rw [List.getElem?_eq_none (by omega)] at h
    cases h
  rw [List.drop_eq_getElem_cons hl]
  congr 1
  rw [List.getElem?_eq_getElem hl] at h
  split at h
  · rename_i n hx
    simp only [Option.some.injEq] at hx
    rw [hx]
    have : n = (spV c : Nat) := by
      simp only [beq_iff_eq] at h
      rw [h]; unfold spV spC; rfl
    rw [this]
  · cases h

end Go.Ev

set_option linter.unusedSimpArgs false
set_option linter.unusedVariables false
namespace Go.Ev
open Go.Proofs

theorem Base.add {P : Program} {E : Env} (B : Base P E) {f : Nat} {F : List SV → Option AV} (hF : PureFn P E f F) : Base P (E.add f F) := ⟨B.m, fun g fn h => B.T g fn h, fun g h => B.Q g h, B.P.add hF⟩

theorem p27 {P : Program} {E : Env} (B : Base P E) (h : E.code 38 = some c27) : PureFn P E 38 F27 := pure27 B.m B.T B.Q B.P h
theorem p26 {P : Program} {E : Env} (B : Base P E) (h : E.code 37 = some c26) (h75 : E.pure 82 = some F75) : PureFn P E 37 F26 := pure26 B.m B.T B.Q B.P h h75

end Go.Ev

set_option linter.unusedSimpArgs false
set_option linter.unusedVariables false
set_option maxRecDepth 4000
namespace Go.Ev
open Go.Proofs

noncomputable def e1 : Env := E0.add 111 F134
theorem b1 : Base Tryz.prog e1 := b0.add (p134 b0 rfl)
noncomputable def e2 : Env := e1.add 126 F123
theorem b2 : Base Tryz.prog e2 := b1.add (p123 b1 rfl rfl)
noncomputable def e3 : Env := e2.add 108 F81
theorem b3 : Base Tryz.prog e3 := b2.add (p81 b2 rfl rfl)
noncomputable def e4 : Env := e3.add 136 F97
theorem b4 : Base Tryz.prog e4 := b3.add (p97 b3 rfl)
noncomputable def e5 : Env := e4.add 85 F45
theorem b5 : Base Tryz.prog e5 := b4.add (p45 b4 rfl rfl)
noncomputable def e6 : Env := e5.add 98 F78
theorem b6 : Base Tryz.prog e6 := b5.add (p78 b5 rfl)
noncomputable def e7 : Env := e6.add 64 F28
theorem b7 : Base Tryz.prog e7 := b6.add (p28 b6 rfl)
noncomputable def e8 : Env := e7.add 65 F52
theorem b8 : Base Tryz.prog e8 := b7.add (p52 b7 rfl)
noncomputable def e9 : Env := e8.add 43 F33
theorem b9 : Base Tryz.prog e9 := b8.add (p33 b8 rfl)
noncomputable def e10 : Env := e9.add 59 F36
theorem b10 : Base Tryz.prog e10 := b9.add (p36 b9 rfl)
noncomputable def e11 : Env := e10.add 124 F76
theorem b11 : Base Tryz.prog e11 := b10.add (p76 b10 rfl)
noncomputable def e12 : Env := e11.add 52 F30
theorem b12 : Base Tryz.prog e12 := b11.add (p30 b11 rfl)
noncomputable def e13 : Env := e12.add 45 F38
theorem b13 : Base Tryz.prog e13 := b12.add (p38 b12 rfl)
noncomputable def e14 : Env := e13.add 88 F85
theorem b14 : Base Tryz.prog e14 := b13.add (p85 b13 rfl)
noncomputable def e15 : Env := e14.add 92 F127
theorem b15 : Base Tryz.prog e15 := b14.add (p127 b14 rfl spT0)
noncomputable def e16 : Env := e15.add 97 F77
theorem b16 : Base Tryz.prog e16 := b15.add (p1097 b15 rfl rfl rfl)
noncomputable def e17 : Env := e16.add 50 F1050
theorem b17 : Base Tryz.prog e17 := b16.add (p1050 b16 rfl)
noncomputable def e18 : Env := e17.add 87 F84
theorem b18 : Base Tryz.prog e18 := b17.add (p84 b17 rfl)
noncomputable def e19 : Env := e18.add 80 F1080
theorem b19 : Base Tryz.prog e19 := b18.add (p1080 b18 rfl)
noncomputable def e20 : Env := e19.add 35 F1035
theorem b20 : Base Tryz.prog e20 := b19.add (p1035 b19 rfl rfl)
noncomputable def e21 : Env := e20.add 15 F1015
theorem b21 : Base Tryz.prog e21 := b20.add (p1015 b20 rfl rfl)
noncomputable def e22 : Env := e21.add 36 F25
theorem b22 : Base Tryz.prog e22 := b21.add (p25 e21 rfl)
noncomputable def e23 : Env := e22.add 82 F75
theorem b23 : Base Tryz.prog e23 := b22.add (p75 e22)
noncomputable def e24 : Env := e23.add 38 F27
theorem b24 : Base Tryz.prog e24 := b23.add (p27 b23 rfl)
noncomputable def e25 : Env := e24.add 37 F26
theorem b25 : Base Tryz.prog e25 := b24.add (p26 b24 rfl rfl)
noncomputable def e26 : Env := e25.add 136 F97h
theorem b26 : Base Tryz.prog e26 := b25.add (p97h b25 rfl)
theorem s27_123 : S123 (autoF e26 126) := ev123h e26 rfl rfl
noncomputable def e27 : Env := e26.add 126 (autoF e26 126)
theorem b27 : Base Tryz.prog e27 := b26.add (PureFn.auto b26.m b26.T b26.Q b26.P)
theorem s28_1125 : S1125 (autoF e27 125) := ev1125 e27 rfl
noncomputable def e28 : Env := e27.add 125 (autoF e27 125)
theorem b28 : Base Tryz.prog e28 := b27.add (PureFn.auto b27.m b27.T b27.Q b27.P)
theorem s29_46 : S46 (autoF e28 112) := ev46 e28 rfl
noncomputable def e29 : Env := e28.add 112 (autoF e28 112)
theorem b29 : Base Tryz.prog e29 := b28.add (PureFn.auto b28.m b28.T b28.Q b28.P)
theorem s30_1143 : S1143 (autoF e29 143) := ev1143 e29 rfl rfl
noncomputable def e30 : Env := e29.add 143 (autoF e29 143)
theorem b30 : Base Tryz.prog e30 := b29.add (PureFn.auto b29.m b29.T b29.Q b29.P)
theorem s31_1113 : S1113 (autoF e30 113) := ev1113 e30 rfl ⟨autoF e29 143, rfl, s30_1143⟩
noncomputable def e31 : Env := e30.add 113 (autoF e30 113)
theorem b31 : Base Tryz.prog e31 := b30.add (PureFn.auto b30.m b30.T b30.Q b30.P)
theorem s32_1083 : S1083s (autoF e31 83) := ev1083s e31 rfl
noncomputable def e32 : Env := e31.add 83 (autoF e31 83)
theorem b32 : Base Tryz.prog e32 := b31.add (PureFn.auto b31.m b31.T b31.Q b31.P)
theorem s33_1068 : S1068 (autoF e32 68) := ev1068 e32 rfl ⟨autoF e31 83, rfl, s32_1083⟩ rfl
noncomputable def e33 : Env := e32.add 68 (autoF e32 68)
theorem b33 : Base Tryz.prog e33 := b32.add (PureFn.auto b32.m b32.T b32.Q b32.P)
theorem s34_1069 : S1069 (autoF e33 69) := ev1069 e33 rfl rfl ⟨autoF e28 112, rfl, s29_46⟩ ⟨autoF e30 113, rfl, s31_1113⟩
noncomputable def e34 : Env := e33.add 69 (autoF e33 69)
theorem b34 : Base Tryz.prog e34 := b33.add (PureFn.auto b33.m b33.T b33.Q b33.P)
theorem s35_1114 : S1114 (autoF e34 114) := ev1114 e34 rfl
noncomputable def e35 : Env := e34.add 114 (autoF e34 114)
theorem b35 : Base Tryz.prog e35 := b34.add (PureFn.auto b34.m b34.T b34.Q b34.P)
theorem s36_35 : S35 (autoF e35 115) := ev35 e35 rfl
noncomputable def e36 : Env := e35.add 115 (autoF e35 115)
theorem b36 : Base Tryz.prog e36 := b35.add (PureFn.auto b35.m b35.T b35.Q b35.P)
theorem s37_1116 : S1116 (autoF e36 116) := ev1116 e36 rfl rfl
noncomputable def e37 : Env := e36.add 116 (autoF e36 116)
theorem b37 : Base Tryz.prog e37 := b36.add (PureFn.auto b36.m b36.T b36.Q b36.P)
theorem s38_1070 : S1070 (autoF e37 70) := ev1070 e37 rfl rfl rfl ⟨autoF e34 114, rfl, s35_1114⟩ ⟨autoF e35 115, rfl, s36_35⟩ ⟨autoF e36 116, rfl, s37_1116⟩
noncomputable def e38 : Env := e37.add 70 (autoF e37 70)
theorem b38 : Base Tryz.prog e38 := b37.add (PureFn.auto b37.m b37.T b37.Q b37.P)
theorem s39_1075 : S1075 (autoF e38 75) := ev1075 e38 rfl rfl rfl rfl rfl rfl rfl ⟨autoF e26 126, rfl, s27_123⟩ ⟨autoF e27 125, rfl, s28_1125⟩ ⟨autoF e32 68, rfl, s33_1068⟩
noncomputable def e39 : Env := e38.add 75 (autoF e38 75)
theorem b39 : Base Tryz.prog e39 := b38.add (PureFn.auto b38.m b38.T b38.Q b38.P)
theorem s40_1027 : SPrint false (autoF e39 27) := ev1027 e39 rfl ⟨autoF e32 68, rfl, s33_1068⟩ ⟨autoF e33 69, rfl, s34_1069⟩
noncomputable def e40 : Env := e39.add 27 (autoF e39 27)
theorem b40 : Base Tryz.prog e40 := b39.add (PureFn.auto b39.m b39.T b39.Q b39.P)
theorem s41_1028 : STree false (autoF e40 28) := ev1028 e40 rfl ⟨autoF e32 68, rfl, s33_1068⟩ ⟨autoF e37 70, rfl, s38_1070⟩
noncomputable def e41 : Env := e40.add 28 (autoF e40 28)
theorem b41 : Base Tryz.prog e41 := b40.add (PureFn.auto b40.m b40.T b40.Q b40.P)
theorem s42_1030 : SRead false (autoF e41 30) := ev1030 e41 rfl ⟨autoF e38 75, rfl, s39_1075⟩ rfl
noncomputable def e42 : Env := e41.add 30 (autoF e41 30)
theorem b42 : Base Tryz.prog e42 := b41.add (PureFn.auto b41.m b41.T b41.Q b41.P)
theorem s43_1031 : SPrint true (autoF e42 31) := ev1031 e42 rfl ⟨autoF e32 68, rfl, s33_1068⟩ ⟨autoF e33 69, rfl, s34_1069⟩
noncomputable def e43 : Env := e42.add 31 (autoF e42 31)
theorem b43 : Base Tryz.prog e43 := b42.add (PureFn.auto b42.m b42.T b42.Q b42.P)
theorem s44_1032 : STree true (autoF e43 32) := ev1032 e43 rfl ⟨autoF e32 68, rfl, s33_1068⟩ ⟨autoF e37 70, rfl, s38_1070⟩
noncomputable def e44 : Env := e43.add 32 (autoF e43 32)
theorem b44 : Base Tryz.prog e44 := b43.add (PureFn.auto b43.m b43.T b43.Q b43.P)
theorem s45_1034 : SRead true (autoF e44 34) := ev1034 e44 rfl ⟨autoF e38 75, rfl, s39_1075⟩ rfl
noncomputable def e45 : Env := e44.add 34 (autoF e44 34)
theorem b45 : Base Tryz.prog e45 := b44.add (PureFn.auto b44.m b44.T b44.Q b44.P)
theorem s46_135 : S135 (autoF e45 171) := ev135 e45 rfl
noncomputable def e46 : Env := e45.add 171 (autoF e45 171)
theorem b46 : Base Tryz.prog e46 := b45.add (PureFn.auto b45.m b45.T b45.Q b45.P)
theorem s47_125 : S125u (autoF e46 163) := ev125u e46 rfl ⟨autoF e45 171, rfl, s46_135⟩
noncomputable def e47 : Env := e46.add 163 (autoF e46 163)
theorem b47 : Base Tryz.prog e47 := b46.add (PureFn.auto b46.m b46.T b46.Q b46.P)
theorem s48_91 : S91 (autoF e47 168) := ev91 e47 rfl ⟨autoF e46 163, rfl, s47_125⟩
noncomputable def e48 : Env := e47.add 168 (autoF e47 168)
theorem b48 : Base Tryz.prog e48 := b47.add (PureFn.auto b47.m b47.T b47.Q b47.P)
theorem s49_1166 : S1166 (autoF e48 166) := ev1166 e48 rfl
noncomputable def e49 : Env := e48.add 166 (autoF e48 166)
theorem b49 : Base Tryz.prog e49 := b48.add (PureFn.auto b48.m b48.T b48.Q b48.P)
theorem s50_1157 : S1157 (autoF e49 157) := ev1157 e49 rfl ⟨autoF e48 166, rfl, s49_1166⟩
noncomputable def e50 : Env := e49.add 157 (autoF e49 157)
theorem b50 : Base Tryz.prog e50 := b49.add (PureFn.auto b49.m b49.T b49.Q b49.P)
theorem s51_1177 : S1177 (autoF e50 177) := ev1177 e50 rfl
noncomputable def e51 : Env := e50.add 177 (autoF e50 177)
theorem b51 : Base Tryz.prog e51 := b50.add (PureFn.auto b50.m b50.T b50.Q b50.P)
theorem s52_1174 : S1174 (autoF e51 174) := ev1174 e51 rfl ⟨autoF e50 177, rfl, s51_1177⟩
noncomputable def e52 : Env := e51.add 174 (autoF e51 174)
theorem b52 : Base Tryz.prog e52 := b51.add (PureFn.auto b51.m b51.T b51.Q b51.P)
theorem s53_1169 : S1169 (autoF e52 169) := ev1169 e52 rfl ⟨autoF e51 174, rfl, s52_1174⟩
noncomputable def e53 : Env := e52.add 169 (autoF e52 169)
theorem b53 : Base Tryz.prog e53 := b52.add (PureFn.auto b52.m b52.T b52.Q b52.P)
theorem s54_1146 : S1146 (autoF e53 146) := ev1146 e53 rfl
noncomputable def e54 : Env := e53.add 146 (autoF e53 146)
theorem b54 : Base Tryz.prog e54 := b53.add (PureFn.auto b53.m b53.T b53.Q b53.P)
theorem s55_1145 : S1145 (autoF e54 145) := ev1145 e54 rfl ⟨autoF e53 146, rfl, s54_1146⟩
noncomputable def e55 : Env := e54.add 145 (autoF e54 145)
theorem b55 : Base Tryz.prog e55 := b54.add (PureFn.auto b54.m b54.T b54.Q b54.P)
theorem s56_1123 : S1123 (autoF e55 123) := ev1123 e55 rfl ⟨autoF e54 145, rfl, s55_1145⟩
noncomputable def e56 : Env := e55.add 123 (autoF e55 123)
theorem b56 : Base Tryz.prog e56 := b55.add (PureFn.auto b55.m b55.T b55.Q b55.P)
theorem s57_1122 : S1122 (autoF e56 122) := ev1122 e56 rfl ⟨autoF e55 123, rfl, s56_1123⟩
noncomputable def e57 : Env := e56.add 122 (autoF e56 122)
theorem b57 : Base Tryz.prog e57 := b56.add (PureFn.auto b56.m b56.T b56.Q b56.P)
theorem s58_1130 : S1130 (autoF e57 130) := ev1130 e57 rfl ⟨autoF e55 123, rfl, s56_1123⟩
noncomputable def e58 : Env := e57.add 130 (autoF e57 130)
theorem b58 : Base Tryz.prog e58 := b57.add (PureFn.auto b57.m b57.T b57.Q b57.P)
theorem s59_1121 : S1121 (autoF e58 121) := ev1121 e58 rfl ⟨autoF e56 122, rfl, s57_1122⟩ ⟨autoF e57 130, rfl, s58_1130⟩
noncomputable def e59 : Env := e58.add 121 (autoF e58 121)
theorem b59 : Base Tryz.prog e59 := b58.add (PureFn.auto b58.m b58.T b58.Q b58.P)
theorem s60_1120 : S1120 (autoF e59 120) := ev1120 e59 rfl ⟨autoF e58 121, rfl, s59_1121⟩
noncomputable def e60 : Env := e59.add 120 (autoF e59 120)
theorem b60 : Base Tryz.prog e60 := b59.add (PureFn.auto b59.m b59.T b59.Q b59.P)
theorem s61_1129 : S1129 (autoF e60 129) := ev1129 e60 rfl ⟨autoF e58 121, rfl, s59_1121⟩
noncomputable def e61 : Env := e60.add 129 (autoF e60 129)
theorem b61 : Base Tryz.prog e61 := b60.add (PureFn.auto b60.m b60.T b60.Q b60.P)
theorem s62_1119 : S1119 (autoF e61 119) := ev1119 e61 rfl ⟨autoF e59 120, rfl, s60_1120⟩ ⟨autoF e60 129, rfl, s61_1129⟩
noncomputable def e62 : Env := e61.add 119 (autoF e61 119)
theorem b62 : Base Tryz.prog e62 := b61.add (PureFn.auto b61.m b61.T b61.Q b61.P)
theorem s63_1074 : S1074 (autoF e62 74) := ev1074 e62 rfl ⟨autoF e61 119, rfl, s62_1119⟩
noncomputable def e63 : Env := e62.add 74 (autoF e62 74)
theorem b63 : Base Tryz.prog e63 := b62.add (PureFn.auto b62.m b62.T b62.Q b62.P)
theorem s64_1073 : S1073 (autoF e63 73) := ev1073 e63 rfl ⟨autoF e62 74, rfl, s63_1074⟩
noncomputable def e64 : Env := e63.add 73 (autoF e63 73)
theorem b64 : Base Tryz.prog e64 := b63.add (PureFn.auto b63.m b63.T b63.Q b63.P)
theorem s65_1079 : S1079 (autoF e64 79) := ev1079 e64 rfl ⟨autoF e61 119, rfl, s62_1119⟩
noncomputable def e65 : Env := e64.add 79 (autoF e64 79)
theorem b65 : Base Tryz.prog e65 := b64.add (PureFn.auto b64.m b64.T b64.Q b64.P)
theorem s66_1078 : S1078 (autoF e65 78) := ev1078 e65 rfl ⟨autoF e64 79, rfl, s65_1079⟩
noncomputable def e66 : Env := e65.add 78 (autoF e65 78)
theorem b66 : Base Tryz.prog e66 := b65.add (PureFn.auto b65.m b65.T b65.Q b65.P)
theorem s67_1159 : S1159 (autoF e66 159) := ev1159 e66 rfl ⟨autoF e49 157, rfl, s50_1157⟩ ⟨autoF e47 168, rfl, s48_91⟩ ⟨autoF e52 169, rfl, s53_1169⟩
noncomputable def e67 : Env := e66.add 159 (autoF e66 159)
theorem b67 : Base Tryz.prog e67 := b66.add (PureFn.auto b66.m b66.T b66.Q b66.P)
theorem s68_1144 : SSock (autoF e67 144) := ev1144 e67 rfl rfl rfl rfl rfl rfl rfl rfl ⟨autoF e66 159, rfl, s67_1159⟩ rfl rfl rfl rfl
noncomputable def e68 : Env := e67.add 144 (autoF e67 144)
theorem b68 : Base Tryz.prog e68 := b67.add (PureFn.auto b67.m b67.T b67.Q b67.P)
theorem s69_1118 : SNew_tcp (autoF e68 118) := ev1118 e68 rfl ⟨autoF e67 144, rfl, s68_1144⟩
noncomputable def e69 : Env := e68.add 118 (autoF e68 118)
theorem b69 : Base Tryz.prog e69 := b68.add (PureFn.auto b68.m b68.T b68.Q b68.P)
theorem s70_1072 : SFs_tcp (autoF e69 72) := ev1072 e69 rfl rfl ⟨autoF e68 118, rfl, s69_1118⟩
noncomputable def e70 : Env := e69.add 72 (autoF e69 72)
theorem b70 : Base Tryz.prog e70 := b69.add (PureFn.auto b69.m b69.T b69.Q b69.P)
theorem s71_1071 : STr_tcp (autoF e70 71) := ev1071 e70 rfl rfl ⟨autoF e69 72, rfl, s70_1072⟩ ⟨autoF e63 73, rfl, s64_1073⟩
noncomputable def e71 : Env := e70.add 71 (autoF e70 71)
theorem b71 : Base Tryz.prog e71 := b70.add (PureFn.auto b70.m b70.T b70.Q b70.P)
theorem s72_1029 : SDoor_tcp (autoF e71 29) := ev1029 e71 rfl rfl ⟨autoF e70 71, rfl, s71_1071⟩
noncomputable def e72 : Env := e71.add 29 (autoF e71 29)
theorem b72 : Base Tryz.prog e72 := b71.add (PureFn.auto b71.m b71.T b71.Q b71.P)
theorem s73_1128 : SNew_udp (autoF e72 128) := ev1128 e72 rfl ⟨autoF e67 144, rfl, s68_1144⟩
noncomputable def e73 : Env := e72.add 128 (autoF e72 128)
theorem b73 : Base Tryz.prog e73 := b72.add (PureFn.auto b72.m b72.T b72.Q b72.P)
theorem s74_1077 : SFs_udp (autoF e73 77) := ev1077 e73 rfl rfl ⟨autoF e72 128, rfl, s73_1128⟩
noncomputable def e74 : Env := e73.add 77 (autoF e73 77)
theorem b74 : Base Tryz.prog e74 := b73.add (PureFn.auto b73.m b73.T b73.Q b73.P)
theorem s75_1076 : STr_udp (autoF e74 76) := ev1076 e74 rfl rfl ⟨autoF e73 77, rfl, s74_1077⟩ ⟨autoF e65 78, rfl, s66_1078⟩
noncomputable def e75 : Env := e74.add 76 (autoF e74 76)
theorem b75 : Base Tryz.prog e75 := b74.add (PureFn.auto b74.m b74.T b74.Q b74.P)
theorem s76_1033 : SDoor_udp (autoF e75 33) := ev1033 e75 rfl rfl ⟨autoF e74 76, rfl, s75_1076⟩
noncomputable def e76 : Env := e75.add 33 (autoF e75 33)
theorem b76 : Base Tryz.prog e76 := b75.add (PureFn.auto b75.m b75.T b75.Q b75.P)
theorem s77_9 : S9k (autoF e76 22) := ev9k e76 rfl ⟨autoF e41 30, rfl, s42_1030⟩ ⟨autoF e40 28, rfl, s41_1028⟩ ⟨autoF e71 29, rfl, s72_1029⟩ ⟨autoF e44 34, rfl, s45_1034⟩ ⟨autoF e43 32, rfl, s44_1032⟩ ⟨autoF e75 33, rfl, s76_1033⟩ rfl rfl rfl
noncomputable def e77 : Env := e76.add 22 (autoF e76 22)
theorem b77 : Base Tryz.prog e77 := b76.add (PureFn.auto b76.m b76.T b76.Q b76.P)
theorem s78_13 : S13k (autoF e77 20) := ev13k e77 rfl ⟨autoF e41 30, rfl, s42_1030⟩ ⟨autoF e39 27, rfl, s40_1027⟩ ⟨autoF e71 29, rfl, s72_1029⟩ ⟨autoF e44 34, rfl, s45_1034⟩ ⟨autoF e42 31, rfl, s43_1031⟩ ⟨autoF e75 33, rfl, s76_1033⟩ rfl rfl rfl
noncomputable def e78 : Env := e77.add 20 (autoF e77 20)
theorem b78 : Base Tryz.prog e78 := b77.add (PureFn.auto b77.m b77.T b77.Q b77.P)
theorem s79_1016 : S1016k (autoF e78 16) := ev1016k e78 rfl ⟨autoF e39 27, rfl, s40_1027⟩ ⟨autoF e40 28, rfl, s41_1028⟩ ⟨autoF e71 29, rfl, s72_1029⟩ ⟨autoF e42 31, rfl, s43_1031⟩ ⟨autoF e43 32, rfl, s44_1032⟩ ⟨autoF e75 33, rfl, s76_1033⟩ rfl rfl rfl
noncomputable def e79 : Env := e78.add 16 (autoF e78 16)
theorem b79 : Base Tryz.prog e79 := b78.add (PureFn.auto b78.m b78.T b78.Q b78.P)
theorem pu1009 : PureFn Tryz.prog E0 9 F1003 := (pbOf b79 (fun l hn n => ev1009 e79 rfl rfl ⟨autoF e78 16, rfl, s79_1016⟩ l hn n)).glob rfl
theorem pu1010 : PureFn Tryz.prog E0 10 F8x := (ptOf b79 (fun s n => ev1010 e79 rfl ⟨autoF e77 20, rfl, s78_13⟩ s n)).glob rfl
theorem pu1011 : PureFn Tryz.prog E0 11 F8x := (ptOf b79 (fun s n => ev1011 e79 rfl ⟨autoF e76 22, rfl, s77_9⟩ s n)).glob rfl
theorem pu1012 : PureFn Tryz.prog E0 12 F1003 := (pbOf b79 (fun l hn n => ev1012 e79 rfl rfl ⟨autoF e78 16, rfl, s79_1016⟩ l hn n)).glob rfl
theorem pu1013 : PureFn Tryz.prog E0 13 F8x := (ptOf b79 (fun s n => ev1013 e79 rfl ⟨autoF e77 20, rfl, s78_13⟩ s n)).glob rfl
theorem pu1014 : PureFn Tryz.prog E0 14 F8x := (ptOf b79 (fun s n => ev1014 e79 rfl ⟨autoF e76 22, rfl, s77_9⟩ s n)).glob rfl

end Go.Ev
