/- The seat's tables; the sanity check by evaluation; what the listed variables hold. -/
/- Environments entry by entry. -/
import Derived.Test.YtkpjijiiegdcaaaGreatDoorMaj
import Derived.Test.YtkpjijiiegdcaaaGreatDoorMal
import Derived.Test.YtkpjijiiegdcaaaGreatDoorMan
import Derived.Test.YtkpjijiiegdcaaaGreatDoorMcb
import Derived.Test.YtkpjijiiegdcaaaGreatDoorMap
import Derived.Test.YtkpjijiiegdcaaaGreatDoorMay
import Derived.Test.YtkpjijiiegdcaaaGreatDoorMba
import Derived.Laws.Externs
set_option linter.unusedSimpArgs false
set_option linter.unusedVariables false
namespace Go.Ev
open Go.Proofs

def codeTab : List (Nat × AFn) := [(16, c9), (14, c13), (22, c25), (23, c26), (24, c27), (41, c28), (61, c30), (35, c33), (37, c38), (26, c44), (29, c45), (42, c52), (46, c55), (58, c57), (56, c74), (43, c76), (44, c77), (174, c78), (54, c81), (64, c85), (181, c87), (182, c88), (184, c90), (60, c97), (63, c99), (189, c117), (190, c118), (191, c119), (192, c120), (193, c121), (196, c122), (188, c123), (208, c125), (194, c127), (206, c133), (204, c134), (215, c135), (214, c145), (226, c150), (230, c155), (233, c158), (235, c163), (236, c164), (244, c172), (246, c174), (9, c1015), (10, c1016), (21, c1035), (55, c1080), (28, c46), (34, c35), (45, c31), (175, c79), (176, c80), (67, c1145), (195, c91), (59, c1084), (100, c4100), (101, c4101), (102, c4102), (103, c4103), (104, c4104), (105, c4105), (106, c4106), (107, c4107), (108, c4108), (109, c4109), (110, c4110), (111, c4111), (112, c4112), (113, c4113), (114, c4114), (115, c4115), (116, c4116), (117, c4117), (118, c4118), (119, c4119), (120, c4120), (121, c4121), (122, c4122), (123, c4123), (124, c4124), (125, c4125), (126, c4126), (127, c4127), (128, c4128), (129, c4129), (130, c4130), (131, c4131), (132, c4132), (133, c4133), (134, c4134), (135, c4135), (136, c4136), (137, c4137), (138, c4138), (139, c4139), (140, c4140), (141, c4141), (142, c4142), (143, c4143), (144, c4144), (145, c4145), (146, c4146), (147, c4147), (148, c4148), (149, c4149), (150, c4150), (151, c4151), (152, c4152), (153, c4153), (154, c4154), (155, c4155), (156, c4156), (157, c4157), (158, c4158), (159, c4159), (160, c4160), (161, c4161), (162, c4162), (163, c4163), (164, c4164), (165, c4165), (166, c4166), (167, c4167), (168, c4168), (169, c4169), (170, c4170), (171, c4171), (172, c4172), (173, c4173), (32, c3087), (3, c4003), (4, c4004), (5, c4005), (11, c4011), (12, c4012), (13, c4013), (15, c4015), (25, c4025), (27, c4027), (30, c4030), (31, c4031), (36, c4036), (38, c4038), (39, c4039), (40, c4040), (65, c4065), (68, c4068), (69, c4069), (70, c4070), (71, c4071), (72, c4072), (73, c4073), (74, c4074), (75, c4075), (76, c4076), (77, c4077), (78, c4078), (79, c4079), (80, c4080), (81, c4081), (82, c4082), (83, c4083), (84, c4084), (85, c4085), (86, c4086), (87, c4087), (88, c4088), (89, c4089), (90, c4090), (91, c4091), (92, c4092), (93, c4093), (94, c4094), (95, c4095), (96, c4096), (97, c4097), (98, c4098), (99, c4099), (33, c1114)]

theorem tabC {k : Nat} {c : AFn} {l : List (Nat × AFn)} (h : codeOf Tryz.prog k = some c) (t : ∀ p ∈ l, codeOf Tryz.prog p.1 = some p.2) : ∀ p ∈ (k, c) :: l, codeOf Tryz.prog p.1 = some p.2 := by
  intro p hp
  rcases List.mem_cons.1 hp with rfl | hp
  · exact h
  · exact t p hp

set_option maxRecDepth 100000 in
theorem codeTab_ok : ∀ p ∈ codeTab, codeOf Tryz.prog p.1 = some p.2 := by
  unfold codeTab
  refine tabC code9 ?_
  refine tabC code13 ?_
  refine tabC code25 ?_
  refine tabC code26 ?_
  refine tabC code27 ?_
  refine tabC code28 ?_
  refine tabC code30 ?_
  refine tabC code33 ?_
  refine tabC code38 ?_
  refine tabC code44 ?_
  refine tabC code45 ?_
  refine tabC code52 ?_
  refine tabC code55 ?_
  refine tabC code57 ?_
  refine tabC code74 ?_
  refine tabC code76 ?_
  refine tabC code77 ?_
  refine tabC code78 ?_
  refine tabC code81 ?_
  refine tabC code85 ?_
  refine tabC code87 ?_
  refine tabC code88 ?_
  refine tabC code90 ?_
  refine tabC code97 ?_
  refine tabC code99 ?_
  refine tabC code117 ?_
  refine tabC code118 ?_
  refine tabC code119 ?_
  refine tabC code120 ?_
  refine tabC code121 ?_
  refine tabC code122 ?_
  refine tabC code123 ?_
  refine tabC code125 ?_
  refine tabC code127 ?_
  refine tabC code133 ?_
  refine tabC code134 ?_
  refine tabC code135 ?_
  refine tabC code145 ?_
  refine tabC code150 ?_
  refine tabC code155 ?_
  refine tabC code158 ?_
  refine tabC code163 ?_
  refine tabC code164 ?_
  refine tabC code172 ?_
  refine tabC code174 ?_
  refine tabC code1015 ?_
  refine tabC code1016 ?_
  refine tabC code1035 ?_
  refine tabC code1080 ?_
  refine tabC code46 ?_
  refine tabC code35 ?_
  refine tabC code31 ?_
  refine tabC code79 ?_
  refine tabC code80 ?_
  refine tabC code1145 ?_
  refine tabC code91 ?_
  refine tabC code1084 ?_
  refine tabC code4100 ?_
  refine tabC code4101 ?_
  refine tabC code4102 ?_
  refine tabC code4103 ?_
  refine tabC code4104 ?_
  refine tabC code4105 ?_
  refine tabC code4106 ?_
  refine tabC code4107 ?_
  refine tabC code4108 ?_
  refine tabC code4109 ?_
  refine tabC code4110 ?_
  refine tabC code4111 ?_
  refine tabC code4112 ?_
  refine tabC code4113 ?_
  refine tabC code4114 ?_
  refine tabC code4115 ?_
  refine tabC code4116 ?_
  refine tabC code4117 ?_
  refine tabC code4118 ?_
  refine tabC code4119 ?_
  refine tabC code4120 ?_
  refine tabC code4121 ?_
  refine tabC code4122 ?_
  refine tabC code4123 ?_
  refine tabC code4124 ?_
  refine tabC code4125 ?_
  refine tabC code4126 ?_
  refine tabC code4127 ?_
  refine tabC code4128 ?_
  refine tabC code4129 ?_
  refine tabC code4130 ?_
  refine tabC code4131 ?_
  refine tabC code4132 ?_
  refine tabC code4133 ?_
  refine tabC code4134 ?_
  refine tabC code4135 ?_
  refine tabC code4136 ?_
  refine tabC code4137 ?_
  refine tabC code4138 ?_
  refine tabC code4139 ?_
  refine tabC code4140 ?_
  refine tabC code4141 ?_
  refine tabC code4142 ?_
  refine tabC code4143 ?_
  refine tabC code4144 ?_
  refine tabC code4145 ?_
  refine tabC code4146 ?_
  refine tabC code4147 ?_
  refine tabC code4148 ?_
  refine tabC code4149 ?_
  refine tabC code4150 ?_
  refine tabC code4151 ?_
  refine tabC code4152 ?_
  refine tabC code4153 ?_
  refine tabC code4154 ?_
  refine tabC code4155 ?_
  refine tabC code4156 ?_
  refine tabC code4157 ?_
  refine tabC code4158 ?_
  refine tabC code4159 ?_
  refine tabC code4160 ?_
  refine tabC code4161 ?_
  refine tabC code4162 ?_
  refine tabC code4163 ?_
  refine tabC code4164 ?_
  refine tabC code4165 ?_
  refine tabC code4166 ?_
  refine tabC code4167 ?_
  refine tabC code4168 ?_
  refine tabC code4169 ?_
  refine tabC code4170 ?_
  refine tabC code4171 ?_
  refine tabC code4172 ?_
  refine tabC code4173 ?_
  refine tabC code3087 ?_
  refine tabC code4003 ?_
  refine tabC code4004 ?_
  refine tabC code4005 ?_
  refine tabC code4011 ?_
  refine tabC code4012 ?_
  refine tabC code4013 ?_
  refine tabC code4015 ?_
  refine tabC code4025 ?_
  refine tabC code4027 ?_
  refine tabC code4030 ?_
  refine tabC code4031 ?_
  refine tabC code4036 ?_
  refine tabC code4038 ?_
  refine tabC code4039 ?_
  refine tabC code4040 ?_
  refine tabC code4065 ?_
  refine tabC code4068 ?_
  refine tabC code4069 ?_
  refine tabC code4070 ?_
  refine tabC code4071 ?_
  refine tabC code4072 ?_
  refine tabC code4073 ?_
  refine tabC code4074 ?_
  refine tabC code4075 ?_
  refine tabC code4076 ?_
  refine tabC code4077 ?_
  refine tabC code4078 ?_
  refine tabC code4079 ?_
  refine tabC code4080 ?_
  refine tabC code4081 ?_
  refine tabC code4082 ?_
  refine tabC code4083 ?_
  refine tabC code4084 ?_
  refine tabC code4085 ?_
  refine tabC code4086 ?_
  refine tabC code4087 ?_
  refine tabC code4088 ?_
  refine tabC code4089 ?_
  refine tabC code4090 ?_
  refine tabC code4091 ?_
  refine tabC code4092 ?_
  refine tabC code4093 ?_
  refine tabC code4094 ?_
  refine tabC code4095 ?_
  refine tabC code4096 ?_
  refine tabC code4097 ?_
  refine tabC code4098 ?_
  refine tabC code4099 ?_
  refine tabC code1114 ?_
  intro p hp
  cases hp

def codeFn (f : Nat) : Option AFn := codeTab.lookup f

theorem codeFn_ok (f : Nat) (fn : AFn) (h : codeFn f = some fn) : codeOf Tryz.prog f = some fn := by
  unfold codeFn at h
  have key : ∀ (l : List (Nat × AFn)), l.lookup f = some fn → (f, fn) ∈ l := by
    intro l
    induction l with
    | nil => intro h; simp at h
    | cons p l ih =>
      obtain ⟨g, x⟩ := p
      intro h
      simp only [List.lookup] at h
      split at h
      · rename_i e
        have e' : f = g := by simpa using e
        simp only [Option.some.injEq] at h
        subst h; subst e'
        simp
      · simp [ih h]
  exact codeTab_ok (f, fn) (key _ h)

def lvl (E : Env) (L : List Nat) (N : Nat) : Nat → Env
  | 0 => E
  | k + 1 => { E with pure := fun f => if L.contains f then some (fun vs => evP (lvl E L N k) N f vs) else E.pure f }

theorem lvl_same (E : Env) (L : List Nat) (N : Nat) : ∀ k, (lvl E L N k).glob = E.glob ∧ (lvl E L N k).code = E.code ∧ (lvl E L N k).quiet = E.quiet
  | 0 => ⟨rfl, rfl, rfl⟩
  | _ + 1 => ⟨rfl, rfl, rfl⟩

theorem lvl_ok {P : Program} {E : Env} (hm : P.follows .mixedOrders = true) (hT : CodeT P E) (hQ : QuietOK P E) (hP : PureOK P E) (L : List Nat) (N : Nat) : ∀ k, PureOK P (lvl E L N k)
  | 0 => hP
  | k + 1 => by
    obtain ⟨h1, h2, h3⟩ := lvl_same E L N k
    refine ⟨fun f F hf => ?_, fun f k hf => ?_⟩
    rotate_left
    · exact hP.2 f _ hf
    simp only [lvl] at hf
    split at hf
    · simp only [Option.some.injEq] at hf
      subst hf
      have hT' : CodeT P (lvl E L N k) := by intro g fn hg; rw [h2] at hg; exact hT g fn hg
      have hQ' : QuietOK P (lvl E L N k) := by intro g hg; rw [h3] at hg; exact hQ g hg
      exact (evP_ok hm hT' hQ' (lvl_ok hm hT hQ hP L N k) N f).glob h1.symm
    · exact (hP.1 f F hf).glob rfl

def unlit : DataW Unit → Lit
  | .lit l => l
  | _ => .nil

/-- A laid datum's plain values. -/
def lits : DataW Unit → List Lit
  | .agg l => l.map unlit
  | .slice l _ => l.map unlit
  | d => [unlit d]

/-- The cells of a variable that is laid. -/
def svD (d : DataW Unit) : List SV := match d with
  | .slice _ _ => [.sl ((lits d).map litS)]
  | d => (lits d).map litS

def globT (f : Nat) : List SV := match f with
  | 1 => svD YtkpjijiiegdcaaaGreatDoor.Rows.laid_strings_asciiSpace
  | 7 => svD YtkpjijiiegdcaaaGreatDoor.Rows.laid_internal_strconv_float32info
  | 8 => svD YtkpjijiiegdcaaaGreatDoor.Rows.laid_internal_strconv_optimize
  | 9 => svD YtkpjijiiegdcaaaGreatDoor.Rows.laid_internal_strconv_float64info
  | 13 => svD YtkpjijiiegdcaaaGreatDoor.Rows.laid_internal_strconv_uint64pow10
  | 12 => svD YtkpjijiiegdcaaaGreatDoor.Rows.laid_internal_strconv_float64pow10
  | _ => []

def E0 : Env := { glob := globT, pure := fun _ => none, code := codeFn, quiet := quietT, look := fun f => if f = 187 then some 3 else none }

def livesL : List Nat := [37, 64, 63, 206, 194, 214, 226, 230, 233, 235, 236, 215, 244, 246, 192, 193, 191, 190]

set_option maxRecDepth 100000 in
theorem lives_ev : evP (lvl E0 livesL 200 12) 200 22 [] = some (.sv (.bool true)) := by kernel_rfl

theorem follows : Tryz.prog.follows .mixedOrders = true := by kernel_rfl

theorem look0 : LookOK Tryz.prog E0 := by
  intro f k h b w u hu us hs h0
  have h' : (if f = 187 then some 3 else none) = some k := h
  split at h' <;> simp only [Option.some.injEq, reduceCtorEq] at h'
  rename_i e
  subst e; subst h'
  exact .inr ⟨187, us, by simp [callFunc, Tryz.func187, show (Tryz.f187.name == "runtime.NumGoroutine") = false by kernel_rfl, show Tryz.f187.name ≠ "runtime.NumGoroutine" from of_decide_eq_true (by kernel_rfl), Tryz.f187], (lookErr b w u hu us hs h0).mono fun e w' h => h⟩

theorem b0 : Base Tryz.prog E0 := ⟨follows, codeT_of codeFn_ok, quiet_ok E0 rfl, And.intro (fun f F h => by cases h) look0⟩

theorem p25 (E : Env) (hE : E.glob = globT) : PureFn Tryz.prog E 22 F25 := by
  have h : PureFn Tryz.prog (lvl E0 livesL 200 12) 22 (evP (lvl E0 livesL 200 12) 200 22) := by
    obtain ⟨h1, h2, h3⟩ := lvl_same E0 livesL 200 12
    exact evP_ok follows (fun g fn hg => b0.T g fn (by rw [h2] at hg; exact hg)) (fun g hg => b0.Q g (by rw [h3] at hg; exact hg)) (lvl_ok follows b0.T b0.Q b0.P livesL 200 12) 200 22
  refine (h.glob (E' := E) (by rw [hE, (lvl_same E0 livesL 200 12).1]; rfl)).mono fun vs r hr => ?_
  unfold F25 at hr
  split at hr
  · rw [lives_ev]; exact hr
  · cases hr

theorem p75 (E : Env) : PureFn Tryz.prog E 57 F75 := by
  intro vs r hF F0 w us hG hw hs hr
  unfold F75 at hF
  split at hF
  · rename_i b
    simp only [Option.some.injEq] at hF; subst hF
    have h0 := hr 0 (.flt .f64 b) rfl
    have hsz : us.size = 1 := by simpa using hs
    obtain ⟨l⟩ := us
    match l, hsz with
    | [u], _ =>
      have hu : u = .float .f64 b := by
        have : RepS F0 (.flt .f64 b) u := by simpa using h0
        cases this; rfl
      subst hu
      refine .inl ⟨.int .u64 b, w, ?_, ⟨F0, [], fun _ => none, fun _ => none⟩, ⟨rfl, rfl, rfl, Nat.le_refl _, fun _ _ => rfl, fun _ _ _ h => h, fun _ _ _ _ h => h, hw, rfl, rfl, fun _ _ => rfl, fun _ _ _ h => by cases h⟩, .sv _ _ _ (.int _ _)⟩
      rw [run_callFunc_extern Tryz.func57 (by kernel_rfl) (by kernel_rfl) (by kernel_rfl) (e := Extern.MathFloatBits.float64bits) (by kernel_rfl)]
      rfl
  · cases hF

def spCheck (l : List SV) : Bool := (List.range 128).all fun k => match l[k]? with
  | some (.int .u8 n) => n == ((if (decide (9 ≤ k) && decide (k ≤ 13)) || k == 32 then 1 else 0 : Nat) : Int)
  | _ => false

theorem spCheck_ok : spCheck (globT 1) = true := by kernel_rfl

theorem spT0 : SpT E0 := by
  intro c hc
  have h := List.all_eq_true.1 spCheck_ok c.toNat (List.mem_range.2 hc)
  show (globT 1).drop c.toNat = _
  have hl : c.toNat < (globT 1).length := by
    refine Decidable.byContradiction fun hn => ?_
    rw [List.getElem?_eq_none (by omega)] at h
    cases h
  rw [List.drop_eq_getElem_cons hl]
  congr 1
  rw [List.getElem?_eq_getElem hl] at h
  split at h
  · rename_i n hx
    simp only [Option.some.injEq] at hx
    rw [hx]
    have : n = (spV c : Nat) := by
      simp only [beq_iff_eq] at h
      rw [h]; unfold spV spC; rfl
    rw [this]
  · cases h

end Go.Ev

set_option linter.unusedSimpArgs false
set_option linter.unusedVariables false
namespace Go.Ev
open Go.Proofs

theorem Base.add {P : Program} {E : Env} (B : Base P E) {f : Nat} {F : List SV → Option AV} (hF : PureFn P E f F) : Base P (E.add f F) := ⟨B.m, fun g fn h => B.T g fn h, fun g h => B.Q g h, B.P.add hF⟩

theorem p27 {P : Program} {E : Env} (B : Base P E) (h : E.code 24 = some c27) : PureFn P E 24 F27 := pure27 B.m B.T B.Q B.P h
theorem p26 {P : Program} {E : Env} (B : Base P E) (h : E.code 23 = some c26) (h75 : E.pure 57 = some F75) : PureFn P E 23 F26 := pure26 B.m B.T B.Q B.P h h75

end Go.Ev
