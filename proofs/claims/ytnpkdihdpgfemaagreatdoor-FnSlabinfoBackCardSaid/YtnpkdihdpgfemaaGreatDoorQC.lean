/- The seat's tables; the sanity check by evaluation; what the listed variables hold. -/
/- Environments entry by entry. -/
/- A chain of entries: lines printed by a program of this work (chaina.py). -/
import Derived.Test.YtnpkdihdpgfemaaGreatDoorCodesT
import Derived.Test.YtnpkdihdpgfemaaGreatDoorQA
import Derived.Test.YtnpkdihdpgfemaaGreatDoorQB
import Derived.Test.YtnpkdihdpgfemaaGreatDoorPA
import Derived.Laws.Externs
import Derived.Test.YtnpkdihdpgfemaaGreatDoorUC
set_option linter.unusedSimpArgs false
set_option linter.unusedVariables false
namespace Go.Ev
open Go.Proofs

def codeTab : List (Nat × AFn) := [(22, c9), (20, c13), (36, c25), (37, c26), (38, c27), (64, c28), (52, c30), (43, c33), (57, c34), (59, c36), (45, c38), (55, c44), (85, c45), (65, c52), (51, c54), (53, c55), (54, c57), (42, c66), (81, c74), (124, c76), (66, c77), (98, c78), (108, c81), (56, c82), (88, c85), (90, c87), (91, c88), (93, c90), (136, c97), (101, c99), (131, c117), (132, c118), (133, c119), (134, c120), (135, c121), (99, c122), (126, c123), (163, c125), (92, c127), (96, c128), (148, c133), (111, c134), (171, c135), (95, c143), (160, c145), (139, c149), (170, c150), (150, c154), (175, c155), (179, c158), (184, c163), (185, c164), (193, c172), (195, c174), (15, c1015), (16, c1016), (35, c1035), (80, c1080), (67, c31), (112, c46), (115, c35), (87, c84), (6, c1006), (7, c1007), (8, c1008), (23, c1023), (24, c1024), (25, c1025), (26, c1026), (58, c1058), (60, c1060), (61, c1061), (62, c1062), (63, c1063), (102, c1102), (103, c1103), (104, c1104), (105, c1105), (106, c1106), (107, c1107), (141, c1141), (142, c1142), (155, c1155), (156, c1156), (157, c1157), (158, c1158), (166, c1166), (167, c1167), (168, c91)]

theorem codeTab_ok : ∀ p ∈ codeTab, codeOf Tryz.prog p.1 = some p.2 := by
  intro p hp
  simp only [codeTab, List.mem_cons, List.not_mem_nil, or_false] at hp
  rcases hp with rfl | rfl | rfl | rfl | rfl | rfl | rfl | rfl | rfl | rfl | rfl | rfl | rfl | rfl | rfl | rfl | rfl | rfl | rfl | rfl | rfl | rfl | rfl | rfl | rfl | rfl | rfl | rfl | rfl | rfl | rfl | rfl | rfl | rfl | rfl | rfl | rfl | rfl | rfl | rfl | rfl | rfl | rfl | rfl | rfl | rfl | rfl | rfl | rfl | rfl | rfl | rfl | rfl | rfl | rfl | rfl | rfl | rfl | rfl | rfl | rfl | rfl | rfl | rfl | rfl | rfl | rfl | rfl | rfl | rfl | rfl | rfl | rfl | rfl | rfl | rfl | rfl | rfl | rfl | rfl | rfl | rfl | rfl | rfl | rfl | rfl | rfl | rfl | rfl
  · exact code9
  · exact code13
  · exact code25
  · exact code26
  · exact code27
  · exact code28
  · exact code30
  · exact code33
  · exact code34
  · exact code36
  · exact code38
  · exact code44
  · exact code45
  · exact code52
  · exact code54
  · exact code55
  · exact code57
  · exact code66
  · exact code74
  · exact code76
  · exact code77
  · exact code78
  · exact code81
  · exact code82
  · exact code85
  · exact code87
  · exact code88
  · exact code90
  · exact code97
  · exact code99
  · exact code117
  · exact code118
  · exact code119
  · exact code120
  · exact code121
  · exact code122
  · exact code123
  · exact code125
  · exact code127
  · exact code128
  · exact code133
  · exact code134
  · exact code135
  · exact code143
  · exact code145
  · exact code149
  · exact code150
  · exact code154
  · exact code155
  · exact code158
  · exact code163
  · exact code164
  · exact code172
  · exact code174
  · exact code1015
  · exact code1016
  · exact code1035
  · exact code1080
  · exact code31
  · exact code46
  · exact code35
  · exact code84
  · exact code1006
  · exact code1007
  · exact code1008
  · exact code1023
  · exact code1024
  · exact code1025
  · exact code1026
  · exact code1058
  · exact code1060
  · exact code1061
  · exact code1062
  · exact code1063
  · exact code1102
  · exact code1103
  · exact code1104
  · exact code1105
  · exact code1106
  · exact code1107
  · exact code1141
  · exact code1142
  · exact code1155
  · exact code1156
  · exact code1157
  · exact code1158
  · exact code1166
  · exact code1167
  · exact code91

def codeFn (f : Nat) : Option AFn := codeTab.lookup f

theorem codeFn_ok (f : Nat) (fn : AFn) (h : codeFn f = some fn) : codeOf Tryz.prog f = some fn := by
  unfold codeFn at h
  have key : ∀ (l : List (Nat × AFn)), l.lookup f = some fn → (f, fn) ∈ l := by
    intro l
    induction l with
    | nil => intro h; simp at h
    | cons p l ih =>
      obtain ⟨g, x⟩ := p
      intro h
      simp only [List.lookup] at h
      split at h
      · rename_i e
        have e' : f = g := by simpa using e
        simp only [Option.some.injEq] at h
        subst h; subst e'
        simp
      · simp [ih h]
  exact codeTab_ok (f, fn) (key _ h)

def lvl (E : Env) (L : List Nat) (N : Nat) : Nat → Env
  | 0 => E
  | k + 1 => { E with pure := fun f => if L.contains f then some (fun vs => evP (lvl E L N k) N f vs) else E.pure f }

theorem lvl_same (E : Env) (L : List Nat) (N : Nat) : ∀ k, (lvl E L N k).glob = E.glob ∧ (lvl E L N k).code = E.code ∧ (lvl E L N k).quiet = E.quiet
  | 0 => ⟨rfl, rfl, rfl⟩
  | _ + 1 => ⟨rfl, rfl, rfl⟩

theorem lvl_ok {P : Program} {E : Env} (hm : P.follows .mixedOrders = true) (hT : CodeT P E) (hQ : QuietOK P E) (hP : PureOK P E) (L : List Nat) (N : Nat) : ∀ k, PureOK P (lvl E L N k)
  | 0 => hP
  | k + 1 => by
    obtain ⟨h1, h2, h3⟩ := lvl_same E L N k
    refine ⟨fun f F hf => ?_, fun f k hf => ?_⟩
    rotate_left
    · exact hP.2 f _ hf
    simp only [lvl] at hf
    split at hf
    · simp only [Option.some.injEq] at hf
      subst hf
      have hT' : CodeT P (lvl E L N k) := by intro g fn hg; rw [h2] at hg; exact hT g fn hg
      have hQ' : QuietOK P (lvl E L N k) := by intro g hg; rw [h3] at hg; exact hQ g hg
      exact (evP_ok hm hT' hQ' (lvl_ok hm hT hQ hP L N k) N f).glob h1.symm
    · exact (hP.1 f F hf).glob rfl

def unlit : DataW Unit → Lit
  | .lit l => l
  | _ => .nil

/-- A laid datum's plain values. -/
def lits : DataW Unit → List Lit
  | .agg l => l.map unlit
  | .slice l _ => l.map unlit
  | d => [unlit d]

/-- The cells of a variable that is laid. -/
def svD (d : DataW Unit) : List SV := match d with
  | .slice _ _ => [.sl ((lits d).map litS)]
  | d => (lits d).map litS

def globT (f : Nat) : List SV := match f with
  | 1 => svD YtnpkdihdpgfemaaGreatDoor.Rows.laid_strings_asciiSpace
  | 5 => svD YtnpkdihdpgfemaaGreatDoor.Rows.laid_internal_strconv_float32info
  | 6 => svD YtnpkdihdpgfemaaGreatDoor.Rows.laid_internal_strconv_optimize
  | 7 => svD YtnpkdihdpgfemaaGreatDoor.Rows.laid_internal_strconv_float64info
  | 8 => svD YtnpkdihdpgfemaaGreatDoor.Rows.laid_internal_strconv_uint64pow10
  | 11 => svD YtnpkdihdpgfemaaGreatDoor.Rows.laid_internal_strconv_float64pow10
  | _ => []

def E0 : Env := { glob := globT, pure := fun _ => none, code := codeFn, quiet := quietT, look := fun f => if f = 96 then some 3 else none }

def livesL : List Nat := [45, 88, 101, 148, 92, 160, 170, 175, 179, 184, 185, 171, 193, 195, 134, 135, 133, 132]

set_option maxRecDepth 100000 in
theorem lives_ev : evP (lvl E0 livesL 200 12) 200 36 [] = some (.sv (.bool true)) := by kernel_rfl

theorem follows : Tryz.prog.follows .mixedOrders = true := by kernel_rfl

theorem look0 : LookOK Tryz.prog E0 := by
  intro f k h b w u hu us hs h0
  have h' : (if f = 96 then some 3 else none) = some k := h
  split at h' <;> simp only [Option.some.injEq, reduceCtorEq] at h'
  rename_i e
  subst e; subst h'
  exact .inr ⟨96, us, by simp [callFunc, Tryz.func96, show (Tryz.f96.name == "runtime.NumGoroutine") = false by kernel_rfl, show Tryz.f96.name ≠ "runtime.NumGoroutine" from of_decide_eq_true (by kernel_rfl), Tryz.f96], (lookErr b w u hu us hs h0).mono fun e w' h => h⟩

theorem b0 : Base Tryz.prog E0 := ⟨follows, codeT_of codeFn_ok, quiet_ok E0 rfl, And.intro (fun f F h => by cases h) look0⟩

theorem p25 (E : Env) (hE : E.glob = globT) : PureFn Tryz.prog E 36 F25 := by
  have h : PureFn Tryz.prog (lvl E0 livesL 200 12) 36 (evP (lvl E0 livesL 200 12) 200 36) := by
    obtain ⟨h1, h2, h3⟩ := lvl_same E0 livesL 200 12
    exact evP_ok follows (fun g fn hg => b0.T g fn (by rw [h2] at hg; exact hg)) (fun g hg => b0.Q g (by rw [h3] at hg; exact hg)) (lvl_ok follows b0.T b0.Q b0.P livesL 200 12) 200 36
  refine (h.glob (E' := E) (by rw [hE, (lvl_same E0 livesL 200 12).1]; rfl)).mono fun vs r hr => ?_
  unfold F25 at hr
  split at hr
  · rw [lives_ev]; exact hr
  · cases hr

theorem p75 (E : Env) : PureFn Tryz.prog E 82 F75 := by
  intro vs r hF F0 w us hG hw hs hr
  unfold F75 at hF
  split at hF
  · rename_i b
    simp only [Option.some.injEq] at hF; subst hF
    have h0 := hr 0 (.flt .f64 b) rfl
    have hsz : us.size = 1 := by simpa using hs
    obtain ⟨l⟩ := us
    match l, hsz with
    | [u], _ =>
      have hu : u = .float .f64 b := by
        have : RepS F0 (.flt .f64 b) u := by simpa using h0
        cases this; rfl
      subst hu
      refine .inl ⟨.int .u64 b, w, ?_, ⟨F0, [], fun _ => none⟩, ⟨rfl, rfl, rfl, Nat.le_refl _, fun _ _ => rfl, fun _ _ _ h => h, fun _ _ _ _ h => h, hw, rfl, fun _ _ => rfl, fun _ _ _ h => by cases h⟩, .sv _ _ _ (.int _ _)⟩
      rw [run_callFunc_extern Tryz.func82 (by kernel_rfl) (by kernel_rfl) (by kernel_rfl) (e := Extern.MathFloatBits.float64bits) (by kernel_rfl)]
      rfl
  · cases hF

def spCheck (l : List SV) : Bool := (List.range 128).all fun k => match l[k]? with
  | some (.int .u8 n) => n == ((if (decide (9 ≤ k) && decide (k ≤ 13)) || k == 32 then 1 else 0 : Nat) : Int)
  | _ => false

theorem spCheck_ok : spCheck (globT 1) = true := by kernel_rfl

theorem spT0 : SpT E0 := by
  intro c hc
  have h := List.all_eq_true.1 spCheck_ok c.toNat (List.mem_range.2 hc)
  show (globT 1).drop c.toNat = _
  have hl : c.toNat < (globT 1).length := by
    refine Decidable.byContradiction fun hn => ?_
    rw [List.getElem?_eq_none (by omega)] at h
    cases h
  rw [List.drop_eq_getElem_cons hl]
  congr 1
  rw [List.getElem?_eq_getElem hl] at h
  split at h
  · rename_i n hx
    simp only [Option.some.injEq] at hx
    rw [hx]
    have : n = (spV c : Nat) := by
      simp only [beq_iff_eq] at h
      rw [h]; unfold spV spC; rfl
    rw [this]
  · cases h

end Go.Ev

set_option linter.unusedSimpArgs false
set_option linter.unusedVariables false
namespace Go.Ev
open Go.Proofs

theorem Base.add {P : Program} {E : Env} (B : Base P E) {f : Nat} {F : List SV → Option AV} (hF : PureFn P E f F) : Base P (E.add f F) := ⟨B.m, fun g fn h => B.T g fn h, fun g h => B.Q g h, B.P.add hF⟩

theorem p27 {P : Program} {E : Env} (B : Base P E) (h : E.code 38 = some c27) : PureFn P E 38 F27 := pure27 B.m B.T B.Q B.P h
theorem p26 {P : Program} {E : Env} (B : Base P E) (h : E.code 37 = some c26) (h75 : E.pure 82 = some F75) : PureFn P E 37 F26 := pure26 B.m B.T B.Q B.P h h75

end Go.Ev

set_option linter.unusedSimpArgs false
set_option linter.unusedVariables false
set_option maxRecDepth 4000
namespace Go.Ev
open Go.Proofs

noncomputable def e1 : Env := E0.add 111 F134
theorem b1 : Base Tryz.prog e1 := b0.add (p134 b0 rfl)
noncomputable def e2 : Env := e1.add 126 F123
theorem b2 : Base Tryz.prog e2 := b1.add (p123 b1 rfl rfl)
noncomputable def e3 : Env := e2.add 108 F81
theorem b3 : Base Tryz.prog e3 := b2.add (p81 b2 rfl rfl)
noncomputable def e4 : Env := e3.add 136 F97
theorem b4 : Base Tryz.prog e4 := b3.add (p97 b3 rfl)
noncomputable def e5 : Env := e4.add 85 F45
theorem b5 : Base Tryz.prog e5 := b4.add (p45 b4 rfl rfl)
noncomputable def e6 : Env := e5.add 98 F78
theorem b6 : Base Tryz.prog e6 := b5.add (p78 b5 rfl)
noncomputable def e7 : Env := e6.add 64 F28
theorem b7 : Base Tryz.prog e7 := b6.add (p28 b6 rfl)
noncomputable def e8 : Env := e7.add 65 F52
theorem b8 : Base Tryz.prog e8 := b7.add (p52 b7 rfl)
noncomputable def e9 : Env := e8.add 43 F33
theorem b9 : Base Tryz.prog e9 := b8.add (p33 b8 rfl)
noncomputable def e10 : Env := e9.add 57 F34
theorem b10 : Base Tryz.prog e10 := b9.add (p34 b9 rfl)
noncomputable def e11 : Env := e10.add 59 F36
theorem b11 : Base Tryz.prog e11 := b10.add (p36 b10 rfl)
noncomputable def e12 : Env := e11.add 42 F66
theorem b12 : Base Tryz.prog e12 := b11.add (p66 b11 rfl)
noncomputable def e13 : Env := e12.add 51 F54
theorem b13 : Base Tryz.prog e13 := b12.add (p54 b12 rfl)
noncomputable def e14 : Env := e13.add 53 F55
theorem b14 : Base Tryz.prog e14 := b13.add (p55 b13 rfl)
noncomputable def e15 : Env := e14.add 54 F57
theorem b15 : Base Tryz.prog e15 := b14.add (p57 b14 rfl)
noncomputable def e16 : Env := e15.add 99 F122
theorem b16 : Base Tryz.prog e16 := b15.add (p122 b15 rfl)
noncomputable def e17 : Env := e16.add 56 F82
theorem b17 : Base Tryz.prog e17 := b16.add (p82 b16 rfl rfl rfl)
noncomputable def e18 : Env := e17.add 52 F30
theorem b18 : Base Tryz.prog e18 := b17.add (p30 b17 rfl)
noncomputable def e19 : Env := e18.add 55 F44
theorem b19 : Base Tryz.prog e19 := b18.add (p44 b18 rfl)
noncomputable def e20 : Env := e19.add 66 F77
theorem b20 : Base Tryz.prog e20 := b19.add (p77 b19 rfl rfl rfl)
noncomputable def e21 : Env := e20.add 45 F38
theorem b21 : Base Tryz.prog e21 := b20.add (p38 b20 rfl)
noncomputable def e22 : Env := e21.add 88 F85
theorem b22 : Base Tryz.prog e22 := b21.add (p85 b21 rfl)
noncomputable def e23 : Env := e22.add 101 F99
theorem b23 : Base Tryz.prog e23 := b22.add (p99 b22 rfl)
noncomputable def e24 : Env := e23.add 80 F1080
theorem b24 : Base Tryz.prog e24 := b23.add (p1080 b23 rfl)
noncomputable def e25 : Env := e24.add 35 F1035
theorem b25 : Base Tryz.prog e25 := b24.add (p1035 b24 rfl rfl)
noncomputable def e26 : Env := e25.add 15 F1015
theorem b26 : Base Tryz.prog e26 := b25.add (p1015 b25 rfl rfl)
noncomputable def e27 : Env := e26.add 36 F25
theorem b27 : Base Tryz.prog e27 := b26.add (p25 e26 rfl)
noncomputable def e28 : Env := e27.add 82 F75
theorem b28 : Base Tryz.prog e28 := b27.add (p75 e27)
noncomputable def e29 : Env := e28.add 38 F27
theorem b29 : Base Tryz.prog e29 := b28.add (p27 b28 rfl)
noncomputable def e30 : Env := e29.add 37 F26
theorem b30 : Base Tryz.prog e30 := b29.add (p26 b29 rfl rfl)
theorem s31_1023 : SlPrint (autoF e30 23) := ev1023 e30 rfl rfl rfl rfl rfl rfl rfl
noncomputable def e31 : Env := e30.add 23 (autoF e30 23)
theorem b31 : Base Tryz.prog e31 := b30.add (PureFn.auto b30.m b30.T b30.Q b30.P)
theorem s32_1058 : S1058 (autoF e31 58) := ev1058 e31 rfl
noncomputable def e32 : Env := e31.add 58 (autoF e31 58)
theorem b32 : Base Tryz.prog e32 := b31.add (PureFn.auto b31.m b31.T b31.Q b31.P)
theorem s33_1024 : SlTreeS (autoF e32 24) := ev1024 e32 rfl ⟨autoF e30 23, rfl, s31_1023⟩ rfl rfl rfl rfl ⟨autoF e31 58, rfl, s32_1058⟩
noncomputable def e33 : Env := e32.add 24 (autoF e32 24)
theorem b33 : Base Tryz.prog e33 := b32.add (PureFn.auto b32.m b32.T b32.Q b32.P)
theorem s34_31 : S31s (autoF e33 67) := ev31s e33 rfl rfl ⟨autoF e30 23, rfl, s31_1023⟩
noncomputable def e34 : Env := e33.add 67 (autoF e33 67)
theorem b34 : Base Tryz.prog e34 := b33.add (PureFn.auto b33.m b33.T b33.Q b33.P)
theorem s35_1026 : SlReadS (autoF e34 26) := ev1026 e34 rfl rfl rfl rfl ⟨autoF e33 67, rfl, s34_31⟩
noncomputable def e35 : Env := e34.add 26 (autoF e34 26)
theorem b35 : Base Tryz.prog e35 := b34.add (PureFn.auto b34.m b34.T b34.Q b34.P)
theorem s36_125 : S125d (autoF e35 163) := ev125d e35 rfl
noncomputable def e36 : Env := e35.add 163 (autoF e35 163)
theorem b36 : Base Tryz.prog e36 := b35.add (PureFn.auto b35.m b35.T b35.Q b35.P)
theorem s37_154 : S154d (autoF e36 150) := ev154d e36 rfl ⟨autoF e35 163, rfl, s36_125⟩
noncomputable def e37 : Env := e36.add 150 (autoF e36 150)
theorem b37 : Base Tryz.prog e37 := b36.add (PureFn.auto b36.m b36.T b36.Q b36.P)
theorem s38_1158 : S1158 (autoF e37 158) := ev1158 e37 rfl ⟨autoF e36 150, rfl, s37_154⟩
noncomputable def e38 : Env := e37.add 158 (autoF e37 158)
theorem b38 : Base Tryz.prog e38 := b37.add (PureFn.auto b37.m b37.T b37.Q b37.P)
theorem s39_1167 : S1167 (autoF e38 167) := ev1167 e38 rfl
noncomputable def e39 : Env := e38.add 167 (autoF e38 167)
theorem b39 : Base Tryz.prog e39 := b38.add (PureFn.auto b38.m b38.T b38.Q b38.P)
theorem s40_1156 : S1156 (autoF e39 156) := ev1156 e39 rfl ⟨autoF e38 167, rfl, s39_1167⟩
noncomputable def e40 : Env := e39.add 156 (autoF e39 156)
theorem b40 : Base Tryz.prog e40 := b39.add (PureFn.auto b39.m b39.T b39.Q b39.P)
theorem s41_1166 : S1166b (autoF e40 166) := ev1166b e40 rfl
noncomputable def e41 : Env := e40.add 166 (autoF e40 166)
theorem b41 : Base Tryz.prog e41 := b40.add (PureFn.auto b40.m b40.T b40.Q b40.P)
theorem s42_1157 : S1157 (autoF e41 157) := ev1157b e41 rfl ⟨autoF e40 166, rfl, s41_1166⟩
noncomputable def e42 : Env := e41.add 157 (autoF e41 157)
theorem b42 : Base Tryz.prog e42 := b41.add (PureFn.auto b41.m b41.T b41.Q b41.P)
theorem s43_1155 : S1155 (autoF e42 155) := ev1155 e42 rfl ⟨autoF e40 166, rfl, s41_1166⟩
noncomputable def e43 : Env := e42.add 155 (autoF e42 155)
theorem b43 : Base Tryz.prog e43 := b42.add (PureFn.auto b42.m b42.T b42.Q b42.P)
theorem s44_1141 : S1141 (autoF e43 141) := ev1141 e43 rfl ⟨autoF e42 155, rfl, s43_1155⟩
noncomputable def e44 : Env := e43.add 141 (autoF e43 141)
theorem b44 : Base Tryz.prog e44 := b43.add (PureFn.auto b43.m b43.T b43.Q b43.P)
theorem s45_1142 : S1142 (autoF e44 142) := ev1142 e44 rfl ⟨autoF e39 156, rfl, s40_1156⟩ ⟨autoF e41 157, rfl, s42_1157⟩ ⟨autoF e37 158, rfl, s38_1158⟩
noncomputable def e45 : Env := e44.add 142 (autoF e44 142)
theorem b45 : Base Tryz.prog e45 := b44.add (PureFn.auto b44.m b44.T b44.Q b44.P)
theorem s46_1107 : S1107 (autoF e45 107) := ev1107 e45 rfl
noncomputable def e46 : Env := e45.add 107 (autoF e45 107)
theorem b46 : Base Tryz.prog e46 := b45.add (PureFn.auto b45.m b45.T b45.Q b45.P)
theorem s47_1106 : S1106 (autoF e46 106) := ev1106 e46 rfl ⟨autoF e45 107, rfl, s46_1107⟩
noncomputable def e47 : Env := e46.add 106 (autoF e46 106)
theorem b47 : Base Tryz.prog e47 := b46.add (PureFn.auto b46.m b46.T b46.Q b46.P)
theorem s48_1105 : S1105 (autoF e47 105) := ev1105 e47 rfl ⟨autoF e46 106, rfl, s47_1106⟩
noncomputable def e48 : Env := e47.add 105 (autoF e47 105)
theorem b48 : Base Tryz.prog e48 := b47.add (PureFn.auto b47.m b47.T b47.Q b47.P)
theorem s49_1104 : S1104 (autoF e48 104) := ev1104 e48 rfl ⟨autoF e47 105, rfl, s48_1105⟩
noncomputable def e49 : Env := e48.add 104 (autoF e48 104)
theorem b49 : Base Tryz.prog e49 := b48.add (PureFn.auto b48.m b48.T b48.Q b48.P)
theorem s50_1103 : S1103 (autoF e49 103) := ev1103 e49 rfl ⟨autoF e48 104, rfl, s49_1104⟩
noncomputable def e50 : Env := e49.add 103 (autoF e49 103)
theorem b50 : Base Tryz.prog e50 := b49.add (PureFn.auto b49.m b49.T b49.Q b49.P)
theorem s51_1063 : S1063 (autoF e50 63) := ev1063 e50 rfl ⟨autoF e49 103, rfl, s50_1103⟩
noncomputable def e51 : Env := e50.add 63 (autoF e50 63)
theorem b51 : Base Tryz.prog e51 := b50.add (PureFn.auto b50.m b50.T b50.Q b50.P)
theorem s52_1062 : S1062 (autoF e51 62) := ev1062 e51 rfl ⟨autoF e50 63, rfl, s51_1063⟩
noncomputable def e52 : Env := e51.add 62 (autoF e51 62)
theorem b52 : Base Tryz.prog e52 := b51.add (PureFn.auto b51.m b51.T b51.Q b51.P)
theorem s53_1102 : S1102 (autoF e52 102) := ev1102 e52 rfl rfl rfl rfl rfl rfl rfl ⟨autoF e43 141, rfl, s44_1141⟩ ⟨autoF e44 142, rfl, s45_1142⟩
noncomputable def e53 : Env := e52.add 102 (autoF e52 102)
theorem b53 : Base Tryz.prog e53 := b52.add (PureFn.auto b52.m b52.T b52.Q b52.P)
theorem s54_1061 : S1061 (autoF e53 61) := ev1061 e53 rfl rfl rfl ⟨autoF e52 102, rfl, s53_1102⟩
noncomputable def e54 : Env := e53.add 61 (autoF e53 61)
theorem b54 : Base Tryz.prog e54 := b53.add (PureFn.auto b53.m b53.T b53.Q b53.P)
theorem s55_1060 : STrSl (autoF e54 60) := ev1060 e54 rfl rfl ⟨autoF e53 61, rfl, s54_1061⟩ ⟨autoF e51 62, rfl, s52_1062⟩
noncomputable def e55 : Env := e54.add 60 (autoF e54 60)
theorem b55 : Base Tryz.prog e55 := b54.add (PureFn.auto b54.m b54.T b54.Q b54.P)
theorem s56_1025 : SDoorSl (autoF e55 25) := ev1025 e55 rfl rfl ⟨autoF e54 60, rfl, s55_1060⟩
noncomputable def e56 : Env := e55.add 25 (autoF e55 25)
theorem b56 : Base Tryz.prog e56 := b55.add (PureFn.auto b55.m b55.T b55.Q b55.P)
theorem s57_9 : S9l (autoF e56 22) := ev9l e56 rfl ⟨autoF e34 26, rfl, s35_1026⟩ ⟨autoF e32 24, rfl, s33_1024⟩ ⟨autoF e55 25, rfl, s56_1025⟩ rfl rfl rfl
noncomputable def e57 : Env := e56.add 22 (autoF e56 22)
theorem b57 : Base Tryz.prog e57 := b56.add (PureFn.auto b56.m b56.T b56.Q b56.P)
theorem s58_13 : S13l (autoF e57 20) := ev13l e57 rfl ⟨autoF e34 26, rfl, s35_1026⟩ ⟨autoF e30 23, rfl, s31_1023⟩ ⟨autoF e55 25, rfl, s56_1025⟩ rfl rfl rfl
noncomputable def e58 : Env := e57.add 20 (autoF e57 20)
theorem b58 : Base Tryz.prog e58 := b57.add (PureFn.auto b57.m b57.T b57.Q b57.P)
theorem s59_1016 : S1016l (autoF e58 16) := ev1016l e58 rfl ⟨autoF e30 23, rfl, s31_1023⟩ ⟨autoF e32 24, rfl, s33_1024⟩ ⟨autoF e55 25, rfl, s56_1025⟩ rfl rfl rfl
noncomputable def e59 : Env := e58.add 16 (autoF e58 16)
theorem b59 : Base Tryz.prog e59 := b58.add (PureFn.auto b58.m b58.T b58.Q b58.P)
theorem pu1006 : PureFn Tryz.prog E0 6 F1003 := (pbOf b59 (fun l hn n => ev1006 e59 rfl rfl ⟨autoF e58 16, rfl, s59_1016⟩ l hn n)).glob rfl
theorem pu1007 : PureFn Tryz.prog E0 7 F8x := (ptOf b59 (fun s n => ev1007 e59 rfl ⟨autoF e57 20, rfl, s58_13⟩ s n)).glob rfl
theorem pu1008 : PureFn Tryz.prog E0 8 F8x := (ptOf b59 (fun s n => ev1008 e59 rfl ⟨autoF e56 22, rfl, s57_9⟩ s n)).glob rfl

end Go.Ev
