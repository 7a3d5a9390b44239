/- The seat's tables; the sanity check by evaluation; what the listed variables hold. -/
/- Environments entry by entry. -/
/- The chain of entries for the rows of swaps. -/
import Derived.Test.YtabmfgoghdokbaaGreatDoorCodesT
import Derived.Test.YtabmfgoghdokbaaGreatDoorCodes2T
import Derived.Test.YtabmfgoghdokbaaGreatDoorQA
import Derived.Test.YtabmfgoghdokbaaGreatDoorQB
import Derived.Test.YtabmfgoghdokbaaGreatDoorPA
import Derived.Laws.Externs
import Derived.Test.YtabmfgoghdokbaaGreatDoorPB
set_option linter.unusedSimpArgs false
set_option linter.unusedVariables false
namespace Go.Ev
open Go.Proofs

def codeTab : List (Nat × AFn) := [(6, c6), (7, c7), (8, c8), (9, c9), (13, c13), (18, c18), (19, c19), (20, c20), (21, c21), (22, c22), (23, c23), (24, c24), (25, c25), (26, c26), (27, c27), (28, c28), (29, c29), (30, c30), (31, c31), (33, c33), (34, c34), (36, c36), (38, c38), (44, c44), (45, c45), (52, c52), (53, c53), (54, c54), (55, c55), (56, c56), (57, c57), (58, c58), (59, c59), (60, c60), (61, c61), (62, c62), (63, c63), (64, c64), (65, c65), (66, c66), (67, c67), (68, c68), (69, c69), (70, c70), (71, c71), (72, c72), (73, c73), (74, c74), (76, c76), (77, c77), (78, c78), (79, c79), (80, c80), (81, c81), (82, c82), (85, c85), (87, c87), (88, c88), (90, c90), (97, c97), (99, c99), (112, c112), (114, c114), (116, c116), (117, c117), (118, c118), (119, c119), (120, c120), (121, c121), (122, c122), (123, c123), (127, c127), (128, c128), (129, c129), (130, c130), (131, c131), (133, c133), (134, c134), (135, c135), (143, c143), (144, c144), (145, c145), (149, c149), (150, c150), (155, c155), (158, c158), (163, c163), (164, c164), (172, c172), (174, c174), (125, c125), (154, c154)]

theorem codeTab_ok : ∀ p ∈ codeTab, codeOf Tryz.prog p.1 = some p.2 := by
  intro p hp
  simp only [codeTab, List.mem_cons, List.not_mem_nil, or_false] at hp
  rcases hp with rfl | rfl | rfl | rfl | rfl | rfl | rfl | rfl | rfl | rfl | rfl | rfl | rfl | rfl | rfl | rfl | rfl | rfl | rfl | rfl | rfl | rfl | rfl | rfl | rfl | rfl | rfl | rfl | rfl | rfl | rfl | rfl | rfl | rfl | rfl | rfl | rfl | rfl | rfl | rfl | rfl | rfl | rfl | rfl | rfl | rfl | rfl | rfl | rfl | rfl | rfl | rfl | rfl | rfl | rfl | rfl | rfl | rfl | rfl | rfl | rfl | rfl | rfl | rfl | rfl | rfl | rfl | rfl | rfl | rfl | rfl | rfl | rfl | rfl | rfl | rfl | rfl | rfl | rfl | rfl | rfl | rfl | rfl | rfl | rfl | rfl | rfl | rfl | rfl | rfl | rfl | rfl
  · exact code6
  · exact code7
  · exact code8
  · exact code9
  · exact code13
  · exact code18
  · exact code19
  · exact code20
  · exact code21
  · exact code22
  · exact code23
  · exact code24
  · exact code25
  · exact code26
  · exact code27
  · exact code28
  · exact code29
  · exact code30
  · exact code31
  · exact code33
  · exact code34
  · exact code36
  · exact code38
  · exact code44
  · exact code45
  · exact code52
  · exact code53
  · exact code54
  · exact code55
  · exact code56
  · exact code57
  · exact code58
  · exact code59
  · exact code60
  · exact code61
  · exact code62
  · exact code63
  · exact code64
  · exact code65
  · exact code66
  · exact code67
  · exact code68
  · exact code69
  · exact code70
  · exact code71
  · exact code72
  · exact code73
  · exact code74
  · exact code76
  · exact code77
  · exact code78
  · exact code79
  · exact code80
  · exact code81
  · exact code82
  · exact code85
  · exact code87
  · exact code88
  · exact code90
  · exact code97
  · exact code99
  · exact code112
  · exact code114
  · exact code116
  · exact code117
  · exact code118
  · exact code119
  · exact code120
  · exact code121
  · exact code122
  · exact code123
  · exact code127
  · exact code128
  · exact code129
  · exact code130
  · exact code131
  · exact code133
  · exact code134
  · exact code135
  · exact code143
  · exact code144
  · exact code145
  · exact code149
  · exact code150
  · exact code155
  · exact code158
  · exact code163
  · exact code164
  · exact code172
  · exact code174
  · exact code125
  · exact code154

def codeFn (f : Nat) : Option AFn := codeTab.lookup f

theorem codeFn_ok (f : Nat) (fn : AFn) (h : codeFn f = some fn) : codeOf Tryz.prog f = some fn := by
  unfold codeFn at h
  have key : ∀ (l : List (Nat × AFn)), l.lookup f = some fn → (f, fn) ∈ l := by
    intro l
    induction l with
    | nil => intro h; simp at h
    | cons p l ih =>
      obtain ⟨g, x⟩ := p
      intro h
      simp only [List.lookup] at h
      split at h
      · rename_i e
        have e' : f = g := by simpa using e
        simp only [Option.some.injEq] at h
        subst h; subst e'
        simp
      · simp [ih h]
  exact codeTab_ok (f, fn) (key _ h)

def lvl (E : Env) (L : List Nat) (N : Nat) : Nat → Env
  | 0 => E
  | k + 1 => { E with pure := fun f => if L.contains f then some (fun vs => evP (lvl E L N k) N f vs) else E.pure f }

theorem lvl_same (E : Env) (L : List Nat) (N : Nat) : ∀ k, (lvl E L N k).glob = E.glob ∧ (lvl E L N k).code = E.code ∧ (lvl E L N k).quiet = E.quiet
  | 0 => ⟨rfl, rfl, rfl⟩
  | _ + 1 => ⟨rfl, rfl, rfl⟩

theorem lvl_ok {P : Program} {E : Env} (hm : P.follows .mixedOrders = true) (hT : CodeT P E) (hQ : QuietOK P E) (hP : PureOK P E) (L : List Nat) (N : Nat) : ∀ k, PureOK P (lvl E L N k)
  | 0 => hP
  | k + 1 => by
    obtain ⟨h1, h2, h3⟩ := lvl_same E L N k
    intro f F hf
    simp only [lvl] at hf
    split at hf
    · simp only [Option.some.injEq] at hf
      subst hf
      have hT' : CodeT P (lvl E L N k) := by intro g fn hg; rw [h2] at hg; exact hT g fn hg
      have hQ' : QuietOK P (lvl E L N k) := by intro g hg; rw [h3] at hg; exact hQ g hg
      exact (evP_ok hm hT' hQ' (lvl_ok hm hT hQ hP L N k) N f).glob h1.symm
    · exact (hP f F hf).glob rfl

def unlit : DataW Unit → Lit
  | .lit l => l
  | _ => .nil

/-- A laid datum's plain values. -/
def lits : DataW Unit → List Lit
  | .agg l => l.map unlit
  | .slice l _ => l.map unlit
  | d => [unlit d]

/-- The cells of a variable that is laid. -/
def svD (d : DataW Unit) : List SV := match d with
  | .slice _ _ => [.sl ((lits d).map litS)]
  | d => (lits d).map litS

def globT (f : Nat) : List SV := match f with
  | 1 => svD YtabmfgoghdokbaaGreatDoor.Rows.laid_strings_asciiSpace
  | 5 => svD YtabmfgoghdokbaaGreatDoor.Rows.laid_internal_strconv_float32info
  | 6 => svD YtabmfgoghdokbaaGreatDoor.Rows.laid_internal_strconv_optimize
  | 7 => svD YtabmfgoghdokbaaGreatDoor.Rows.laid_internal_strconv_float64info
  | 8 => svD YtabmfgoghdokbaaGreatDoor.Rows.laid_internal_strconv_uint64pow10
  | 11 => svD YtabmfgoghdokbaaGreatDoor.Rows.laid_internal_strconv_float64pow10
  | _ => []

def E0 : Env := { glob := globT, pure := fun _ => none, code := codeFn, quiet := quietT }

def livesL : List Nat := [38, 85, 99, 133, 127, 145, 150, 155, 158, 163, 164, 135, 172, 174, 120, 121, 119, 118]

set_option maxRecDepth 100000 in
theorem lives_ev : evP (lvl E0 livesL 200 12) 200 25 [] = some (.sv (.bool true)) := by kernel_rfl

theorem follows : Tryz.prog.follows .mixedOrders = true := by kernel_rfl

theorem b0 : Base Tryz.prog E0 := ⟨follows, codeT_of codeFn_ok, quiet_ok E0 rfl, fun f F h => by cases h⟩

theorem p25 (E : Env) (hE : E.glob = globT) : PureFn Tryz.prog E 25 F25 := by
  have h : PureFn Tryz.prog (lvl E0 livesL 200 12) 25 (evP (lvl E0 livesL 200 12) 200 25) := by
    obtain ⟨h1, h2, h3⟩ := lvl_same E0 livesL 200 12
    exact evP_ok follows (fun g fn hg => b0.T g fn (by rw [h2] at hg; exact hg)) (fun g hg => b0.Q g (by rw [h3] at hg; exact hg)) (lvl_ok follows b0.T b0.Q b0.P livesL 200 12) 200 25
  refine (h.glob (E' := E) (by rw [hE, (lvl_same E0 livesL 200 12).1]; rfl)).mono fun vs r hr => ?_
  unfold F25 at hr
  split at hr
  · rw [lives_ev]; exact hr
  · cases hr

theorem p75 (E : Env) : PureFn Tryz.prog E 75 F75 := by
  intro vs r hF F0 w us hG hw hs hr
  unfold F75 at hF
  split at hF
  · rename_i b
    simp only [Option.some.injEq] at hF; subst hF
    have h0 := hr 0 (.flt .f64 b) rfl
    have hsz : us.size = 1 := by simpa using hs
    obtain ⟨l⟩ := us
    match l, hsz with
    | [u], _ =>
      have hu : u = .float .f64 b := by
        have : RepS F0 (.flt .f64 b) u := by simpa using h0
        cases this; rfl
      subst hu
      refine .inl ⟨.int .u64 b, w, ?_, ⟨F0, [], fun _ => none⟩, ⟨rfl, rfl, rfl, Nat.le_refl _, fun _ _ => rfl, fun _ _ _ h => h, fun _ _ _ _ h => h, hw, rfl, fun _ _ => rfl, fun _ _ _ h => by cases h⟩, .sv _ _ _ (.int _ _)⟩
      rw [run_callFunc_extern Tryz.func75 (by kernel_rfl) (by kernel_rfl) (by kernel_rfl) (e := Extern.MathFloatBits.float64bits) (by kernel_rfl)]
      rfl
  · cases hF

def spCheck (l : List SV) : Bool := (List.range 128).all fun k => match l[k]? with
  | some (.int .u8 n) => n == ((if (decide (9 ≤ k) && decide (k ≤ 13)) || k == 32 then 1 else 0 : Nat) : Int)
  | _ => false

theorem spCheck_ok : spCheck (globT 1) = true := by kernel_rfl

theorem spT0 : SpT E0 := by
  intro c hc
  have h := List.all_eq_true.1 spCheck_ok c.toNat (List.mem_range.2 hc)
  show (globT 1).drop c.toNat = _
  have hl : c.toNat < (globT 1).length := by
    refine Decidable.byContradiction fun hn => ?_
    rw [List.getElem?_eq_none (by omega)] at h
    cases h
  rw [List.drop_eq_getElem_cons hl]
  congr 1
  rw [List.getElem?_eq_getElem hl] at h
  split at h
  · rename_i n hx
    simp only [Option.some.injEq] at hx
    rw [hx]
    have : n = (spV c : Nat) := by
      simp only [beq_iff_eq] at h
      rw [h]; unfold spV spC; rfl
    rw [this]
  · cases h

end Go.Ev

set_option linter.unusedSimpArgs false
set_option linter.unusedVariables false
namespace Go.Ev
open Go.Proofs

theorem Base.add {P : Program} {E : Env} (B : Base P E) {f : Nat} {F : List SV → Option AV} (hF : PureFn P E f F) : Base P (E.add f F) := ⟨B.m, fun g fn h => B.T g fn h, fun g h => B.Q g h, B.P.add hF⟩

theorem p27 {P : Program} {E : Env} (B : Base P E) (h : E.code 27 = some c27) : PureFn P E 27 F27 := pure27 B.m B.T B.Q B.P h
theorem p26 {P : Program} {E : Env} (B : Base P E) (h : E.code 26 = some c26) (h75 : E.pure 75 = some F75) : PureFn P E 26 F26 := pure26 B.m B.T B.Q B.P h h75

end Go.Ev

set_option linter.unusedSimpArgs false
set_option linter.unusedVariables false
namespace Go.Ev
open Go.Proofs

noncomputable def e1 : Env := E0.add 134 F134
theorem b1 : Base Tryz.prog e1 := b0.add (p134 b0 rfl)
noncomputable def e2 : Env := e1.add 123 F123
theorem b2 : Base Tryz.prog e2 := b1.add (p123 b1 rfl rfl)
noncomputable def e3 : Env := e2.add 81 F81
theorem b3 : Base Tryz.prog e3 := b2.add (p81 b2 rfl rfl)
noncomputable def e4 : Env := e3.add 97 F97
theorem b4 : Base Tryz.prog e4 := b3.add (p97 b3 rfl)
noncomputable def e5 : Env := e4.add 45 F45
theorem b5 : Base Tryz.prog e5 := b4.add (p45 b4 rfl rfl)
noncomputable def e6 : Env := e5.add 54 F54
theorem b6 : Base Tryz.prog e6 := b5.add (p54 b5 rfl)
noncomputable def e7 : Env := e6.add 78 F78
theorem b7 : Base Tryz.prog e7 := b6.add (p78 b6 rfl)
noncomputable def e8 : Env := e7.add 55 F55
theorem b8 : Base Tryz.prog e8 := b7.add (p55 b7 rfl)
noncomputable def e9 : Env := e8.add 57 F57
theorem b9 : Base Tryz.prog e9 := b8.add (p57 b8 rfl)
noncomputable def e10 : Env := e9.add 122 F122
theorem b10 : Base Tryz.prog e10 := b9.add (p122 b9 rfl)
noncomputable def e11 : Env := e10.add 28 F28
theorem b11 : Base Tryz.prog e11 := b10.add (p28 b10 rfl)
noncomputable def e12 : Env := e11.add 52 F52
theorem b12 : Base Tryz.prog e12 := b11.add (p52 b11 rfl)
noncomputable def e13 : Env := e12.add 33 F33
theorem b13 : Base Tryz.prog e13 := b12.add (p33 b12 rfl)
noncomputable def e14 : Env := e13.add 34 F34
theorem b14 : Base Tryz.prog e14 := b13.add (p34 b13 rfl)
noncomputable def e15 : Env := e14.add 36 F36
theorem b15 : Base Tryz.prog e15 := b14.add (p36 b14 rfl)
noncomputable def e16 : Env := e15.add 66 F66
theorem b16 : Base Tryz.prog e16 := b15.add (p66 b15 rfl)
noncomputable def e17 : Env := e16.add 38 F38
theorem b17 : Base Tryz.prog e17 := b16.add (p38 b16 rfl)
noncomputable def e18 : Env := e17.add 85 F85
theorem b18 : Base Tryz.prog e18 := b17.add (p85 b17 rfl)
noncomputable def e19 : Env := e18.add 99 F99
theorem b19 : Base Tryz.prog e19 := b18.add (p99 b18 rfl)
noncomputable def e20 : Env := e19.add 127 F127
theorem b20 : Base Tryz.prog e20 := b19.add (p127 b19 rfl spT0)
noncomputable def e21 : Env := e20.add 44 F44
theorem b21 : Base Tryz.prog e21 := b20.add (p44 b20 rfl)
noncomputable def e22 : Env := e21.add 58 F58
theorem b22 : Base Tryz.prog e22 := b21.add (p58 b21 rfl rfl)
noncomputable def e23 : Env := e22.add 30 F30
theorem b23 : Base Tryz.prog e23 := b22.add (p30 b22 rfl)
noncomputable def e24 : Env := e23.add 56 F56
theorem b24 : Base Tryz.prog e24 := b23.add (p56 b23 rfl rfl)
noncomputable def e25 : Env := e24.add 112 F112
theorem b25 : Base Tryz.prog e25 := b24.add (p112 b24 rfl rfl rfl)
noncomputable def e26 : Env := e25.add 53 F53
theorem b26 : Base Tryz.prog e26 := b25.add (p53 b25 rfl rfl rfl rfl)
noncomputable def e27 : Env := e26.add 125 F125
theorem b27 : Base Tryz.prog e27 := b26.add (p125 b26 rfl)
noncomputable def e28 : Env := e27.add 154 F154
theorem b28 : Base Tryz.prog e28 := b27.add (p154 b27 rfl rfl)
noncomputable def e29 : Env := e28.add 149 F149s
theorem b29 : Base Tryz.prog e29 := b28.add (p149s b28 rfl rfl)
noncomputable def e30 : Env := e29.add 143 F143s
theorem b30 : Base Tryz.prog e30 := b29.add (p143s b29 rfl rfl)
noncomputable def e31 : Env := e30.add 19 F19
theorem b31 : Base Tryz.prog e31 := b30.add (p19 b30 rfl rfl rfl rfl rfl rfl rfl rfl)
noncomputable def e32 : Env := e31.add 79 F79
theorem b32 : Base Tryz.prog e32 := b31.add (p79 b31 rfl rfl rfl rfl)
noncomputable def e33 : Env := e32.add 80 F80
theorem b33 : Base Tryz.prog e33 := b32.add (p80 b32 rfl rfl)
noncomputable def e34 : Env := e33.add 31 F31sw
theorem b34 : Base Tryz.prog e34 := b33.add (p31sw b33 rfl rfl rfl rfl rfl)
noncomputable def e35 : Env := e34.add 18 F18
theorem b35 : Base Tryz.prog e35 := b34.add (p18 b34 rfl rfl rfl rfl rfl)
noncomputable def e36 : Env := e35.add 21 F21
theorem b36 : Base Tryz.prog e36 := b35.add (p21 b35 rfl rfl rfl rfl rfl rfl)
noncomputable def e37 : Env := e36.add 129 F129
theorem b37 : Base Tryz.prog e37 := b36.add (p129 b36 rfl rfl rfl)
noncomputable def e38 : Env := e37.add 114 F114
theorem b38 : Base Tryz.prog e38 := b37.add (p114 b37 rfl rfl rfl rfl rfl rfl rfl rfl rfl rfl)
noncomputable def e39 : Env := e38.add 60 F60
theorem b39 : Base Tryz.prog e39 := b38.add (p60 b38 rfl rfl rfl rfl)
noncomputable def e40 : Env := e39.add 65 F65
theorem b40 : Base Tryz.prog e40 := b39.add (p65 b39 rfl)
noncomputable def e41 : Env := e40.add 64 F64
theorem b41 : Base Tryz.prog e41 := b40.add (p64 b40 rfl rfl)
noncomputable def e42 : Env := e41.add 63 F63
theorem b42 : Base Tryz.prog e42 := b41.add (p63 b41 rfl rfl)
noncomputable def e43 : Env := e42.add 62 F62
theorem b43 : Base Tryz.prog e43 := b42.add (p62 b42 rfl rfl)
noncomputable def e44 : Env := e43.add 61 F61
theorem b44 : Base Tryz.prog e44 := b43.add (p61 b43 rfl rfl)
noncomputable def e45 : Env := e44.add 59 F59
theorem b45 : Base Tryz.prog e45 := b44.add (p59 b44 rfl rfl rfl rfl)
noncomputable def e46 : Env := e45.add 20 F20
theorem b46 : Base Tryz.prog e46 := b45.add (p20 b45 rfl rfl rfl)
noncomputable def e47 : Env := e46.add 25 F25
theorem b47 : Base Tryz.prog e47 := b46.add (p25 e46 rfl)
noncomputable def e48 : Env := e47.add 75 F75
theorem b48 : Base Tryz.prog e48 := b47.add (p75 e47)
noncomputable def e49 : Env := e48.add 27 F27
theorem b49 : Base Tryz.prog e49 := b48.add (p27 b48 rfl)
noncomputable def e50 : Env := e49.add 26 F26
theorem b50 : Base Tryz.prog e50 := b49.add (p26 b49 rfl rfl)
noncomputable def e51 : Env := e50.add 9 F9sw
theorem b51 : Base Tryz.prog e51 := b50.add (p9sw b50 rfl rfl rfl rfl rfl rfl rfl)
noncomputable def e52 : Env := e51.add 13 F13sw
theorem b52 : Base Tryz.prog e52 := b51.add (p13sw b51 rfl rfl rfl rfl rfl rfl rfl)

end Go.Ev
