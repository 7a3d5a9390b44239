/- The seat's tables; the sanity check by evaluation; what the listed variables hold. -/
/- Environments entry by entry. -/
/- Entries of the counters of transformations: what is written is read. -/
/- Softirqs: the program's tree. -/
/- Tables of sockets: parts of a text, hexadecimal numbers, padding. -/
/- Tables of sockets: what is written, and what the reference reads. -/
/- Parts of a text, padding, hexadecimal numbers: the reference's functions. -/
/- Softirqs: what is written of rows. -/
/- Softirqs: what is written of rows, whole. -/
import Derived.Test.YtcjebcenbimcgaaGreatDoorDai
import Derived.Test.YtcjebcenbimcgaaGreatDoorDak
import Derived.Test.YtcjebcenbimcgaaGreatDoorDam
import Derived.Test.YtcjebcenbimcgaaGreatDoorDan
import Derived.Test.YtcjebcenbimcgaaGreatDoorDap
import Derived.Laws.Externs
import Derived.Test.YtcjebcenbimcgaaGreatDoorDao
import Derived.Test.YtcjebcenbimcgaaGreatDoorDal
import Derived.Test.YtcjebcenbimcgaaGreatDoorDag
import Derived.Test.YtcjebcenbimcgaaGreatDoorDaj
set_option linter.unusedSimpArgs false
set_option linter.unusedVariables false
namespace Go.Ev
open Go.Proofs

def codeTab : List (Nat × AFn) := [(15, c9), (19, c13), (38, c25), (39, c26), (40, c27), (41, c28), (46, c33), (49, c36), (51, c38), (57, c44), (58, c45), (79, c52), (104, c74), (80, c76), (106, c77), (78, c78), (109, c81), (114, c85), (116, c87), (117, c88), (119, c90), (126, c97), (128, c99), (184, c117), (185, c118), (186, c119), (187, c120), (188, c121), (189, c122), (81, c123), (190, c125), (152, c127), (159, c128), (200, c133), (146, c134), (201, c135), (213, c145), (223, c150), (228, c155), (232, c158), (237, c163), (238, c164), (246, c172), (248, c174), (59, c46), (48, c35), (42, c29), (44, c31), (107, c79), (108, c80), (120, c91), (4, c4), (5, c5), (20, c14), (21, c15), (22, c16), (23, c17), (56, c43), (60, c47), (61, c48), (62, c49), (63, c50), (64, c51), (129, c100), (130, c101), (131, c102), (132, c103), (133, c104), (134, c105), (135, c106), (136, c107), (137, c108), (138, c109), (139, c110), (140, c111)]

theorem codeTab_ok : ∀ p ∈ codeTab, codeOf Tryz.prog p.1 = some p.2 := by
  intro p hp
  simp only [codeTab, List.mem_cons, List.not_mem_nil, or_false] at hp
  rcases hp with rfl | rfl | rfl | rfl | rfl | rfl | rfl | rfl | rfl | rfl | rfl | rfl | rfl | rfl | rfl | rfl | rfl | rfl | rfl | rfl | rfl | rfl | rfl | rfl | rfl | rfl | rfl | rfl | rfl | rfl | rfl | rfl | rfl | rfl | rfl | rfl | rfl | rfl | rfl | rfl | rfl | rfl | rfl | rfl | rfl | rfl | rfl | rfl | rfl | rfl | rfl | rfl | rfl | rfl | rfl | rfl | rfl | rfl | rfl | rfl | rfl | rfl | rfl | rfl | rfl | rfl | rfl | rfl | rfl | rfl | rfl | rfl | rfl | rfl | rfl
  · exact code9
  · exact code13
  · exact code25
  · exact code26
  · exact code27
  · exact code28
  · exact code33
  · exact code36
  · exact code38
  · exact code44
  · exact code45
  · exact code52
  · exact code74
  · exact code76
  · exact code77
  · exact code78
  · exact code81
  · exact code85
  · exact code87
  · exact code88
  · exact code90
  · exact code97
  · exact code99
  · exact code117
  · exact code118
  · exact code119
  · exact code120
  · exact code121
  · exact code122
  · exact code123
  · exact code125
  · exact code127
  · exact code128
  · exact code133
  · exact code134
  · exact code135
  · exact code145
  · exact code150
  · exact code155
  · exact code158
  · exact code163
  · exact code164
  · exact code172
  · exact code174
  · exact code46
  · exact code35
  · exact code29
  · exact code31
  · exact code79
  · exact code80
  · exact code91
  · exact code4
  · exact code5
  · exact code14
  · exact code15
  · exact code16
  · exact code17
  · exact code43
  · exact code47
  · exact code48
  · exact code49
  · exact code50
  · exact code51
  · exact code100
  · exact code101
  · exact code102
  · exact code103
  · exact code104
  · exact code105
  · exact code106
  · exact code107
  · exact code108
  · exact code109
  · exact code110
  · exact code111

def codeFn (f : Nat) : Option AFn := codeTab.lookup f

theorem codeFn_ok (f : Nat) (fn : AFn) (h : codeFn f = some fn) : codeOf Tryz.prog f = some fn := by
  unfold codeFn at h
  have key : ∀ (l : List (Nat × AFn)), l.lookup f = some fn → (f, fn) ∈ l := by
    intro l
    induction l with
    | nil => intro h; simp at h
    | cons p l ih =>
      obtain ⟨g, x⟩ := p
      intro h
      simp only [List.lookup] at h
      split at h
      · rename_i e
        have e' : f = g := by simpa using e
        simp only [Option.some.injEq] at h
        subst h; subst e'
        simp
      · simp [ih h]
  exact codeTab_ok (f, fn) (key _ h)

def lvl (E : Env) (L : List Nat) (N : Nat) : Nat → Env
  | 0 => E
  | k + 1 => { E with pure := fun f => if L.contains f then some (fun vs => evP (lvl E L N k) N f vs) else E.pure f }

theorem lvl_same (E : Env) (L : List Nat) (N : Nat) : ∀ k, (lvl E L N k).glob = E.glob ∧ (lvl E L N k).code = E.code ∧ (lvl E L N k).quiet = E.quiet
  | 0 => ⟨rfl, rfl, rfl⟩
  | _ + 1 => ⟨rfl, rfl, rfl⟩

theorem lvl_ok {P : Program} {E : Env} (hm : P.follows .mixedOrders = true) (hT : CodeT P E) (hQ : QuietOK P E) (hP : PureOK P E) (L : List Nat) (N : Nat) : ∀ k, PureOK P (lvl E L N k)
  | 0 => hP
  | k + 1 => by
    obtain ⟨h1, h2, h3⟩ := lvl_same E L N k
    refine ⟨fun f F hf => ?_, fun f k hf => ?_⟩
    rotate_left
    · exact hP.2 f _ hf
    simp only [lvl] at hf
    split at hf
    · simp only [Option.some.injEq] at hf
      subst hf
      have hT' : CodeT P (lvl E L N k) := by intro g fn hg; rw [h2] at hg; exact hT g fn hg
      have hQ' : QuietOK P (lvl E L N k) := by intro g hg; rw [h3] at hg; exact hQ g hg
      exact (evP_ok hm hT' hQ' (lvl_ok hm hT hQ hP L N k) N f).glob h1.symm
    · exact (hP.1 f F hf).glob rfl

def unlit : DataW Unit → Lit
  | .lit l => l
  | _ => .nil

/-- A laid datum's plain values. -/
def lits : DataW Unit → List Lit
  | .agg l => l.map unlit
  | .slice l _ => l.map unlit
  | d => [unlit d]

/-- The cells of a variable that is laid. -/
def svD (d : DataW Unit) : List SV := match d with
  | .slice _ _ => [.sl ((lits d).map litS)]
  | d => (lits d).map litS

def globT (f : Nat) : List SV := match f with
  | 1 => svD YtcjebcenbimcgaaGreatDoor.Rows.laid_strings_asciiSpace
  | 7 => svD YtcjebcenbimcgaaGreatDoor.Rows.laid_internal_strconv_float32info
  | 8 => svD YtcjebcenbimcgaaGreatDoor.Rows.laid_internal_strconv_optimize
  | 9 => svD YtcjebcenbimcgaaGreatDoor.Rows.laid_internal_strconv_float64info
  | 10 => svD YtcjebcenbimcgaaGreatDoor.Rows.laid_internal_strconv_uint64pow10
  | 13 => svD YtcjebcenbimcgaaGreatDoor.Rows.laid_internal_strconv_float64pow10
  | _ => []

def E0 : Env := { glob := globT, pure := fun _ => none, code := codeFn, quiet := quietT, look := fun f => if f = 159 then some 3 else none }

def livesL : List Nat := [51, 114, 128, 200, 152, 213, 223, 228, 232, 237, 238, 201, 246, 248, 187, 188, 186, 185]

set_option maxRecDepth 100000 in
theorem lives_ev : evP (lvl E0 livesL 200 12) 200 38 [] = some (.sv (.bool true)) := by kernel_rfl

theorem follows : Tryz.prog.follows .mixedOrders = true := by kernel_rfl

theorem look0 : LookOK Tryz.prog E0 := by
  intro f k h b w u hu us hs h0
  have h' : (if f = 159 then some 3 else none) = some k := h
  split at h' <;> simp only [Option.some.injEq, reduceCtorEq] at h'
  rename_i e
  subst e; subst h'
  exact .inr ⟨159, us, by simp [callFunc, Tryz.func159, show (Tryz.f159.name == "runtime.NumGoroutine") = false by kernel_rfl, show Tryz.f159.name ≠ "runtime.NumGoroutine" from of_decide_eq_true (by kernel_rfl), Tryz.f159], (lookErr b w u hu us hs h0).mono fun e w' h => h⟩

theorem b0 : Base Tryz.prog E0 := ⟨follows, codeT_of codeFn_ok, quiet_ok E0 rfl, And.intro (fun f F h => by cases h) look0⟩

theorem p25 (E : Env) (hE : E.glob = globT) : PureFn Tryz.prog E 38 F25 := by
  have h : PureFn Tryz.prog (lvl E0 livesL 200 12) 38 (evP (lvl E0 livesL 200 12) 200 38) := by
    obtain ⟨h1, h2, h3⟩ := lvl_same E0 livesL 200 12
    exact evP_ok follows (fun g fn hg => b0.T g fn (by rw [h2] at hg; exact hg)) (fun g hg => b0.Q g (by rw [h3] at hg; exact hg)) (lvl_ok follows b0.T b0.Q b0.P livesL 200 12) 200 38
  refine (h.glob (E' := E) (by rw [hE, (lvl_same E0 livesL 200 12).1]; rfl)).mono fun vs r hr => ?_
  unfold F25 at hr
  split at hr
  · rw [lives_ev]; exact hr
  · cases hr

theorem p75 (E : Env) : PureFn Tryz.prog E 105 F75 := by
  intro vs r hF F0 w us hG hw hs hr
  unfold F75 at hF
  split at hF
  · rename_i b
    simp only [Option.some.injEq] at hF; subst hF
    have h0 := hr 0 (.flt .f64 b) rfl
    have hsz : us.size = 1 := by simpa using hs
    obtain ⟨l⟩ := us
    match l, hsz with
    | [u], _ =>
      have hu : u = .float .f64 b := by
        have : RepS F0 (.flt .f64 b) u := by simpa using h0
        cases this; rfl
      subst hu
      refine .inl ⟨.int .u64 b, w, ?_, ⟨F0, [], fun _ => none⟩, ⟨rfl, rfl, rfl, Nat.le_refl _, fun _ _ => rfl, fun _ _ _ h => h, fun _ _ _ _ h => h, hw, rfl, fun _ _ => rfl, fun _ _ _ h => by cases h⟩, .sv _ _ _ (.int _ _)⟩
      rw [run_callFunc_extern Tryz.func105 (by kernel_rfl) (by kernel_rfl) (by kernel_rfl) (e := Extern.MathFloatBits.float64bits) (by kernel_rfl)]
      rfl
  · cases hF

def spCheck (l : List SV) : Bool := (List.range 128).all fun k => match l[k]? with
  | some (.int .u8 n) => n == ((if (decide (9 ≤ k) && decide (k ≤ 13)) || k == 32 then 1 else 0 : Nat) : Int)
  | _ => false

theorem spCheck_ok : spCheck (globT 1) = true := by kernel_rfl

theorem spT0 : SpT E0 := by
  intro c hc
  have h := List.all_eq_true.1 spCheck_ok c.toNat (List.mem_range.2 hc)
  show (globT 1).drop c.toNat = _
  have hl : c.toNat < (globT 1).length := by
    refine Decidable.byContradiction fun hn => ?_
    rw [List.getElem?_eq_none (by omega)] at h
    cases h
  rw [List.drop_eq_getElem_cons hl]
  congr 1
  rw [List.getElem?_eq_getElem hl] at h
  split at h
  · rename_i n hx
    simp only [Option.some.injEq] at hx
    rw [hx]
    have : n = (spV c : Nat) := by
      simp only [beq_iff_eq] at h
      rw [h]; unfold spV spC; rfl
    rw [this]
  · cases h

end Go.Ev

set_option linter.unusedSimpArgs false
set_option linter.unusedVariables false
namespace Go.Ev
open Go.Proofs

theorem Base.add {P : Program} {E : Env} (B : Base P E) {f : Nat} {F : List SV → Option AV} (hF : PureFn P E f F) : Base P (E.add f F) := ⟨B.m, fun g fn h => B.T g fn h, fun g h => B.Q g h, B.P.add hF⟩

theorem p27 {P : Program} {E : Env} (B : Base P E) (h : E.code 40 = some c27) : PureFn P E 40 F27 := pure27 B.m B.T B.Q B.P h
theorem p26 {P : Program} {E : Env} (B : Base P E) (h : E.code 39 = some c26) (h75 : E.pure 105 = some F75) : PureFn P E 39 F26 := pure26 B.m B.T B.Q B.P h h75

end Go.Ev


set_option linter.unusedSimpArgs false
set_option linter.unusedVariables false
namespace Go.Ev
open Go.Proofs
variable {P : Program} {E : Env}

end Go.Ev

set_option linter.unusedSimpArgs false
set_option linter.unusedVariables false
namespace Go.Ev
open Go.Proofs

/-- A number as a node. -/
def uN (n : Nat) : SV := nodeV [] 3 false 0 (n : Int) 0 [] []

def SUn (F : List SV → Option AV) : Prop := ∀ n : Nat, F [.int .u64 (n : Int)] = some (.sv (uN n))

theorem ev102 (E : Env) (h : E.code 131 = some c102) : SUn (autoF E 131) := by
  intro n
  refine autoA_sv (n := 1) ?_ rfl
  unfold evPA
  simp only [h]
  unfold uN nodeV
  simp [c102]

theorem ev103 (E : Env) (h : E.code 132 = some c103) : SUn (autoF E 132) := by
  intro n
  refine autoA_sv (n := 1) ?_ rfl
  unfold evPA
  simp only [h]
  unfold uN nodeV
  simp [c103]

theorem ev104 (E : Env) (h : E.code 133 = some c104) : SUn (autoF E 133) := by
  intro n
  refine autoA_sv (n := 1) ?_ rfl
  unfold evPA
  simp only [h]
  unfold uN nodeV
  simp [c104]

theorem ev105 (E : Env) (h : E.code 134 = some c105) : SUn (autoF E 134) := by
  intro n
  refine autoA_sv (n := 1) ?_ rfl
  unfold evPA
  simp only [h]
  unfold uN nodeV
  simp [c105]

theorem ev106 (E : Env) (h : E.code 135 = some c106) : SUn (autoF E 135) := by
  intro n
  refine autoA_sv (n := 1) ?_ rfl
  unfold evPA
  simp only [h]
  unfold uN nodeV
  simp [c106]

theorem ev107 (E : Env) (h : E.code 136 = some c107) : SUn (autoF E 136) := by
  intro n
  refine autoA_sv (n := 1) ?_ rfl
  unfold evPA
  simp only [h]
  unfold uN nodeV
  simp [c107]

theorem ev108 (E : Env) (h : E.code 137 = some c108) : SUn (autoF E 137) := by
  intro n
  refine autoA_sv (n := 1) ?_ rfl
  unfold evPA
  simp only [h]
  unfold uN nodeV
  simp [c108]

theorem ev109 (E : Env) (h : E.code 138 = some c109) : SUn (autoF E 138) := by
  intro n
  refine autoA_sv (n := 1) ?_ rfl
  unfold evPA
  simp only [h]
  unfold uN nodeV
  simp [c109]

theorem ev110 (E : Env) (h : E.code 139 = some c110) : SUn (autoF E 139) := by
  intro n
  refine autoA_sv (n := 1) ?_ rfl
  unfold evPA
  simp only [h]
  unfold uN nodeV
  simp [c110]

theorem ev111 (E : Env) (h : E.code 140 = some c111) : SUn (autoF E 140) := by
  intro n
  refine autoA_sv (n := 1) ?_ rfl
  unfold evPA
  simp only [h]
  unfold uN nodeV
  simp [c111]

def siFn : List Nat := [131, 132, 133, 134, 135, 136, 137, 138, 139, 140]

def accS (xs : List SV) : Cell := match xs with | [] => .sv .nilS | x :: l => .own 38 (x :: l)

def st101 (nm : List UInt8) (g : Nat) (xs acc : List SV) (i : Nat) (z : Box) : SA := { nt := 28, tm := [(14, .sv (.int .i64 i)), (13, .sv (.int .i64 xs.length)), (12, .sv (.sl xs)), (7, .ptr 1 0), (6, .ptr 0 0), (2, .sv (.fn g [] []))], lz := none, bx := [z, .live [.sv (.str nm), .sv (.int .i64 6), .sv (.bool false), .sv (.int .i64 0), .sv (.int .u64 0), .sv (.flt .f64 0), .sv (.str []), accS acc]], df := [] }

def S101 (F : List SV → Option AV) : Prop := ∀ (g : Nat) (nm : List UInt8) (ns : List Nat), g ∈ siFn → ns.length < 100000000 → F [.str nm, .sl (u64s ns), .fn g [] []] = some (.sv (nodeV nm 6 false 0 0 0 [] (ns.map uN)))

set_option maxHeartbeats 4000000 in
theorem step101 (E : Env) (cf : CallF) (m : Nat) (G : List SV → Option AV) (nm : List UInt8) (g : Nat) (hG : E.pure g = some G) (xs acc : List SV) (ha : acc.length < 1000000000) (i : Nat) (hlt : i < xs.length) (hxl : xs.length < 100000000) (n : Nat) (hc : ∀ h : i < xs.length, xs[i]'h = .int .u64 (n : Int)) (hgx : G [.int .u64 (n : Int)] = some (.sv (uN n))) (z : Box) :
    evCA E cf m b101_0 (st101 nm g xs acc i z) = some (.normal, st101 nm g xs (acc ++ [uN n]) (i + 1) z) := by
  have hw : IntKind.i64.wrap ((i : Int) + 1) = ((i + 1 : Nat) : Int) := by rw [IntKind.wrap_i64]; omega
  have hl1 : (acc.length + 1) * 96 ≤ 140737488355328 := by omega
  have hl2 : acc.length + 1 ≤ 140737488355328 := by omega
  unfold uN nodeV at *
  cases acc with
  | nil => simp [st101, b101_0, hlt, hc, hG, hgx, hw, accS]
  | cons y ys =>
    simp only [List.length_cons] at hl1 hl2
    simp [st101, b101_0, hlt, hc, hG, hgx, hw, accS, hl1, hl2]

theorem loop101 (E : Env) (cf : CallF) (m : Nat) (G : List SV → Option AV) (nm : List UInt8) (g : Nat) (hG : E.pure g = some G) (hg : SUn G) (xs : List SV) (hxl : xs.length < 100000000) (z : Box) :
    ∀ (rest : List Nat) (pre acc : List SV) (i : Nat) (k : Nat), xs = pre ++ u64s rest → i = pre.length → acc.length = i → rest.length < k →
      roundsA (evCA E cf m b101_0) k (st101 nm g xs acc i z) = some (.exit 0, { nt := 28, tm := [(7, .ptr 1 0), (6, .ptr 0 0)], lz := none, bx := [z, .live [.sv (.str nm), .sv (.int .i64 6), .sv (.bool false), .sv (.int .i64 0), .sv (.int .u64 0), .sv (.flt .f64 0), .sv (.str []), accS (acc ++ rest.map uN)]], df := [] }) := by
  intro rest
  induction rest with
  | nil =>
    intro pre acc i k hsp hi ha hk
    obtain ⟨k, rfl⟩ : ∃ k', k = k' + 1 := ⟨k - 1, by omega⟩
    have hlt : ¬ (i < xs.length) := by rw [hsp, hi]; simp [u64s]
    refine roundsA_out ?_ (by simp)
    simp [st101, b101_0, hlt]
  | cons n rest ih =>
    intro pre acc i k hsp hi ha hk
    obtain ⟨k, rfl⟩ : ∃ k', k = k' + 1 := ⟨k - 1, by omega⟩
    have hlt : i < xs.length := by rw [hsp, hi]; simp [u64s]
    have hc : ∀ h : i < xs.length, xs[i]'h = .int .u64 (n : Int) := by subst hi; subst hsp; simp [u64s]
    rw [roundsA_step (step101 E cf m G nm g hG xs acc (by omega) i hlt hxl n hc (hg n) z)]
    rw [ih (pre ++ [.int .u64 (n : Int)]) (acc ++ [uN n]) (i + 1) k (by rw [hsp]; simp [u64s]) (by simp [hi]) (by simp [ha]) (by simp at hk; omega)]
    simp

theorem ev101 (E : Env) (h : E.code 130 = some c101) (h102 : Has E 131 SUn) (h103 : Has E 132 SUn) (h104 : Has E 133 SUn) (h105 : Has E 134 SUn) (h106 : Has E 135 SUn) (h107 : Has E 136 SUn) (h108 : Has E 137 SUn) (h109 : Has E 138 SUn) (h110 : Has E 139 SUn) (h111 : Has E 140 SUn) : S101 (autoF E 130) := by
  intro g nm ns hg hl
  obtain ⟨G, hG, hgn⟩ : Has E g SUn := by
    simp only [siFn, List.mem_cons, List.not_mem_nil, or_false] at hg
    rcases hg with rfl | rfl | rfl | rfl | rfl | rfl | rfl | rfl | rfl | rfl <;> assumption
  have he := loop101 E (evF E (ns.length + 1)) (ns.length + 1) G nm g hG hgn (u64s ns) (by simpa [u64s] using hl) (.live [.sv (.str []), .sv (.int .i64 0), .sv (.bool false), .sv (.int .i64 0), .sv (.int .u64 0), .sv (.flt .f64 0), .sv (.str []), .sv .nilS]) ns [] [] 0 (ns.length + 1) rfl rfl rfl (by omega)
  refine autoA_sv (n := ns.length + 1) ?_ rfl
  unfold evPA
  simp only [h]
  rw [List.nil_append] at he
  simp only [st101, accS, Int.ofNat_zero, Int.natCast_zero] at he
  generalize ns.map uN = ks at he ⊢
  generalize u64s ns = xs at he ⊢
  cases ks with
  | nil => simp only [accS] at he; simp [c101, he, nodeV]
  | cons y ys => simp only [accS] at he; simp [c101, he, nodeV]

/-- What the program reads of softirqs. -/
def siVal (a : Nat → List Nat) : List SV := [.sl (u64s (a 0)), .sl (u64s (a 1)), .sl (u64s (a 2)), .sl (u64s (a 3)), .sl (u64s (a 4)), .sl (u64s (a 5)), .sl (u64s (a 6)), .sl (u64s (a 7)), .sl (u64s (a 8)), .sl (u64s (a 9))]

/-- Softirqs as a tree. -/
def siTree (a : Nat → List Nat) : SV := nodeV [] 8 false 0 0 0 [] [nodeV [72, 105] 6 false 0 0 0 [] ((a 0).map uN), nodeV [84, 105, 109, 101, 114] 6 false 0 0 0 [] ((a 1).map uN), nodeV [78, 101, 116, 84, 120] 6 false 0 0 0 [] ((a 2).map uN), nodeV [78, 101, 116, 82, 120] 6 false 0 0 0 [] ((a 3).map uN), nodeV [66, 108, 111, 99, 107] 6 false 0 0 0 [] ((a 4).map uN), nodeV [73, 82, 81, 80, 111, 108, 108] 6 false 0 0 0 [] ((a 5).map uN), nodeV [84, 97, 115, 107, 108, 101, 116] 6 false 0 0 0 [] ((a 6).map uN), nodeV [83, 99, 104, 101, 100] 6 false 0 0 0 [] ((a 7).map uN), nodeV [72, 82, 84, 105, 109, 101, 114] 6 false 0 0 0 [] ((a 8).map uN), nodeV [82, 67, 85] 6 false 0 0 0 [] ((a 9).map uN)]

def S50 (F : List SV → Option AV) : Prop := ∀ a : Nat → List Nat, (∀ i, i < 10 → (a i).length < 100000000) → F [.str [], .agg (siVal a)] = some (.sv (siTree a))

set_option maxHeartbeats 16000000 in
theorem ev50 (E : Env) (h : E.code 63 = some c50) (h01 : Has E 130 S101) : S50 (autoF E 63) := by
  obtain ⟨F, hp, hF⟩ := h01
  intro a ha
  have k0 := hF 131 [72, 105] (a 0) (by simp [siFn]) (ha 0 (by omega))
  have k1 := hF 132 [84, 105, 109, 101, 114] (a 1) (by simp [siFn]) (ha 1 (by omega))
  have k2 := hF 133 [78, 101, 116, 84, 120] (a 2) (by simp [siFn]) (ha 2 (by omega))
  have k3 := hF 134 [78, 101, 116, 82, 120] (a 3) (by simp [siFn]) (ha 3 (by omega))
  have k4 := hF 135 [66, 108, 111, 99, 107] (a 4) (by simp [siFn]) (ha 4 (by omega))
  have k5 := hF 136 [73, 82, 81, 80, 111, 108, 108] (a 5) (by simp [siFn]) (ha 5 (by omega))
  have k6 := hF 137 [84, 97, 115, 107, 108, 101, 116] (a 6) (by simp [siFn]) (ha 6 (by omega))
  have k7 := hF 138 [83, 99, 104, 101, 100] (a 7) (by simp [siFn]) (ha 7 (by omega))
  have k8 := hF 139 [72, 82, 84, 105, 109, 101, 114] (a 8) (by simp [siFn]) (ha 8 (by omega))
  have k9 := hF 140 [82, 67, 85] (a 9) (by simp [siFn]) (ha 9 (by omega))
  refine autoA_sv (n := 1) ?_ rfl
  unfold evPA
  simp only [h]
  unfold siTree siVal nodeV at *
  generalize (a 0).map uN = m0 at *
  generalize u64s (a 0) = x0 at *
  generalize (a 1).map uN = m1 at *
  generalize u64s (a 1) = x1 at *
  generalize (a 2).map uN = m2 at *
  generalize u64s (a 2) = x2 at *
  generalize (a 3).map uN = m3 at *
  generalize u64s (a 3) = x3 at *
  generalize (a 4).map uN = m4 at *
  generalize u64s (a 4) = x4 at *
  generalize (a 5).map uN = m5 at *
  generalize u64s (a 5) = x5 at *
  generalize (a 6).map uN = m6 at *
  generalize u64s (a 6) = x6 at *
  generalize (a 7).map uN = m7 at *
  generalize u64s (a 7) = x7 at *
  generalize (a 8).map uN = m8 at *
  generalize u64s (a 8) = x8 at *
  generalize (a 9).map uN = m9 at *
  generalize u64s (a 9) = x9 at *
  simp (maxSteps := 2000000) [c50, hp, k0, k1, k2, k3, k4, k5, k6, k7, k8, k9]

def S49 (F : List SV → Option AV) : Prop := ∀ a : Nat → List Nat, (∀ i, i < 10 → (a i).length < 100000000) → F [.agg (siVal a)] = some (.sv (siTree a))

theorem ev49 (E : Env) (h : E.code 62 = some c49) (h50 : Has E 63 S50) : S49 (autoF E 62) := by
  obtain ⟨F, hp, hF⟩ := h50
  intro a ha
  have hF1 := hF a ha
  refine autoA_sv (n := 1) ?_ rfl
  unfold evPA
  simp only [h]
  unfold siTree siVal nodeV at *
  generalize (a 0).map uN = m0 at *
  generalize u64s (a 0) = x0 at *
  generalize (a 1).map uN = m1 at *
  generalize u64s (a 1) = x1 at *
  generalize (a 2).map uN = m2 at *
  generalize u64s (a 2) = x2 at *
  generalize (a 3).map uN = m3 at *
  generalize u64s (a 3) = x3 at *
  generalize (a 4).map uN = m4 at *
  generalize u64s (a 4) = x4 at *
  generalize (a 5).map uN = m5 at *
  generalize u64s (a 5) = x5 at *
  generalize (a 6).map uN = m6 at *
  generalize u64s (a 6) = x6 at *
  generalize (a 7).map uN = m7 at *
  generalize u64s (a 7) = x7 at *
  generalize (a 8).map uN = m8 at *
  generalize u64s (a 8) = x8 at *
  generalize (a 9).map uN = m9 at *
  generalize u64s (a 9) = x9 at *
  simp [c49, hp, hF1]

end Go.Ev

set_option linter.unusedSimpArgs false
set_option linter.unusedVariables false
namespace Go.Ev
open Go.Proofs

/-! ### Parts between a sign -/

def partG (b : Nat) (cur : List UInt8) : List UInt8 → List (List UInt8)
  | [] => [cur]
  | c :: cs => if c.toNat = b then cur :: partG b [] cs else partG b (cur ++ [c]) cs

def partI (b : Nat) (cur : List UInt8) : List UInt8 → List (List UInt8)
  | [] => []
  | c :: cs => if c.toNat = b then cur :: partI b [] cs else partI b (cur ++ [c]) cs

def partE (b : Nat) (cur : List UInt8) : List UInt8 → List UInt8
  | [] => cur
  | c :: cs => if c.toNat = b then partE b [] cs else partE b (cur ++ [c]) cs

theorem partG_eq (b : Nat) : ∀ (s cur : List UInt8), partG b cur s = partI b cur s ++ [partE b cur s]
  | [], cur => rfl
  | c :: s, cur => by
    simp only [partG, partI, partE]
    split
    · rw [partG_eq b s]; rfl
    · rw [partG_eq b s]

theorem partI_len (b : Nat) : ∀ (s cur : List UInt8), (partI b cur s).length ≤ s.length
  | [], cur => by simp [partI]
  | c :: s, cur => by
    simp only [partI]
    split
    · have := partI_len b s []; simp; omega
    · have := partI_len b s (cur ++ [c]); simp; omega

theorem partE_len (b : Nat) : ∀ (s cur : List UInt8), (partE b cur s).length ≤ cur.length + s.length
  | [], cur => by simp [partE]
  | c :: s, cur => by
    simp only [partE]
    split
    · have := partE_len b s []; simp at this ⊢; omega
    · have := partE_len b s (cur ++ [c]); simp at this ⊢; omega

theorem partG_mem (b : Nat) : ∀ (s cur : List UInt8), ∀ x ∈ partG b cur s, x.length ≤ cur.length + s.length
  | [], cur => by simp [partG]
  | c :: s, cur => by
    simp only [partG]
    split
    · intro x hx
      rcases List.mem_cons.1 hx with rfl | hx
      · omega
      · have := partG_mem b s [] x hx; simp at this ⊢; omega
    · intro x hx
      have := partG_mem b s (cur ++ [c]) x hx; simp at this ⊢; omega

theorem partG_no (b : Nat) : ∀ (w cur rest : List UInt8), (∀ c ∈ w, c.toNat ≠ b) → partG b cur (w ++ rest) = partG b (cur ++ w) rest
  | [], cur, rest, _ => by simp
  | c :: w, cur, rest, h => by
    simp only [List.cons_append, partG]
    rw [if_neg (h c (by simp)), partG_no b w (cur ++ [c]) rest (fun x hx => h x (by simp [hx]))]
    simp

theorem partG_two {b : UInt8} {w v : List UInt8} (hw : ∀ c ∈ w, c.toNat ≠ b.toNat) (hv : ∀ c ∈ v, c.toNat ≠ b.toNat) : partG b.toNat [] (w ++ b :: v) = [w, v] := by
  rw [partG_no _ w [] _ hw, List.nil_append]
  simp only [partG, if_true]
  have := partG_no b.toNat v [] [] hv
  rw [List.append_nil, List.nil_append] at this
  rw [this]; rfl

theorem partG_none {b : Nat} {s : List UInt8} (h : ∀ c ∈ s, c.toNat ≠ b) : partG b [] s = [s] := by
  have := partG_no b s [] [] h
  rw [List.append_nil, List.nil_append] at this
  rw [this]; rfl

theorem partG_first {b : UInt8} {w rest : List UInt8} (hw : ∀ c ∈ w, c.toNat ≠ b.toNat) : partG b.toNat [] (w ++ b :: rest) = w :: partG b.toNat [] rest := by
  rw [partG_no _ w [] _ hw, List.nil_append]
  simp only [partG, if_true]

/-! ### Hexadecimal numbers -/

def hexC (d : Nat) : UInt8 := UInt8.ofNat (if d < 10 then 48 + d else 87 + d)

def hexF : Nat → Nat → List UInt8
  | 0, _ => []
  | f + 1, n => if n < 16 then [hexC n] else hexF f (n / 16) ++ [hexC (n % 16)]

def hexS (n : Nat) : List UInt8 := hexF (n + 1) n

theorem hexF_more : ∀ (f g n : Nat), n < f → n < g → hexF f n = hexF g n
  | 0, _, _, h, _ => by omega
  | _ + 1, 0, _, _, h => by omega
  | f + 1, g + 1, n, h1, h2 => by
    simp only [hexF]
    split
    · rfl
    · rw [hexF_more f g (n / 16) (by omega) (by omega)]

theorem hexS_small {n : Nat} (h : n < 16) : hexS n = [hexC n] := by simp [hexS, hexF, h]

theorem hexS_step {n : Nat} (h : ¬ n < 16) : hexS n = hexS (n / 16) ++ [hexC (n % 16)] := by
  unfold hexS
  rw [hexF, if_neg h, hexF_more n (n / 16 + 1) (n / 16) (by omega) (by omega)]

theorem hexS_length (n : Nat) : ∀ k, n < 16 ^ (k + 1) → (hexS n).length ≤ k + 1 := by
  intro k
  induction k generalizing n with
  | zero => intro h; simp at h; rw [hexS_small h]; simp
  | succ k ih =>
    intro h
    by_cases hn : n < 16
    · rw [hexS_small hn]; simp
    · rw [hexS_step hn]
      have := ih (n / 16) (by rw [Nat.pow_succ] at h; omega)
      simp; omega

theorem hexS_len16 {n : Nat} (h : n < 18446744073709551616) : (hexS n).length ≤ 16 := hexS_length n 15 (by omega)

theorem hexC_toNat {d : Nat} (h : d < 16) : (hexC d).toNat = if d < 10 then 48 + d else 87 + d := by
  unfold hexC
  split <;> simp <;> omega

/-- A text with noughts ahead. -/
def padS (s : List UInt8) (k : Nat) : List UInt8 := List.replicate (k - s.length) 48 ++ s

/-- A text with blanks ahead. -/
def rightS (s : List UInt8) (k : Nat) : List UInt8 := List.replicate (k - s.length) 32 ++ s

theorem padS_step {s : List UInt8} {n : Nat} (h : s.length < n) : padS (48 :: s) n = padS s n := by
  unfold padS
  obtain ⟨k, hk⟩ : ∃ k, n - s.length = k + 1 := ⟨n - s.length - 1, by omega⟩
  rw [hk, show n - (48 :: s : List UInt8).length = k from by simp; omega, List.replicate_succ', List.append_assoc]; rfl

theorem padS_done {s : List UInt8} {n : Nat} (h : ¬ s.length < n) : padS s n = s := by
  unfold padS
  rw [show n - s.length = 0 from by omega]; rfl

theorem padS_len (s : List UInt8) (n : Nat) : (padS s n).length ≤ s.length + n := by unfold padS; rw [List.length_append, List.length_replicate]; omega

theorem rightS_step {s : List UInt8} {n : Nat} (h : s.length < n) : rightS (32 :: s) n = rightS s n := by
  unfold rightS
  obtain ⟨k, hk⟩ : ∃ k, n - s.length = k + 1 := ⟨n - s.length - 1, by omega⟩
  rw [hk, show n - (32 :: s : List UInt8).length = k from by simp; omega, List.replicate_succ', List.append_assoc]; rfl

theorem rightS_done {s : List UInt8} {n : Nat} (h : ¬ s.length < n) : rightS s n = s := by
  unfold rightS
  rw [show n - s.length = 0 from by omega]; rfl

theorem rightS_len (s : List UInt8) (n : Nat) : (rightS s n).length ≤ s.length + n := by unfold rightS; rw [List.length_append, List.length_replicate]; omega

def upB (c : UInt8) : UInt8 := if 97 ≤ c.toNat then UInt8.ofNat (c.toNat - 32) else c

/-- A number in large hexadecimal digits, at least so many. -/
def upS (n k : Nat) : List UInt8 := (padS (hexS n) k).map upB

theorem upS_len {n : Nat} (h : n < 18446744073709551616) (k : Nat) : (upS n k).length ≤ 16 + k := by
  unfold upS
  rw [List.length_map]
  have := padS_len (hexS n) k
  have := hexS_len16 h
  omega

/-- A large hexadecimal digit. -/
def addrC (c : UInt8) : Bool := decide (digitV c.toNat ≤ 15) && decide (c.toNat < 97)

theorem addrC_spec {c : UInt8} (h : addrC c = true) : (48 ≤ c.toNat ∧ c.toNat ≤ 57) ∨ (65 ≤ c.toNat ∧ c.toNat ≤ 70) := by
  unfold addrC at h
  simp only [Bool.and_eq_true, decide_eq_true_eq] at h
  obtain ⟨h1, h2⟩ := h
  unfold digitV at h1
  split at h1
  · omega
  · split at h1
    · omega
    · split at h1 <;> omega

theorem addrC_word {c : UInt8} (h : addrC c = true) : wordC c = true ∧ c.toNat ≠ 58 := by
  have := addrC_spec h
  refine ⟨?_, by omega⟩
  unfold wordC
  simp only [Bool.and_eq_true, decide_eq_true_eq]
  omega

theorem upB_hexC {d : Nat} (h : d < 16) : (upB (hexC d)).toNat = (if d < 10 then 48 + d else 55 + d) := by
  unfold upB
  rw [hexC_toNat h]
  by_cases hd : d < 10
  · rw [if_pos hd, if_pos hd, if_neg (by omega), hexC_toNat h, if_pos hd]
  · rw [if_neg hd, if_neg hd, if_pos (by omega)]
    simp; omega

theorem upB_digit {d : Nat} (h : d < 16) : digitV (upB (hexC d)).toNat = d ∧ addrC (upB (hexC d)) = true := by
  have h1 := upB_hexC h
  have h2 : digitV (upB (hexC d)).toNat = d := by
    rw [h1]; unfold digitV
    (repeat' split) <;> omega
  refine ⟨h2, ?_⟩
  unfold addrC
  rw [h2, h1]
  simp only [Bool.and_eq_true, decide_eq_true_eq]
  split <;> omega

def hexN (a : Nat) (s : List UInt8) : Nat := s.foldl (fun a c => a * 16 + digitV c.toNat) a

theorem hexN_nil (a : Nat) : hexN a [] = a := by unfold hexN; rw [List.foldl_nil]
theorem hexN_cons (a : Nat) (c : UInt8) (s : List UInt8) : hexN a (c :: s) = hexN (a * 16 + digitV c.toNat) s := by unfold hexN; rw [List.foldl_cons]
theorem hexN_append (s t : List UInt8) (a : Nat) : hexN a (s ++ t) = hexN (hexN a s) t := by unfold hexN; rw [List.foldl_append]

theorem hexN_ge : ∀ (s : List UInt8) (a : Nat), a ≤ hexN a s
  | [], a => by rw [hexN_nil]; exact Nat.le_refl _
  | c :: s, a => by rw [hexN_cons]; have := hexN_ge s (a * 16 + digitV c.toNat); omega

theorem hexN_noughts : ∀ k : Nat, hexN 0 (List.replicate k 48) = 0
  | 0 => by rw [List.replicate_zero, hexN_nil]
  | k + 1 => by rw [List.replicate_succ, hexN_cons]; exact hexN_noughts k

theorem hexS_hex (n : Nat) : hexN 0 ((hexS n).map upB) = n ∧ (∀ c ∈ (hexS n).map upB, addrC c = true) ∧ hexS n ≠ [] := by
  induction n using Nat.strongRecOn with
  | _ n ih =>
    by_cases h : n < 16
    · rw [hexS_small h]
      obtain ⟨h1, h2⟩ := upB_digit h
      refine ⟨?_, by simpa using h2, by simp⟩
      rw [List.map_cons, List.map_nil, hexN_cons, hexN_nil, h1]; omega
    · rw [hexS_step h]
      obtain ⟨g1, g2, g3⟩ := ih (n / 16) (by omega)
      obtain ⟨h1, h2⟩ := upB_digit (d := n % 16) (by omega)
      refine ⟨?_, ?_, by simp⟩
      · rw [List.map_append, hexN_append, g1, List.map_cons, List.map_nil, hexN_cons, hexN_nil, h1]; omega
      · intro c hc
        rw [List.map_append] at hc
        rcases List.mem_append.1 hc with hc | hc
        · exact g2 c hc
        · simp only [List.map_cons, List.map_nil, List.mem_singleton] at hc
          rw [hc]; exact h2

theorem upS_hex (n k : Nat) : hexN 0 (upS n k) = n ∧ (∀ c ∈ upS n k, addrC c = true) ∧ upS n k ≠ [] := by
  obtain ⟨h1, h2, h3⟩ := hexS_hex n
  have e : upS n k = List.replicate (k - (hexS n).length) 48 ++ (hexS n).map upB := by
    unfold upS padS
    rw [List.map_append, List.map_replicate]; rfl
  rw [e]
  refine ⟨by rw [hexN_append, hexN_noughts, h1], fun c hc => ?_, by simp [h3]⟩
  rcases List.mem_append.1 hc with hc | hc
  · rw [(List.mem_replicate.1 hc).2]; decide
  · exact h2 c hc

theorem numV_hex : ∀ (s : List UInt8) (a : Nat), (∀ c ∈ s, digitV c.toNat < 16) → hexN a s < 18446744073709551616 → numV 16 a s = some (hexN a s)
  | [], a, _, _ => by rw [hexN_nil]; rfl
  | c :: s, a, h, hb => by
    have h1 := h c (by simp)
    rw [hexN_cons] at hb ⊢
    have h2 := hexN_ge s (a * 16 + digitV c.toNat)
    simp only [numV]
    rw [if_neg (by omega)]
    exact numV_hex s _ (fun x hx => h x (by simp [hx])) hb

theorem numV_hexN : ∀ (s : List UInt8) (a m : Nat), numV 16 a s = some m → m = hexN a s ∧ ∀ c ∈ s, digitV c.toNat < 16
  | [], a, m, h => by simp only [numV, Option.some.injEq] at h; rw [hexN_nil]; exact ⟨h.symm, by simp⟩
  | c :: s, a, m, h => by
    simp only [numV] at h
    split at h
    · simp at h
    · rename_i hc
      obtain ⟨h1, h2⟩ := numV_hexN s _ m h
      rw [hexN_cons]
      refine ⟨h1, fun x hx => ?_⟩
      rcases List.mem_cons.1 hx with rfl | hx
      · omega
      · exact h2 x hx

/-- A hexadecimal number. -/
def hexV (s : List UInt8) : Option Nat := match numV 16 0 s with
  | some m => if s = [] then none else some m
  | none => none

theorem hexV_spec {s : List UInt8} {m : Nat} (h : hexV s = some m) : numV 16 0 s = some m ∧ s ≠ [] ∧ m < 18446744073709551616 ∧ m = hexN 0 s ∧ ∀ c ∈ s, digitV c.toNat < 16 := by
  unfold hexV at h
  split at h
  · rename_i v hv
    split at h <;> simp only [Option.some.injEq, reduceCtorEq] at h
    subst h
    rename_i hne
    obtain ⟨g1, g2⟩ := numV_hexN s 0 _ hv
    exact ⟨hv, hne, numV_lt (by omega) s 0 _ (by omega) hv, g1, g2⟩
  · simp at h

theorem hexV_upS {n k : Nat} (h : n < 18446744073709551616) : hexV (upS n k) = some n := by
  obtain ⟨h1, h2, h3⟩ := upS_hex n k
  unfold hexV
  rw [numV_hex (upS n k) 0 (fun c hc => by
    have := h2 c hc
    unfold addrC at this
    simp only [Bool.and_eq_true, decide_eq_true_eq] at this
    omega) (by rw [h1]; exact h), h1]
  simp [h3]

def hexsV : List (List UInt8) → Option (List Nat)
  | [] => some []
  | s :: l => match hexV s with
    | some m => match hexsV l with
      | some ms => some (m :: ms)
      | none => none
    | none => none

end Go.Ev

set_option linter.unusedSimpArgs false
set_option linter.unusedVariables false
namespace Go.Ev
open Go.Proofs

def skHeadL : List UInt8 := [32, 32, 115, 108, 32, 32, 108, 111, 99, 97, 108, 95, 97, 100, 100, 114, 101, 115, 115, 32, 114, 101, 109, 95, 97, 100, 100, 114, 101, 115, 115, 32, 32, 32, 115, 116, 32, 116, 120, 95, 113, 117, 101, 117, 101, 32, 114, 120, 95, 113, 117, 101, 117, 101, 32, 116, 114, 32, 116, 109, 45, 62, 119, 104, 101, 110, 32, 114, 101, 116, 114, 110, 115, 109, 116, 32, 32, 32, 117, 105, 100, 32, 32, 116, 105, 109, 101, 111, 117, 116, 32, 105, 110, 111, 100, 101]

def skHead : List UInt8 := skHeadL ++ [10]

def addrOk (s : List UInt8) (n : Nat) : Bool := (decide (s.length = 8) || decide (s.length = 32)) && decide (s.length = n) && s.all addrC

/-- Is the row a socket? -/
def skOk (drops : Bool) (r : RowD) : Bool := match r.N, r.S with
  | [n0, n1, n2, n3, n4, n5, n6, n7, n8], [a, b] =>
    decide (n0 < 2147483648) && decide (n1 < 65536) && decide (n2 < 65536) && decide (1 ≤ n3) && decide (n3 ≤ 12) && decide (n4 < 4294967296) && decide (n5 < 4294967296) && decide (n6 < 4294967296) &&
      decide (n7 < 9223372036854775808) && decide (n8 < 9223372036854775808) && (drops || decide (n8 = 0)) && (r.name == []) && addrOk a a.length && addrOk b a.length
  | _, _ => false

structure SkR (drops : Bool) (r : RowD) (n0 n1 n2 n3 n4 n5 n6 n7 n8 : Nat) (a b : List UInt8) : Prop where
  hN : r.N = [n0, n1, n2, n3, n4, n5, n6, n7, n8]
  hS : r.S = [a, b]
  hn : r.name = []
  h0 : n0 < 2147483648
  h1 : n1 < 65536
  h2 : n2 < 65536
  h3 : 1 ≤ n3 ∧ n3 ≤ 12
  h4 : n4 < 4294967296
  h5 : n5 < 4294967296
  h6 : n6 < 4294967296
  h7 : n7 < 9223372036854775808
  h8 : n8 < 9223372036854775808
  hd : drops = true ∨ n8 = 0
  ha : a.length = 8 ∨ a.length = 32
  hb : b.length = a.length
  ca : ∀ c ∈ a, addrC c = true
  cb : ∀ c ∈ b, addrC c = true

theorem skOk_spec {drops : Bool} {r : RowD} (h : skOk drops r = true) : ∃ n0 n1 n2 n3 n4 n5 n6 n7 n8 a b, SkR drops r n0 n1 n2 n3 n4 n5 n6 n7 n8 a b := by
  unfold skOk at h
  split at h
  · rename_i n0 n1 n2 n3 n4 n5 n6 n7 n8 a b hN hS
    simp only [addrOk, Bool.and_eq_true, Bool.or_eq_true, decide_eq_true_eq, beq_iff_eq, List.all_eq_true] at h
    obtain ⟨⟨⟨⟨⟨⟨⟨⟨⟨⟨⟨⟨⟨h0, h1⟩, h2⟩, h3⟩, h3'⟩, h4⟩, h5⟩, h6⟩, h7⟩, h8⟩, hd⟩, hn⟩, ⟨ha, _⟩, ca⟩, ⟨_, hb⟩, cb⟩ := h
    exact ⟨n0, n1, n2, n3, n4, n5, n6, n7, n8, a, b, hN, hS, hn, h0, h1, h2, ⟨h3, h3'⟩, h4, h5, h6, h7, h8, hd, ha, hb, ca, cb⟩
  · simp at h

def skLast (drops : Bool) (n8 : Nat) : List UInt8 := if drops then [32, 50, 32, 48, 48, 48, 48, 48, 48, 48, 48, 48, 48, 48, 48, 48, 48, 48, 48, 32] ++ decS n8 else [32, 49, 32, 48, 48, 48, 48, 48, 48, 48, 48, 48, 48, 48, 48, 48, 48, 48, 48, 32, 49, 48, 48, 32, 48, 32, 48, 32, 49, 48, 32, 48]

/-- A socket's line. -/
def skBody (drops : Bool) (r : RowD) : List UInt8 := match r.N, r.S with
  | [n0, n1, n2, n3, n4, n5, n6, n7, n8], [a, b] =>
    rightS (decS n0) 4 ++ ([58, 32] ++ (a ++ ([58] ++ (upS n1 4 ++ ([32] ++ (b ++ ([58] ++ (upS n2 4 ++ ([32] ++ (upS n3 2 ++ ([32] ++ (upS n4 8 ++ ([58] ++ (upS n5 8 ++
      ([32, 48, 48, 58, 48, 48, 48, 48, 48, 48, 48, 48, 32, 48, 48, 48, 48, 48, 48, 48, 48, 32] ++ (rightS (decS n6) 5 ++ ([32, 32, 32, 32, 32, 32, 32, 32, 48, 32] ++ (decS n7 ++ skLast drops n8))))))))))))))))))
  | _, _ => []

def skText (drops : Bool) (rs : List RowD) : List UInt8 := skHead ++ (rs.map fun r => skBody drops r ++ [10]).flatten

/-! ### What the reference reads -/

def endsC (s : List UInt8) : Bool := decide (1 ≤ s.length) && (s.drop (s.length - 1) == [58])

def skV (f0 f1 f2 f3 f4 f7 f9 last : List UInt8) : Option RowD :=
  match partG 58 [] f1, partG 58 [] f2, partG 58 [] f4 with
  | [a0, a1], [b0, b1], [q0, q1] => match decsV [f0.take (f0.length - 1), f7, f9, last] with
    | some [d0, d1, d2, d3] => match hexsV [a1, b1, f3, q0, q1] with
      | some [h0, h1, h2, h3, h4] => some ⟨[], [d0, h0, h1, h2, h3, h4, d1, d2, d3], [a0, b0]⟩
      | _ => none
    | _ => none
  | _, _, _ => none

def skFld (f : List (List UInt8)) (i : Nat) : List UInt8 := f.getD i []

def skLineV (drops : Bool) (f : List (List UInt8)) : Option RowD :=
  if f.length = (if drops then 13 else 17) ∧ endsC (skFld f 0) = true then
    skV (skFld f 0) (skFld f 1) (skFld f 2) (skFld f 3) (skFld f 4) (skFld f 7) (skFld f 9) (if drops then skFld f 12 else [48])
  else none

def skTabV (drops : Bool) : List (List UInt8) → Option (List RowD)
  | [] => some []
  | s :: l => match skLineV drops (fieldsL s) with
    | some r => match skTabV drops l with
      | some rs => some (r :: rs)
      | none => none
    | none => none

/-- What the reference reads, where it tells. -/
def skRead (drops : Bool) (s : List UInt8) : Option (List RowD) :=
  if s.all plainC = true ∧ s.take skHead.length = skHead then match skTabV drops (linesL (s.drop skHead.length)) with
    | some rs => if rs.all (skOk drops) = true then some rs else none
    | none => none
  else none

/-! ### What is written is read -/

theorem fieldG_right {w rest : List UInt8} {n : Nat} : fieldG [] (rightS w n ++ rest) = fieldG [] (w ++ rest) := by
  unfold rightS
  rw [List.append_assoc]
  exact fieldG_skip _ _

theorem decS_word (n : Nat) : decS n ≠ [] ∧ ∀ c ∈ decS n, blankC c = false ∧ c.toNat ≠ 58 ∧ c.toNat ≠ 10 := by
  obtain ⟨_, h1, h2⟩ := decS_dig n
  refine ⟨h2, fun c hc => ?_⟩
  have := digC_iff.1 (h1 c hc)
  refine ⟨(digC_blank (h1 c hc)).1, by omega, by omega⟩

theorem upS_word (n k : Nat) : upS n k ≠ [] ∧ ∀ c ∈ upS n k, blankC c = false ∧ c.toNat ≠ 58 := by
  obtain ⟨_, h1, h2⟩ := upS_hex n k
  refine ⟨h2, fun c hc => ?_⟩
  obtain ⟨g1, g2⟩ := addrC_word (h1 c hc)
  exact ⟨(wordC_blank g1).1, g2⟩

/-- Two words and a colon between. -/
def two (a b : List UInt8) : List UInt8 := a ++ ([58] ++ b)

theorem two_word {a b : List UInt8} (ha : ∀ c ∈ a, blankC c = false) (hb : ∀ c ∈ b, blankC c = false) : two a b ≠ [] ∧ ∀ c ∈ two a b, blankC c = false := by
  refine ⟨by simp [two], fun c hc => ?_⟩
  unfold two at hc
  rcases List.mem_append.1 hc with hc | hc
  · exact ha c hc
  · rcases List.mem_append.1 hc with hc | hc
    · obtain rfl := List.mem_singleton.1 hc; decide
    · exact hb c hc

theorem fieldG_word1 {w rest : List UInt8} (h : w ≠ [] ∧ ∀ c ∈ w, blankC c = false) : fieldG [] (w ++ ([32] ++ rest)) = w :: fieldG [] rest :=
  fieldG_sep h.1 h.2 (by decide)

theorem skLast_fields (drops : Bool) (n7 n8 : Nat) : fieldG [] (decS n7 ++ skLast drops n8) = decS n7 :: (if drops then [[50], List.replicate 16 48, decS n8] else [[49], List.replicate 16 48, [49, 48, 48], [48], [48], [49, 48], [48]]) := by
  have h7 := decS_word n7
  have h8 := decS_word n8
  cases drops with
  | true =>
    simp only [skLast, if_true]
    rw [show ([32, 50, 32, 48, 48, 48, 48, 48, 48, 48, 48, 48, 48, 48, 48, 48, 48, 48, 48, 32] ++ decS n8 : List UInt8) = [32] ++ ([50] ++ ([32] ++ (List.replicate 16 48 ++ ([32] ++ decS n8)))) from rfl]
    rw [fieldG_word1 ⟨h7.1, fun c hc => (h7.2 c hc).1⟩, fieldG_word1 ⟨by decide, by decide⟩, fieldG_word1 ⟨by decide, by decide⟩, fieldG_last h8.1 (fun c hc => (h8.2 c hc).1)]
  | false =>
    simp only [skLast, Bool.false_eq_true, if_false]
    rw [show ([32, 49, 32, 48, 48, 48, 48, 48, 48, 48, 48, 48, 48, 48, 48, 48, 48, 48, 48, 32, 49, 48, 48, 32, 48, 32, 48, 32, 49, 48, 32, 48] : List UInt8) = [32] ++ ([49] ++ ([32] ++ (List.replicate 16 48 ++ ([32] ++ ([49, 48, 48] ++ ([32] ++ ([48] ++ ([32] ++ ([48] ++ ([32] ++ ([49, 48] ++ ([32] ++ [48])))))))))))) from rfl]
    rw [fieldG_word1 ⟨h7.1, fun c hc => (h7.2 c hc).1⟩, fieldG_word1 ⟨by decide, by decide⟩, fieldG_word1 ⟨by decide, by decide⟩, fieldG_word1 ⟨by decide, by decide⟩, fieldG_word1 ⟨by decide, by decide⟩, fieldG_word1 ⟨by decide, by decide⟩, fieldG_word1 ⟨by decide, by decide⟩, fieldG_last (by decide) (by decide)]

theorem skBody_fields {drops : Bool} {r : RowD} {n0 n1 n2 n3 n4 n5 n6 n7 n8 : Nat} {a b : List UInt8} (h : SkR drops r n0 n1 n2 n3 n4 n5 n6 n7 n8 a b) :
    fieldsL (skBody drops r) = (decS n0 ++ [58]) :: two a (upS n1 4) :: two b (upS n2 4) :: upS n3 2 :: two (upS n4 8) (upS n5 8) :: [48, 48, 58, 48, 48, 48, 48, 48, 48, 48, 48] :: [48, 48, 48, 48, 48, 48, 48, 48] :: decS n6 :: [48] :: decS n7 :: (if drops then [[50], List.replicate 16 48, decS n8] else [[49], List.replicate 16 48, [49, 48, 48], [48], [48], [49, 48], [48]]) := by
  rw [fieldsL_eq]
  unfold skBody
  simp only [h.hN, h.hS]
  have bl : ∀ {n : Nat}, ∀ c ∈ decS n, blankC c = false := fun c hc => ((decS_word _).2 c hc).1
  have bu : ∀ {n k : Nat}, ∀ c ∈ upS n k, blankC c = false := fun c hc => ((upS_word _ _).2 c hc).1
  have ba : ∀ c ∈ a, blankC c = false := fun c hc => (wordC_blank (addrC_word (h.ca c hc)).1).1
  have bb : ∀ c ∈ b, blankC c = false := fun c hc => (wordC_blank (addrC_word (h.cb c hc)).1).1
  rw [fieldG_right]
  rw [show ∀ x : List UInt8, decS n0 ++ ([58, 32] ++ x) = (decS n0 ++ [58]) ++ ([32] ++ x) from fun x => by simp]
  rw [fieldG_word1 ⟨by simp, fun c hc => by
    rcases List.mem_append.1 hc with hc | hc
    · exact bl c hc
    · obtain rfl := List.mem_singleton.1 hc; decide⟩]
  rw [show ∀ u v x : List UInt8, u ++ ([58] ++ (v ++ x)) = two u v ++ x from fun u v x => by simp [two]]
  rw [fieldG_word1 (two_word ba bu)]
  rw [show ∀ u v x : List UInt8, u ++ ([58] ++ (v ++ x)) = two u v ++ x from fun u v x => by simp [two]]
  rw [fieldG_word1 (two_word bb bu), fieldG_word1 ⟨(upS_word _ _).1, bu⟩]
  rw [show ∀ u v x : List UInt8, u ++ ([58] ++ (v ++ x)) = two u v ++ x from fun u v x => by simp [two]]
  rw [show ∀ x : List UInt8, ([32, 48, 48, 58, 48, 48, 48, 48, 48, 48, 48, 48, 32, 48, 48, 48, 48, 48, 48, 48, 48, 32] ++ x) = [32] ++ ([48, 48, 58, 48, 48, 48, 48, 48, 48, 48, 48] ++ ([32] ++ ([48, 48, 48, 48, 48, 48, 48, 48] ++ ([32] ++ x)))) from fun x => rfl]
  rw [fieldG_word1 (two_word bu bu), fieldG_word1 ⟨by decide, by decide⟩, fieldG_word1 ⟨by decide, by decide⟩, fieldG_right]
  rw [show ∀ x : List UInt8, ([32, 32, 32, 32, 32, 32, 32, 32, 48, 32] ++ x) = [32] ++ (List.replicate 7 32 ++ ([48] ++ ([32] ++ x))) from fun x => rfl]
  rw [fieldG_word1 ⟨(decS_word _).1, bl⟩, fieldG_skip, fieldG_word1 ⟨by decide, by decide⟩, skLast_fields]

theorem decsV_dec : ∀ {ns : List Nat}, (∀ n ∈ ns, n < 18446744073709551616) → decsV (ns.map decS) = some ns
  | [], _ => rfl
  | n :: ns, h => by
    have ih := decsV_dec (ns := ns) (fun m hm => h m (List.mem_cons_of_mem _ hm))
    simp only [List.map_cons, decsV, decV_decS (h n (by simp)), ih]

theorem two_parts {a b : List UInt8} (ha : ∀ c ∈ a, c.toNat ≠ 58) (hb : ∀ c ∈ b, c.toNat ≠ 58) : partG 58 [] (two a b) = [a, b] :=
  partG_two (b := 58) ha hb

theorem skLine_body {drops : Bool} {r : RowD} (h : skOk drops r = true) : skLineV drops (fieldsL (skBody drops r)) = some r := by
  obtain ⟨n0, n1, n2, n3, n4, n5, n6, n7, n8, a, b, hs⟩ := skOk_spec h
  have e0 : endsC (decS n0 ++ [58]) = true := by
    unfold endsC
    rw [List.length_append, show (decS n0).length + [(58 : UInt8)].length - 1 = (decS n0).length from by simp, List.drop_left]
    simp
  have e1 : (decS n0 ++ [58]).take ((decS n0 ++ [58]).length - 1) = decS n0 := by
    rw [List.length_append, show (decS n0).length + [(58 : UInt8)].length - 1 = (decS n0).length from by simp, List.take_left]
  have cu : ∀ {n k : Nat}, ∀ c ∈ upS n k, c.toNat ≠ 58 := fun c hc => ((upS_word _ _).2 c hc).2
  have ca : ∀ c ∈ a, c.toNat ≠ 58 := fun c hc => (addrC_word (hs.ca c hc)).2
  have cb : ∀ c ∈ b, c.toNat ≠ 58 := fun c hc => (addrC_word (hs.cb c hc)).2
  have hd : ∀ {m : Nat}, m < 18446744073709551616 → decsV [decS n0, decS n6, decS n7, decS m] = some [n0, n6, n7, m] := fun {m} hm => by
    refine decsV_dec (ns := [n0, n6, n7, m]) fun n hn => ?_
    have := hs.h0; have := hs.h6; have := hs.h7
    simp only [List.mem_cons, List.not_mem_nil, or_false] at hn
    rcases hn with rfl | rfl | rfl | rfl <;> omega
  have hx : hexsV [upS n1 4, upS n2 4, upS n3 2, upS n4 8, upS n5 8] = some [n1, n2, n3, n4, n5] := by
    have := hs.h1; have := hs.h2; have := hs.h3; have := hs.h4; have := hs.h5
    simp only [hexsV, hexV_upS (show n1 < 18446744073709551616 by omega), hexV_upS (show n2 < 18446744073709551616 by omega), hexV_upS (show n3 < 18446744073709551616 by omega), hexV_upS (show n4 < 18446744073709551616 by omega), hexV_upS (show n5 < 18446744073709551616 by omega)]
  have h8 := hs.h8
  have key : ∀ m, m < 18446744073709551616 → skV (decS n0 ++ [58]) (two a (upS n1 4)) (two b (upS n2 4)) (upS n3 2) (two (upS n4 8) (upS n5 8)) (decS n6) (decS n7) (decS m) = some ⟨[], [n0, n1, n2, n3, n4, n5, n6, n7, m], [a, b]⟩ := by
    intro m hm
    unfold skV
    simp only [two_parts ca cu, two_parts cb cu, two_parts cu cu, e1, hd hm, hx]
  have hr : r = ⟨[], [n0, n1, n2, n3, n4, n5, n6, n7, n8], [a, b]⟩ := by
    obtain ⟨nm, N, S⟩ := r
    have h1 := hs.hN; have h2 := hs.hS; have h3 := hs.hn
    simp only at h1 h2 h3
    rw [h1, h2, h3]
  unfold skLineV
  rw [skBody_fields hs]
  cases drops with
  | true =>
    simp only [skFld, List.length_cons, List.length_nil, if_true, List.getD_cons_zero, List.getD_cons_succ]
    rw [if_pos ⟨trivial, e0⟩, key n8 (by omega), ← hr]
  | false =>
    have h0 : n8 = 0 := by
      rcases hs.hd with e | e
      · cases e
      · exact e
    simp only [skFld, List.length_cons, List.length_nil, Bool.false_eq_true, if_false, List.getD_cons_zero, List.getD_cons_succ]
    rw [if_pos ⟨trivial, e0⟩]
    have := key 0 (by omega)
    rw [show decS 0 = [48] from by rw [decS_small (by omega)]; rfl] at this
    rw [this, hr, h0]

theorem skTab_bodies {drops : Bool} : ∀ {rs : List RowD}, (∀ r ∈ rs, skOk drops r = true) → skTabV drops (rs.map (skBody drops)) = some rs
  | [], _ => rfl
  | r :: rs, h => by
    simp only [List.map_cons, skTabV, skLine_body (h r (by simp)), skTab_bodies (rs := rs) (fun q hq => h q (by simp [hq]))]

theorem plain_word {c : UInt8} (h : wordC c = true) : c.toNat ≠ 10 ∧ plainC c = true := ⟨(wordC_blank h).2, wordC_plain h⟩

theorem skBody_chars {drops : Bool} {r : RowD} (h : skOk drops r = true) : ∀ c ∈ skBody drops r, c.toNat ≠ 10 ∧ plainC c = true := by
  obtain ⟨n0, n1, n2, n3, n4, n5, n6, n7, n8, a, b, hs⟩ := skOk_spec h
  have bl : ∀ {n : Nat}, ∀ c ∈ decS n, c.toNat ≠ 10 ∧ plainC c = true := fun {n} c hc => by
    obtain ⟨_, g1, _⟩ := decS_dig n
    exact ⟨(digC_blank (g1 c hc)).2, digC_plain (g1 c hc)⟩
  have bu : ∀ {n k : Nat}, ∀ c ∈ upS n k, c.toNat ≠ 10 ∧ plainC c = true := fun {n k} c hc => by
    obtain ⟨_, g1, _⟩ := upS_hex n k
    exact plain_word (addrC_word (g1 c hc)).1
  have ba : ∀ c ∈ a, c.toNat ≠ 10 ∧ plainC c = true := fun c hc => plain_word (addrC_word (hs.ca c hc)).1
  have bb : ∀ c ∈ b, c.toNat ≠ 10 ∧ plainC c = true := fun c hc => plain_word (addrC_word (hs.cb c hc)).1
  have br : ∀ {n k : Nat}, ∀ c ∈ rightS (decS n) k, c.toNat ≠ 10 ∧ plainC c = true := fun {n k} c hc => by
    unfold rightS at hc
    rcases List.mem_append.1 hc with hc | hc
    · rw [(List.mem_replicate.1 hc).2]; decide
    · exact bl c hc
  have lit : ∀ l : List UInt8, l.all (fun c => decide (c.toNat ≠ 10) && plainC c) = true → ∀ c ∈ l, c.toNat ≠ 10 ∧ plainC c = true := fun l hl c hc => by
    have := List.all_eq_true.1 hl c hc
    simpa using this
  have bk : ∀ c ∈ skLast drops n8, c.toNat ≠ 10 ∧ plainC c = true := by
    unfold skLast
    cases drops with
    | true =>
      simp only [if_true]
      intro c hc
      rcases List.mem_append.1 hc with hc | hc
      · exact lit _ (by decide) c hc
      · exact bl c hc
    | false => simp only [Bool.false_eq_true, if_false]; exact lit _ (by decide)
  have app : ∀ {x y : List UInt8}, (∀ c ∈ x, c.toNat ≠ 10 ∧ plainC c = true) → (∀ c ∈ y, c.toNat ≠ 10 ∧ plainC c = true) → ∀ c ∈ x ++ y, c.toNat ≠ 10 ∧ plainC c = true := fun hx hy c hc => by
    rcases List.mem_append.1 hc with hc | hc
    · exact hx c hc
    · exact hy c hc
  unfold skBody
  simp only [hs.hN, hs.hS]
  exact app br (app (lit _ (by decide)) (app ba (app (lit _ (by decide)) (app bu (app (lit _ (by decide)) (app bb (app (lit _ (by decide)) (app bu (app (lit _ (by decide)) (app bu (app (lit _ (by decide)) (app bu (app (lit _ (by decide)) (app bu (app (lit _ (by decide)) (app br (app (lit _ (by decide)) (app bl bk))))))))))))))))))

theorem skText_lines {drops : Bool} {rs : List RowD} (h : ∀ r ∈ rs, skOk drops r = true) : linesL ((rs.map fun r => skBody drops r ++ [10]).flatten) = rs.map (skBody drops) := by
  rw [linesL_eq]
  have e : (rs.map fun r => skBody drops r ++ [10]) = (rs.map (skBody drops)).map fun l => l ++ [10] := by rw [List.map_map]; rfl
  rw [e]
  exact lineG_lines _ (fun l hl c hc => by
    obtain ⟨r, hr, rfl⟩ := List.mem_map.1 hl
    exact (skBody_chars (h r hr) c hc).1)

theorem skRead_text {drops : Bool} {rs : List RowD} (h : ∀ r ∈ rs, skOk drops r = true) : skRead drops (skText drops rs) = some rs := by
  unfold skRead
  have hp : (skText drops rs).all plainC = true := by
    rw [List.all_eq_true]
    intro c hc
    unfold skText at hc
    rcases List.mem_append.1 hc with hc | hc
    · have : skHead.all plainC = true := by decide
      exact List.all_eq_true.1 this c hc
    · obtain ⟨l, hl, hcl⟩ := List.mem_flatten.1 hc
      obtain ⟨r, hr, rfl⟩ := List.mem_map.1 hl
      rcases List.mem_append.1 hcl with hcl | hcl
      · exact (skBody_chars (h r hr) c hcl).2
      · obtain rfl := List.mem_singleton.1 hcl; decide
  have ht : (skText drops rs).take skHead.length = skHead := by unfold skText; rw [List.take_left]
  have hdp : (skText drops rs).drop skHead.length = (rs.map fun r => skBody drops r ++ [10]).flatten := by unfold skText; rw [List.drop_left]
  rw [if_pos ⟨hp, ht⟩, hdp, skText_lines h, skTab_bodies h]
  have : rs.all (skOk drops) = true := List.all_eq_true.2 h
  simp only [this, if_true]

end Go.Ev

set_option linter.unusedSimpArgs false
set_option linter.unusedVariables false
namespace Go.Ev
open Go.Proofs

/-! ### Parts -/

def S1125 (F : List SV → Option AV) : Prop := ∀ (s : List UInt8) (b : UInt8), s.length < 1000000000000 → F [.str s, .int .u8 (b.toNat : Int)] = some (.sv (.sl (strs (partG b.toNat [] s))))

def S46 (F : List SV → Option AV) : Prop := ∀ (s : List UInt8) (n : Nat), n < 1000000 → s.length < 100000000000 → F [.str s, .int .i64 (n : Int)] = some (.sv (.str (rightS s n)))

theorem loop46r (E : Env) (cf : CallF) (m : Nat) (n : Nat) (hn : n < 1000000) :
    ∀ (d : Nat) (s : List UInt8) (k : Nat), n - s.length ≤ d → s.length < 1000000000000 → d < k →
      rounds (evC E cf m b46_0) k { tm := [.sv (.str s), .sv (.int .i64 n)] ++ List.replicate 10 (.sv .undef), lz := none, bx := [], df := [] } =
        some (.exit 0, { tm := [.sv (.str (rightS s n))] ++ List.replicate 11 (.sv .undef), lz := none, bx := [], df := [] }) := by
  intro d
  induction d with
  | zero =>
    intro s k hd hs hk
    obtain ⟨k, rfl⟩ : ∃ k', k = k' + 1 := ⟨k - 1, by omega⟩
    have hlt : ¬ (s.length < n) := by omega
    refine rounds_out ?_ (by simp)
    rw [rightS_done hlt]
    have hltI : ¬ (s.length : Int) < (n : Int) := by omega
    simp [b46_0, List.replicate, hlt, hltI]
  | succ d ih =>
    intro s k hd hs hk
    obtain ⟨k, rfl⟩ : ∃ k', k = k' + 1 := ⟨k - 1, by omega⟩
    by_cases hlt : s.length < n
    · have he := ih (32 :: s) k (by simp; omega) (by simp; omega) (by omega)
      rw [rightS_step hlt] at he
      rw [← he]
      refine rounds_step ?_
      have hltI : (s.length : Int) < (n : Int) := by omega
      have hb : 1 + s.length < 4611686018427387904 := by omega
      simp [b46_0, List.replicate, hlt, hltI, hb]
    · refine rounds_out ?_ (by simp)
      rw [rightS_done hlt]
      have hltI : ¬ (s.length : Int) < (n : Int) := by omega
      simp [b46_0, List.replicate, hlt, hltI]

theorem ev46 (E : Env) (h : E.code 59 = some c46) : S46 (autoF E 59) := by
  intro s n hn hs
  have hl := loop46r E (evF E (n + 1)) (n + 1) n hn n s (n + 1) (by omega) (by omega) (by omega)
  refine autoF_sv (n := n + 1) ?_ rfl
  unfold evP
  simp only [h]
  simp only [List.replicate, List.cons_append, List.nil_append] at hl
  simp [c46, List.replicate, hl]

/-! ### Hexadecimal digits -/

noncomputable def F97h : List SV → Option AV
  | [.int .u64 n, .int .u64 b] => onlyIf (0 ≤ n ∧ n < 18446744073709551616 ∧ b = 16) (some (.sv (.str (hexS n.toNat))))
  | _ => none

theorem F97h_eq (n : Nat) (h : n < 18446744073709551616) : F97h [.int .u64 (n : Int), .int .u64 16] = some (.sv (.str (hexS n))) := by
  show onlyIf _ (some (AV.sv (.str (hexS (n : Int).toNat)))) = _
  rw [onlyIf_pos ⟨by omega, by omega, rfl⟩]; simp

theorem ev97h (E : Env) (h : E.code 126 = some c97) (n k : Nat) (hk : k < 18446744073709551616) :
    evP (E.add 126 (fun us => if size97 us < k then F97h us else none)) n 126 [.int .u64 k, .int .u64 16] = some (.sv (.str (hexS k))) := by
  unfold evP
  have hc : (E.add 126 (fun us => if size97 us < k then F97h us else none)).code 126 = some c97 := h
  simp only [hc]
  have hm : Int.tmod (k : Int) 16 = ((k % 16 : Nat) : Int) := rfl
  have hq : IntKind.u64.wrap ((k : Int) / 16) = ((k / 16 : Nat) : Int) := by rw [IntKind.wrap_u64]; omega
  have hr16 : ∀ r, r < 16 → r = 0 ∨ r = 1 ∨ r = 2 ∨ r = 3 ∨ r = 4 ∨ r = 5 ∨ r = 6 ∨ r = 7 ∨ r = 8 ∨ r = 9 ∨ r = 10 ∨ r = 11 ∨ r = 12 ∨ r = 13 ∨ r = 14 ∨ r = 15 := by intro r hr; omega
  by_cases hlt : k < 16
  · rw [hexS_small hlt]
    rcases hr16 k hlt with rfl | rfl | rfl | rfl | rfl | rfl | rfl | rfl | rfl | rfl | rfl | rfl | rfl | rfl | rfl | rfl <;> simp [c97, svBytes, List.replicate, hexC]
  · have e1 : ¬ (k : Int) < 16 := by omega
    rw [hexS_step hlt]
    have hlen := hexS_len16 (n := k / 16) (by omega)
    have hs : k / 16 < k := by omega
    have hb : ((k / 16 : Nat) : Int) < 18446744073709551616 := by omega
    have hb2 : (hexS (k / 16)).length + 1 < 4611686018427387904 := by omega
    rcases hr16 (k % 16) (by omega) with hr | hr | hr | hr | hr | hr | hr | hr | hr | hr | hr | hr | hr | hr | hr | hr
    · have hm2 : (k : Int) % 16 = 0 := by omega
      simp [c97, svBytes, List.replicate, hm, hm2, hr, e1, hq, F97h, size97, hs, hb, hb2, hexC, -Int.natCast_ediv]
    · have hm2 : (k : Int) % 16 = 1 := by omega
      simp [c97, svBytes, List.replicate, hm, hm2, hr, e1, hq, F97h, size97, hs, hb, hb2, hexC, -Int.natCast_ediv]
    · have hm2 : (k : Int) % 16 = 2 := by omega
      simp [c97, svBytes, List.replicate, hm, hm2, hr, e1, hq, F97h, size97, hs, hb, hb2, hexC, -Int.natCast_ediv]
    · have hm2 : (k : Int) % 16 = 3 := by omega
      simp [c97, svBytes, List.replicate, hm, hm2, hr, e1, hq, F97h, size97, hs, hb, hb2, hexC, -Int.natCast_ediv]
    · have hm2 : (k : Int) % 16 = 4 := by omega
      simp [c97, svBytes, List.replicate, hm, hm2, hr, e1, hq, F97h, size97, hs, hb, hb2, hexC, -Int.natCast_ediv]
    · have hm2 : (k : Int) % 16 = 5 := by omega
      simp [c97, svBytes, List.replicate, hm, hm2, hr, e1, hq, F97h, size97, hs, hb, hb2, hexC, -Int.natCast_ediv]
    · have hm2 : (k : Int) % 16 = 6 := by omega
      simp [c97, svBytes, List.replicate, hm, hm2, hr, e1, hq, F97h, size97, hs, hb, hb2, hexC, -Int.natCast_ediv]
    · have hm2 : (k : Int) % 16 = 7 := by omega
      simp [c97, svBytes, List.replicate, hm, hm2, hr, e1, hq, F97h, size97, hs, hb, hb2, hexC, -Int.natCast_ediv]
    · have hm2 : (k : Int) % 16 = 8 := by omega
      simp [c97, svBytes, List.replicate, hm, hm2, hr, e1, hq, F97h, size97, hs, hb, hb2, hexC, -Int.natCast_ediv]
    · have hm2 : (k : Int) % 16 = 9 := by omega
      simp [c97, svBytes, List.replicate, hm, hm2, hr, e1, hq, F97h, size97, hs, hb, hb2, hexC, -Int.natCast_ediv]
    · have hm2 : (k : Int) % 16 = 10 := by omega
      simp [c97, svBytes, List.replicate, hm, hm2, hr, e1, hq, F97h, size97, hs, hb, hb2, hexC, -Int.natCast_ediv]
    · have hm2 : (k : Int) % 16 = 11 := by omega
      simp [c97, svBytes, List.replicate, hm, hm2, hr, e1, hq, F97h, size97, hs, hb, hb2, hexC, -Int.natCast_ediv]
    · have hm2 : (k : Int) % 16 = 12 := by omega
      simp [c97, svBytes, List.replicate, hm, hm2, hr, e1, hq, F97h, size97, hs, hb, hb2, hexC, -Int.natCast_ediv]
    · have hm2 : (k : Int) % 16 = 13 := by omega
      simp [c97, svBytes, List.replicate, hm, hm2, hr, e1, hq, F97h, size97, hs, hb, hb2, hexC, -Int.natCast_ediv]
    · have hm2 : (k : Int) % 16 = 14 := by omega
      simp [c97, svBytes, List.replicate, hm, hm2, hr, e1, hq, F97h, size97, hs, hb, hb2, hexC, -Int.natCast_ediv]
    · have hm2 : (k : Int) % 16 = 15 := by omega
      simp [c97, svBytes, List.replicate, hm, hm2, hr, e1, hq, F97h, size97, hs, hb, hb2, hexC, -Int.natCast_ediv]

def S1143 (F : List SV → Option AV) : Prop := ∀ n k : Nat, n < 18446744073709551616 → k < 1000000 → F [.int .u64 (n : Int), .int .u64 16, .int .i64 (k : Int)] = some (.sv (.str (padS (hexS n) k)))

theorem svBytes_map (l : List UInt8) : svBytes (bytesSV l) = some l := svBytes_bytes l

def S1113 (F : List SV → Option AV) : Prop := ∀ n k : Nat, n < 18446744073709551616 → k < 1000000 → F [.int .u64 (n : Int), .int .i64 (k : Int)] = some (.sv (.str (upS n k)))

def cellsB (l : List UInt8) : List Cell := (bytesSV l).map .sv

theorem cellsB_cons (c : UInt8) (l : List UInt8) : cellsB (c :: l) = .sv (.int .u8 (c.toNat : Int)) :: cellsB l := rfl
theorem cellsB_append (a b : List UInt8) : cellsB (a ++ b) = cellsB a ++ cellsB b := by simp [cellsB, bytesSV]
theorem cellsB_length (a : List UInt8) : (cellsB a).length = a.length := by simp [cellsB, bytesSV]
theorem cellsB_plain (a : List UInt8) : (cellsB a).map Cell.plain = bytesSV a := by
  unfold cellsB bytesSV
  rw [List.map_map, List.map_map]
  rfl

def S123 (F : List SV → Option AV) : Prop := ∀ s : List UInt8, s.length < 9223372036854775807 → F [.str s, .int .u64 16] = some (.sv (.tup (match hexV s with | some m => [.int .u64 m, .bool true] | none => match numV 16 0 s with | some m => [.int .u64 m, .bool false] | none => [.int .u64 0, .bool false])))

theorem loop123h (E : Env) (cf : CallF) (hP : E.pure 146 = some F134) (s : List UInt8) (hs : s.length < 9223372036854775807) (m : Nat) :
    ∀ (rest pre : List UInt8) (n k : Nat), s = pre ++ rest → n < 18446744073709551616 → rest.length < k →
      rounds (evC E cf m b123_0) k { tm := [.sv (.str s), .sv (.int .u64 16), .sv .undef, .sv .undef, .sv .undef, .sv .undef, .sv (.int .u64 n), .sv .undef, .sv .undef, .sv .undef, .sv (.int .i64 s.length), .sv (.int .i64 pre.length)] ++ List.replicate 26 (.sv .undef), lz := none, bx := [], df := [] } =
        match numV 16 n rest with
        | some m => some (.exit 0, { tm := [.sv (.str s), .sv .undef, .sv .undef, .sv .undef, .sv .undef, .sv .undef, .sv (.int .u64 m)] ++ List.replicate 31 (.sv .undef), lz := none, bx := [], df := [] })
        | none => some (.ret, { tm := [.sv .undef, .sv .undef, .sv .undef, .sv .undef, .sv (.int .u64 0), .sv (.bool false)] ++ List.replicate 32 (.sv .undef), lz := none, bx := [], df := [] }) := by
  intro rest
  induction rest with
  | nil =>
    intro pre n k hsp hn hk
    obtain ⟨k, rfl⟩ : ∃ k', k = k' + 1 := ⟨k - 1, by omega⟩
    have hlt : ¬ (pre.length < s.length) := by rw [hsp]; simp
    simp [rounds, b123_0, List.replicate, hlt, numV]
  | cons c rest ih =>
    intro pre n k hsp hn hk
    obtain ⟨k, rfl⟩ : ∃ k', k = k' + 1 := ⟨k - 1, by omega⟩
    have hlt : pre.length < s.length := by rw [hsp]; simp
    have hc : ∀ h : pre.length < s.length, s[pre.length]'h = c := by subst hsp; simp
    have hc1 : (c.toNat : Int) < 256 := by have := c.toNat_lt; omega
    have hd := digitV_le c.toNat
    by_cases h1 : digitV c.toNat ≥ 16
    · have e1 : (16 : Int) ≤ (digitV c.toNat : Int) := by omega
      have hv : numV 16 n (c :: rest) = none := by simp [numV, h1]
      rw [hv]
      simp [rounds, b123_0, List.replicate, hlt, hc, hP, F134, hc1, e1]
    · have e1 : ¬ (16 : Int) ≤ (digitV c.toNat : Int) := by omega
      have hw : IntKind.u64.wrap (18446744073709551615 - (digitV c.toNat : Int)) = ((18446744073709551615 - digitV c.toNat : Nat) : Int) := by rw [IntKind.wrap_u64]; omega
      have hq : IntKind.u64.wrap (((18446744073709551615 - digitV c.toNat : Nat) : Int) / 16) = (((18446744073709551615 - digitV c.toNat) / 16 : Nat) : Int) := by rw [IntKind.wrap_u64]; omega
      by_cases h2 : n > (18446744073709551615 - digitV c.toNat) / 16
      · have e2 : (((18446744073709551615 - digitV c.toNat) / 16 : Nat) : Int) < (n : Int) := by omega
        have hv : numV 16 n (c :: rest) = none := by simp [numV, h2]
        rw [hv]
        simp [rounds, b123_0, List.replicate, hlt, hc, hP, F134, hc1, e1, hw, hq, e2, -Int.natCast_ediv]
      · have e2 : ¬ (((18446744073709551615 - digitV c.toNat) / 16 : Nat) : Int) < (n : Int) := by omega
        have hv : numV 16 n (c :: rest) = numV 16 (n * 16 + digitV c.toNat) rest := by simp [numV, h1, h2]
        have hb : n * 16 + digitV c.toNat < 18446744073709551616 := by omega
        have hw1 : IntKind.u64.wrap (IntKind.u64.wrap ((n : Int) * 16) + (digitV c.toNat : Int)) = ((n * 16 + digitV c.toNat : Nat) : Int) := by rw [IntKind.wrap_u64, IntKind.wrap_u64]; omega
        have hw2 : IntKind.i64.wrap ((pre.length : Int) + 1) = ((pre ++ [c]).length : Int) := by rw [IntKind.wrap_i64]; simp; omega
        have := ih (pre ++ [c]) (n * 16 + digitV c.toNat) k (by rw [hsp]; simp) hb (by simp at hk; omega)
        rw [hv, ← this]
        simp [rounds, b123_0, List.replicate, hlt, hc, hP, F134, hc1, e1, hw, hq, e2, hw1, hw2, -Int.natCast_ediv]

theorem ev123h (E : Env) (h : E.code 81 = some c123) (h134 : E.pure 146 = some F134) : S123 (autoF E 81) := by
  intro s hs
  have hl := loop123h E (evF E (s.length + 1)) h134 s hs (s.length + 1) s [] 0 (s.length + 1) rfl (by omega) (by omega)
  simp [List.replicate] at hl
  refine autoF_sv (n := s.length + 1) ?_ rfl
  unfold evP
  simp only [h]
  unfold hexV
  cases hv : numV 16 0 s with
  | none => simp [hv] at hl; simp [c123, List.replicate, hl]
  | some m =>
    simp [hv] at hl
    by_cases hne : s = []
    · subst hne
      simp only [List.length_nil, Int.ofNat_zero, Int.natCast_zero, Nat.zero_add] at hl ⊢
      simp [c123, List.replicate, hl]
    · simp [c123, List.replicate, hl, hne]

end Go.Ev

set_option linter.unusedSimpArgs false
set_option linter.unusedVariables false
namespace Go.Ev
open Go.Proofs

def siCpu (i : Nat) : List UInt8 := leftS (67 :: 80 :: 85 :: decS i) 11

def siCol (n : Nat) : List UInt8 := 32 :: rightS (decS n) 10

theorem binAdd {a b : List UInt8} (h : a.length + b.length < 4611686018427387904) : binSV .add (.str a) (.str b) = some (.str (a ++ b)) := by
  simp only [binSV, h, if_true]

def st15h (v0 v4 : SV) (c : Nat) (out : List UInt8) (i : Nat) : SA := { nt := 97, tm := [(22, .sv (.int .i64 i)), (21, .sv (.int .i64 c)), (5, .sv (.str out)), (4, .sv v4), (0, .sv v0)], lz := none, bx := [], df := [] }

theorem step15h (E : Env) (cf : CallF) (m : Nat) (h44 : E.pure 57 = some F44) (h45 : E.pure 58 = some F45) (v0 v4 : SV) (c : Nat) (hc : c < 100000000000) (out : List UInt8) (ho : out.length < 100000000000000) (i : Nat) (hlt : i < c) :
    evCA E cf m b15_2 (st15h v0 v4 c out i) = some (.normal, st15h v0 v4 c (out ++ siCpu i) (i + 1)) := by
  have hw : IntKind.i64.wrap ((i : Int) + 1) = ((i + 1 : Nat) : Int) := by rw [IntKind.wrap_i64]; omega
  have hu : IntKind.u64.wrap ((i : Nat) : Int) = ((i : Nat) : Int) := by rw [IntKind.wrap_u64]; omega
  have k1 := F45_eq i (by omega)
  have hl := decS_len20 (n := i) (by omega)
  have k2 : F44 [.str (67 :: 80 :: 85 :: decS i), .int .i64 11] = some (.sv (.str (siCpu i))) := F44_eq _ 11 (by omega) (by simp; omega)
  have hll : (siCpu i).length ≤ 40 := by unfold siCpu leftS; simp; omega
  have a1 : binSV .add (.str [67, 80, 85]) (.str (decS i)) = some (.str (67 :: 80 :: 85 :: decS i)) := binAdd (by simp; omega)
  have a2 : binSV .add (.str out) (.str (siCpu i)) = some (.str (out ++ siCpu i)) := binAdd (by omega)
  generalize siCpu i = w at *
  generalize decS i = d at *
  have hlt' : (i : Int) < (c : Int) := by omega
  have o1 : ∀ x y, binSV .lss (.int .i64 x) (.int .i64 y) = some (.bool (decide (x < y))) := fun x y => by simp [binSV]
  have o2 : binSV .add (.int .i64 (i : Int)) (.int .i64 1) = some (.int .i64 ((i + 1 : Nat) : Int)) := by simp [binSV, hw]
  simp [-binSV, st15h, b15_2, hlt, hlt', o1, o2, hu, h45, k1, h44, k2, a1, a2]

theorem loop15h (E : Env) (cf : CallF) (m : Nat) (h44 : E.pure 57 = some F44) (h45 : E.pure 58 = some F45) (v0 v4 : SV) (c : Nat) (hc : c < 100000000000) :
    ∀ (d i : Nat) (out : List UInt8) (k : Nat), i + d = c → out.length ≤ 1000 + i * 40 → d < k →
      roundsA (evCA E cf m b15_2) k (st15h v0 v4 c out i) = some (.exit 0, { nt := 97, tm := [(5, .sv (.str (out ++ ((List.range' i d).map siCpu).flatten))), (4, .sv v4), (0, .sv v0)], lz := none, bx := [], df := [] }) := by
  intro d
  induction d with
  | zero =>
    intro i out k hi ho hk
    obtain ⟨k, rfl⟩ : ∃ k', k = k' + 1 := ⟨k - 1, by omega⟩
    have hlt : ¬ (i < c) := by omega
    refine roundsA_out ?_ (by simp)
    simp [st15h, b15_2, hlt]
  | succ d ih =>
    intro i out k hi ho hk
    obtain ⟨k, rfl⟩ : ∃ k', k = k' + 1 := ⟨k - 1, by omega⟩
    have hl := decS_len20 (n := i) (by omega)
    have hll : (siCpu i).length ≤ 40 := by unfold siCpu leftS; simp; omega
    rw [roundsA_step (step15h E cf m h44 h45 v0 v4 c hc out (by omega) i (by omega)), ih (i + 1) (out ++ siCpu i) k (by omega) (by simp only [List.length_append]; omega) (by omega)]
    simp [List.range'_succ]

/-! ### The numbers of a row -/

def st15n (v0 v4 v35 : SV) (l36 : Nat) (j : Nat) (ns : List SV) (out : List UInt8) (i : Nat) (bx : List Box) : SA := { nt := 97, tm := [(82, .sv (.int .i64 i)), (81, .sv (.int .i64 ns.length)), (80, .sv (.sl ns)), (37, .sv (.int .i64 j)), (36, .sv (.int .i64 l36)), (35, .sv v35), (5, .sv (.str out)), (4, .sv v4), (0, .sv v0)], lz := none, bx := bx, df := [] }

theorem step15n (E : Env) (cf : CallF) (m : Nat) (h46 : Has E 59 S46) (h45 : E.pure 58 = some F45) (v0 v4 v35 : SV) (l36 j : Nat) (ns : List SV) (hl : ns.length < 100000000000) (out : List UInt8) (ho : out.length < 100000000000000) (i : Nat) (hlt : i < ns.length) (n : Nat) (hn : n < 18446744073709551616) (hc : ∀ h : i < ns.length, ns[i]'h = .int .u64 (n : Int)) (bx : List Box) :
    evCA E cf m b15_0 (st15n v0 v4 v35 l36 j ns out i bx) = some (.normal, st15n v0 v4 v35 l36 j ns (out ++ siCol n) (i + 1) bx) := by
  obtain ⟨F, hp, hF⟩ := h46
  have hw : IntKind.i64.wrap ((i : Int) + 1) = ((i + 1 : Nat) : Int) := by rw [IntKind.wrap_i64]; omega
  have k1 := F45_eq n hn
  have hd := decS_len20 hn
  have k2 : F [.str (decS n), .int .i64 10] = some (.sv (.str (rightS (decS n) 10))) := hF (decS n) 10 (by omega) (by omega)
  have hll := rightS_len (decS n) 10
  have a1 : binSV .add (.str [32]) (.str (rightS (decS n) 10)) = some (.str (siCol n)) := binAdd (by simp; omega)
  have hcl : (siCol n).length ≤ 31 := by unfold siCol; simp; omega
  have a2 : binSV .add (.str out) (.str (siCol n)) = some (.str (out ++ siCol n)) := binAdd (by omega)
  generalize siCol n = w at *
  generalize rightS (decS n) 10 = r at *
  generalize decS n = d at *
  have o1 : ∀ x y, binSV .lss (.int .i64 x) (.int .i64 y) = some (.bool (decide (x < y))) := fun x y => by simp [binSV]
  have o2 : binSV .add (.int .i64 (i : Int)) (.int .i64 1) = some (.int .i64 ((i + 1 : Nat) : Int)) := by simp [binSV, hw]
  simp [-binSV, st15n, b15_0, hlt, hc, o1, o2, h45, k1, hp, k2, a1, a2]

theorem loop15n (E : Env) (cf : CallF) (m : Nat) (h46 : Has E 59 S46) (h45 : E.pure 58 = some F45) (v0 v4 v35 : SV) (l36 j : Nat) (ns : List Nat) (hl : ns.length < 1000000000) (hn : ∀ n ∈ ns, n < 18446744073709551616) (bx : List Box) :
    ∀ (rest vs : List Nat) (out : List UInt8) (k : Nat), ns = vs ++ rest → out.length + rest.length * 31 < 100000000000000 → rest.length < k →
      roundsA (evCA E cf m b15_0) k (st15n v0 v4 v35 l36 j (u64s ns) out vs.length bx) = some (.exit 4, { nt := 97, tm := [(37, .sv (.int .i64 j)), (36, .sv (.int .i64 l36)), (35, .sv v35), (5, .sv (.str (out ++ (rest.map siCol).flatten))), (4, .sv v4), (0, .sv v0)], lz := none, bx := bx, df := [] }) := by
  have hlen : (u64s ns).length = ns.length := by simp [u64s]
  intro rest
  induction rest with
  | nil =>
    intro vs out k hsp _ hk
    obtain ⟨k, rfl⟩ : ∃ k', k = k' + 1 := ⟨k - 1, by omega⟩
    simp only [List.append_nil] at hsp
    subst hsp
    refine roundsA_out ?_ (by simp)
    simp [st15n, b15_0, hlen]
  | cons r rest ih =>
    intro vs out k hsp ho hk
    obtain ⟨k, rfl⟩ : ∃ k', k = k' + 1 := ⟨k - 1, by omega⟩
    simp only [List.length_cons] at ho
    have hlt : vs.length < (u64s ns).length := by rw [hlen, hsp]; simp
    have hc : ∀ h : vs.length < (u64s ns).length, (u64s ns)[vs.length]'h = .int .u64 (r : Int) := by subst hsp; intro h; simp [u64s]
    have hr : r < 18446744073709551616 := hn r (by rw [hsp]; simp)
    have hcl : (siCol r).length ≤ 31 := by
      have := decS_len20 hr
      have := rightS_len (decS r) 10
      unfold siCol; simp; omega
    rw [roundsA_step (step15n E cf m h46 h45 v0 v4 v35 l36 j _ (by omega) out (by omega) vs.length hlt r hr hc bx)]
    have := ih (vs ++ [r]) (out ++ siCol r) k (by rw [hsp]; simp) (by simp only [List.length_append]; omega) (by simp at hk; omega)
    rw [List.length_append, List.length_singleton] at this
    rw [this]
    simp

end Go.Ev

set_option linter.unusedSimpArgs false
set_option linter.unusedVariables false
namespace Go.Ev
open Go.Proofs

def siRowOk (c : Nat) (nm : List UInt8) (r : RowD) : Bool := decide (r.name = nm) && (decide (r.S.length = 0) && (decide (1 ≤ r.N.length) && decide (r.N.length = c)))

def siLine (r : RowD) : List UInt8 := rightS r.name 12 ++ (58 :: ((r.N.map siCol).flatten ++ [10]))

def st15r (rows names : List SV) (out : List UInt8) (j : Nat) (bx : List Box) : SA := { nt := 97, tm := [(37, .sv (.int .i64 j)), (36, .sv (.int .i64 rows.length)), (35, .sv (.sl rows)), (5, .sv (.str out)), (4, .sv (.sl names)), (0, .sv (.sl rows))], lz := none, bx := bx, df := [] }

def bad15 (bx : List Box) : SA := { nt := 97, tm := [(3, .sv (.int .i64 2)), (2, .sv (.str []))], lz := none, bx := bx, df := [] }

set_option maxHeartbeats 8000000 in
theorem step15r_bad (E : Env) (cf : CallF) (m : Nat) (rows names : List SV) (out : List UInt8) (j : Nat) (hlt : j < rows.length) (h0 : 0 < rows.length) (hln : j < names.length) (r r0 : RowD) (fd nm : List UInt8) (hc : ∀ h : j < rows.length, rows[j]'h = .agg [.str r.name, .sl (u64s r.N), .sl (strs r.S)]) (hc0 : ∀ h : 0 < rows.length, rows[0]'h = .agg [.str r0.name, .sl (u64s r0.N), .sl (strs r0.S)])
    (hcn : ∀ h : j < names.length, names[j]'h = .agg [.str fd, .str nm]) (bx : List Box) (hb : siRowOk r0.N.length nm r = false) :
    evCA E cf m b15_1 (st15r rows names out j bx) = some (.ret, bad15 (bx ++ [rowBox r])) := by
  have l1 : (u64s r.N).length = r.N.length := by simp [u64s]
  have l2 : (strs r.S).length = r.S.length := by simp [strs]
  have l3 : (u64s r0.N).length = r0.N.length := by simp [u64s]
  unfold siRowOk at hb
  by_cases q1 : r.name = nm
  rotate_left
  · have e1 : (r.name == nm) = false := by simpa using q1
    simp [st15r, bad15, b15_1, hlt, h0, hln, hc, hc0, hcn, rowBox, e1, q1]
  have e1 : (r.name == nm) = true := by simpa using q1
  by_cases q2 : r.S.length = 0
  rotate_left
  · have e2 : 0 < r.S.length := by omega
    simp only [rowBox]
    generalize u64s r.N = xs at *
    generalize strs r.S = ys at *
    simp [st15r, bad15, b15_1, hlt, h0, hln, hc, hc0, hcn, rowBox, e1, l2, e2, q1]
  have e2 : ¬ 0 < r.S.length := by omega
  by_cases q3 : 1 ≤ r.N.length
  rotate_left
  · have e3 : (r.N.length : Int) < 1 := by omega
    have e3b : r.N.length = 0 := by omega
    simp only [rowBox]
    generalize u64s r.N = xs at *
    generalize strs r.S = ys at *
    simp [st15r, bad15, b15_1, hlt, h0, hln, hc, hc0, hcn, rowBox, e1, l1, l2, e2, q2, e3, e3b, q1]
  have e3 : ¬ (r.N.length : Int) < 1 := by omega
  by_cases q4 : r.N.length = r0.N.length
  rotate_left
  · have f4 : ¬ (r.N.length : Int) = (r0.N.length : Int) := by omega
    have e4 : ((r.N.length : Int) == (r0.N.length : Int)) = false := by simpa using (by omega : ¬ (r.N.length : Int) = (r0.N.length : Int))
    simp only [rowBox]
    generalize u64s r.N = xs at *
    generalize u64s r0.N = zs at *
    generalize strs r.S = ys at *
    simp [st15r, bad15, b15_1, hlt, h0, hln, hc, hc0, hcn, rowBox, e1, l1, l2, l3, e2, q2, e3, e4, f4, q1, q4]
  rw [decide_eq_true q1, decide_eq_true q2, decide_eq_true q3, decide_eq_true q4] at hb
  cases hb

set_option maxHeartbeats 8000000 in
theorem step15r_ok (E : Env) (cf : CallF) (m : Nat) (h46 : Has E 59 S46) (h45 : E.pure 58 = some F45) (rows names : List SV) (hrl : rows.length < 1000000000) (out : List UInt8) (j : Nat) (hlt : j < rows.length) (h0 : 0 < rows.length) (hln : j < names.length) (r r0 : RowD) (fd nm : List UInt8) (hnm : nm.length < 100) (hc : ∀ h : j < rows.length, rows[j]'h = .agg [.str r.name, .sl (u64s r.N), .sl (strs r.S)]) (hc0 : ∀ h : 0 < rows.length, rows[0]'h = .agg [.str r0.name, .sl (u64s r0.N), .sl (strs r0.S)])
    (hcn : ∀ h : j < names.length, names[j]'h = .agg [.str fd, .str nm]) (bx : List Box) (hb : siRowOk r0.N.length nm r = true) (hl : r.N.length < 100000000) (hn : ∀ n ∈ r.N, n < 18446744073709551616) (ho : out.length < 50000000000000) (hm : r.N.length < m) :
    evCA E cf m b15_1 (st15r rows names out j bx) = some (.normal, st15r rows names (out ++ siLine r) (j + 1) (bx ++ [rowBox r])) := by
  have l1 : (u64s r.N).length = r.N.length := by simp [u64s]
  have l2 : (strs r.S).length = r.S.length := by simp [strs]
  have l3 : (u64s r0.N).length = r0.N.length := by simp [u64s]
  unfold siRowOk at hb
  simp only [Bool.and_eq_true, decide_eq_true_eq] at hb
  obtain ⟨q1, q2, q3, q4⟩ := hb
  have e1 : (r.name == nm) = true := by simpa using q1
  have e2 : ¬ 0 < r.S.length := by omega
  have e3 : ¬ (r.N.length : Int) < 1 := by omega
  have e4 : ((r.N.length : Int) == (r0.N.length : Int)) = true := by simpa using (by omega : (r.N.length : Int) = (r0.N.length : Int))
  have hw : IntKind.i64.wrap ((j : Int) + 1) = ((j + 1 : Nat) : Int) := by rw [IntKind.wrap_i64]; omega
  have hrn := rightS_len r.name 12
  rw [q1] at hrn
  have hcl : ((r.N.map siCol).flatten).length ≤ r.N.length * 31 := by
    have : ∀ l : List Nat, (∀ n ∈ l, n < 18446744073709551616) → ((l.map siCol).flatten).length ≤ l.length * 31 := by
      intro l
      induction l with
      | nil => intro _; simp
      | cons x xs ih =>
        intro hx
        have h1 := ih fun n hn => hx n (by simp [hn])
        have h2 := decS_len20 (hx x (by simp))
        have h3 := rightS_len (decS x) 10
        simp only [List.map_cons, List.flatten_cons, List.length_append, List.length_cons, siCol] at *
        omega
    exact this _ hn
  have he := loop15n E cf m h46 h45 (.sl rows) (.sl names) (.sl rows) rows.length j r.N (by omega) hn (bx ++ [rowBox r]) r.N [] (out ++ (rightS nm 12 ++ [58])) m rfl (by simp only [List.length_append, List.length_cons, List.length_nil]; omega) hm
  obtain ⟨F, hp, hF⟩ := h46
  have k2 : F [.str nm, .int .i64 12] = some (.sv (.str (rightS nm 12))) := hF nm 12 (by omega) (by omega)
  have a1 : binSV .add (.str (rightS nm 12)) (.str [58]) = some (.str (rightS nm 12 ++ [58])) := binAdd (by simp; omega)
  have a2 : binSV .add (.str out) (.str (rightS nm 12 ++ [58])) = some (.str (out ++ (rightS nm 12 ++ [58]))) := binAdd (by simp; omega)
  have a3 : binSV .add (.str (out ++ (rightS nm 12 ++ [58]) ++ (r.N.map siCol).flatten)) (.str [10]) = some (.str (out ++ siLine r)) := by
    rw [binAdd (by simp only [List.length_append, List.length_cons, List.length_nil]; omega)]
    unfold siLine
    rw [q1]
    simp
  simp only [st15n, List.length_nil, Int.ofNat_zero, Int.natCast_zero, l1] at he
  generalize out ++ siLine r = o3 at *
  generalize out ++ (rightS nm 12 ++ [58]) ++ (r.N.map siCol).flatten = o2 at *
  generalize out ++ (rightS nm 12 ++ [58]) = o1 at *
  generalize rightS nm 12 ++ [58] = w1 at *
  generalize rightS nm 12 = w0 at *
  generalize hxs : u64s r.N = xs at *
  generalize u64s r0.N = zs at *
  generalize hys : strs r.S = ys at *
  have p1 : ∀ x y, binSV .lss (.int .i64 x) (.int .i64 y) = some (.bool (decide (x < y))) := fun x y => by simp [binSV]
  have p2 : ∀ x y, binSV .gtr (.int .i64 x) (.int .i64 y) = some (.bool (decide (x > y))) := fun x y => by simp [binSV]
  have p3 : ∀ x y, binSV .neq (.int .i64 x) (.int .i64 y) = some (.bool (x != y)) := fun x y => by simp [binSV]
  have p4 : ∀ x y, binSV .neq (.str x) (.str y) = some (.bool !(x == y)) := fun x y => by simp [binSV]
  have p5 : binSV .add (.int .i64 (j : Int)) (.int .i64 1) = some (.int .i64 ((j + 1 : Nat) : Int)) := by simp [binSV, hw]
  have e5 : ((r.N.length : Int) != (r0.N.length : Int)) = false := by simp only [bne, e4]; rfl
  simp only [rowBox, hxs, hys, q1] at he ⊢
  simp [-binSV, st15r, b15_1, hlt, h0, hln, hc, hc0, hcn, rowBox, hxs, hys, p1, p2, p3, p4, p5, e1, q1, l1, l2, l3, e2, q2, e3, e4, e5, hp, k2, a1, a2, a3, he]

end Go.Ev
