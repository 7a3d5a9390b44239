/- The seat's tables; the sanity check by evaluation; what the listed variables hold. -/
/- Environments entry by entry. -/
/- Entries of the counters of transformations: what is written is read. -/
/- Tables of sockets: parts of a text, hexadecimal numbers, padding. -/
/- Tables of sockets: what is written, and what the reference reads. -/
/- Wireless interfaces: what is fine, what is written, what is read (plain). -/
/- The three laws of any form, out of what its functions answer. -/
/- Wireless interfaces: the trees (plain). -/
import Derived.Test.YtcjebcenbimcgaaGreatDoorEai
import Derived.Test.YtcjebcenbimcgaaGreatDoorEak
import Derived.Test.YtcjebcenbimcgaaGreatDoorEam
import Derived.Test.YtcjebcenbimcgaaGreatDoorEao
import Derived.Test.YtcjebcenbimcgaaGreatDoorEap
import Derived.Test.YtcjebcenbimcgaaGreatDoorEar
import Derived.Laws.Externs
import Derived.Test.YtcjebcenbimcgaaGreatDoorEan
import Derived.Test.YtcjebcenbimcgaaGreatDoorEaq
set_option linter.unusedSimpArgs false
set_option linter.unusedVariables false
namespace Go.Ev
open Go.Proofs

def codeTab : List (Nat × AFn) := [(15, c9), (19, c13), (38, c25), (39, c26), (40, c27), (41, c28), (43, c30), (46, c33), (47, c34), (49, c36), (51, c38), (58, c45), (79, c52), (70, c66), (104, c74), (80, c76), (78, c78), (109, c81), (114, c85), (116, c87), (117, c88), (119, c90), (126, c97), (128, c99), (184, c117), (185, c118), (186, c119), (187, c120), (188, c121), (81, c123), (190, c125), (152, c127), (159, c128), (200, c133), (146, c134), (201, c135), (213, c145), (223, c150), (219, c154), (228, c155), (232, c158), (237, c163), (238, c164), (246, c172), (248, c174), (24, c1015), (25, c1016), (65, c1035), (83, c1050), (141, c1080), (59, c46), (48, c35), (68, c58), (82, c112), (194, c143), (210, c149), (67, c1143), (192, c1157), (207, c1166), (120, c91), (195, c2243), (211, c2256), (220, c2263), (6, c3006), (7, c3007), (8, c3008), (26, c3026), (27, c3027), (28, c3028), (29, c3029), (66, c3066), (69, c3069), (71, c3071), (72, c3072), (73, c3073), (74, c3074), (75, c3075), (76, c3076), (77, c3077), (142, c3142), (144, c3144), (193, c3193)]

theorem codeTab_ok : ∀ p ∈ codeTab, codeOf Tryz.prog p.1 = some p.2 := by
  intro p hp
  simp only [codeTab, List.mem_cons, List.not_mem_nil, or_false] at hp
  rcases hp with rfl | rfl | rfl | rfl | rfl | rfl | rfl | rfl | rfl | rfl | rfl | rfl | rfl | rfl | rfl | rfl | rfl | rfl | rfl | rfl | rfl | rfl | rfl | rfl | rfl | rfl | rfl | rfl | rfl | rfl | rfl | rfl | rfl | rfl | rfl | rfl | rfl | rfl | rfl | rfl | rfl | rfl | rfl | rfl | rfl | rfl | rfl | rfl | rfl | rfl | rfl | rfl | rfl | rfl | rfl | rfl | rfl | rfl | rfl | rfl | rfl | rfl | rfl | rfl | rfl | rfl | rfl | rfl | rfl | rfl | rfl | rfl | rfl | rfl | rfl | rfl | rfl | rfl | rfl | rfl | rfl | rfl
  · exact code9
  · exact code13
  · exact code25
  · exact code26
  · exact code27
  · exact code28
  · exact code30
  · exact code33
  · exact code34
  · exact code36
  · exact code38
  · exact code45
  · exact code52
  · exact code66
  · exact code74
  · exact code76
  · exact code78
  · exact code81
  · exact code85
  · exact code87
  · exact code88
  · exact code90
  · exact code97
  · exact code99
  · exact code117
  · exact code118
  · exact code119
  · exact code120
  · exact code121
  · exact code123
  · exact code125
  · exact code127
  · exact code128
  · exact code133
  · exact code134
  · exact code135
  · exact code145
  · exact code150
  · exact code154
  · exact code155
  · exact code158
  · exact code163
  · exact code164
  · exact code172
  · exact code174
  · exact code1015
  · exact code1016
  · exact code1035
  · exact code1050
  · exact code1080
  · exact code46
  · exact code35
  · exact code58
  · exact code112
  · exact code143
  · exact code149
  · exact code1143
  · exact code1157
  · exact code1166
  · exact code91
  · exact code2243
  · exact code2256
  · exact code2263
  · exact code3006
  · exact code3007
  · exact code3008
  · exact code3026
  · exact code3027
  · exact code3028
  · exact code3029
  · exact code3066
  · exact code3069
  · exact code3071
  · exact code3072
  · exact code3073
  · exact code3074
  · exact code3075
  · exact code3076
  · exact code3077
  · exact code3142
  · exact code3144
  · exact code3193

def codeFn (f : Nat) : Option AFn := codeTab.lookup f

theorem codeFn_ok (f : Nat) (fn : AFn) (h : codeFn f = some fn) : codeOf Tryz.prog f = some fn := by
  unfold codeFn at h
  have key : ∀ (l : List (Nat × AFn)), l.lookup f = some fn → (f, fn) ∈ l := by
    intro l
    induction l with
    | nil => intro h; simp at h
    | cons p l ih =>
      obtain ⟨g, x⟩ := p
      intro h
      simp only [List.lookup] at h
      split at h
      · rename_i e
        have e' : f = g := by simpa using e
        simp only [Option.some.injEq] at h
        subst h; subst e'
        simp
      · simp [ih h]
  exact codeTab_ok (f, fn) (key _ h)

def lvl (E : Env) (L : List Nat) (N : Nat) : Nat → Env
  | 0 => E
  | k + 1 => { E with pure := fun f => if L.contains f then some (fun vs => evP (lvl E L N k) N f vs) else E.pure f }

theorem lvl_same (E : Env) (L : List Nat) (N : Nat) : ∀ k, (lvl E L N k).glob = E.glob ∧ (lvl E L N k).code = E.code ∧ (lvl E L N k).quiet = E.quiet
  | 0 => ⟨rfl, rfl, rfl⟩
  | _ + 1 => ⟨rfl, rfl, rfl⟩

theorem lvl_ok {P : Program} {E : Env} (hm : P.follows .mixedOrders = true) (hT : CodeT P E) (hQ : QuietOK P E) (hP : PureOK P E) (L : List Nat) (N : Nat) : ∀ k, PureOK P (lvl E L N k)
  | 0 => hP
  | k + 1 => by
    obtain ⟨h1, h2, h3⟩ := lvl_same E L N k
    refine ⟨fun f F hf => ?_, fun f k hf => ?_⟩
    rotate_left
    · exact hP.2 f _ hf
    simp only [lvl] at hf
    split at hf
    · simp only [Option.some.injEq] at hf
      subst hf
      have hT' : CodeT P (lvl E L N k) := by intro g fn hg; rw [h2] at hg; exact hT g fn hg
      have hQ' : QuietOK P (lvl E L N k) := by intro g hg; rw [h3] at hg; exact hQ g hg
      exact (evP_ok hm hT' hQ' (lvl_ok hm hT hQ hP L N k) N f).glob h1.symm
    · exact (hP.1 f F hf).glob rfl

def unlit : DataW Unit → Lit
  | .lit l => l
  | _ => .nil

/-- A laid datum's plain values. -/
def lits : DataW Unit → List Lit
  | .agg l => l.map unlit
  | .slice l _ => l.map unlit
  | d => [unlit d]

/-- The cells of a variable that is laid. -/
def svD (d : DataW Unit) : List SV := match d with
  | .slice _ _ => [.sl ((lits d).map litS)]
  | d => (lits d).map litS

def globT (f : Nat) : List SV := match f with
  | 1 => svD YtcjebcenbimcgaaGreatDoor.Rows.laid_strings_asciiSpace
  | 7 => svD YtcjebcenbimcgaaGreatDoor.Rows.laid_internal_strconv_float32info
  | 8 => svD YtcjebcenbimcgaaGreatDoor.Rows.laid_internal_strconv_optimize
  | 9 => svD YtcjebcenbimcgaaGreatDoor.Rows.laid_internal_strconv_float64info
  | 10 => svD YtcjebcenbimcgaaGreatDoor.Rows.laid_internal_strconv_uint64pow10
  | 13 => svD YtcjebcenbimcgaaGreatDoor.Rows.laid_internal_strconv_float64pow10
  | _ => []

def E0 : Env := { glob := globT, pure := fun _ => none, code := codeFn, quiet := quietT, look := fun f => if f = 159 then some 3 else none }

def livesL : List Nat := [51, 114, 128, 200, 152, 213, 223, 228, 232, 237, 238, 201, 246, 248, 187, 188, 186, 185]

set_option maxRecDepth 100000 in
theorem lives_ev : evP (lvl E0 livesL 200 12) 200 38 [] = some (.sv (.bool true)) := by kernel_rfl

theorem follows : Tryz.prog.follows .mixedOrders = true := by kernel_rfl

theorem look0 : LookOK Tryz.prog E0 := by
  intro f k h b w u hu us hs h0
  have h' : (if f = 159 then some 3 else none) = some k := h
  split at h' <;> simp only [Option.some.injEq, reduceCtorEq] at h'
  rename_i e
  subst e; subst h'
  exact .inr ⟨159, us, by simp [callFunc, Tryz.func159, show (Tryz.f159.name == "runtime.NumGoroutine") = false by kernel_rfl, show Tryz.f159.name ≠ "runtime.NumGoroutine" from of_decide_eq_true (by kernel_rfl), Tryz.f159], (lookErr b w u hu us hs h0).mono fun e w' h => h⟩

theorem b0 : Base Tryz.prog E0 := ⟨follows, codeT_of codeFn_ok, quiet_ok E0 rfl, And.intro (fun f F h => by cases h) look0⟩

theorem p25 (E : Env) (hE : E.glob = globT) : PureFn Tryz.prog E 38 F25 := by
  have h : PureFn Tryz.prog (lvl E0 livesL 200 12) 38 (evP (lvl E0 livesL 200 12) 200 38) := by
    obtain ⟨h1, h2, h3⟩ := lvl_same E0 livesL 200 12
    exact evP_ok follows (fun g fn hg => b0.T g fn (by rw [h2] at hg; exact hg)) (fun g hg => b0.Q g (by rw [h3] at hg; exact hg)) (lvl_ok follows b0.T b0.Q b0.P livesL 200 12) 200 38
  refine (h.glob (E' := E) (by rw [hE, (lvl_same E0 livesL 200 12).1]; rfl)).mono fun vs r hr => ?_
  unfold F25 at hr
  split at hr
  · rw [lives_ev]; exact hr
  · cases hr

theorem p75 (E : Env) : PureFn Tryz.prog E 105 F75 := by
  intro vs r hF F0 w us hG hw hs hr
  unfold F75 at hF
  split at hF
  · rename_i b
    simp only [Option.some.injEq] at hF; subst hF
    have h0 := hr 0 (.flt .f64 b) rfl
    have hsz : us.size = 1 := by simpa using hs
    obtain ⟨l⟩ := us
    match l, hsz with
    | [u], _ =>
      have hu : u = .float .f64 b := by
        have : RepS F0 (.flt .f64 b) u := by simpa using h0
        cases this; rfl
      subst hu
      refine .inl ⟨.int .u64 b, w, ?_, ⟨F0, [], fun _ => none⟩, ⟨rfl, rfl, rfl, Nat.le_refl _, fun _ _ => rfl, fun _ _ _ h => h, fun _ _ _ _ h => h, hw, rfl, fun _ _ => rfl, fun _ _ _ h => by cases h⟩, .sv _ _ _ (.int _ _)⟩
      rw [run_callFunc_extern Tryz.func105 (by kernel_rfl) (by kernel_rfl) (by kernel_rfl) (e := Extern.MathFloatBits.float64bits) (by kernel_rfl)]
      rfl
  · cases hF

def spCheck (l : List SV) : Bool := (List.range 128).all fun k => match l[k]? with
  | some (.int .u8 n) => n == ((if (decide (9 ≤ k) && decide (k ≤ 13)) || k == 32 then 1 else 0 : Nat) : Int)
  | _ => false

theorem spCheck_ok : spCheck (globT 1) = true := by kernel_rfl

theorem spT0 : SpT E0 := by
  intro c hc
  have h := List.all_eq_true.1 spCheck_ok c.toNat (List.mem_range.2 hc)
  show (globT 1).drop c.toNat = _
  have hl : c.toNat < (globT 1).length := by
    refine Decidable.byContradiction fun hn => ?_
    rw [List.getElem?_eq_none (by omega)] at h
    cases h
  rw [List.drop_eq_getElem_cons hl]
  congr 1
  rw [List.getElem?_eq_getElem hl] at h
  split at h
  · rename_i n hx
    simp only [Option.some.injEq] at hx
    rw [hx]
    have : n = (spV c : Nat) := by
      simp only [beq_iff_eq] at h
      rw [h]; unfold spV spC; rfl
    rw [this]
  · cases h

end Go.Ev

set_option linter.unusedSimpArgs false
set_option linter.unusedVariables false
namespace Go.Ev
open Go.Proofs

theorem Base.add {P : Program} {E : Env} (B : Base P E) {f : Nat} {F : List SV → Option AV} (hF : PureFn P E f F) : Base P (E.add f F) := ⟨B.m, fun g fn h => B.T g fn h, fun g h => B.Q g h, B.P.add hF⟩

theorem p27 {P : Program} {E : Env} (B : Base P E) (h : E.code 40 = some c27) : PureFn P E 40 F27 := pure27 B.m B.T B.Q B.P h
theorem p26 {P : Program} {E : Env} (B : Base P E) (h : E.code 39 = some c26) (h75 : E.pure 105 = some F75) : PureFn P E 39 F26 := pure26 B.m B.T B.Q B.P h h75

end Go.Ev


set_option linter.unusedSimpArgs false
set_option linter.unusedVariables false
namespace Go.Ev
open Go.Proofs
variable {P : Program} {E : Env}

theorem p1080 (B : Base P E) (h : E.code 141 = some c1080) : PureFn P E 141 F1080 := by
  refine PureFn.of B.m B.T B.Q B.P fun vs r hF => ?_
  unfold F1080 at hF
  split at hF
  · rename_i l
    obtain ⟨h1, hr⟩ := onlyIf_some hF
    simp only [Option.some.injEq] at hr; subst hr
    refine ⟨l.length + 1, _, ?_, .inl rfl⟩
    have := ev1080 E h (l.map unstr) (l.length + 1) (.inl (by simp))
    rw [← h1] at this
    exact this
  · cases hF

theorem p1035 (B : Base P E) (h : E.code 65 = some c1035) (h80 : E.pure 141 = some F1080) : PureFn P E 65 F1035 := by
  refine PureFn.of B.m B.T B.Q B.P fun vs r hF => ?_
  unfold F1035 at hF
  split at hF
  · rename_i s ns ss
    obtain ⟨h1, hr⟩ := onlyIf_some hF
    simp only [Option.some.injEq] at hr; subst hr
    refine ⟨1, _, ?_, .inl rfl⟩
    have := ev1035 E h h80 (unrow (.agg [.str s, .sl ns, .sl ss])) 1
    rw [show SV.agg [.str (unrow (.agg [.str s, .sl ns, .sl ss])).name, .sl (u64s (unrow (.agg [.str s, .sl ns, .sl ss])).N), .sl (strs (unrow (.agg [.str s, .sl ns, .sl ss])).S)] = (unrow (.agg [.str s, .sl ns, .sl ss])).sv from rfl, ← h1] at this
    exact this
  · cases hF

theorem p1015 (B : Base P E) (h : E.code 24 = some c1015) (h35 : E.pure 65 = some F1035) : PureFn P E 24 F1015 := by
  refine PureFn.of B.m B.T B.Q B.P fun vs r hF => ?_
  unfold F1015 at hF
  split at hF
  · rename_i l
    obtain ⟨h1, hr⟩ := onlyIf_some hF
    simp only [Option.some.injEq] at hr; subst hr
    refine ⟨l.length + 1, _, ?_, .inl rfl⟩
    have := ev1015 E h h35 (l.map unrow) (l.length + 1) (.inl (by simp))
    rw [← h1] at this
    exact this
  · cases hF

end Go.Ev

set_option linter.unusedSimpArgs false
set_option linter.unusedVariables false
namespace Go.Ev
open Go.Proofs

/-! ### Parts between a sign -/

def partG (b : Nat) (cur : List UInt8) : List UInt8 → List (List UInt8)
  | [] => [cur]
  | c :: cs => if c.toNat = b then cur :: partG b [] cs else partG b (cur ++ [c]) cs

def partI (b : Nat) (cur : List UInt8) : List UInt8 → List (List UInt8)
  | [] => []
  | c :: cs => if c.toNat = b then cur :: partI b [] cs else partI b (cur ++ [c]) cs

def partE (b : Nat) (cur : List UInt8) : List UInt8 → List UInt8
  | [] => cur
  | c :: cs => if c.toNat = b then partE b [] cs else partE b (cur ++ [c]) cs

theorem partG_eq (b : Nat) : ∀ (s cur : List UInt8), partG b cur s = partI b cur s ++ [partE b cur s]
  | [], cur => rfl
  | c :: s, cur => by
    simp only [partG, partI, partE]
    split
    · rw [partG_eq b s]; rfl
    · rw [partG_eq b s]

theorem partI_len (b : Nat) : ∀ (s cur : List UInt8), (partI b cur s).length ≤ s.length
  | [], cur => by simp [partI]
  | c :: s, cur => by
    simp only [partI]
    split
    · have := partI_len b s []; simp; omega
    · have := partI_len b s (cur ++ [c]); simp; omega

theorem partE_len (b : Nat) : ∀ (s cur : List UInt8), (partE b cur s).length ≤ cur.length + s.length
  | [], cur => by simp [partE]
  | c :: s, cur => by
    simp only [partE]
    split
    · have := partE_len b s []; simp at this ⊢; omega
    · have := partE_len b s (cur ++ [c]); simp at this ⊢; omega

theorem partG_mem (b : Nat) : ∀ (s cur : List UInt8), ∀ x ∈ partG b cur s, x.length ≤ cur.length + s.length
  | [], cur => by simp [partG]
  | c :: s, cur => by
    simp only [partG]
    split
    · intro x hx
      rcases List.mem_cons.1 hx with rfl | hx
      · omega
      · have := partG_mem b s [] x hx; simp at this ⊢; omega
    · intro x hx
      have := partG_mem b s (cur ++ [c]) x hx; simp at this ⊢; omega

theorem partG_no (b : Nat) : ∀ (w cur rest : List UInt8), (∀ c ∈ w, c.toNat ≠ b) → partG b cur (w ++ rest) = partG b (cur ++ w) rest
  | [], cur, rest, _ => by simp
  | c :: w, cur, rest, h => by
    simp only [List.cons_append, partG]
    rw [if_neg (h c (by simp)), partG_no b w (cur ++ [c]) rest (fun x hx => h x (by simp [hx]))]
    simp

theorem partG_two {b : UInt8} {w v : List UInt8} (hw : ∀ c ∈ w, c.toNat ≠ b.toNat) (hv : ∀ c ∈ v, c.toNat ≠ b.toNat) : partG b.toNat [] (w ++ b :: v) = [w, v] := by
  rw [partG_no _ w [] _ hw, List.nil_append]
  simp only [partG, if_true]
  have := partG_no b.toNat v [] [] hv
  rw [List.append_nil, List.nil_append] at this
  rw [this]; rfl

theorem partG_none {b : Nat} {s : List UInt8} (h : ∀ c ∈ s, c.toNat ≠ b) : partG b [] s = [s] := by
  have := partG_no b s [] [] h
  rw [List.append_nil, List.nil_append] at this
  rw [this]; rfl

theorem partG_first {b : UInt8} {w rest : List UInt8} (hw : ∀ c ∈ w, c.toNat ≠ b.toNat) : partG b.toNat [] (w ++ b :: rest) = w :: partG b.toNat [] rest := by
  rw [partG_no _ w [] _ hw, List.nil_append]
  simp only [partG, if_true]

/-! ### Hexadecimal numbers -/

def hexC (d : Nat) : UInt8 := UInt8.ofNat (if d < 10 then 48 + d else 87 + d)

def hexF : Nat → Nat → List UInt8
  | 0, _ => []
  | f + 1, n => if n < 16 then [hexC n] else hexF f (n / 16) ++ [hexC (n % 16)]

def hexS (n : Nat) : List UInt8 := hexF (n + 1) n

theorem hexF_more : ∀ (f g n : Nat), n < f → n < g → hexF f n = hexF g n
  | 0, _, _, h, _ => by omega
  | _ + 1, 0, _, _, h => by omega
  | f + 1, g + 1, n, h1, h2 => by
    simp only [hexF]
    split
    · rfl
    · rw [hexF_more f g (n / 16) (by omega) (by omega)]

theorem hexS_small {n : Nat} (h : n < 16) : hexS n = [hexC n] := by simp [hexS, hexF, h]

theorem hexS_step {n : Nat} (h : ¬ n < 16) : hexS n = hexS (n / 16) ++ [hexC (n % 16)] := by
  unfold hexS
  rw [hexF, if_neg h, hexF_more n (n / 16 + 1) (n / 16) (by omega) (by omega)]

theorem hexS_length (n : Nat) : ∀ k, n < 16 ^ (k + 1) → (hexS n).length ≤ k + 1 := by
  intro k
  induction k generalizing n with
  | zero => intro h; simp at h; rw [hexS_small h]; simp
  | succ k ih =>
    intro h
    by_cases hn : n < 16
    · rw [hexS_small hn]; simp
    · rw [hexS_step hn]
      have := ih (n / 16) (by rw [Nat.pow_succ] at h; omega)
      simp; omega

theorem hexS_len16 {n : Nat} (h : n < 18446744073709551616) : (hexS n).length ≤ 16 := hexS_length n 15 (by omega)

theorem hexC_toNat {d : Nat} (h : d < 16) : (hexC d).toNat = if d < 10 then 48 + d else 87 + d := by
  unfold hexC
  split <;> simp <;> omega

/-- A text with noughts ahead. -/
def padS (s : List UInt8) (k : Nat) : List UInt8 := List.replicate (k - s.length) 48 ++ s

/-- A text with blanks ahead. -/
def rightS (s : List UInt8) (k : Nat) : List UInt8 := List.replicate (k - s.length) 32 ++ s

theorem padS_step {s : List UInt8} {n : Nat} (h : s.length < n) : padS (48 :: s) n = padS s n := by
  unfold padS
  obtain ⟨k, hk⟩ : ∃ k, n - s.length = k + 1 := ⟨n - s.length - 1, by omega⟩
  rw [hk, show n - (48 :: s : List UInt8).length = k from by simp; omega, List.replicate_succ', List.append_assoc]; rfl

theorem padS_done {s : List UInt8} {n : Nat} (h : ¬ s.length < n) : padS s n = s := by
  unfold padS
  rw [show n - s.length = 0 from by omega]; rfl

theorem padS_len (s : List UInt8) (n : Nat) : (padS s n).length ≤ s.length + n := by unfold padS; rw [List.length_append, List.length_replicate]; omega

theorem rightS_step {s : List UInt8} {n : Nat} (h : s.length < n) : rightS (32 :: s) n = rightS s n := by
  unfold rightS
  obtain ⟨k, hk⟩ : ∃ k, n - s.length = k + 1 := ⟨n - s.length - 1, by omega⟩
  rw [hk, show n - (32 :: s : List UInt8).length = k from by simp; omega, List.replicate_succ', List.append_assoc]; rfl

theorem rightS_done {s : List UInt8} {n : Nat} (h : ¬ s.length < n) : rightS s n = s := by
  unfold rightS
  rw [show n - s.length = 0 from by omega]; rfl

theorem rightS_len (s : List UInt8) (n : Nat) : (rightS s n).length ≤ s.length + n := by unfold rightS; rw [List.length_append, List.length_replicate]; omega

def upB (c : UInt8) : UInt8 := if 97 ≤ c.toNat then UInt8.ofNat (c.toNat - 32) else c

/-- A number in large hexadecimal digits, at least so many. -/
def upS (n k : Nat) : List UInt8 := (padS (hexS n) k).map upB

theorem upS_len {n : Nat} (h : n < 18446744073709551616) (k : Nat) : (upS n k).length ≤ 16 + k := by
  unfold upS
  rw [List.length_map]
  have := padS_len (hexS n) k
  have := hexS_len16 h
  omega

/-- A large hexadecimal digit. -/
def addrC (c : UInt8) : Bool := decide (digitV c.toNat ≤ 15) && decide (c.toNat < 97)

theorem addrC_spec {c : UInt8} (h : addrC c = true) : (48 ≤ c.toNat ∧ c.toNat ≤ 57) ∨ (65 ≤ c.toNat ∧ c.toNat ≤ 70) := by
  unfold addrC at h
  simp only [Bool.and_eq_true, decide_eq_true_eq] at h
  obtain ⟨h1, h2⟩ := h
  unfold digitV at h1
  split at h1
  · omega
  · split at h1
    · omega
    · split at h1 <;> omega

theorem addrC_word {c : UInt8} (h : addrC c = true) : wordC c = true ∧ c.toNat ≠ 58 := by
  have := addrC_spec h
  refine ⟨?_, by omega⟩
  unfold wordC
  simp only [Bool.and_eq_true, decide_eq_true_eq]
  omega

theorem upB_hexC {d : Nat} (h : d < 16) : (upB (hexC d)).toNat = (if d < 10 then 48 + d else 55 + d) := by
  unfold upB
  rw [hexC_toNat h]
  by_cases hd : d < 10
  · rw [if_pos hd, if_pos hd, if_neg (by omega), hexC_toNat h, if_pos hd]
  · rw [if_neg hd, if_neg hd, if_pos (by omega)]
    simp; omega

theorem upB_digit {d : Nat} (h : d < 16) : digitV (upB (hexC d)).toNat = d ∧ addrC (upB (hexC d)) = true := by
  have h1 := upB_hexC h
  have h2 : digitV (upB (hexC d)).toNat = d := by
    rw [h1]; unfold digitV
    (repeat' split) <;> omega
  refine ⟨h2, ?_⟩
  unfold addrC
  rw [h2, h1]
  simp only [Bool.and_eq_true, decide_eq_true_eq]
  split <;> omega

def hexN (a : Nat) (s : List UInt8) : Nat := s.foldl (fun a c => a * 16 + digitV c.toNat) a

theorem hexN_nil (a : Nat) : hexN a [] = a := by unfold hexN; rw [List.foldl_nil]
theorem hexN_cons (a : Nat) (c : UInt8) (s : List UInt8) : hexN a (c :: s) = hexN (a * 16 + digitV c.toNat) s := by unfold hexN; rw [List.foldl_cons]
theorem hexN_append (s t : List UInt8) (a : Nat) : hexN a (s ++ t) = hexN (hexN a s) t := by unfold hexN; rw [List.foldl_append]

theorem hexN_ge : ∀ (s : List UInt8) (a : Nat), a ≤ hexN a s
  | [], a => by rw [hexN_nil]; exact Nat.le_refl _
  | c :: s, a => by rw [hexN_cons]; have := hexN_ge s (a * 16 + digitV c.toNat); omega

theorem hexN_noughts : ∀ k : Nat, hexN 0 (List.replicate k 48) = 0
  | 0 => by rw [List.replicate_zero, hexN_nil]
  | k + 1 => by rw [List.replicate_succ, hexN_cons]; exact hexN_noughts k

theorem hexS_hex (n : Nat) : hexN 0 ((hexS n).map upB) = n ∧ (∀ c ∈ (hexS n).map upB, addrC c = true) ∧ hexS n ≠ [] := by
  induction n using Nat.strongRecOn with
  | _ n ih =>
    by_cases h : n < 16
    · rw [hexS_small h]
      obtain ⟨h1, h2⟩ := upB_digit h
      refine ⟨?_, by simpa using h2, by simp⟩
      rw [List.map_cons, List.map_nil, hexN_cons, hexN_nil, h1]; omega
    · rw [hexS_step h]
      obtain ⟨g1, g2, g3⟩ := ih (n / 16) (by omega)
      obtain ⟨h1, h2⟩ := upB_digit (d := n % 16) (by omega)
      refine ⟨?_, ?_, by simp⟩
      · rw [List.map_append, hexN_append, g1, List.map_cons, List.map_nil, hexN_cons, hexN_nil, h1]; omega
      · intro c hc
        rw [List.map_append] at hc
        rcases List.mem_append.1 hc with hc | hc
        · exact g2 c hc
        · simp only [List.map_cons, List.map_nil, List.mem_singleton] at hc
          rw [hc]; exact h2

theorem upS_hex (n k : Nat) : hexN 0 (upS n k) = n ∧ (∀ c ∈ upS n k, addrC c = true) ∧ upS n k ≠ [] := by
  obtain ⟨h1, h2, h3⟩ := hexS_hex n
  have e : upS n k = List.replicate (k - (hexS n).length) 48 ++ (hexS n).map upB := by
    unfold upS padS
    rw [List.map_append, List.map_replicate]; rfl
  rw [e]
  refine ⟨by rw [hexN_append, hexN_noughts, h1], fun c hc => ?_, by simp [h3]⟩
  rcases List.mem_append.1 hc with hc | hc
  · rw [(List.mem_replicate.1 hc).2]; decide
  · exact h2 c hc

theorem numV_hex : ∀ (s : List UInt8) (a : Nat), (∀ c ∈ s, digitV c.toNat < 16) → hexN a s < 18446744073709551616 → numV 16 a s = some (hexN a s)
  | [], a, _, _ => by rw [hexN_nil]; rfl
  | c :: s, a, h, hb => by
    have h1 := h c (by simp)
    rw [hexN_cons] at hb ⊢
    have h2 := hexN_ge s (a * 16 + digitV c.toNat)
    simp only [numV]
    rw [if_neg (by omega)]
    exact numV_hex s _ (fun x hx => h x (by simp [hx])) hb

theorem numV_hexN : ∀ (s : List UInt8) (a m : Nat), numV 16 a s = some m → m = hexN a s ∧ ∀ c ∈ s, digitV c.toNat < 16
  | [], a, m, h => by simp only [numV, Option.some.injEq] at h; rw [hexN_nil]; exact ⟨h.symm, by simp⟩
  | c :: s, a, m, h => by
    simp only [numV] at h
    split at h
    · simp at h
    · rename_i hc
      obtain ⟨h1, h2⟩ := numV_hexN s _ m h
      rw [hexN_cons]
      refine ⟨h1, fun x hx => ?_⟩
      rcases List.mem_cons.1 hx with rfl | hx
      · omega
      · exact h2 x hx

/-- A hexadecimal number. -/
def hexV (s : List UInt8) : Option Nat := match numV 16 0 s with
  | some m => if s = [] then none else some m
  | none => none

theorem hexV_spec {s : List UInt8} {m : Nat} (h : hexV s = some m) : numV 16 0 s = some m ∧ s ≠ [] ∧ m < 18446744073709551616 ∧ m = hexN 0 s ∧ ∀ c ∈ s, digitV c.toNat < 16 := by
  unfold hexV at h
  split at h
  · rename_i v hv
    split at h <;> simp only [Option.some.injEq, reduceCtorEq] at h
    subst h
    rename_i hne
    obtain ⟨g1, g2⟩ := numV_hexN s 0 _ hv
    exact ⟨hv, hne, numV_lt (by omega) s 0 _ (by omega) hv, g1, g2⟩
  · simp at h

theorem hexV_upS {n k : Nat} (h : n < 18446744073709551616) : hexV (upS n k) = some n := by
  obtain ⟨h1, h2, h3⟩ := upS_hex n k
  unfold hexV
  rw [numV_hex (upS n k) 0 (fun c hc => by
    have := h2 c hc
    unfold addrC at this
    simp only [Bool.and_eq_true, decide_eq_true_eq] at this
    omega) (by rw [h1]; exact h), h1]
  simp [h3]

def hexsV : List (List UInt8) → Option (List Nat)
  | [] => some []
  | s :: l => match hexV s with
    | some m => match hexsV l with
      | some ms => some (m :: ms)
      | none => none
    | none => none

end Go.Ev

set_option linter.unusedSimpArgs false
set_option linter.unusedVariables false
namespace Go.Ev
open Go.Proofs

def skHeadL : List UInt8 := [32, 32, 115, 108, 32, 32, 108, 111, 99, 97, 108, 95, 97, 100, 100, 114, 101, 115, 115, 32, 114, 101, 109, 95, 97, 100, 100, 114, 101, 115, 115, 32, 32, 32, 115, 116, 32, 116, 120, 95, 113, 117, 101, 117, 101, 32, 114, 120, 95, 113, 117, 101, 117, 101, 32, 116, 114, 32, 116, 109, 45, 62, 119, 104, 101, 110, 32, 114, 101, 116, 114, 110, 115, 109, 116, 32, 32, 32, 117, 105, 100, 32, 32, 116, 105, 109, 101, 111, 117, 116, 32, 105, 110, 111, 100, 101]

def skHead : List UInt8 := skHeadL ++ [10]

def addrOk (s : List UInt8) (n : Nat) : Bool := (decide (s.length = 8) || decide (s.length = 32)) && decide (s.length = n) && s.all addrC

/-- Is the row a socket? -/
def skOk (drops : Bool) (r : RowD) : Bool := match r.N, r.S with
  | [n0, n1, n2, n3, n4, n5, n6, n7, n8], [a, b] =>
    decide (n0 < 2147483648) && decide (n1 < 65536) && decide (n2 < 65536) && decide (1 ≤ n3) && decide (n3 ≤ 12) && decide (n4 < 4294967296) && decide (n5 < 4294967296) && decide (n6 < 4294967296) &&
      decide (n7 < 9223372036854775808) && decide (n8 < 9223372036854775808) && (drops || decide (n8 = 0)) && (r.name == []) && addrOk a a.length && addrOk b a.length
  | _, _ => false

structure SkR (drops : Bool) (r : RowD) (n0 n1 n2 n3 n4 n5 n6 n7 n8 : Nat) (a b : List UInt8) : Prop where
  hN : r.N = [n0, n1, n2, n3, n4, n5, n6, n7, n8]
  hS : r.S = [a, b]
  hn : r.name = []
  h0 : n0 < 2147483648
  h1 : n1 < 65536
  h2 : n2 < 65536
  h3 : 1 ≤ n3 ∧ n3 ≤ 12
  h4 : n4 < 4294967296
  h5 : n5 < 4294967296
  h6 : n6 < 4294967296
  h7 : n7 < 9223372036854775808
  h8 : n8 < 9223372036854775808
  hd : drops = true ∨ n8 = 0
  ha : a.length = 8 ∨ a.length = 32
  hb : b.length = a.length
  ca : ∀ c ∈ a, addrC c = true
  cb : ∀ c ∈ b, addrC c = true

theorem skOk_spec {drops : Bool} {r : RowD} (h : skOk drops r = true) : ∃ n0 n1 n2 n3 n4 n5 n6 n7 n8 a b, SkR drops r n0 n1 n2 n3 n4 n5 n6 n7 n8 a b := by
  unfold skOk at h
  split at h
  · rename_i n0 n1 n2 n3 n4 n5 n6 n7 n8 a b hN hS
    simp only [addrOk, Bool.and_eq_true, Bool.or_eq_true, decide_eq_true_eq, beq_iff_eq, List.all_eq_true] at h
    obtain ⟨⟨⟨⟨⟨⟨⟨⟨⟨⟨⟨⟨⟨h0, h1⟩, h2⟩, h3⟩, h3'⟩, h4⟩, h5⟩, h6⟩, h7⟩, h8⟩, hd⟩, hn⟩, ⟨ha, _⟩, ca⟩, ⟨_, hb⟩, cb⟩ := h
    exact ⟨n0, n1, n2, n3, n4, n5, n6, n7, n8, a, b, hN, hS, hn, h0, h1, h2, ⟨h3, h3'⟩, h4, h5, h6, h7, h8, hd, ha, hb, ca, cb⟩
  · simp at h

def skLast (drops : Bool) (n8 : Nat) : List UInt8 := if drops then [32, 50, 32, 48, 48, 48, 48, 48, 48, 48, 48, 48, 48, 48, 48, 48, 48, 48, 48, 32] ++ decS n8 else [32, 49, 32, 48, 48, 48, 48, 48, 48, 48, 48, 48, 48, 48, 48, 48, 48, 48, 48, 32, 49, 48, 48, 32, 48, 32, 48, 32, 49, 48, 32, 48]

/-- A socket's line. -/
def skBody (drops : Bool) (r : RowD) : List UInt8 := match r.N, r.S with
  | [n0, n1, n2, n3, n4, n5, n6, n7, n8], [a, b] =>
    rightS (decS n0) 4 ++ ([58, 32] ++ (a ++ ([58] ++ (upS n1 4 ++ ([32] ++ (b ++ ([58] ++ (upS n2 4 ++ ([32] ++ (upS n3 2 ++ ([32] ++ (upS n4 8 ++ ([58] ++ (upS n5 8 ++
      ([32, 48, 48, 58, 48, 48, 48, 48, 48, 48, 48, 48, 32, 48, 48, 48, 48, 48, 48, 48, 48, 32] ++ (rightS (decS n6) 5 ++ ([32, 32, 32, 32, 32, 32, 32, 32, 48, 32] ++ (decS n7 ++ skLast drops n8))))))))))))))))))
  | _, _ => []

def skText (drops : Bool) (rs : List RowD) : List UInt8 := skHead ++ (rs.map fun r => skBody drops r ++ [10]).flatten

/-! ### What the reference reads -/

def endsC (s : List UInt8) : Bool := decide (1 ≤ s.length) && (s.drop (s.length - 1) == [58])

def skV (f0 f1 f2 f3 f4 f7 f9 last : List UInt8) : Option RowD :=
  match partG 58 [] f1, partG 58 [] f2, partG 58 [] f4 with
  | [a0, a1], [b0, b1], [q0, q1] => match decsV [f0.take (f0.length - 1), f7, f9, last] with
    | some [d0, d1, d2, d3] => match hexsV [a1, b1, f3, q0, q1] with
      | some [h0, h1, h2, h3, h4] => some ⟨[], [d0, h0, h1, h2, h3, h4, d1, d2, d3], [a0, b0]⟩
      | _ => none
    | _ => none
  | _, _, _ => none

def skFld (f : List (List UInt8)) (i : Nat) : List UInt8 := f.getD i []

def skLineV (drops : Bool) (f : List (List UInt8)) : Option RowD :=
  if f.length = (if drops then 13 else 17) ∧ endsC (skFld f 0) = true then
    skV (skFld f 0) (skFld f 1) (skFld f 2) (skFld f 3) (skFld f 4) (skFld f 7) (skFld f 9) (if drops then skFld f 12 else [48])
  else none

def skTabV (drops : Bool) : List (List UInt8) → Option (List RowD)
  | [] => some []
  | s :: l => match skLineV drops (fieldsL s) with
    | some r => match skTabV drops l with
      | some rs => some (r :: rs)
      | none => none
    | none => none

/-- What the reference reads, where it tells. -/
def skRead (drops : Bool) (s : List UInt8) : Option (List RowD) :=
  if s.all plainC = true ∧ s.take skHead.length = skHead then match skTabV drops (linesL (s.drop skHead.length)) with
    | some rs => if rs.all (skOk drops) = true then some rs else none
    | none => none
  else none

/-! ### What is written is read -/

theorem fieldG_right {w rest : List UInt8} {n : Nat} : fieldG [] (rightS w n ++ rest) = fieldG [] (w ++ rest) := by
  unfold rightS
  rw [List.append_assoc]
  exact fieldG_skip _ _

theorem decS_word (n : Nat) : decS n ≠ [] ∧ ∀ c ∈ decS n, blankC c = false ∧ c.toNat ≠ 58 ∧ c.toNat ≠ 10 := by
  obtain ⟨_, h1, h2⟩ := decS_dig n
  refine ⟨h2, fun c hc => ?_⟩
  have := digC_iff.1 (h1 c hc)
  refine ⟨(digC_blank (h1 c hc)).1, by omega, by omega⟩

theorem upS_word (n k : Nat) : upS n k ≠ [] ∧ ∀ c ∈ upS n k, blankC c = false ∧ c.toNat ≠ 58 := by
  obtain ⟨_, h1, h2⟩ := upS_hex n k
  refine ⟨h2, fun c hc => ?_⟩
  obtain ⟨g1, g2⟩ := addrC_word (h1 c hc)
  exact ⟨(wordC_blank g1).1, g2⟩

/-- Two words and a colon between. -/
def two (a b : List UInt8) : List UInt8 := a ++ ([58] ++ b)

theorem two_word {a b : List UInt8} (ha : ∀ c ∈ a, blankC c = false) (hb : ∀ c ∈ b, blankC c = false) : two a b ≠ [] ∧ ∀ c ∈ two a b, blankC c = false := by
  refine ⟨by simp [two], fun c hc => ?_⟩
  unfold two at hc
  rcases List.mem_append.1 hc with hc | hc
  · exact ha c hc
  · rcases List.mem_append.1 hc with hc | hc
    · obtain rfl := List.mem_singleton.1 hc; decide
    · exact hb c hc

theorem fieldG_word1 {w rest : List UInt8} (h : w ≠ [] ∧ ∀ c ∈ w, blankC c = false) : fieldG [] (w ++ ([32] ++ rest)) = w :: fieldG [] rest :=
  fieldG_sep h.1 h.2 (by decide)

theorem skLast_fields (drops : Bool) (n7 n8 : Nat) : fieldG [] (decS n7 ++ skLast drops n8) = decS n7 :: (if drops then [[50], List.replicate 16 48, decS n8] else [[49], List.replicate 16 48, [49, 48, 48], [48], [48], [49, 48], [48]]) := by
  have h7 := decS_word n7
  have h8 := decS_word n8
  cases drops with
  | true =>
    simp only [skLast, if_true]
    rw [show ([32, 50, 32, 48, 48, 48, 48, 48, 48, 48, 48, 48, 48, 48, 48, 48, 48, 48, 48, 32] ++ decS n8 : List UInt8) = [32] ++ ([50] ++ ([32] ++ (List.replicate 16 48 ++ ([32] ++ decS n8)))) from rfl]
    rw [fieldG_word1 ⟨h7.1, fun c hc => (h7.2 c hc).1⟩, fieldG_word1 ⟨by decide, by decide⟩, fieldG_word1 ⟨by decide, by decide⟩, fieldG_last h8.1 (fun c hc => (h8.2 c hc).1)]
  | false =>
    simp only [skLast, Bool.false_eq_true, if_false]
    rw [show ([32, 49, 32, 48, 48, 48, 48, 48, 48, 48, 48, 48, 48, 48, 48, 48, 48, 48, 48, 32, 49, 48, 48, 32, 48, 32, 48, 32, 49, 48, 32, 48] : List UInt8) = [32] ++ ([49] ++ ([32] ++ (List.replicate 16 48 ++ ([32] ++ ([49, 48, 48] ++ ([32] ++ ([48] ++ ([32] ++ ([48] ++ ([32] ++ ([49, 48] ++ ([32] ++ [48])))))))))))) from rfl]
    rw [fieldG_word1 ⟨h7.1, fun c hc => (h7.2 c hc).1⟩, fieldG_word1 ⟨by decide, by decide⟩, fieldG_word1 ⟨by decide, by decide⟩, fieldG_word1 ⟨by decide, by decide⟩, fieldG_word1 ⟨by decide, by decide⟩, fieldG_word1 ⟨by decide, by decide⟩, fieldG_word1 ⟨by decide, by decide⟩, fieldG_last (by decide) (by decide)]

theorem skBody_fields {drops : Bool} {r : RowD} {n0 n1 n2 n3 n4 n5 n6 n7 n8 : Nat} {a b : List UInt8} (h : SkR drops r n0 n1 n2 n3 n4 n5 n6 n7 n8 a b) :
    fieldsL (skBody drops r) = (decS n0 ++ [58]) :: two a (upS n1 4) :: two b (upS n2 4) :: upS n3 2 :: two (upS n4 8) (upS n5 8) :: [48, 48, 58, 48, 48, 48, 48, 48, 48, 48, 48] :: [48, 48, 48, 48, 48, 48, 48, 48] :: decS n6 :: [48] :: decS n7 :: (if drops then [[50], List.replicate 16 48, decS n8] else [[49], List.replicate 16 48, [49, 48, 48], [48], [48], [49, 48], [48]]) := by
  rw [fieldsL_eq]
  unfold skBody
  simp only [h.hN, h.hS]
  have bl : ∀ {n : Nat}, ∀ c ∈ decS n, blankC c = false := fun c hc => ((decS_word _).2 c hc).1
  have bu : ∀ {n k : Nat}, ∀ c ∈ upS n k, blankC c = false := fun c hc => ((upS_word _ _).2 c hc).1
  have ba : ∀ c ∈ a, blankC c = false := fun c hc => (wordC_blank (addrC_word (h.ca c hc)).1).1
  have bb : ∀ c ∈ b, blankC c = false := fun c hc => (wordC_blank (addrC_word (h.cb c hc)).1).1
  rw [fieldG_right]
  rw [show ∀ x : List UInt8, decS n0 ++ ([58, 32] ++ x) = (decS n0 ++ [58]) ++ ([32] ++ x) from fun x => by simp]
  rw [fieldG_word1 ⟨by simp, fun c hc => by
    rcases List.mem_append.1 hc with hc | hc
    · exact bl c hc
    · obtain rfl := List.mem_singleton.1 hc; decide⟩]
  rw [show ∀ u v x : List UInt8, u ++ ([58] ++ (v ++ x)) = two u v ++ x from fun u v x => by simp [two]]
  rw [fieldG_word1 (two_word ba bu)]
  rw [show ∀ u v x : List UInt8, u ++ ([58] ++ (v ++ x)) = two u v ++ x from fun u v x => by simp [two]]
  rw [fieldG_word1 (two_word bb bu), fieldG_word1 ⟨(upS_word _ _).1, bu⟩]
  rw [show ∀ u v x : List UInt8, u ++ ([58] ++ (v ++ x)) = two u v ++ x from fun u v x => by simp [two]]
  rw [show ∀ x : List UInt8, ([32, 48, 48, 58, 48, 48, 48, 48, 48, 48, 48, 48, 32, 48, 48, 48, 48, 48, 48, 48, 48, 32] ++ x) = [32] ++ ([48, 48, 58, 48, 48, 48, 48, 48, 48, 48, 48] ++ ([32] ++ ([48, 48, 48, 48, 48, 48, 48, 48] ++ ([32] ++ x)))) from fun x => rfl]
  rw [fieldG_word1 (two_word bu bu), fieldG_word1 ⟨by decide, by decide⟩, fieldG_word1 ⟨by decide, by decide⟩, fieldG_right]
  rw [show ∀ x : List UInt8, ([32, 32, 32, 32, 32, 32, 32, 32, 48, 32] ++ x) = [32] ++ (List.replicate 7 32 ++ ([48] ++ ([32] ++ x))) from fun x => rfl]
  rw [fieldG_word1 ⟨(decS_word _).1, bl⟩, fieldG_skip, fieldG_word1 ⟨by decide, by decide⟩, skLast_fields]

theorem decsV_dec : ∀ {ns : List Nat}, (∀ n ∈ ns, n < 18446744073709551616) → decsV (ns.map decS) = some ns
  | [], _ => rfl
  | n :: ns, h => by
    have ih := decsV_dec (ns := ns) (fun m hm => h m (List.mem_cons_of_mem _ hm))
    simp only [List.map_cons, decsV, decV_decS (h n (by simp)), ih]

theorem two_parts {a b : List UInt8} (ha : ∀ c ∈ a, c.toNat ≠ 58) (hb : ∀ c ∈ b, c.toNat ≠ 58) : partG 58 [] (two a b) = [a, b] :=
  partG_two (b := 58) ha hb

theorem skLine_body {drops : Bool} {r : RowD} (h : skOk drops r = true) : skLineV drops (fieldsL (skBody drops r)) = some r := by
  obtain ⟨n0, n1, n2, n3, n4, n5, n6, n7, n8, a, b, hs⟩ := skOk_spec h
  have e0 : endsC (decS n0 ++ [58]) = true := by
    unfold endsC
    rw [List.length_append, show (decS n0).length + [(58 : UInt8)].length - 1 = (decS n0).length from by simp, List.drop_left]
    simp
  have e1 : (decS n0 ++ [58]).take ((decS n0 ++ [58]).length - 1) = decS n0 := by
    rw [List.length_append, show (decS n0).length + [(58 : UInt8)].length - 1 = (decS n0).length from by simp, List.take_left]
  have cu : ∀ {n k : Nat}, ∀ c ∈ upS n k, c.toNat ≠ 58 := fun c hc => ((upS_word _ _).2 c hc).2
  have ca : ∀ c ∈ a, c.toNat ≠ 58 := fun c hc => (addrC_word (hs.ca c hc)).2
  have cb : ∀ c ∈ b, c.toNat ≠ 58 := fun c hc => (addrC_word (hs.cb c hc)).2
  have hd : ∀ {m : Nat}, m < 18446744073709551616 → decsV [decS n0, decS n6, decS n7, decS m] = some [n0, n6, n7, m] := fun {m} hm => by
    refine decsV_dec (ns := [n0, n6, n7, m]) fun n hn => ?_
    have := hs.h0; have := hs.h6; have := hs.h7
    simp only [List.mem_cons, List.not_mem_nil, or_false] at hn
    rcases hn with rfl | rfl | rfl | rfl <;> omega
  have hx : hexsV [upS n1 4, upS n2 4, upS n3 2, upS n4 8, upS n5 8] = some [n1, n2, n3, n4, n5] := by
    have := hs.h1; have := hs.h2; have := hs.h3; have := hs.h4; have := hs.h5
    simp only [hexsV, hexV_upS (show n1 < 18446744073709551616 by omega), hexV_upS (show n2 < 18446744073709551616 by omega), hexV_upS (show n3 < 18446744073709551616 by omega), hexV_upS (show n4 < 18446744073709551616 by omega), hexV_upS (show n5 < 18446744073709551616 by omega)]
  have h8 := hs.h8
  have key : ∀ m, m < 18446744073709551616 → skV (decS n0 ++ [58]) (two a (upS n1 4)) (two b (upS n2 4)) (upS n3 2) (two (upS n4 8) (upS n5 8)) (decS n6) (decS n7) (decS m) = some ⟨[], [n0, n1, n2, n3, n4, n5, n6, n7, m], [a, b]⟩ := by
    intro m hm
    unfold skV
    simp only [two_parts ca cu, two_parts cb cu, two_parts cu cu, e1, hd hm, hx]
  have hr : r = ⟨[], [n0, n1, n2, n3, n4, n5, n6, n7, n8], [a, b]⟩ := by
    obtain ⟨nm, N, S⟩ := r
    have h1 := hs.hN; have h2 := hs.hS; have h3 := hs.hn
    simp only at h1 h2 h3
    rw [h1, h2, h3]
  unfold skLineV
  rw [skBody_fields hs]
  cases drops with
  | true =>
    simp only [skFld, List.length_cons, List.length_nil, if_true, List.getD_cons_zero, List.getD_cons_succ]
    rw [if_pos ⟨trivial, e0⟩, key n8 (by omega), ← hr]
  | false =>
    have h0 : n8 = 0 := by
      rcases hs.hd with e | e
      · cases e
      · exact e
    simp only [skFld, List.length_cons, List.length_nil, Bool.false_eq_true, if_false, List.getD_cons_zero, List.getD_cons_succ]
    rw [if_pos ⟨trivial, e0⟩]
    have := key 0 (by omega)
    rw [show decS 0 = [48] from by rw [decS_small (by omega)]; rfl] at this
    rw [this, hr, h0]

theorem skTab_bodies {drops : Bool} : ∀ {rs : List RowD}, (∀ r ∈ rs, skOk drops r = true) → skTabV drops (rs.map (skBody drops)) = some rs
  | [], _ => rfl
  | r :: rs, h => by
    simp only [List.map_cons, skTabV, skLine_body (h r (by simp)), skTab_bodies (rs := rs) (fun q hq => h q (by simp [hq]))]

theorem plain_word {c : UInt8} (h : wordC c = true) : c.toNat ≠ 10 ∧ plainC c = true := ⟨(wordC_blank h).2, wordC_plain h⟩

theorem skBody_chars {drops : Bool} {r : RowD} (h : skOk drops r = true) : ∀ c ∈ skBody drops r, c.toNat ≠ 10 ∧ plainC c = true := by
  obtain ⟨n0, n1, n2, n3, n4, n5, n6, n7, n8, a, b, hs⟩ := skOk_spec h
  have bl : ∀ {n : Nat}, ∀ c ∈ decS n, c.toNat ≠ 10 ∧ plainC c = true := fun {n} c hc => by
    obtain ⟨_, g1, _⟩ := decS_dig n
    exact ⟨(digC_blank (g1 c hc)).2, digC_plain (g1 c hc)⟩
  have bu : ∀ {n k : Nat}, ∀ c ∈ upS n k, c.toNat ≠ 10 ∧ plainC c = true := fun {n k} c hc => by
    obtain ⟨_, g1, _⟩ := upS_hex n k
    exact plain_word (addrC_word (g1 c hc)).1
  have ba : ∀ c ∈ a, c.toNat ≠ 10 ∧ plainC c = true := fun c hc => plain_word (addrC_word (hs.ca c hc)).1
  have bb : ∀ c ∈ b, c.toNat ≠ 10 ∧ plainC c = true := fun c hc => plain_word (addrC_word (hs.cb c hc)).1
  have br : ∀ {n k : Nat}, ∀ c ∈ rightS (decS n) k, c.toNat ≠ 10 ∧ plainC c = true := fun {n k} c hc => by
    unfold rightS at hc
    rcases List.mem_append.1 hc with hc | hc
    · rw [(List.mem_replicate.1 hc).2]; decide
    · exact bl c hc
  have lit : ∀ l : List UInt8, l.all (fun c => decide (c.toNat ≠ 10) && plainC c) = true → ∀ c ∈ l, c.toNat ≠ 10 ∧ plainC c = true := fun l hl c hc => by
    have := List.all_eq_true.1 hl c hc
    simpa using this
  have bk : ∀ c ∈ skLast drops n8, c.toNat ≠ 10 ∧ plainC c = true := by
    unfold skLast
    cases drops with
    | true =>
      simp only [if_true]
      intro c hc
      rcases List.mem_append.1 hc with hc | hc
      · exact lit _ (by decide) c hc
      · exact bl c hc
    | false => simp only [Bool.false_eq_true, if_false]; exact lit _ (by decide)
  have app : ∀ {x y : List UInt8}, (∀ c ∈ x, c.toNat ≠ 10 ∧ plainC c = true) → (∀ c ∈ y, c.toNat ≠ 10 ∧ plainC c = true) → ∀ c ∈ x ++ y, c.toNat ≠ 10 ∧ plainC c = true := fun hx hy c hc => by
    rcases List.mem_append.1 hc with hc | hc
    · exact hx c hc
    · exact hy c hc
  unfold skBody
  simp only [hs.hN, hs.hS]
  exact app br (app (lit _ (by decide)) (app ba (app (lit _ (by decide)) (app bu (app (lit _ (by decide)) (app bb (app (lit _ (by decide)) (app bu (app (lit _ (by decide)) (app bu (app (lit _ (by decide)) (app bu (app (lit _ (by decide)) (app bu (app (lit _ (by decide)) (app br (app (lit _ (by decide)) (app bl bk))))))))))))))))))

theorem skText_lines {drops : Bool} {rs : List RowD} (h : ∀ r ∈ rs, skOk drops r = true) : linesL ((rs.map fun r => skBody drops r ++ [10]).flatten) = rs.map (skBody drops) := by
  rw [linesL_eq]
  have e : (rs.map fun r => skBody drops r ++ [10]) = (rs.map (skBody drops)).map fun l => l ++ [10] := by rw [List.map_map]; rfl
  rw [e]
  exact lineG_lines _ (fun l hl c hc => by
    obtain ⟨r, hr, rfl⟩ := List.mem_map.1 hl
    exact (skBody_chars (h r hr) c hc).1)

theorem skRead_text {drops : Bool} {rs : List RowD} (h : ∀ r ∈ rs, skOk drops r = true) : skRead drops (skText drops rs) = some rs := by
  unfold skRead
  have hp : (skText drops rs).all plainC = true := by
    rw [List.all_eq_true]
    intro c hc
    unfold skText at hc
    rcases List.mem_append.1 hc with hc | hc
    · have : skHead.all plainC = true := by decide
      exact List.all_eq_true.1 this c hc
    · obtain ⟨l, hl, hcl⟩ := List.mem_flatten.1 hc
      obtain ⟨r, hr, rfl⟩ := List.mem_map.1 hl
      rcases List.mem_append.1 hcl with hcl | hcl
      · exact (skBody_chars (h r hr) c hcl).2
      · obtain rfl := List.mem_singleton.1 hcl; decide
  have ht : (skText drops rs).take skHead.length = skHead := by unfold skText; rw [List.take_left]
  have hdp : (skText drops rs).drop skHead.length = (rs.map fun r => skBody drops r ++ [10]).flatten := by unfold skText; rw [List.drop_left]
  rw [if_pos ⟨hp, ht⟩, hdp, skText_lines h, skTab_bodies h]
  have : rs.all (skOk drops) = true := List.all_eq_true.2 h
  simp only [this, if_true]

end Go.Ev

set_option linter.unusedSimpArgs false
set_option linter.unusedVariables false
namespace Go.Ev
open Go.Proofs

/-- A sign of an interface's name. -/
def ifC (c : UInt8) : Bool := (decide (97 ≤ c.toNat) && decide (c.toNat ≤ 122)) || (decide (65 ≤ c.toNat) && decide (c.toNat ≤ 90)) || (decide (48 ≤ c.toNat) && decide (c.toNat ≤ 57)) || decide (c.toNat = 46) || decide (c.toNat = 45) || decide (c.toNat = 95)

def ifName (s : List UInt8) : Bool := s.all ifC && (decide (1 ≤ s.length) && decide (s.length ≤ 15))

/-- The numbers behind the state: three with signs, the others from nought on, all of 32 bits. -/
def wlQ : Nat → List Nat → Bool
  | _, [] => true
  | i, x :: l => decide (i64 x < 2147483648) && (decide (-2147483648 ≤ i64 x) && (decide (i ≤ 2) || decide (0 ≤ i64 x))) && wlQ (i + 1) l

def wlOk (r : RowD) : Bool := ifName r.name && decide (r.N.length = 10) && decide (r.S.length = 0) && decide (r.N.getD 0 0 < 65536) && wlQ 0 (r.N.drop 1)

structure WlR (r : RowD) (n0 n1 n2 n3 n4 n5 n6 n7 n8 n9 : Nat) : Prop where
  hN : r.N = [n0, n1, n2, n3, n4, n5, n6, n7, n8, n9]
  hS : r.S = []
  hn : ifName r.name = true
  h0 : n0 < 65536
  hq : wlQ 0 [n1, n2, n3, n4, n5, n6, n7, n8, n9] = true

theorem wlOk_spec {r : RowD} (h : wlOk r = true) : ∃ n0 n1 n2 n3 n4 n5 n6 n7 n8 n9, WlR r n0 n1 n2 n3 n4 n5 n6 n7 n8 n9 := by
  obtain ⟨nm, N, S⟩ := r
  unfold wlOk at h
  simp only [Bool.and_eq_true, decide_eq_true_eq] at h
  obtain ⟨⟨⟨⟨h1, h2⟩, h3⟩, h4⟩, h5⟩ := h
  match N, h2 with
  | [n0, n1, n2, n3, n4, n5, n6, n7, n8, n9], _ =>
    match S, h3 with
    | [], _ => exact ⟨n0, n1, n2, n3, n4, n5, n6, n7, n8, n9, rfl, rfl, h1, h4, h5⟩

def wlHeadL1 : List UInt8 := [73, 110, 116, 101, 114, 45, 124, 32, 115, 116, 97, 45, 124, 32, 32, 32, 81, 117, 97, 108, 105, 116, 121, 32, 32, 32, 32, 32, 32, 32, 32, 124, 32, 32, 32, 68, 105, 115, 99, 97, 114, 100, 101, 100, 32, 112, 97, 99, 107, 101, 116, 115, 32, 32, 32, 32, 32, 32, 32, 32, 32, 32, 32, 32, 32, 32, 32, 124, 32, 77, 105, 115, 115, 101, 100, 32, 124, 32, 87, 69]
def wlHeadL2 : List UInt8 := [32, 102, 97, 99, 101, 32, 124, 32, 116, 117, 115, 32, 124, 32, 108, 105, 110, 107, 32, 108, 101, 118, 101, 108, 32, 110, 111, 105, 115, 101, 32, 124, 32, 32, 110, 119, 105, 100, 32, 32, 99, 114, 121, 112, 116, 32, 32, 32, 102, 114, 97, 103, 32, 32, 114, 101, 116, 114, 121, 32, 32, 32, 109, 105, 115, 99, 32, 124, 32, 98, 101, 97, 99, 111, 110, 32, 124, 32, 50, 50]
def wlHead : List UInt8 := wlHeadL1 ++ 10 :: (wlHeadL2 ++ [10])

/-- The columns behind the state. -/
def wlCol (i x : Nat) : List UInt8 := if i < 3 then ([32, 32] ++ rightS (sdecS (i64 x)) 3) ++ [46] else [32] ++ rightS (sdecS (i64 x)) 6

def wlCols : Nat → List Nat → List UInt8
  | _, [] => []
  | i, x :: l => wlCol i x ++ wlCols (i + 1) l

def wlBody (r : RowD) : List UInt8 := (rightS r.name 6 ++ [58, 32] ++ padS (hexS (r.N.getD 0 0)) 4) ++ wlCols 0 (r.N.drop 1)

def wlText (rs : List RowD) : List UInt8 := wlHead ++ (rs.map fun r => wlBody r ++ [10]).flatten

/-- A number with a sign, as it is written. -/
def sgnV (s : List UInt8) : Option Int := match s with
  | [] => none
  | c :: t => if c.toNat = 45 then (match negV t with
      | some m => if sdecS (-(m : Int)) = c :: t then some (-(m : Int)) else none
      | none => none) else match numV 10 0 (c :: t) with
      | some m => if m < 9223372036854775808 ∧ sdecS (m : Int) = c :: t then some (m : Int) else none
      | none => none

theorem sgnV_spec {s : List UInt8} {v : Int} (h : sgnV s = some v) : s = sdecS v ∧ -9223372036854775808 ≤ v ∧ v < 9223372036854775808 := by
  cases s with
  | nil => cases h
  | cons c t =>
    unfold sgnV at h
    simp only at h
    split at h
    · split at h <;> try (cases h; done)
      rename_i m hm
      split at h <;> try (cases h; done)
      rename_i he
      simp only [Option.some.injEq] at h
      have := negV_le hm
      subst h
      exact ⟨he.symm, by omega, by omega⟩
    · split at h <;> try (cases h; done)
      rename_i m hm
      split at h <;> try (cases h; done)
      rename_i he
      simp only [Option.some.injEq] at h
      subst h
      exact ⟨he.2.symm, by omega, by omega⟩

theorem sgnV_sdec {v : Int} (h1 : -9223372036854775808 ≤ v) (h2 : v < 9223372036854775808) : sgnV (sdecS v) = some v := by
  by_cases hv : v < 0
  · obtain ⟨m, hm⟩ : ∃ m : Nat, (-v).toNat = m := ⟨_, rfl⟩
    have hs : sdecS v = 45 :: decS m := by unfold sdecS; rw [if_pos hv, hm]
    have hv2 : v = -(m : Int) := by omega
    have hn : negV (decS m) = some m := by
      unfold negV
      rw [numV_dec (by omega)]
      simp only
      rw [if_neg (by intro h; rcases h with h | h; · omega
                     · exact (decS_dig m).2.2 h)]
    rw [hs]
    unfold sgnV
    simp only [hn]
    rw [if_pos (by decide), if_pos (by rw [← hv2, hs]), hv2]
  · obtain ⟨m, rfl⟩ := Int.eq_ofNat_of_zero_le (show 0 ≤ v by omega)
    have hs : sdecS (m : Int) = decS m := by unfold sdecS; rw [if_neg hv]; simp
    rw [hs]
    obtain ⟨_, g2, g3⟩ := decS_dig m
    cases hd : decS m with
    | nil => exact absurd hd g3
    | cons c t =>
      have hc := digC_iff.1 (g2 c (by rw [hd]; simp))
      have hn : numV 10 0 (c :: t) = some m := by rw [← hd]; exact numV_dec (by omega)
      unfold sgnV
      simp only
      rw [if_neg (by omega)]
      simp only [hn]
      rw [if_pos ⟨by omega, by rw [hs, hd]⟩]

/-- A number as the row holds it. -/
def u64n (v : Int) : Nat := (IntKind.u64.wrap v).toNat

theorem u64n_i64 {n : Nat} (h : n < 18446744073709551616) : u64n (i64 n) = n := by
  unfold u64n i64
  rw [IntKind.wrap_u64, IntKind.wrap_i64]; omega

theorem i64_u64n {v : Int} (h1 : -9223372036854775808 ≤ v) (h2 : v < 9223372036854775808) : i64 (u64n v) = v := by
  unfold u64n i64
  rw [IntKind.wrap_u64, IntKind.wrap_i64]; omega

theorem u64n_lt (v : Int) : u64n v < 18446744073709551616 := by
  unfold u64n
  rw [IntKind.wrap_u64]; omega

def endsB (b : UInt8) (s : List UInt8) : Bool := decide (1 ≤ s.length) && (s.drop (s.length - 1) == [b])

/-- The numbers of a line, from the third field on. -/
def wlCells : Nat → List (List UInt8) → Option (List Nat)
  | _, [] => some []
  | i, x :: l => if i < 3 then (if endsB 46 x = true then match sgnV (x.take (x.length - 1)) with
      | some v => match wlCells (i + 1) l with
        | some vs => some (u64n v :: vs)
        | none => none
      | none => none else none)
    else match sgnV x with
      | some v => match wlCells (i + 1) l with
        | some vs => some (u64n v :: vs)
        | none => none
      | none => none

def wlLineV (f : List (List UInt8)) : Option RowD := match f with
  | g0 :: g1 :: g => if g.length = 9 ∧ endsB 58 g0 = true then match hexV g1 with
      | some n => if g1.length = 4 then match wlCells 0 g with
        | some ns => some ⟨g0.take (g0.length - 1), n :: ns, []⟩
        | none => none
        else none
      | none => none
    else none
  | _ => none

def wlTabV : List (List UInt8) → Option (List RowD)
  | [] => some []
  | s :: l => match wlLineV (fieldsL s) with
    | some r => match wlTabV l with
      | some rs => some (r :: rs)
      | none => none
    | none => none

/-- What the reference reads, where it tells. -/
def wlRead (s : List UInt8) : Option (List RowD) :=
  if s.all plainC = true ∧ s.take 162 = wlHead then match wlTabV (linesL (s.drop 162)) with
    | some rs => if rs.all wlOk = true then some rs else none
    | none => none
  else none

theorem endsB_snoc (b : UInt8) (s : List UInt8) : endsB b (s ++ [b]) = true := by
  unfold endsB
  rw [List.length_append, show s.length + [b].length - 1 = s.length from by simp, List.drop_left]
  simp

theorem take_snoc (b : UInt8) (s : List UInt8) : (s ++ [b]).take ((s ++ [b]).length - 1) = s := by
  rw [List.length_append, show s.length + [b].length - 1 = s.length from by simp, List.take_left]

theorem endsB_cut {b : UInt8} {s : List UInt8} (h : endsB b s = true) : s = s.take (s.length - 1) ++ [b] := by
  unfold endsB at h
  simp only [Bool.and_eq_true, decide_eq_true_eq, beq_iff_eq] at h
  conv => lhs; rw [← List.take_append_drop (s.length - 1) s, h.2]

/-- A field behind the state, as it is written. -/
def wlFld (i x : Nat) : List UInt8 := if i < 3 then sdecS (i64 x) ++ [46] else sdecS (i64 x)

def wlFlds : Nat → List Nat → List (List UInt8)
  | _, [] => []
  | i, x :: l => wlFld i x :: wlFlds (i + 1) l

theorem wlCells_flds : ∀ (ns : List Nat) (i : Nat), (∀ n ∈ ns, n < 18446744073709551616) → wlCells i (wlFlds i ns) = some ns
  | [], _, _ => rfl
  | n :: ns, i, h => by
    obtain ⟨r1, r2⟩ := i64_range n
    have ih := wlCells_flds ns (i + 1) (fun x hx => h x (by simp [hx]))
    have hu := u64n_i64 (h n (by simp))
    unfold wlFlds wlCells
    by_cases hi : i < 3
    · have e : wlFld i n = sdecS (i64 n) ++ [46] := by unfold wlFld; rw [if_pos hi]
      rw [if_pos hi, e, if_pos (endsB_snoc 46 _), take_snoc, sgnV_sdec r1 r2]
      simp only [ih, hu]
    · have e : wlFld i n = sdecS (i64 n) := by unfold wlFld; rw [if_neg hi]
      rw [if_neg hi, e, sgnV_sdec r1 r2]
      simp only [ih, hu]

/-- What is read of fields: they are what is written. -/
theorem wlCells_spec : ∀ {f : List (List UInt8)} {i : Nat} {ns : List Nat}, wlCells i f = some ns → f = wlFlds i ns ∧ ∀ n ∈ ns, n < 18446744073709551616
  | [], i, ns, h => by simp only [wlCells, Option.some.injEq] at h; subst h; simp [wlFlds]
  | x :: f, i, ns, h => by
    unfold wlCells at h
    by_cases hi : i < 3
    · rw [if_pos hi] at h
      split at h <;> try (cases h; done)
      rename_i he
      split at h <;> try (cases h; done)
      rename_i v hv
      split at h <;> try (cases h; done)
      rename_i vs hvs
      simp only [Option.some.injEq] at h
      subst h
      obtain ⟨k1, k2⟩ := wlCells_spec hvs
      obtain ⟨s1, s2, s3⟩ := sgnV_spec hv
      refine ⟨?_, fun n hn => ?_⟩
      · unfold wlFlds wlFld
        rw [if_pos hi, i64_u64n s2 s3, ← k1, ← s1, ← endsB_cut he]
      · rcases List.mem_cons.1 hn with rfl | hn
        · exact u64n_lt v
        · exact k2 n hn
    · rw [if_neg hi] at h
      split at h <;> try (cases h; done)
      rename_i v hv
      split at h <;> try (cases h; done)
      rename_i vs hvs
      simp only [Option.some.injEq] at h
      subst h
      obtain ⟨k1, k2⟩ := wlCells_spec hvs
      obtain ⟨s1, s2, s3⟩ := sgnV_spec hv
      refine ⟨?_, fun n hn => ?_⟩
      · unfold wlFlds wlFld
        rw [if_neg hi, i64_u64n s2 s3, ← k1, ← s1]
      · rcases List.mem_cons.1 hn with rfl | hn
        · exact u64n_lt v
        · exact k2 n hn

theorem wlFlds_length : ∀ (ns : List Nat) (i : Nat), (wlFlds i ns).length = ns.length
  | [], _ => rfl
  | n :: ns, i => by simp [wlFlds, wlFlds_length ns (i + 1)]

theorem wlLine_spec {f : List (List UInt8)} {r : RowD} (h : wlLineV f = some r) : ∃ g0 g1 n ns, f = g0 :: g1 :: wlFlds 0 ns ∧ ns.length = 9 ∧ endsB 58 g0 = true ∧ hexV g1 = some n ∧ g1.length = 4 ∧ r = ⟨g0.take (g0.length - 1), n :: ns, []⟩ ∧ ∀ n ∈ ns, n < 18446744073709551616 := by
  unfold wlLineV at h
  split at h <;> try (cases h; done)
  rename_i g0 g1 g
  split at h <;> try (cases h; done)
  rename_i hc
  split at h <;> try (cases h; done)
  rename_i n hn
  split at h <;> try (cases h; done)
  rename_i h4
  split at h <;> try (cases h; done)
  rename_i ns hns
  simp only [Option.some.injEq] at h
  obtain ⟨k1, k2⟩ := wlCells_spec hns
  subst k1
  rw [wlFlds_length] at hc
  exact ⟨g0, g1, n, ns, rfl, hc.1, hc.2, hn, h4, h.symm, k2⟩

theorem ifC_word {c : UInt8} (h : ifC c = true) : wordC c = true ∧ c.toNat ≠ 58 := by
  unfold ifC at h
  unfold wordC
  simp only [Bool.and_eq_true, Bool.or_eq_true, decide_eq_true_eq] at *
  omega

theorem ifName_spec {s : List UInt8} (h : ifName s = true) : s ≠ [] ∧ s.length ≤ 15 ∧ ∀ c ∈ s, wordC c = true ∧ c.toNat ≠ 58 := by
  unfold ifName at h
  simp only [Bool.and_eq_true, decide_eq_true_eq, List.all_eq_true] at h
  obtain ⟨h1, h2, h3⟩ := h
  refine ⟨by rintro rfl; simp at h2, h3, fun c hc => ifC_word (h1 c hc)⟩

theorem hexC_digit {d : Nat} (h : d < 16) : digitV (hexC d).toNat = d ∧ wordC (hexC d) = true := by
  rw [wordC, hexC_toNat h]
  unfold digitV
  by_cases h1 : d < 10
  · simp only [h1, if_true, Bool.and_eq_true, decide_eq_true_eq]
    refine ⟨by rw [if_pos (by omega)]; omega, by omega, by omega⟩
  · simp only [h1, if_false, Bool.and_eq_true, decide_eq_true_eq]
    refine ⟨by rw [if_neg (by omega), if_pos (by omega)]; omega, by omega, by omega⟩

theorem hexS_low (n : Nat) : hexN 0 (hexS n) = n ∧ (∀ c ∈ hexS n, digitV c.toNat < 16 ∧ wordC c = true) ∧ hexS n ≠ [] := by
  induction n using Nat.strongRecOn with
  | _ n ih =>
    by_cases h : n < 16
    · rw [hexS_small h]
      obtain ⟨e1, e2⟩ := hexC_digit h
      refine ⟨by rw [hexN_cons, hexN_nil, e1]; omega, fun c hc => ?_, by simp⟩
      obtain rfl := List.mem_singleton.1 hc
      exact ⟨by omega, e2⟩
    · obtain ⟨i1, i2, i3⟩ := ih (n / 16) (by omega)
      obtain ⟨e1, e2⟩ := hexC_digit (show n % 16 < 16 by omega)
      rw [hexS_step h]
      refine ⟨?_, fun c hc => ?_, by simp⟩
      · rw [hexN_append, i1, hexN_cons, hexN_nil, e1]; omega
      · rcases List.mem_append.1 hc with hc | hc
        · exact i2 c hc
        · obtain rfl := List.mem_singleton.1 hc
          exact ⟨by omega, e2⟩

theorem padS_low (n k : Nat) : hexN 0 (padS (hexS n) k) = n ∧ (∀ c ∈ padS (hexS n) k, digitV c.toNat < 16 ∧ wordC c = true) ∧ padS (hexS n) k ≠ [] := by
  obtain ⟨h1, h2, h3⟩ := hexS_low n
  unfold padS
  refine ⟨by rw [hexN_append, hexN_noughts, h1], fun c hc => ?_, by simp [h3]⟩
  rcases List.mem_append.1 hc with hc | hc
  · rw [(List.mem_replicate.1 hc).2]; decide
  · exact h2 c hc

theorem hexV_of {s : List UInt8} {n : Nat} (h1 : hexN 0 s = n) (h2 : ∀ c ∈ s, digitV c.toNat < 16) (h3 : s ≠ []) (hn : n < 18446744073709551616) : hexV s = some n := by
  unfold hexV
  rw [numV_hex s 0 h2 (by rw [h1]; exact hn), h1]
  simp [h3]

theorem padS4_len {n : Nat} (h : n < 65536) : (padS (hexS n) 4).length = 4 := by
  have := hexS_length n 3 (by omega)
  unfold padS
  rw [List.length_append, List.length_replicate]; omega

theorem wlCols_fields : ∀ (ns : List Nat) (i : Nat) (d : List UInt8), i + ns.length = 9 → d ≠ [] → (∀ c ∈ d, blankC c = false) → fieldG [] (d ++ wlCols i ns) = d :: wlFlds i ns
  | [], _, d, _, hd, hb => by
    simp only [wlCols, wlFlds, List.append_nil]
    exact fieldG_last hd hb
  | n :: ns, i, d, hl, hd, hb => by
    have hsg := sdecS_sign (n := i64 n)
    simp only [List.length_cons] at hl
    unfold wlCols wlFlds
    by_cases hi : i < 3
    · have e : wlCol i n = [32] ++ ([32] ++ rightS (sdecS (i64 n)) 3) ++ [46] := by unfold wlCol; rw [if_pos hi]; simp
      have e2 : wlFld i n = sdecS (i64 n) ++ [46] := by unfold wlFld; rw [if_pos hi]
      have e3 : fieldG [] (d ++ (wlCol i n ++ wlCols (i + 1) ns)) = d :: fieldG [] ((sdecS (i64 n) ++ [46]) ++ wlCols (i + 1) ns) := by
        rw [e]
        rw [show d ++ ([32] ++ ([32] ++ rightS (sdecS (i64 n)) 3) ++ [46] ++ wlCols (i + 1) ns) = d ++ ([32] ++ (List.replicate 1 32 ++ (rightS (sdecS (i64 n)) 3 ++ ([46] ++ wlCols (i + 1) ns)))) from by simp [List.replicate]]
        rw [fieldG_word1 ⟨hd, hb⟩, fieldG_skip, fieldG_right]
        simp
      rw [e3, e2, wlCols_fields ns (i + 1) _ (by omega) (by simp) (fun c hc => by
        rcases List.mem_append.1 hc with hc | hc
        · exact (hsg.2 c hc).1
        · obtain rfl := List.mem_singleton.1 hc; decide)]
    · have e : wlCol i n = [32] ++ rightS (sdecS (i64 n)) 6 := by unfold wlCol; rw [if_neg hi]
      have e2 : wlFld i n = sdecS (i64 n) := by unfold wlFld; rw [if_neg hi]
      have e3 : fieldG [] (d ++ (wlCol i n ++ wlCols (i + 1) ns)) = d :: fieldG [] (sdecS (i64 n) ++ wlCols (i + 1) ns) := by
        rw [e]
        rw [show d ++ ([32] ++ rightS (sdecS (i64 n)) 6 ++ wlCols (i + 1) ns) = d ++ ([32] ++ (rightS (sdecS (i64 n)) 6 ++ wlCols (i + 1) ns)) from by simp]
        rw [fieldG_word1 ⟨hd, hb⟩, fieldG_right]
      rw [e3, e2, wlCols_fields ns (i + 1) _ (by omega) hsg.1 (fun c hc => (hsg.2 c hc).1)]

theorem wlBody_fields {r : RowD} {n0 n1 n2 n3 n4 n5 n6 n7 n8 n9 : Nat} (h : WlR r n0 n1 n2 n3 n4 n5 n6 n7 n8 n9) :
    fieldsL (wlBody r) = (r.name ++ [58]) :: padS (hexS n0) 4 :: wlFlds 0 [n1, n2, n3, n4, n5, n6, n7, n8, n9] := by
  rw [fieldsL_eq]
  obtain ⟨g1, _, g2⟩ := ifName_spec h.hn
  have hN := h.hN
  obtain ⟨nm, N, S⟩ := r
  simp only at *
  subst hN
  unfold wlBody
  simp only [List.getD_cons_zero, List.drop_succ_cons, List.drop_zero]
  obtain ⟨_, p2, p3⟩ := padS_low n0 4
  rw [show rightS nm 6 ++ [58, 32] ++ padS (hexS n0) 4 ++ wlCols 0 [n1, n2, n3, n4, n5, n6, n7, n8, n9] = rightS nm 6 ++ ([58] ++ ([32] ++ (padS (hexS n0) 4 ++ wlCols 0 [n1, n2, n3, n4, n5, n6, n7, n8, n9]))) from by simp]
  rw [fieldG_right, ← List.append_assoc nm]
  rw [fieldG_word1 ⟨by simp, fun c hc => by
    rcases List.mem_append.1 hc with hc | hc
    · exact (wordC_blank (g2 c hc).1).1
    · obtain rfl := List.mem_singleton.1 hc; decide⟩]
  rw [wlCols_fields _ 0 _ rfl p3 (fun c hc => (wordC_blank (p2 c hc).2).1)]

theorem wlQ_lt : ∀ (ns : List Nat) (i : Nat), wlQ i ns = true → ∀ n ∈ ns, i64 n < 2147483648 ∧ -2147483648 ≤ i64 n
  | [], _, _ => by simp
  | x :: ns, i, h => by
    unfold wlQ at h
    simp only [Bool.and_eq_true, Bool.or_eq_true, decide_eq_true_eq] at h
    intro n hn
    rcases List.mem_cons.1 hn with rfl | hn
    · exact ⟨h.1.1, h.1.2.1⟩
    · exact wlQ_lt ns (i + 1) h.2 n hn

theorem wlLine_body {r : RowD} (h : wlOk r = true) (hf : ∀ n ∈ r.N, n < 18446744073709551616) : wlLineV (fieldsL (wlBody r)) = some r := by
  obtain ⟨n0, n1, n2, n3, n4, n5, n6, n7, n8, n9, hu⟩ := wlOk_spec h
  rw [wlBody_fields hu]
  obtain ⟨p1, p2, p3⟩ := padS_low n0 4
  have hN := hu.hN; have hS := hu.hS; have h0 := hu.h0
  obtain ⟨nm, N, S⟩ := r
  simp only at *
  subst hN; subst hS
  unfold wlLineV
  simp only
  rw [if_pos ⟨rfl, endsB_snoc 58 nm⟩, hexV_of p1 (fun c hc => (p2 c hc).1) p3 (by omega)]
  simp only
  rw [if_pos (padS4_len h0), wlCells_flds _ 0 (fun n hn => hf n (by simp only [List.mem_cons] at hn ⊢; exact .inr hn)), take_snoc]

theorem wlTab_bodies : ∀ {rs : List RowD}, (∀ r ∈ rs, wlOk r = true ∧ ∀ n ∈ r.N, n < 18446744073709551616) → wlTabV (rs.map wlBody) = some rs
  | [], _ => rfl
  | r :: rs, h => by
    simp only [List.map_cons, wlTabV, wlLine_body (h r (by simp)).1 (h r (by simp)).2, wlTab_bodies (rs := rs) (fun q hq => h q (by simp [hq]))]

def chP (c : UInt8) : Prop := c.toNat ≠ 10 ∧ plainC c = true

theorem chP_app {x y : List UInt8} (hx : ∀ c ∈ x, chP c) (hy : ∀ c ∈ y, chP c) : ∀ c ∈ x ++ y, chP c := fun c hc => by
  rcases List.mem_append.1 hc with hc | hc
  · exact hx c hc
  · exact hy c hc

theorem chP_lit {l : List UInt8} (hl : l.all (fun c => decide (c.toNat ≠ 10) && plainC c) = true) : ∀ c ∈ l, chP c := fun c hc => by
  have := List.all_eq_true.1 hl c hc
  simpa [chP] using this

theorem chP_right {s : List UInt8} {k : Nat} (h : ∀ c ∈ s, chP c) : ∀ c ∈ rightS s k, chP c := by
  unfold rightS
  refine chP_app (fun c hc => ?_) h
  rw [(List.mem_replicate.1 hc).2]
  exact ⟨by decide, by decide⟩

theorem chP_sdec {n : Int} : ∀ c ∈ sdecS n, chP c := fun c hc => ⟨((sdecS_sign (n := n)).2 c hc).2, sdecS_plain c hc⟩

theorem wlCols_chars : ∀ (ns : List Nat) (i : Nat), ∀ c ∈ wlCols i ns, chP c
  | [], _ => by simp [wlCols]
  | n :: ns, i => by
    unfold wlCols wlCol
    refine chP_app ?_ (wlCols_chars ns (i + 1))
    by_cases hi : i < 3
    · rw [if_pos hi]
      exact chP_app (chP_app (chP_lit (by decide)) (chP_right chP_sdec)) (chP_lit (by decide))
    · rw [if_neg hi]
      exact chP_app (chP_lit (by decide)) (chP_right chP_sdec)

theorem wlBody_chars {r : RowD} (h : wlOk r = true) : ∀ c ∈ wlBody r, chP c := by
  obtain ⟨n0, n1, n2, n3, n4, n5, n6, n7, n8, n9, hu⟩ := wlOk_spec h
  obtain ⟨_, _, g2⟩ := ifName_spec hu.hn
  unfold wlBody
  refine chP_app (chP_app (chP_app (chP_right fun c hc => plain_word (g2 c hc).1) (chP_lit (by decide))) (fun c hc => plain_word ((padS_low _ 4).2.1 c hc).2)) (wlCols_chars _ 0)

theorem wlText_lines {rs : List RowD} (h : ∀ r ∈ rs, wlOk r = true) : linesL ((rs.map fun r => wlBody r ++ [10]).flatten) = rs.map wlBody := by
  rw [linesL_eq]
  have e : (rs.map fun r => wlBody r ++ [10]) = (rs.map wlBody).map fun l => l ++ [10] := by rw [List.map_map]; rfl
  rw [e]
  exact lineG_lines _ (fun l hl c hc => by
    obtain ⟨r, hr, rfl⟩ := List.mem_map.1 hl
    exact (wlBody_chars (h r hr) c hc).1)

set_option maxRecDepth 100000 in
theorem wlHead_len : wlHead.length = 162 := by decide

set_option maxRecDepth 100000 in
theorem wlRead_text {rs : List RowD} (h : ∀ r ∈ rs, wlOk r = true ∧ ∀ n ∈ r.N, n < 18446744073709551616) : wlRead (wlText rs) = some rs := by
  unfold wlRead
  have hp : (wlText rs).all plainC = true := by
    rw [List.all_eq_true]
    intro c hc
    unfold wlText at hc
    rcases List.mem_append.1 hc with hc | hc
    · have : wlHead.all plainC = true := by decide
      exact List.all_eq_true.1 this c hc
    · obtain ⟨l, hl, hcl⟩ := List.mem_flatten.1 hc
      obtain ⟨r, hr, rfl⟩ := List.mem_map.1 hl
      rcases List.mem_append.1 hcl with hcl | hcl
      · exact (wlBody_chars (h r hr).1 c hcl).2
      · obtain rfl := List.mem_singleton.1 hcl; decide
  have ht : (wlText rs).take 162 = wlHead := by unfold wlText; rw [← wlHead_len, List.take_left]
  have hdp : (wlText rs).drop 162 = (rs.map fun r => wlBody r ++ [10]).flatten := by unfold wlText; rw [← wlHead_len, List.drop_left]
  rw [if_pos ⟨hp, ht⟩, hdp, wlText_lines (fun r hr => (h r hr).1), wlTab_bodies h]
  have : rs.all wlOk = true := List.all_eq_true.2 (fun r hr => (h r hr).1)
  simp only [this, if_true]

theorem wlRead_spec {s : List UInt8} {rs : List RowD} (h : wlRead s = some rs) : ∃ rest, s = wlHeadL1 ++ 10 :: (wlHeadL2 ++ 10 :: rest) ∧ (∀ c ∈ s, plainC c = true) ∧ wlTabV (linesL rest) = some rs ∧ ∀ r ∈ rs, wlOk r = true := by
  unfold wlRead at h
  by_cases hc : s.all plainC = true ∧ s.take 162 = wlHead
  rotate_left
  · rw [if_neg hc] at h; cases h
  rw [if_pos hc] at h
  cases hv : wlTabV (linesL (s.drop 162)) with
  | none => rw [hv] at h; cases h
  | some q =>
    rw [hv] at h
    simp only at h
    by_cases ha : q.all wlOk = true
    rotate_left
    · rw [if_neg ha] at h; cases h
    rw [if_pos ha] at h
    simp only [Option.some.injEq] at h
    subst h
    refine ⟨s.drop 162, ?_, List.all_eq_true.1 hc.1, hv, List.all_eq_true.1 ha⟩
    conv => lhs; rw [← List.take_append_drop 162 s, hc.2]
    simp [wlHead]

theorem wlTabV_len : ∀ {ls : List (List UInt8)} {rs : List RowD}, wlTabV ls = some rs → rs.length = ls.length
  | [], rs, h => by simp only [wlTabV, Option.some.injEq] at h; subst h; rfl
  | s :: ls, rs, h => by
    simp only [wlTabV] at h
    cases hv : wlLineV (fieldsL s) with
    | none => rw [hv] at h; cases h
    | some r =>
      rw [hv] at h
      cases ht : wlTabV ls with
      | none => rw [ht] at h; cases h
      | some q =>
        rw [ht] at h
        simp only [Option.some.injEq] at h
        subst h
        simp [wlTabV_len ht]

theorem wlTabV_fit {B : Nat} (hB : B < 2147483648) : ∀ {ls : List (List UInt8)} {rs : List RowD}, wlTabV ls = some rs → (∀ s ∈ ls, s.length ≤ B) → ∀ r ∈ rs, r.fits3
  | [], rs, h, _ => by simp only [wlTabV, Option.some.injEq] at h; subst h; simp
  | s :: ls, rs, h, hl => by
    simp only [wlTabV] at h
    cases hv : wlLineV (fieldsL s) with
    | none => rw [hv] at h; cases h
    | some r =>
      rw [hv] at h
      cases ht : wlTabV ls with
      | none => rw [ht] at h; cases h
      | some q =>
        rw [ht] at h
        simp only [Option.some.injEq] at h
        subst h
        have i2 := wlTabV_fit hB ht (fun s hs => hl s (by simp [hs]))
        have hs := hl s (by simp)
        obtain ⟨_, _, hsh⟩ := fieldsV_shape s
        obtain ⟨g0, g1, n, ns, e1, e2, _, e4, _, rfl, e6⟩ := wlLine_spec hv
        have h0 := hsh g0 (by rw [e1]; simp)
        intro q' hq
        rcases List.mem_cons.1 hq with rfl | hq
        · refine ⟨by simp; omega, by simp; omega, fun m hm => ?_, by simp, by simp⟩
          rcases List.mem_cons.1 hm with rfl | hm
          · exact (hexV_spec e4).2.2.1
          · exact e6 m hm
        · exact i2 q' hq

theorem wlRows_fit {t : List UInt8} {rs : List RowD} (h : wlTabV (linesL t) = some rs) (ht : t.length ≤ 40000) : rs.length ≤ 40001 ∧ rowsFit3 rs := by
  obtain ⟨_, k1, k2⟩ := linesV_shape t
  have g1 := wlTabV_len h
  have g2 := wlTabV_fit (B := 40000) (by omega) h (fun x hx => by have := k2 x hx; omega)
  exact ⟨by omega, by omega, g2⟩

theorem wlTab_cons {s : List UInt8} {rs : List RowD} (h : wlTabV (lineG [] s) = some rs) : (s = [] ∧ rs = []) ∨ ∃ line rest r rs', (∀ c ∈ line, c.toNat ≠ 10) ∧ ((s = line ++ 10 :: rest) ∨ (s = line ∧ rest = [] ∧ line ≠ [])) ∧ wlLineV (fieldsL line) = some r ∧ rs = r :: rs' ∧ wlTabV (lineG [] rest) = some rs' := by
  rcases line_cases s with rfl | ⟨line, rest, h1, h2, h3⟩
  · left
    simp only [lineG, if_true, wlTabV, Option.some.injEq] at h
    exact ⟨rfl, h.symm⟩
  · right
    rw [h2] at h
    simp only [wlTabV] at h
    cases hv : wlLineV (fieldsL line) with
    | none => rw [hv] at h; simp at h
    | some r =>
      rw [hv] at h
      cases ht : wlTabV (lineG [] rest) with
      | none => rw [ht] at h; simp at h
      | some q =>
        rw [ht] at h
        simp only [Option.some.injEq] at h
        exact ⟨line, rest, r, q, h1, h3, hv, h.symm, ht⟩

end Go.Ev

set_option linter.unusedSimpArgs false
set_option linter.unusedVariables false
namespace Go.Ev
open Go.Proofs

section
variable (rd : List UInt8 → List RowD → Prop) (ok : List RowD → Bool) (txt : List RowD → List UInt8) (tree : List RowD → SV)

/-- The reference reads a text, or leaves it. -/
def SReadG (F : List SV → Option AV) : Prop := ∀ s : List UInt8, s.length ≤ 40000 →
  (∃ rs, rd s rs ∧ rowsFit3 rs ∧ ok rs = true ∧ F [.str s] = some (.sv (.tup [.sl (rowsSV rs), .bool true, .int .i64 1]))) ∨ ∃ l b, F [.str s] = some (.sv (.tup [.sl l, .bool b, .int .i64 2]))
def STreeG (F : List SV → Option AV) : Prop := ∀ rs : List RowD, rowsFit3 rs → ok rs = true → F [.sl (rowsSV rs)] = some (.sv (.tup [tree rs, .int .i64 1]))
def SPrintG (F : List SV → Option AV) : Prop := ∀ rs : List RowD, rowsFit3 rs → F [.sl (rowsSV rs)] = some (.sv (.tup (if ok rs = true then [.str (txt rs), .int .i64 1] else [.str [], .int .i64 2])))
def SDoorG (F : List SV → Option AV) : Prop := ∀ (s : List UInt8) (rs : List RowD), rd s rs → ok rs = true → rowsFit3 rs → s.length ≤ 40000 → F [.str s] = some (.sv (.tup [tree rs, .int .i64 0]))

structure LawG : Prop where
  back : ∀ rs : List RowD, rowsFit3 rs → ok rs = true → rd (txt rs) rs
  node : ∀ rs : List RowD, rowsFit3 rs → ok rs = true → IsNode (tree rs)
end

def S9g (a t d : Nat) (F : List SV → Option AV) : Prop := ∀ s : List UInt8, F [.str s, .fn a [] [], .fn t [] [], .fn d [] []] = some (.sv (.bool true))
def S1016g (a t d : Nat) (F : List SV → Option AV) : Prop := ∀ l : List RowD, zzRows l = true → (∀ r ∈ l, ∀ n ∈ r.N, n < 18446744073709551616) → F [.sl (rowsSV l), .fn a [] [], .fn t [] [], .fn d [] []] = some (.sv (.bool true))

theorem ev9G {rd : List UInt8 → List RowD → Prop} {ok : List RowD → Bool} {txt : List RowD → List UInt8} {tree : List RowD → SV} (L : LawG rd ok txt tree) (E : Env) (h : E.code 15 = some c9) (a t d : Nat) (hR : Has E a (SReadG rd ok)) (hT : Has E t (STreeG ok tree)) (hD : Has E d (SDoorG rd ok tree)) (h25 : E.pure 38 = some F25) (h26 : E.pure 39 = some F26) (h27 : E.pure 40 = some F27) : S9g a t d (autoF E 15) := by
  obtain ⟨FR, hpR, hFR⟩ := hR
  obtain ⟨FT, hpT, hFT⟩ := hT
  obtain ⟨FD, hpD, hFD⟩ := hD
  intro s
  refine autoF_sv (n := 1) ?_ rfl
  by_cases hs : 40000 < s.length
  · exact ev9_long E h _ _ _ s hs 1
  · rcases hFR s (by omega) with ⟨rs, hrd, hf, hok, hF⟩ | ⟨l, b, hF⟩
    · exact ev9_yes E h _ _ _ FR FT FD hpR hpT hpD h25 h26 h27 s (by omega) _ _ (L.node rs hf hok) hF (hFT rs hf hok) (hFD s rs hrd hok hf (by omega)) 1
    · exact ev9_opn E h _ _ _ FR hpR h25 s (by omega) l b hF 1

theorem ev13G {rd : List UInt8 → List RowD → Prop} {ok : List RowD → Bool} {txt : List RowD → List UInt8} {tree : List RowD → SV} (L : LawG rd ok txt tree) (E : Env) (h : E.code 19 = some c13) (a p d : Nat) (hR : Has E a (SReadG rd ok)) (hP : Has E p (SPrintG ok txt)) (hD : Has E d (SDoorG rd ok tree)) (h25 : E.pure 38 = some F25) (h26 : E.pure 39 = some F26) (h27 : E.pure 40 = some F27) : S9g a p d (autoF E 19) := by
  obtain ⟨FR, hpR, hFR⟩ := hR
  obtain ⟨FP, hpP, hFP⟩ := hP
  obtain ⟨FD, hpD, hFD⟩ := hD
  intro s
  refine autoF_sv (n := 1) ?_ rfl
  by_cases hs : 40000 < s.length
  · exact ev13_long E h _ _ _ s hs 1
  · rcases hFR s (by omega) with ⟨rs, hrd, hf, hok, hF⟩ | ⟨l, b, hF⟩
    · have hp := hFP rs hf
      rw [if_pos hok] at hp
      exact ev13_yes E h _ _ _ FR FP FD hpR hpP hpD h25 h26 h27 s (txt rs) (by omega) _ _ (L.node rs hf hok) hF hp (hFD s rs hrd hok hf (by omega)) (fun ho => hFD _ rs (L.back rs hf hok) hok hf ho) 1
    · exact ev13_opn E h _ _ _ FR hpR h25 s (by omega) l b hF 1

theorem ev1016G {rd : List UInt8 → List RowD → Prop} {ok : List RowD → Bool} {txt : List RowD → List UInt8} {tree : List RowD → SV} (L : LawG rd ok txt tree) (E : Env) (h : E.code 25 = some c1016) (p t d : Nat) (hP : Has E p (SPrintG ok txt)) (hT : Has E t (STreeG ok tree)) (hD : Has E d (SDoorG rd ok tree)) (h25 : E.pure 38 = some F25) (h26 : E.pure 39 = some F26) (h27 : E.pure 40 = some F27) : S1016g p t d (autoF E 25) := by
  obtain ⟨FP, hpP, hFP⟩ := hP
  obtain ⟨FT, hpT, hFT⟩ := hT
  obtain ⟨FD, hpD, hFD⟩ := hD
  intro l hz hn
  refine autoF_sv (n := 1) ?_ rfl
  have hrl : (rowsSV l).length = l.length := by simp [rowsSV]
  by_cases hl : 1000 < l.length
  · exact ev1016_long E h _ _ _ _ (by omega) 1
  · have hf := zzRows_fit hz hn (by omega)
    have hF := hFP l hf
    cases hx : ok l with
    | false =>
      rw [if_neg (by simp [hx])] at hF
      exact ev1016_open E h _ _ _ FP hpP h25 _ (by omega) [] 2 hF (.inl (by decide)) 1
    | true =>
      rw [if_pos hx] at hF
      by_cases ho : 40000 < (txt l).length
      · exact ev1016_open E h _ _ _ FP hpP h25 _ (by omega) (txt l) 1 hF (.inr ho) 1
      · exact ev1016_yes E h _ _ _ FP FT FD hpP hpT hpD h25 h26 h27 _ (by omega) (txt l) (by omega) (tree l) (L.node l hf hx) hF (hFT l hf hx) (hFD _ l (L.back l hf hx) hx hf (by omega)) 1

end Go.Ev

set_option linter.unusedSimpArgs false
set_option linter.unusedVariables false
namespace Go.Ev
open Go.Proofs

def wlNames : List (List UInt8) := [[78, 97, 109, 101], [83, 116, 97, 116, 117, 115], [81, 117, 97, 108, 105, 116, 121, 76, 105, 110, 107], [81, 117, 97, 108, 105, 116, 121, 76, 101, 118, 101, 108], [81, 117, 97, 108, 105, 116, 121, 78, 111, 105, 115, 101], [68, 105, 115, 99, 97, 114, 100, 101, 100, 78, 119, 105, 100], [68, 105, 115, 99, 97, 114, 100, 101, 100, 67, 114, 121, 112, 116], [68, 105, 115, 99, 97, 114, 100, 101, 100, 70, 114, 97, 103], [68, 105, 115, 99, 97, 114, 100, 101, 100, 82, 101, 116, 114, 121], [68, 105, 115, 99, 97, 114, 100, 101, 100, 77, 105, 115, 99], [77, 105, 115, 115, 101, 100, 66, 101, 97, 99, 111, 110]]

def iNode (nm : List UInt8) (n : Int) : SV := nodeV nm 2 false n 0 0 [] []

def wlKids : List (List UInt8) → List Nat → List SV
  | f :: fs, n :: ns => iNode f (i64 n) :: wlKids fs ns
  | _, _ => []

def wlNode (r : RowD) : SV := nodeV [] 8 false 0 0 0 [] (nodeV [78, 97, 109, 101] 5 false 0 0 0 r.name [] :: nodeV [83, 116, 97, 116, 117, 115] 3 false 0 ((r.N.getD 0 0 : Nat) : Int) 0 [] [] :: wlKids (wlNames.drop 2) (r.N.drop 1))

def wlTree (rs : List RowD) : SV := nodeV [] 6 false 0 0 0 [] (rs.map wlNode)

theorem leafN (nm : List UInt8) (k : Int) (b : Bool) (i u : Int) (f : Nat) (s : List UInt8) : IsNode (nodeV nm k b i u f s []) := .mk _ _ _ _ _ _ _ _ (by simp) (by simp)

theorem wlKids_node : ∀ (fs : List (List UInt8)) (ns : List Nat), (∀ k ∈ wlKids fs ns, IsNode k) ∧ (wlKids fs ns).length ≤ fs.length
  | [], _ => by simp [wlKids]
  | _ :: _, [] => by simp [wlKids]
  | f :: fs, n :: ns => by
    obtain ⟨h1, h2⟩ := wlKids_node fs ns
    unfold wlKids
    refine ⟨fun k hk => ?_, by simp; omega⟩
    rcases List.mem_cons.1 hk with rfl | hk
    · exact leafN _ _ _ _ _ _ _
    · exact h1 k hk

theorem wlNode_node (r : RowD) : IsNode (wlNode r) := by
  obtain ⟨h1, h2⟩ := wlKids_node (wlNames.drop 2) (r.N.drop 1)
  have h3 : (wlNames.drop 2).length = 9 := rfl
  refine .mk _ _ _ _ _ _ _ _ (by simp only [List.length_cons]; omega) fun k hk => ?_
  rcases List.mem_cons.1 hk with rfl | hk
  · exact leafN _ _ _ _ _ _ _
  · rcases List.mem_cons.1 hk with rfl | hk
    · exact leafN _ _ _ _ _ _ _
    · exact h1 k hk

theorem wlTree_node (rs : List RowD) (h : rowsFit3 rs) : IsNode (wlTree rs) := by
  refine .mk _ _ _ _ _ _ _ _ (by have := h.1; simp; omega) fun k hk => ?_
  obtain ⟨r, _, rfl⟩ := List.mem_map.1 hk
  exact wlNode_node r

def wlAll (rs : List RowD) : Bool := rs.all wlOk
def wlRd (s : List UInt8) (rs : List RowD) : Prop := wlRead s = some rs

theorem wlLaw : LawG wlRd wlAll wlText wlTree where
  back := fun rs hf ho => wlRead_text fun r hr => ⟨List.all_eq_true.1 ho r hr, (hf.2 r hr).2.2.1⟩
  node := fun rs hf _ => wlTree_node rs hf

/-- What the program holds of an interface. -/
def wlCells1 (r : RowD) : List SV := .str r.name :: .int .u64 ((r.N.getD 0 0 : Nat) : Int) :: (r.N.drop 1).map (fun n => .int .i64 (i64 n))

def wlVals (rs : List RowD) : List SV := rs.map fun r => .ref (wlCells1 r)

end Go.Ev
