/- The seat's tables; the sanity check by evaluation; what the listed variables hold. -/
/- Environments entry by entry. -/
/- Entries of the counters of transformations: what is written is read. -/
/- Tables of sockets: parts of a text, hexadecimal numbers, padding. -/
/- Tables of sockets: what is written, and what the reference reads. -/
/- Numbers of base 16, and of any base by their writing; texts split: the program's functions. -/
/- Parts of a text, padding, hexadecimal numbers: the reference's functions. -/
import Derived.Test.YtgonelmeonncpaaGreatDoorAah
import Derived.Test.YtgonelmeonncpaaGreatDoorAaj
import Derived.Test.YtgonelmeonncpaaGreatDoorAal
import Derived.Test.YtgonelmeonncpaaGreatDoorAan
import Derived.Test.YtgonelmeonncpaaGreatDoorAao
import Derived.Test.YtgonelmeonncpaaGreatDoorAaq
import Derived.Laws.Externs
import Derived.Test.YtgonelmeonncpaaGreatDoorAai
set_option linter.unusedSimpArgs false
set_option linter.unusedVariables false
namespace Go.Ev
open Go.Proofs

def codeTab : List (Nat × AFn) := [(15, c9), (19, c13), (29, c25), (43, c26), (44, c27), (45, c28), (47, c30), (50, c33), (51, c34), (53, c36), (55, c38), (62, c45), (89, c52), (176, c54), (80, c74), (90, c76), (88, c78), (130, c85), (132, c87), (133, c88), (135, c90), (142, c97), (144, c99), (171, c117), (172, c118), (173, c119), (174, c120), (175, c121), (91, c123), (199, c125), (201, c127), (202, c128), (206, c133), (159, c134), (217, c135), (226, c145), (241, c150), (231, c154), (255, c155), (262, c158), (268, c163), (269, c164), (277, c172), (279, c174), (24, c1015), (30, c1016), (69, c1035), (92, c1050), (157, c1080), (158, c1083), (63, c46), (52, c35), (129, c84), (82, c1113), (109, c1143), (242, c1166), (136, c91), (214, c1158), (7, c2007), (8, c2008), (9, c2009), (31, c2031), (32, c2032), (33, c2033), (34, c2034), (81, c2081), (83, c2083), (84, c2084), (85, c2085), (86, c2086), (87, c2087), (177, c2177), (178, c2178), (179, c2179), (180, c2180), (181, c2181), (182, c2182), (183, c2183), (207, c2207), (208, c2208), (209, c2209), (210, c2210), (228, c2228), (243, c2243), (244, c2244), (245, c2245), (246, c2246), (247, c2247), (248, c2248), (256, c2256), (263, c2263), (227, c1155)]

theorem codeTab_ok : ∀ p ∈ codeTab, codeOf Tryz.prog p.1 = some p.2 := by
  intro p hp
  simp only [codeTab, List.mem_cons, List.not_mem_nil, or_false] at hp
  rcases hp with rfl | rfl | rfl | rfl | rfl | rfl | rfl | rfl | rfl | rfl | rfl | rfl | rfl | rfl | rfl | rfl | rfl | rfl | rfl | rfl | rfl | rfl | rfl | rfl | rfl | rfl | rfl | rfl | rfl | rfl | rfl | rfl | rfl | rfl | rfl | rfl | rfl | rfl | rfl | rfl | rfl | rfl | rfl | rfl | rfl | rfl | rfl | rfl | rfl | rfl | rfl | rfl | rfl | rfl | rfl | rfl | rfl | rfl | rfl | rfl | rfl | rfl | rfl | rfl | rfl | rfl | rfl | rfl | rfl | rfl | rfl | rfl | rfl | rfl | rfl | rfl | rfl | rfl | rfl | rfl | rfl | rfl | rfl | rfl | rfl | rfl | rfl | rfl | rfl | rfl | rfl | rfl
  · exact code9
  · exact code13
  · exact code25
  · exact code26
  · exact code27
  · exact code28
  · exact code30
  · exact code33
  · exact code34
  · exact code36
  · exact code38
  · exact code45
  · exact code52
  · exact code54
  · exact code74
  · exact code76
  · exact code78
  · exact code85
  · exact code87
  · exact code88
  · exact code90
  · exact code97
  · exact code99
  · exact code117
  · exact code118
  · exact code119
  · exact code120
  · exact code121
  · exact code123
  · exact code125
  · exact code127
  · exact code128
  · exact code133
  · exact code134
  · exact code135
  · exact code145
  · exact code150
  · exact code154
  · exact code155
  · exact code158
  · exact code163
  · exact code164
  · exact code172
  · exact code174
  · exact code1015
  · exact code1016
  · exact code1035
  · exact code1050
  · exact code1080
  · exact code1083
  · exact code46
  · exact code35
  · exact code84
  · exact code1113
  · exact code1143
  · exact code1166
  · exact code91
  · exact code1158
  · exact code2007
  · exact code2008
  · exact code2009
  · exact code2031
  · exact code2032
  · exact code2033
  · exact code2034
  · exact code2081
  · exact code2083
  · exact code2084
  · exact code2085
  · exact code2086
  · exact code2087
  · exact code2177
  · exact code2178
  · exact code2179
  · exact code2180
  · exact code2181
  · exact code2182
  · exact code2183
  · exact code2207
  · exact code2208
  · exact code2209
  · exact code2210
  · exact code2228
  · exact code2243
  · exact code2244
  · exact code2245
  · exact code2246
  · exact code2247
  · exact code2248
  · exact code2256
  · exact code2263
  · exact code1155

def codeFn (f : Nat) : Option AFn := codeTab.lookup f

theorem codeFn_ok (f : Nat) (fn : AFn) (h : codeFn f = some fn) : codeOf Tryz.prog f = some fn := by
  unfold codeFn at h
  have key : ∀ (l : List (Nat × AFn)), l.lookup f = some fn → (f, fn) ∈ l := by
    intro l
    induction l with
    | nil => intro h; simp at h
    | cons p l ih =>
      obtain ⟨g, x⟩ := p
      intro h
      simp only [List.lookup] at h
      split at h
      · rename_i e
        have e' : f = g := by simpa using e
        simp only [Option.some.injEq] at h
        subst h; subst e'
        simp
      · simp [ih h]
  exact codeTab_ok (f, fn) (key _ h)

def lvl (E : Env) (L : List Nat) (N : Nat) : Nat → Env
  | 0 => E
  | k + 1 => { E with pure := fun f => if L.contains f then some (fun vs => evP (lvl E L N k) N f vs) else E.pure f }

theorem lvl_same (E : Env) (L : List Nat) (N : Nat) : ∀ k, (lvl E L N k).glob = E.glob ∧ (lvl E L N k).code = E.code ∧ (lvl E L N k).quiet = E.quiet
  | 0 => ⟨rfl, rfl, rfl⟩
  | _ + 1 => ⟨rfl, rfl, rfl⟩

theorem lvl_ok {P : Program} {E : Env} (hm : P.follows .mixedOrders = true) (hT : CodeT P E) (hQ : QuietOK P E) (hP : PureOK P E) (L : List Nat) (N : Nat) : ∀ k, PureOK P (lvl E L N k)
  | 0 => hP
  | k + 1 => by
    obtain ⟨h1, h2, h3⟩ := lvl_same E L N k
    refine ⟨fun f F hf => ?_, fun f k hf => ?_⟩
    rotate_left
    · exact hP.2 f _ hf
    simp only [lvl] at hf
    split at hf
    · simp only [Option.some.injEq] at hf
      subst hf
      have hT' : CodeT P (lvl E L N k) := by intro g fn hg; rw [h2] at hg; exact hT g fn hg
      have hQ' : QuietOK P (lvl E L N k) := by intro g hg; rw [h3] at hg; exact hQ g hg
      exact (evP_ok hm hT' hQ' (lvl_ok hm hT hQ hP L N k) N f).glob h1.symm
    · exact (hP.1 f F hf).glob rfl

def unlit : DataW Unit → Lit
  | .lit l => l
  | _ => .nil

/-- A laid datum's plain values. -/
def lits : DataW Unit → List Lit
  | .agg l => l.map unlit
  | .slice l _ => l.map unlit
  | d => [unlit d]

/-- The cells of a variable that is laid. -/
def svD (d : DataW Unit) : List SV := match d with
  | .slice _ _ => [.sl ((lits d).map litS)]
  | d => (lits d).map litS

def globT (f : Nat) : List SV := match f with
  | 1 => svD YtgonelmeonncpaaGreatDoor.Rows.laid_strings_asciiSpace
  | 6 => svD YtgonelmeonncpaaGreatDoor.Rows.laid_internal_strconv_float32info
  | 7 => svD YtgonelmeonncpaaGreatDoor.Rows.laid_internal_strconv_optimize
  | 8 => svD YtgonelmeonncpaaGreatDoor.Rows.laid_internal_strconv_float64info
  | 9 => svD YtgonelmeonncpaaGreatDoor.Rows.laid_internal_strconv_uint64pow10
  | 12 => svD YtgonelmeonncpaaGreatDoor.Rows.laid_internal_strconv_float64pow10
  | _ => []

def E0 : Env := { glob := globT, pure := fun _ => none, code := codeFn, quiet := quietT, look := fun f => if f = 202 then some 3 else none }

def livesL : List Nat := [55, 130, 144, 206, 201, 226, 241, 255, 262, 268, 269, 217, 277, 279, 174, 175, 173, 172]

set_option maxRecDepth 100000 in
theorem lives_ev : evP (lvl E0 livesL 200 12) 200 29 [] = some (.sv (.bool true)) := by kernel_rfl

theorem follows : Tryz.prog.follows .mixedOrders = true := by kernel_rfl

theorem look0 : LookOK Tryz.prog E0 := by
  intro f k h b w u hu us hs h0
  have h' : (if f = 202 then some 3 else none) = some k := h
  split at h' <;> simp only [Option.some.injEq, reduceCtorEq] at h'
  rename_i e
  subst e; subst h'
  exact .inr ⟨202, us, by simp [callFunc, Tryz.func202, show (Tryz.f202.name == "runtime.NumGoroutine") = false by kernel_rfl, show Tryz.f202.name ≠ "runtime.NumGoroutine" from of_decide_eq_true (by kernel_rfl), Tryz.f202], (lookErr b w u hu us hs h0).mono fun e w' h => h⟩

theorem b0 : Base Tryz.prog E0 := ⟨follows, codeT_of codeFn_ok, quiet_ok E0 rfl, And.intro (fun f F h => by cases h) look0⟩

theorem p25 (E : Env) (hE : E.glob = globT) : PureFn Tryz.prog E 29 F25 := by
  have h : PureFn Tryz.prog (lvl E0 livesL 200 12) 29 (evP (lvl E0 livesL 200 12) 200 29) := by
    obtain ⟨h1, h2, h3⟩ := lvl_same E0 livesL 200 12
    exact evP_ok follows (fun g fn hg => b0.T g fn (by rw [h2] at hg; exact hg)) (fun g hg => b0.Q g (by rw [h3] at hg; exact hg)) (lvl_ok follows b0.T b0.Q b0.P livesL 200 12) 200 29
  refine (h.glob (E' := E) (by rw [hE, (lvl_same E0 livesL 200 12).1]; rfl)).mono fun vs r hr => ?_
  unfold F25 at hr
  split at hr
  · rw [lives_ev]; exact hr
  · cases hr

theorem p75 (E : Env) : PureFn Tryz.prog E 123 F75 := by
  intro vs r hF F0 w us hG hw hs hr
  unfold F75 at hF
  split at hF
  · rename_i b
    simp only [Option.some.injEq] at hF; subst hF
    have h0 := hr 0 (.flt .f64 b) rfl
    have hsz : us.size = 1 := by simpa using hs
    obtain ⟨l⟩ := us
    match l, hsz with
    | [u], _ =>
      have hu : u = .float .f64 b := by
        have : RepS F0 (.flt .f64 b) u := by simpa using h0
        cases this; rfl
      subst hu
      refine .inl ⟨.int .u64 b, w, ?_, ⟨F0, [], fun _ => none⟩, ⟨rfl, rfl, rfl, Nat.le_refl _, fun _ _ => rfl, fun _ _ _ h => h, fun _ _ _ _ h => h, hw, rfl, fun _ _ => rfl, fun _ _ _ h => by cases h⟩, .sv _ _ _ (.int _ _)⟩
      rw [run_callFunc_extern Tryz.func123 (by kernel_rfl) (by kernel_rfl) (by kernel_rfl) (e := Extern.MathFloatBits.float64bits) (by kernel_rfl)]
      rfl
  · cases hF

def spCheck (l : List SV) : Bool := (List.range 128).all fun k => match l[k]? with
  | some (.int .u8 n) => n == ((if (decide (9 ≤ k) && decide (k ≤ 13)) || k == 32 then 1 else 0 : Nat) : Int)
  | _ => false

theorem spCheck_ok : spCheck (globT 1) = true := by kernel_rfl

theorem spT0 : SpT E0 := by
  intro c hc
  have h := List.all_eq_true.1 spCheck_ok c.toNat (List.mem_range.2 hc)
  show (globT 1).drop c.toNat = _
  have hl : c.toNat < (globT 1).length := by
    refine Decidable.byContradiction fun hn => ?_
    rw [List.getElem?_eq_none (by omega)] at h
    cases h
  rw [List.drop_eq_getElem_cons hl]
  congr 1
  rw [List.getElem?_eq_getElem hl] at h
  split at h
  · rename_i n hx
    simp only [Option.some.injEq] at hx
    rw [hx]
    have : n = (spV c : Nat) := by
      simp only [beq_iff_eq] at h
      rw [h]; unfold spV spC; rfl
    rw [this]
  · cases h

end Go.Ev

set_option linter.unusedSimpArgs false
set_option linter.unusedVariables false
namespace Go.Ev
open Go.Proofs

theorem Base.add {P : Program} {E : Env} (B : Base P E) {f : Nat} {F : List SV → Option AV} (hF : PureFn P E f F) : Base P (E.add f F) := ⟨B.m, fun g fn h => B.T g fn h, fun g h => B.Q g h, B.P.add hF⟩

theorem p27 {P : Program} {E : Env} (B : Base P E) (h : E.code 44 = some c27) : PureFn P E 44 F27 := pure27 B.m B.T B.Q B.P h
theorem p26 {P : Program} {E : Env} (B : Base P E) (h : E.code 43 = some c26) (h75 : E.pure 123 = some F75) : PureFn P E 43 F26 := pure26 B.m B.T B.Q B.P h h75

end Go.Ev


set_option linter.unusedSimpArgs false
set_option linter.unusedVariables false
namespace Go.Ev
open Go.Proofs
variable {P : Program} {E : Env}

theorem p1080 (B : Base P E) (h : E.code 157 = some c1080) : PureFn P E 157 F1080 := by
  refine PureFn.of B.m B.T B.Q B.P fun vs r hF => ?_
  unfold F1080 at hF
  split at hF
  · rename_i l
    obtain ⟨h1, hr⟩ := onlyIf_some hF
    simp only [Option.some.injEq] at hr; subst hr
    refine ⟨l.length + 1, _, ?_, .inl rfl⟩
    have := ev1080 E h (l.map unstr) (l.length + 1) (.inl (by simp))
    rw [← h1] at this
    exact this
  · cases hF

theorem p1035 (B : Base P E) (h : E.code 69 = some c1035) (h80 : E.pure 157 = some F1080) : PureFn P E 69 F1035 := by
  refine PureFn.of B.m B.T B.Q B.P fun vs r hF => ?_
  unfold F1035 at hF
  split at hF
  · rename_i s ns ss
    obtain ⟨h1, hr⟩ := onlyIf_some hF
    simp only [Option.some.injEq] at hr; subst hr
    refine ⟨1, _, ?_, .inl rfl⟩
    have := ev1035 E h h80 (unrow (.agg [.str s, .sl ns, .sl ss])) 1
    rw [show SV.agg [.str (unrow (.agg [.str s, .sl ns, .sl ss])).name, .sl (u64s (unrow (.agg [.str s, .sl ns, .sl ss])).N), .sl (strs (unrow (.agg [.str s, .sl ns, .sl ss])).S)] = (unrow (.agg [.str s, .sl ns, .sl ss])).sv from rfl, ← h1] at this
    exact this
  · cases hF

theorem p1015 (B : Base P E) (h : E.code 24 = some c1015) (h35 : E.pure 69 = some F1035) : PureFn P E 24 F1015 := by
  refine PureFn.of B.m B.T B.Q B.P fun vs r hF => ?_
  unfold F1015 at hF
  split at hF
  · rename_i l
    obtain ⟨h1, hr⟩ := onlyIf_some hF
    simp only [Option.some.injEq] at hr; subst hr
    refine ⟨l.length + 1, _, ?_, .inl rfl⟩
    have := ev1015 E h h35 (l.map unrow) (l.length + 1) (.inl (by simp))
    rw [← h1] at this
    exact this
  · cases hF

end Go.Ev

set_option linter.unusedSimpArgs false
set_option linter.unusedVariables false
namespace Go.Ev
open Go.Proofs

/-! ### Parts between a sign -/

def partG (b : Nat) (cur : List UInt8) : List UInt8 → List (List UInt8)
  | [] => [cur]
  | c :: cs => if c.toNat = b then cur :: partG b [] cs else partG b (cur ++ [c]) cs

def partI (b : Nat) (cur : List UInt8) : List UInt8 → List (List UInt8)
  | [] => []
  | c :: cs => if c.toNat = b then cur :: partI b [] cs else partI b (cur ++ [c]) cs

def partE (b : Nat) (cur : List UInt8) : List UInt8 → List UInt8
  | [] => cur
  | c :: cs => if c.toNat = b then partE b [] cs else partE b (cur ++ [c]) cs

theorem partG_eq (b : Nat) : ∀ (s cur : List UInt8), partG b cur s = partI b cur s ++ [partE b cur s]
  | [], cur => rfl
  | c :: s, cur => by
    simp only [partG, partI, partE]
    split
    · rw [partG_eq b s]; rfl
    · rw [partG_eq b s]

theorem partI_len (b : Nat) : ∀ (s cur : List UInt8), (partI b cur s).length ≤ s.length
  | [], cur => by simp [partI]
  | c :: s, cur => by
    simp only [partI]
    split
    · have := partI_len b s []; simp; omega
    · have := partI_len b s (cur ++ [c]); simp; omega

theorem partE_len (b : Nat) : ∀ (s cur : List UInt8), (partE b cur s).length ≤ cur.length + s.length
  | [], cur => by simp [partE]
  | c :: s, cur => by
    simp only [partE]
    split
    · have := partE_len b s []; simp at this ⊢; omega
    · have := partE_len b s (cur ++ [c]); simp at this ⊢; omega

theorem partG_mem (b : Nat) : ∀ (s cur : List UInt8), ∀ x ∈ partG b cur s, x.length ≤ cur.length + s.length
  | [], cur => by simp [partG]
  | c :: s, cur => by
    simp only [partG]
    split
    · intro x hx
      rcases List.mem_cons.1 hx with rfl | hx
      · omega
      · have := partG_mem b s [] x hx; simp at this ⊢; omega
    · intro x hx
      have := partG_mem b s (cur ++ [c]) x hx; simp at this ⊢; omega

theorem partG_no (b : Nat) : ∀ (w cur rest : List UInt8), (∀ c ∈ w, c.toNat ≠ b) → partG b cur (w ++ rest) = partG b (cur ++ w) rest
  | [], cur, rest, _ => by simp
  | c :: w, cur, rest, h => by
    simp only [List.cons_append, partG]
    rw [if_neg (h c (by simp)), partG_no b w (cur ++ [c]) rest (fun x hx => h x (by simp [hx]))]
    simp

theorem partG_two {b : UInt8} {w v : List UInt8} (hw : ∀ c ∈ w, c.toNat ≠ b.toNat) (hv : ∀ c ∈ v, c.toNat ≠ b.toNat) : partG b.toNat [] (w ++ b :: v) = [w, v] := by
  rw [partG_no _ w [] _ hw, List.nil_append]
  simp only [partG, if_true]
  have := partG_no b.toNat v [] [] hv
  rw [List.append_nil, List.nil_append] at this
  rw [this]; rfl

theorem partG_none {b : Nat} {s : List UInt8} (h : ∀ c ∈ s, c.toNat ≠ b) : partG b [] s = [s] := by
  have := partG_no b s [] [] h
  rw [List.append_nil, List.nil_append] at this
  rw [this]; rfl

theorem partG_first {b : UInt8} {w rest : List UInt8} (hw : ∀ c ∈ w, c.toNat ≠ b.toNat) : partG b.toNat [] (w ++ b :: rest) = w :: partG b.toNat [] rest := by
  rw [partG_no _ w [] _ hw, List.nil_append]
  simp only [partG, if_true]

/-! ### Hexadecimal numbers -/

def hexC (d : Nat) : UInt8 := UInt8.ofNat (if d < 10 then 48 + d else 87 + d)

def hexF : Nat → Nat → List UInt8
  | 0, _ => []
  | f + 1, n => if n < 16 then [hexC n] else hexF f (n / 16) ++ [hexC (n % 16)]

def hexS (n : Nat) : List UInt8 := hexF (n + 1) n

theorem hexF_more : ∀ (f g n : Nat), n < f → n < g → hexF f n = hexF g n
  | 0, _, _, h, _ => by omega
  | _ + 1, 0, _, _, h => by omega
  | f + 1, g + 1, n, h1, h2 => by
    simp only [hexF]
    split
    · rfl
    · rw [hexF_more f g (n / 16) (by omega) (by omega)]

theorem hexS_small {n : Nat} (h : n < 16) : hexS n = [hexC n] := by simp [hexS, hexF, h]

theorem hexS_step {n : Nat} (h : ¬ n < 16) : hexS n = hexS (n / 16) ++ [hexC (n % 16)] := by
  unfold hexS
  rw [hexF, if_neg h, hexF_more n (n / 16 + 1) (n / 16) (by omega) (by omega)]

theorem hexS_length (n : Nat) : ∀ k, n < 16 ^ (k + 1) → (hexS n).length ≤ k + 1 := by
  intro k
  induction k generalizing n with
  | zero => intro h; simp at h; rw [hexS_small h]; simp
  | succ k ih =>
    intro h
    by_cases hn : n < 16
    · rw [hexS_small hn]; simp
    · rw [hexS_step hn]
      have := ih (n / 16) (by rw [Nat.pow_succ] at h; omega)
      simp; omega

theorem hexS_len16 {n : Nat} (h : n < 18446744073709551616) : (hexS n).length ≤ 16 := hexS_length n 15 (by omega)

theorem hexC_toNat {d : Nat} (h : d < 16) : (hexC d).toNat = if d < 10 then 48 + d else 87 + d := by
  unfold hexC
  split <;> simp <;> omega

/-- A text with noughts ahead. -/
def padS (s : List UInt8) (k : Nat) : List UInt8 := List.replicate (k - s.length) 48 ++ s

/-- A text with blanks ahead. -/
def rightS (s : List UInt8) (k : Nat) : List UInt8 := List.replicate (k - s.length) 32 ++ s

theorem padS_step {s : List UInt8} {n : Nat} (h : s.length < n) : padS (48 :: s) n = padS s n := by
  unfold padS
  obtain ⟨k, hk⟩ : ∃ k, n - s.length = k + 1 := ⟨n - s.length - 1, by omega⟩
  rw [hk, show n - (48 :: s : List UInt8).length = k from by simp; omega, List.replicate_succ', List.append_assoc]; rfl

theorem padS_done {s : List UInt8} {n : Nat} (h : ¬ s.length < n) : padS s n = s := by
  unfold padS
  rw [show n - s.length = 0 from by omega]; rfl

theorem padS_len (s : List UInt8) (n : Nat) : (padS s n).length ≤ s.length + n := by unfold padS; rw [List.length_append, List.length_replicate]; omega

theorem rightS_step {s : List UInt8} {n : Nat} (h : s.length < n) : rightS (32 :: s) n = rightS s n := by
  unfold rightS
  obtain ⟨k, hk⟩ : ∃ k, n - s.length = k + 1 := ⟨n - s.length - 1, by omega⟩
  rw [hk, show n - (32 :: s : List UInt8).length = k from by simp; omega, List.replicate_succ', List.append_assoc]; rfl

theorem rightS_done {s : List UInt8} {n : Nat} (h : ¬ s.length < n) : rightS s n = s := by
  unfold rightS
  rw [show n - s.length = 0 from by omega]; rfl

theorem rightS_len (s : List UInt8) (n : Nat) : (rightS s n).length ≤ s.length + n := by unfold rightS; rw [List.length_append, List.length_replicate]; omega

def upB (c : UInt8) : UInt8 := if 97 ≤ c.toNat then UInt8.ofNat (c.toNat - 32) else c

/-- A number in large hexadecimal digits, at least so many. -/
def upS (n k : Nat) : List UInt8 := (padS (hexS n) k).map upB

theorem upS_len {n : Nat} (h : n < 18446744073709551616) (k : Nat) : (upS n k).length ≤ 16 + k := by
  unfold upS
  rw [List.length_map]
  have := padS_len (hexS n) k
  have := hexS_len16 h
  omega

/-- A large hexadecimal digit. -/
def addrC (c : UInt8) : Bool := decide (digitV c.toNat ≤ 15) && decide (c.toNat < 97)

theorem addrC_spec {c : UInt8} (h : addrC c = true) : (48 ≤ c.toNat ∧ c.toNat ≤ 57) ∨ (65 ≤ c.toNat ∧ c.toNat ≤ 70) := by
  unfold addrC at h
  simp only [Bool.and_eq_true, decide_eq_true_eq] at h
  obtain ⟨h1, h2⟩ := h
  unfold digitV at h1
  split at h1
  · omega
  · split at h1
    · omega
    · split at h1 <;> omega

theorem addrC_word {c : UInt8} (h : addrC c = true) : wordC c = true ∧ c.toNat ≠ 58 := by
  have := addrC_spec h
  refine ⟨?_, by omega⟩
  unfold wordC
  simp only [Bool.and_eq_true, decide_eq_true_eq]
  omega

theorem upB_hexC {d : Nat} (h : d < 16) : (upB (hexC d)).toNat = (if d < 10 then 48 + d else 55 + d) := by
  unfold upB
  rw [hexC_toNat h]
  by_cases hd : d < 10
  · rw [if_pos hd, if_pos hd, if_neg (by omega), hexC_toNat h, if_pos hd]
  · rw [if_neg hd, if_neg hd, if_pos (by omega)]
    simp; omega

theorem upB_digit {d : Nat} (h : d < 16) : digitV (upB (hexC d)).toNat = d ∧ addrC (upB (hexC d)) = true := by
  have h1 := upB_hexC h
  have h2 : digitV (upB (hexC d)).toNat = d := by
    rw [h1]; unfold digitV
    (repeat' split) <;> omega
  refine ⟨h2, ?_⟩
  unfold addrC
  rw [h2, h1]
  simp only [Bool.and_eq_true, decide_eq_true_eq]
  split <;> omega

def hexN (a : Nat) (s : List UInt8) : Nat := s.foldl (fun a c => a * 16 + digitV c.toNat) a

theorem hexN_nil (a : Nat) : hexN a [] = a := by unfold hexN; rw [List.foldl_nil]
theorem hexN_cons (a : Nat) (c : UInt8) (s : List UInt8) : hexN a (c :: s) = hexN (a * 16 + digitV c.toNat) s := by unfold hexN; rw [List.foldl_cons]
theorem hexN_append (s t : List UInt8) (a : Nat) : hexN a (s ++ t) = hexN (hexN a s) t := by unfold hexN; rw [List.foldl_append]

theorem hexN_ge : ∀ (s : List UInt8) (a : Nat), a ≤ hexN a s
  | [], a => by rw [hexN_nil]; exact Nat.le_refl _
  | c :: s, a => by rw [hexN_cons]; have := hexN_ge s (a * 16 + digitV c.toNat); omega

theorem hexN_noughts : ∀ k : Nat, hexN 0 (List.replicate k 48) = 0
  | 0 => by rw [List.replicate_zero, hexN_nil]
  | k + 1 => by rw [List.replicate_succ, hexN_cons]; exact hexN_noughts k

theorem hexS_hex (n : Nat) : hexN 0 ((hexS n).map upB) = n ∧ (∀ c ∈ (hexS n).map upB, addrC c = true) ∧ hexS n ≠ [] := by
  induction n using Nat.strongRecOn with
  | _ n ih =>
    by_cases h : n < 16
    · rw [hexS_small h]
      obtain ⟨h1, h2⟩ := upB_digit h
      refine ⟨?_, by simpa using h2, by simp⟩
      rw [List.map_cons, List.map_nil, hexN_cons, hexN_nil, h1]; omega
    · rw [hexS_step h]
      obtain ⟨g1, g2, g3⟩ := ih (n / 16) (by omega)
      obtain ⟨h1, h2⟩ := upB_digit (d := n % 16) (by omega)
      refine ⟨?_, ?_, by simp⟩
      · rw [List.map_append, hexN_append, g1, List.map_cons, List.map_nil, hexN_cons, hexN_nil, h1]; omega
      · intro c hc
        rw [List.map_append] at hc
        rcases List.mem_append.1 hc with hc | hc
        · exact g2 c hc
        · simp only [List.map_cons, List.map_nil, List.mem_singleton] at hc
          rw [hc]; exact h2

theorem upS_hex (n k : Nat) : hexN 0 (upS n k) = n ∧ (∀ c ∈ upS n k, addrC c = true) ∧ upS n k ≠ [] := by
  obtain ⟨h1, h2, h3⟩ := hexS_hex n
  have e : upS n k = List.replicate (k - (hexS n).length) 48 ++ (hexS n).map upB := by
    unfold upS padS
    rw [List.map_append, List.map_replicate]; rfl
  rw [e]
  refine ⟨by rw [hexN_append, hexN_noughts, h1], fun c hc => ?_, by simp [h3]⟩
  rcases List.mem_append.1 hc with hc | hc
  · rw [(List.mem_replicate.1 hc).2]; decide
  · exact h2 c hc

theorem numV_hex : ∀ (s : List UInt8) (a : Nat), (∀ c ∈ s, digitV c.toNat < 16) → hexN a s < 18446744073709551616 → numV 16 a s = some (hexN a s)
  | [], a, _, _ => by rw [hexN_nil]; rfl
  | c :: s, a, h, hb => by
    have h1 := h c (by simp)
    rw [hexN_cons] at hb ⊢
    have h2 := hexN_ge s (a * 16 + digitV c.toNat)
    simp only [numV]
    rw [if_neg (by omega)]
    exact numV_hex s _ (fun x hx => h x (by simp [hx])) hb

theorem numV_hexN : ∀ (s : List UInt8) (a m : Nat), numV 16 a s = some m → m = hexN a s ∧ ∀ c ∈ s, digitV c.toNat < 16
  | [], a, m, h => by simp only [numV, Option.some.injEq] at h; rw [hexN_nil]; exact ⟨h.symm, by simp⟩
  | c :: s, a, m, h => by
    simp only [numV] at h
    split at h
    · simp at h
    · rename_i hc
      obtain ⟨h1, h2⟩ := numV_hexN s _ m h
      rw [hexN_cons]
      refine ⟨h1, fun x hx => ?_⟩
      rcases List.mem_cons.1 hx with rfl | hx
      · omega
      · exact h2 x hx

/-- A hexadecimal number. -/
def hexV (s : List UInt8) : Option Nat := match numV 16 0 s with
  | some m => if s = [] then none else some m
  | none => none

theorem hexV_spec {s : List UInt8} {m : Nat} (h : hexV s = some m) : numV 16 0 s = some m ∧ s ≠ [] ∧ m < 18446744073709551616 ∧ m = hexN 0 s ∧ ∀ c ∈ s, digitV c.toNat < 16 := by
  unfold hexV at h
  split at h
  · rename_i v hv
    split at h <;> simp only [Option.some.injEq, reduceCtorEq] at h
    subst h
    rename_i hne
    obtain ⟨g1, g2⟩ := numV_hexN s 0 _ hv
    exact ⟨hv, hne, numV_lt (by omega) s 0 _ (by omega) hv, g1, g2⟩
  · simp at h

theorem hexV_upS {n k : Nat} (h : n < 18446744073709551616) : hexV (upS n k) = some n := by
  obtain ⟨h1, h2, h3⟩ := upS_hex n k
  unfold hexV
  rw [numV_hex (upS n k) 0 (fun c hc => by
    have := h2 c hc
    unfold addrC at this
    simp only [Bool.and_eq_true, decide_eq_true_eq] at this
    omega) (by rw [h1]; exact h), h1]
  simp [h3]

def hexsV : List (List UInt8) → Option (List Nat)
  | [] => some []
  | s :: l => match hexV s with
    | some m => match hexsV l with
      | some ms => some (m :: ms)
      | none => none
    | none => none

end Go.Ev

set_option linter.unusedSimpArgs false
set_option linter.unusedVariables false
namespace Go.Ev
open Go.Proofs

def skHeadL : List UInt8 := [32, 32, 115, 108, 32, 32, 108, 111, 99, 97, 108, 95, 97, 100, 100, 114, 101, 115, 115, 32, 114, 101, 109, 95, 97, 100, 100, 114, 101, 115, 115, 32, 32, 32, 115, 116, 32, 116, 120, 95, 113, 117, 101, 117, 101, 32, 114, 120, 95, 113, 117, 101, 117, 101, 32, 116, 114, 32, 116, 109, 45, 62, 119, 104, 101, 110, 32, 114, 101, 116, 114, 110, 115, 109, 116, 32, 32, 32, 117, 105, 100, 32, 32, 116, 105, 109, 101, 111, 117, 116, 32, 105, 110, 111, 100, 101]

def skHead : List UInt8 := skHeadL ++ [10]

def addrOk (s : List UInt8) (n : Nat) : Bool := (decide (s.length = 8) || decide (s.length = 32)) && decide (s.length = n) && s.all addrC

/-- Is the row a socket? -/
def skOk (drops : Bool) (r : RowD) : Bool := match r.N, r.S with
  | [n0, n1, n2, n3, n4, n5, n6, n7, n8], [a, b] =>
    decide (n0 < 2147483648) && decide (n1 < 65536) && decide (n2 < 65536) && decide (1 ≤ n3) && decide (n3 ≤ 12) && decide (n4 < 4294967296) && decide (n5 < 4294967296) && decide (n6 < 4294967296) &&
      decide (n7 < 9223372036854775808) && decide (n8 < 9223372036854775808) && (drops || decide (n8 = 0)) && (r.name == []) && addrOk a a.length && addrOk b a.length
  | _, _ => false

structure SkR (drops : Bool) (r : RowD) (n0 n1 n2 n3 n4 n5 n6 n7 n8 : Nat) (a b : List UInt8) : Prop where
  hN : r.N = [n0, n1, n2, n3, n4, n5, n6, n7, n8]
  hS : r.S = [a, b]
  hn : r.name = []
  h0 : n0 < 2147483648
  h1 : n1 < 65536
  h2 : n2 < 65536
  h3 : 1 ≤ n3 ∧ n3 ≤ 12
  h4 : n4 < 4294967296
  h5 : n5 < 4294967296
  h6 : n6 < 4294967296
  h7 : n7 < 9223372036854775808
  h8 : n8 < 9223372036854775808
  hd : drops = true ∨ n8 = 0
  ha : a.length = 8 ∨ a.length = 32
  hb : b.length = a.length
  ca : ∀ c ∈ a, addrC c = true
  cb : ∀ c ∈ b, addrC c = true

theorem skOk_spec {drops : Bool} {r : RowD} (h : skOk drops r = true) : ∃ n0 n1 n2 n3 n4 n5 n6 n7 n8 a b, SkR drops r n0 n1 n2 n3 n4 n5 n6 n7 n8 a b := by
  unfold skOk at h
  split at h
  · rename_i n0 n1 n2 n3 n4 n5 n6 n7 n8 a b hN hS
    simp only [addrOk, Bool.and_eq_true, Bool.or_eq_true, decide_eq_true_eq, beq_iff_eq, List.all_eq_true] at h
    obtain ⟨⟨⟨⟨⟨⟨⟨⟨⟨⟨⟨⟨⟨h0, h1⟩, h2⟩, h3⟩, h3'⟩, h4⟩, h5⟩, h6⟩, h7⟩, h8⟩, hd⟩, hn⟩, ⟨ha, _⟩, ca⟩, ⟨_, hb⟩, cb⟩ := h
    exact ⟨n0, n1, n2, n3, n4, n5, n6, n7, n8, a, b, hN, hS, hn, h0, h1, h2, ⟨h3, h3'⟩, h4, h5, h6, h7, h8, hd, ha, hb, ca, cb⟩
  · simp at h

def skLast (drops : Bool) (n8 : Nat) : List UInt8 := if drops then [32, 50, 32, 48, 48, 48, 48, 48, 48, 48, 48, 48, 48, 48, 48, 48, 48, 48, 48, 32] ++ decS n8 else [32, 49, 32, 48, 48, 48, 48, 48, 48, 48, 48, 48, 48, 48, 48, 48, 48, 48, 48, 32, 49, 48, 48, 32, 48, 32, 48, 32, 49, 48, 32, 48]

/-- A socket's line. -/
def skBody (drops : Bool) (r : RowD) : List UInt8 := match r.N, r.S with
  | [n0, n1, n2, n3, n4, n5, n6, n7, n8], [a, b] =>
    rightS (decS n0) 4 ++ ([58, 32] ++ (a ++ ([58] ++ (upS n1 4 ++ ([32] ++ (b ++ ([58] ++ (upS n2 4 ++ ([32] ++ (upS n3 2 ++ ([32] ++ (upS n4 8 ++ ([58] ++ (upS n5 8 ++
      ([32, 48, 48, 58, 48, 48, 48, 48, 48, 48, 48, 48, 32, 48, 48, 48, 48, 48, 48, 48, 48, 32] ++ (rightS (decS n6) 5 ++ ([32, 32, 32, 32, 32, 32, 32, 32, 48, 32] ++ (decS n7 ++ skLast drops n8))))))))))))))))))
  | _, _ => []

def skText (drops : Bool) (rs : List RowD) : List UInt8 := skHead ++ (rs.map fun r => skBody drops r ++ [10]).flatten

/-! ### What the reference reads -/

def endsC (s : List UInt8) : Bool := decide (1 ≤ s.length) && (s.drop (s.length - 1) == [58])

def skV (f0 f1 f2 f3 f4 f7 f9 last : List UInt8) : Option RowD :=
  match partG 58 [] f1, partG 58 [] f2, partG 58 [] f4 with
  | [a0, a1], [b0, b1], [q0, q1] => match decsV [f0.take (f0.length - 1), f7, f9, last] with
    | some [d0, d1, d2, d3] => match hexsV [a1, b1, f3, q0, q1] with
      | some [h0, h1, h2, h3, h4] => some ⟨[], [d0, h0, h1, h2, h3, h4, d1, d2, d3], [a0, b0]⟩
      | _ => none
    | _ => none
  | _, _, _ => none

def skFld (f : List (List UInt8)) (i : Nat) : List UInt8 := f.getD i []

def skLineV (drops : Bool) (f : List (List UInt8)) : Option RowD :=
  if f.length = (if drops then 13 else 17) ∧ endsC (skFld f 0) = true then
    skV (skFld f 0) (skFld f 1) (skFld f 2) (skFld f 3) (skFld f 4) (skFld f 7) (skFld f 9) (if drops then skFld f 12 else [48])
  else none

def skTabV (drops : Bool) : List (List UInt8) → Option (List RowD)
  | [] => some []
  | s :: l => match skLineV drops (fieldsL s) with
    | some r => match skTabV drops l with
      | some rs => some (r :: rs)
      | none => none
    | none => none

/-- What the reference reads, where it tells. -/
def skRead (drops : Bool) (s : List UInt8) : Option (List RowD) :=
  if s.all plainC = true ∧ s.take skHead.length = skHead then match skTabV drops (linesL (s.drop skHead.length)) with
    | some rs => if rs.all (skOk drops) = true then some rs else none
    | none => none
  else none

/-! ### What is written is read -/

theorem fieldG_right {w rest : List UInt8} {n : Nat} : fieldG [] (rightS w n ++ rest) = fieldG [] (w ++ rest) := by
  unfold rightS
  rw [List.append_assoc]
  exact fieldG_skip _ _

theorem decS_word (n : Nat) : decS n ≠ [] ∧ ∀ c ∈ decS n, blankC c = false ∧ c.toNat ≠ 58 ∧ c.toNat ≠ 10 := by
  obtain ⟨_, h1, h2⟩ := decS_dig n
  refine ⟨h2, fun c hc => ?_⟩
  have := digC_iff.1 (h1 c hc)
  refine ⟨(digC_blank (h1 c hc)).1, by omega, by omega⟩

theorem upS_word (n k : Nat) : upS n k ≠ [] ∧ ∀ c ∈ upS n k, blankC c = false ∧ c.toNat ≠ 58 := by
  obtain ⟨_, h1, h2⟩ := upS_hex n k
  refine ⟨h2, fun c hc => ?_⟩
  obtain ⟨g1, g2⟩ := addrC_word (h1 c hc)
  exact ⟨(wordC_blank g1).1, g2⟩

/-- Two words and a colon between. -/
def two (a b : List UInt8) : List UInt8 := a ++ ([58] ++ b)

theorem two_word {a b : List UInt8} (ha : ∀ c ∈ a, blankC c = false) (hb : ∀ c ∈ b, blankC c = false) : two a b ≠ [] ∧ ∀ c ∈ two a b, blankC c = false := by
  refine ⟨by simp [two], fun c hc => ?_⟩
  unfold two at hc
  rcases List.mem_append.1 hc with hc | hc
  · exact ha c hc
  · rcases List.mem_append.1 hc with hc | hc
    · obtain rfl := List.mem_singleton.1 hc; decide
    · exact hb c hc

theorem fieldG_word1 {w rest : List UInt8} (h : w ≠ [] ∧ ∀ c ∈ w, blankC c = false) : fieldG [] (w ++ ([32] ++ rest)) = w :: fieldG [] rest :=
  fieldG_sep h.1 h.2 (by decide)

theorem skLast_fields (drops : Bool) (n7 n8 : Nat) : fieldG [] (decS n7 ++ skLast drops n8) = decS n7 :: (if drops then [[50], List.replicate 16 48, decS n8] else [[49], List.replicate 16 48, [49, 48, 48], [48], [48], [49, 48], [48]]) := by
  have h7 := decS_word n7
  have h8 := decS_word n8
  cases drops with
  | true =>
    simp only [skLast, if_true]
    rw [show ([32, 50, 32, 48, 48, 48, 48, 48, 48, 48, 48, 48, 48, 48, 48, 48, 48, 48, 48, 32] ++ decS n8 : List UInt8) = [32] ++ ([50] ++ ([32] ++ (List.replicate 16 48 ++ ([32] ++ decS n8)))) from rfl]
    rw [fieldG_word1 ⟨h7.1, fun c hc => (h7.2 c hc).1⟩, fieldG_word1 ⟨by decide, by decide⟩, fieldG_word1 ⟨by decide, by decide⟩, fieldG_last h8.1 (fun c hc => (h8.2 c hc).1)]
  | false =>
    simp only [skLast, Bool.false_eq_true, if_false]
    rw [show ([32, 49, 32, 48, 48, 48, 48, 48, 48, 48, 48, 48, 48, 48, 48, 48, 48, 48, 48, 32, 49, 48, 48, 32, 48, 32, 48, 32, 49, 48, 32, 48] : List UInt8) = [32] ++ ([49] ++ ([32] ++ (List.replicate 16 48 ++ ([32] ++ ([49, 48, 48] ++ ([32] ++ ([48] ++ ([32] ++ ([48] ++ ([32] ++ ([49, 48] ++ ([32] ++ [48])))))))))))) from rfl]
    rw [fieldG_word1 ⟨h7.1, fun c hc => (h7.2 c hc).1⟩, fieldG_word1 ⟨by decide, by decide⟩, fieldG_word1 ⟨by decide, by decide⟩, fieldG_word1 ⟨by decide, by decide⟩, fieldG_word1 ⟨by decide, by decide⟩, fieldG_word1 ⟨by decide, by decide⟩, fieldG_word1 ⟨by decide, by decide⟩, fieldG_last (by decide) (by decide)]

theorem skBody_fields {drops : Bool} {r : RowD} {n0 n1 n2 n3 n4 n5 n6 n7 n8 : Nat} {a b : List UInt8} (h : SkR drops r n0 n1 n2 n3 n4 n5 n6 n7 n8 a b) :
    fieldsL (skBody drops r) = (decS n0 ++ [58]) :: two a (upS n1 4) :: two b (upS n2 4) :: upS n3 2 :: two (upS n4 8) (upS n5 8) :: [48, 48, 58, 48, 48, 48, 48, 48, 48, 48, 48] :: [48, 48, 48, 48, 48, 48, 48, 48] :: decS n6 :: [48] :: decS n7 :: (if drops then [[50], List.replicate 16 48, decS n8] else [[49], List.replicate 16 48, [49, 48, 48], [48], [48], [49, 48], [48]]) := by
  rw [fieldsL_eq]
  unfold skBody
  simp only [h.hN, h.hS]
  have bl : ∀ {n : Nat}, ∀ c ∈ decS n, blankC c = false := fun c hc => ((decS_word _).2 c hc).1
  have bu : ∀ {n k : Nat}, ∀ c ∈ upS n k, blankC c = false := fun c hc => ((upS_word _ _).2 c hc).1
  have ba : ∀ c ∈ a, blankC c = false := fun c hc => (wordC_blank (addrC_word (h.ca c hc)).1).1
  have bb : ∀ c ∈ b, blankC c = false := fun c hc => (wordC_blank (addrC_word (h.cb c hc)).1).1
  rw [fieldG_right]
  rw [show ∀ x : List UInt8, decS n0 ++ ([58, 32] ++ x) = (decS n0 ++ [58]) ++ ([32] ++ x) from fun x => by simp]
  rw [fieldG_word1 ⟨by simp, fun c hc => by
    rcases List.mem_append.1 hc with hc | hc
    · exact bl c hc
    · obtain rfl := List.mem_singleton.1 hc; decide⟩]
  rw [show ∀ u v x : List UInt8, u ++ ([58] ++ (v ++ x)) = two u v ++ x from fun u v x => by simp [two]]
  rw [fieldG_word1 (two_word ba bu)]
  rw [show ∀ u v x : List UInt8, u ++ ([58] ++ (v ++ x)) = two u v ++ x from fun u v x => by simp [two]]
  rw [fieldG_word1 (two_word bb bu), fieldG_word1 ⟨(upS_word _ _).1, bu⟩]
  rw [show ∀ u v x : List UInt8, u ++ ([58] ++ (v ++ x)) = two u v ++ x from fun u v x => by simp [two]]
  rw [show ∀ x : List UInt8, ([32, 48, 48, 58, 48, 48, 48, 48, 48, 48, 48, 48, 32, 48, 48, 48, 48, 48, 48, 48, 48, 32] ++ x) = [32] ++ ([48, 48, 58, 48, 48, 48, 48, 48, 48, 48, 48] ++ ([32] ++ ([48, 48, 48, 48, 48, 48, 48, 48] ++ ([32] ++ x)))) from fun x => rfl]
  rw [fieldG_word1 (two_word bu bu), fieldG_word1 ⟨by decide, by decide⟩, fieldG_word1 ⟨by decide, by decide⟩, fieldG_right]
  rw [show ∀ x : List UInt8, ([32, 32, 32, 32, 32, 32, 32, 32, 48, 32] ++ x) = [32] ++ (List.replicate 7 32 ++ ([48] ++ ([32] ++ x))) from fun x => rfl]
  rw [fieldG_word1 ⟨(decS_word _).1, bl⟩, fieldG_skip, fieldG_word1 ⟨by decide, by decide⟩, skLast_fields]

theorem decsV_dec : ∀ {ns : List Nat}, (∀ n ∈ ns, n < 18446744073709551616) → decsV (ns.map decS) = some ns
  | [], _ => rfl
  | n :: ns, h => by
    have ih := decsV_dec (ns := ns) (fun m hm => h m (List.mem_cons_of_mem _ hm))
    simp only [List.map_cons, decsV, decV_decS (h n (by simp)), ih]

theorem two_parts {a b : List UInt8} (ha : ∀ c ∈ a, c.toNat ≠ 58) (hb : ∀ c ∈ b, c.toNat ≠ 58) : partG 58 [] (two a b) = [a, b] :=
  partG_two (b := 58) ha hb

theorem skLine_body {drops : Bool} {r : RowD} (h : skOk drops r = true) : skLineV drops (fieldsL (skBody drops r)) = some r := by
  obtain ⟨n0, n1, n2, n3, n4, n5, n6, n7, n8, a, b, hs⟩ := skOk_spec h
  have e0 : endsC (decS n0 ++ [58]) = true := by
    unfold endsC
    rw [List.length_append, show (decS n0).length + [(58 : UInt8)].length - 1 = (decS n0).length from by simp, List.drop_left]
    simp
  have e1 : (decS n0 ++ [58]).take ((decS n0 ++ [58]).length - 1) = decS n0 := by
    rw [List.length_append, show (decS n0).length + [(58 : UInt8)].length - 1 = (decS n0).length from by simp, List.take_left]
  have cu : ∀ {n k : Nat}, ∀ c ∈ upS n k, c.toNat ≠ 58 := fun c hc => ((upS_word _ _).2 c hc).2
  have ca : ∀ c ∈ a, c.toNat ≠ 58 := fun c hc => (addrC_word (hs.ca c hc)).2
  have cb : ∀ c ∈ b, c.toNat ≠ 58 := fun c hc => (addrC_word (hs.cb c hc)).2
  have hd : ∀ {m : Nat}, m < 18446744073709551616 → decsV [decS n0, decS n6, decS n7, decS m] = some [n0, n6, n7, m] := fun {m} hm => by
    refine decsV_dec (ns := [n0, n6, n7, m]) fun n hn => ?_
    have := hs.h0; have := hs.h6; have := hs.h7
    simp only [List.mem_cons, List.not_mem_nil, or_false] at hn
    rcases hn with rfl | rfl | rfl | rfl <;> omega
  have hx : hexsV [upS n1 4, upS n2 4, upS n3 2, upS n4 8, upS n5 8] = some [n1, n2, n3, n4, n5] := by
    have := hs.h1; have := hs.h2; have := hs.h3; have := hs.h4; have := hs.h5
    simp only [hexsV, hexV_upS (show n1 < 18446744073709551616 by omega), hexV_upS (show n2 < 18446744073709551616 by omega), hexV_upS (show n3 < 18446744073709551616 by omega), hexV_upS (show n4 < 18446744073709551616 by omega), hexV_upS (show n5 < 18446744073709551616 by omega)]
  have h8 := hs.h8
  have key : ∀ m, m < 18446744073709551616 → skV (decS n0 ++ [58]) (two a (upS n1 4)) (two b (upS n2 4)) (upS n3 2) (two (upS n4 8) (upS n5 8)) (decS n6) (decS n7) (decS m) = some ⟨[], [n0, n1, n2, n3, n4, n5, n6, n7, m], [a, b]⟩ := by
    intro m hm
    unfold skV
    simp only [two_parts ca cu, two_parts cb cu, two_parts cu cu, e1, hd hm, hx]
  have hr : r = ⟨[], [n0, n1, n2, n3, n4, n5, n6, n7, n8], [a, b]⟩ := by
    obtain ⟨nm, N, S⟩ := r
    have h1 := hs.hN; have h2 := hs.hS; have h3 := hs.hn
    simp only at h1 h2 h3
    rw [h1, h2, h3]
  unfold skLineV
  rw [skBody_fields hs]
  cases drops with
  | true =>
    simp only [skFld, List.length_cons, List.length_nil, if_true, List.getD_cons_zero, List.getD_cons_succ]
    rw [if_pos ⟨trivial, e0⟩, key n8 (by omega), ← hr]
  | false =>
    have h0 : n8 = 0 := by
      rcases hs.hd with e | e
      · cases e
      · exact e
    simp only [skFld, List.length_cons, List.length_nil, Bool.false_eq_true, if_false, List.getD_cons_zero, List.getD_cons_succ]
    rw [if_pos ⟨trivial, e0⟩]
    have := key 0 (by omega)
    rw [show decS 0 = [48] from by rw [decS_small (by omega)]; rfl] at this
    rw [this, hr, h0]

theorem skTab_bodies {drops : Bool} : ∀ {rs : List RowD}, (∀ r ∈ rs, skOk drops r = true) → skTabV drops (rs.map (skBody drops)) = some rs
  | [], _ => rfl
  | r :: rs, h => by
    simp only [List.map_cons, skTabV, skLine_body (h r (by simp)), skTab_bodies (rs := rs) (fun q hq => h q (by simp [hq]))]

theorem plain_word {c : UInt8} (h : wordC c = true) : c.toNat ≠ 10 ∧ plainC c = true := ⟨(wordC_blank h).2, wordC_plain h⟩

theorem skBody_chars {drops : Bool} {r : RowD} (h : skOk drops r = true) : ∀ c ∈ skBody drops r, c.toNat ≠ 10 ∧ plainC c = true := by
  obtain ⟨n0, n1, n2, n3, n4, n5, n6, n7, n8, a, b, hs⟩ := skOk_spec h
  have bl : ∀ {n : Nat}, ∀ c ∈ decS n, c.toNat ≠ 10 ∧ plainC c = true := fun {n} c hc => by
    obtain ⟨_, g1, _⟩ := decS_dig n
    exact ⟨(digC_blank (g1 c hc)).2, digC_plain (g1 c hc)⟩
  have bu : ∀ {n k : Nat}, ∀ c ∈ upS n k, c.toNat ≠ 10 ∧ plainC c = true := fun {n k} c hc => by
    obtain ⟨_, g1, _⟩ := upS_hex n k
    exact plain_word (addrC_word (g1 c hc)).1
  have ba : ∀ c ∈ a, c.toNat ≠ 10 ∧ plainC c = true := fun c hc => plain_word (addrC_word (hs.ca c hc)).1
  have bb : ∀ c ∈ b, c.toNat ≠ 10 ∧ plainC c = true := fun c hc => plain_word (addrC_word (hs.cb c hc)).1
  have br : ∀ {n k : Nat}, ∀ c ∈ rightS (decS n) k, c.toNat ≠ 10 ∧ plainC c = true := fun {n k} c hc => by
    unfold rightS at hc
    rcases List.mem_append.1 hc with hc | hc
    · rw [(List.mem_replicate.1 hc).2]; decide
    · exact bl c hc
  have lit : ∀ l : List UInt8, l.all (fun c => decide (c.toNat ≠ 10) && plainC c) = true → ∀ c ∈ l, c.toNat ≠ 10 ∧ plainC c = true := fun l hl c hc => by
    have := List.all_eq_true.1 hl c hc
    simpa using this
  have bk : ∀ c ∈ skLast drops n8, c.toNat ≠ 10 ∧ plainC c = true := by
    unfold skLast
    cases drops with
    | true =>
      simp only [if_true]
      intro c hc
      rcases List.mem_append.1 hc with hc | hc
      · exact lit _ (by decide) c hc
      · exact bl c hc
    | false => simp only [Bool.false_eq_true, if_false]; exact lit _ (by decide)
  have app : ∀ {x y : List UInt8}, (∀ c ∈ x, c.toNat ≠ 10 ∧ plainC c = true) → (∀ c ∈ y, c.toNat ≠ 10 ∧ plainC c = true) → ∀ c ∈ x ++ y, c.toNat ≠ 10 ∧ plainC c = true := fun hx hy c hc => by
    rcases List.mem_append.1 hc with hc | hc
    · exact hx c hc
    · exact hy c hc
  unfold skBody
  simp only [hs.hN, hs.hS]
  exact app br (app (lit _ (by decide)) (app ba (app (lit _ (by decide)) (app bu (app (lit _ (by decide)) (app bb (app (lit _ (by decide)) (app bu (app (lit _ (by decide)) (app bu (app (lit _ (by decide)) (app bu (app (lit _ (by decide)) (app bu (app (lit _ (by decide)) (app br (app (lit _ (by decide)) (app bl bk))))))))))))))))))

theorem skText_lines {drops : Bool} {rs : List RowD} (h : ∀ r ∈ rs, skOk drops r = true) : linesL ((rs.map fun r => skBody drops r ++ [10]).flatten) = rs.map (skBody drops) := by
  rw [linesL_eq]
  have e : (rs.map fun r => skBody drops r ++ [10]) = (rs.map (skBody drops)).map fun l => l ++ [10] := by rw [List.map_map]; rfl
  rw [e]
  exact lineG_lines _ (fun l hl c hc => by
    obtain ⟨r, hr, rfl⟩ := List.mem_map.1 hl
    exact (skBody_chars (h r hr) c hc).1)

theorem skRead_text {drops : Bool} {rs : List RowD} (h : ∀ r ∈ rs, skOk drops r = true) : skRead drops (skText drops rs) = some rs := by
  unfold skRead
  have hp : (skText drops rs).all plainC = true := by
    rw [List.all_eq_true]
    intro c hc
    unfold skText at hc
    rcases List.mem_append.1 hc with hc | hc
    · have : skHead.all plainC = true := by decide
      exact List.all_eq_true.1 this c hc
    · obtain ⟨l, hl, hcl⟩ := List.mem_flatten.1 hc
      obtain ⟨r, hr, rfl⟩ := List.mem_map.1 hl
      rcases List.mem_append.1 hcl with hcl | hcl
      · exact (skBody_chars (h r hr) c hcl).2
      · obtain rfl := List.mem_singleton.1 hcl; decide
  have ht : (skText drops rs).take skHead.length = skHead := by unfold skText; rw [List.take_left]
  have hdp : (skText drops rs).drop skHead.length = (rs.map fun r => skBody drops r ++ [10]).flatten := by unfold skText; rw [List.drop_left]
  rw [if_pos ⟨hp, ht⟩, hdp, skText_lines h, skTab_bodies h]
  have : rs.all (skOk drops) = true := List.all_eq_true.2 h
  simp only [this, if_true]

end Go.Ev

set_option linter.unusedSimpArgs false
set_option linter.unusedVariables false
namespace Go.Ev
open Go.Proofs

/-! ### Small letters -/

def S135 (F : List SV → Option AV) : Prop := ∀ c : UInt8, 10 ≤ digitV c.toNat → digitV c.toNat < 16 → F [.int .u8 (c.toNat : Int)] = some (.sv (.int .u8 ((digitV c.toNat + 87 : Nat) : Int)))

theorem hexLetter {c : Nat} (h : 10 ≤ digitV c) (h2 : digitV c < 16) : c = 65 ∨ c = 66 ∨ c = 67 ∨ c = 68 ∨ c = 69 ∨ c = 70 ∨ c = 97 ∨ c = 98 ∨ c = 99 ∨ c = 100 ∨ c = 101 ∨ c = 102 := by
  unfold digitV at h h2
  (repeat' split at h) <;> (repeat' split at h2) <;> omega

theorem ev135 (E : Env) (h : E.code 217 = some c135) : S135 (autoF E 217) := by
  intro c h1 h2
  refine autoF_sv (n := 1) ?_ rfl
  unfold evP
  simp only [h]
  generalize c.toNat = k at h1 h2 ⊢
  rcases hexLetter h1 h2 with rfl | rfl | rfl | rfl | rfl | rfl | rfl | rfl | rfl | rfl | rfl | rfl <;> kernel_rfl

/-! ### Numbers -/

set_option maxRecDepth 100000 in
set_option maxHeartbeats 4000000 in
theorem loop125b (E : Env) (cf : CallF) (b8 : Bool) (s0 s : List UInt8) (hs : s.length < 1000000000000) (m : Nat) :
    ∀ (rest pre : List UInt8) (a k : Nat), s = pre ++ rest → (∀ c ∈ rest, digC c = true) → digN a rest < 18446744073709551616 → rest.length < k →
      rounds (evC E cf m b125_0) k { tm := [.sv .undef, .sv (.int .i64 10)] ++ List.replicate 6 (.sv .undef) ++ [.sv (.bool b8), .sv (.str s0), .sv (.int .u64 1844674407370955162), .sv (.int .u64 18446744073709551615), .sv (.bool false), .sv (.int .u64 a)] ++ List.replicate 85 (.sv .undef) ++ [.sv (.sl (bytesSV s)), .sv (.int .i64 s.length), .sv (.int .i64 pre.length)] ++ List.replicate 70 (.sv .undef), lz := none, bx := [], df := [] } =
        some (.exit 3, { tm := List.replicate 9 (.sv .undef) ++ [.sv (.str s0), .sv .undef, .sv .undef, .sv (.bool false), .sv (.int .u64 (digN a rest : Nat))] ++ List.replicate 158 (.sv .undef), lz := none, bx := [], df := [] }) := by
  intro rest
  induction rest with
  | nil =>
    intro pre a k hsp hr ha hk
    obtain ⟨k, rfl⟩ : ∃ k', k = k' + 1 := ⟨k - 1, by omega⟩
    have hlt : ¬ (pre.length < s.length) := by rw [hsp]; simp
    refine rounds_out ?_ (by simp)
    simp [b125_0, List.replicate, hlt, digN_nil]
  | cons c rest ih =>
    intro pre a k hsp hr ha hk
    obtain ⟨k, rfl⟩ : ∃ k', k = k' + 1 := ⟨k - 1, by omega⟩
    have hlt : pre.length < s.length := by rw [hsp]; simp
    have hsl := congrArg List.length hsp
    simp only [List.length_append, List.length_cons] at hsl
    have hc : ∀ h : pre.length < (bytesSV s).length, (bytesSV s)[pre.length]'h = .int .u8 (c.toNat : Int) := by subst hsp; simp [bytesSV]
    have hw2 : IntKind.i64.wrap ((pre.length : Int) + 1) = ((pre ++ [c]).length : Int) := by rw [IntKind.wrap_i64]; simp; omega
    obtain ⟨d1, d2⟩ := digC_iff.1 (hr c (by simp))
    have hs8 : IntKind.u8.wrap ((c.toNat : Int) - 48) = ((dgt c : Nat) : Int) := by rw [IntKind.wrap_u8]; unfold dgt; omega
    have hd9 : dgt c ≤ 9 := by unfold dgt; omega
    have e95 : ((c.toNat : Int) == 95) = false := by rw [Bool.eq_false_iff]; simp; omega
    have e48 : (48 : Int) ≤ (c.toNat : Int) := by omega
    have e57 : (c.toNat : Int) ≤ 57 := by omega
    rw [digN_cons] at ha ⊢
    have hge := digN_ge rest (a * 10 + dgt c)
    generalize dgt c = d at *
    have h10 : ¬ (10 : Int) ≤ (d : Int) := by omega
    have hcut : ¬ (1844674407370955162 : Int) ≤ (a : Int) := by omega
    have hw8 : IntKind.u8.wrap 10 = 10 := by rw [IntKind.wrap_u8]; omega
    have hw64 : IntKind.u64.wrap 10 = 10 := by rw [IntKind.wrap_u64]; omega
    have hw3 : IntKind.u64.wrap (d : Int) = (d : Int) := by rw [IntKind.wrap_u64]; omega
    have hw4 : IntKind.u64.wrap ((a : Int) * 10) = ((a * 10 : Nat) : Int) := by rw [IntKind.wrap_u64]; omega
    have hw5 : IntKind.u64.wrap (((a * 10 : Nat) : Int) + (d : Int)) = ((a * 10 + d : Nat) : Int) := by rw [IntKind.wrap_u64]; omega
    have q1 : ¬ (((a * 10 + d : Nat) : Int) < ((a * 10 : Nat) : Int)) := by omega
    have q2 : ¬ ((18446744073709551615 : Int) < ((a * 10 + d : Nat) : Int)) := by omega
    have he := ih (pre ++ [c]) (a * 10 + d) k (by rw [hsp]; simp) (fun x hx => hr x (by simp [hx])) ha (by simp at hk; omega)
    rw [← he]
    refine rounds_step ?_
    generalize (a * 10 + d) = a2 at *
    generalize (a * 10) = a1 at *
    simp [b125_0, List.replicate, hlt, bytesSV_length, hc, hs8, e95, e48, e57, h10, hcut, hw8, hw64, hw2, hw3, hw4, hw5, q1, q2]

set_option maxRecDepth 100000 in
set_option maxHeartbeats 4000000 in
theorem loop125h (E : Env) (cf : CallF) (h135 : Has E 217 S135) (s0 s : List UInt8) (hs : s.length < 1000000000000) (m : Nat) :
    ∀ (rest pre : List UInt8) (a k : Nat), s = pre ++ rest → (∀ c ∈ rest, digitV c.toNat < 16) → hexN a rest < 18446744073709551616 → rest.length < k →
      rounds (evC E cf m b125_0) k { tm := [.sv .undef, .sv (.int .i64 16)] ++ List.replicate 6 (.sv .undef) ++ [.sv (.bool false), .sv (.str s0), .sv (.int .u64 1152921504606846976), .sv (.int .u64 18446744073709551615), .sv (.bool false), .sv (.int .u64 a)] ++ List.replicate 85 (.sv .undef) ++ [.sv (.sl (bytesSV s)), .sv (.int .i64 s.length), .sv (.int .i64 pre.length)] ++ List.replicate 70 (.sv .undef), lz := none, bx := [], df := [] } =
        some (.exit 3, { tm := List.replicate 9 (.sv .undef) ++ [.sv (.str s0), .sv .undef, .sv .undef, .sv (.bool false), .sv (.int .u64 (hexN a rest : Nat))] ++ List.replicate 158 (.sv .undef), lz := none, bx := [], df := [] }) := by
  obtain ⟨F, hp, hF⟩ := h135
  intro rest
  induction rest with
  | nil =>
    intro pre a k hsp hr ha hk
    obtain ⟨k, rfl⟩ : ∃ k', k = k' + 1 := ⟨k - 1, by omega⟩
    have hlt : ¬ (pre.length < s.length) := by rw [hsp]; simp
    refine rounds_out ?_ (by simp)
    simp [b125_0, List.replicate, hlt, hexN_nil]
  | cons c rest ih =>
    intro pre a k hsp hr ha hk
    obtain ⟨k, rfl⟩ : ∃ k', k = k' + 1 := ⟨k - 1, by omega⟩
    have hlt : pre.length < s.length := by rw [hsp]; simp
    have hsl := congrArg List.length hsp
    simp only [List.length_append, List.length_cons] at hsl
    have hc : ∀ h : pre.length < (bytesSV s).length, (bytesSV s)[pre.length]'h = .int .u8 (c.toNat : Int) := by subst hsp; simp [bytesSV]
    have hw2 : IntKind.i64.wrap ((pre.length : Int) + 1) = ((pre ++ [c]).length : Int) := by rw [IntKind.wrap_i64]; simp; omega
    have hd16 := hr c (by simp)
    have hFc := hF c
    rw [hexN_cons] at ha ⊢
    have hge := hexN_ge rest (a * 16 + digitV c.toNat)
    have h10 : ¬ (16 : Int) ≤ (digitV c.toNat : Int) := by omega
    have hcut : ¬ (1152921504606846976 : Int) ≤ (a : Int) := by omega
    have hw8 : IntKind.u8.wrap 16 = 16 := by rw [IntKind.wrap_u8]; omega
    have hw64 : IntKind.u64.wrap 16 = 16 := by rw [IntKind.wrap_u64]; omega
    have hw3 : IntKind.u64.wrap (digitV c.toNat : Int) = (digitV c.toNat : Int) := by rw [IntKind.wrap_u64]; omega
    have hw4 : IntKind.u64.wrap ((a : Int) * 16) = ((a * 16 : Nat) : Int) := by rw [IntKind.wrap_u64]; omega
    have hw5 : IntKind.u64.wrap (((a * 16 : Nat) : Int) + (digitV c.toNat : Int)) = ((a * 16 + digitV c.toNat : Nat) : Int) := by rw [IntKind.wrap_u64]; omega
    have q1 : ¬ (((a * 16 + digitV c.toNat : Nat) : Int) < ((a * 16 : Nat) : Int)) := by omega
    have q2 : ¬ ((18446744073709551615 : Int) < ((a * 16 + digitV c.toNat : Nat) : Int)) := by omega
    have he := ih (pre ++ [c]) (a * 16 + digitV c.toNat) k (by rw [hsp]; simp) (fun x hx => hr x (by simp [hx])) ha (by simp at hk; omega)
    rw [← he]
    refine rounds_step ?_
    by_cases hlet : 10 ≤ digitV c.toNat
    · have hFv := hFc hlet hd16
      have hl := hexLetter hlet hd16
      have e95 : ((c.toNat : Int) == 95) = false := by rw [Bool.eq_false_iff]; simp; omega
      have e48 : (48 : Int) ≤ (c.toNat : Int) := by omega
      have e57 : ¬ (c.toNat : Int) ≤ 57 := by omega
      have f1 : (97 : Int) ≤ ((digitV c.toNat + 87 : Nat) : Int) := by omega
      have f2 : ((digitV c.toNat + 87 : Nat) : Int) ≤ 122 := by omega
      have f3 : IntKind.u8.wrap (IntKind.u8.wrap (((digitV c.toNat + 87 : Nat) : Int) - 97) + 10) = (digitV c.toNat : Int) := by rw [IntKind.wrap_u8, IntKind.wrap_u8]; omega
      generalize digitV c.toNat = d at *
      generalize (a * 16 + d) = a2 at *
      generalize (a * 16) = a1 at *
      generalize ((d + 87 : Nat) : Int) = d87 at *
      simp [b125_0, List.replicate, hlt, bytesSV_length, hc, hp, hFv, e95, e48, e57, f1, f2, f3, h10, hcut, hw8, hw64, hw2, hw3, hw4, hw5, q1, q2]
    · have hl : 48 ≤ c.toNat ∧ c.toNat ≤ 57 ∧ digitV c.toNat = c.toNat - 48 := by
        unfold digitV at hlet hd16 ⊢
        (repeat' split at hlet) <;> (repeat' split at hd16) <;> (repeat' split) <;> omega
      have e95 : ((c.toNat : Int) == 95) = false := by rw [Bool.eq_false_iff]; simp; omega
      have e48 : (48 : Int) ≤ (c.toNat : Int) := by omega
      have e57 : (c.toNat : Int) ≤ 57 := by omega
      have hs8 : IntKind.u8.wrap ((c.toNat : Int) - 48) = (digitV c.toNat : Int) := by rw [IntKind.wrap_u8]; omega
      generalize digitV c.toNat = d at *
      generalize (a * 16 + d) = a2 at *
      generalize (a * 16) = a1 at *
      simp [b125_0, List.replicate, hlt, bytesSV_length, hc, hs8, e95, e48, e57, h10, hcut, hw8, hw64, hw2, hw3, hw4, hw5, q1, q2]

def S125u (F : List SV → Option AV) : Prop :=
  (∀ s : List UInt8, s.length < 1000000000000 → s ≠ [] → (∀ c ∈ s, digitV c.toNat < 16) → hexN 0 s < 18446744073709551616 → F [.str s, .int .i64 16, .int .i64 64] = some (.sv (.tup [.int .u64 (hexN 0 s : Nat), .nilI]))) ∧
  (∀ n : Nat, n < 18446744073709551616 → F [.str (decS n), .int .i64 0, .int .i64 64] = some (.sv (.tup [.int .u64 (n : Int), .nilI])))

theorem decS_head : ∀ n : Nat, 0 < n → ∃ c cs, decS n = c :: cs ∧ c.toNat ≠ 48 := by
  intro n
  induction n using Nat.strongRecOn with
  | _ n ih =>
    intro hn
    by_cases h : n < 10
    · refine ⟨UInt8.ofNat (48 + n), [], decS_small h, ?_⟩
      rw [dig_toNat h]; omega
    · obtain ⟨c, cs, h1, h2⟩ := ih (n / 10) (by omega) (by omega)
      exact ⟨c, cs ++ [UInt8.ofNat (48 + n % 10)], by rw [decS_step h, h1]; rfl, h2⟩

set_option maxRecDepth 100000 in
set_option maxHeartbeats 4000000 in
theorem ev125u (E : Env) (h : E.code 199 = some c125) (h135 : Has E 217 S135) : S125u (autoF E 199) := by
  have hsh : IntKind.u64.wrap (IntKind.u64.wrap (2 ^ min 64 IntKind.u64.bits) - 1) = 18446744073709551615 := by decide
  have hsh0 : IntKind.u64.wrap 64 = 64 := by decide
  refine ⟨fun s hs hne hd hv => ?_, fun n hn => ?_⟩
  · have hl := loop125h E (evF E (s.length + 1)) h135 s s hs (s.length + 1) s [] 0 (s.length + 1) rfl hd hv (by omega)
    refine autoF_sv (n := s.length + 1) ?_ rfl
    unfold evP
    simp only [h]
    simp only [List.replicate, List.cons_append, List.nil_append, List.length_nil, Int.ofNat_zero, Int.natCast_zero] at hl
    generalize hexN 0 s = v at *
    simp [c125, List.replicate, hne, hsh, hsh0, bytesSV_length, hl]
  · obtain ⟨g1, g2, g3⟩ := decS_dig n
    have hlen := decS_len20 hn
    by_cases hz : n = 0
    · subst hz
      have hl := loop125b E (evF E 1) true [48] [] (by simp) 1 [] [] 0 1 rfl (by simp) (by rw [digN_nil]; omega) (by simp)
      refine autoF_sv (n := 1) ?_ rfl
      unfold evP
      simp only [h]
      rw [decS_small (by omega)]
      kernel_rfl
    · obtain ⟨c, cs, hcs, h48⟩ := decS_head n (by omega)
      have hl := loop125b E (evF E ((decS n).length + 1)) true (decS n) (decS n) (by omega) ((decS n).length + 1) (decS n) [] 0 ((decS n).length + 1) rfl g2 (by rw [g1]; exact hn) (by omega)
      rw [g1] at hl
      refine autoF_sv (n := (decS n).length + 1) ?_ rfl
      unfold evP
      simp only [h]
      simp only [List.replicate, List.cons_append, List.nil_append, List.length_nil, Int.ofNat_zero, Int.natCast_zero] at hl
      have e48 : ((c.toNat : Int) == 48) = false := by rw [Bool.eq_false_iff]; simp; omega
      rw [hcs] at hl ⊢
      simp [c125, List.replicate, hsh, hsh0, bytesSV_length, e48]
      simp at hl
      simp [hl]

def S91 (F : List SV → Option AV) : Prop := S125u F

theorem ev91 (E : Env) (h : E.code 136 = some c91) (h125 : Has E 199 S125u) : S91 (autoF E 136) := by
  obtain ⟨F, hp, hF1, hF2⟩ := h125
  refine ⟨fun s hs hne hd hv => ?_, fun n hn => ?_⟩
  · have := hF1 s hs hne hd hv
    refine autoF_sv (n := 1) ?_ rfl
    unfold evP
    simp only [h]
    generalize hexN 0 s = v at *
    simp [c91, List.replicate, hp, this]
  · have := hF2 n hn
    refine autoF_sv (n := 1) ?_ rfl
    unfold evP
    simp only [h]
    generalize decS n = v at *
    simp [c91, List.replicate, hp, this]

end Go.Ev

set_option linter.unusedSimpArgs false
set_option linter.unusedVariables false
namespace Go.Ev
open Go.Proofs

/-! ### Parts -/

def S1125 (F : List SV → Option AV) : Prop := ∀ (s : List UInt8) (b : UInt8), s.length < 1000000000000 → F [.str s, .int .u8 (b.toNat : Int)] = some (.sv (.sl (strs (partG b.toNat [] s))))

def S46 (F : List SV → Option AV) : Prop := ∀ (s : List UInt8) (n : Nat), n < 1000000 → s.length < 100000000000 → F [.str s, .int .i64 (n : Int)] = some (.sv (.str (rightS s n)))

theorem loop46r (E : Env) (cf : CallF) (m : Nat) (n : Nat) (hn : n < 1000000) :
    ∀ (d : Nat) (s : List UInt8) (k : Nat), n - s.length ≤ d → s.length < 1000000000000 → d < k →
      rounds (evC E cf m b46_0) k { tm := [.sv (.str s), .sv (.int .i64 n)] ++ List.replicate 10 (.sv .undef), lz := none, bx := [], df := [] } =
        some (.exit 0, { tm := [.sv (.str (rightS s n))] ++ List.replicate 11 (.sv .undef), lz := none, bx := [], df := [] }) := by
  intro d
  induction d with
  | zero =>
    intro s k hd hs hk
    obtain ⟨k, rfl⟩ : ∃ k', k = k' + 1 := ⟨k - 1, by omega⟩
    have hlt : ¬ (s.length < n) := by omega
    refine rounds_out ?_ (by simp)
    rw [rightS_done hlt]
    have hltI : ¬ (s.length : Int) < (n : Int) := by omega
    simp [b46_0, List.replicate, hlt, hltI]
  | succ d ih =>
    intro s k hd hs hk
    obtain ⟨k, rfl⟩ : ∃ k', k = k' + 1 := ⟨k - 1, by omega⟩
    by_cases hlt : s.length < n
    · have he := ih (32 :: s) k (by simp; omega) (by simp; omega) (by omega)
      rw [rightS_step hlt] at he
      rw [← he]
      refine rounds_step ?_
      have hltI : (s.length : Int) < (n : Int) := by omega
      have hb : 1 + s.length < 4611686018427387904 := by omega
      simp [b46_0, List.replicate, hlt, hltI, hb]
    · refine rounds_out ?_ (by simp)
      rw [rightS_done hlt]
      have hltI : ¬ (s.length : Int) < (n : Int) := by omega
      simp [b46_0, List.replicate, hlt, hltI]

theorem ev46 (E : Env) (h : E.code 63 = some c46) : S46 (autoF E 63) := by
  intro s n hn hs
  have hl := loop46r E (evF E (n + 1)) (n + 1) n hn n s (n + 1) (by omega) (by omega) (by omega)
  refine autoF_sv (n := n + 1) ?_ rfl
  unfold evP
  simp only [h]
  simp only [List.replicate, List.cons_append, List.nil_append] at hl
  simp [c46, List.replicate, hl]

/-! ### Hexadecimal digits -/

noncomputable def F97h : List SV → Option AV
  | [.int .u64 n, .int .u64 b] => onlyIf (0 ≤ n ∧ n < 18446744073709551616 ∧ b = 16) (some (.sv (.str (hexS n.toNat))))
  | _ => none

theorem F97h_eq (n : Nat) (h : n < 18446744073709551616) : F97h [.int .u64 (n : Int), .int .u64 16] = some (.sv (.str (hexS n))) := by
  show onlyIf _ (some (AV.sv (.str (hexS (n : Int).toNat)))) = _
  rw [onlyIf_pos ⟨by omega, by omega, rfl⟩]; simp

theorem ev97h (E : Env) (h : E.code 142 = some c97) (n k : Nat) (hk : k < 18446744073709551616) :
    evP (E.add 142 (fun us => if size97 us < k then F97h us else none)) n 142 [.int .u64 k, .int .u64 16] = some (.sv (.str (hexS k))) := by
  unfold evP
  have hc : (E.add 142 (fun us => if size97 us < k then F97h us else none)).code 142 = some c97 := h
  simp only [hc]
  have hm : Int.tmod (k : Int) 16 = ((k % 16 : Nat) : Int) := rfl
  have hq : IntKind.u64.wrap ((k : Int) / 16) = ((k / 16 : Nat) : Int) := by rw [IntKind.wrap_u64]; omega
  have hr16 : ∀ r, r < 16 → r = 0 ∨ r = 1 ∨ r = 2 ∨ r = 3 ∨ r = 4 ∨ r = 5 ∨ r = 6 ∨ r = 7 ∨ r = 8 ∨ r = 9 ∨ r = 10 ∨ r = 11 ∨ r = 12 ∨ r = 13 ∨ r = 14 ∨ r = 15 := by intro r hr; omega
  by_cases hlt : k < 16
  · rw [hexS_small hlt]
    rcases hr16 k hlt with rfl | rfl | rfl | rfl | rfl | rfl | rfl | rfl | rfl | rfl | rfl | rfl | rfl | rfl | rfl | rfl <;> simp [c97, svBytes, List.replicate, hexC]
  · have e1 : ¬ (k : Int) < 16 := by omega
    rw [hexS_step hlt]
    have hlen := hexS_len16 (n := k / 16) (by omega)
    have hs : k / 16 < k := by omega
    have hb : ((k / 16 : Nat) : Int) < 18446744073709551616 := by omega
    have hb2 : (hexS (k / 16)).length + 1 < 4611686018427387904 := by omega
    rcases hr16 (k % 16) (by omega) with hr | hr | hr | hr | hr | hr | hr | hr | hr | hr | hr | hr | hr | hr | hr | hr
    · have hm2 : (k : Int) % 16 = 0 := by omega
      simp [c97, svBytes, List.replicate, hm, hm2, hr, e1, hq, F97h, size97, hs, hb, hb2, hexC, -Int.natCast_ediv]
    · have hm2 : (k : Int) % 16 = 1 := by omega
      simp [c97, svBytes, List.replicate, hm, hm2, hr, e1, hq, F97h, size97, hs, hb, hb2, hexC, -Int.natCast_ediv]
    · have hm2 : (k : Int) % 16 = 2 := by omega
      simp [c97, svBytes, List.replicate, hm, hm2, hr, e1, hq, F97h, size97, hs, hb, hb2, hexC, -Int.natCast_ediv]
    · have hm2 : (k : Int) % 16 = 3 := by omega
      simp [c97, svBytes, List.replicate, hm, hm2, hr, e1, hq, F97h, size97, hs, hb, hb2, hexC, -Int.natCast_ediv]
    · have hm2 : (k : Int) % 16 = 4 := by omega
      simp [c97, svBytes, List.replicate, hm, hm2, hr, e1, hq, F97h, size97, hs, hb, hb2, hexC, -Int.natCast_ediv]
    · have hm2 : (k : Int) % 16 = 5 := by omega
      simp [c97, svBytes, List.replicate, hm, hm2, hr, e1, hq, F97h, size97, hs, hb, hb2, hexC, -Int.natCast_ediv]
    · have hm2 : (k : Int) % 16 = 6 := by omega
      simp [c97, svBytes, List.replicate, hm, hm2, hr, e1, hq, F97h, size97, hs, hb, hb2, hexC, -Int.natCast_ediv]
    · have hm2 : (k : Int) % 16 = 7 := by omega
      simp [c97, svBytes, List.replicate, hm, hm2, hr, e1, hq, F97h, size97, hs, hb, hb2, hexC, -Int.natCast_ediv]
    · have hm2 : (k : Int) % 16 = 8 := by omega
      simp [c97, svBytes, List.replicate, hm, hm2, hr, e1, hq, F97h, size97, hs, hb, hb2, hexC, -Int.natCast_ediv]
    · have hm2 : (k : Int) % 16 = 9 := by omega
      simp [c97, svBytes, List.replicate, hm, hm2, hr, e1, hq, F97h, size97, hs, hb, hb2, hexC, -Int.natCast_ediv]
    · have hm2 : (k : Int) % 16 = 10 := by omega
      simp [c97, svBytes, List.replicate, hm, hm2, hr, e1, hq, F97h, size97, hs, hb, hb2, hexC, -Int.natCast_ediv]
    · have hm2 : (k : Int) % 16 = 11 := by omega
      simp [c97, svBytes, List.replicate, hm, hm2, hr, e1, hq, F97h, size97, hs, hb, hb2, hexC, -Int.natCast_ediv]
    · have hm2 : (k : Int) % 16 = 12 := by omega
      simp [c97, svBytes, List.replicate, hm, hm2, hr, e1, hq, F97h, size97, hs, hb, hb2, hexC, -Int.natCast_ediv]
    · have hm2 : (k : Int) % 16 = 13 := by omega
      simp [c97, svBytes, List.replicate, hm, hm2, hr, e1, hq, F97h, size97, hs, hb, hb2, hexC, -Int.natCast_ediv]
    · have hm2 : (k : Int) % 16 = 14 := by omega
      simp [c97, svBytes, List.replicate, hm, hm2, hr, e1, hq, F97h, size97, hs, hb, hb2, hexC, -Int.natCast_ediv]
    · have hm2 : (k : Int) % 16 = 15 := by omega
      simp [c97, svBytes, List.replicate, hm, hm2, hr, e1, hq, F97h, size97, hs, hb, hb2, hexC, -Int.natCast_ediv]

def S1143 (F : List SV → Option AV) : Prop := ∀ n k : Nat, n < 18446744073709551616 → k < 1000000 → F [.int .u64 (n : Int), .int .u64 16, .int .i64 (k : Int)] = some (.sv (.str (padS (hexS n) k)))

theorem loop1143 (E : Env) (cf : CallF) (m : Nat) (n : Nat) (hn : n < 1000000) :
    ∀ (d : Nat) (s : List UInt8) (k : Nat), n - s.length ≤ d → s.length < 1000000000000 → d < k →
      rounds (evC E cf m b1143_0) k { tm := [.sv .undef, .sv .undef, .sv (.int .i64 n), .sv .undef, .sv .undef, .sv .undef, .sv .undef, .sv (.str s)] ++ List.replicate 10 (.sv .undef), lz := none, bx := [], df := [] } =
        some (.exit 0, { tm := [.sv .undef, .sv .undef, .sv .undef, .sv .undef, .sv .undef, .sv .undef, .sv .undef, .sv (.str (padS s n))] ++ List.replicate 10 (.sv .undef), lz := none, bx := [], df := [] }) := by
  intro d
  induction d with
  | zero =>
    intro s k hd hs hk
    obtain ⟨k, rfl⟩ : ∃ k', k = k' + 1 := ⟨k - 1, by omega⟩
    have hlt : ¬ (s.length < n) := by omega
    refine rounds_out ?_ (by simp)
    rw [padS_done hlt]
    have hltI : ¬ (s.length : Int) < (n : Int) := by omega
    simp [b1143_0, List.replicate, hlt, hltI]
  | succ d ih =>
    intro s k hd hs hk
    obtain ⟨k, rfl⟩ : ∃ k', k = k' + 1 := ⟨k - 1, by omega⟩
    by_cases hlt : s.length < n
    · have he := ih (48 :: s) k (by simp; omega) (by simp; omega) (by omega)
      rw [padS_step hlt] at he
      rw [← he]
      refine rounds_step ?_
      have hltI : (s.length : Int) < (n : Int) := by omega
      have hb : 1 + s.length < 4611686018427387904 := by omega
      simp [b1143_0, List.replicate, hlt, hltI, hb]
    · refine rounds_out ?_ (by simp)
      rw [padS_done hlt]
      have hltI : ¬ (s.length : Int) < (n : Int) := by omega
      simp [b1143_0, List.replicate, hlt, hltI]

theorem ev1143 (E : Env) (h : E.code 109 = some c1143) (h97 : E.pure 142 = some F97h) : S1143 (autoF E 109) := by
  intro n k hn hk
  have h16 := hexS_len16 hn
  have hl := loop1143 E (evF E (k + 1)) (k + 1) k hk k (hexS n) (k + 1) (by omega) (by omega) (by omega)
  have hF := F97h_eq n hn
  refine autoF_sv (n := k + 1) ?_ rfl
  unfold evP
  simp only [h]
  simp only [List.replicate, List.cons_append, List.nil_append] at hl
  simp [c1143, List.replicate, h97, hF, hl]

/-! ### Large letters: bytes written in place -/

theorem svBytes_map (l : List UInt8) : svBytes (bytesSV l) = some l := svBytes_bytes l

def S1113 (F : List SV → Option AV) : Prop := ∀ n k : Nat, n < 18446744073709551616 → k < 1000000 → F [.int .u64 (n : Int), .int .i64 (k : Int)] = some (.sv (.str (upS n k)))

def cellsB (l : List UInt8) : List Cell := (bytesSV l).map .sv

theorem cellsB_cons (c : UInt8) (l : List UInt8) : cellsB (c :: l) = .sv (.int .u8 (c.toNat : Int)) :: cellsB l := rfl
theorem cellsB_append (a b : List UInt8) : cellsB (a ++ b) = cellsB a ++ cellsB b := by simp [cellsB, bytesSV]
theorem cellsB_length (a : List UInt8) : (cellsB a).length = a.length := by simp [cellsB, bytesSV]
theorem cellsB_plain (a : List UInt8) : (cellsB a).map Cell.plain = bytesSV a := by
  unfold cellsB bytesSV
  rw [List.map_map, List.map_map]
  rfl

theorem loop1113 (E : Env) (cf : CallF) (m : Nat) (N : Nat) (hN : N < 1000000000) :
    ∀ (rest pre : List UInt8) (cs : List Cell) (i k : Nat), cs = cellsB (pre.map upB ++ rest) → i = pre.length → N = pre.length + rest.length → rest.length < k →
      rounds (evC E cf m b1113_0) k { tm := [.sv .undef, .sv .undef, .sv .undef, .sv .undef, .sv .undef, .mrow 0 N 1, .sv .undef, .sv .undef, .sv .undef, .sv .undef, .sv .undef, .sv .undef, .sv (.int .i64 N), .sv (.int .i64 i)] ++ List.replicate 16 (.sv .undef), lz := none, bx := [.live cs], df := [] } =
        some (.exit 0, { tm := [.sv .undef, .sv .undef, .sv .undef, .sv .undef, .sv .undef, .mrow 0 N 1] ++ List.replicate 24 (.sv .undef), lz := none, bx := [.live (cellsB ((pre ++ rest).map upB))], df := [] }) := by
  intro rest
  induction rest with
  | nil =>
    intro pre cs i k hcs hi hl hk
    obtain ⟨k, rfl⟩ : ∃ k', k = k' + 1 := ⟨k - 1, by omega⟩
    have hlt : ¬ (i < N) := by simp at hl; omega
    refine rounds_out ?_ (by simp)
    rw [List.append_nil] at hcs ⊢
    rw [← hcs]
    simp [b1113_0, List.replicate, hlt]
  | cons c rest ih =>
    intro pre cs i k hcs hi hl hk
    obtain ⟨k, rfl⟩ : ∃ k', k = k' + 1 := ⟨k - 1, by omega⟩
    have hlt : i < N := by simp at hl; omega
    have hw : IntKind.i64.wrap ((i : Int) + 1) = ((i + 1 : Nat) : Int) := by rw [IntKind.wrap_i64]; omega
    have hcl : cs.length = N := by rw [hcs, cellsB_length]; simp at hl ⊢; omega
    have hic : i < cs.length := by omega
    have hd : cs.drop i = .sv (.int .u8 (c.toNat : Int)) :: cellsB rest := by
      rw [hcs, cellsB_append, cellsB_cons]
      have : i = (cellsB (pre.map upB)).length := by rw [cellsB_length, List.length_map]; exact hi
      rw [this, List.drop_left]
    have hset : ∀ x, cs.set i (.sv (.int .u8 ((x : UInt8).toNat : Int))) = cellsB (pre.map upB ++ x :: rest) := by
      intro x
      rw [hcs, cellsB_append, cellsB_append, cellsB_cons, cellsB_cons]
      have : i = (cellsB (pre.map upB)).length := by rw [cellsB_length, List.length_map]; exact hi
      rw [this, List.set_append_right _ _ (Nat.le_refl _), Nat.sub_self]; rfl
    by_cases h97 : 97 ≤ c.toNat
    · have h97' : (97 : Int) ≤ (c.toNat : Int) := by omega
      have hcb := c.toNat_lt
      have hup : upB c = UInt8.ofNat (c.toNat - 32) := by simp [upB, h97]
      have hw8 : IntKind.u8.wrap ((c.toNat : Int) - 32) = ((upB c).toNat : Int) := by
        rw [IntKind.wrap_u8, hup]; simp; omega
      have hs := hset (upB c)
      have he := ih (pre ++ [c]) (cs.set i (.sv (.int .u8 ((upB c).toNat : Int)))) (i + 1) k (by rw [hs]; simp) (by simp [hi]) (by simp at hl ⊢; omega) (by simp at hk; omega)
      rw [show pre ++ c :: rest = pre ++ [c] ++ rest from by simp, ← he]
      refine rounds_step ?_
      simp [b1113_0, List.replicate, hlt, hw, hic, hd, h97', hw8]
    · have h97' : ¬ (97 : Int) ≤ (c.toNat : Int) := by omega
      have hup : upB c = c := by simp [upB, h97]
      have he := ih (pre ++ [c]) cs (i + 1) k (by rw [hcs]; simp [hup]) (by simp [hi]) (by simp at hl ⊢; omega) (by simp at hk; omega)
      rw [show pre ++ c :: rest = pre ++ [c] ++ rest from by simp, ← he]
      refine rounds_step ?_
      simp [b1113_0, List.replicate, hlt, hw, hic, hd, h97']

theorem ev1113 (E : Env) (h : E.code 82 = some c1113) (h43 : Has E 109 S1143) : S1113 (autoF E 82) := by
  intro n k hn hk
  obtain ⟨F, hp, hF⟩ := h43
  have hFn := hF n k hn hk
  have h16 := hexS_len16 hn
  have hpl := padS_len (hexS n) k
  have hne : padS (hexS n) k ≠ [] := by
    obtain ⟨_, _, h3⟩ := hexS_hex n
    unfold padS; simp [h3]
  unfold upS
  generalize padS (hexS n) k = s at hFn hpl hne ⊢
  have hl := loop1113 E (evF E (s.length + 1)) (s.length + 1) s.length (by omega) s [] (cellsB s) 0 (s.length + 1) (by simp) rfl (by simp) (by omega)
  have hcp := cellsB_plain (s.map upB)
  have hcl := cellsB_length (s.map upB)
  rw [List.length_map] at hcl
  have hsv := svBytes_map (s.map upB)
  rw [List.nil_append] at hl
  have e0 : List.map Cell.sv (bytesSV s) = cellsB s := rfl
  generalize cellsB (s.map upB) = cs2 at hl hcp hcl
  generalize cellsB s = cs1 at hl e0
  refine autoF_sv (n := s.length + 1) ?_ rfl
  unfold evP
  simp only [h]
  simp only [List.replicate, List.cons_append, List.nil_append, Int.ofNat_zero, Int.natCast_zero] at hl
  have hbl : (bytesSV (s.map upB)).length = s.length := by simp [bytesSV]
  have hem : s.isEmpty = false := by simpa using hne
  simp [c1113, List.replicate, hp, hFn, hem, hne, e0, hl, hcp, hcl, hsv, hbl]

/-! ### Numbers of base 16 -/

def S123 (F : List SV → Option AV) : Prop := ∀ s : List UInt8, s.length < 9223372036854775807 → F [.str s, .int .u64 16] = some (.sv (.tup (match hexV s with | some m => [.int .u64 m, .bool true] | none => match numV 16 0 s with | some m => [.int .u64 m, .bool false] | none => [.int .u64 0, .bool false])))

theorem loop123h (E : Env) (cf : CallF) (hP : E.pure 159 = some F134) (s : List UInt8) (hs : s.length < 9223372036854775807) (m : Nat) :
    ∀ (rest pre : List UInt8) (n k : Nat), s = pre ++ rest → n < 18446744073709551616 → rest.length < k →
      rounds (evC E cf m b123_0) k { tm := [.sv (.str s), .sv (.int .u64 16), .sv .undef, .sv .undef, .sv .undef, .sv .undef, .sv (.int .u64 n), .sv .undef, .sv .undef, .sv .undef, .sv (.int .i64 s.length), .sv (.int .i64 pre.length)] ++ List.replicate 26 (.sv .undef), lz := none, bx := [], df := [] } =
        match numV 16 n rest with
        | some m => some (.exit 0, { tm := [.sv (.str s), .sv .undef, .sv .undef, .sv .undef, .sv .undef, .sv .undef, .sv (.int .u64 m)] ++ List.replicate 31 (.sv .undef), lz := none, bx := [], df := [] })
        | none => some (.ret, { tm := [.sv .undef, .sv .undef, .sv .undef, .sv .undef, .sv (.int .u64 0), .sv (.bool false)] ++ List.replicate 32 (.sv .undef), lz := none, bx := [], df := [] }) := by
  intro rest
  induction rest with
  | nil =>
    intro pre n k hsp hn hk
    obtain ⟨k, rfl⟩ : ∃ k', k = k' + 1 := ⟨k - 1, by omega⟩
    have hlt : ¬ (pre.length < s.length) := by rw [hsp]; simp
    simp [rounds, b123_0, List.replicate, hlt, numV]
  | cons c rest ih =>
    intro pre n k hsp hn hk
    obtain ⟨k, rfl⟩ : ∃ k', k = k' + 1 := ⟨k - 1, by omega⟩
    have hlt : pre.length < s.length := by rw [hsp]; simp
    have hc : ∀ h : pre.length < s.length, s[pre.length]'h = c := by subst hsp; simp
    have hc1 : (c.toNat : Int) < 256 := by have := c.toNat_lt; omega
    have hd := digitV_le c.toNat
    by_cases h1 : digitV c.toNat ≥ 16
    · have e1 : (16 : Int) ≤ (digitV c.toNat : Int) := by omega
      have hv : numV 16 n (c :: rest) = none := by simp [numV, h1]
      rw [hv]
      simp [rounds, b123_0, List.replicate, hlt, hc, hP, F134, hc1, e1]
    · have e1 : ¬ (16 : Int) ≤ (digitV c.toNat : Int) := by omega
      have hw : IntKind.u64.wrap (18446744073709551615 - (digitV c.toNat : Int)) = ((18446744073709551615 - digitV c.toNat : Nat) : Int) := by rw [IntKind.wrap_u64]; omega
      have hq : IntKind.u64.wrap (((18446744073709551615 - digitV c.toNat : Nat) : Int) / 16) = (((18446744073709551615 - digitV c.toNat) / 16 : Nat) : Int) := by rw [IntKind.wrap_u64]; omega
      by_cases h2 : n > (18446744073709551615 - digitV c.toNat) / 16
      · have e2 : (((18446744073709551615 - digitV c.toNat) / 16 : Nat) : Int) < (n : Int) := by omega
        have hv : numV 16 n (c :: rest) = none := by simp [numV, h2]
        rw [hv]
        simp [rounds, b123_0, List.replicate, hlt, hc, hP, F134, hc1, e1, hw, hq, e2, -Int.natCast_ediv]
      · have e2 : ¬ (((18446744073709551615 - digitV c.toNat) / 16 : Nat) : Int) < (n : Int) := by omega
        have hv : numV 16 n (c :: rest) = numV 16 (n * 16 + digitV c.toNat) rest := by simp [numV, h1, h2]
        have hb : n * 16 + digitV c.toNat < 18446744073709551616 := by omega
        have hw1 : IntKind.u64.wrap (IntKind.u64.wrap ((n : Int) * 16) + (digitV c.toNat : Int)) = ((n * 16 + digitV c.toNat : Nat) : Int) := by rw [IntKind.wrap_u64, IntKind.wrap_u64]; omega
        have hw2 : IntKind.i64.wrap ((pre.length : Int) + 1) = ((pre ++ [c]).length : Int) := by rw [IntKind.wrap_i64]; simp; omega
        have := ih (pre ++ [c]) (n * 16 + digitV c.toNat) k (by rw [hsp]; simp) hb (by simp at hk; omega)
        rw [hv, ← this]
        simp [rounds, b123_0, List.replicate, hlt, hc, hP, F134, hc1, e1, hw, hq, e2, hw1, hw2, -Int.natCast_ediv]

theorem ev123h (E : Env) (h : E.code 91 = some c123) (h134 : E.pure 159 = some F134) : S123 (autoF E 91) := by
  intro s hs
  have hl := loop123h E (evF E (s.length + 1)) h134 s hs (s.length + 1) s [] 0 (s.length + 1) rfl (by omega) (by omega)
  simp [List.replicate] at hl
  refine autoF_sv (n := s.length + 1) ?_ rfl
  unfold evP
  simp only [h]
  unfold hexV
  cases hv : numV 16 0 s with
  | none => simp [hv] at hl; simp [c123, List.replicate, hl]
  | some m =>
    simp [hv] at hl
    by_cases hne : s = []
    · subst hne
      simp only [List.length_nil, Int.ofNat_zero, Int.natCast_zero, Nat.zero_add] at hl ⊢
      simp [c123, List.replicate, hl]
    · simp [c123, List.replicate, hl, hne]

end Go.Ev
