/- Limits: a line's groups, whole. -/
/- Wireless interfaces: what is fine, what is written, what is read (plain). -/
/- The three laws of any form, out of what its functions answer. -/
/- Wireless interfaces: the trees (plain). -/
/- Wireless interfaces: the reference's check and its printing. -/
/- Wireless interfaces: the reference's reading. -/
/- Wireless interfaces: the door: blanks and points cut off, the parts of a line. -/
/- strings.TrimSpace of a text of ASCII. -/
/- Limits: the door's lines (lines printed by a program of this work). -/
import Derived.Test.YtkpjijiiegdcaaaGreatDoorHbb
import Derived.Test.YtkpjijiiegdcaaaGreatDoorHah
import Derived.Test.YtkpjijiiegdcaaaGreatDoorHar
import Derived.Test.YtkpjijiiegdcaaaGreatDoorHaq
import Derived.Test.YtkpjijiiegdcaaaGreatDoorHam
import Derived.Test.YtkpjijiiegdcaaaGreatDoorHas
set_option linter.unusedSimpArgs false
set_option linter.unusedVariables false
namespace Go.Ev
open Go.Proofs

/-! ### A label of four words: the first tries fail -/

def cfsL : List UInt8 := [77, 97, 120, 32, 99, 111, 114, 101, 32, 102, 105, 108, 101, 32, 115, 105, 122, 101]

def n3_4200 (s : List UInt8) (fr d e : Int) : SA := { nt := 101, tm := [(8, .sv (.int .i64 e)), (7, .sv (.int .i64 d)), (2, .sv (.int .i64 8)), (1, .sv (.int .i64 fr)), (0, .sv (.str s))], lz := none, bx := [], df := [] }
def n4_4200 (s : List UInt8) (fr d : Int) : SA := { nt := 101, tm := [(7, .sv (.int .i64 d)), (2, .sv (.int .i64 8)), (1, .sv (.int .i64 fr)), (0, .sv (.str s))], lz := none, bx := [], df := [] }

set_option maxRecDepth 100000 in
theorem step3n_4200 (E : Env) (cf : CallF) (m : Nat) (H : List SV → Option AV) (hp : E.pure 197 = some H) (s : List UInt8) (fr d e e' q en f : Int) (he : 0 ≤ e) (w1 : IntKind.i64.wrap (8 + d) = q) (w2 : IntKind.i64.wrap (q + e) = en) (w3 : IntKind.i64.wrap (e - 1) = e') (hf : f < 2)
    (hr : H [.str s, .int .i64 en, .fn 199 [] []] = some (.sv (.int .i64 f))) :
    evCA E cf (m + 1) b4200_3 (n3_4200 s fr d e) = some (.normal, n3_4200 s fr d e') := by
  have hf' : ¬ (2 : Int) ≤ f := by omega
  have o2 : roundsA (evCA E cf (m + 1) b4200_2) (m + 1) { nt := 101, tm := [(10, .sv (.int .i64 f)), (9, .sv (.int .i64 en)), (8, .sv (.int .i64 e)), (7, .sv (.int .i64 d)), (2, .sv (.int .i64 8)), (1, .sv (.int .i64 fr)), (0, .sv (.str s))], lz := none, bx := [], df := [] } = some (.exit 4, n3_4200 s fr d e) := by
    refine roundsA_out ?_ (by simp)
    simp [b4200_2, n3_4200, hf']
  unfold n3_4200 at *
  simp [b4200_3, he, w1, w2, hp, hr, o2, w3]

theorem out3n_4200 (E : Env) (cf : CallF) (m : Nat) (s : List UInt8) (fr d : Int) :
    evCA E cf m b4200_3 (n3_4200 s fr d (-1)) = some (.exit 2, n4_4200 s fr d) := by
  simp [b4200_3, n3_4200, n4_4200]

theorem step4n_4200 (E : Env) (cf : CallF) (m : Nat) (H : List SV → Option AV) (hp : E.pure 197 = some H) (s : List UInt8) (fr d d' e q : Int) (hd : 0 ≤ d) (w1 : IntKind.i64.wrap (8 + d) = q) (w3 : IntKind.i64.wrap (d - 1) = d')
    (hr : H [.str s, .int .i64 q, .fn 198 [] []] = some (.sv (.int .i64 e))) (h3 : roundsA (evCA E cf m b4200_3) m (n3_4200 s fr d e) = some (.exit 2, n4_4200 s fr d)) :
    evCA E cf m b4200_4 (n4_4200 s fr d) = some (.normal, n4_4200 s fr d') := by
  unfold n3_4200 n4_4200 at *
  simp [b4200_4, hd, w1, hp, hr, h3, w3]

theorem fail4200 (E : Env) (h : E.code 200 = some c4200) (h97 : Has E 197 S4197) (R : List UInt8) (hl : (cfsL ++ (32 :: 32 :: R)).length < 1000000000) (m : Nat) :
    evFA E (m + 6) 200 [.sv (.str (cfsL ++ (32 :: 32 :: R))), .sv (.int .i64 0), .sv (.int .i64 8)] [] = some (.sv .nilS, []) := by
  obtain ⟨H, hp, hH1, hH2⟩ := h97
  obtain ⟨s, hs⟩ : ∃ s, s = cfsL ++ (32 :: 32 :: R) := ⟨_, rfl⟩
  rw [← hs] at hl ⊢
  have hsl : 20 ≤ s.length := by rw [hs]; simp [cfsL]
  have z8 := hH2 s 8 hl (by omega)
  have w9 := hH1 s 9 hl (by omega)
  have z13 := hH2 s 13 hl (by omega)
  have z12 := hH2 s 12 hl (by omega)
  have z11 := hH2 s 11 hl (by omega)
  have z10 := hH2 s 10 hl (by omega)
  have z9 := hH2 s 9 hl (by omega)
  have w8 := hH1 s 8 hl (by omega)
  rw [show runW zB s 8 = 1 by subst hs; rfl] at z8
  rw [show runW wC s 9 = 4 by subst hs; rfl] at w9
  rw [show runW zB s 13 = 1 by subst hs; rfl] at z13
  rw [show runW zB s 12 = 0 by subst hs; rfl] at z12
  rw [show runW zB s 11 = 0 by subst hs; rfl] at z11
  rw [show runW zB s 10 = 0 by subst hs; rfl] at z10
  rw [show runW zB s 9 = 0 by subst hs; rfl] at z9
  rw [show runW wC s 8 = 0 by subst hs; rfl] at w8
  have a4 := step3n_4200 E (evF E (m + 6)) (m + 5) H hp s 0 1 4 3 9 13 1 (by decide) (by decide) (by decide) (by decide) (by decide) z13
  have a3 := step3n_4200 E (evF E (m + 6)) (m + 5) H hp s 0 1 3 2 9 12 0 (by decide) (by decide) (by decide) (by decide) (by decide) z12
  have a2 := step3n_4200 E (evF E (m + 6)) (m + 5) H hp s 0 1 2 1 9 11 0 (by decide) (by decide) (by decide) (by decide) (by decide) z11
  have a1 := step3n_4200 E (evF E (m + 6)) (m + 5) H hp s 0 1 1 0 9 10 0 (by decide) (by decide) (by decide) (by decide) (by decide) z10
  have a0 := step3n_4200 E (evF E (m + 6)) (m + 5) H hp s 0 1 0 (-1) 9 9 0 (by decide) (by decide) (by decide) (by decide) (by decide) z9
  have ax := out3n_4200 E (evF E (m + 6)) (m + 5 + 1) s 0 1
  have b0 := step3n_4200 E (evF E (m + 6)) (m + 5) H hp s 0 0 0 (-1) 8 8 1 (by decide) (by decide) (by decide) (by decide) (by decide) z8
  have bx := out3n_4200 E (evF E (m + 6)) (m + 5 + 1) s 0 0
  have la : roundsA (evCA E (evF E (m + 6)) (m + 5 + 1) b4200_3) (m + 5 + 1) (n3_4200 s 0 1 4) = some (.exit 2, n4_4200 s 0 1) := by
    rw [show m + 5 + 1 = (m + 4 + 1) + 1 from rfl, roundsA_step a4, roundsA_step a3, show m + 4 = m + 3 + 1 from rfl, roundsA_step a2, show m + 3 = m + 2 + 1 from rfl, roundsA_step a1, show m + 2 = m + 1 + 1 from rfl, roundsA_step a0]
    exact roundsA_out ax (by simp)
  have lb : roundsA (evCA E (evF E (m + 6)) (m + 5 + 1) b4200_3) (m + 5 + 1) (n3_4200 s 0 0 0) = some (.exit 2, n4_4200 s 0 0) := by
    rw [show m + 5 + 1 = (m + 4 + 1) + 1 from rfl, roundsA_step b0]
    exact roundsA_out bx (by simp)
  have c1 := step4n_4200 E (evF E (m + 6)) (m + 5 + 1) H hp s 0 1 0 4 9 (by decide) (by decide) (by decide) w9 la
  have c0 := step4n_4200 E (evF E (m + 6)) (m + 5 + 1) H hp s 0 0 (-1) 0 8 (by decide) (by decide) (by decide) w8 lb
  have l4 : roundsA (evCA E (evF E (m + 6)) (m + 6) b4200_4) (m + 6) (n4_4200 s 0 1) = some (.exit 0, { nt := 101, tm := [], lz := none, bx := [], df := [] }) := by
    rw [show m + 6 = (m + 4 + 1) + 1 from rfl, roundsA_step c1, roundsA_step c0]
    refine roundsA_out (n := m + 3) ?_ (by simp)
    simp [b4200_4, n4_4200]
  unfold evFA
  simp only [h]
  unfold n4_4200 at l4
  have z8' : H [.str s, .int .i64 8, .fn 199 [] []] = some (.sv (.int .i64 1)) := z8
  simp [c4200, hp, z8', l4]

/-! ### zzLimits -/

def st0_4183 (s : List UInt8) (a at_ b c : Int) : SA := { nt := 62, tm := [(7, .sv (.int .i64 c)), (6, .sv (.int .i64 b)), (5, .sv (.int .i64 at_)), (4, .sv (.int .i64 a)), (3, .sv (.int .i64 0)), (0, .sv (.str s))], lz := none, bx := [], df := [] }
def st1_4183 (s : List UInt8) (a at_ b : Int) : SA := { nt := 62, tm := [(6, .sv (.int .i64 b)), (5, .sv (.int .i64 at_)), (4, .sv (.int .i64 a)), (3, .sv (.int .i64 0)), (0, .sv (.str s))], lz := none, bx := [], df := [] }
def st2_4183 (s : List UInt8) (a : Int) : SA := { nt := 62, tm := [(4, .sv (.int .i64 a)), (3, .sv (.int .i64 0)), (0, .sv (.str s))], lz := none, bx := [], df := [] }
def fin4183 (L : List SV) : SA := { nt := 62, tm := [(2, .sv (.sl L))], lz := none, bx := [], df := [] }

theorem out0_4183 (E : Env) (cf : CallF) (m : Nat) (hp : E.pure 200 = none) (s : List UInt8) (a at_ b c p q : Int) (hc : 0 ≤ c) (w1 : IntKind.i64.wrap (at_ + b) = q) (w2 : IntKind.i64.wrap (q + c) = p) (x : SV) (L : List SV)
    (hcf : cf 200 [.sv (.str s), .sv (.int .i64 0), .sv (.int .i64 p)] [] = some (.own 9 (x :: L), [])) :
    evCA E cf m b4183_0 (st0_4183 s a at_ b c) = some (.ret, fin4183 (x :: L)) := by
  unfold st0_4183 fin4183
  simp [b4183_0, hc, w1, w2, hp, hcf]

theorem step0_4183 (E : Env) (cf : CallF) (m : Nat) (hp : E.pure 200 = none) (s : List UInt8) (a at_ b c p q c' : Int) (hc : 0 ≤ c) (w1 : IntKind.i64.wrap (at_ + b) = q) (w2 : IntKind.i64.wrap (q + c) = p) (w3 : IntKind.i64.wrap (c - 1) = c')
    (hcf : cf 200 [.sv (.str s), .sv (.int .i64 0), .sv (.int .i64 p)] [] = some (.sv .nilS, [])) :
    evCA E cf m b4183_0 (st0_4183 s a at_ b c) = some (.normal, st0_4183 s a at_ b c') := by
  unfold st0_4183
  simp [b4183_0, hc, w1, w2, hp, hcf, w3]

theorem out1_4183 (E : Env) (cf : CallF) (m : Nat) (H : List SV → Option AV) (hp : E.pure 197 = some H) (s : List UInt8) (a at_ b c q r : Int) (X : SA) (hb : b ≤ if r < 1 then r else 1) (w1 : IntKind.i64.wrap (at_ + b) = q)
    (hr : H [.str s, .int .i64 at_, .fn 199 [] []] = some (.sv (.int .i64 r))) (hr2 : H [.str s, .int .i64 q, .fn 198 [] []] = some (.sv (.int .i64 c)))
    (h0 : roundsA (evCA E cf m b4183_0) m (st0_4183 s a at_ b c) = some (.ret, X)) :
    evCA E cf m b4183_1 (st1_4183 s a at_ b) = some (.ret, X) := by
  unfold st0_4183 at h0
  unfold st1_4183
  simp [b4183_1, hp, hr, hb, w1, hr2, h0]

theorem step1_4183 (E : Env) (cf : CallF) (m : Nat) (H : List SV → Option AV) (hp : E.pure 197 = some H) (s : List UInt8) (a at_ b b' c q r : Int) (hb : b ≤ if r < 1 then r else 1) (w1 : IntKind.i64.wrap (at_ + b) = q) (w3 : IntKind.i64.wrap (b + 1) = b')
    (hr : H [.str s, .int .i64 at_, .fn 199 [] []] = some (.sv (.int .i64 r))) (hr2 : H [.str s, .int .i64 q, .fn 198 [] []] = some (.sv (.int .i64 c)))
    (h0 : roundsA (evCA E cf m b4183_0) m (st0_4183 s a at_ b c) = some (.exit 6, st1_4183 s a at_ b)) :
    evCA E cf m b4183_1 (st1_4183 s a at_ b) = some (.normal, st1_4183 s a at_ b') := by
  unfold st0_4183 at h0
  unfold st1_4183 at *
  simp [b4183_1, hp, hr, hb, w1, hr2, h0, w3]

theorem out2_4183 (E : Env) (cf : CallF) (m : Nat) (s : List UInt8) (a at_ : Int) (X : SA) (ha : 1 ≤ a) (w1 : IntKind.i64.wrap (4 + a) = at_) (h1 : roundsA (evCA E cf m b4183_1) m (st1_4183 s a at_ 0) = some (.ret, X)) :
    evCA E cf m b4183_2 (st2_4183 s a) = some (.ret, X) := by
  unfold st1_4183 at h1
  unfold st2_4183
  have w0 : IntKind.i64.wrap 4 = 4 := by decide
  simp [b4183_2, ha, w1, h1, w0]

def maxS : List UInt8 := [77, 97, 120, 32]

theorem out3_4183 (E : Env) (cf : CallF) (m : Nat) (H : List SV → Option AV) (hp : E.pure 197 = some H) (s t : List UInt8) (hs : s = maxS ++ t) (hl : s.length < 1000000000) (a : Int) (X : SA)
    (hr : H [.str s, .int .i64 4, .fn 198 [] []] = some (.sv (.int .i64 a))) (h2 : roundsA (evCA E cf m b4183_2) m (st2_4183 s a) = some (.ret, X)) :
    evCA E cf m b4183_3 { nt := 62, tm := [(3, .sv (.int .i64 0)), (0, .sv (.str s))], lz := none, bx := [], df := [] } = some (.ret, X) := by
  have h4 : (4 : Int) ≤ (s.length : Int) := by rw [hs]; simp [maxS]; omega
  have h4n : 4 ≤ s.length := by omega
  have ht : s.take 4 = [77, 97, 120, 32] := by rw [hs]; rfl
  unfold st2_4183 at h2
  have w0 : IntKind.i64.wrap 4 = 4 := by decide
  clear hs
  simp [b4183_3, h4, h4n, ht, hp, hr, h2, w0]

theorem whole4183 (E : Env) (h : E.code 183 = some c4183) (s : List UInt8) (L : List SV) (n : Nat) (h3 : evCA E (evF E (n + 1)) (n + 1) b4183_3 { nt := 62, tm := [(3, .sv (.int .i64 0)), (0, .sv (.str s))], lz := none, bx := [], df := [] } = some (.ret, fin4183 L)) :
    autoF E 183 [.str s] = some (.sv (.sl L)) := by
  refine autoA_sl (n := n + 1) (r := .sv (.sl L)) ?_ rfl
  have hl := roundsA_out (n := n) h3 (by simp)
  unfold fin4183 at hl
  unfold evPA
  simp only [h]
  simp [c4183, hl]

/-- Two words or three ahead of the blanks. -/
theorem three4183 (E : Env) (h : E.code 183 = some c4183) (h200 : E.code 200 = some c4200) (hp200 : E.pure 200 = none) (h97 : Has E 197 S4197) (w e f g b i B : List UInt8) (hl : ((maxS ++ w) ++ (32 :: (e ++ (f ++ (g ++ (b ++ (i ++ B))))))).length < 1000000000)
    (hw : ∀ c ∈ w, wC c = true) (hw1 : w ≠ []) (he : ∀ c ∈ e, wC c = true) (hf : ∀ c ∈ f, c = 32) (hf2 : 2 ≤ f.length) (hg : ∀ c ∈ g, wC c = true ∧ zB c = false) (hg1 : g ≠ []) (hb : ∀ c ∈ b, c = 32) (hb1 : b ≠ []) (hi : ∀ c ∈ i, wC c = true ∧ zB c = false) (hi1 : i ≠ []) (hB : B = [] ∨ ∃ B', B = 32 :: B') (he2 : e = [] ∨ ∃ c e', e = c :: e' ∧ zB c = false) :
    autoF E 183 [.str ((maxS ++ w) ++ (32 :: (e ++ (f ++ (g ++ (b ++ (i ++ B)))))))] = some (.sv (.sl (strs [(maxS ++ w) ++ (32 :: (e ++ (f ++ (g ++ (b ++ i))))), (maxS ++ w) ++ (32 :: e), g, i]))) := by
  have hF := first4200 E h200 h97 (maxS ++ w) e f g b i B hl 0 (by simp) he hf hf2 hg hg1 hb hb1 hi hi1 hB he2 0
  rw [List.drop_zero, List.drop_zero, ← evF_A] at hF
  obtain ⟨H, hp, hH1, hH2⟩ := h97
  obtain ⟨s, hs⟩ : ∃ s, s = (maxS ++ w) ++ (32 :: (e ++ (f ++ (g ++ (b ++ (i ++ B)))))) := ⟨_, rfl⟩
  rw [← hs] at hl hF ⊢
  obtain ⟨L, hL⟩ : ∃ L, L = strs [(maxS ++ w) ++ (32 :: (e ++ (f ++ (g ++ (b ++ i))))), (maxS ++ w) ++ (32 :: e), g, i] := ⟨_, rfl⟩
  rw [← hL]
  have hML : maxS.length = 4 := rfl
  have hAl : (maxS ++ w).length = 4 + w.length := by rw [List.length_append, hML]
  have hwl : 1 ≤ w.length := by cases w with | nil => exact absurd rfl hw1 | cons c t => simp
  have hsl : 4 + w.length + 1 ≤ s.length := by rw [hs, List.length_append, hAl, List.length_cons]; omega
  have r4 : runW wC s 4 = w.length := by
    rw [show s = maxS ++ (w ++ (32 :: (e ++ (f ++ (g ++ (b ++ (i ++ B))))))) by rw [hs]; simp]
    exact runW_at rfl hw (.inr ⟨32, _, rfl, by decide⟩)
  have rp : runW wC s (4 + w.length) = 0 := by
    have := runW_at (p := wC) (A := maxS ++ w) (w := []) (B := 32 :: (e ++ (f ++ (g ++ (b ++ (i ++ B)))))) (n := 4 + w.length) hAl.symm (by simp) (.inr ⟨32, _, rfl, by decide⟩)
    rw [List.nil_append, ← hs] at this
    exact this
  have rz : ∃ k, runW zB s (4 + w.length) = k + 1 := by
    unfold runW
    rw [hs, ← hAl, List.drop_left, List.takeWhile_cons, show zB 32 = true by decide]
    exact ⟨_, rfl⟩
  obtain ⟨k, rz⟩ := rz
  have q4 := hH1 s 4 hl (by omega)
  have qp := hH1 s (4 + w.length) hl (by omega)
  have qz := hH2 s (4 + w.length) hl (by omega)
  rw [r4] at q4
  rw [rp] at qp
  rw [rz] at qz
  rw [hAl] at hF
  have e0 : ((4 + w.length : Nat) : Int) + 0 = ((4 + w.length : Nat) : Int) := by omega
  have ew : IntKind.i64.wrap (((4 + w.length : Nat) : Int) + 0) = ((4 + w.length : Nat) : Int) := by rw [e0, IntKind.wrap_i64]; omega
  have ew4 : IntKind.i64.wrap (4 + ((w.length : Nat) : Int)) = ((4 + w.length : Nat) : Int) := by rw [IntKind.wrap_i64]; omega
  have hF' : evF E 2 200 [.sv (.str s), .sv (.int .i64 0), .sv (.int .i64 ((4 + w.length : Nat) : Int))] [] = some (.own 9 L, []) := by
    rw [hL]; exact hF
  obtain ⟨x, L', hxL⟩ : ∃ x L', L = x :: L' := by rw [hL]; exact ⟨_, _, rfl⟩
  rw [hxL] at hF' ⊢
  have o0 := out0_4183 E (evF E 2) 2 hp200 s (w.length : Int) ((4 + w.length : Nat) : Int) 0 0 ((4 + w.length : Nat) : Int) ((4 + w.length : Nat) : Int) (by decide) ew ew x L' hF'
  have o1 := out1_4183 E (evF E 2) 2 H hp s (w.length : Int) ((4 + w.length : Nat) : Int) 0 0 ((4 + w.length : Nat) : Int) ((k + 1 : Nat) : Int) _ (by split <;> omega) ew qz qp (roundsA_out o0 (by simp))
  have o2 := out2_4183 E (evF E 2) 2 s (w.length : Int) ((4 + w.length : Nat) : Int) _ (by omega) ew4 (roundsA_out o1 (by simp))
  have o3 := out3_4183 E (evF E 2) 2 H hp s (w ++ (32 :: (e ++ (f ++ (g ++ (b ++ (i ++ B))))))) (by rw [hs]; simp) hl _ _ q4 (roundsA_out o2 (by simp))
  exact whole4183 E h s _ 1 o3

/-- The label of four words. -/
theorem four4183 (E : Env) (h : E.code 183 = some c4183) (h200 : E.code 200 = some c4200) (hp200 : E.pure 200 = none) (h97 : Has E 197 S4197) (f g b i B : List UInt8) (hl : (cfsL ++ (f ++ (g ++ (b ++ (i ++ B))))).length < 1000000000)
    (hf : ∀ c ∈ f, c = 32) (hf2 : 2 ≤ f.length) (hg : ∀ c ∈ g, wC c = true ∧ zB c = false) (hg1 : g ≠ []) (hb : ∀ c ∈ b, c = 32) (hb1 : b ≠ []) (hi : ∀ c ∈ i, wC c = true ∧ zB c = false) (hi1 : i ≠ []) (hB : B = [] ∨ ∃ B', B = 32 :: B') :
    autoF E 183 [.str (cfsL ++ (f ++ (g ++ (b ++ (i ++ B)))))] = some (.sv (.sl (strs [cfsL ++ (f ++ (g ++ (b ++ i))), cfsL, g, i]))) := by
  obtain ⟨f', rfl⟩ : ∃ f', f = 32 :: 32 :: f' := by
    match f, hf2 with
    | x :: y :: f', _ => exact ⟨f', by rw [hf x (by simp), hf y (by simp)]⟩
  have hF1 := fail4200 E h200 h97 (f' ++ (g ++ (b ++ (i ++ B)))) hl 0
  rw [← evF_A] at hF1
  have hcs : cfsL = [77, 97, 120, 32, 99, 111, 114, 101, 32, 102, 105, 108, 101] ++ (32 :: [115, 105, 122, 101]) := rfl
  have hF2 := first4200 E h200 h97 [77, 97, 120, 32, 99, 111, 114, 101, 32, 102, 105, 108, 101] [115, 105, 122, 101] (32 :: 32 :: f') g b i B hl 0 (by simp) (by decide) hf hf2 hg hg1 hb hb1 hi hi1 hB (.inr ⟨115, _, rfl, by decide⟩) 5
  rw [List.drop_zero, List.drop_zero, ← evF_A] at hF2
  obtain ⟨H, hp, hH1, hH2⟩ := h97
  obtain ⟨s, hs⟩ : ∃ s, s = cfsL ++ (32 :: 32 :: f' ++ (g ++ (b ++ (i ++ B)))) := ⟨_, rfl⟩
  have hF1' : evF E 7 200 [.sv (.str s), .sv (.int .i64 0), .sv (.int .i64 8)] [] = some (.sv .nilS, []) := by rw [hs]; exact hF1
  obtain ⟨x, L', hxL⟩ : ∃ x L', strs [cfsL ++ (32 :: 32 :: f' ++ (g ++ (b ++ i))), cfsL, g, i] = x :: L' := ⟨_, _, rfl⟩
  have hF2' : evF E 7 200 [.sv (.str s), .sv (.int .i64 0), .sv (.int .i64 13)] [] = some (.own 9 (x :: L'), []) := by rw [hs, ← hxL]; exact hF2
  rw [← hs] at hl ⊢
  rw [hxL]
  have hsl : 20 ≤ s.length := by rw [hs]; simp [cfsL]
  have q4 := hH1 s 4 hl (by omega)
  have q8 := hH1 s 8 hl (by omega)
  have q9 := hH1 s 9 hl (by omega)
  have z8 := hH2 s 8 hl (by omega)
  rw [show runW wC s 4 = 4 by subst hs; rfl] at q4
  rw [show runW wC s 8 = 0 by subst hs; rfl] at q8
  rw [show runW wC s 9 = 4 by subst hs; rfl] at q9
  rw [show runW zB s 8 = 1 by subst hs; rfl] at z8
  have s0 := step0_4183 E (evF E 7) 7 hp200 s 4 8 0 0 8 8 (-1) (by decide) (by decide) (by decide) (by decide) hF1'
  have l0 : roundsA (evCA E (evF E 7) 7 b4183_0) 7 (st0_4183 s 4 8 0 0) = some (.exit 6, st1_4183 s 4 8 0) := by
    rw [show (7 : Nat) = 6 + 1 from rfl] at s0 ⊢
    rw [roundsA_step s0]
    refine roundsA_out (n := 5) ?_ (by simp)
    simp [b4183_0, st0_4183, st1_4183]
  have s1 := step1_4183 E (evF E 7) 7 H hp s 4 8 0 1 0 8 1 (by decide) (by decide) (by decide) z8 q8 l0
  have o0 := out0_4183 E (evF E 7) 7 hp200 s 4 8 1 4 13 9 (by decide) (by decide) (by decide) x L' hF2'
  have o1 := out1_4183 E (evF E 7) 7 H hp s 4 8 1 4 9 1 _ (by decide) (by decide) z8 q9 (roundsA_out (n := 6) o0 (by simp))
  have l1 : roundsA (evCA E (evF E 7) 7 b4183_1) 7 (st1_4183 s 4 8 0) = some (.ret, fin4183 (x :: L')) := by
    rw [show (7 : Nat) = 6 + 1 from rfl] at s1 o1 ⊢
    rw [roundsA_step s1]
    exact roundsA_out (n := 5) o1 (by simp)
  have o2 := out2_4183 E (evF E 7) 7 s 4 8 _ (by decide) (by decide) l1
  have o3 := out3_4183 E (evF E 7) 7 H hp s ([99, 111, 114, 101, 32, 102, 105, 108, 101, 32, 115, 105, 122, 101] ++ (32 :: 32 :: f' ++ (g ++ (b ++ (i ++ B))))) (by rw [hs]; rfl) hl _ _ q4 (roundsA_out (n := 6) o2 (by simp))
  exact whole4183 E h s _ 6 o3

end Go.Ev

set_option linter.unusedSimpArgs false
set_option linter.unusedVariables false
namespace Go.Ev
open Go.Proofs

end Go.Ev

set_option linter.unusedSimpArgs false
set_option linter.unusedVariables false
namespace Go.Ev
open Go.Proofs

section
variable (rd : List UInt8 → List RowD → Prop) (ok : List RowD → Bool) (txt : List RowD → List UInt8) (tree : List RowD → SV)

/-- The reference reads a text, or leaves it. -/
def SReadG (F : List SV → Option AV) : Prop := ∀ s : List UInt8, s.length ≤ 40000 →
  (∃ rs, rd s rs ∧ rowsFit3 rs ∧ ok rs = true ∧ F [.str s] = some (.sv (.tup [.sl (rowsSV rs), .bool true, .int .i64 1]))) ∨ ∃ l b, F [.str s] = some (.sv (.tup [.sl l, .bool b, .int .i64 2]))
def STreeG (F : List SV → Option AV) : Prop := ∀ rs : List RowD, rowsFit3 rs → ok rs = true → F [.sl (rowsSV rs)] = some (.sv (.tup [tree rs, .int .i64 1]))
def SPrintG (F : List SV → Option AV) : Prop := ∀ rs : List RowD, rowsFit3 rs → F [.sl (rowsSV rs)] = some (.sv (.tup (if ok rs = true then [.str (txt rs), .int .i64 1] else [.str [], .int .i64 2])))
def SDoorG (F : List SV → Option AV) : Prop := ∀ (s : List UInt8) (rs : List RowD), rd s rs → ok rs = true → rowsFit3 rs → s.length ≤ 40000 → F [.str s] = some (.sv (.tup [tree rs, .int .i64 0]))

structure LawG : Prop where
  back : ∀ rs : List RowD, rowsFit3 rs → ok rs = true → rd (txt rs) rs
  node : ∀ rs : List RowD, rowsFit3 rs → ok rs = true → IsNode (tree rs)
end

def S9g (a t d : Nat) (F : List SV → Option AV) : Prop := ∀ s : List UInt8, F [.str s, .fn a [] [], .fn t [] [], .fn d [] []] = some (.sv (.bool true))
def S1016g (a t d : Nat) (F : List SV → Option AV) : Prop := ∀ l : List RowD, zzRows l = true → (∀ r ∈ l, ∀ n ∈ r.N, n < 18446744073709551616) → F [.sl (rowsSV l), .fn a [] [], .fn t [] [], .fn d [] []] = some (.sv (.bool true))

theorem ev9G {rd : List UInt8 → List RowD → Prop} {ok : List RowD → Bool} {txt : List RowD → List UInt8} {tree : List RowD → SV} (L : LawG rd ok txt tree) (E : Env) (h : E.code 16 = some c9) (a t d : Nat) (hR : Has E a (SReadG rd ok)) (hT : Has E t (STreeG ok tree)) (hD : Has E d (SDoorG rd ok tree)) (h25 : E.pure 22 = some F25) (h26 : E.pure 23 = some F26) (h27 : E.pure 24 = some F27) : S9g a t d (autoF E 16) := by
  obtain ⟨FR, hpR, hFR⟩ := hR
  obtain ⟨FT, hpT, hFT⟩ := hT
  obtain ⟨FD, hpD, hFD⟩ := hD
  intro s
  refine autoF_sv (n := 1) ?_ rfl
  by_cases hs : 40000 < s.length
  · exact ev9_long E h _ _ _ s hs 1
  · rcases hFR s (by omega) with ⟨rs, hrd, hf, hok, hF⟩ | ⟨l, b, hF⟩
    · exact ev9_yes E h _ _ _ FR FT FD hpR hpT hpD h25 h26 h27 s (by omega) _ _ (L.node rs hf hok) hF (hFT rs hf hok) (hFD s rs hrd hok hf (by omega)) 1
    · exact ev9_opn E h _ _ _ FR hpR h25 s (by omega) l b hF 1

theorem ev13G {rd : List UInt8 → List RowD → Prop} {ok : List RowD → Bool} {txt : List RowD → List UInt8} {tree : List RowD → SV} (L : LawG rd ok txt tree) (E : Env) (h : E.code 14 = some c13) (a p d : Nat) (hR : Has E a (SReadG rd ok)) (hP : Has E p (SPrintG ok txt)) (hD : Has E d (SDoorG rd ok tree)) (h25 : E.pure 22 = some F25) (h26 : E.pure 23 = some F26) (h27 : E.pure 24 = some F27) : S9g a p d (autoF E 14) := by
  obtain ⟨FR, hpR, hFR⟩ := hR
  obtain ⟨FP, hpP, hFP⟩ := hP
  obtain ⟨FD, hpD, hFD⟩ := hD
  intro s
  refine autoF_sv (n := 1) ?_ rfl
  by_cases hs : 40000 < s.length
  · exact ev13_long E h _ _ _ s hs 1
  · rcases hFR s (by omega) with ⟨rs, hrd, hf, hok, hF⟩ | ⟨l, b, hF⟩
    · have hp := hFP rs hf
      rw [if_pos hok] at hp
      exact ev13_yes E h _ _ _ FR FP FD hpR hpP hpD h25 h26 h27 s (txt rs) (by omega) _ _ (L.node rs hf hok) hF hp (hFD s rs hrd hok hf (by omega)) (fun ho => hFD _ rs (L.back rs hf hok) hok hf ho) 1
    · exact ev13_opn E h _ _ _ FR hpR h25 s (by omega) l b hF 1

theorem ev1016G {rd : List UInt8 → List RowD → Prop} {ok : List RowD → Bool} {txt : List RowD → List UInt8} {tree : List RowD → SV} (L : LawG rd ok txt tree) (E : Env) (h : E.code 10 = some c1016) (p t d : Nat) (hP : Has E p (SPrintG ok txt)) (hT : Has E t (STreeG ok tree)) (hD : Has E d (SDoorG rd ok tree)) (h25 : E.pure 22 = some F25) (h26 : E.pure 23 = some F26) (h27 : E.pure 24 = some F27) : S1016g p t d (autoF E 10) := by
  obtain ⟨FP, hpP, hFP⟩ := hP
  obtain ⟨FT, hpT, hFT⟩ := hT
  obtain ⟨FD, hpD, hFD⟩ := hD
  intro l hz hn
  refine autoF_sv (n := 1) ?_ rfl
  have hrl : (rowsSV l).length = l.length := by simp [rowsSV]
  by_cases hl : 1000 < l.length
  · exact ev1016_long E h _ _ _ _ (by omega) 1
  · have hf := zzRows_fit hz hn (by omega)
    have hF := hFP l hf
    cases hx : ok l with
    | false =>
      rw [if_neg (by simp [hx])] at hF
      exact ev1016_open E h _ _ _ FP hpP h25 _ (by omega) [] 2 hF (.inl (by decide)) 1
    | true =>
      rw [if_pos hx] at hF
      by_cases ho : 40000 < (txt l).length
      · exact ev1016_open E h _ _ _ FP hpP h25 _ (by omega) (txt l) 1 hF (.inr ho) 1
      · exact ev1016_yes E h _ _ _ FP FT FD hpP hpT hpD h25 h26 h27 _ (by omega) (txt l) (by omega) (tree l) (L.node l hf hx) hF (hFT l hf hx) (hFD _ l (L.back l hf hx) hx hf (by omega)) 1

end Go.Ev

set_option linter.unusedSimpArgs false
set_option linter.unusedVariables false
namespace Go.Ev
open Go.Proofs

end Go.Ev

set_option linter.unusedSimpArgs false
set_option linter.unusedVariables false
namespace Go.Ev
open Go.Proofs

end Go.Ev

set_option linter.unusedSimpArgs false
set_option linter.unusedVariables false
namespace Go.Ev
open Go.Proofs

end Go.Ev

set_option linter.unusedSimpArgs false
set_option linter.unusedVariables false
namespace Go.Ev
open Go.Proofs

/-! ### A point cut off -/

def st3193 (s : List UInt8) (i : Nat) : SA := { nt := 54, tm := [(10, .sv (.int .i64 i)), (9, .sv (.int .i64 s.length)), (8, .sv (.sl (bytesSV s))), (0, .sv (.str s))], lz := none, bx := [], df := [] }

set_option maxHeartbeats 4000000 in
theorem stepB3193 (E : Env) (cf : CallF) (m : Nat) (hT : SpT E) (s : List UInt8) (hs : s.length < 1000000000) (i : Nat) (hi : i < s.length) (c : UInt8) (hc : s[i]? = some c) (hb : spC c = true) (h8 : c.toNat < 128) :
    evCA E cf m b3193_1 (st3193 s i) = some (.normal, st3193 s (i + 1)) := by
  have hw : IntKind.i64.wrap ((i : Int) + 1) = ((i + 1 : Nat) : Int) := by rw [IntKind.wrap_i64]; omega
  have hg : ∀ h : i < (bytesSV s).length, (bytesSV s)[i]'h = .int .u8 (c.toNat : Int) := by
    intro h
    have : (bytesSV s)[i]? = some (.int .u8 (c.toNat : Int)) := by simp [bytesSV, hc]
    rw [List.getElem?_eq_getElem h] at this
    simpa using this
  have hil : i < (bytesSV s).length := by rw [bytesSV_length]; exact hi
  have hsp := hT c h8
  have hv : spV c = 1 := by unfold spV; rw [hb]; rfl
  rw [hv] at hsp
  have e128 : ¬ (128 : Int) ≤ (c.toNat : Int) := by omega
  have e256 : (c.toNat : Int) < 256 := by omega
  simp [st3193, b3193_1, hi, hil, hg, e128, e256, hsp, hw, bytesSV_length]

/-! ### The parts of a line -/

end Go.Ev

set_option linter.unusedSimpArgs false
set_option linter.unusedVariables false
namespace Go.Ev
open Go.Proofs

def stT3193 (x y z : AV) (W : List UInt8) (i : Nat) : SA := { nt := 54, tm := [(10, x), (9, y), (8, z), (5, .sv (.int .i64 i)), (0, .sv (.str W))], lz := none, bx := [], df := [] }

set_option maxHeartbeats 4000000 in
theorem stepT3193 (E : Env) (cf : CallF) (m : Nat) (hT : SpT E) (x y z : AV) (W : List UInt8) (hs : W.length < 1000000000) (i : Nat) (hi1 : 1 ≤ i) (c : UInt8) (hc : W[i]? = some c) (hb : spC c = true) (h8 : c.toNat < 128) :
    evCA E cf m b3193_0 (stT3193 x y z W i) = some (.normal, stT3193 x y z W (i - 1)) := by
  have hi : i < W.length := (List.getElem?_eq_some_iff.1 hc).1
  have hw : IntKind.i64.wrap ((i : Int) - 1) = ((i - 1 : Nat) : Int) := by rw [IntKind.wrap_i64]; omega
  have hg : ∀ h : i < W.length, W[i]'h = c := by
    intro h
    rw [List.getElem?_eq_getElem h] at hc
    simpa using hc
  have hsp := hT c h8
  have hv : spV c = 1 := by unfold spV; rw [hb]; rfl
  rw [hv] at hsp
  have e128 : ¬ (128 : Int) ≤ (c.toNat : Int) := by omega
  have e256 : (c.toNat : Int) < 256 := by omega
  have hge : (0 : Int) ≤ (i : Int) := by omega
  simp [stT3193, b3193_0, hge, hi, hg, e128, e256, hsp, hw]

set_option maxHeartbeats 4000000 in
theorem stepE3193 (E : Env) (cf : CallF) (m : Nat) (hT : SpT E) (x y z : AV) (W : List UInt8) (hs : W.length < 1000000000) (i : Nat) (c : UInt8) (hc : W[i]? = some c) (hb : spC c = false) (h8 : c.toNat < 128) :
    evCA E cf m b3193_0 (stT3193 x y z W i) = some (.ret, { nt := 54, tm := [(2, .sv (.str (W.take (i + 1))))], lz := none, bx := [], df := [] }) := by
  have hi : i < W.length := (List.getElem?_eq_some_iff.1 hc).1
  have hw : IntKind.i64.wrap ((i : Int) + 1) = ((i + 1 : Nat) : Int) := by rw [IntKind.wrap_i64]; omega
  have hg : ∀ h : i < W.length, W[i]'h = c := by
    intro h
    rw [List.getElem?_eq_getElem h] at hc
    simpa using hc
  have hsp := hT c h8
  have hv : spV c = 0 := by unfold spV; rw [hb]; rfl
  rw [hv] at hsp
  have e128 : ¬ (128 : Int) ≤ (c.toNat : Int) := by omega
  have e256 : (c.toNat : Int) < 256 := by omega
  have hge : (0 : Int) ≤ (i : Int) := by omega
  have hle : i + 1 ≤ W.length := by omega
  obtain ⟨j, hj⟩ : ∃ j, j = i + 1 := ⟨_, rfl⟩
  rw [← hj] at hw hle ⊢
  simp [stT3193, b3193_0, hge, hi, hg, e128, e256, hsp, hw, hle]

theorem loopT3193 (E : Env) (cf : CallF) (m : Nat) (hT : SpT E) (x y z : AV) (w T : List UInt8) (hs : (w ++ T).length < 1000000000) (hTs : ∀ c ∈ T, spC c = true ∧ c.toNat < 128) (hw0 : w ≠ []) (d : UInt8) (hd : w.getLast? = some d) (hd1 : spC d = false) (hd8 : d.toNat < 128) :
    ∀ j k : Nat, j ≤ T.length → j < k → roundsA (evCA E cf m b3193_0) k (stT3193 x y z (w ++ T) (w.length + j - 1)) = some (.ret, { nt := 54, tm := [(2, .sv (.str w))], lz := none, bx := [], df := [] }) := by
  have hwl : 1 ≤ w.length := by cases w with | nil => exact absurd rfl hw0 | cons c t => simp
  intro j
  induction j with
  | zero =>
    intro k _ hk
    obtain ⟨k, rfl⟩ : ∃ k', k = k' + 1 := ⟨k - 1, by omega⟩
    have hc : (w ++ T)[w.length + 0 - 1]? = some d := by
      rw [List.getElem?_append_left (by omega)]
      rw [List.getLast?_eq_getElem?] at hd
      simpa using hd
    have he := stepE3193 E cf m hT x y z (w ++ T) hs _ d hc hd1 hd8
    rw [show w.length + 0 - 1 + 1 = w.length by omega, List.take_left] at he
    exact roundsA_out he (by simp)
  | succ j ih =>
    intro k hj hk
    obtain ⟨k, rfl⟩ : ∃ k', k = k' + 1 := ⟨k - 1, by omega⟩
    have hjl : j < T.length := by omega
    have hc : (w ++ T)[w.length + (j + 1) - 1]? = some T[j] := by
      rw [List.getElem?_append_right (by omega), show w.length + (j + 1) - 1 - w.length = j by omega]
      simp [hjl]
    obtain ⟨h1, h2⟩ := hTs T[j] (List.getElem_mem _)
    have he := stepT3193 E cf m hT x y z (w ++ T) hs _ (by omega) _ hc h1 h2
    rw [roundsA_step he, show w.length + (j + 1) - 1 - 1 = w.length + j - 1 by omega]
    exact ih k (by omega) (by omega)

def S3193g (F : List SV → Option AV) : Prop := ∀ (B w T : List UInt8) (c d : UInt8), (B ++ (w ++ T)).length < 1000000000 → (∀ c ∈ B, spC c = true ∧ c.toNat < 128) → (∀ c ∈ T, spC c = true ∧ c.toNat < 128) →
  w.head? = some c → spC c = false → c.toNat < 128 → w.getLast? = some d → spC d = false → d.toNat < 128 → F [.str (B ++ (w ++ T))] = some (.sv (.str w))

set_option maxHeartbeats 4000000 in
theorem stepV3193 (E : Env) (cf : CallF) (m : Nat) (hT : SpT E) (B w T : List UInt8) (c d : UInt8) (hs : (B ++ (w ++ T)).length < 1000000000) (hm : T.length < m) (hTs : ∀ c ∈ T, spC c = true ∧ c.toNat < 128) (hc : w.head? = some c) (hc1 : spC c = false) (hc8 : c.toNat < 128) (hd : w.getLast? = some d) (hd1 : spC d = false) (hd8 : d.toNat < 128) :
    evCA E cf m b3193_1 (st3193 (B ++ (w ++ T)) B.length) = some (.ret, { nt := 54, tm := [(2, .sv (.str w))], lz := none, bx := [], df := [] }) := by
  have hw0 : w ≠ [] := by rintro rfl; simp at hc
  have hwl : 1 ≤ w.length := by cases w with | nil => exact absurd rfl hw0 | cons c t => simp
  have hlen : (B ++ (w ++ T)).length = B.length + (w.length + T.length) := by simp
  have hi : B.length < (B ++ (w ++ T)).length := by omega
  have hgc : (bytesSV (B ++ (w ++ T)))[B.length]? = some (.int .u8 (c.toNat : Int)) := by
    obtain ⟨t, rfl⟩ : ∃ t, w = c :: t := by
      cases w with
      | nil => simp at hc
      | cons x t => simp at hc; subst hc; exact ⟨t, rfl⟩
    simp [bytesSV]
  have hil : B.length < (bytesSV (B ++ (w ++ T))).length := by rw [bytesSV_length]; exact hi
  have hg : ∀ h : B.length < (bytesSV (B ++ (w ++ T))).length, (bytesSV (B ++ (w ++ T)))[B.length]'h = .int .u8 (c.toNat : Int) := by
    intro h
    rw [List.getElem?_eq_getElem h] at hgc
    simpa using hgc
  have hsp := hT c hc8
  have hv : spV c = 0 := by unfold spV; rw [hc1]; rfl
  rw [hv] at hsp
  have e128 : ¬ (128 : Int) ≤ (c.toNat : Int) := by omega
  have e256 : (c.toNat : Int) < 256 := by omega
  have hdrop : (B ++ (w ++ T)).drop B.length = w ++ T := List.drop_left
  have hwl1 : IntKind.i64.wrap (((w ++ T).length : Int) - 1) = ((w.length + T.length - 1 : Nat) : Int) := by
    rw [IntKind.wrap_i64, List.length_append]; omega
  have hBl : (B.length : Int) ≤ ((B ++ (w ++ T)).length : Int) := by omega
  have hBn : B.length ≤ (B ++ (w ++ T)).length := by omega
  have htl : (B ++ (w ++ T)).take (B ++ (w ++ T)).length = B ++ (w ++ T) := List.take_length
  have hin := loopT3193 E cf m hT (.sv (.int .i64 B.length)) (.sv (.int .i64 (B ++ (w ++ T)).length)) (.sv (.sl (bytesSV (B ++ (w ++ T))))) w T (by rw [List.length_append]; omega) hTs hw0 d hd hd1 hd8 T.length m (Nat.le_refl _) hm
  unfold stT3193 at hin
  unfold st3193
  have hlI : (B.length : Int) < ((B ++ (w ++ T)).length : Int) := by omega
  clear hlen hgc hTs
  generalize hS : bytesSV (B ++ (w ++ T)) = SB at *
  generalize hX : B ++ (w ++ T) = X at *
  generalize hW : w ++ T = W at *
  generalize w.length + T.length - 1 = q at *
  generalize hb0 : B.length = bl at *
  generalize hx0 : X.length = xl at *
  generalize hwn : W.length = wn at *
  simp [b3193_1, hx0, hi, hlI, hil, hg, e128, e256, hsp, hBl, hBn, htl, hdrop, hwn, hwl1, hin]

theorem loop3193g (E : Env) (cf : CallF) (m : Nat) (hT : SpT E) (B w T : List UInt8) (c d : UInt8) (hs : (B ++ (w ++ T)).length < 1000000000) (hm : T.length < m) (hB : ∀ c ∈ B, spC c = true ∧ c.toNat < 128) (hTs : ∀ c ∈ T, spC c = true ∧ c.toNat < 128) (hc : w.head? = some c) (hc1 : spC c = false) (hc8 : c.toNat < 128) (hd : w.getLast? = some d) (hd1 : spC d = false) (hd8 : d.toNat < 128) :
    ∀ (rest pre : List UInt8) (k : Nat), B = pre ++ rest → rest.length < k → roundsA (evCA E cf m b3193_1) k (st3193 (B ++ (w ++ T)) pre.length) = some (.ret, { nt := 54, tm := [(2, .sv (.str w))], lz := none, bx := [], df := [] }) := by
  intro rest
  induction rest with
  | nil =>
    intro pre k hsp hk
    obtain ⟨k, rfl⟩ : ∃ k', k = k' + 1 := ⟨k - 1, by omega⟩
    rw [List.append_nil] at hsp
    subst hsp
    exact roundsA_out (stepV3193 E cf m hT B w T c d hs hm hTs hc hc1 hc8 hd hd1 hd8) (by simp)
  | cons x rest ih =>
    intro pre k hsp hk
    obtain ⟨k, rfl⟩ : ∃ k', k = k' + 1 := ⟨k - 1, by omega⟩
    obtain ⟨h1, h2⟩ := hB x (by rw [hsp]; simp)
    have hst := stepB3193 E cf m hT (B ++ (w ++ T)) hs pre.length (by rw [hsp]; simp) x (by rw [hsp]; simp) h1 h2
    rw [roundsA_step hst]
    have he := ih (pre ++ [x]) k (by rw [hsp]; simp) (by simp at hk; omega)
    rw [List.length_append, List.length_singleton] at he
    exact he

theorem ev3193g (E : Env) (h : E.code 185 = some c3193) (hT : SpT E) : S3193g (autoF E 185) := by
  intro B w T c d hs hB hTs hc hc1 hc8 hd hd1 hd8
  have hl := loop3193g E (evF E ((B ++ (w ++ T)).length + 1)) ((B ++ (w ++ T)).length + 1) hT B w T c d hs (by simp; omega) hB hTs hc hc1 hc8 hd hd1 hd8 B [] ((B ++ (w ++ T)).length + 1) rfl (by simp; omega)
  refine autoA_sv (n := (B ++ (w ++ T)).length + 1) ?_ rfl
  unfold evPA
  simp only [h]
  simp only [List.length_nil, st3193, Int.ofNat_zero, Int.natCast_zero] at hl
  have hbl : (bytesSV (B ++ (w ++ T))).length = (B ++ (w ++ T)).length := bytesSV_length _
  generalize B ++ (w ++ T) = X at *
  simp [c3193, hbl, hl]

end Go.Ev

set_option linter.unusedSimpArgs false
set_option linter.unusedVariables false
namespace Go.Ev
open Go.Proofs

/-- A text that is a label, but for a blank behind it. -/
def trimOf (l s : List UInt8) : Prop := ∃ T, l = s ++ T ∧ T.length ≤ 1 ∧ ∀ c ∈ T, c = 32

def S4183 (F : List SV → Option AV) : Prop := ∀ f ∈ limTab, ∀ a b : Nat, a < 18446744073709551616 → b < 18446744073709551616 → ∃ wh l1, F [.str (limBody f a b)] = some (.sv (.sl [.str wh, .str l1, .str (limVal a), .str (limVal b)])) ∧ trimOf l1 f.label

theorem limVal_wC (n : Nat) : ∀ c ∈ limVal n, wC c = true ∧ zB c = false := by
  intro c hc
  rcases (limVal_word n).2 c hc with h | h <;> constructor <;> simp only [wC, zB, Bool.or_eq_true, Bool.and_eq_true, decide_eq_true_eq, Bool.or_eq_false_iff, decide_eq_false_iff_not] <;> omega

theorem blanks_all (k : Nat) : ∀ c ∈ List.replicate k (32 : UInt8) ++ [32], c = 32 := by
  intro c hc
  rcases List.mem_append.1 hc with hc | hc
  · exact List.eq_of_mem_replicate hc
  · exact List.mem_singleton.1 hc

theorem leftS_blank (s : List UInt8) (n : Nat) (rest : List UInt8) : leftS s n ++ (32 :: rest) = s ++ ((List.replicate (n - s.length) 32 ++ [32]) ++ rest) := by
  unfold leftS; simp

theorem limBody_eq (f : LimF) (a b : Nat) : limBody f a b = f.label ++ ((List.replicate (25 - f.label.length) 32 ++ [32]) ++ (limVal a ++ ((List.replicate (20 - (limVal a).length) 32 ++ [32]) ++ (limVal b ++ ((List.replicate (20 - (limVal b).length) 32 ++ [32]) ++ leftS f.unit 10))))) := by
  unfold limBody
  rw [leftS_blank, leftS_blank, leftS_blank]

theorem behind_blank (k : Nat) (u : List UInt8) : (List.replicate k (32 : UInt8) ++ [32]) ++ u = [] ∨ ∃ B', (List.replicate k (32 : UInt8) ++ [32]) ++ u = 32 :: B' := by
  cases k with
  | zero => exact .inr ⟨u, by simp⟩
  | succ k => exact .inr ⟨List.replicate k 32 ++ [32] ++ u, by simp [List.replicate_succ]⟩

/-- A label of three words. -/
theorem lim3 (E : Env) (h : E.code 183 = some c4183) (h200 : E.code 200 = some c4200) (hp200 : E.pure 200 = none) (h97 : Has E 197 S4197) (f : LimF) (w e : List UInt8) (hf : f.label = (maxS ++ w) ++ (32 :: e)) (hl : f.label.length ≤ 24) (hu : f.unit.length ≤ 10) (hw : ∀ c ∈ w, wC c = true) (hw1 : w ≠ []) (he : ∀ c ∈ e, wC c = true) (he2 : e = [] ∨ ∃ c e', e = c :: e' ∧ zB c = false) (a b : Nat) (ha : a < 18446744073709551616) (hb : b < 18446744073709551616) :
    ∃ wh, autoF E 183 [.str (limBody f a b)] = some (.sv (.sl [.str wh, .str f.label, .str (limVal a), .str (limVal b)])) := by
  have hlen := limVal_len ha
  have hlen2 := limVal_len hb
  have hll : f.label.length = (maxS ++ w).length + (1 + e.length) := by rw [hf]; simp; omega
  have key := three4183 E h h200 hp200 h97 w e (List.replicate (25 - f.label.length) 32 ++ [32]) (limVal a) (List.replicate (20 - (limVal a).length) 32 ++ [32]) (limVal b) ((List.replicate (20 - (limVal b).length) 32 ++ [32]) ++ leftS f.unit 10) (by
    simp only [List.length_append, List.length_cons, List.length_replicate, List.length_nil, leftS] at hll ⊢; omega) hw hw1 he (blanks_all _) (by simp only [List.length_append, List.length_replicate, List.length_cons, List.length_nil]; omega) (limVal_wC a) (limVal_word a).1 (blanks_all _) (by simp) (limVal_wC b) (limVal_word b).1 (behind_blank _ _) he2
  rw [limBody_eq]
  have e1 : f.label ++ ((List.replicate (25 - f.label.length) 32 ++ [32]) ++ (limVal a ++ ((List.replicate (20 - (limVal a).length) 32 ++ [32]) ++ (limVal b ++ ((List.replicate (20 - (limVal b).length) 32 ++ [32]) ++ leftS f.unit 10))))) = (maxS ++ w) ++ (32 :: (e ++ ((List.replicate (25 - f.label.length) 32 ++ [32]) ++ (limVal a ++ ((List.replicate (20 - (limVal a).length) 32 ++ [32]) ++ (limVal b ++ ((List.replicate (20 - (limVal b).length) 32 ++ [32]) ++ leftS f.unit 10))))))) := by
    generalize (List.replicate (25 - f.label.length) 32 ++ [32]) = Q
    rw [hf]; simp
  rw [e1, key, hf]
  exact ⟨_, rfl⟩

/-- A label of two words: a blank goes with it. -/
theorem lim2 (E : Env) (h : E.code 183 = some c4183) (h200 : E.code 200 = some c4200) (hp200 : E.pure 200 = none) (h97 : Has E 197 S4197) (f : LimF) (w : List UInt8) (hf : f.label = maxS ++ w) (hl : f.label.length ≤ 20) (hu : f.unit.length ≤ 10) (hw : ∀ c ∈ w, wC c = true) (hw1 : w ≠ []) (a b : Nat) (ha : a < 18446744073709551616) (hb : b < 18446744073709551616) :
    ∃ wh, autoF E 183 [.str (limBody f a b)] = some (.sv (.sl [.str wh, .str (f.label ++ [32]), .str (limVal a), .str (limVal b)])) := by
  have hlen := limVal_len ha
  have hlen2 := limVal_len hb
  obtain ⟨k, hk⟩ : ∃ k, 25 - f.label.length = k + 1 := ⟨25 - f.label.length - 1, by omega⟩
  have hll : f.label.length = (maxS ++ w).length := by rw [hf]
  have key := three4183 E h h200 hp200 h97 w [] (List.replicate k 32 ++ [32]) (limVal a) (List.replicate (20 - (limVal a).length) 32 ++ [32]) (limVal b) ((List.replicate (20 - (limVal b).length) 32 ++ [32]) ++ leftS f.unit 10) (by
    simp only [List.length_append, List.length_cons, List.length_replicate, List.length_nil, leftS] at hll ⊢; omega) hw hw1 (by simp) (blanks_all _) (by simp only [List.length_append, List.length_replicate, List.length_cons, List.length_nil]; omega) (limVal_wC a) (limVal_word a).1 (blanks_all _) (by simp) (limVal_wC b) (limVal_word b).1 (behind_blank _ _) (.inl rfl)
  rw [limBody_eq, hk]
  have e1 : f.label ++ ((List.replicate (k + 1) 32 ++ [32]) ++ (limVal a ++ ((List.replicate (20 - (limVal a).length) 32 ++ [32]) ++ (limVal b ++ ((List.replicate (20 - (limVal b).length) 32 ++ [32]) ++ leftS f.unit 10))))) = (maxS ++ w) ++ (32 :: ([] ++ ((List.replicate k 32 ++ [32]) ++ (limVal a ++ ((List.replicate (20 - (limVal a).length) 32 ++ [32]) ++ (limVal b ++ ((List.replicate (20 - (limVal b).length) 32 ++ [32]) ++ leftS f.unit 10))))))) := by
    rw [hf, List.replicate_succ]; simp
  rw [e1, key, hf, List.append_assoc]
  exact ⟨_, rfl⟩

theorem lim4 (E : Env) (h : E.code 183 = some c4183) (h200 : E.code 200 = some c4200) (hp200 : E.pure 200 = none) (h97 : Has E 197 S4197) (f : LimF) (hf : f.label = cfsL) (hu : f.unit.length ≤ 10) (a b : Nat) (ha : a < 18446744073709551616) (hb : b < 18446744073709551616) :
    ∃ wh, autoF E 183 [.str (limBody f a b)] = some (.sv (.sl [.str wh, .str f.label, .str (limVal a), .str (limVal b)])) := by
  have hlen := limVal_len ha
  have hlen2 := limVal_len hb
  have hcl : cfsL.length = 18 := rfl
  have key := four4183 E h h200 hp200 h97 (List.replicate 7 32 ++ [32]) (limVal a) (List.replicate (20 - (limVal a).length) 32 ++ [32]) (limVal b) ((List.replicate (20 - (limVal b).length) 32 ++ [32]) ++ leftS f.unit 10) (by
    simp only [List.length_append, List.length_cons, List.length_replicate, List.length_nil, leftS, hcl]; omega) (blanks_all _) (by simp) (limVal_wC a) (limVal_word a).1 (blanks_all _) (by simp) (limVal_wC b) (limVal_word b).1 (behind_blank _ _)
  rw [limBody_eq, hf]
  exact ⟨_, key⟩

theorem trim_same (s : List UInt8) : trimOf s s := ⟨[], by simp⟩
theorem trim_one (s : List UInt8) : trimOf (s ++ [32]) s := ⟨[32], rfl, by simp, by simp⟩

theorem ev4183 (E : Env) (h : E.code 183 = some c4183) (h200 : E.code 200 = some c4200) (hp200 : E.pure 200 = none) (h97 : Has E 197 S4197) : S4183 (autoF E 183) := by
  intro f hf a b ha hb
  simp only [limTab, List.mem_cons, List.not_mem_nil, or_false] at hf
  rcases hf with rfl | rfl | rfl | rfl | rfl | rfl | rfl | rfl | rfl | rfl | rfl | rfl | rfl | rfl | rfl | rfl
  · obtain ⟨wh, e⟩ := lim3 E h h200 hp200 h97 ln0 [99, 112, 117] [116, 105, 109, 101] rfl (by decide) (by decide) (by decide) (by decide) (by decide) (.inr ⟨116, _, rfl, by decide⟩) a b ha hb
    exact ⟨wh, _, e, trim_same _⟩
  · obtain ⟨wh, e⟩ := lim3 E h h200 hp200 h97 ln1 [102, 105, 108, 101] [115, 105, 122, 101] rfl (by decide) (by decide) (by decide) (by decide) (by decide) (.inr ⟨115, _, rfl, by decide⟩) a b ha hb
    exact ⟨wh, _, e, trim_same _⟩
  · obtain ⟨wh, e⟩ := lim3 E h h200 hp200 h97 ln2 [100, 97, 116, 97] [115, 105, 122, 101] rfl (by decide) (by decide) (by decide) (by decide) (by decide) (.inr ⟨115, _, rfl, by decide⟩) a b ha hb
    exact ⟨wh, _, e, trim_same _⟩
  · obtain ⟨wh, e⟩ := lim3 E h h200 hp200 h97 ln3 [115, 116, 97, 99, 107] [115, 105, 122, 101] rfl (by decide) (by decide) (by decide) (by decide) (by decide) (.inr ⟨115, _, rfl, by decide⟩) a b ha hb
    exact ⟨wh, _, e, trim_same _⟩
  · obtain ⟨wh, e⟩ := lim4 E h h200 hp200 h97 ln4 rfl (by decide) a b ha hb
    exact ⟨wh, _, e, trim_same _⟩
  · obtain ⟨wh, e⟩ := lim3 E h h200 hp200 h97 ln5 [114, 101, 115, 105, 100, 101, 110, 116] [115, 101, 116] rfl (by decide) (by decide) (by decide) (by decide) (by decide) (.inr ⟨115, _, rfl, by decide⟩) a b ha hb
    exact ⟨wh, _, e, trim_same _⟩
  · obtain ⟨wh, e⟩ := lim2 E h h200 hp200 h97 ln6 [112, 114, 111, 99, 101, 115, 115, 101, 115] rfl (by decide) (by decide) (by decide) (by decide) a b ha hb
    exact ⟨wh, _, e, trim_one _⟩
  · obtain ⟨wh, e⟩ := lim3 E h h200 hp200 h97 ln7 [111, 112, 101, 110] [102, 105, 108, 101, 115] rfl (by decide) (by decide) (by decide) (by decide) (by decide) (.inr ⟨102, _, rfl, by decide⟩) a b ha hb
    exact ⟨wh, _, e, trim_same _⟩
  · obtain ⟨wh, e⟩ := lim3 E h h200 hp200 h97 ln8 [108, 111, 99, 107, 101, 100] [109, 101, 109, 111, 114, 121] rfl (by decide) (by decide) (by decide) (by decide) (by decide) (.inr ⟨109, _, rfl, by decide⟩) a b ha hb
    exact ⟨wh, _, e, trim_same _⟩
  · obtain ⟨wh, e⟩ := lim3 E h h200 hp200 h97 ln9 [97, 100, 100, 114, 101, 115, 115] [115, 112, 97, 99, 101] rfl (by decide) (by decide) (by decide) (by decide) (by decide) (.inr ⟨115, _, rfl, by decide⟩) a b ha hb
    exact ⟨wh, _, e, trim_same _⟩
  · obtain ⟨wh, e⟩ := lim3 E h h200 hp200 h97 ln10 [102, 105, 108, 101] [108, 111, 99, 107, 115] rfl (by decide) (by decide) (by decide) (by decide) (by decide) (.inr ⟨108, _, rfl, by decide⟩) a b ha hb
    exact ⟨wh, _, e, trim_same _⟩
  · obtain ⟨wh, e⟩ := lim3 E h h200 hp200 h97 ln11 [112, 101, 110, 100, 105, 110, 103] [115, 105, 103, 110, 97, 108, 115] rfl (by decide) (by decide) (by decide) (by decide) (by decide) (.inr ⟨115, _, rfl, by decide⟩) a b ha hb
    exact ⟨wh, _, e, trim_same _⟩
  · obtain ⟨wh, e⟩ := lim3 E h h200 hp200 h97 ln12 [109, 115, 103, 113, 117, 101, 117, 101] [115, 105, 122, 101] rfl (by decide) (by decide) (by decide) (by decide) (by decide) (.inr ⟨115, _, rfl, by decide⟩) a b ha hb
    exact ⟨wh, _, e, trim_same _⟩
  · obtain ⟨wh, e⟩ := lim3 E h h200 hp200 h97 ln13 [110, 105, 99, 101] [112, 114, 105, 111, 114, 105, 116, 121] rfl (by decide) (by decide) (by decide) (by decide) (by decide) (.inr ⟨112, _, rfl, by decide⟩) a b ha hb
    exact ⟨wh, _, e, trim_same _⟩
  · obtain ⟨wh, e⟩ := lim3 E h h200 hp200 h97 ln14 [114, 101, 97, 108, 116, 105, 109, 101] [112, 114, 105, 111, 114, 105, 116, 121] rfl (by decide) (by decide) (by decide) (by decide) (by decide) (.inr ⟨112, _, rfl, by decide⟩) a b ha hb
    exact ⟨wh, _, e, trim_same _⟩
  · obtain ⟨wh, e⟩ := lim3 E h h200 hp200 h97 ln15 [114, 101, 97, 108, 116, 105, 109, 101] [116, 105, 109, 101, 111, 117, 116] rfl (by decide) (by decide) (by decide) (by decide) (by decide) (.inr ⟨116, _, rfl, by decide⟩) a b ha hb
    exact ⟨wh, _, e, trim_same _⟩

def S2113t (F : List SV → Option AV) : Prop := ∀ s : List UInt8, F [.str s] = some (.sv (.agg [.int .i64 0, .str s]))
theorem ev2113t (E : Env) (h : E.code 50 = some c2113) (h38 : E.pure 37 = some F38) : S2113t (autoF E 50) := by
  intro s
  have hF : F38 [.str s] = some (.sv (.agg [.str s])) := rfl
  refine autoA_sv (n := 1) ?_ rfl
  unfold evPA
  simp only [h]
  simp [c2113, h38, hF]

def S2193t (F : List SV → Option AV) : Prop := ∀ (s : List UInt8) (l : List SV), F [.agg [.int .i64 0, .str s], .sl l] = some (.sv (.str s))
theorem ev2193t (E : Env) (h : E.code 179 = some c2193) : S2193t (autoF E 179) := by
  intro s l
  refine autoA_sv (n := 1) ?_ rfl
  unfold evPA
  simp only [h]
  simp [c2193]

/-! ### One line each -/

def st4051 (z0 z1 : Box) (C : List Cell) (s t : List UInt8) : SA := { nt := 207, tm := [(7, .ptr 3 0), (6, .ptr 2 0), (5, .sv .nilI), (2, .ptr 1 0)], lz := none, bx := [z0, z1, .live C, scanBox s t], df := [180] }

set_option maxRecDepth 100000 in
set_option maxHeartbeats 16000000 in
theorem line4051_0 (E : Env) (cf : CallF) (m : Nat) (hp88 : E.pure 182 = none) (hp90 : E.pure 184 = none) (FZ FT FU : List SV → Option AV) (pz : E.pure 183 = some FZ) (pt : E.pure 185 = some FT) (pu : E.pure 186 = some FU) (z0 z1 : Box) (C : List Cell) (hC : C.length = 16) (s t line rest : List UInt8)
    (hsc : cf 182 [.ptr 3 0] [z0, z1, .live C, scanBox s t] = some (.sv (.bool true), [z0, z1, .live C, scanBox rest line])) (htx : cf 184 [.ptr 3 0] [z0, z1, .live C, scanBox rest line] = some (.sv (.str line), [z0, z1, .live C, scanBox rest line]))
    (wh l1 u v : List UInt8) (n : Int) (eZ : FZ [.str line] = some (.sv (.sl [.str wh, .str l1, .str u, .str v]))) (eT : FT [.str l1] = some (.sv (.str [77, 97, 120, 32, 99, 112, 117, 32, 116, 105, 109, 101]))) (eU : FU [.str u] = some (.sv (.tup [.int .u64 n, .nilI]))) :
    evCA E cf m b4051_0 (st4051 z0 z1 C s t) = some (.normal, st4051 z0 z1 (C.set 0 (.sv (.int .u64 n))) rest line) := by
  simp only [scanBox] at *
  simp [st4051, scanBox, b4051_0, hp88, hp90, hsc, htx, pz, eZ, pt, eT, pu, eU, hC]

set_option maxRecDepth 100000 in
set_option maxHeartbeats 16000000 in
theorem line4051_1 (E : Env) (cf : CallF) (m : Nat) (hp88 : E.pure 182 = none) (hp90 : E.pure 184 = none) (FZ FT FU : List SV → Option AV) (pz : E.pure 183 = some FZ) (pt : E.pure 185 = some FT) (pu : E.pure 186 = some FU) (z0 z1 : Box) (C : List Cell) (hC : C.length = 16) (s t line rest : List UInt8)
    (hsc : cf 182 [.ptr 3 0] [z0, z1, .live C, scanBox s t] = some (.sv (.bool true), [z0, z1, .live C, scanBox rest line])) (htx : cf 184 [.ptr 3 0] [z0, z1, .live C, scanBox rest line] = some (.sv (.str line), [z0, z1, .live C, scanBox rest line]))
    (wh l1 u v : List UInt8) (n : Int) (eZ : FZ [.str line] = some (.sv (.sl [.str wh, .str l1, .str u, .str v]))) (eT : FT [.str l1] = some (.sv (.str [77, 97, 120, 32, 102, 105, 108, 101, 32, 115, 105, 122, 101]))) (eU : FU [.str u] = some (.sv (.tup [.int .u64 n, .nilI]))) :
    evCA E cf m b4051_0 (st4051 z0 z1 C s t) = some (.normal, st4051 z0 z1 (C.set 1 (.sv (.int .u64 n))) rest line) := by
  simp only [scanBox] at *
  simp [st4051, scanBox, b4051_0, hp88, hp90, hsc, htx, pz, eZ, pt, eT, pu, eU, hC]

set_option maxRecDepth 100000 in
set_option maxHeartbeats 16000000 in
theorem line4051_2 (E : Env) (cf : CallF) (m : Nat) (hp88 : E.pure 182 = none) (hp90 : E.pure 184 = none) (FZ FT FU : List SV → Option AV) (pz : E.pure 183 = some FZ) (pt : E.pure 185 = some FT) (pu : E.pure 186 = some FU) (z0 z1 : Box) (C : List Cell) (hC : C.length = 16) (s t line rest : List UInt8)
    (hsc : cf 182 [.ptr 3 0] [z0, z1, .live C, scanBox s t] = some (.sv (.bool true), [z0, z1, .live C, scanBox rest line])) (htx : cf 184 [.ptr 3 0] [z0, z1, .live C, scanBox rest line] = some (.sv (.str line), [z0, z1, .live C, scanBox rest line]))
    (wh l1 u v : List UInt8) (n : Int) (eZ : FZ [.str line] = some (.sv (.sl [.str wh, .str l1, .str u, .str v]))) (eT : FT [.str l1] = some (.sv (.str [77, 97, 120, 32, 100, 97, 116, 97, 32, 115, 105, 122, 101]))) (eU : FU [.str u] = some (.sv (.tup [.int .u64 n, .nilI]))) :
    evCA E cf m b4051_0 (st4051 z0 z1 C s t) = some (.normal, st4051 z0 z1 (C.set 2 (.sv (.int .u64 n))) rest line) := by
  simp only [scanBox] at *
  simp [st4051, scanBox, b4051_0, hp88, hp90, hsc, htx, pz, eZ, pt, eT, pu, eU, hC]

set_option maxRecDepth 100000 in
set_option maxHeartbeats 16000000 in
theorem line4051_3 (E : Env) (cf : CallF) (m : Nat) (hp88 : E.pure 182 = none) (hp90 : E.pure 184 = none) (FZ FT FU : List SV → Option AV) (pz : E.pure 183 = some FZ) (pt : E.pure 185 = some FT) (pu : E.pure 186 = some FU) (z0 z1 : Box) (C : List Cell) (hC : C.length = 16) (s t line rest : List UInt8)
    (hsc : cf 182 [.ptr 3 0] [z0, z1, .live C, scanBox s t] = some (.sv (.bool true), [z0, z1, .live C, scanBox rest line])) (htx : cf 184 [.ptr 3 0] [z0, z1, .live C, scanBox rest line] = some (.sv (.str line), [z0, z1, .live C, scanBox rest line]))
    (wh l1 u v : List UInt8) (n : Int) (eZ : FZ [.str line] = some (.sv (.sl [.str wh, .str l1, .str u, .str v]))) (eT : FT [.str l1] = some (.sv (.str [77, 97, 120, 32, 115, 116, 97, 99, 107, 32, 115, 105, 122, 101]))) (eU : FU [.str u] = some (.sv (.tup [.int .u64 n, .nilI]))) :
    evCA E cf m b4051_0 (st4051 z0 z1 C s t) = some (.normal, st4051 z0 z1 (C.set 3 (.sv (.int .u64 n))) rest line) := by
  simp only [scanBox] at *
  simp [st4051, scanBox, b4051_0, hp88, hp90, hsc, htx, pz, eZ, pt, eT, pu, eU, hC]

set_option maxRecDepth 100000 in
set_option maxHeartbeats 16000000 in
theorem line4051_4 (E : Env) (cf : CallF) (m : Nat) (hp88 : E.pure 182 = none) (hp90 : E.pure 184 = none) (FZ FT FU : List SV → Option AV) (pz : E.pure 183 = some FZ) (pt : E.pure 185 = some FT) (pu : E.pure 186 = some FU) (z0 z1 : Box) (C : List Cell) (hC : C.length = 16) (s t line rest : List UInt8)
    (hsc : cf 182 [.ptr 3 0] [z0, z1, .live C, scanBox s t] = some (.sv (.bool true), [z0, z1, .live C, scanBox rest line])) (htx : cf 184 [.ptr 3 0] [z0, z1, .live C, scanBox rest line] = some (.sv (.str line), [z0, z1, .live C, scanBox rest line]))
    (wh l1 u v : List UInt8) (n : Int) (eZ : FZ [.str line] = some (.sv (.sl [.str wh, .str l1, .str u, .str v]))) (eT : FT [.str l1] = some (.sv (.str [77, 97, 120, 32, 99, 111, 114, 101, 32, 102, 105, 108, 101, 32, 115, 105, 122, 101]))) (eU : FU [.str u] = some (.sv (.tup [.int .u64 n, .nilI]))) :
    evCA E cf m b4051_0 (st4051 z0 z1 C s t) = some (.normal, st4051 z0 z1 (C.set 4 (.sv (.int .u64 n))) rest line) := by
  simp only [scanBox] at *
  simp [st4051, scanBox, b4051_0, hp88, hp90, hsc, htx, pz, eZ, pt, eT, pu, eU, hC]

set_option maxRecDepth 100000 in
set_option maxHeartbeats 16000000 in
theorem line4051_5 (E : Env) (cf : CallF) (m : Nat) (hp88 : E.pure 182 = none) (hp90 : E.pure 184 = none) (FZ FT FU : List SV → Option AV) (pz : E.pure 183 = some FZ) (pt : E.pure 185 = some FT) (pu : E.pure 186 = some FU) (z0 z1 : Box) (C : List Cell) (hC : C.length = 16) (s t line rest : List UInt8)
    (hsc : cf 182 [.ptr 3 0] [z0, z1, .live C, scanBox s t] = some (.sv (.bool true), [z0, z1, .live C, scanBox rest line])) (htx : cf 184 [.ptr 3 0] [z0, z1, .live C, scanBox rest line] = some (.sv (.str line), [z0, z1, .live C, scanBox rest line]))
    (wh l1 u v : List UInt8) (n : Int) (eZ : FZ [.str line] = some (.sv (.sl [.str wh, .str l1, .str u, .str v]))) (eT : FT [.str l1] = some (.sv (.str [77, 97, 120, 32, 114, 101, 115, 105, 100, 101, 110, 116, 32, 115, 101, 116]))) (eU : FU [.str u] = some (.sv (.tup [.int .u64 n, .nilI]))) :
    evCA E cf m b4051_0 (st4051 z0 z1 C s t) = some (.normal, st4051 z0 z1 (C.set 5 (.sv (.int .u64 n))) rest line) := by
  simp only [scanBox] at *
  simp [st4051, scanBox, b4051_0, hp88, hp90, hsc, htx, pz, eZ, pt, eT, pu, eU, hC]

set_option maxRecDepth 100000 in
set_option maxHeartbeats 16000000 in
theorem line4051_6 (E : Env) (cf : CallF) (m : Nat) (hp88 : E.pure 182 = none) (hp90 : E.pure 184 = none) (FZ FT FU : List SV → Option AV) (pz : E.pure 183 = some FZ) (pt : E.pure 185 = some FT) (pu : E.pure 186 = some FU) (z0 z1 : Box) (C : List Cell) (hC : C.length = 16) (s t line rest : List UInt8)
    (hsc : cf 182 [.ptr 3 0] [z0, z1, .live C, scanBox s t] = some (.sv (.bool true), [z0, z1, .live C, scanBox rest line])) (htx : cf 184 [.ptr 3 0] [z0, z1, .live C, scanBox rest line] = some (.sv (.str line), [z0, z1, .live C, scanBox rest line]))
    (wh l1 u v : List UInt8) (n : Int) (eZ : FZ [.str line] = some (.sv (.sl [.str wh, .str l1, .str u, .str v]))) (eT : FT [.str l1] = some (.sv (.str [77, 97, 120, 32, 112, 114, 111, 99, 101, 115, 115, 101, 115]))) (eU : FU [.str u] = some (.sv (.tup [.int .u64 n, .nilI]))) :
    evCA E cf m b4051_0 (st4051 z0 z1 C s t) = some (.normal, st4051 z0 z1 (C.set 6 (.sv (.int .u64 n))) rest line) := by
  simp only [scanBox] at *
  simp [st4051, scanBox, b4051_0, hp88, hp90, hsc, htx, pz, eZ, pt, eT, pu, eU, hC]

set_option maxRecDepth 100000 in
set_option maxHeartbeats 16000000 in
theorem line4051_7 (E : Env) (cf : CallF) (m : Nat) (hp88 : E.pure 182 = none) (hp90 : E.pure 184 = none) (FZ FT FU : List SV → Option AV) (pz : E.pure 183 = some FZ) (pt : E.pure 185 = some FT) (pu : E.pure 186 = some FU) (z0 z1 : Box) (C : List Cell) (hC : C.length = 16) (s t line rest : List UInt8)
    (hsc : cf 182 [.ptr 3 0] [z0, z1, .live C, scanBox s t] = some (.sv (.bool true), [z0, z1, .live C, scanBox rest line])) (htx : cf 184 [.ptr 3 0] [z0, z1, .live C, scanBox rest line] = some (.sv (.str line), [z0, z1, .live C, scanBox rest line]))
    (wh l1 u v : List UInt8) (n : Int) (eZ : FZ [.str line] = some (.sv (.sl [.str wh, .str l1, .str u, .str v]))) (eT : FT [.str l1] = some (.sv (.str [77, 97, 120, 32, 111, 112, 101, 110, 32, 102, 105, 108, 101, 115]))) (eU : FU [.str u] = some (.sv (.tup [.int .u64 n, .nilI]))) :
    evCA E cf m b4051_0 (st4051 z0 z1 C s t) = some (.normal, st4051 z0 z1 (C.set 7 (.sv (.int .u64 n))) rest line) := by
  simp only [scanBox] at *
  simp [st4051, scanBox, b4051_0, hp88, hp90, hsc, htx, pz, eZ, pt, eT, pu, eU, hC]

set_option maxRecDepth 100000 in
set_option maxHeartbeats 16000000 in
theorem line4051_8 (E : Env) (cf : CallF) (m : Nat) (hp88 : E.pure 182 = none) (hp90 : E.pure 184 = none) (FZ FT FU : List SV → Option AV) (pz : E.pure 183 = some FZ) (pt : E.pure 185 = some FT) (pu : E.pure 186 = some FU) (z0 z1 : Box) (C : List Cell) (hC : C.length = 16) (s t line rest : List UInt8)
    (hsc : cf 182 [.ptr 3 0] [z0, z1, .live C, scanBox s t] = some (.sv (.bool true), [z0, z1, .live C, scanBox rest line])) (htx : cf 184 [.ptr 3 0] [z0, z1, .live C, scanBox rest line] = some (.sv (.str line), [z0, z1, .live C, scanBox rest line]))
    (wh l1 u v : List UInt8) (n : Int) (eZ : FZ [.str line] = some (.sv (.sl [.str wh, .str l1, .str u, .str v]))) (eT : FT [.str l1] = some (.sv (.str [77, 97, 120, 32, 108, 111, 99, 107, 101, 100, 32, 109, 101, 109, 111, 114, 121]))) (eU : FU [.str u] = some (.sv (.tup [.int .u64 n, .nilI]))) :
    evCA E cf m b4051_0 (st4051 z0 z1 C s t) = some (.normal, st4051 z0 z1 (C.set 8 (.sv (.int .u64 n))) rest line) := by
  simp only [scanBox] at *
  simp [st4051, scanBox, b4051_0, hp88, hp90, hsc, htx, pz, eZ, pt, eT, pu, eU, hC]

set_option maxRecDepth 100000 in
set_option maxHeartbeats 16000000 in
theorem line4051_9 (E : Env) (cf : CallF) (m : Nat) (hp88 : E.pure 182 = none) (hp90 : E.pure 184 = none) (FZ FT FU : List SV → Option AV) (pz : E.pure 183 = some FZ) (pt : E.pure 185 = some FT) (pu : E.pure 186 = some FU) (z0 z1 : Box) (C : List Cell) (hC : C.length = 16) (s t line rest : List UInt8)
    (hsc : cf 182 [.ptr 3 0] [z0, z1, .live C, scanBox s t] = some (.sv (.bool true), [z0, z1, .live C, scanBox rest line])) (htx : cf 184 [.ptr 3 0] [z0, z1, .live C, scanBox rest line] = some (.sv (.str line), [z0, z1, .live C, scanBox rest line]))
    (wh l1 u v : List UInt8) (n : Int) (eZ : FZ [.str line] = some (.sv (.sl [.str wh, .str l1, .str u, .str v]))) (eT : FT [.str l1] = some (.sv (.str [77, 97, 120, 32, 97, 100, 100, 114, 101, 115, 115, 32, 115, 112, 97, 99, 101]))) (eU : FU [.str u] = some (.sv (.tup [.int .u64 n, .nilI]))) :
    evCA E cf m b4051_0 (st4051 z0 z1 C s t) = some (.normal, st4051 z0 z1 (C.set 9 (.sv (.int .u64 n))) rest line) := by
  simp only [scanBox] at *
  simp [st4051, scanBox, b4051_0, hp88, hp90, hsc, htx, pz, eZ, pt, eT, pu, eU, hC]

set_option maxRecDepth 100000 in
set_option maxHeartbeats 16000000 in
theorem line4051_10 (E : Env) (cf : CallF) (m : Nat) (hp88 : E.pure 182 = none) (hp90 : E.pure 184 = none) (FZ FT FU : List SV → Option AV) (pz : E.pure 183 = some FZ) (pt : E.pure 185 = some FT) (pu : E.pure 186 = some FU) (z0 z1 : Box) (C : List Cell) (hC : C.length = 16) (s t line rest : List UInt8)
    (hsc : cf 182 [.ptr 3 0] [z0, z1, .live C, scanBox s t] = some (.sv (.bool true), [z0, z1, .live C, scanBox rest line])) (htx : cf 184 [.ptr 3 0] [z0, z1, .live C, scanBox rest line] = some (.sv (.str line), [z0, z1, .live C, scanBox rest line]))
    (wh l1 u v : List UInt8) (n : Int) (eZ : FZ [.str line] = some (.sv (.sl [.str wh, .str l1, .str u, .str v]))) (eT : FT [.str l1] = some (.sv (.str [77, 97, 120, 32, 102, 105, 108, 101, 32, 108, 111, 99, 107, 115]))) (eU : FU [.str u] = some (.sv (.tup [.int .u64 n, .nilI]))) :
    evCA E cf m b4051_0 (st4051 z0 z1 C s t) = some (.normal, st4051 z0 z1 (C.set 10 (.sv (.int .u64 n))) rest line) := by
  simp only [scanBox] at *
  simp [st4051, scanBox, b4051_0, hp88, hp90, hsc, htx, pz, eZ, pt, eT, pu, eU, hC]

set_option maxRecDepth 100000 in
set_option maxHeartbeats 16000000 in
theorem line4051_11 (E : Env) (cf : CallF) (m : Nat) (hp88 : E.pure 182 = none) (hp90 : E.pure 184 = none) (FZ FT FU : List SV → Option AV) (pz : E.pure 183 = some FZ) (pt : E.pure 185 = some FT) (pu : E.pure 186 = some FU) (z0 z1 : Box) (C : List Cell) (hC : C.length = 16) (s t line rest : List UInt8)
    (hsc : cf 182 [.ptr 3 0] [z0, z1, .live C, scanBox s t] = some (.sv (.bool true), [z0, z1, .live C, scanBox rest line])) (htx : cf 184 [.ptr 3 0] [z0, z1, .live C, scanBox rest line] = some (.sv (.str line), [z0, z1, .live C, scanBox rest line]))
    (wh l1 u v : List UInt8) (n : Int) (eZ : FZ [.str line] = some (.sv (.sl [.str wh, .str l1, .str u, .str v]))) (eT : FT [.str l1] = some (.sv (.str [77, 97, 120, 32, 112, 101, 110, 100, 105, 110, 103, 32, 115, 105, 103, 110, 97, 108, 115]))) (eU : FU [.str u] = some (.sv (.tup [.int .u64 n, .nilI]))) :
    evCA E cf m b4051_0 (st4051 z0 z1 C s t) = some (.normal, st4051 z0 z1 (C.set 11 (.sv (.int .u64 n))) rest line) := by
  simp only [scanBox] at *
  simp [st4051, scanBox, b4051_0, hp88, hp90, hsc, htx, pz, eZ, pt, eT, pu, eU, hC]

set_option maxRecDepth 100000 in
set_option maxHeartbeats 16000000 in
theorem line4051_12 (E : Env) (cf : CallF) (m : Nat) (hp88 : E.pure 182 = none) (hp90 : E.pure 184 = none) (FZ FT FU : List SV → Option AV) (pz : E.pure 183 = some FZ) (pt : E.pure 185 = some FT) (pu : E.pure 186 = some FU) (z0 z1 : Box) (C : List Cell) (hC : C.length = 16) (s t line rest : List UInt8)
    (hsc : cf 182 [.ptr 3 0] [z0, z1, .live C, scanBox s t] = some (.sv (.bool true), [z0, z1, .live C, scanBox rest line])) (htx : cf 184 [.ptr 3 0] [z0, z1, .live C, scanBox rest line] = some (.sv (.str line), [z0, z1, .live C, scanBox rest line]))
    (wh l1 u v : List UInt8) (n : Int) (eZ : FZ [.str line] = some (.sv (.sl [.str wh, .str l1, .str u, .str v]))) (eT : FT [.str l1] = some (.sv (.str [77, 97, 120, 32, 109, 115, 103, 113, 117, 101, 117, 101, 32, 115, 105, 122, 101]))) (eU : FU [.str u] = some (.sv (.tup [.int .u64 n, .nilI]))) :
    evCA E cf m b4051_0 (st4051 z0 z1 C s t) = some (.normal, st4051 z0 z1 (C.set 12 (.sv (.int .u64 n))) rest line) := by
  simp only [scanBox] at *
  simp [st4051, scanBox, b4051_0, hp88, hp90, hsc, htx, pz, eZ, pt, eT, pu, eU, hC]

set_option maxRecDepth 100000 in
set_option maxHeartbeats 16000000 in
theorem line4051_13 (E : Env) (cf : CallF) (m : Nat) (hp88 : E.pure 182 = none) (hp90 : E.pure 184 = none) (FZ FT FU : List SV → Option AV) (pz : E.pure 183 = some FZ) (pt : E.pure 185 = some FT) (pu : E.pure 186 = some FU) (z0 z1 : Box) (C : List Cell) (hC : C.length = 16) (s t line rest : List UInt8)
    (hsc : cf 182 [.ptr 3 0] [z0, z1, .live C, scanBox s t] = some (.sv (.bool true), [z0, z1, .live C, scanBox rest line])) (htx : cf 184 [.ptr 3 0] [z0, z1, .live C, scanBox rest line] = some (.sv (.str line), [z0, z1, .live C, scanBox rest line]))
    (wh l1 u v : List UInt8) (n : Int) (eZ : FZ [.str line] = some (.sv (.sl [.str wh, .str l1, .str u, .str v]))) (eT : FT [.str l1] = some (.sv (.str [77, 97, 120, 32, 110, 105, 99, 101, 32, 112, 114, 105, 111, 114, 105, 116, 121]))) (eU : FU [.str u] = some (.sv (.tup [.int .u64 n, .nilI]))) :
    evCA E cf m b4051_0 (st4051 z0 z1 C s t) = some (.normal, st4051 z0 z1 (C.set 13 (.sv (.int .u64 n))) rest line) := by
  simp only [scanBox] at *
  simp [st4051, scanBox, b4051_0, hp88, hp90, hsc, htx, pz, eZ, pt, eT, pu, eU, hC]

set_option maxRecDepth 100000 in
set_option maxHeartbeats 16000000 in
theorem line4051_14 (E : Env) (cf : CallF) (m : Nat) (hp88 : E.pure 182 = none) (hp90 : E.pure 184 = none) (FZ FT FU : List SV → Option AV) (pz : E.pure 183 = some FZ) (pt : E.pure 185 = some FT) (pu : E.pure 186 = some FU) (z0 z1 : Box) (C : List Cell) (hC : C.length = 16) (s t line rest : List UInt8)
    (hsc : cf 182 [.ptr 3 0] [z0, z1, .live C, scanBox s t] = some (.sv (.bool true), [z0, z1, .live C, scanBox rest line])) (htx : cf 184 [.ptr 3 0] [z0, z1, .live C, scanBox rest line] = some (.sv (.str line), [z0, z1, .live C, scanBox rest line]))
    (wh l1 u v : List UInt8) (n : Int) (eZ : FZ [.str line] = some (.sv (.sl [.str wh, .str l1, .str u, .str v]))) (eT : FT [.str l1] = some (.sv (.str [77, 97, 120, 32, 114, 101, 97, 108, 116, 105, 109, 101, 32, 112, 114, 105, 111, 114, 105, 116, 121]))) (eU : FU [.str u] = some (.sv (.tup [.int .u64 n, .nilI]))) :
    evCA E cf m b4051_0 (st4051 z0 z1 C s t) = some (.normal, st4051 z0 z1 (C.set 14 (.sv (.int .u64 n))) rest line) := by
  simp only [scanBox] at *
  simp [st4051, scanBox, b4051_0, hp88, hp90, hsc, htx, pz, eZ, pt, eT, pu, eU, hC]

set_option maxRecDepth 100000 in
set_option maxHeartbeats 16000000 in
theorem line4051_15 (E : Env) (cf : CallF) (m : Nat) (hp88 : E.pure 182 = none) (hp90 : E.pure 184 = none) (FZ FT FU : List SV → Option AV) (pz : E.pure 183 = some FZ) (pt : E.pure 185 = some FT) (pu : E.pure 186 = some FU) (z0 z1 : Box) (C : List Cell) (hC : C.length = 16) (s t line rest : List UInt8)
    (hsc : cf 182 [.ptr 3 0] [z0, z1, .live C, scanBox s t] = some (.sv (.bool true), [z0, z1, .live C, scanBox rest line])) (htx : cf 184 [.ptr 3 0] [z0, z1, .live C, scanBox rest line] = some (.sv (.str line), [z0, z1, .live C, scanBox rest line]))
    (wh l1 u v : List UInt8) (n : Int) (eZ : FZ [.str line] = some (.sv (.sl [.str wh, .str l1, .str u, .str v]))) (eT : FT [.str l1] = some (.sv (.str [77, 97, 120, 32, 114, 101, 97, 108, 116, 105, 109, 101, 32, 116, 105, 109, 101, 111, 117, 116]))) (eU : FU [.str u] = some (.sv (.tup [.int .u64 n, .nilI]))) :
    evCA E cf m b4051_0 (st4051 z0 z1 C s t) = some (.normal, st4051 z0 z1 (C.set 15 (.sv (.int .u64 n))) rest line) := by
  simp only [scanBox] at *
  simp [st4051, scanBox, b4051_0, hp88, hp90, hsc, htx, pz, eZ, pt, eT, pu, eU, hC]

end Go.Ev
