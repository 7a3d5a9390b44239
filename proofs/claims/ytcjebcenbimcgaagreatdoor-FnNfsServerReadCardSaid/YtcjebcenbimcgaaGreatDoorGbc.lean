/- NFS: the server: names, the parsers of lines, the trees of records (lines printed by a program of this work). -/
import Derived.Test.YtcjebcenbimcgaaGreatDoorGas
import Derived.Test.YtcjebcenbimcgaaGreatDoorGaq
import Derived.Test.YtcjebcenbimcgaaGreatDoorGal
set_option linter.unusedSimpArgs false
set_option linter.unusedVariables false
namespace Go.Ev
open Go.Proofs
def SNms (l : List (List UInt8)) (F : List SV → Option AV) : Prop := F [] = some (.sv (.sl (strs l)))
def S3149 (F : List SV → Option AV) : Prop := SNms nf_v2 F
theorem ev3149 (E : Env) (h : E.code 149 = some c3149) : S3149 (autoF E 149) := by
  refine autoA_sl (n := 1) (r := .own 9 (strs nf_v2)) ?_ rfl
  unfold evPA
  simp only [h]
  simp [c3149, strs, nf_v2]
def S3150 (F : List SV → Option AV) : Prop := SNms nf_v3 F
theorem ev3150 (E : Env) (h : E.code 150 = some c3150) : S3150 (autoF E 150) := by
  refine autoA_sl (n := 1) (r := .own 9 (strs nf_v3)) ?_ rfl
  unfold evPA
  simp only [h]
  simp [c3150, strs, nf_v3]
def S3166 (F : List SV → Option AV) : Prop := SNms nf_v4Ops F
theorem ev3166 (E : Env) (h : E.code 166 = some c3166) : S3166 (autoF E 166) := by
  refine autoA_sl (n := 1) (r := .own 9 (strs nf_v4Ops)) ?_ rfl
  unfold evPA
  simp only [h]
  simp [c3166, strs, nf_v4Ops]
def S3096 (F : List SV → Option AV) : Prop := F [] = some (.sv (.sl (grpsSV nfSrv)))
theorem ev3096 (E : Env) (h : E.code 96 = some c3096) (h49 : Has E 149 S3149) (h50 : Has E 150 S3150) (h66 : Has E 166 S3166) : S3096 (autoF E 96) := by
  obtain ⟨F2, p2, e2⟩ := h49
  obtain ⟨F3, p3, e3⟩ := h50
  obtain ⟨F4, p4, e4⟩ := h66
  unfold S3149 SNms at e2
  unfold S3150 SNms at e3
  unfold S3166 SNms at e4
  have hg : grpsSV nfSrv = [.agg [.str [114, 99], .str [82, 101, 112, 108, 121, 67, 97, 99, 104, 101], .sl [.str [72, 105, 116, 115], .str [77, 105, 115, 115, 101, 115], .str [78, 111, 67, 97, 99, 104, 101]]], .agg [.str [102, 104], .str [70, 105, 108, 101, 72, 97, 110, 100, 108, 101, 115], .sl [.str [83, 116, 97, 108, 101], .str [84, 111, 116, 97, 108, 76, 111, 111, 107, 117, 112, 115], .str [65, 110, 111, 110, 76, 111, 111, 107, 117, 112, 115], .str [68, 105, 114, 78, 111, 67, 97, 99, 104, 101], .str [78, 111, 68, 105, 114, 78, 111, 67, 97, 99, 104, 101]]], .agg [.str [105, 111], .str [73, 110, 112, 117, 116, 79, 117, 116, 112, 117, 116], .sl [.str [82, 101, 97, 100], .str [87, 114, 105, 116, 101]]], .agg [.str [116, 104], .str [84, 104, 114, 101, 97, 100, 115], .sl [.str [84, 104, 114, 101, 97, 100, 115], .str [70, 117, 108, 108, 67, 110, 116]]], .agg [.str [114, 97], .str [82, 101, 97, 100, 65, 104, 101, 97, 100, 67, 97, 99, 104, 101], .sl []], .agg [.str [110, 101, 116], .str [78, 101, 116, 119, 111, 114, 107], .sl [.str [78, 101, 116, 67, 111, 117, 110, 116], .str [85, 68, 80, 67, 111, 117, 110, 116], .str [84, 67, 80, 67, 111, 117, 110, 116], .str [84, 67, 80, 67, 111, 110, 110, 101, 99, 116]]], .agg [.str [114, 112, 99], .str [83, 101, 114, 118, 101, 114, 82, 80, 67], .sl [.str [82, 80, 67, 67, 111, 117, 110, 116], .str [66, 97, 100, 67, 110, 116], .str [66, 97, 100, 70, 109, 116], .str [66, 97, 100, 65, 117, 116, 104], .str [66, 97, 100, 99, 73, 110, 116]]], .agg [.str [112, 114, 111, 99, 50], .str [86, 50, 83, 116, 97, 116, 115], .sl (strs nf_v2)], .agg [.str [112, 114, 111, 99, 51], .str [86, 51, 83, 116, 97, 116, 115], .sl (strs nf_v3)], .agg [.str [112, 114, 111, 99, 52], .str [83, 101, 114, 118, 101, 114, 86, 52, 83, 116, 97, 116, 115], .sl [.str [78, 117, 108, 108], .str [67, 111, 109, 112, 111, 117, 110, 100]]], .agg [.str [112, 114, 111, 99, 52, 111, 112, 115], .str [86, 52, 79, 112, 115], .sl (strs nf_v4Ops)]] := rfl
  unfold S3096
  rw [hg]
  clear hg
  generalize strs nf_v2 = X2 at *
  generalize strs nf_v3 = X3 at *
  generalize strs nf_v4Ops = X4 at *
  refine autoA_sl (n := 1) (r := .own 110 [.agg [.str [114, 99], .str [82, 101, 112, 108, 121, 67, 97, 99, 104, 101], .sl [.str [72, 105, 116, 115], .str [77, 105, 115, 115, 101, 115], .str [78, 111, 67, 97, 99, 104, 101]]], .agg [.str [102, 104], .str [70, 105, 108, 101, 72, 97, 110, 100, 108, 101, 115], .sl [.str [83, 116, 97, 108, 101], .str [84, 111, 116, 97, 108, 76, 111, 111, 107, 117, 112, 115], .str [65, 110, 111, 110, 76, 111, 111, 107, 117, 112, 115], .str [68, 105, 114, 78, 111, 67, 97, 99, 104, 101], .str [78, 111, 68, 105, 114, 78, 111, 67, 97, 99, 104, 101]]], .agg [.str [105, 111], .str [73, 110, 112, 117, 116, 79, 117, 116, 112, 117, 116], .sl [.str [82, 101, 97, 100], .str [87, 114, 105, 116, 101]]], .agg [.str [116, 104], .str [84, 104, 114, 101, 97, 100, 115], .sl [.str [84, 104, 114, 101, 97, 100, 115], .str [70, 117, 108, 108, 67, 110, 116]]], .agg [.str [114, 97], .str [82, 101, 97, 100, 65, 104, 101, 97, 100, 67, 97, 99, 104, 101], .sl []], .agg [.str [110, 101, 116], .str [78, 101, 116, 119, 111, 114, 107], .sl [.str [78, 101, 116, 67, 111, 117, 110, 116], .str [85, 68, 80, 67, 111, 117, 110, 116], .str [84, 67, 80, 67, 111, 117, 110, 116], .str [84, 67, 80, 67, 111, 110, 110, 101, 99, 116]]], .agg [.str [114, 112, 99], .str [83, 101, 114, 118, 101, 114, 82, 80, 67], .sl [.str [82, 80, 67, 67, 111, 117, 110, 116], .str [66, 97, 100, 67, 110, 116], .str [66, 97, 100, 70, 109, 116], .str [66, 97, 100, 65, 117, 116, 104], .str [66, 97, 100, 99, 73, 110, 116]]], .agg [.str [112, 114, 111, 99, 50], .str [86, 50, 83, 116, 97, 116, 115], .sl X2], .agg [.str [112, 114, 111, 99, 51], .str [86, 51, 83, 116, 97, 116, 115], .sl X3], .agg [.str [112, 114, 111, 99, 52], .str [83, 101, 114, 118, 101, 114, 86, 52, 83, 116, 97, 116, 115], .sl [.str [78, 117, 108, 108], .str [67, 111, 109, 112, 111, 117, 110, 100]]], .agg [.str [112, 114, 111, 99, 52, 111, 112, 115], .str [86, 52, 79, 112, 115], .sl X4]]) ?_ rfl
  unfold evPA
  simp only [h]
  simp [c3096, p2, e2, p3, e3, p4, e4]
def SPar (k : Nat) (F : List SV → Option AV) : Prop := ∀ ns : List Nat, ns.length = k → F [.sl (u64s ns)] = some (.sv (.tup [.agg (u64s ns), .nilI]))
def SParL (k : Nat) (F : List SV → Option AV) : Prop := ∀ ns : List Nat, ns.length = k → F [.sl (u64s (k :: ns))] = some (.sv (.tup [.agg (u64s ns), .nilI]))
def STre (fs : List (List UInt8)) (F : List SV → Option AV) : Prop := ∀ (nm : List UInt8) (ns : List Nat), ns.length = fs.length → F [.str nm, .agg (u64s ns)] = some (.sv (fillN nm fs ns))
def S3167 (F : List SV → Option AV) : Prop := SPar 3 F
set_option maxRecDepth 100000 in
theorem ev3167 (E : Env) (h : E.code 167 = some c3167) : S3167 (autoF E 167) := by
  intro ns hn
  match ns, hn with
  | [q0, q1, q2], _ =>
    refine autoF_sv (n := 1) ?_ rfl
    unfold evP
    simp only [h]
    kernel_rfl
def S3168 (F : List SV → Option AV) : Prop := SPar 5 F
set_option maxRecDepth 100000 in
theorem ev3168 (E : Env) (h : E.code 168 = some c3168) : S3168 (autoF E 168) := by
  intro ns hn
  match ns, hn with
  | [q0, q1, q2, q3, q4], _ =>
    refine autoF_sv (n := 1) ?_ rfl
    unfold evP
    simp only [h]
    kernel_rfl
def S3169 (F : List SV → Option AV) : Prop := SPar 2 F
set_option maxRecDepth 100000 in
theorem ev3169 (E : Env) (h : E.code 169 = some c3169) : S3169 (autoF E 169) := by
  intro ns hn
  match ns, hn with
  | [q0, q1], _ =>
    refine autoF_sv (n := 1) ?_ rfl
    unfold evP
    simp only [h]
    kernel_rfl
def S3170 (F : List SV → Option AV) : Prop := SPar 2 F
set_option maxRecDepth 100000 in
theorem ev3170 (E : Env) (h : E.code 170 = some c3170) : S3170 (autoF E 170) := by
  intro ns hn
  match ns, hn with
  | [q0, q1], _ =>
    refine autoF_sv (n := 1) ?_ rfl
    unfold evP
    simp only [h]
    kernel_rfl
def S3154 (F : List SV → Option AV) : Prop := SPar 4 F
set_option maxRecDepth 100000 in
theorem ev3154 (E : Env) (h : E.code 154 = some c3154) : S3154 (autoF E 154) := by
  intro ns hn
  match ns, hn with
  | [q0, q1, q2, q3], _ =>
    refine autoF_sv (n := 1) ?_ rfl
    unfold evP
    simp only [h]
    kernel_rfl
def S3172 (F : List SV → Option AV) : Prop := SPar 5 F
set_option maxRecDepth 100000 in
theorem ev3172 (E : Env) (h : E.code 172 = some c3172) : S3172 (autoF E 172) := by
  intro ns hn
  match ns, hn with
  | [q0, q1, q2, q3, q4], _ =>
    refine autoF_sv (n := 1) ?_ rfl
    unfold evP
    simp only [h]
    kernel_rfl
def S3156 (F : List SV → Option AV) : Prop := SParL 18 F
set_option maxRecDepth 100000 in
theorem ev3156 (E : Env) (h : E.code 156 = some c3156) : S3156 (autoF E 156) := by
  intro ns hn
  match ns, hn with
  | [q0, q1, q2, q3, q4, q5, q6, q7, q8, q9, q10, q11, q12, q13, q14, q15, q16, q17], _ =>
    refine autoF_sv (n := 1) ?_ rfl
    unfold evP
    simp only [h]
    kernel_rfl
def S3157 (F : List SV → Option AV) : Prop := SParL 22 F
set_option maxRecDepth 100000 in
theorem ev3157 (E : Env) (h : E.code 157 = some c3157) : S3157 (autoF E 157) := by
  intro ns hn
  match ns, hn with
  | [q0, q1, q2, q3, q4, q5, q6, q7, q8, q9, q10, q11, q12, q13, q14, q15, q16, q17, q18, q19, q20, q21], _ =>
    refine autoF_sv (n := 1) ?_ rfl
    unfold evP
    simp only [h]
    kernel_rfl
def S3173 (F : List SV → Option AV) : Prop := SParL 2 F
set_option maxRecDepth 100000 in
theorem ev3173 (E : Env) (h : E.code 173 = some c3173) : S3173 (autoF E 173) := by
  intro ns hn
  match ns, hn with
  | [q0, q1], _ =>
    refine autoF_sv (n := 1) ?_ rfl
    unfold evP
    simp only [h]
    kernel_rfl
theorem consOf {k : Nat} {l : List Nat} (h : l.length = k + 1) : ∃ q l', l = q :: l' ∧ l'.length = k := by
  match l, h with
  | q :: l', h => exact ⟨q, l', rfl, by simpa using h⟩
theorem consGe {k : Nat} {l : List Nat} (h : k + 1 ≤ l.length) : ∃ q l', l = q :: l' ∧ k ≤ l'.length := by
  match l, h with
  | q :: l', h => exact ⟨q, l', rfl, by simpa using h⟩
def S3176 (F : List SV → Option AV) : Prop := STre [[72, 105, 116, 115], [77, 105, 115, 115, 101, 115], [78, 111, 67, 97, 99, 104, 101]] F
set_option maxRecDepth 100000 in
theorem ev3176 (E : Env) (h : E.code 176 = some c3176) : S3176 (autoF E 176) := by
  intro nm ns hn
  have hn : ns.length = 3 := hn
  obtain ⟨q0, n0, e, h0⟩ := consOf (k := 2) hn
  subst e
  obtain ⟨q1, n1, e, h1⟩ := consOf (k := 1) h0
  subst e
  obtain ⟨q2, n2, e, h2⟩ := consOf (k := 0) h1
  subst e
  obtain rfl := List.eq_nil_of_length_eq_zero h2
  refine autoF_sv (n := 1) ?_ rfl
  unfold evP
  simp only [h]
  kernel_rfl
def S3177 (F : List SV → Option AV) : Prop := STre [[83, 116, 97, 108, 101], [84, 111, 116, 97, 108, 76, 111, 111, 107, 117, 112, 115], [65, 110, 111, 110, 76, 111, 111, 107, 117, 112, 115], [68, 105, 114, 78, 111, 67, 97, 99, 104, 101], [78, 111, 68, 105, 114, 78, 111, 67, 97, 99, 104, 101]] F
set_option maxRecDepth 100000 in
theorem ev3177 (E : Env) (h : E.code 177 = some c3177) : S3177 (autoF E 177) := by
  intro nm ns hn
  have hn : ns.length = 5 := hn
  obtain ⟨q0, n0, e, h0⟩ := consOf (k := 4) hn
  subst e
  obtain ⟨q1, n1, e, h1⟩ := consOf (k := 3) h0
  subst e
  obtain ⟨q2, n2, e, h2⟩ := consOf (k := 2) h1
  subst e
  obtain ⟨q3, n3, e, h3⟩ := consOf (k := 1) h2
  subst e
  obtain ⟨q4, n4, e, h4⟩ := consOf (k := 0) h3
  subst e
  obtain rfl := List.eq_nil_of_length_eq_zero h4
  refine autoF_sv (n := 1) ?_ rfl
  unfold evP
  simp only [h]
  kernel_rfl
def S3178 (F : List SV → Option AV) : Prop := STre [[82, 101, 97, 100], [87, 114, 105, 116, 101]] F
set_option maxRecDepth 100000 in
theorem ev3178 (E : Env) (h : E.code 178 = some c3178) : S3178 (autoF E 178) := by
  intro nm ns hn
  have hn : ns.length = 2 := hn
  obtain ⟨q0, n0, e, h0⟩ := consOf (k := 1) hn
  subst e
  obtain ⟨q1, n1, e, h1⟩ := consOf (k := 0) h0
  subst e
  obtain rfl := List.eq_nil_of_length_eq_zero h1
  refine autoF_sv (n := 1) ?_ rfl
  unfold evP
  simp only [h]
  kernel_rfl
def S3179 (F : List SV → Option AV) : Prop := STre [[84, 104, 114, 101, 97, 100, 115], [70, 117, 108, 108, 67, 110, 116]] F
set_option maxRecDepth 100000 in
theorem ev3179 (E : Env) (h : E.code 179 = some c3179) : S3179 (autoF E 179) := by
  intro nm ns hn
  have hn : ns.length = 2 := hn
  obtain ⟨q0, n0, e, h0⟩ := consOf (k := 1) hn
  subst e
  obtain ⟨q1, n1, e, h1⟩ := consOf (k := 0) h0
  subst e
  obtain rfl := List.eq_nil_of_length_eq_zero h1
  refine autoF_sv (n := 1) ?_ rfl
  unfold evP
  simp only [h]
  kernel_rfl
def S3161 (F : List SV → Option AV) : Prop := STre [[78, 101, 116, 67, 111, 117, 110, 116], [85, 68, 80, 67, 111, 117, 110, 116], [84, 67, 80, 67, 111, 117, 110, 116], [84, 67, 80, 67, 111, 110, 110, 101, 99, 116]] F
set_option maxRecDepth 100000 in
theorem ev3161 (E : Env) (h : E.code 161 = some c3161) : S3161 (autoF E 161) := by
  intro nm ns hn
  have hn : ns.length = 4 := hn
  obtain ⟨q0, n0, e, h0⟩ := consOf (k := 3) hn
  subst e
  obtain ⟨q1, n1, e, h1⟩ := consOf (k := 2) h0
  subst e
  obtain ⟨q2, n2, e, h2⟩ := consOf (k := 1) h1
  subst e
  obtain ⟨q3, n3, e, h3⟩ := consOf (k := 0) h2
  subst e
  obtain rfl := List.eq_nil_of_length_eq_zero h3
  refine autoF_sv (n := 1) ?_ rfl
  unfold evP
  simp only [h]
  kernel_rfl
def S3181 (F : List SV → Option AV) : Prop := STre [[82, 80, 67, 67, 111, 117, 110, 116], [66, 97, 100, 67, 110, 116], [66, 97, 100, 70, 109, 116], [66, 97, 100, 65, 117, 116, 104], [66, 97, 100, 99, 73, 110, 116]] F
set_option maxRecDepth 100000 in
theorem ev3181 (E : Env) (h : E.code 181 = some c3181) : S3181 (autoF E 181) := by
  intro nm ns hn
  have hn : ns.length = 5 := hn
  obtain ⟨q0, n0, e, h0⟩ := consOf (k := 4) hn
  subst e
  obtain ⟨q1, n1, e, h1⟩ := consOf (k := 3) h0
  subst e
  obtain ⟨q2, n2, e, h2⟩ := consOf (k := 2) h1
  subst e
  obtain ⟨q3, n3, e, h3⟩ := consOf (k := 1) h2
  subst e
  obtain ⟨q4, n4, e, h4⟩ := consOf (k := 0) h3
  subst e
  obtain rfl := List.eq_nil_of_length_eq_zero h4
  refine autoF_sv (n := 1) ?_ rfl
  unfold evP
  simp only [h]
  kernel_rfl
def S3163 (F : List SV → Option AV) : Prop := STre nf_v2 F
set_option maxRecDepth 100000 in
theorem ev3163 (E : Env) (h : E.code 163 = some c3163) : S3163 (autoF E 163) := by
  intro nm ns hn
  have hn : ns.length = 18 := hn
  obtain ⟨q0, n0, e, h0⟩ := consOf (k := 17) hn
  subst e
  obtain ⟨q1, n1, e, h1⟩ := consOf (k := 16) h0
  subst e
  obtain ⟨q2, n2, e, h2⟩ := consOf (k := 15) h1
  subst e
  obtain ⟨q3, n3, e, h3⟩ := consOf (k := 14) h2
  subst e
  obtain ⟨q4, n4, e, h4⟩ := consOf (k := 13) h3
  subst e
  obtain ⟨q5, n5, e, h5⟩ := consOf (k := 12) h4
  subst e
  obtain ⟨q6, n6, e, h6⟩ := consOf (k := 11) h5
  subst e
  obtain ⟨q7, n7, e, h7⟩ := consOf (k := 10) h6
  subst e
  obtain ⟨q8, n8, e, h8⟩ := consOf (k := 9) h7
  subst e
  obtain ⟨q9, n9, e, h9⟩ := consOf (k := 8) h8
  subst e
  obtain ⟨q10, n10, e, h10⟩ := consOf (k := 7) h9
  subst e
  obtain ⟨q11, n11, e, h11⟩ := consOf (k := 6) h10
  subst e
  obtain ⟨q12, n12, e, h12⟩ := consOf (k := 5) h11
  subst e
  obtain ⟨q13, n13, e, h13⟩ := consOf (k := 4) h12
  subst e
  obtain ⟨q14, n14, e, h14⟩ := consOf (k := 3) h13
  subst e
  obtain ⟨q15, n15, e, h15⟩ := consOf (k := 2) h14
  subst e
  obtain ⟨q16, n16, e, h16⟩ := consOf (k := 1) h15
  subst e
  obtain ⟨q17, n17, e, h17⟩ := consOf (k := 0) h16
  subst e
  obtain rfl := List.eq_nil_of_length_eq_zero h17
  refine autoF_sv (n := 1) ?_ rfl
  unfold evP
  simp only [h]
  kernel_rfl
def S3164 (F : List SV → Option AV) : Prop := STre nf_v3 F
set_option maxRecDepth 100000 in
theorem ev3164 (E : Env) (h : E.code 164 = some c3164) : S3164 (autoF E 164) := by
  intro nm ns hn
  have hn : ns.length = 22 := hn
  obtain ⟨q0, n0, e, h0⟩ := consOf (k := 21) hn
  subst e
  obtain ⟨q1, n1, e, h1⟩ := consOf (k := 20) h0
  subst e
  obtain ⟨q2, n2, e, h2⟩ := consOf (k := 19) h1
  subst e
  obtain ⟨q3, n3, e, h3⟩ := consOf (k := 18) h2
  subst e
  obtain ⟨q4, n4, e, h4⟩ := consOf (k := 17) h3
  subst e
  obtain ⟨q5, n5, e, h5⟩ := consOf (k := 16) h4
  subst e
  obtain ⟨q6, n6, e, h6⟩ := consOf (k := 15) h5
  subst e
  obtain ⟨q7, n7, e, h7⟩ := consOf (k := 14) h6
  subst e
  obtain ⟨q8, n8, e, h8⟩ := consOf (k := 13) h7
  subst e
  obtain ⟨q9, n9, e, h9⟩ := consOf (k := 12) h8
  subst e
  obtain ⟨q10, n10, e, h10⟩ := consOf (k := 11) h9
  subst e
  obtain ⟨q11, n11, e, h11⟩ := consOf (k := 10) h10
  subst e
  obtain ⟨q12, n12, e, h12⟩ := consOf (k := 9) h11
  subst e
  obtain ⟨q13, n13, e, h13⟩ := consOf (k := 8) h12
  subst e
  obtain ⟨q14, n14, e, h14⟩ := consOf (k := 7) h13
  subst e
  obtain ⟨q15, n15, e, h15⟩ := consOf (k := 6) h14
  subst e
  obtain ⟨q16, n16, e, h16⟩ := consOf (k := 5) h15
  subst e
  obtain ⟨q17, n17, e, h17⟩ := consOf (k := 4) h16
  subst e
  obtain ⟨q18, n18, e, h18⟩ := consOf (k := 3) h17
  subst e
  obtain ⟨q19, n19, e, h19⟩ := consOf (k := 2) h18
  subst e
  obtain ⟨q20, n20, e, h20⟩ := consOf (k := 1) h19
  subst e
  obtain ⟨q21, n21, e, h21⟩ := consOf (k := 0) h20
  subst e
  obtain rfl := List.eq_nil_of_length_eq_zero h21
  refine autoF_sv (n := 1) ?_ rfl
  unfold evP
  simp only [h]
  kernel_rfl
def S3182 (F : List SV → Option AV) : Prop := STre [[78, 117, 108, 108], [67, 111, 109, 112, 111, 117, 110, 100]] F
set_option maxRecDepth 100000 in
theorem ev3182 (E : Env) (h : E.code 182 = some c3182) : S3182 (autoF E 182) := by
  intro nm ns hn
  have hn : ns.length = 2 := hn
  obtain ⟨q0, n0, e, h0⟩ := consOf (k := 1) hn
  subst e
  obtain ⟨q1, n1, e, h1⟩ := consOf (k := 0) h0
  subst e
  obtain rfl := List.eq_nil_of_length_eq_zero h1
  refine autoF_sv (n := 1) ?_ rfl
  unfold evP
  simp only [h]
  kernel_rfl
def S3183 (F : List SV → Option AV) : Prop := STre nf_v4Ops F
set_option maxRecDepth 100000 in
theorem ev3183 (E : Env) (h : E.code 183 = some c3183) : S3183 (autoF E 183) := by
  intro nm ns hn
  have hn : ns.length = 40 := hn
  obtain ⟨q0, n0, e, h0⟩ := consOf (k := 39) hn
  subst e
  obtain ⟨q1, n1, e, h1⟩ := consOf (k := 38) h0
  subst e
  obtain ⟨q2, n2, e, h2⟩ := consOf (k := 37) h1
  subst e
  obtain ⟨q3, n3, e, h3⟩ := consOf (k := 36) h2
  subst e
  obtain ⟨q4, n4, e, h4⟩ := consOf (k := 35) h3
  subst e
  obtain ⟨q5, n5, e, h5⟩ := consOf (k := 34) h4
  subst e
  obtain ⟨q6, n6, e, h6⟩ := consOf (k := 33) h5
  subst e
  obtain ⟨q7, n7, e, h7⟩ := consOf (k := 32) h6
  subst e
  obtain ⟨q8, n8, e, h8⟩ := consOf (k := 31) h7
  subst e
  obtain ⟨q9, n9, e, h9⟩ := consOf (k := 30) h8
  subst e
  obtain ⟨q10, n10, e, h10⟩ := consOf (k := 29) h9
  subst e
  obtain ⟨q11, n11, e, h11⟩ := consOf (k := 28) h10
  subst e
  obtain ⟨q12, n12, e, h12⟩ := consOf (k := 27) h11
  subst e
  obtain ⟨q13, n13, e, h13⟩ := consOf (k := 26) h12
  subst e
  obtain ⟨q14, n14, e, h14⟩ := consOf (k := 25) h13
  subst e
  obtain ⟨q15, n15, e, h15⟩ := consOf (k := 24) h14
  subst e
  obtain ⟨q16, n16, e, h16⟩ := consOf (k := 23) h15
  subst e
  obtain ⟨q17, n17, e, h17⟩ := consOf (k := 22) h16
  subst e
  obtain ⟨q18, n18, e, h18⟩ := consOf (k := 21) h17
  subst e
  obtain ⟨q19, n19, e, h19⟩ := consOf (k := 20) h18
  subst e
  obtain ⟨q20, n20, e, h20⟩ := consOf (k := 19) h19
  subst e
  obtain ⟨q21, n21, e, h21⟩ := consOf (k := 18) h20
  subst e
  obtain ⟨q22, n22, e, h22⟩ := consOf (k := 17) h21
  subst e
  obtain ⟨q23, n23, e, h23⟩ := consOf (k := 16) h22
  subst e
  obtain ⟨q24, n24, e, h24⟩ := consOf (k := 15) h23
  subst e
  obtain ⟨q25, n25, e, h25⟩ := consOf (k := 14) h24
  subst e
  obtain ⟨q26, n26, e, h26⟩ := consOf (k := 13) h25
  subst e
  obtain ⟨q27, n27, e, h27⟩ := consOf (k := 12) h26
  subst e
  obtain ⟨q28, n28, e, h28⟩ := consOf (k := 11) h27
  subst e
  obtain ⟨q29, n29, e, h29⟩ := consOf (k := 10) h28
  subst e
  obtain ⟨q30, n30, e, h30⟩ := consOf (k := 9) h29
  subst e
  obtain ⟨q31, n31, e, h31⟩ := consOf (k := 8) h30
  subst e
  obtain ⟨q32, n32, e, h32⟩ := consOf (k := 7) h31
  subst e
  obtain ⟨q33, n33, e, h33⟩ := consOf (k := 6) h32
  subst e
  obtain ⟨q34, n34, e, h34⟩ := consOf (k := 5) h33
  subst e
  obtain ⟨q35, n35, e, h35⟩ := consOf (k := 4) h34
  subst e
  obtain ⟨q36, n36, e, h36⟩ := consOf (k := 3) h35
  subst e
  obtain ⟨q37, n37, e, h37⟩ := consOf (k := 2) h36
  subst e
  obtain ⟨q38, n38, e, h38⟩ := consOf (k := 1) h37
  subst e
  obtain ⟨q39, n39, e, h39⟩ := consOf (k := 0) h38
  subst e
  obtain rfl := List.eq_nil_of_length_eq_zero h39
  refine autoF_sv (n := 1) ?_ rfl
  unfold evP
  simp only [h]
  kernel_rfl
def S3171 (F : List SV → Option AV) : Prop := ∀ (a b : Nat) (ns : List Nat), ns.length = 10 → F [.sl (u64s (a :: (ns ++ [b])))] = some (.sv (.tup [.agg [.int .u64 (a : Int), .sl (u64s ns), .int .u64 (b : Int)], .nilI]))
set_option maxRecDepth 100000 in
theorem ev3171 (E : Env) (h : E.code 171 = some c3171) : S3171 (autoF E 171) := by
  intro a b ns hn
  match ns, hn with
  | [q0, q1, q2, q3, q4, q5, q6, q7, q8, q9], _ =>
    refine autoF_sv (n := 1) ?_ rfl
    unfold evP
    simp only [h]
    kernel_rfl
theorem ev3198 (E : Env) (h : E.code 198 = some c3198) : SUn (autoF E 198) := by
  intro n
  refine autoA_sv (n := 1) ?_ rfl
  unfold evPA
  simp only [h]
  unfold uN nodeV
  simp [c3198]
def S101r (F : List SV → Option AV) : Prop := ∀ (nm : List UInt8) (ns : List Nat), ns.length < 100000000 → F [.str nm, .sl (u64s ns), .fn 198 [] []] = some (.sv (nodeV nm 6 false 0 0 0 [] (ns.map uN)))
theorem ev101r (E : Env) (h : E.code 130 = some c101) (h98 : Has E 198 SUn) : S101r (autoF E 130) := by
  obtain ⟨G, hG, hg⟩ := h98
  intro nm ns hl
  have he := loop101 E (evF E (ns.length + 1)) (ns.length + 1) G nm 198 hG hg (u64s ns) (by rw [u64s_length]; exact hl) (.live [.sv (.str []), .sv (.int .i64 0), .sv (.bool false), .sv (.int .i64 0), .sv (.int .u64 0), .sv (.flt .f64 0), .sv (.str []), .sv .nilS]) ns [] [] 0 (ns.length + 1) rfl rfl rfl (by omega)
  refine autoA_sv (n := ns.length + 1) ?_ rfl
  unfold evPA
  simp only [h]
  rw [List.nil_append] at he
  simp only [st101, accS, Int.ofNat_zero, Int.natCast_zero] at he
  generalize ns.map uN = ks at he ⊢
  generalize u64s ns = xs at he ⊢
  cases ks with
  | nil => simp only [accS] at he; simp [c101, he, nodeV]
  | cons y ys => simp only [accS] at he; simp [c101, he, nodeV]
def raNode (nm : List UInt8) (a b : Nat) (ns : List Nat) : SV := nodeV nm 8 false 0 0 0 [] [uNode [67, 97, 99, 104, 101, 83, 105, 122, 101] a, nodeV [67, 97, 99, 104, 101, 72, 105, 115, 116, 111, 103, 114, 97, 109] 6 false 0 0 0 [] (ns.map uN), uNode [78, 111, 116, 70, 111, 117, 110, 100] b]
def S3180 (F : List SV → Option AV) : Prop := ∀ (nm : List UInt8) (a b : Nat) (ns : List Nat), ns.length < 100000000 → F [.str nm, .agg [.int .u64 (a : Int), .sl (u64s ns), .int .u64 (b : Int)]] = some (.sv (raNode nm a b ns))
theorem ev3180 (E : Env) (h : E.code 180 = some c3180) (h01 : Has E 130 S101r) : S3180 (autoF E 180) := by
  obtain ⟨F, hp, hF⟩ := h01
  intro nm a b ns hl
  have hF1 := hF [67, 97, 99, 104, 101, 72, 105, 115, 116, 111, 103, 114, 97, 109] ns hl
  refine autoA_sv (n := 1) ?_ rfl
  unfold evPA
  simp only [h]
  unfold raNode uNode
  unfold nodeV at *
  generalize ns.map uN = ks at *
  generalize u64s ns = U at *
  simp [c3180, hp, hF1]
def S3174 (F : List SV → Option AV) : Prop := ∀ ns : List Nat, 40 ≤ ns.length → ns.length < 1000000000000 → F [.sl (u64s (ns.length :: ns))] = some (.sv (.tup [.agg (u64s (ns.take 40)), .nilI]))
set_option maxRecDepth 100000 in
set_option maxHeartbeats 40000000 in
theorem core3174 (E : Env) (h : E.code 174 = some c3174) (q1 q2 q3 q4 q5 q6 q7 q8 q9 q10 q11 q12 q13 q14 q15 q16 q17 q18 q19 q20 q21 q22 q23 q24 q25 q26 q27 q28 q29 q30 q31 q32 q33 q34 q35 q36 q37 q38 q39 q40 kk : Nat) (hk : 40 ≤ kk) (hkl : kk < 1000000000000) (xs : List SV) (hlen : xs.length = kk + 1) (hu : ∀ x ∈ xs, x.cells.length = 1) (g0 : ∀ h : 0 < xs.length, xs[0]'h = .int .u64 (kk : Int)) (g1 : ∀ h : 1 < xs.length, xs[1]'h = .int .u64 (q1 : Int)) (g2 : ∀ h : 2 < xs.length, xs[2]'h = .int .u64 (q2 : Int)) (g3 : ∀ h : 3 < xs.length, xs[3]'h = .int .u64 (q3 : Int)) (g4 : ∀ h : 4 < xs.length, xs[4]'h = .int .u64 (q4 : Int)) (g5 : ∀ h : 5 < xs.length, xs[5]'h = .int .u64 (q5 : Int)) (g6 : ∀ h : 6 < xs.length, xs[6]'h = .int .u64 (q6 : Int)) (g7 : ∀ h : 7 < xs.length, xs[7]'h = .int .u64 (q7 : Int)) (g8 : ∀ h : 8 < xs.length, xs[8]'h = .int .u64 (q8 : Int)) (g9 : ∀ h : 9 < xs.length, xs[9]'h = .int .u64 (q9 : Int)) (g10 : ∀ h : 10 < xs.length, xs[10]'h = .int .u64 (q10 : Int)) (g11 : ∀ h : 11 < xs.length, xs[11]'h = .int .u64 (q11 : Int)) (g12 : ∀ h : 12 < xs.length, xs[12]'h = .int .u64 (q12 : Int)) (g13 : ∀ h : 13 < xs.length, xs[13]'h = .int .u64 (q13 : Int)) (g14 : ∀ h : 14 < xs.length, xs[14]'h = .int .u64 (q14 : Int)) (g15 : ∀ h : 15 < xs.length, xs[15]'h = .int .u64 (q15 : Int)) (g16 : ∀ h : 16 < xs.length, xs[16]'h = .int .u64 (q16 : Int)) (g17 : ∀ h : 17 < xs.length, xs[17]'h = .int .u64 (q17 : Int)) (g18 : ∀ h : 18 < xs.length, xs[18]'h = .int .u64 (q18 : Int)) (g19 : ∀ h : 19 < xs.length, xs[19]'h = .int .u64 (q19 : Int)) (g20 : ∀ h : 20 < xs.length, xs[20]'h = .int .u64 (q20 : Int)) (g21 : ∀ h : 21 < xs.length, xs[21]'h = .int .u64 (q21 : Int)) (g22 : ∀ h : 22 < xs.length, xs[22]'h = .int .u64 (q22 : Int)) (g23 : ∀ h : 23 < xs.length, xs[23]'h = .int .u64 (q23 : Int)) (g24 : ∀ h : 24 < xs.length, xs[24]'h = .int .u64 (q24 : Int)) (g25 : ∀ h : 25 < xs.length, xs[25]'h = .int .u64 (q25 : Int)) (g26 : ∀ h : 26 < xs.length, xs[26]'h = .int .u64 (q26 : Int)) (g27 : ∀ h : 27 < xs.length, xs[27]'h = .int .u64 (q27 : Int)) (g28 : ∀ h : 28 < xs.length, xs[28]'h = .int .u64 (q28 : Int)) (g29 : ∀ h : 29 < xs.length, xs[29]'h = .int .u64 (q29 : Int)) (g30 : ∀ h : 30 < xs.length, xs[30]'h = .int .u64 (q30 : Int)) (g31 : ∀ h : 31 < xs.length, xs[31]'h = .int .u64 (q31 : Int)) (g32 : ∀ h : 32 < xs.length, xs[32]'h = .int .u64 (q32 : Int)) (g33 : ∀ h : 33 < xs.length, xs[33]'h = .int .u64 (q33 : Int)) (g34 : ∀ h : 34 < xs.length, xs[34]'h = .int .u64 (q34 : Int)) (g35 : ∀ h : 35 < xs.length, xs[35]'h = .int .u64 (q35 : Int)) (g36 : ∀ h : 36 < xs.length, xs[36]'h = .int .u64 (q36 : Int)) (g37 : ∀ h : 37 < xs.length, xs[37]'h = .int .u64 (q37 : Int)) (g38 : ∀ h : 38 < xs.length, xs[38]'h = .int .u64 (q38 : Int)) (g39 : ∀ h : 39 < xs.length, xs[39]'h = .int .u64 (q39 : Int)) (g40 : ∀ h : 40 < xs.length, xs[40]'h = .int .u64 (q40 : Int)) :
    evPA E 1 174 [.sl xs] = some (.sv (.tup [.agg [.int .u64 (q1 : Int), .int .u64 (q2 : Int), .int .u64 (q3 : Int), .int .u64 (q4 : Int), .int .u64 (q5 : Int), .int .u64 (q6 : Int), .int .u64 (q7 : Int), .int .u64 (q8 : Int), .int .u64 (q9 : Int), .int .u64 (q10 : Int), .int .u64 (q11 : Int), .int .u64 (q12 : Int), .int .u64 (q13 : Int), .int .u64 (q14 : Int), .int .u64 (q15 : Int), .int .u64 (q16 : Int), .int .u64 (q17 : Int), .int .u64 (q18 : Int), .int .u64 (q19 : Int), .int .u64 (q20 : Int), .int .u64 (q21 : Int), .int .u64 (q22 : Int), .int .u64 (q23 : Int), .int .u64 (q24 : Int), .int .u64 (q25 : Int), .int .u64 (q26 : Int), .int .u64 (q27 : Int), .int .u64 (q28 : Int), .int .u64 (q29 : Int), .int .u64 (q30 : Int), .int .u64 (q31 : Int), .int .u64 (q32 : Int), .int .u64 (q33 : Int), .int .u64 (q34 : Int), .int .u64 (q35 : Int), .int .u64 (q36 : Int), .int .u64 (q37 : Int), .int .u64 (q38 : Int), .int .u64 (q39 : Int), .int .u64 (q40 : Int)], .nilI])) := by
  have hw : IntKind.i64.wrap (kk : Int) = (kk : Int) := by rw [IntKind.wrap_i64]; omega
  have hu2 : (∀ x : SV, x ∈ xs → x.cells.length = 1) = True := eq_true hu
  simp only [SV.cells] at hu2
  have a1 : ¬ (kk : Int) < 39 := by omega
  have a2 : (39 : Int) < (kk : Int) := by omega
  have a3 : (1 : Int) ≤ (kk : Int) + 1 := by omega
  have a4 : (0 : Int) ≤ (kk : Int) + 1 := by omega
  have a5 : 1 ≤ kk + 1 := by omega
  have htk : xs.take (kk + 1) = xs := List.take_of_length_le (by omega)
  have i0 : (0 : Int) < (kk : Int) + 1 := by omega
  have i1 : (1 : Int) < (kk : Int) + 1 := by omega
  have i2 : (2 : Int) < (kk : Int) + 1 := by omega
  have i3 : (3 : Int) < (kk : Int) + 1 := by omega
  have i4 : (4 : Int) < (kk : Int) + 1 := by omega
  have i5 : (5 : Int) < (kk : Int) + 1 := by omega
  have i6 : (6 : Int) < (kk : Int) + 1 := by omega
  have i7 : (7 : Int) < (kk : Int) + 1 := by omega
  have i8 : (8 : Int) < (kk : Int) + 1 := by omega
  have i9 : (9 : Int) < (kk : Int) + 1 := by omega
  have i10 : (10 : Int) < (kk : Int) + 1 := by omega
  have i11 : (11 : Int) < (kk : Int) + 1 := by omega
  have i12 : (12 : Int) < (kk : Int) + 1 := by omega
  have i13 : (13 : Int) < (kk : Int) + 1 := by omega
  have i14 : (14 : Int) < (kk : Int) + 1 := by omega
  have i15 : (15 : Int) < (kk : Int) + 1 := by omega
  have i16 : (16 : Int) < (kk : Int) + 1 := by omega
  have i17 : (17 : Int) < (kk : Int) + 1 := by omega
  have i18 : (18 : Int) < (kk : Int) + 1 := by omega
  have i19 : (19 : Int) < (kk : Int) + 1 := by omega
  have i20 : (20 : Int) < (kk : Int) + 1 := by omega
  have i21 : (21 : Int) < (kk : Int) + 1 := by omega
  have i22 : (22 : Int) < (kk : Int) + 1 := by omega
  have i23 : (23 : Int) < (kk : Int) + 1 := by omega
  have i24 : (24 : Int) < (kk : Int) + 1 := by omega
  have i25 : (25 : Int) < (kk : Int) + 1 := by omega
  have i26 : (26 : Int) < (kk : Int) + 1 := by omega
  have i27 : (27 : Int) < (kk : Int) + 1 := by omega
  have i28 : (28 : Int) < (kk : Int) + 1 := by omega
  have i29 : (29 : Int) < (kk : Int) + 1 := by omega
  have i30 : (30 : Int) < (kk : Int) + 1 := by omega
  have i31 : (31 : Int) < (kk : Int) + 1 := by omega
  have i32 : (32 : Int) < (kk : Int) + 1 := by omega
  have i33 : (33 : Int) < (kk : Int) + 1 := by omega
  have i34 : (34 : Int) < (kk : Int) + 1 := by omega
  have i35 : (35 : Int) < (kk : Int) + 1 := by omega
  have i36 : (36 : Int) < (kk : Int) + 1 := by omega
  have i37 : (37 : Int) < (kk : Int) + 1 := by omega
  have i38 : (38 : Int) < (kk : Int) + 1 := by omega
  have i39 : (39 : Int) < (kk : Int) + 1 := by omega
  have i40 : (40 : Int) < (kk : Int) + 1 := by omega
  clear hu hkl
  have e0 := List.getElem?_eq_some_iff.2 ⟨by omega, g0 (by omega)⟩
  have e1 := List.getElem?_eq_some_iff.2 ⟨by omega, g1 (by omega)⟩
  have e2 := List.getElem?_eq_some_iff.2 ⟨by omega, g2 (by omega)⟩
  have e3 := List.getElem?_eq_some_iff.2 ⟨by omega, g3 (by omega)⟩
  have e4 := List.getElem?_eq_some_iff.2 ⟨by omega, g4 (by omega)⟩
  have e5 := List.getElem?_eq_some_iff.2 ⟨by omega, g5 (by omega)⟩
  have e6 := List.getElem?_eq_some_iff.2 ⟨by omega, g6 (by omega)⟩
  have e7 := List.getElem?_eq_some_iff.2 ⟨by omega, g7 (by omega)⟩
  have e8 := List.getElem?_eq_some_iff.2 ⟨by omega, g8 (by omega)⟩
  have e9 := List.getElem?_eq_some_iff.2 ⟨by omega, g9 (by omega)⟩
  have e10 := List.getElem?_eq_some_iff.2 ⟨by omega, g10 (by omega)⟩
  have e11 := List.getElem?_eq_some_iff.2 ⟨by omega, g11 (by omega)⟩
  have e12 := List.getElem?_eq_some_iff.2 ⟨by omega, g12 (by omega)⟩
  have e13 := List.getElem?_eq_some_iff.2 ⟨by omega, g13 (by omega)⟩
  have e14 := List.getElem?_eq_some_iff.2 ⟨by omega, g14 (by omega)⟩
  have e15 := List.getElem?_eq_some_iff.2 ⟨by omega, g15 (by omega)⟩
  have e16 := List.getElem?_eq_some_iff.2 ⟨by omega, g16 (by omega)⟩
  have e17 := List.getElem?_eq_some_iff.2 ⟨by omega, g17 (by omega)⟩
  have e18 := List.getElem?_eq_some_iff.2 ⟨by omega, g18 (by omega)⟩
  have e19 := List.getElem?_eq_some_iff.2 ⟨by omega, g19 (by omega)⟩
  have e20 := List.getElem?_eq_some_iff.2 ⟨by omega, g20 (by omega)⟩
  have e21 := List.getElem?_eq_some_iff.2 ⟨by omega, g21 (by omega)⟩
  have e22 := List.getElem?_eq_some_iff.2 ⟨by omega, g22 (by omega)⟩
  have e23 := List.getElem?_eq_some_iff.2 ⟨by omega, g23 (by omega)⟩
  have e24 := List.getElem?_eq_some_iff.2 ⟨by omega, g24 (by omega)⟩
  have e25 := List.getElem?_eq_some_iff.2 ⟨by omega, g25 (by omega)⟩
  have e26 := List.getElem?_eq_some_iff.2 ⟨by omega, g26 (by omega)⟩
  have e27 := List.getElem?_eq_some_iff.2 ⟨by omega, g27 (by omega)⟩
  have e28 := List.getElem?_eq_some_iff.2 ⟨by omega, g28 (by omega)⟩
  have e29 := List.getElem?_eq_some_iff.2 ⟨by omega, g29 (by omega)⟩
  have e30 := List.getElem?_eq_some_iff.2 ⟨by omega, g30 (by omega)⟩
  have e31 := List.getElem?_eq_some_iff.2 ⟨by omega, g31 (by omega)⟩
  have e32 := List.getElem?_eq_some_iff.2 ⟨by omega, g32 (by omega)⟩
  have e33 := List.getElem?_eq_some_iff.2 ⟨by omega, g33 (by omega)⟩
  have e34 := List.getElem?_eq_some_iff.2 ⟨by omega, g34 (by omega)⟩
  have e35 := List.getElem?_eq_some_iff.2 ⟨by omega, g35 (by omega)⟩
  have e36 := List.getElem?_eq_some_iff.2 ⟨by omega, g36 (by omega)⟩
  have e37 := List.getElem?_eq_some_iff.2 ⟨by omega, g37 (by omega)⟩
  have e38 := List.getElem?_eq_some_iff.2 ⟨by omega, g38 (by omega)⟩
  have e39 := List.getElem?_eq_some_iff.2 ⟨by omega, g39 (by omega)⟩
  have e40 := List.getElem?_eq_some_iff.2 ⟨by omega, g40 (by omega)⟩
  clear hk
  unfold evPA
  simp only [h]
  simp (maxSteps := 10000000) [c3174, hlen, hu2, hw, a1, a2, a3, a4, a5, htk, g0, e0, i0, g1, e1, i1, g2, e2, i2, g3, e3, i3, g4, e4, i4, g5, e5, i5, g6, e6, i6, g7, e7, i7, g8, e8, i8, g9, e9, i9, g10, e10, i10, g11, e11, i11, g12, e12, i12, g13, e13, i13, g14, e14, i14, g15, e15, i15, g16, e16, i16, g17, e17, i17, g18, e18, i18, g19, e19, i19, g20, e20, i20, g21, e21, i21, g22, e22, i22, g23, e23, i23, g24, e24, i24, g25, e25, i25, g26, e26, i26, g27, e27, i27, g28, e28, i28, g29, e29, i29, g30, e30, i30, g31, e31, i31, g32, e32, i32, g33, e33, i33, g34, e34, i34, g35, e35, i35, g36, e36, i36, g37, e37, i37, g38, e38, i38, g39, e39, i39, g40, e40, i40]
theorem ev3174 (E : Env) (h : E.code 174 = some c3174) : S3174 (autoF E 174) := by
  intro ns hn hl
  obtain ⟨q1, n1, e, h1⟩ := consGe (k := 39) hn
  subst e
  obtain ⟨q2, n2, e, h2⟩ := consGe (k := 38) h1
  subst e
  obtain ⟨q3, n3, e, h3⟩ := consGe (k := 37) h2
  subst e
  obtain ⟨q4, n4, e, h4⟩ := consGe (k := 36) h3
  subst e
  obtain ⟨q5, n5, e, h5⟩ := consGe (k := 35) h4
  subst e
  obtain ⟨q6, n6, e, h6⟩ := consGe (k := 34) h5
  subst e
  obtain ⟨q7, n7, e, h7⟩ := consGe (k := 33) h6
  subst e
  obtain ⟨q8, n8, e, h8⟩ := consGe (k := 32) h7
  subst e
  obtain ⟨q9, n9, e, h9⟩ := consGe (k := 31) h8
  subst e
  obtain ⟨q10, n10, e, h10⟩ := consGe (k := 30) h9
  subst e
  obtain ⟨q11, n11, e, h11⟩ := consGe (k := 29) h10
  subst e
  obtain ⟨q12, n12, e, h12⟩ := consGe (k := 28) h11
  subst e
  obtain ⟨q13, n13, e, h13⟩ := consGe (k := 27) h12
  subst e
  obtain ⟨q14, n14, e, h14⟩ := consGe (k := 26) h13
  subst e
  obtain ⟨q15, n15, e, h15⟩ := consGe (k := 25) h14
  subst e
  obtain ⟨q16, n16, e, h16⟩ := consGe (k := 24) h15
  subst e
  obtain ⟨q17, n17, e, h17⟩ := consGe (k := 23) h16
  subst e
  obtain ⟨q18, n18, e, h18⟩ := consGe (k := 22) h17
  subst e
  obtain ⟨q19, n19, e, h19⟩ := consGe (k := 21) h18
  subst e
  obtain ⟨q20, n20, e, h20⟩ := consGe (k := 20) h19
  subst e
  obtain ⟨q21, n21, e, h21⟩ := consGe (k := 19) h20
  subst e
  obtain ⟨q22, n22, e, h22⟩ := consGe (k := 18) h21
  subst e
  obtain ⟨q23, n23, e, h23⟩ := consGe (k := 17) h22
  subst e
  obtain ⟨q24, n24, e, h24⟩ := consGe (k := 16) h23
  subst e
  obtain ⟨q25, n25, e, h25⟩ := consGe (k := 15) h24
  subst e
  obtain ⟨q26, n26, e, h26⟩ := consGe (k := 14) h25
  subst e
  obtain ⟨q27, n27, e, h27⟩ := consGe (k := 13) h26
  subst e
  obtain ⟨q28, n28, e, h28⟩ := consGe (k := 12) h27
  subst e
  obtain ⟨q29, n29, e, h29⟩ := consGe (k := 11) h28
  subst e
  obtain ⟨q30, n30, e, h30⟩ := consGe (k := 10) h29
  subst e
  obtain ⟨q31, n31, e, h31⟩ := consGe (k := 9) h30
  subst e
  obtain ⟨q32, n32, e, h32⟩ := consGe (k := 8) h31
  subst e
  obtain ⟨q33, n33, e, h33⟩ := consGe (k := 7) h32
  subst e
  obtain ⟨q34, n34, e, h34⟩ := consGe (k := 6) h33
  subst e
  obtain ⟨q35, n35, e, h35⟩ := consGe (k := 5) h34
  subst e
  obtain ⟨q36, n36, e, h36⟩ := consGe (k := 4) h35
  subst e
  obtain ⟨q37, n37, e, h37⟩ := consGe (k := 3) h36
  subst e
  obtain ⟨q38, n38, e, h38⟩ := consGe (k := 2) h37
  subst e
  obtain ⟨q39, n39, e, h39⟩ := consGe (k := 1) h38
  subst e
  obtain ⟨q40, n40, e, h40⟩ := consGe (k := 0) h39
  subst e
  refine autoA_sv (n := 1) (core3174 E h q1 q2 q3 q4 q5 q6 q7 q8 q9 q10 q11 q12 q13 q14 q15 q16 q17 q18 q19 q20 q21 q22 q23 q24 q25 q26 q27 q28 q29 q30 q31 q32 q33 q34 q35 q36 q37 q38 q39 q40 (q1 :: q2 :: q3 :: q4 :: q5 :: q6 :: q7 :: q8 :: q9 :: q10 :: q11 :: q12 :: q13 :: q14 :: q15 :: q16 :: q17 :: q18 :: q19 :: q20 :: q21 :: q22 :: q23 :: q24 :: q25 :: q26 :: q27 :: q28 :: q29 :: q30 :: q31 :: q32 :: q33 :: q34 :: q35 :: q36 :: q37 :: q38 :: q39 :: q40 :: n40).length (by simp) hl (u64s ((q1 :: q2 :: q3 :: q4 :: q5 :: q6 :: q7 :: q8 :: q9 :: q10 :: q11 :: q12 :: q13 :: q14 :: q15 :: q16 :: q17 :: q18 :: q19 :: q20 :: q21 :: q22 :: q23 :: q24 :: q25 :: q26 :: q27 :: q28 :: q29 :: q30 :: q31 :: q32 :: q33 :: q34 :: q35 :: q36 :: q37 :: q38 :: q39 :: q40 :: n40).length :: q1 :: q2 :: q3 :: q4 :: q5 :: q6 :: q7 :: q8 :: q9 :: q10 :: q11 :: q12 :: q13 :: q14 :: q15 :: q16 :: q17 :: q18 :: q19 :: q20 :: q21 :: q22 :: q23 :: q24 :: q25 :: q26 :: q27 :: q28 :: q29 :: q30 :: q31 :: q32 :: q33 :: q34 :: q35 :: q36 :: q37 :: q38 :: q39 :: q40 :: n40)) (by rw [u64s_length]; rfl) (fun x hx => by
      obtain ⟨y, _, rfl⟩ := List.mem_map.1 hx
      rfl) (fun _ => rfl) (fun _ => rfl) (fun _ => rfl) (fun _ => rfl) (fun _ => rfl) (fun _ => rfl) (fun _ => rfl) (fun _ => rfl) (fun _ => rfl) (fun _ => rfl) (fun _ => rfl) (fun _ => rfl) (fun _ => rfl) (fun _ => rfl) (fun _ => rfl) (fun _ => rfl) (fun _ => rfl) (fun _ => rfl) (fun _ => rfl) (fun _ => rfl) (fun _ => rfl) (fun _ => rfl) (fun _ => rfl) (fun _ => rfl) (fun _ => rfl) (fun _ => rfl) (fun _ => rfl) (fun _ => rfl) (fun _ => rfl) (fun _ => rfl) (fun _ => rfl) (fun _ => rfl) (fun _ => rfl) (fun _ => rfl) (fun _ => rfl) (fun _ => rfl) (fun _ => rfl) (fun _ => rfl) (fun _ => rfl) (fun _ => rfl) (fun _ => rfl)) rfl
end Go.Ev
