/- NFS: the client: names, the parsers of lines, the trees of records (lines printed by a program of this work). -/
import Derived.Test.YtgeaomghbiamgaaGreatDoorGay
import Derived.Test.YtgeaomghbiamgaaGreatDoorGal
set_option linter.unusedSimpArgs false
set_option linter.unusedVariables false
namespace Go.Ev
open Go.Proofs

def S3151 (F : List SV → Option AV) : Prop := SNms nf_v4Client F

set_option maxRecDepth 100000 in
theorem ev3151 (E : Env) (h : E.code 70 = some c3151) : S3151 (autoF E 70) := by
  refine autoA_sl (n := 1) (r := .own 9 (strs nf_v4Client)) ?_ rfl
  unfold evPA
  simp only [h]
  simp [c3151, strs, nf_v4Client]

def S3085 (F : List SV → Option AV) : Prop := F [] = some (.sv (.sl (grpsSV nfCli)))

theorem ev3085 (E : Env) (h : E.code 26 = some c3085) (h49 : Has E 68 S3149) (h50 : Has E 69 S3150) (h51 : Has E 70 S3151) : S3085 (autoF E 26) := by
  obtain ⟨F2, p2, e2⟩ := h49
  obtain ⟨F3, p3, e3⟩ := h50
  obtain ⟨F4, p4, e4⟩ := h51
  unfold S3149 SNms at e2
  unfold S3150 SNms at e3
  unfold S3151 SNms at e4
  have hg : grpsSV nfCli = [.agg [.str [110, 101, 116], .str [78, 101, 116, 119, 111, 114, 107], .sl [.str [78, 101, 116, 67, 111, 117, 110, 116], .str [85, 68, 80, 67, 111, 117, 110, 116], .str [84, 67, 80, 67, 111, 117, 110, 116], .str [84, 67, 80, 67, 111, 110, 110, 101, 99, 116]]], .agg [.str [114, 112, 99], .str [67, 108, 105, 101, 110, 116, 82, 80, 67], .sl [.str [82, 80, 67, 67, 111, 117, 110, 116], .str [82, 101, 116, 114, 97, 110, 115, 109, 105, 115, 115, 105, 111, 110, 115], .str [65, 117, 116, 104, 82, 101, 102, 114, 101, 115, 104, 101, 115]]], .agg [.str [112, 114, 111, 99, 50], .str [86, 50, 83, 116, 97, 116, 115], .sl (strs nf_v2)], .agg [.str [112, 114, 111, 99, 51], .str [86, 51, 83, 116, 97, 116, 115], .sl (strs nf_v3)], .agg [.str [112, 114, 111, 99, 52], .str [67, 108, 105, 101, 110, 116, 86, 52, 83, 116, 97, 116, 115], .sl (strs nf_v4Client)]] := rfl
  unfold S3085
  rw [hg]
  clear hg
  generalize strs nf_v2 = X2 at *
  generalize strs nf_v3 = X3 at *
  generalize strs nf_v4Client = X4 at *
  refine autoA_sl (n := 1) (r := .own 56 [.agg [.str [110, 101, 116], .str [78, 101, 116, 119, 111, 114, 107], .sl [.str [78, 101, 116, 67, 111, 117, 110, 116], .str [85, 68, 80, 67, 111, 117, 110, 116], .str [84, 67, 80, 67, 111, 117, 110, 116], .str [84, 67, 80, 67, 111, 110, 110, 101, 99, 116]]], .agg [.str [114, 112, 99], .str [67, 108, 105, 101, 110, 116, 82, 80, 67], .sl [.str [82, 80, 67, 67, 111, 117, 110, 116], .str [82, 101, 116, 114, 97, 110, 115, 109, 105, 115, 115, 105, 111, 110, 115], .str [65, 117, 116, 104, 82, 101, 102, 114, 101, 115, 104, 101, 115]]], .agg [.str [112, 114, 111, 99, 50], .str [86, 50, 83, 116, 97, 116, 115], .sl X2], .agg [.str [112, 114, 111, 99, 51], .str [86, 51, 83, 116, 97, 116, 115], .sl X3], .agg [.str [112, 114, 111, 99, 52], .str [67, 108, 105, 101, 110, 116, 86, 52, 83, 116, 97, 116, 115], .sl X4]]) ?_ rfl
  unfold evPA
  simp only [h]
  simp [c3085, p2, e2, p3, e3, p4, e4]

def S3155 (F : List SV → Option AV) : Prop := SPar 3 F

set_option maxRecDepth 100000 in
theorem ev3155 (E : Env) (h : E.code 81 = some c3155) : S3155 (autoF E 81) := by
  intro ns hn
  match ns, hn with
  | [q0, q1, q2], _ =>
    refine autoF_sv (n := 1) ?_ rfl
    unfold evP
    simp only [h]
    kernel_rfl

def SParS (k : Nat) (F : List SV → Option AV) : Prop := ∀ ns : List Nat, ns.length = k → F [.sl (u64s (k :: ns))] = some (.sv (.tup [.agg (u64s (sw45 ns)), .nilI]))

def S3158 (F : List SV → Option AV) : Prop := SParS 59 F

set_option maxRecDepth 100000 in
theorem ev3158 (E : Env) (h : E.code 84 = some c3158) : S3158 (autoF E 84) := by
  intro ns hn
  obtain ⟨q0, n0, e, h0⟩ := consOf (k := 58) hn
  subst e
  obtain ⟨q1, n1, e, h1⟩ := consOf (k := 57) h0
  subst e
  obtain ⟨q2, n2, e, h2⟩ := consOf (k := 56) h1
  subst e
  obtain ⟨q3, n3, e, h3⟩ := consOf (k := 55) h2
  subst e
  obtain ⟨q4, n4, e, h4⟩ := consOf (k := 54) h3
  subst e
  obtain ⟨q5, n5, e, h5⟩ := consOf (k := 53) h4
  subst e
  obtain ⟨q6, n6, e, h6⟩ := consOf (k := 52) h5
  subst e
  obtain ⟨q7, n7, e, h7⟩ := consOf (k := 51) h6
  subst e
  obtain ⟨q8, n8, e, h8⟩ := consOf (k := 50) h7
  subst e
  obtain ⟨q9, n9, e, h9⟩ := consOf (k := 49) h8
  subst e
  obtain ⟨q10, n10, e, h10⟩ := consOf (k := 48) h9
  subst e
  obtain ⟨q11, n11, e, h11⟩ := consOf (k := 47) h10
  subst e
  obtain ⟨q12, n12, e, h12⟩ := consOf (k := 46) h11
  subst e
  obtain ⟨q13, n13, e, h13⟩ := consOf (k := 45) h12
  subst e
  obtain ⟨q14, n14, e, h14⟩ := consOf (k := 44) h13
  subst e
  obtain ⟨q15, n15, e, h15⟩ := consOf (k := 43) h14
  subst e
  obtain ⟨q16, n16, e, h16⟩ := consOf (k := 42) h15
  subst e
  obtain ⟨q17, n17, e, h17⟩ := consOf (k := 41) h16
  subst e
  obtain ⟨q18, n18, e, h18⟩ := consOf (k := 40) h17
  subst e
  obtain ⟨q19, n19, e, h19⟩ := consOf (k := 39) h18
  subst e
  obtain ⟨q20, n20, e, h20⟩ := consOf (k := 38) h19
  subst e
  obtain ⟨q21, n21, e, h21⟩ := consOf (k := 37) h20
  subst e
  obtain ⟨q22, n22, e, h22⟩ := consOf (k := 36) h21
  subst e
  obtain ⟨q23, n23, e, h23⟩ := consOf (k := 35) h22
  subst e
  obtain ⟨q24, n24, e, h24⟩ := consOf (k := 34) h23
  subst e
  obtain ⟨q25, n25, e, h25⟩ := consOf (k := 33) h24
  subst e
  obtain ⟨q26, n26, e, h26⟩ := consOf (k := 32) h25
  subst e
  obtain ⟨q27, n27, e, h27⟩ := consOf (k := 31) h26
  subst e
  obtain ⟨q28, n28, e, h28⟩ := consOf (k := 30) h27
  subst e
  obtain ⟨q29, n29, e, h29⟩ := consOf (k := 29) h28
  subst e
  obtain ⟨q30, n30, e, h30⟩ := consOf (k := 28) h29
  subst e
  obtain ⟨q31, n31, e, h31⟩ := consOf (k := 27) h30
  subst e
  obtain ⟨q32, n32, e, h32⟩ := consOf (k := 26) h31
  subst e
  obtain ⟨q33, n33, e, h33⟩ := consOf (k := 25) h32
  subst e
  obtain ⟨q34, n34, e, h34⟩ := consOf (k := 24) h33
  subst e
  obtain ⟨q35, n35, e, h35⟩ := consOf (k := 23) h34
  subst e
  obtain ⟨q36, n36, e, h36⟩ := consOf (k := 22) h35
  subst e
  obtain ⟨q37, n37, e, h37⟩ := consOf (k := 21) h36
  subst e
  obtain ⟨q38, n38, e, h38⟩ := consOf (k := 20) h37
  subst e
  obtain ⟨q39, n39, e, h39⟩ := consOf (k := 19) h38
  subst e
  obtain ⟨q40, n40, e, h40⟩ := consOf (k := 18) h39
  subst e
  obtain ⟨q41, n41, e, h41⟩ := consOf (k := 17) h40
  subst e
  obtain ⟨q42, n42, e, h42⟩ := consOf (k := 16) h41
  subst e
  obtain ⟨q43, n43, e, h43⟩ := consOf (k := 15) h42
  subst e
  obtain ⟨q44, n44, e, h44⟩ := consOf (k := 14) h43
  subst e
  obtain ⟨q45, n45, e, h45⟩ := consOf (k := 13) h44
  subst e
  obtain ⟨q46, n46, e, h46⟩ := consOf (k := 12) h45
  subst e
  obtain ⟨q47, n47, e, h47⟩ := consOf (k := 11) h46
  subst e
  obtain ⟨q48, n48, e, h48⟩ := consOf (k := 10) h47
  subst e
  obtain ⟨q49, n49, e, h49⟩ := consOf (k := 9) h48
  subst e
  obtain ⟨q50, n50, e, h50⟩ := consOf (k := 8) h49
  subst e
  obtain ⟨q51, n51, e, h51⟩ := consOf (k := 7) h50
  subst e
  obtain ⟨q52, n52, e, h52⟩ := consOf (k := 6) h51
  subst e
  obtain ⟨q53, n53, e, h53⟩ := consOf (k := 5) h52
  subst e
  obtain ⟨q54, n54, e, h54⟩ := consOf (k := 4) h53
  subst e
  obtain ⟨q55, n55, e, h55⟩ := consOf (k := 3) h54
  subst e
  obtain ⟨q56, n56, e, h56⟩ := consOf (k := 2) h55
  subst e
  obtain ⟨q57, n57, e, h57⟩ := consOf (k := 1) h56
  subst e
  obtain ⟨q58, n58, e, h58⟩ := consOf (k := 0) h57
  subst e
  obtain rfl := List.eq_nil_of_length_eq_zero h58
  refine autoF_sv (n := 1) ?_ rfl
  unfold evP
  simp only [h]
  kernel_rfl

def S3162 (F : List SV → Option AV) : Prop := STre [[82, 80, 67, 67, 111, 117, 110, 116], [82, 101, 116, 114, 97, 110, 115, 109, 105, 115, 115, 105, 111, 110, 115], [65, 117, 116, 104, 82, 101, 102, 114, 101, 115, 104, 101, 115]] F

set_option maxRecDepth 100000 in
theorem ev3162 (E : Env) (h : E.code 88 = some c3162) : S3162 (autoF E 88) := by
  intro nm ns hn
  have hn : ns.length = 3 := hn
  obtain ⟨q0, n0, e, h0⟩ := consOf (k := 2) hn
  subst e
  obtain ⟨q1, n1, e, h1⟩ := consOf (k := 1) h0
  subst e
  obtain ⟨q2, n2, e, h2⟩ := consOf (k := 0) h1
  subst e
  obtain rfl := List.eq_nil_of_length_eq_zero h2
  refine autoF_sv (n := 1) ?_ rfl
  unfold evP
  simp only [h]
  kernel_rfl

def S3165 (F : List SV → Option AV) : Prop := STre nf_v4Client F

set_option maxRecDepth 100000 in
theorem ev3165 (E : Env) (h : E.code 91 = some c3165) : S3165 (autoF E 91) := by
  intro nm ns hn
  have hn : ns.length = 59 := hn
  obtain ⟨q0, n0, e, h0⟩ := consOf (k := 58) hn
  subst e
  obtain ⟨q1, n1, e, h1⟩ := consOf (k := 57) h0
  subst e
  obtain ⟨q2, n2, e, h2⟩ := consOf (k := 56) h1
  subst e
  obtain ⟨q3, n3, e, h3⟩ := consOf (k := 55) h2
  subst e
  obtain ⟨q4, n4, e, h4⟩ := consOf (k := 54) h3
  subst e
  obtain ⟨q5, n5, e, h5⟩ := consOf (k := 53) h4
  subst e
  obtain ⟨q6, n6, e, h6⟩ := consOf (k := 52) h5
  subst e
  obtain ⟨q7, n7, e, h7⟩ := consOf (k := 51) h6
  subst e
  obtain ⟨q8, n8, e, h8⟩ := consOf (k := 50) h7
  subst e
  obtain ⟨q9, n9, e, h9⟩ := consOf (k := 49) h8
  subst e
  obtain ⟨q10, n10, e, h10⟩ := consOf (k := 48) h9
  subst e
  obtain ⟨q11, n11, e, h11⟩ := consOf (k := 47) h10
  subst e
  obtain ⟨q12, n12, e, h12⟩ := consOf (k := 46) h11
  subst e
  obtain ⟨q13, n13, e, h13⟩ := consOf (k := 45) h12
  subst e
  obtain ⟨q14, n14, e, h14⟩ := consOf (k := 44) h13
  subst e
  obtain ⟨q15, n15, e, h15⟩ := consOf (k := 43) h14
  subst e
  obtain ⟨q16, n16, e, h16⟩ := consOf (k := 42) h15
  subst e
  obtain ⟨q17, n17, e, h17⟩ := consOf (k := 41) h16
  subst e
  obtain ⟨q18, n18, e, h18⟩ := consOf (k := 40) h17
  subst e
  obtain ⟨q19, n19, e, h19⟩ := consOf (k := 39) h18
  subst e
  obtain ⟨q20, n20, e, h20⟩ := consOf (k := 38) h19
  subst e
  obtain ⟨q21, n21, e, h21⟩ := consOf (k := 37) h20
  subst e
  obtain ⟨q22, n22, e, h22⟩ := consOf (k := 36) h21
  subst e
  obtain ⟨q23, n23, e, h23⟩ := consOf (k := 35) h22
  subst e
  obtain ⟨q24, n24, e, h24⟩ := consOf (k := 34) h23
  subst e
  obtain ⟨q25, n25, e, h25⟩ := consOf (k := 33) h24
  subst e
  obtain ⟨q26, n26, e, h26⟩ := consOf (k := 32) h25
  subst e
  obtain ⟨q27, n27, e, h27⟩ := consOf (k := 31) h26
  subst e
  obtain ⟨q28, n28, e, h28⟩ := consOf (k := 30) h27
  subst e
  obtain ⟨q29, n29, e, h29⟩ := consOf (k := 29) h28
  subst e
  obtain ⟨q30, n30, e, h30⟩ := consOf (k := 28) h29
  subst e
  obtain ⟨q31, n31, e, h31⟩ := consOf (k := 27) h30
  subst e
  obtain ⟨q32, n32, e, h32⟩ := consOf (k := 26) h31
  subst e
  obtain ⟨q33, n33, e, h33⟩ := consOf (k := 25) h32
  subst e
  obtain ⟨q34, n34, e, h34⟩ := consOf (k := 24) h33
  subst e
  obtain ⟨q35, n35, e, h35⟩ := consOf (k := 23) h34
  subst e
  obtain ⟨q36, n36, e, h36⟩ := consOf (k := 22) h35
  subst e
  obtain ⟨q37, n37, e, h37⟩ := consOf (k := 21) h36
  subst e
  obtain ⟨q38, n38, e, h38⟩ := consOf (k := 20) h37
  subst e
  obtain ⟨q39, n39, e, h39⟩ := consOf (k := 19) h38
  subst e
  obtain ⟨q40, n40, e, h40⟩ := consOf (k := 18) h39
  subst e
  obtain ⟨q41, n41, e, h41⟩ := consOf (k := 17) h40
  subst e
  obtain ⟨q42, n42, e, h42⟩ := consOf (k := 16) h41
  subst e
  obtain ⟨q43, n43, e, h43⟩ := consOf (k := 15) h42
  subst e
  obtain ⟨q44, n44, e, h44⟩ := consOf (k := 14) h43
  subst e
  obtain ⟨q45, n45, e, h45⟩ := consOf (k := 13) h44
  subst e
  obtain ⟨q46, n46, e, h46⟩ := consOf (k := 12) h45
  subst e
  obtain ⟨q47, n47, e, h47⟩ := consOf (k := 11) h46
  subst e
  obtain ⟨q48, n48, e, h48⟩ := consOf (k := 10) h47
  subst e
  obtain ⟨q49, n49, e, h49⟩ := consOf (k := 9) h48
  subst e
  obtain ⟨q50, n50, e, h50⟩ := consOf (k := 8) h49
  subst e
  obtain ⟨q51, n51, e, h51⟩ := consOf (k := 7) h50
  subst e
  obtain ⟨q52, n52, e, h52⟩ := consOf (k := 6) h51
  subst e
  obtain ⟨q53, n53, e, h53⟩ := consOf (k := 5) h52
  subst e
  obtain ⟨q54, n54, e, h54⟩ := consOf (k := 4) h53
  subst e
  obtain ⟨q55, n55, e, h55⟩ := consOf (k := 3) h54
  subst e
  obtain ⟨q56, n56, e, h56⟩ := consOf (k := 2) h55
  subst e
  obtain ⟨q57, n57, e, h57⟩ := consOf (k := 1) h56
  subst e
  obtain ⟨q58, n58, e, h58⟩ := consOf (k := 0) h57
  subst e
  obtain rfl := List.eq_nil_of_length_eq_zero h58
  refine autoF_sv (n := 1) ?_ rfl
  unfold evP
  simp only [h]
  kernel_rfl

end Go.Ev
