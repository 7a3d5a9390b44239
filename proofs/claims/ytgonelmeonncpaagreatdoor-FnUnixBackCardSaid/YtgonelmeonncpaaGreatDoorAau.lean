/- Sockets of the Unix domain: the door's trees. -/
/- Sockets of the Unix domain: the laws. -/
/- Entries of the Unix domain. -/
/- A chain of entries: lines printed by a program of this work (chaina.py). -/
/- What the listed variables hold, in the evaluator's words. -/
/- Rows of an argument, opened: what the evaluator reads in them. -/
import Derived.Test.YtgonelmeonncpaaGreatDoorAat
import Derived.Test.YtgonelmeonncpaaGreatDoorAas
import Derived.Test.YtgonelmeonncpaaGreatDoorAaq
import Derived.Test.YtgonelmeonncpaaGreatDoorAar
import Derived.ProofKit
import Derived.OpenShut
import Derived.LaidMore
import Derived.Test.YtgonelmeonncpaaGreatDoorAae
import Derived.Test.YtgonelmeonncpaaGreatDoorAao
import Derived.SliceStrings
import Derived.ChangeSlices
set_option linter.unusedSimpArgs false
set_option linter.unusedVariables false
namespace Go.Ev
open Go.Proofs

def accKs (xs : List SV) : Cell := match xs with | [] => .sv .nilS | x :: l => .own 36 (x :: l)

def SUn (F : List SV → Option AV) : Prop := ∀ (nm : List UInt8) (u : Int), F [.str nm, .int .u64 u] = some (.sv (.agg [.str nm, .int .i64 3, .bool false, .int .i64 0, .int .u64 u, .flt .f64 0, .str [], .sl []]))

theorem ev2208 (E : Env) (h : E.code 208 = some c2208) : SUn (autoF E 208) := by
  intro nm u
  refine autoA_sv (n := 1) ?_ rfl
  unfold evPA
  simp only [h]
  simp [c2208]

theorem ev2209 (E : Env) (h : E.code 209 = some c2209) : SUn (autoF E 209) := by
  intro nm u
  refine autoA_sv (n := 1) ?_ rfl
  unfold evPA
  simp only [h]
  simp [c2209]

theorem ev2210 (E : Env) (h : E.code 210 = some c2210) : SUn (autoF E 210) := by
  intro nm u
  refine autoA_sv (n := 1) ?_ rfl
  unfold evPA
  simp only [h]
  simp [c2210]

/-- A row that has a socket's form. -/
theorem unForm {r : RowD} (h : unOk r = true) : ∃ (nm pa : List UInt8) (n0 n1 n2 n3 n4 n5 : Nat), unCells r = [.str nm, .int .u64 (n0 : Int), .int .u64 (n1 : Int), .int .u64 (n2 : Int), .int .u64 (n3 : Int), .int .u64 (n4 : Int), .int .u64 (n5 : Int), .str pa] ∧ unNode r = .agg [.str [], .int .i64 8, .bool false, .int .i64 0, .int .u64 0, .flt .f64 0, .str [], .sl [.agg [.str [75, 101, 114, 110, 101, 108, 80, 116, 114], .int .i64 5, .bool false, .int .i64 0, .int .u64 0, .flt .f64 0, .str nm, .sl []], .agg [.str [82, 101, 102, 67, 111, 117, 110, 116], .int .i64 3, .bool false, .int .i64 0, .int .u64 (n0 : Int), .flt .f64 0, .str [], .sl []], .agg [.str [80, 114, 111, 116, 111, 99, 111, 108], .int .i64 3, .bool false, .int .i64 0, .int .u64 (n1 : Int), .flt .f64 0, .str [], .sl []], .agg [.str [70, 108, 97, 103, 115], .int .i64 3, .bool false, .int .i64 0, .int .u64 (n2 : Int), .flt .f64 0, .str [], .sl []], .agg [.str [84, 121, 112, 101], .int .i64 3, .bool false, .int .i64 0, .int .u64 (n3 : Int), .flt .f64 0, .str [], .sl []], .agg [.str [83, 116, 97, 116, 101], .int .i64 3, .bool false, .int .i64 0, .int .u64 (n4 : Int), .flt .f64 0, .str [], .sl []], .agg [.str [73, 110, 111, 100, 101], .int .i64 3, .bool false, .int .i64 0, .int .u64 (n5 : Int), .flt .f64 0, .str [], .sl []], .agg [.str [80, 97, 116, 104], .int .i64 5, .bool false, .int .i64 0, .int .u64 0, .flt .f64 0, .str pa, .sl []]]] := by
  obtain ⟨n0, n2, n3, n4, n5, hu⟩ := unOk_spec h
  have hN := hu.hN
  refine ⟨r.name, unPath r.S, n0, 0, n2, n3, n4, n5, ?_, ?_⟩
  · unfold unCells; rw [hN]
  · unfold unNode; rw [hN]; rfl

def S2183 (F : List SV → Option AV) : Prop := ∀ r : RowD, unOk r = true → F [.str [], .agg (unCells r)] = some (.sv (unNode r))

set_option maxRecDepth 100000 in
set_option maxHeartbeats 16000000 in
theorem ev2183 (E : Env) (h : E.code 183 = some c2183) (h08 : Has E 208 SUn) (h09 : Has E 209 SUn) (h10 : Has E 210 SUn) : S2183 (autoF E 183) := by
  obtain ⟨F1, p1, s1⟩ := h08
  obtain ⟨F2, p2, s2⟩ := h09
  obtain ⟨F3, p3, s3⟩ := h10
  intro r hok
  obtain ⟨nm, pa, n0, n1, n2, n3, n4, n5, hc, hn⟩ := unForm hok
  rw [hc, hn]
  have q1 := s1 [70, 108, 97, 103, 115] (n2 : Int)
  have q2 := s2 [84, 121, 112, 101] (n3 : Int)
  have q3 := s3 [83, 116, 97, 116, 101] (n4 : Int)
  clear s1 s2 s3 hc hn hok
  refine autoA_sv (n := 1) ?_ rfl
  unfold evPA
  simp only [h]
  simp (maxSteps := 1000000) [c2183, p1, p2, p3, q1, q2, q3]

theorem unNode_agg (r : RowD) : ∃ k, unNode r = .agg [.str [], .int .i64 8, .bool false, .int .i64 0, .int .u64 0, .flt .f64 0, .str [], .sl k] := by
  unfold unNode
  split <;> exact ⟨_, rfl⟩

def S2182 (F : List SV → Option AV) : Prop := S2183 F

theorem ev2182 (E : Env) (h : E.code 182 = some c2182) (h83 : Has E 183 S2183) : S2182 (autoF E 182) := by
  obtain ⟨F, hp, hF⟩ := h83
  intro r hok
  have hFr := hF r hok
  obtain ⟨nm, pa, n0, n1, n2, n3, n4, n5, hc, hn⟩ := unForm hok
  obtain ⟨k, hk⟩ := unNode_agg r
  rw [hk] at hFr ⊢
  rw [hc] at hFr ⊢
  clear hc hn hk
  refine autoA_sv (n := 1) ?_ rfl
  unfold evPA
  simp only [h]
  simp [c2182, hp, hFr]

def S2181 (F : List SV → Option AV) : Prop := ∀ r : RowD, unOk r = true → F [.str [], .ref (unCells r), .fn 182 [] []] = some (.sv (unNode r))

theorem ev2181 (E : Env) (h : E.code 181 = some c2181) (h82 : Has E 182 S2182) : S2181 (autoF E 181) := by
  obtain ⟨F, hp, hF⟩ := h82
  intro r hok
  have hFr := hF r hok
  obtain ⟨nm, pa, n0, n1, n2, n3, n4, n5, hc, hn⟩ := unForm hok
  obtain ⟨k, hk⟩ := unNode_agg r
  rw [hk] at hFr ⊢
  rw [hc] at hFr ⊢
  clear hc hn hk
  refine autoA_sv (n := 1) ?_ rfl
  unfold evPA
  simp only [h]
  simp [c2181, hp, hFr]

def S2180 (F : List SV → Option AV) : Prop := ∀ r : RowD, unOk r = true → F [.ref (unCells r)] = some (.sv (unNode r))

theorem ev2180 (E : Env) (h : E.code 180 = some c2180) (h81 : Has E 181 S2181) : S2180 (autoF E 180) := by
  obtain ⟨F, hp, hF⟩ := h81
  intro r hok
  have hFr := hF r hok
  obtain ⟨k, hk⟩ := unNode_agg r
  rw [hk] at hFr ⊢
  refine autoA_sv (n := 1) ?_ rfl
  unfold evPA
  simp only [h]
  generalize unCells r = cs at *
  simp [c2180, hp, hFr]

/-! ### A list as a tree -/

def st2179 (xs acc : List SV) (i : Nat) (z : Box) : SA := { nt := 28, tm := [(14, .sv (.int .i64 i)), (13, .sv (.int .i64 xs.length)), (12, .sv (.sl xs)), (7, .ptr 1 0), (6, .ptr 0 0), (2, .sv (.fn 180 [] []))], lz := none, bx := [z, .live [.sv (.str [82, 111, 119, 115]), .sv (.int .i64 6), .sv (.bool false), .sv (.int .i64 0), .sv (.int .u64 0), .sv (.flt .f64 0), .sv (.str []), accKs (acc)]], df := [] }

set_option maxHeartbeats 4000000 in
theorem step2179 (E : Env) (cf : CallF) (m : Nat) (G : List SV → Option AV) (hG : E.pure 180 = some G) (xs acc : List SV) (ha : acc.length < 1000000000) (i : Nat) (hlt : i < xs.length) (hxl : xs.length < 100000000) (x : SV) (cs : List SV) (hx : x = .ref cs) (hc : ∀ h : i < xs.length, xs[i]'h = x) (v : SV) (k : List SV) (hv : v = .agg [.str [], .int .i64 8, .bool false, .int .i64 0, .int .u64 0, .flt .f64 0, .str [], .sl k]) (hgx : G [x] = some (.sv v)) (z : Box) :
    evCA E cf m b2179_0 (st2179 xs acc i z) = some (.normal, st2179 xs (acc ++ [v]) (i + 1) z) := by
  subst hx; subst hv
  have hw : IntKind.i64.wrap ((i : Int) + 1) = ((i + 1 : Nat) : Int) := by rw [IntKind.wrap_i64]; omega
  have hl1 : (acc.length + 1) * 96 ≤ 140737488355328 := by omega
  have hl2 : acc.length + 1 ≤ 140737488355328 := by omega
  cases acc with
  | nil => simp [st2179, b2179_0, hlt, hc, hG, hgx, hw, accKs]
  | cons y ys =>
    simp only [List.length_cons] at hl1 hl2
    simp [st2179, b2179_0, hlt, hc, hG, hgx, hw, accKs, hl1, hl2]

theorem loop2179 (E : Env) (cf : CallF) (m : Nat) (h80 : Has E 180 S2180) (xs : List SV) (hxl : xs.length < 100000000) (z : Box) :
    ∀ (rest : List RowD) (pre acc : List SV) (i : Nat) (k : Nat), xs = pre ++ unVals rest → i = pre.length → acc.length = i → (∀ r ∈ rest, unOk r = true) → rest.length < k →
      roundsA (evCA E cf m b2179_0) k (st2179 xs acc i z) = some (.exit 0, { nt := 28, tm := [(7, .ptr 1 0), (6, .ptr 0 0)], lz := none, bx := [z, .live [.sv (.str [82, 111, 119, 115]), .sv (.int .i64 6), .sv (.bool false), .sv (.int .i64 0), .sv (.int .u64 0), .sv (.flt .f64 0), .sv (.str []), accKs (acc ++ rest.map unNode)]], df := [] }) := by
  obtain ⟨G, hG, hg⟩ := h80
  intro rest
  induction rest with
  | nil =>
    intro pre acc i k hsp hi ha _ hk
    obtain ⟨k, rfl⟩ : ∃ k', k = k' + 1 := ⟨k - 1, by omega⟩
    have hlt : ¬ (i < xs.length) := by rw [hsp, hi]; simp [unVals]
    refine roundsA_out ?_ (by simp)
    simp [st2179, b2179_0, hlt]
  | cons r rest ih =>
    intro pre acc i k hsp hi ha hr hk
    obtain ⟨k, rfl⟩ : ∃ k', k = k' + 1 := ⟨k - 1, by omega⟩
    have hlt : i < xs.length := by rw [hsp, hi]; simp [unVals]
    obtain ⟨kk, hkk⟩ := unNode_agg r
    have hc : ∀ h : i < xs.length, xs[i]'h = .ref (unCells r) := by subst hi; subst hsp; simp [unVals]
    rw [roundsA_step (step2179 E cf m G hG xs acc (by omega) i hlt hxl _ (unCells r) rfl hc _ kk hkk (hg r (hr r (by simp))) z)]
    rw [ih (pre ++ [.ref (unCells r)]) (acc ++ [unNode r]) (i + 1) k (by rw [hsp]; simp [unVals]) (by simp [hi]) (by simp [ha]) (fun q hq => hr q (by simp [hq])) (by simp at hk; omega)]
    simp

def S2179 (F : List SV → Option AV) : Prop := ∀ rs : List RowD, rs.length < 100000000 → (∀ r ∈ rs, unOk r = true) → F [.str [82, 111, 119, 115], .sl (unVals rs), .fn 180 [] []] = some (.sv (nodeV [82, 111, 119, 115] 6 false 0 0 0 [] (rs.map unNode)))

theorem ev2179 (E : Env) (h : E.code 179 = some c2179) (h80 : Has E 180 S2180) : S2179 (autoF E 179) := by
  intro rs hl hr
  have he := loop2179 E (evF E (rs.length + 1)) (rs.length + 1) h80 (unVals rs) (by simpa [unVals] using hl) (.live [.sv (.str []), .sv (.int .i64 0), .sv (.bool false), .sv (.int .i64 0), .sv (.int .u64 0), .sv (.flt .f64 0), .sv (.str []), .sv .nilS]) rs [] [] 0 (rs.length + 1) rfl rfl rfl hr (by omega)
  refine autoA_sv (n := rs.length + 1) ?_ rfl
  unfold evPA
  simp only [h]
  rw [List.nil_append] at he
  simp only [st2179, accKs, Int.ofNat_zero, Int.natCast_zero] at he
  generalize rs.map unNode = ks at he ⊢
  generalize unVals rs = xs at he ⊢
  cases ks with
  | nil => simp only [accKs] at he; simp [c2179, he, nodeV]
  | cons y ys => simp only [accKs] at he; simp [c2179, he, nodeV]

def S2087 (F : List SV → Option AV) : Prop := ∀ rs : List RowD, rs.length < 100000000 → (∀ r ∈ rs, unOk r = true) → F [.str [], .agg [.sl (unVals rs)]] = some (.sv (unTree rs))

set_option maxHeartbeats 4000000 in
theorem ev2087 (E : Env) (h : E.code 87 = some c2087) (h79 : Has E 179 S2179) : S2087 (autoF E 87) := by
  obtain ⟨F, hp, hF⟩ := h79
  intro rs hl hr
  have hF1 := hF rs hl hr
  refine autoA_sv (n := 1) ?_ rfl
  unfold evPA
  simp only [h]
  unfold unTree
  unfold nodeV at *
  generalize rs.map unNode = ks at *
  generalize unVals rs = vs at *
  simp [c2087, hp, hF1]

def S2086 (F : List SV → Option AV) : Prop := ∀ rs : List RowD, rs.length < 100000000 → (∀ r ∈ rs, unOk r = true) → F [.str [], .ref [.sl (unVals rs)], .fn 87 [] []] = some (.sv (unTree rs))

theorem ev2086 (E : Env) (h : E.code 86 = some c2086) (h87 : Has E 87 S2087) : S2086 (autoF E 86) := by
  obtain ⟨F, hp, hF⟩ := h87
  intro rs hl hr
  have hF1 := hF rs hl hr
  refine autoA_sv (n := 1) ?_ rfl
  unfold evPA
  simp only [h]
  unfold unTree at *
  unfold nodeV at *
  generalize rs.map unNode = ks at *
  generalize unVals rs = vs at *
  simp [c2086, hp, hF1]

def S2085 (F : List SV → Option AV) : Prop := ∀ rs : List RowD, rs.length < 100000000 → (∀ r ∈ rs, unOk r = true) → F [.ref [.sl (unVals rs)]] = some (.sv (unTree rs))

theorem ev2085 (E : Env) (h : E.code 85 = some c2085) (h86 : Has E 86 S2086) : S2085 (autoF E 85) := by
  obtain ⟨F, hp, hF⟩ := h86
  intro rs hl hr
  have hF1 := hF rs hl hr
  refine autoA_sv (n := 1) ?_ rfl
  unfold evPA
  simp only [h]
  unfold unTree at *
  unfold nodeV at *
  generalize rs.map unNode = ks at *
  generalize unVals rs = vs at *
  simp [c2085, hp, hF1]

def S2083 (F : List SV → Option AV) : Prop := ∀ (s : List UInt8) (rs : List RowD), unRead s = some rs → s.length ≤ 40000 → F [.fn 84 [.agg [.str s]] [], .fn 85 [] []] = some (.sv (.tup [unTree rs, .int .i64 0]))

theorem ev2083 (E : Env) (h : E.code 83 = some c2083) (hq : E.quiet 177 = true) (hS : Has E 84 S2084) (hC : Has E 85 S2085) : S2083 (autoF E 83) := by
  obtain ⟨F, hp, hF⟩ := hS
  obtain ⟨G, hg, hG⟩ := hC
  intro s rs hr hs
  have hF1 := hF s rs hr hs
  obtain ⟨rest, g1, _, g3, g4⟩ := unRead_spec hr
  obtain ⟨f1, f2⟩ := unRows_fit g3 (by rw [g1] at hs; simp at hs; omega)
  have hG1 := hG rs (by omega) g4
  clear g1 g3 g4 hr hF hG
  refine autoA_sv (n := 1) ?_ rfl
  unfold evPA
  simp only [h]
  unfold unTree nodeV at *
  generalize rs.map unNode = kids at *
  generalize unVals rs = vs at *
  simp [c2083, hp, hF1, hg, hG1, hq]

def S2033 (F : List SV → Option AV) : Prop := ∀ (s : List UInt8) (rs : List RowD), unRead s = some rs → s.length ≤ 40000 → F [.str s] = some (.sv (.tup [unTree rs, .int .i64 0]))

theorem ev2033 (E : Env) (h : E.code 33 = some c2033) (h38 : E.pure 55 = some F38) (hT : Has E 83 S2083) : S2033 (autoF E 33) := by
  obtain ⟨F, hp, hF⟩ := hT
  intro s rs hr hs
  have hF1 := hF s rs hr hs
  refine autoA_sv (n := 1) ?_ rfl
  unfold evPA
  simp only [h]
  unfold unTree nodeV at *
  generalize rs.map unNode = kids at *
  simp [c2033, h38, F38, hp, hF1]

end Go.Ev

set_option linter.unusedSimpArgs false
set_option linter.unusedVariables false
namespace Go.Ev
open Go.Proofs

def S9u (F : List SV → Option AV) : Prop := ∀ s : List UInt8, F [.str s, .fn 34 [] [], .fn 32 [] [], .fn 33 [] []] = some (.sv (.bool true))

theorem ev9u (E : Env) (h : E.code 15 = some c9) (hR : Has E 34 S2034) (hT : Has E 32 S2032) (hD : Has E 33 S2033) (h25 : E.pure 29 = some F25) (h26 : E.pure 43 = some F26) (h27 : E.pure 44 = some F27) : S9u (autoF E 15) := by
  obtain ⟨FR, hpR, hFR⟩ := hR
  obtain ⟨FT, hpT, hFT⟩ := hT
  obtain ⟨FD, hpD, hFD⟩ := hD
  intro s
  refine autoF_sv (n := 1) ?_ rfl
  by_cases hs : 40000 < s.length
  · exact ev9_long E h _ _ _ s hs 1
  · have hr1 := hFR s (by omega)
    cases hr : unRead s with
    | none =>
      rw [hr] at hr1
      obtain ⟨l, b, hF⟩ := hr1
      exact ev9_opn E h _ _ _ FR hpR h25 s (by omega) l b hF 1
    | some rs =>
      rw [hr] at hr1
      obtain ⟨hF, hf, hok⟩ := hr1
      exact ev9_yes E h _ _ _ FR FT FD hpR hpT hpD h25 h26 h27 s (by omega) _ _ (unTree_node rs hf.1) hF (hFT rs hf (List.all_eq_true.2 hok)) (hFD s rs hr (by omega)) 1

def S13u (F : List SV → Option AV) : Prop := ∀ s : List UInt8, F [.str s, .fn 34 [] [], .fn 31 [] [], .fn 33 [] []] = some (.sv (.bool true))

theorem ev13u (E : Env) (h : E.code 19 = some c13) (hR : Has E 34 S2034) (hP : Has E 31 S2031) (hD : Has E 33 S2033) (h25 : E.pure 29 = some F25) (h26 : E.pure 43 = some F26) (h27 : E.pure 44 = some F27) : S13u (autoF E 19) := by
  obtain ⟨FR, hpR, hFR⟩ := hR
  obtain ⟨FP, hpP, hFP⟩ := hP
  obtain ⟨FD, hpD, hFD⟩ := hD
  intro s
  refine autoF_sv (n := 1) ?_ rfl
  by_cases hs : 40000 < s.length
  · exact ev13_long E h _ _ _ s hs 1
  · have hr1 := hFR s (by omega)
    cases hr : unRead s with
    | none =>
      rw [hr] at hr1
      obtain ⟨l, b, hF⟩ := hr1
      exact ev13_opn E h _ _ _ FR hpR h25 s (by omega) l b hF 1
    | some rs =>
      rw [hr] at hr1
      obtain ⟨hF, hf, hok⟩ := hr1
      have hp := hFP rs hf
      rw [if_pos (List.all_eq_true.2 hok)] at hp
      exact ev13_yes E h _ _ _ FR FP FD hpR hpP hpD h25 h26 h27 s (unText rs) (by omega) _ _ (unTree_node rs hf.1) hF hp (hFD s rs hr (by omega)) (fun ho => hFD _ rs (unRead_text hok) ho) 1

def S1016u (F : List SV → Option AV) : Prop := ∀ l : List RowD, zzRows l = true → (∀ r ∈ l, ∀ n ∈ r.N, n < 18446744073709551616) → F [.sl (rowsSV l), .fn 31 [] [], .fn 32 [] [], .fn 33 [] []] = some (.sv (.bool true))

theorem ev1016u (E : Env) (h : E.code 30 = some c1016) (hP : Has E 31 S2031) (hT : Has E 32 S2032) (hD : Has E 33 S2033) (h25 : E.pure 29 = some F25) (h26 : E.pure 43 = some F26) (h27 : E.pure 44 = some F27) : S1016u (autoF E 30) := by
  obtain ⟨FP, hpP, hFP⟩ := hP
  obtain ⟨FT, hpT, hFT⟩ := hT
  obtain ⟨FD, hpD, hFD⟩ := hD
  intro l hz hn
  refine autoF_sv (n := 1) ?_ rfl
  have hrl : (rowsSV l).length = l.length := by simp [rowsSV]
  by_cases hl : 1000 < l.length
  · exact ev1016_long E h _ _ _ _ (by omega) 1
  · have hf := zzRows_fit hz hn (by omega)
    have hF := hFP l hf
    cases hx : l.all unOk with
    | false =>
      rw [if_neg (by simp [hx])] at hF
      exact ev1016_open E h _ _ _ FP hpP h25 _ (by omega) [] 2 hF (.inl (by decide)) 1
    | true =>
      rw [if_pos hx] at hF
      by_cases ho : 40000 < (unText l).length
      · exact ev1016_open E h _ _ _ FP hpP h25 _ (by omega) (unText l) 1 hF (.inr ho) 1
      · exact ev1016_yes E h _ _ _ FP FT FD hpP hpT hpD h25 h26 h27 _ (by omega) (unText l) (by omega) (unTree l) (unTree_node l hf.1) hF (hFT l hf hx) (hFD _ l (unRead_text (List.all_eq_true.1 hx)) (by omega)) 1

theorem ev2009 (E : Env) (h : E.code 9 = some c2009) (h9 : Has E 15 S9u) (s : List UInt8) (n : Nat) : evP E n 9 [.str s] = some (.sv (.bool true)) := by
  obtain ⟨F, hp, hF⟩ := h9
  have hF1 := hF s
  unfold evP
  simp only [h]
  by_cases hs : 2147483647 < s.length
  · have e : (2147483647 : Int) < (s.length : Int) := by omega
    simp [c2009, List.replicate, e]
  · have e : ¬ (2147483647 : Int) < (s.length : Int) := by omega
    simp [c2009, List.replicate, e, hp, hF1]

theorem ev2008 (E : Env) (h : E.code 8 = some c2008) (h13 : Has E 19 S13u) (s : List UInt8) (n : Nat) : evP E n 8 [.str s] = some (.sv (.bool true)) := by
  obtain ⟨F, hp, hF⟩ := h13
  have hF1 := hF s
  unfold evP
  simp only [h]
  by_cases hs : 2147483647 < s.length
  · have e : (2147483647 : Int) < (s.length : Int) := by omega
    simp [c2008, List.replicate, e]
  · have e : ¬ (2147483647 : Int) < (s.length : Int) := by omega
    simp [c2008, List.replicate, e, hp, hF1]

theorem ev2007 (E : Env) (h : E.code 7 = some c2007) (h15 : E.pure 24 = some F1015) (h16 : Has E 30 S1016u) (l : List RowD) (hn : ∀ r ∈ l, ∀ n ∈ r.N, n < 18446744073709551616) (n : Nat) : evP E n 7 [.sl (rowsSV l)] = some (.sv (.bool true)) := by
  obtain ⟨G, hp, hG⟩ := h16
  unfold evP
  simp only [h]
  have hF := F1015_eq l
  cases hz : zzRows l with
  | false => rw [hz] at hF; simp [c2007, List.replicate, h15, hF]
  | true =>
    rw [hz] at hF
    have hF2 := hG l hz hn
    simp [c2007, List.replicate, h15, hF, hp, hF2]

end Go.Ev

set_option linter.unusedSimpArgs false
set_option linter.unusedVariables false
namespace Go.Ev
open Go.Proofs
variable {P : Program} {E : Env}

theorem ev2207c (E : Env) (h : E.code 207 = some c2207) (h28 : E.code 228 = some c2228) (h127 : E.pure 201 = some F127) (hT : Has E 243 S2243) (h4 : Has E 244 S2244) (h5 : Has E 245 S2245) (h6 : Has E 246 S2246) (h7 : Has E 247 S2247) (h8 : Has E 248 S2248) (h87 : E.code 132 = some c87) (h88 : E.code 133 = some c88) (h90 : E.code 135 = some c90) (h128 : E.code 202 = some c128) (h55 : Has E 227 S1155u) (hp87 : E.pure 132 = none) (hp88 : E.pure 133 = none) (hp90 : E.pure 135 = none) (hp128 : E.pure 202 = none) (hp28 : E.pure 228 = none) : S2207 (autoF E 207) :=
  ev2207 E h ⟨h28, h127, hT, h4, h5, h6, h7, h8⟩ h87 h88 h90 h128 h55 hp87 hp88 hp90 hp128 hp28

theorem p97h (B : Base P E) (h : E.code 142 = some c97) : PureFn P E 142 F97h := by
  refine PureFn.of_rec size97 B.m B.T B.Q B.P fun m vs r hF hs => ?_
  unfold F97h at hF
  split at hF
  · obtain ⟨⟨h0, h1, rfl⟩, hr⟩ := onlyIf_some hF
    rename_i c
    obtain ⟨k, rfl⟩ := Int.eq_ofNat_of_zero_le h0
    simp only [Option.some.injEq, Int.toNat_natCast] at hr; subst hr
    simp only [size97, Int.toNat_natCast] at hs
    subst hs
    exact ⟨1, _, ev97h E h 1 k (by omega), .inl rfl⟩
  · cases hF

/-- A law of one text. -/
theorem ptOf (B : Base P E) {f : Nat} (h : ∀ s n, evP E n f [.str s] = some (.sv (.bool true))) : PureFn P E f F8x := by
  refine PureFn.of B.m B.T B.Q B.P fun vs r hF => ?_
  unfold F8x at hF
  split at hF
  · rename_i s
    simp only [Option.some.injEq] at hF; subst hF
    exact ⟨1, _, h s 1, .inl rfl⟩
  · cases hF

/-- A law of rows. -/
theorem pbOf (B : Base P E) {f : Nat} (h : ∀ l : List RowD, (∀ r ∈ l, ∀ n ∈ r.N, n < 18446744073709551616) → ∀ n, evP E n f [.sl (rowsSV l)] = some (.sv (.bool true))) : PureFn P E f F1003 := by
  refine PureFn.of B.m B.T B.Q B.P fun vs r hF => ?_
  unfold F1003 at hF
  split at hF
  · rename_i l
    obtain ⟨⟨h1, h2⟩, hr⟩ := onlyIf_some hF
    simp only [Option.some.injEq] at hr; subst hr
    refine ⟨1, _, ?_, .inl rfl⟩
    have := h (l.map unrow) h2 1
    rw [← h1] at this
    exact this
  · cases hF

end Go.Ev

set_option linter.unusedSimpArgs false
set_option linter.unusedVariables false
set_option maxRecDepth 4000
namespace Go.Ev
open Go.Proofs

noncomputable def e1 : Env := E0.add 159 F134
theorem b1 : Base Tryz.prog e1 := b0.add (p134 b0 rfl)
noncomputable def e2 : Env := e1.add 91 F123
theorem b2 : Base Tryz.prog e2 := b1.add (p123 b1 rfl rfl)
noncomputable def e3 : Env := e2.add 142 F97
theorem b3 : Base Tryz.prog e3 := b2.add (p97 b2 rfl)
noncomputable def e4 : Env := e3.add 62 F45
theorem b4 : Base Tryz.prog e4 := b3.add (p45 b3 rfl rfl)
noncomputable def e5 : Env := e4.add 88 F78
theorem b5 : Base Tryz.prog e5 := b4.add (p78 b4 rfl)
noncomputable def e6 : Env := e5.add 45 F28
theorem b6 : Base Tryz.prog e6 := b5.add (p28 b5 rfl)
noncomputable def e7 : Env := e6.add 89 F52
theorem b7 : Base Tryz.prog e7 := b6.add (p52 b6 rfl)
noncomputable def e8 : Env := e7.add 50 F33
theorem b8 : Base Tryz.prog e8 := b7.add (p33 b7 rfl)
noncomputable def e9 : Env := e8.add 51 F34
theorem b9 : Base Tryz.prog e9 := b8.add (p34 b8 rfl)
noncomputable def e10 : Env := e9.add 53 F36
theorem b10 : Base Tryz.prog e10 := b9.add (p36 b9 rfl)
noncomputable def e11 : Env := e10.add 176 F54
theorem b11 : Base Tryz.prog e11 := b10.add (p54 b10 rfl)
noncomputable def e12 : Env := e11.add 90 F76
theorem b12 : Base Tryz.prog e12 := b11.add (p76 b11 rfl)
noncomputable def e13 : Env := e12.add 47 F30
theorem b13 : Base Tryz.prog e13 := b12.add (p30 b12 rfl)
noncomputable def e14 : Env := e13.add 55 F38
theorem b14 : Base Tryz.prog e14 := b13.add (p38 b13 rfl)
noncomputable def e15 : Env := e14.add 130 F85
theorem b15 : Base Tryz.prog e15 := b14.add (p85 b14 rfl)
noncomputable def e16 : Env := e15.add 201 F127
theorem b16 : Base Tryz.prog e16 := b15.add (p127 b15 rfl spT0)
noncomputable def e17 : Env := e16.add 92 F1050
theorem b17 : Base Tryz.prog e17 := b16.add (p1050 b16 rfl)
noncomputable def e18 : Env := e17.add 129 F84
theorem b18 : Base Tryz.prog e18 := b17.add (p84 b17 rfl)
noncomputable def e19 : Env := e18.add 157 F1080
theorem b19 : Base Tryz.prog e19 := b18.add (p1080 b18 rfl)
noncomputable def e20 : Env := e19.add 69 F1035
theorem b20 : Base Tryz.prog e20 := b19.add (p1035 b19 rfl rfl)
noncomputable def e21 : Env := e20.add 24 F1015
theorem b21 : Base Tryz.prog e21 := b20.add (p1015 b20 rfl rfl)
noncomputable def e22 : Env := e21.add 29 F25
theorem b22 : Base Tryz.prog e22 := b21.add (p25 e21 rfl)
noncomputable def e23 : Env := e22.add 123 F75
theorem b23 : Base Tryz.prog e23 := b22.add (p75 e22)
noncomputable def e24 : Env := e23.add 44 F27
theorem b24 : Base Tryz.prog e24 := b23.add (p27 b23 rfl)
noncomputable def e25 : Env := e24.add 43 F26
theorem b25 : Base Tryz.prog e25 := b24.add (p26 b24 rfl rfl)
noncomputable def e26 : Env := e25.add 142 F97h
theorem b26 : Base Tryz.prog e26 := b25.add (p97h b25 rfl)
theorem s27_123 : S123 (autoF e26 91) := ev123h e26 rfl rfl
noncomputable def e27 : Env := e26.add 91 (autoF e26 91)
theorem b27 : Base Tryz.prog e27 := b26.add (PureFn.auto b26.m b26.T b26.Q b26.P)
theorem s28_46 : S46 (autoF e27 63) := ev46 e27 rfl
noncomputable def e28 : Env := e27.add 63 (autoF e27 63)
theorem b28 : Base Tryz.prog e28 := b27.add (PureFn.auto b27.m b27.T b27.Q b27.P)
theorem s29_1143 : S1143 (autoF e28 109) := ev1143 e28 rfl rfl
noncomputable def e29 : Env := e28.add 109 (autoF e28 109)
theorem b29 : Base Tryz.prog e29 := b28.add (PureFn.auto b28.m b28.T b28.Q b28.P)
theorem s30_1113 : S1113 (autoF e29 82) := ev1113 e29 rfl ⟨autoF e28 109, rfl, s29_1143⟩
noncomputable def e30 : Env := e29.add 82 (autoF e29 82)
theorem b30 : Base Tryz.prog e30 := b29.add (PureFn.auto b29.m b29.T b29.Q b29.P)
theorem s31_1083 : S1083c (autoF e30 158) := ev1083c e30 rfl
noncomputable def e31 : Env := e30.add 158 (autoF e30 158)
theorem b31 : Base Tryz.prog e31 := b30.add (PureFn.auto b30.m b30.T b30.Q b30.P)
theorem s32_2081 : S2081 (autoF e31 81) := ev2081 e31 rfl ⟨autoF e26 91, rfl, s27_123⟩ ⟨autoF e30 158, rfl, s31_1083⟩ rfl
noncomputable def e32 : Env := e31.add 81 (autoF e31 81)
theorem b32 : Base Tryz.prog e32 := b31.add (PureFn.auto b31.m b31.T b31.Q b31.P)
theorem s33_2031 : S2031 (autoF e32 31) := ev2031 e32 rfl ⟨autoF e31 81, rfl, s32_2081⟩ rfl ⟨autoF e27 63, rfl, s28_46⟩ ⟨autoF e29 82, rfl, s30_1113⟩
noncomputable def e33 : Env := e32.add 31 (autoF e32 31)
theorem b33 : Base Tryz.prog e33 := b32.add (PureFn.auto b32.m b32.T b32.Q b32.P)
theorem s34_35 : S35 (autoF e33 52) := ev35 e33 rfl
noncomputable def e34 : Env := e33.add 52 (autoF e33 52)
theorem b34 : Base Tryz.prog e34 := b33.add (PureFn.auto b33.m b33.T b33.Q b33.P)
theorem s35_2032 : S2032 (autoF e34 32) := ev2032 e34 rfl ⟨autoF e31 81, rfl, s32_2081⟩ rfl rfl rfl ⟨autoF e33 52, rfl, s34_35⟩
noncomputable def e35 : Env := e34.add 32 (autoF e34 32)
theorem b35 : Base Tryz.prog e35 := b34.add (PureFn.auto b34.m b34.T b34.Q b34.P)
theorem s36_123 : S123b (autoF e35 91) := ev123b e35 rfl rfl
noncomputable def e36 : Env := e35.add 91 (autoF e35 91)
theorem b36 : Base Tryz.prog e36 := b35.add (PureFn.auto b35.m b35.T b35.Q b35.P)
theorem s37_2034 : S2034 (autoF e36 34) := ev2034 e36 rfl rfl rfl rfl rfl rfl ⟨autoF e35 91, rfl, s36_123⟩ rfl ⟨autoF e31 81, rfl, s32_2081⟩ rfl
noncomputable def e37 : Env := e36.add 34 (autoF e36 34)
theorem b37 : Base Tryz.prog e37 := b36.add (PureFn.auto b36.m b36.T b36.Q b36.P)
theorem s38_135 : S135 (autoF e37 217) := ev135 e37 rfl
noncomputable def e38 : Env := e37.add 217 (autoF e37 217)
theorem b38 : Base Tryz.prog e38 := b37.add (PureFn.auto b37.m b37.T b37.Q b37.P)
theorem s39_125 : S125v (autoF e38 199) := ev125v e38 rfl ⟨autoF e37 217, rfl, s38_135⟩
noncomputable def e39 : Env := e38.add 199 (autoF e38 199)
theorem b39 : Base Tryz.prog e39 := b38.add (PureFn.auto b38.m b38.T b38.Q b38.P)
theorem s40_91 : S91v (autoF e39 136) := ev91v e39 rfl ⟨autoF e38 199, rfl, s39_125⟩
noncomputable def e40 : Env := e39.add 136 (autoF e39 136)
theorem b40 : Base Tryz.prog e40 := b39.add (PureFn.auto b39.m b39.T b39.Q b39.P)
theorem s41_154 : S154h (autoF e40 231) := ev154h e40 rfl ⟨autoF e38 199, rfl, s39_125⟩
noncomputable def e41 : Env := e40.add 231 (autoF e40 231)
theorem b41 : Base Tryz.prog e41 := b40.add (PureFn.auto b40.m b40.T b40.Q b40.P)
theorem s42_1158 : S1158h (autoF e41 214) := ev1158h e41 rfl ⟨autoF e40 231, rfl, s41_154⟩
noncomputable def e42 : Env := e41.add 214 (autoF e41 214)
theorem b42 : Base Tryz.prog e42 := b41.add (PureFn.auto b41.m b41.T b41.Q b41.P)
theorem s43_2263 : S2263 (autoF e42 263) := ev2263 e42 rfl
noncomputable def e43 : Env := e42.add 263 (autoF e42 263)
theorem b43 : Base Tryz.prog e43 := b42.add (PureFn.auto b42.m b42.T b42.Q b42.P)
theorem s44_2256 : S2256 (autoF e43 256) := ev2256 e43 rfl ⟨autoF e42 263, rfl, s43_2263⟩
noncomputable def e44 : Env := e43.add 256 (autoF e43 256)
theorem b44 : Base Tryz.prog e44 := b43.add (PureFn.auto b43.m b43.T b43.Q b43.P)
theorem s45_2243 : S2243 (autoF e44 243) := ev2243 e44 rfl ⟨autoF e43 256, rfl, s44_2256⟩
noncomputable def e45 : Env := e44.add 243 (autoF e44 243)
theorem b45 : Base Tryz.prog e45 := b44.add (PureFn.auto b44.m b44.T b44.Q b44.P)
theorem s46_2244 : S2244 (autoF e45 244) := ev2244 e45 rfl ⟨autoF e39 136, rfl, s40_91⟩
noncomputable def e46 : Env := e45.add 244 (autoF e45 244)
theorem b46 : Base Tryz.prog e46 := b45.add (PureFn.auto b45.m b45.T b45.Q b45.P)
theorem s47_2245 : S2245 (autoF e46 245) := ev2245 e46 rfl ⟨autoF e39 136, rfl, s40_91⟩
noncomputable def e47 : Env := e46.add 245 (autoF e46 245)
theorem b47 : Base Tryz.prog e47 := b46.add (PureFn.auto b46.m b46.T b46.Q b46.P)
theorem s48_2246 : S2246 (autoF e47 246) := ev2246 e47 rfl ⟨autoF e39 136, rfl, s40_91⟩
noncomputable def e48 : Env := e47.add 246 (autoF e47 246)
theorem b48 : Base Tryz.prog e48 := b47.add (PureFn.auto b47.m b47.T b47.Q b47.P)
theorem s49_2247 : S2247 (autoF e48 247) := ev2247 e48 rfl ⟨autoF e41 214, rfl, s42_1158⟩
noncomputable def e49 : Env := e48.add 247 (autoF e48 247)
theorem b49 : Base Tryz.prog e49 := b48.add (PureFn.auto b48.m b48.T b48.Q b48.P)
theorem s50_2248 : S2248 (autoF e49 248) := ev2248 e49 rfl ⟨autoF e39 136, rfl, s40_91⟩
noncomputable def e50 : Env := e49.add 248 (autoF e49 248)
theorem b50 : Base Tryz.prog e50 := b49.add (PureFn.auto b49.m b49.T b49.Q b49.P)
theorem s51_1166 : S1166i (autoF e50 242) := ev1166i e50 rfl
noncomputable def e51 : Env := e50.add 242 (autoF e50 242)
theorem b51 : Base Tryz.prog e51 := b50.add (PureFn.auto b50.m b50.T b50.Q b50.P)
theorem s52_1155 : S1155u (autoF e51 227) := ev1155u e51 rfl ⟨autoF e50 242, rfl, s51_1166⟩
noncomputable def e52 : Env := e51.add 227 (autoF e51 227)
theorem b52 : Base Tryz.prog e52 := b51.add (PureFn.auto b51.m b51.T b51.Q b51.P)
theorem s53_2207 : S2207 (autoF e52 207) := ev2207c e52 rfl rfl rfl ⟨autoF e44 243, rfl, s45_2243⟩ ⟨autoF e45 244, rfl, s46_2244⟩ ⟨autoF e46 245, rfl, s47_2245⟩ ⟨autoF e47 246, rfl, s48_2246⟩ ⟨autoF e48 247, rfl, s49_2247⟩ ⟨autoF e49 248, rfl, s50_2248⟩ rfl rfl rfl rfl ⟨autoF e51 227, rfl, s52_1155⟩ rfl rfl rfl rfl rfl
noncomputable def e53 : Env := e52.add 207 (autoF e52 207)
theorem b53 : Base Tryz.prog e53 := b52.add (PureFn.auto b52.m b52.T b52.Q b52.P)
theorem s54_2178 : S2178 (autoF e53 178) := ev2178 e53 rfl rfl rfl ⟨autoF e52 207, rfl, s53_2207⟩
noncomputable def e54 : Env := e53.add 178 (autoF e53 178)
theorem b54 : Base Tryz.prog e54 := b53.add (PureFn.auto b53.m b53.T b53.Q b53.P)
theorem s55_2084 : S2084 (autoF e54 84) := ev2084 e54 rfl rfl ⟨autoF e53 178, rfl, s54_2178⟩
noncomputable def e55 : Env := e54.add 84 (autoF e54 84)
theorem b55 : Base Tryz.prog e55 := b54.add (PureFn.auto b54.m b54.T b54.Q b54.P)
theorem s56_2208 : SUn (autoF e55 208) := ev2208 e55 rfl
noncomputable def e56 : Env := e55.add 208 (autoF e55 208)
theorem b56 : Base Tryz.prog e56 := b55.add (PureFn.auto b55.m b55.T b55.Q b55.P)
theorem s57_2209 : SUn (autoF e56 209) := ev2209 e56 rfl
noncomputable def e57 : Env := e56.add 209 (autoF e56 209)
theorem b57 : Base Tryz.prog e57 := b56.add (PureFn.auto b56.m b56.T b56.Q b56.P)
theorem s58_2210 : SUn (autoF e57 210) := ev2210 e57 rfl
noncomputable def e58 : Env := e57.add 210 (autoF e57 210)
theorem b58 : Base Tryz.prog e58 := b57.add (PureFn.auto b57.m b57.T b57.Q b57.P)
theorem s59_2183 : S2183 (autoF e58 183) := ev2183 e58 rfl ⟨autoF e55 208, rfl, s56_2208⟩ ⟨autoF e56 209, rfl, s57_2209⟩ ⟨autoF e57 210, rfl, s58_2210⟩
noncomputable def e59 : Env := e58.add 183 (autoF e58 183)
theorem b59 : Base Tryz.prog e59 := b58.add (PureFn.auto b58.m b58.T b58.Q b58.P)
theorem s60_2182 : S2182 (autoF e59 182) := ev2182 e59 rfl ⟨autoF e58 183, rfl, s59_2183⟩
noncomputable def e60 : Env := e59.add 182 (autoF e59 182)
theorem b60 : Base Tryz.prog e60 := b59.add (PureFn.auto b59.m b59.T b59.Q b59.P)
theorem s61_2181 : S2181 (autoF e60 181) := ev2181 e60 rfl ⟨autoF e59 182, rfl, s60_2182⟩
noncomputable def e61 : Env := e60.add 181 (autoF e60 181)
theorem b61 : Base Tryz.prog e61 := b60.add (PureFn.auto b60.m b60.T b60.Q b60.P)
theorem s62_2180 : S2180 (autoF e61 180) := ev2180 e61 rfl ⟨autoF e60 181, rfl, s61_2181⟩
noncomputable def e62 : Env := e61.add 180 (autoF e61 180)
theorem b62 : Base Tryz.prog e62 := b61.add (PureFn.auto b61.m b61.T b61.Q b61.P)
theorem s63_2179 : S2179 (autoF e62 179) := ev2179 e62 rfl ⟨autoF e61 180, rfl, s62_2180⟩
noncomputable def e63 : Env := e62.add 179 (autoF e62 179)
theorem b63 : Base Tryz.prog e63 := b62.add (PureFn.auto b62.m b62.T b62.Q b62.P)
theorem s64_2087 : S2087 (autoF e63 87) := ev2087 e63 rfl ⟨autoF e62 179, rfl, s63_2179⟩
noncomputable def e64 : Env := e63.add 87 (autoF e63 87)
theorem b64 : Base Tryz.prog e64 := b63.add (PureFn.auto b63.m b63.T b63.Q b63.P)
theorem s65_2086 : S2086 (autoF e64 86) := ev2086 e64 rfl ⟨autoF e63 87, rfl, s64_2087⟩
noncomputable def e65 : Env := e64.add 86 (autoF e64 86)
theorem b65 : Base Tryz.prog e65 := b64.add (PureFn.auto b64.m b64.T b64.Q b64.P)
theorem s66_2085 : S2085 (autoF e65 85) := ev2085 e65 rfl ⟨autoF e64 86, rfl, s65_2086⟩
noncomputable def e66 : Env := e65.add 85 (autoF e65 85)
theorem b66 : Base Tryz.prog e66 := b65.add (PureFn.auto b65.m b65.T b65.Q b65.P)
theorem s67_2083 : S2083 (autoF e66 83) := ev2083 e66 rfl rfl ⟨autoF e54 84, rfl, s55_2084⟩ ⟨autoF e65 85, rfl, s66_2085⟩
noncomputable def e67 : Env := e66.add 83 (autoF e66 83)
theorem b67 : Base Tryz.prog e67 := b66.add (PureFn.auto b66.m b66.T b66.Q b66.P)
theorem s68_2033 : S2033 (autoF e67 33) := ev2033 e67 rfl rfl ⟨autoF e66 83, rfl, s67_2083⟩
noncomputable def e68 : Env := e67.add 33 (autoF e67 33)
theorem b68 : Base Tryz.prog e68 := b67.add (PureFn.auto b67.m b67.T b67.Q b67.P)
theorem s69_9 : S9u (autoF e68 15) := ev9u e68 rfl ⟨autoF e36 34, rfl, s37_2034⟩ ⟨autoF e34 32, rfl, s35_2032⟩ ⟨autoF e67 33, rfl, s68_2033⟩ rfl rfl rfl
noncomputable def e69 : Env := e68.add 15 (autoF e68 15)
theorem b69 : Base Tryz.prog e69 := b68.add (PureFn.auto b68.m b68.T b68.Q b68.P)
theorem s70_13 : S13u (autoF e69 19) := ev13u e69 rfl ⟨autoF e36 34, rfl, s37_2034⟩ ⟨autoF e32 31, rfl, s33_2031⟩ ⟨autoF e67 33, rfl, s68_2033⟩ rfl rfl rfl
noncomputable def e70 : Env := e69.add 19 (autoF e69 19)
theorem b70 : Base Tryz.prog e70 := b69.add (PureFn.auto b69.m b69.T b69.Q b69.P)
theorem s71_1016 : S1016u (autoF e70 30) := ev1016u e70 rfl ⟨autoF e32 31, rfl, s33_2031⟩ ⟨autoF e34 32, rfl, s35_2032⟩ ⟨autoF e67 33, rfl, s68_2033⟩ rfl rfl rfl
noncomputable def e71 : Env := e70.add 30 (autoF e70 30)
theorem b71 : Base Tryz.prog e71 := b70.add (PureFn.auto b70.m b70.T b70.Q b70.P)
theorem pu2007 : PureFn Tryz.prog E0 7 F1003 := (pbOf b71 (fun l hn n => ev2007 e71 rfl rfl ⟨autoF e70 30, rfl, s71_1016⟩ l hn n)).glob rfl
theorem pu2008 : PureFn Tryz.prog E0 8 F8x := (ptOf b71 (fun s n => ev2008 e71 rfl ⟨autoF e69 19, rfl, s70_13⟩ s n)).glob rfl
theorem pu2009 : PureFn Tryz.prog E0 9 F8x := (ptOf b71 (fun s n => ev2009 e71 rfl ⟨autoF e68 15, rfl, s69_9⟩ s n)).glob rfl

end Go.Ev

set_option linter.unusedSimpArgs false
set_option linter.unusedVariables false
namespace Go.Proofs.YtgonelmeonncpaaGreatDoor
open Go.ChangeShapes Go.WideShapes Go.ChangeAt Go.RowKit Go.Ev

theorem own : ownKnob Tryz.prog.godebug = none := by kernel_rfl

def laid15 : List (String × DataW Unit) := Rows.fnUnixReadRow.laid

theorem glob_none {W : World} {F : Frz} (g : Nat) (h : globT g = []) : RepS F (.ref (globT g)) (.pointer (some ⟨g, 0, none⟩)) := by
  rw [h]
  exact .ref [] g 0 (fun _ => undef) (fun j hj => by simp at hj) (fun j x hx => by simp at hx) (fun j x hx => by simp at hx)

theorem cells_of {W : World} {name : String} {g : Nat} {cs : Array Value} (hg : Tryz.prog.globalNamed name = some g) (hv : W.var? Tryz.prog name = some cs) (j : Nat) (v : Value) (h : cs.toList[j]? = some v) : W.cell? ⟨g, j, none⟩ = some v := by
  rw [World.var?_cell hg hv j]
  simpa using h

theorem glob_ok {W : World} (hL : laidMetH Tryz.prog laid15 W) : GlobF E0 (fun b o v => W.cell? ⟨b, o, none⟩ = some v) := by
  rw [MakeChecks.laidMetH_plain _ _ _ (by kernel_rfl)] at hL
  obtain ⟨ps, ⟨g0, t0, cs0, f0, p0, q0, hg0, ht0, hv0, hd0, ⟨g1, t1, cs1, f1, p1, q1, hg1, ht1, hv1, hd1, ⟨g2, t2, cs2, f2, p2, q2, hg2, ht2, hv2, hd2, ⟨g3, t3, cs3, f3, p3, q3, hg3, ht3, hv3, hd3, ⟨g4, t4, cs4, f4, p4, q4, hg4, ht4, hv4, hd4, ⟨g5, t5, cs5, f5, p5, q5, hg5, ht5, hv5, hd5, ⟨g6, t6, cs6, f6, p6, q6, hg6, ht6, hv6, hd6, ⟨g7, t7, cs7, f7, p7, q7, hg7, ht7, hv7, hd7, ⟨g8, t8, cs8, f8, p8, q8, hg8, ht8, hv8, hd8, ⟨g9, t9, cs9, f9, p9, q9, hg9, ht9, hv9, hd9, ⟨g10, t10, cs10, f10, p10, q10, hg10, ht10, hv10, hd10, ⟨g11, t11, cs11, f11, p11, q11, hg11, ht11, hv11, hd11, ⟨g12, t12, cs12, f12, p12, q12, hg12, ht12, hv12, hd12, _, _⟩, _⟩, _⟩, _⟩, _⟩, _⟩, _⟩, _⟩, _⟩, _⟩, _⟩, _⟩, _⟩, _⟩ := hL
  clear hd0 hd1 hd5 hd7 hd9 hd10 hd11
  obtain rfl := Option.some.inj ((show Tryz.prog.globalNamed "internal/strconv.float32info" = some 6 by kernel_rfl).symm.trans hg2)
  obtain rfl := Option.some.inj ((show Tryz.prog.globalNamed "internal/strconv.float64info" = some 8 by kernel_rfl).symm.trans hg3)
  obtain rfl := Option.some.inj ((show Tryz.prog.globalNamed "internal/strconv.optimize" = some 7 by kernel_rfl).symm.trans hg4)
  obtain rfl := Option.some.inj ((show Tryz.prog.globalNamed "internal/strconv.float64pow10" = some 12 by kernel_rfl).symm.trans hg6)
  obtain rfl := Option.some.inj ((show Tryz.prog.globalNamed "internal/strconv.uint64pow10" = some 9 by kernel_rfl).symm.trans hg8)
  obtain rfl := Option.some.inj ((show Tryz.prog.globalNamed "strings.asciiSpace" = some 1 by kernel_rfl).symm.trans hg12)
  obtain rfl := Option.some.inj ((show (Tryz.prog.globals[6]?).map (·.type) = some 346 by kernel_rfl).symm.trans ht2)
  obtain rfl := Option.some.inj ((show (Tryz.prog.globals[8]?).map (·.type) = some 346 by kernel_rfl).symm.trans ht3)
  obtain rfl := Option.some.inj ((show (Tryz.prog.globals[7]?).map (·.type) = some 4 by kernel_rfl).symm.trans ht4)
  obtain rfl := Option.some.inj ((show (Tryz.prog.globals[12]?).map (·.type) = some 273 by kernel_rfl).symm.trans ht6)
  obtain rfl := Option.some.inj ((show (Tryz.prog.globals[9]?).map (·.type) = some 363 by kernel_rfl).symm.trans ht8)
  obtain rfl := Option.some.inj ((show (Tryz.prog.globals[1]?).map (·.type) = some 268 by kernel_rfl).symm.trans ht12)
  have x12 : Rows.laid_strings_asciiSpace = (.agg ((lits Rows.laid_strings_asciiSpace).map .lit) : DataW Unit) := by kernel_rfl
  have x8 : Rows.laid_internal_strconv_uint64pow10 = (.agg ((lits Rows.laid_internal_strconv_uint64pow10).map .lit) : DataW Unit) := by kernel_rfl
  have x2 : Rows.laid_internal_strconv_float32info = (.agg ((lits Rows.laid_internal_strconv_float32info).map .lit) : DataW Unit) := by kernel_rfl
  have x3 : Rows.laid_internal_strconv_float64info = (.agg ((lits Rows.laid_internal_strconv_float64info).map .lit) : DataW Unit) := by kernel_rfl
  have x4 : Rows.laid_internal_strconv_optimize = (.lit (unlit Rows.laid_internal_strconv_optimize) : DataW Unit) := by kernel_rfl
  have x6 : Rows.laid_internal_strconv_float64pow10 = (.slice ((lits Rows.laid_internal_strconv_float64pow10).map .lit) [] : DataW Unit) := by kernel_rfl
  have y12 := (congrArg (fun d => some (d, p12)) x12)
  have k12 := lits_of_array (e := 5) (n := 256) Tryz.underlying268 (by kernel_rfl) (by kernel_rfl) (hd12.trans (congrArg (fun d => some (d, p12)) x12))
  have k8 := lits_of_array (e := 32) (n := 20) Tryz.underlying363 (by kernel_rfl) (by kernel_rfl) (hd8.trans (congrArg (fun d => some (d, p8)) x8))
  have hst : ∀ (i : Nat) (f : Field), (#[{ name := "mantbits", type := 135, offset := 0, embedded := false, tag := "", pkgPath := "internal/strconv", byteOffset := 0 }, { name := "expbits", type := 135, offset := 1, embedded := false, tag := "", pkgPath := "internal/strconv", byteOffset := 8 }, { name := "bias", type := 3, offset := 2, embedded := false, tag := "", pkgPath := "internal/strconv", byteOffset := 16 }] : Array Field)[i]? = some f → f.offset = i ∧ Tryz.prog.cellsOf f.type = 1 := by
    intro i f hf
    have ct174 : Tryz.prog.cellsOf 135 = 1 := by kernel_rfl
    have ct3 : Tryz.prog.cellsOf 3 = 1 := by kernel_rfl
    match i, hf with
    | 0, hf => simp at hf; subst hf; exact ⟨rfl, ct174⟩
    | 1, hf => simp at hf; subst hf; exact ⟨rfl, ct174⟩
    | 2, hf => simp at hf; subst hf; exact ⟨rfl, ct3⟩
    | n + 3, hf => simp at hf
  have k2 := lits_of_struct Tryz.underlying346 hst (by kernel_rfl) (hd2.trans (congrArg (fun d => some (d, p2)) x2))
  have k3 := lits_of_struct Tryz.underlying346 hst (by kernel_rfl) (hd3.trans (congrArg (fun d => some (d, p3)) x3))
  have k4 := lit_cells (hd4.trans (congrArg (fun d => some (d, p4)) x4))
  have k6 := ref_of_slice (g := 12) (F := fun b o v => W.cell? ⟨b, o, none⟩ = some v) (e := 33) Tryz.underlying273 (by kernel_rfl) (by rw [← List.length_pos_iff]; exact of_decide_eq_true (by kernel_rfl)) (hd6.trans (congrArg (fun d => some (d, p6)) x6)) (fun _ _ _ h => h) (cells_of hg6 hv6)
  intro g
  have hg : g = 1 ∨ g = 6 ∨ g = 7 ∨ g = 8 ∨ g = 9 ∨ g = 12 ∨ globT g = [] := by
    unfold globT
    split <;> simp
  rcases hg with rfl | rfl | rfl | rfl | rfl | rfl | h
  · exact ref_of_lits k12 (cells_of hg12 hv12)
  · exact ref_of_lits k2 (cells_of hg2 hv2)
  · exact ref_of_lits (ls := [unlit Rows.laid_internal_strconv_optimize]) k4 (cells_of hg4 hv4)
  · exact ref_of_lits k3 (cells_of hg3 hv3)
  · exact ref_of_lits k8 (cells_of hg8 hv8)
  · exact k6
  · exact glob_none (W := W) g h

end Go.Proofs.YtgonelmeonncpaaGreatDoor

set_option linter.unusedSimpArgs false
set_option linter.unusedVariables false
namespace Go.Ev
open Go.Proofs Go.ChangeShapes Go.WideShapes

/-- The cells of a world, all of them. -/
def allC (w : World) : Frz := fun b o v => w.cell? ⟨b, o, none⟩ = some v

theorem spot_none {w : World} {a : Addr} {v : Value} (h : w.cell? a = some v) : a.spot = none := by
  unfold World.cell? at h
  split at h
  · split at h
    · simp at h
    · rename_i hs; simpa using hs
  · simp at h

theorem add_off {b o : Nat} (i : Nat) : (⟨b, o, none⟩ : Addr).add i = ⟨b, o + i, none⟩ := by
  unfold Addr.add
  split
  · rename_i h; subst h; rfl
  · rfl

/-- A slice whose elements take k cells each. -/
theorem rep_slice {w : World} {a : Addr} {len cap k : Nat} {xs : List SV} (hk : 0 < k) (hx : xs.length = len) (hcap : len ≤ cap) (hl : ∀ x ∈ xs, x.cells.length = k)
    (ho : ∀ (j : Nat) (x : SV), (flat xs)[j]? = some x → x.one = true) (hr : ∀ (j : Nat) (x : SV), (flat xs)[j]? = some x → ∃ v, w.cell? (a.add j) = some v ∧ RepS (allC w) x v) : RepS (allC w) (.sl xs) (.slice (some a) len cap) := by
  cases xs with
  | nil => simp only [List.length_nil] at hx; subst hx; exact .slE _ _
  | cons x xs =>
    subst hx
    have hfl : (flat (x :: xs)).length = (x :: xs).length * k := by
      have : ∀ ys : List SV, (∀ y ∈ ys, y.cells.length = k) → (flat ys).length = ys.length * k := by
        intro ys
        induction ys with
        | nil => intro _; simp [flat]
        | cons y ys ih => intro h; rw [flat_cons, List.length_append, ih (fun z hz => h z (by simp [hz])), h y (by simp), List.length_cons, Nat.succ_mul]; omega
      exact this _ hl
    have hpos : 0 < (flat (x :: xs)).length := by rw [hfl]; exact Nat.mul_pos (by simp) hk
    obtain ⟨v0, hv0, _⟩ := hr 0 _ (List.getElem?_eq_getElem hpos)
    have hs : a.spot = none := spot_none (by simpa [Addr.add] using hv0)
    obtain ⟨b, o, s⟩ := a
    simp only at hs
    subst hs
    refine .sl _ b o cap k (fun j => (w.cell? ⟨b, o + j, none⟩).getD undef) hk (by simp) hcap hl (fun j hj => ?_) ho (fun j y hy => ?_)
    · obtain ⟨v, hv, _⟩ := hr j _ (List.getElem?_eq_getElem (by rw [hfl]; exact hj))
      rw [add_off] at hv
      show w.cell? ⟨b, o + j, none⟩ = some _
      rw [hv]; rfl
    · obtain ⟨v, hv, h1⟩ := hr j y hy
      rw [add_off] at hv
      simp only [hv, Option.getD_some]
      exact h1

theorem flat_one {l : List SV} (h : ∀ x ∈ l, x.cells = [x]) : flat l = l := by
  induction l with
  | nil => rfl
  | cons x l ih => rw [flat_cons, h x (by simp), ih (fun y hy => h y (by simp [hy]))]; rfl

section
variable {H : Type} {enc : TypeId × Value → H} {P : Program} {w : World} {base : Nat} {spare : Nat → Bool} {held : Bool}

theorem rep_strs {t e : TypeId} {fuel : Nat} {cs : List Value} {x : DataW H × List MemPlace} (ht : P.underlying t = some (.slice e)) (he : P.underlying e = some .string) (hc : P.cellsOf e = 1)
    (h : DataW.trod enc P w base spare held fuel t cs = some x) : ∃ (v : Value) (S : List (List UInt8)), cs = [v] ∧ RepS (allC w) (.sl (Ev.strs S)) v := by
  rcases open_strings ht he hc h with ⟨rfl, _⟩ | ⟨a, len, cap, ss, rfl, _, hl, _, hss, _, hcell, _⟩
  · exact ⟨_, [], rfl, .slE _ _⟩
  · have hle : len ≤ ss.length := by rw [hss]; split <;> omega
    refine ⟨_, (ss.take len).map (fun s => s.data.toList), rfl, ?_⟩
    have hone : ∀ x ∈ Ev.strs ((ss.take len).map (fun s => s.data.toList)), x.cells = [x] := by
      intro x hx
      simp only [Ev.strs, List.mem_map] at hx
      obtain ⟨_, _, rfl⟩ := hx
      rfl
    refine rep_slice (k := 1) (by omega) (by simp [Ev.strs]; omega) hl (fun x hx => by rw [hone x hx]; rfl) (fun j x hx => ?_) (fun j x hx => ?_)
    · rw [flat_one hone] at hx
      simp only [Ev.strs, List.getElem?_map, Option.map_eq_some_iff] at hx
      obtain ⟨_, _, rfl⟩ := hx
      rfl
    · rw [flat_one hone] at hx
      simp only [Ev.strs, List.getElem?_map, Option.map_eq_some_iff] at hx
      obtain ⟨_, ⟨s, hs, rfl⟩, rfl⟩ := hx
      have hj : j < len := by have := (List.getElem?_eq_some_iff.1 hs).1; simp at this; omega
      rw [List.getElem?_take_of_lt hj] at hs
      refine ⟨_, hcell j (by omega), ?_⟩
      rw [List.getD_eq_getElem?_getD, hs]
      have e : (⟨s.data.toList.toArray⟩ : ByteArray) = s := by simp
      exact e ▸ RepS.str s.data.toList

theorem rep_ints {t e : TypeId} {fuel : Nat} {cs : List Value} {x : DataW H × List MemPlace} (ht : P.underlying t = some (.slice e)) (he : P.underlying e = some (.int .u64)) (hc : P.cellsOf e = 1)
    (h : DataW.trod enc P w base spare held fuel t cs = some x) : ∃ (v : Value) (N : List Nat), cs = [v] ∧ RepS (allC w) (.sl (u64s N)) v ∧ ∀ n ∈ N, n < 18446744073709551616 := by
  rcases open_ints ht he hc h with ⟨rfl, _⟩ | ⟨a, len, cap, zs, rfl, _, hl, _, hss, _, hcell, hwf⟩
  · exact ⟨_, [], rfl, .slE _ _, by simp⟩
  · have hle : len ≤ zs.length := by rw [hss]; split <;> omega
    have hz : ∀ z ∈ zs, 0 ≤ z ∧ z < 18446744073709551616 := by
      intro z hz
      have := hwf z hz
      have e1 : IntKind.u64.min = 0 := rfl
      have e2 : IntKind.u64.max = 18446744073709551615 := rfl
      simp only [Lit.wf, e1, e2, Bool.and_eq_true, decide_eq_true_eq] at this
      omega
    refine ⟨_, (zs.take len).map Int.toNat, rfl, ?_, ?_⟩
    · have hone : ∀ x ∈ u64s ((zs.take len).map Int.toNat), x.cells = [x] := by
        intro x hx
        simp only [u64s, List.mem_map] at hx
        obtain ⟨_, _, rfl⟩ := hx
        rfl
      refine rep_slice (k := 1) (by omega) (by simp [u64s]; omega) hl (fun x hx => by rw [hone x hx]; rfl) (fun j x hx => ?_) (fun j x hx => ?_)
      · rw [flat_one hone] at hx
        simp only [u64s, List.getElem?_map, Option.map_eq_some_iff] at hx
        obtain ⟨_, _, rfl⟩ := hx
        rfl
      · rw [flat_one hone] at hx
        simp only [u64s, List.getElem?_map, Option.map_eq_some_iff] at hx
        obtain ⟨_, ⟨s, hs, rfl⟩, rfl⟩ := hx
        have hj : j < len := by have := (List.getElem?_eq_some_iff.1 hs).1; simp at this; omega
        rw [List.getElem?_take_of_lt hj] at hs
        refine ⟨_, hcell j (by omega), ?_⟩
        rw [List.getD_eq_getElem?_getD, hs]
        have := (hz s (List.mem_of_getElem? hs)).1
        rw [Int.toNat_of_nonneg this]
        exact .int _ _
    · intro n hn
      obtain ⟨z, hz1, rfl⟩ := List.mem_map.1 hn
      have := hz z (List.mem_of_mem_take hz1)
      omega

/-- One row: three cells. -/
theorem rep_row {t te tu : TypeId} {fs : Array Field} {f0 f1 f2 : Field} {fuel : Nat} {cs : List Value} {x : DataW H × List MemPlace} (ht : P.underlying t = some (.struct fs)) (hf0 : fs[0]? = some f0) (hf1 : fs[1]? = some f1) (hf2 : fs[2]? = some f2)
    (o0 : f0.offset = 0) (o1 : f1.offset = 1) (o2 : f2.offset = 2) (c0 : P.cellsOf f0.type = 1) (c1 : P.cellsOf f1.type = 1) (c2 : P.cellsOf f2.type = 1) (ct : P.cellsOf t = 3)
    (u0 : P.underlying f0.type = some .string) (u1 : P.underlying f1.type = some (.slice tu)) (u2 : P.underlying f2.type = some (.slice te)) (v1 : P.underlying tu = some (.int .u64)) (v2 : P.underlying te = some .string) (w1 : P.cellsOf tu = 1) (w2 : P.cellsOf te = 1)
    (h : DataW.trod enc P w base spare held fuel t cs = some x) : ∃ (r : RowD) (a b c : Value), cs = [a, b, c] ∧ RepS (allC w) (.str r.name) a ∧ RepS (allC w) (.sl (u64s r.N)) b ∧ RepS (allC w) (.sl (Ev.strs r.S)) c ∧ ∀ n ∈ r.N, n < 18446744073709551616 := by
  obtain ⟨xs, n, rfl, _, hcl, hxl, hx⟩ := DataW.trod_struct ht h
  rw [ct] at hcl
  match cs, hcl with
  | [a, b, c], _ =>
    have hlt : ∀ {i : Nat} {f : Field}, fs[i]? = some f → i < xs.length := fun hf => by rw [hxl]; exact (Array.getElem?_eq_some_iff.1 hf).1
    have g0 := hx 0 f0 hf0
    have g1 := hx 1 f1 hf1
    have g2 := hx 2 f2 hf2
    rw [List.getElem?_eq_getElem (hlt hf0), o0, c0] at g0
    rw [List.getElem?_eq_getElem (hlt hf1), o1, c1] at g1
    rw [List.getElem?_eq_getElem (hlt hf2), o2, c2] at g2
    simp only [List.drop_zero, List.drop_succ_cons, List.take_succ_cons, List.take_zero] at g0 g1 g2
    obtain ⟨s, e0, _, _⟩ := DataW.trod_string u0 g0
    obtain ⟨b', N, e1, r1, k1⟩ := rep_ints u1 v1 w1 g1
    obtain ⟨c', S, e2, r2⟩ := rep_strs u2 v2 w2 g2
    simp only [List.cons.injEq, and_true] at e0 e1 e2
    subst e0; subst e1; subst e2
    refine ⟨⟨s.data.toList, N, S⟩, _, _, _, rfl, ?_, r1, r2, k1⟩
    have e : (⟨s.data.toList.toArray⟩ : ByteArray) = s := by simp
    exact e ▸ RepS.str s.data.toList

end

theorem row_cells (r : RowD) : r.sv.cells = [.str r.name, .sl (u64s r.N), .sl (Ev.strs r.S)] := rfl

theorem flat_rows_get : ∀ (l : List RowD) (j : Nat) (x : SV), (flat (rowsSV l))[j]? = some x → ∃ r, l[j / 3]? = some r ∧ (r.sv.cells)[j % 3]? = some x
  | [], j, x, h => by simp [rowsSV, flat] at h
  | r :: l, j, x, h => by
    have e : flat (rowsSV (r :: l)) = r.sv.cells ++ flat (rowsSV l) := rfl
    rw [e] at h
    by_cases hj : j < 3
    · rw [List.getElem?_append_left (by rw [row_cells]; simpa using hj)] at h
      refine ⟨r, ?_, ?_⟩
      · rw [Nat.div_eq_of_lt hj]; rfl
      · rw [Nat.mod_eq_of_lt hj]; exact h
    · rw [List.getElem?_append_right (by rw [row_cells]; simp; omega)] at h
      have e3 : r.sv.cells.length = 3 := rfl
      rw [e3] at h
      obtain ⟨q, h1, h2⟩ := flat_rows_get l (j - 3) x h
      refine ⟨q, ?_, ?_⟩
      · rw [show j / 3 = (j - 3) / 3 + 1 by omega]; exact h1
      · rw [show j % 3 = (j - 3) % 3 by omega]; exact h2

/-- Rows, out of rows that can be read one by one. -/
theorem rep_rows {w : World} {a : Addr} {len cap : Nat} {base : Nat} (hcap : len ≤ cap)
    (h : ∀ i, i < len → ∃ (r : RowD) (u v z : Value), w.cells? base (a.add (i * 3)) 3 = some [u, v, z] ∧ RepS (allC w) (.str r.name) u ∧ RepS (allC w) (.sl (u64s r.N)) v ∧ RepS (allC w) (.sl (Ev.strs r.S)) z ∧ ∀ n ∈ r.N, n < 18446744073709551616) :
    ∃ l : List RowD, l.length = len ∧ RepS (allC w) (.sl (rowsSV l)) (.slice (some a) len cap) ∧ ∀ r ∈ l, ∀ n ∈ r.N, n < 18446744073709551616 := by
  classical
  let f : Nat → RowD := fun i => if hi : i < len then Classical.choose (h i hi) else ⟨[], [], []⟩
  have hf : ∀ i (hi : i < len), ∃ (u v z : Value), w.cells? base (a.add (i * 3)) 3 = some [u, v, z] ∧ RepS (allC w) (.str (f i).name) u ∧ RepS (allC w) (.sl (u64s (f i).N)) v ∧ RepS (allC w) (.sl (Ev.strs (f i).S)) z ∧ ∀ n ∈ (f i).N, n < 18446744073709551616 := by
    intro i hi
    have := Classical.choose_spec (h i hi)
    simp only [f, dif_pos hi]
    exact this
  refine ⟨(List.range len).map f, by simp, ?_, ?_⟩
  · refine rep_slice (k := 3) (by omega) (by simp [rowsSV]) hcap (fun x hx => ?_) (fun j x hx => ?_) (fun j x hx => ?_)
    · simp only [rowsSV, List.mem_map] at hx
      obtain ⟨r, _, rfl⟩ := hx
      rfl
    · obtain ⟨r, _, h2⟩ := flat_rows_get _ j x hx
      rw [row_cells] at h2
      have : x ∈ [SV.str r.name, .sl (u64s r.N), .sl (Ev.strs r.S)] := List.mem_of_getElem? h2
      simp only [List.mem_cons, List.not_mem_nil, or_false] at this
      rcases this with rfl | rfl | rfl <;> rfl
    · obtain ⟨r, h1, h2⟩ := flat_rows_get _ j x hx
      rw [List.getElem?_map, Option.map_eq_some_iff] at h1
      obtain ⟨i, hi, rfl⟩ := h1
      have hil : j / 3 < len := by have := (List.getElem?_eq_some_iff.1 hi).1; simpa using this
      have hij : i = j / 3 := by rw [List.getElem?_range hil] at hi; exact (Option.some.inj hi).symm
      subst hij
      obtain ⟨u, v, z, k1, k2, k3, k4, _⟩ := hf (j / 3) hil
      obtain ⟨_, _, k5⟩ := World.cells?_some k1
      have k6 := k5 (j % 3) (by omega)
      have ha : (a.add (j / 3 * 3)).add (j % 3) = a.add j := by
        unfold Addr.add
        by_cases q1 : j / 3 * 3 = 0
        · by_cases q2 : j % 3 = 0
          · have : j = 0 := by omega
            subst this; rfl
          · have : j % 3 = j := by omega
            rw [if_pos q1, this]
        · have q3 : j ≠ 0 := by omega
          by_cases q2 : j % 3 = 0
          · have : j / 3 * 3 = j := by omega
            rw [if_pos q2, this]
          · rw [if_neg q1, if_neg q2, if_neg q3]
            simp only [Addr.mk.injEq, true_and, and_true]
            omega
      rw [ha] at k6
      rw [row_cells] at h2
      have hm : j % 3 < 3 := Nat.mod_lt _ (by omega)
      generalize j % 3 = m at k6 h2 hm
      match m, hm with
      | 0, _ => simp at h2 k6; subst h2; exact ⟨u, k6, k2⟩
      | 1, _ => simp at h2 k6; subst h2; exact ⟨v, k6, k3⟩
      | 2, _ => simp at h2 k6; subst h2; exact ⟨z, k6, k4⟩
  · intro r hr
    obtain ⟨i, hi, rfl⟩ := List.mem_map.1 hr
    obtain ⟨_, _, _, _, _, _, _, k⟩ := hf i (by simpa using hi)
    exact k

end Go.Ev
