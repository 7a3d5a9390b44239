/- Slabs: a line, read by the program. -/
/- Slabs: the door's trees. -/
/- Slabs: the door, whole. -/
import Derived.Test.YtnpkdihdpgfemaaGreatDoorUA
set_option linter.unusedSimpArgs false
set_option linter.unusedVariables false
namespace Go.Ev
open Go.Proofs

set_option maxRecDepth 100000 in
set_option maxHeartbeats 80000000 in
theorem core1142 (E : Env) (h : E.code 142 = some c1142) (FB FS FP : List SV → Option AV) (h56 : E.pure 156 = some FB) (h57 : E.pure 157 = some FS) (h58 : E.pure 158 = some FP) (s u f0 f1 f2 f3 f4 f5 f6 f7 f8 f9 f10 f11 f12 f13 f14 f15 : List UInt8) (n0 n1 n2 n3 n4 n5 n6 n7 n8 n9 n10 : Nat)
    (b0 : FB [.str s] = some (.sv (.str u))) (s0 : FS [.str u, .str [32]] = some (.sv (.sl [.str f0, .str f1, .str f2, .str f3, .str f4, .str f5, .str f6, .str f7, .str f8, .str f9, .str f10, .str f11, .str f12, .str f13, .str f14, .str f15]))) (p0 : FP [.str f1, .int .i64 10, .int .i64 64] = some (.sv (.tup [.int .i64 (n0 : Int), .nilI]))) (p1 : FP [.str f2, .int .i64 10, .int .i64 64] = some (.sv (.tup [.int .i64 (n1 : Int), .nilI]))) (p2 : FP [.str f3, .int .i64 10, .int .i64 64] = some (.sv (.tup [.int .i64 (n2 : Int), .nilI]))) (p3 : FP [.str f4, .int .i64 10, .int .i64 64] = some (.sv (.tup [.int .i64 (n3 : Int), .nilI]))) (p4 : FP [.str f5, .int .i64 10, .int .i64 64] = some (.sv (.tup [.int .i64 (n4 : Int), .nilI]))) (p5 : FP [.str f8, .int .i64 10, .int .i64 64] = some (.sv (.tup [.int .i64 (n5 : Int), .nilI]))) (p6 : FP [.str f9, .int .i64 10, .int .i64 64] = some (.sv (.tup [.int .i64 (n6 : Int), .nilI]))) (p7 : FP [.str f10, .int .i64 10, .int .i64 64] = some (.sv (.tup [.int .i64 (n7 : Int), .nilI]))) (p8 : FP [.str f13, .int .i64 10, .int .i64 64] = some (.sv (.tup [.int .i64 (n8 : Int), .nilI]))) (p9 : FP [.str f14, .int .i64 10, .int .i64 64] = some (.sv (.tup [.int .i64 (n9 : Int), .nilI]))) (p10 : FP [.str f15, .int .i64 10, .int .i64 64] = some (.sv (.tup [.int .i64 (n10 : Int), .nilI]))) (n : Nat) :
    evPA E n 142 [.str s] = some (.sv (.tup [.ref [.str f0, .int .i64 (n0 : Int), .int .i64 (n1 : Int), .int .i64 (n2 : Int), .int .i64 (n3 : Int), .int .i64 (n4 : Int), .int .i64 (n5 : Int), .int .i64 (n6 : Int), .int .i64 (n7 : Int), .int .i64 (n8 : Int), .int .i64 (n9 : Int), .int .i64 (n10 : Int)], .nilI])) := by
  unfold evPA
  simp only [h]
  simp (maxSteps := 5000000) [c1142, h56, h57, h58, b0, s0, p0, p1, p2, p3, p4, p5, p6, p7, p8, p9, p10]

def slCells (r : RowD) : List SV := .str r.name :: r.N.map fun n : Nat => .int .i64 ((n : Nat) : Int)

def S1142 (F : List SV → Option AV) : Prop := ∀ r : RowD, slOk r = true → (slBody r).length < 1000000 → F [.str (slBody r)] = some (.sv (.tup [.ref (slCells r), .nilI]))

theorem ev1142 (E : Env) (h : E.code 142 = some c1142) (h56 : Has E 156 S1156) (h57 : Has E 157 S1157) (h58 : Has E 158 S1158) : S1142 (autoF E 142) := by
  obtain ⟨FB, hpB, hB⟩ := h56
  obtain ⟨FS, hpS, hS⟩ := h57
  obtain ⟨FP, hpP, hP⟩ := h58
  intro r hok hl
  obtain ⟨c, t, n0, n1, n2, n3, n4, n5, n6, n7, n8, n9, n10, hr⟩ := slOk_spec hok
  have b0 := hB (slBody r) (by omega)
  have hul := spG_len (slBody r) false
  have s0 := hS 32 (spG false (slBody r)) (by omega)
  rw [show (32 : UInt8).toNat = 32 from rfl, slBody_sp hr] at s0
  simp only [slToks, strs, List.map_cons, List.map_nil] at s0
  have hcl : slCells r = [.str (c :: t), .int .i64 (n0 : Int), .int .i64 (n1 : Int), .int .i64 (n2 : Int), .int .i64 (n3 : Int), .int .i64 (n4 : Int), .int .i64 (n5 : Int), .int .i64 (n6 : Int), .int .i64 (n7 : Int), .int .i64 (n8 : Int), .int .i64 (n9 : Int), .int .i64 (n10 : Int)] := by rw [slRow_eq hr]; rfl
  rw [hcl]
  have hs := hr.hs
  refine autoA_sv (n := 1) ?_ rfl
  exact core1142 E h FB FS FP hpB hpS hpP (slBody r) (spG false (slBody r)) (c :: t) _ _ _ _ _ _ _ _ _ _ _ _ _ _ _ n0 n1 n2 n3 n4 n5 n6 n7 n8 n9 n10 b0 s0 (hP n0 (hs n0 (by simp))) (hP n1 (hs n1 (by simp))) (hP n2 (hs n2 (by simp))) (hP n3 (hs n3 (by simp))) (hP n4 (hs n4 (by simp))) (hP n5 (hs n5 (by simp))) (hP n6 (hs n6 (by simp))) (hP n7 (hs n7 (by simp))) (hP n8 (hs n8 (by simp))) (hP n9 (hs n9 (by simp))) (hP n10 (hs n10 (by simp))) 1

def S1141 (F : List SV → Option AV) : Prop := F [.str slHead1] = some (.sv (.bool false)) ∧ F [.str slHead2] = some (.sv (.bool false)) ∧ ∀ r, slOk r = true → (slBody r).length < 1000000 → F [.str (slBody r)] = some (.sv (.bool true))

set_option maxRecDepth 100000 in
theorem ev1141 (E : Env) (h : E.code 141 = some c1141) (h55 : Has E 155 S1155) : S1141 (autoF E 141) := by
  obtain ⟨F, hp, hF⟩ := h55
  have hd1 : slHead1.length = 23 := rfl
  have hd2 : slHead2.length = 179 := rfl
  refine ⟨?_, ?_, fun r hok hl => ?_⟩
  · have e1 := (hF slHead1 [115, 108, 97, 98, 105, 110, 102, 111, 32, 45] (by omega) (by decide)).2 (by decide) (by decide)
    refine autoA_sv (n := 1) ?_ rfl
    unfold evPA
    simp only [h]
    generalize slHead1 = s at *
    simp [c1141, hp, e1]
  · have e1 := (hF slHead2 [115, 108, 97, 98, 105, 110, 102, 111, 32, 45] (by omega) (by decide)).1 (not_in_char (c := 45) (by decide) (by decide))
    have e2 := (hF slHead2 [35, 32, 110, 97, 109, 101] (by omega) (by decide)).2 (by decide) (by decide)
    refine autoA_sv (n := 1) ?_ rfl
    unfold evPA
    simp only [h]
    generalize slHead2 = s at *
    simp [c1141, hp, e1, e2]
  · have hb := slBody_ok hok
    have e1 := (hF (slBody r) [115, 108, 97, 98, 105, 110, 102, 111, 32, 45] (by omega) (by decide)).1 (not_in hb (fun p t => by cases p <;> simp [okG]))
    have e2 := (hF (slBody r) [35, 32, 110, 97, 109, 101] (by omega) (by decide)).1 (not_in hb (fun p t => by cases p <;> simp [okG]))
    refine autoA_sv (n := 1) ?_ rfl
    unfold evPA
    simp only [h]
    generalize slBody r = s at *
    simp [c1141, hp, e1, e2]

end Go.Ev

set_option linter.unusedSimpArgs false
set_option linter.unusedVariables false
namespace Go.Ev
open Go.Proofs

def accKs (xs : List SV) : Cell := match xs with | [] => .sv .nilS | x :: l => .own 47 (x :: l)

theorem slCells_eq {r : RowD} {c : UInt8} {t : List UInt8} {n0 n1 n2 n3 n4 n5 n6 n7 n8 n9 n10 : Nat} (hr : SlR r c t n0 n1 n2 n3 n4 n5 n6 n7 n8 n9 n10) : slCells r = [.str (c :: t), .int .i64 (n0 : Int), .int .i64 (n1 : Int), .int .i64 (n2 : Int), .int .i64 (n3 : Int), .int .i64 (n4 : Int), .int .i64 (n5 : Int), .int .i64 (n6 : Int), .int .i64 (n7 : Int), .int .i64 (n8 : Int), .int .i64 (n9 : Int), .int .i64 (n10 : Int)] := by rw [slRow_eq hr]; rfl

theorem slNode_eq {r : RowD} {c : UInt8} {t : List UInt8} {n0 n1 n2 n3 n4 n5 n6 n7 n8 n9 n10 : Nat} (hr : SlR r c t n0 n1 n2 n3 n4 n5 n6 n7 n8 n9 n10) : slNode r = .agg [.str [], .int .i64 8, .bool false, .int .i64 0, .int .u64 0, .flt .f64 0, .str [], .sl [.agg [.str [78, 97, 109, 101], .int .i64 5, .bool false, .int .i64 0, .int .u64 0, .flt .f64 0, .str (c :: t), .sl []], .agg [.str [79, 98, 106, 65, 99, 116, 105, 118, 101], .int .i64 2, .bool false, .int .i64 (n0 : Int), .int .u64 0, .flt .f64 0, .str [], .sl []], .agg [.str [79, 98, 106, 78, 117, 109], .int .i64 2, .bool false, .int .i64 (n1 : Int), .int .u64 0, .flt .f64 0, .str [], .sl []], .agg [.str [79, 98, 106, 83, 105, 122, 101], .int .i64 2, .bool false, .int .i64 (n2 : Int), .int .u64 0, .flt .f64 0, .str [], .sl []], .agg [.str [79, 98, 106, 80, 101, 114, 83, 108, 97, 98], .int .i64 2, .bool false, .int .i64 (n3 : Int), .int .u64 0, .flt .f64 0, .str [], .sl []], .agg [.str [80, 97, 103, 101, 115, 80, 101, 114, 83, 108, 97, 98], .int .i64 2, .bool false, .int .i64 (n4 : Int), .int .u64 0, .flt .f64 0, .str [], .sl []], .agg [.str [76, 105, 109, 105, 116], .int .i64 2, .bool false, .int .i64 (n5 : Int), .int .u64 0, .flt .f64 0, .str [], .sl []], .agg [.str [66, 97, 116, 99, 104], .int .i64 2, .bool false, .int .i64 (n6 : Int), .int .u64 0, .flt .f64 0, .str [], .sl []], .agg [.str [83, 104, 97, 114, 101, 100, 70, 97, 99, 116, 111, 114], .int .i64 2, .bool false, .int .i64 (n7 : Int), .int .u64 0, .flt .f64 0, .str [], .sl []], .agg [.str [83, 108, 97, 98, 65, 99, 116, 105, 118, 101], .int .i64 2, .bool false, .int .i64 (n8 : Int), .int .u64 0, .flt .f64 0, .str [], .sl []], .agg [.str [83, 108, 97, 98, 78, 117, 109], .int .i64 2, .bool false, .int .i64 (n9 : Int), .int .u64 0, .flt .f64 0, .str [], .sl []], .agg [.str [83, 104, 97, 114, 101, 100, 65, 118, 97, 105, 108], .int .i64 2, .bool false, .int .i64 (n10 : Int), .int .u64 0, .flt .f64 0, .str [], .sl []]]] := by rw [slRow_eq hr]; rfl

def S1107 (F : List SV → Option AV) : Prop := ∀ r : RowD, slOk r = true → F [.str [], .agg (slCells r)] = some (.sv (slNode r))

set_option maxHeartbeats 16000000 in
theorem ev1107 (E : Env) (h : E.code 107 = some c1107) : S1107 (autoF E 107) := by
  intro r hok
  obtain ⟨c, t, n0, n1, n2, n3, n4, n5, n6, n7, n8, n9, n10, hr⟩ := slOk_spec hok
  rw [slCells_eq hr, slNode_eq hr]
  refine autoA_sv (n := 1) ?_ rfl
  unfold evPA
  simp only [h]
  generalize c :: t = nm
  simp [c1107]

theorem slNode_agg (r : RowD) : ∃ k, slNode r = .agg [.str [], .int .i64 8, .bool false, .int .i64 0, .int .u64 0, .flt .f64 0, .str [], .sl k] := ⟨_, rfl⟩

def S1106 (F : List SV → Option AV) : Prop := ∀ r : RowD, slOk r = true → F [.str [], .agg (slCells r)] = some (.sv (slNode r))

theorem ev1106 (E : Env) (h : E.code 106 = some c1106) (h07 : Has E 107 S1107) : S1106 (autoF E 106) := by
  obtain ⟨F, hp, hF⟩ := h07
  intro r hok
  have hFr := hF r hok
  obtain ⟨c, t, n0, n1, n2, n3, n4, n5, n6, n7, n8, n9, n10, hr⟩ := slOk_spec hok
  obtain ⟨k, hk⟩ := slNode_agg r
  rw [hk] at hFr ⊢
  rw [slCells_eq hr] at hFr ⊢
  refine autoA_sv (n := 1) ?_ rfl
  unfold evPA
  simp only [h]
  generalize c :: t = nm at *
  simp [c1106, hp, hFr]

def S1105 (F : List SV → Option AV) : Prop := ∀ r : RowD, slOk r = true → F [.str [], .ref (slCells r), .fn 106 [] []] = some (.sv (slNode r))

theorem ev1105 (E : Env) (h : E.code 105 = some c1105) (h06 : Has E 106 S1106) : S1105 (autoF E 105) := by
  obtain ⟨F, hp, hF⟩ := h06
  intro r hok
  have hFr := hF r hok
  obtain ⟨c, t, n0, n1, n2, n3, n4, n5, n6, n7, n8, n9, n10, hr⟩ := slOk_spec hok
  obtain ⟨k, hk⟩ := slNode_agg r
  rw [hk] at hFr ⊢
  rw [slCells_eq hr] at hFr ⊢
  refine autoA_sv (n := 1) ?_ rfl
  unfold evPA
  simp only [h]
  generalize c :: t = nm at *
  simp [c1105, hp, hFr]

def S1104 (F : List SV → Option AV) : Prop := ∀ r : RowD, slOk r = true → F [.ref (slCells r)] = some (.sv (slNode r))

theorem ev1104 (E : Env) (h : E.code 104 = some c1104) (h05 : Has E 105 S1105) : S1104 (autoF E 104) := by
  obtain ⟨F, hp, hF⟩ := h05
  intro r hok
  have hFr := hF r hok
  obtain ⟨k, hk⟩ := slNode_agg r
  rw [hk] at hFr ⊢
  refine autoA_sv (n := 1) ?_ rfl
  unfold evPA
  simp only [h]
  generalize slCells r = cs at *
  simp [c1104, hp, hFr]

/-! ### A list of slabs as a tree -/

def slVals (rs : List RowD) : List SV := rs.map fun r => .ref (slCells r)

def st1103 (xs acc : List SV) (i : Nat) (z : Box) : SA := { nt := 28, tm := [(14, .sv (.int .i64 i)), (13, .sv (.int .i64 xs.length)), (12, .sv (.sl xs)), (7, .ptr 1 0), (6, .ptr 0 0), (2, .sv (.fn 104 [] []))], lz := none, bx := [z, .live [.sv (.str [83, 108, 97, 98, 115]), .sv (.int .i64 6), .sv (.bool false), .sv (.int .i64 0), .sv (.int .u64 0), .sv (.flt .f64 0), .sv (.str []), accKs (acc)]], df := [] }

set_option maxHeartbeats 4000000 in
theorem step1103 (E : Env) (cf : CallF) (m : Nat) (G : List SV → Option AV) (hG : E.pure 104 = some G) (xs acc : List SV) (ha : acc.length < 1000000000) (i : Nat) (hlt : i < xs.length) (hxl : xs.length < 100000000) (x : SV) (cs : List SV) (hx : x = .ref cs) (hc : ∀ h : i < xs.length, xs[i]'h = x) (v : SV) (k : List SV) (hv : v = .agg [.str [], .int .i64 8, .bool false, .int .i64 0, .int .u64 0, .flt .f64 0, .str [], .sl k]) (hgx : G [x] = some (.sv v)) (z : Box) :
    evCA E cf m b1103_0 (st1103 xs acc i z) = some (.normal, st1103 xs (acc ++ [v]) (i + 1) z) := by
  subst hx; subst hv
  have hw : IntKind.i64.wrap ((i : Int) + 1) = ((i + 1 : Nat) : Int) := by rw [IntKind.wrap_i64]; omega
  have hl1 : (acc.length + 1) * 96 ≤ 140737488355328 := by omega
  have hl2 : acc.length + 1 ≤ 140737488355328 := by omega
  cases acc with
  | nil => simp [st1103, b1103_0, hlt, hc, hG, hgx, hw, accKs]
  | cons y ys =>
    simp only [List.length_cons] at hl1 hl2
    simp [st1103, b1103_0, hlt, hc, hG, hgx, hw, accKs, hl1, hl2]

theorem loop1103 (E : Env) (cf : CallF) (m : Nat) (h04 : Has E 104 S1104) (xs : List SV) (hxl : xs.length < 100000000) (z : Box) :
    ∀ (rest : List RowD) (pre acc : List SV) (i : Nat) (k : Nat), xs = pre ++ slVals rest → i = pre.length → acc.length = i → (∀ r ∈ rest, slOk r = true) → rest.length < k →
      roundsA (evCA E cf m b1103_0) k (st1103 xs acc i z) = some (.exit 0, { nt := 28, tm := [(7, .ptr 1 0), (6, .ptr 0 0)], lz := none, bx := [z, .live [.sv (.str [83, 108, 97, 98, 115]), .sv (.int .i64 6), .sv (.bool false), .sv (.int .i64 0), .sv (.int .u64 0), .sv (.flt .f64 0), .sv (.str []), accKs (acc ++ rest.map slNode)]], df := [] }) := by
  obtain ⟨G, hG, hg⟩ := h04
  intro rest
  induction rest with
  | nil =>
    intro pre acc i k hsp hi ha _ hk
    obtain ⟨k, rfl⟩ : ∃ k', k = k' + 1 := ⟨k - 1, by omega⟩
    have hlt : ¬ (i < xs.length) := by rw [hsp, hi]; simp [slVals]
    refine roundsA_out ?_ (by simp)
    simp [st1103, b1103_0, hlt]
  | cons r rest ih =>
    intro pre acc i k hsp hi ha hr hk
    obtain ⟨k, rfl⟩ : ∃ k', k = k' + 1 := ⟨k - 1, by omega⟩
    have hlt : i < xs.length := by rw [hsp, hi]; simp [slVals]
    obtain ⟨kk, hkk⟩ := slNode_agg r
    have hc : ∀ h : i < xs.length, xs[i]'h = .ref (slCells r) := by subst hi; subst hsp; simp [slVals]
    rw [roundsA_step (step1103 E cf m G hG xs acc (by omega) i hlt hxl _ (slCells r) rfl hc _ kk hkk (hg r (hr r (by simp))) z)]
    rw [ih (pre ++ [.ref (slCells r)]) (acc ++ [slNode r]) (i + 1) k (by rw [hsp]; simp [slVals]) (by simp [hi]) (by simp [ha]) (fun q hq => hr q (by simp [hq])) (by simp at hk; omega)]
    simp

def S1103 (F : List SV → Option AV) : Prop := ∀ rs : List RowD, rs.length < 100000000 → (∀ r ∈ rs, slOk r = true) → F [.str [83, 108, 97, 98, 115], .sl (slVals rs), .fn 104 [] []] = some (.sv (nodeV [83, 108, 97, 98, 115] 6 false 0 0 0 [] (rs.map slNode)))

theorem ev1103 (E : Env) (h : E.code 103 = some c1103) (h04 : Has E 104 S1104) : S1103 (autoF E 103) := by
  intro rs hl hr
  have he := loop1103 E (evF E (rs.length + 1)) (rs.length + 1) h04 (slVals rs) (by simpa [slVals] using hl) (.live [.sv (.str []), .sv (.int .i64 0), .sv (.bool false), .sv (.int .i64 0), .sv (.int .u64 0), .sv (.flt .f64 0), .sv (.str []), .sv .nilS]) rs [] [] 0 (rs.length + 1) rfl rfl rfl hr (by omega)
  refine autoA_sv (n := rs.length + 1) ?_ rfl
  unfold evPA
  simp only [h]
  rw [List.nil_append] at he
  simp only [st1103, accKs, Int.ofNat_zero, Int.natCast_zero] at he
  generalize rs.map slNode = ks at he ⊢
  generalize slVals rs = xs at he ⊢
  cases ks with
  | nil => simp only [accKs] at he; simp [c1103, he, nodeV]
  | cons y ys => simp only [accKs] at he; simp [c1103, he, nodeV]

def S1063 (F : List SV → Option AV) : Prop := ∀ rs : List RowD, rs.length < 100000000 → (∀ r ∈ rs, slOk r = true) → F [.str [], .agg [.sl (slVals rs)]] = some (.sv (slTree rs))

set_option maxHeartbeats 4000000 in
theorem ev1063 (E : Env) (h : E.code 63 = some c1063) (h03 : Has E 103 S1103) : S1063 (autoF E 63) := by
  obtain ⟨F, hp, hF⟩ := h03
  intro rs hl hr
  have hF1 := hF rs hl hr
  refine autoA_sv (n := 1) ?_ rfl
  unfold evPA
  simp only [h]
  unfold slTree
  unfold nodeV at *
  generalize rs.map slNode = ks at *
  generalize slVals rs = vs at *
  simp [c1063, hp, hF1]

def S1062 (F : List SV → Option AV) : Prop := ∀ rs : List RowD, rs.length < 100000000 → (∀ r ∈ rs, slOk r = true) → F [.agg [.sl (slVals rs)]] = some (.sv (slTree rs))

theorem ev1062 (E : Env) (h : E.code 62 = some c1062) (h63 : Has E 63 S1063) : S1062 (autoF E 62) := by
  obtain ⟨F, hp, hF⟩ := h63
  intro rs hl hr
  have hF1 := hF rs hl hr
  refine autoA_sv (n := 1) ?_ rfl
  unfold evPA
  simp only [h]
  unfold slTree at *
  unfold nodeV at *
  generalize rs.map slNode = ks at *
  generalize slVals rs = vs at *
  simp [c1062, hp, hF1]

end Go.Ev

set_option linter.unusedSimpArgs false
set_option linter.unusedVariables false
namespace Go.Ev
open Go.Proofs

def slC (acc : List SV) : Cell := match acc with | [] => .sv .nilS | x :: l => .own 125 (x :: l)

def slB (acc : List SV) : Box := .live [slC acc]

def st1102 (z : Box) (s t : List UInt8) (acc : List SV) : SA := { nt := 36, tm := [(5, .ptr 2 0), (4, .ptr 1 0), (2, .ptr 0 0)], lz := none, bx := [z, scanBox s t, slB acc], df := [] }

theorem slScan (E : Env) (h : E.code 91 = some c88) (z b : Box) (line rest t : List UInt8) (hl : line.length < 65536) (hal : rest.length < 1000000000) (h1 : ∀ c ∈ line, c.toNat ≠ 10 ∧ c.toNat ≠ 13) (N : Nat) (hN : line.length < N) :
    evF E (N + 1) 91 [.ptr 1 0] [z, scanBox (line ++ 10 :: rest) t, b] = some (.sv (.bool true), [z, scanBox rest line, b]) :=
  scan88 E h 1 [z, scanBox (line ++ 10 :: rest) t, b] line rest t rfl hl hal h1 N hN

theorem skip1102 (E : Env) (N m : Nat) (h88 : E.code 91 = some c88) (h90 : E.code 93 = some c90) (hp88 : E.pure 91 = none) (hp90 : E.pure 93 = none) (FS : List SV → Option AV) (h41 : E.pure 141 = some FS) (z : Box) (line rest t : List UInt8) (acc : List SV) (hl : line.length < 65536) (hal : rest.length < 1000000000) (h1 : ∀ c ∈ line, c.toNat ≠ 10 ∧ c.toNat ≠ 13) (hN : line.length < N) (hF : FS [.str line] = some (.sv (.bool false))) :
    evCA E (evF E (N + 1)) m b1102_0 (st1102 z (line ++ 10 :: rest) t acc) = some (.normal, st1102 z rest line acc) := by
  have hsc := slScan E h88 z (slB acc) line rest t hl hal h1 N hN
  have htx := evF90 E h90 N 1 [z, scanBox rest line, slB acc] rest line rfl
  simp [b1102_0, st1102, hp88, hp90, hsc, htx, h41, hF]

set_option maxHeartbeats 4000000 in
theorem row1102 (E : Env) (N m : Nat) (h88 : E.code 91 = some c88) (h90 : E.code 93 = some c90) (hp88 : E.pure 91 = none) (hp90 : E.pure 93 = none) (FS FP : List SV → Option AV) (h41 : E.pure 141 = some FS) (h42 : E.pure 142 = some FP) (z : Box) (line rest t : List UInt8) (acc : List SV) (hacc : acc.length < 1000000000) (hl : line.length < 65536) (hal : rest.length < 1000000000) (h1 : ∀ c ∈ line, c.toNat ≠ 10 ∧ c.toNat ≠ 13) (hN : line.length < N) (hF : FS [.str line] = some (.sv (.bool true))) (cs : List SV) (hP : FP [.str line] = some (.sv (.tup [.ref cs, .nilI]))) :
    evCA E (evF E (N + 1)) m b1102_0 (st1102 z (line ++ 10 :: rest) t acc) = some (.normal, st1102 z rest line (acc ++ [.ref cs])) := by
  have hsc := slScan E h88 z (slB acc) line rest t hl hal h1 N hN
  have htx := evF90 E h90 N 1 [z, scanBox rest line, slB acc] rest line rfl
  have hl1 : (acc.length + 1) * 8 ≤ 140737488355328 := by omega
  have hl2 : acc.length + 1 ≤ 140737488355328 := by omega
  unfold slB slC at hsc htx
  cases acc with
  | nil =>
    simp only at hsc htx
    simp [b1102_0, st1102, slB, slC, hp88, hp90, hsc, htx, h41, hF, h42, hP]
  | cons y ys =>
    simp only [List.length_cons] at hl1 hl2
    simp only at hsc htx
    simp [b1102_0, st1102, slB, slC, hp88, hp90, hsc, htx, h41, hF, h42, hP, hl1, hl2]

def slBodies (rs : List RowD) : List UInt8 := (rs.map fun r => slBody r ++ [10]).flatten

theorem loop1102 (E : Env) (N m : Nat) (h88 : E.code 91 = some c88) (h90 : E.code 93 = some c90) (hp88 : E.pure 91 = none) (hp90 : E.pure 93 = none) (h41 : Has E 141 S1141) (h42 : Has E 142 S1142) (z : Box) :
    ∀ (rs : List RowD) (t : List UInt8) (acc : List SV) (k : Nat), (∀ r ∈ rs, slOk r = true) → (slBodies rs).length ≤ 40000 → (slBodies rs).length < N → acc.length + rs.length < 1000000000 → rs.length < k →
      roundsA (evCA E (evF E (N + 1)) m b1102_0) k (st1102 z (slBodies rs) t acc) = some (.exit 0, { nt := 36, tm := [(5, .ptr 2 0), (2, .ptr 0 0)], lz := none, bx := [z, scanBox [] [], slB (acc ++ slVals rs)], df := [] }) := by
  obtain ⟨FS, hpS, hS1, hS2, hS⟩ := h41
  obtain ⟨FP, hpP, hP⟩ := h42
  intro rs
  induction rs with
  | nil =>
    intro t acc k _ hl hN ha hk
    obtain ⟨k, rfl⟩ : ∃ k', k = k' + 1 := ⟨k - 1, by omega⟩
    have hs := scan88e E h88 1 [z, scanBox [] t, slB acc] t rfl N
    refine roundsA_out ?_ (by simp)
    have hb : slBodies [] = [] := rfl
    simp only [List.set_cons_succ, List.set_cons_zero] at hs
    simp [b1102_0, st1102, hp88, hs, slVals, hb]
  | cons r rs ih =>
    intro t acc k hok hl hN ha hk
    obtain ⟨k, rfl⟩ : ∃ k', k = k' + 1 := ⟨k - 1, by omega⟩
    have hb : slBodies (r :: rs) = slBody r ++ 10 :: slBodies rs := by simp [slBodies]
    rw [hb] at hl hN ⊢
    simp only [List.length_append, List.length_cons] at hl hN
    have hr := hok r (by simp)
    have hst := row1102 E N m h88 h90 hp88 hp90 FS FP hpS hpP z (slBody r) (slBodies rs) t acc (by simp at ha; omega) (by omega) (by omega) (slBody_chars hr).2 (by omega) (hS r hr (by omega)) (slCells r) (hP r hr (by omega))
    rw [roundsA_step hst, ih (slBody r) (acc ++ [SV.ref (slCells r)]) k (fun q hq => hok q (by simp [hq])) (by omega) (by omega) (by simp at ha ⊢; omega) (by simp at hk; omega)]
    simp [slVals]

def S1102 (F : List SV → Option AV) : Prop := ∀ rs : List RowD, (∀ r ∈ rs, slOk r = true) → (slText rs).length ≤ 40000 → F [.str (slText rs)] = some (.sv (.tup [.agg [.sl (slVals rs)], .nilI]))

theorem slBodies_len : ∀ rs : List RowD, rs.length ≤ (slBodies rs).length
  | [] => by simp [slBodies]
  | r :: rs => by
    have := slBodies_len rs
    have hb : slBodies (r :: rs) = slBody r ++ 10 :: slBodies rs := by simp [slBodies]
    rw [hb]; simp; omega

set_option maxRecDepth 100000 in
set_option maxHeartbeats 4000000 in
theorem ev1102 (E : Env) (h : E.code 102 = some c1102) (h87 : E.code 90 = some c87) (h88 : E.code 91 = some c88) (h90 : E.code 93 = some c90) (hp87 : E.pure 90 = none) (hp88 : E.pure 91 = none) (hp90 : E.pure 93 = none) (h41 : Has E 141 S1141) (h42 : Has E 142 S1142) : S1102 (autoF E 102) := by
  intro rs hok hl
  have htxt : slText rs = slHead1 ++ 10 :: (slHead2 ++ 10 :: slBodies rs) := by
    unfold slText slHead slBodies
    simp only [List.append_assoc, List.cons_append, List.nil_append]
  have hd1 : slHead1.length = 23 := rfl
  have hd2 : slHead2.length = 179 := rfl
  have hll : (slText rs).length = 23 + (179 + (slBodies rs).length + 1) + 1 := by rw [htxt]; simp only [List.length_append, List.length_cons, hd1, hd2]; omega
  have hlen := slBodies_len rs
  have hc1 : ∀ c ∈ slHead1, c.toNat ≠ 10 ∧ c.toNat ≠ 13 := by decide
  have hc2 : ∀ c ∈ slHead2, c.toNat ≠ 10 ∧ c.toNat ≠ 13 := by decide
  obtain ⟨FS, hpS, hS1, hS2, hS⟩ := h41
  have z0 : ∀ (z : Box) k, 2 < k → (slText rs).length + 5 ≤ k → roundsA (evCA E (evF E ((slText rs).length + 5)) ((slText rs).length + 5) b1102_0) k (st1102 z (slText rs) [] []) = some (.exit 0, { nt := 36, tm := [(5, .ptr 2 0), (2, .ptr 0 0)], lz := none, bx := [z, scanBox [] [], slB (slVals rs)], df := [] }) := by
    intro z k hk hk2
    obtain ⟨k, rfl⟩ : ∃ k', k = k' + 2 := ⟨k - 2, by omega⟩
    have s1 := skip1102 E ((slText rs).length + 4) ((slText rs).length + 5) h88 h90 hp88 hp90 FS hpS z slHead1 (slHead2 ++ 10 :: slBodies rs) [] [] (by omega) (by simp only [List.length_append, List.length_cons]; omega) hc1 (by omega) hS1
    have s2 := skip1102 E ((slText rs).length + 4) ((slText rs).length + 5) h88 h90 hp88 hp90 FS hpS z slHead2 (slBodies rs) slHead1 [] (by omega) (by omega) hc2 (by omega) hS2
    have s3 := loop1102 E ((slText rs).length + 4) ((slText rs).length + 5) h88 h90 hp88 hp90 ⟨FS, hpS, hS1, hS2, hS⟩ h42 z rs slHead2 [] k hok (by omega) (by omega) (by simp; omega) (by omega)
    rw [← htxt] at s1
    rw [roundsA_step s1, roundsA_step s2, s3]
    simp
  refine autoA_sv (n := (slText rs).length + 5) ?_ rfl
  have e87 := fun z => evF87 E h87 ((slText rs).length + 4) [z] (slText rs)
  have hl := z0 (.live [.sv .nilS]) ((slText rs).length + 5) (by omega) (by omega)
  clear z0 hll htxt hok
  unfold evPA
  simp only [h]
  generalize slVals rs = vs at *
  generalize slText rs = s at *
  simp only [st1102, slB, slC, scanBox] at hl
  simp only [List.length_cons, List.length_nil, List.cons_append, List.nil_append, scanBox] at e87
  cases vs with
  | nil =>
    simp only at hl
    simp [c1102, hp87, e87, hl]
  | cons y ys =>
    simp only at hl
    simp [c1102, hp87, e87, hl]

def S1061 (F : List SV → Option AV) : Prop := ∀ rs : List RowD, (∀ r ∈ rs, slOk r = true) → (slText rs).length ≤ 40000 → F [.agg [.str (slText rs)]] = some (.sv (.tup [.agg [.sl (slVals rs)], .nilI]))

theorem ev1061 (E : Env) (h : E.code 61 = some c1061) (h85 : E.pure 88 = some F85) (h99 : E.pure 101 = some F99) (h02 : Has E 102 S1102) : S1061 (autoF E 61) := by
  obtain ⟨F, hp, hF⟩ := h02
  intro rs hok hl
  have hF1 := hF rs hok hl
  have hb := svBytes_bytes (slText rs)
  have hF99 : F99 [.str (slText rs)] = some (.sv (.tup [.sl (bytesSV (slText rs)), .nilI])) := onlyIf_pos (by omega)
  refine autoA_sv (n := 1) ?_ rfl
  unfold evPA
  simp only [h]
  generalize slVals rs = vs at *
  generalize slText rs = s at *
  generalize bytesSV s = bs at *
  simp [c1061, h85, F85, h99, hF99, hb, hp, hF1]

def STrSl (F : List SV → Option AV) : Prop := ∀ rs : List RowD, (∀ r ∈ rs, slOk r = true) → (slText rs).length ≤ 40000 → F [.fn 61 [.agg [.str (slText rs)]] [], .fn 62 [] []] = some (.sv (.tup [slTree rs, .int .i64 0]))

theorem slText_rows (rs : List RowD) (h : (slText rs).length ≤ 40000) : rs.length < 100000000 := by
  have h1 := slBodies_len rs
  have h2 : slText rs = slHead ++ slBodies rs := rfl
  rw [h2, List.length_append] at h
  omega

theorem ev1060 (E : Env) (h : E.code 60 = some c1060) (hq : E.quiet 100 = true) (hS : Has E 61 S1061) (hC : Has E 62 S1062) : STrSl (autoF E 60) := by
  obtain ⟨F, hp, hF⟩ := hS
  obtain ⟨G, hg, hG⟩ := hC
  intro rs hok hl
  have hF1 := hF rs hok hl
  have hG1 := hG rs (slText_rows rs hl) hok
  refine autoA_sv (n := 1) ?_ rfl
  unfold evPA
  simp only [h]
  clear hF hG hl hok
  unfold slTree at *
  unfold nodeV at *
  generalize rs.map slNode = kids at *
  generalize slVals rs = vs at *
  generalize slText rs = s at *
  simp [c1060, hp, hF1, hg, hG1, hq]

def SDoorSl (F : List SV → Option AV) : Prop := ∀ rs : List RowD, (∀ r ∈ rs, slOk r = true) → (slText rs).length ≤ 40000 → F [.str (slText rs)] = some (.sv (.tup [slTree rs, .int .i64 0]))

theorem ev1025 (E : Env) (h : E.code 25 = some c1025) (h38 : E.pure 45 = some F38) (hT : Has E 60 STrSl) : SDoorSl (autoF E 25) := by
  obtain ⟨F, hp, hF⟩ := hT
  intro rs hok hl
  have hF1 := hF rs hok hl
  refine autoA_sv (n := 1) ?_ rfl
  unfold evPA
  simp only [h]
  clear hF hl hok
  unfold slTree at *
  unfold nodeV at *
  generalize rs.map slNode = kids at *
  generalize slText rs = s at *
  simp [c1025, h38, F38, hp, hF1]

end Go.Ev
