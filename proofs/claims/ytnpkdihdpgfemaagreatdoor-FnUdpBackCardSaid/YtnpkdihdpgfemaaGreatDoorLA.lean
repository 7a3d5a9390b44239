/- A socket's line: the program's reading. -/
/- Sockets: the program's trees of them. -/
/- Sockets: the door. -/
import Derived.Test.YtnpkdihdpgfemaaGreatDoorNA
import Derived.Test.YtnpkdihdpgfemaaGreatDoorEvE
set_option linter.unusedSimpArgs false
set_option linter.unusedVariables false
namespace Go.Ev
open Go.Proofs

set_option maxRecDepth 100000 in
set_option maxHeartbeats 80000000 in
theorem core1159_false (E : Env) (h : E.code 159 = some c1159) (FS FP FI : List SV → Option AV) (h57 : E.pure 157 = some FS) (h91 : E.pure 168 = some FP) (h69 : E.pure 169 = some FI)
    (f0 f1 f2 f3 f4 f5 f6 f7 f8 f9 f10 f11 f12 f13 f14 f15 f16 d0 x0 a a1 b b1 q0 q1 : List UInt8) (n0 n1 n2 n3 n4 n5 n6 n7 n8 : Nat) (va vb : List SV)
    (s0 : FS [.str f0, .str [58]] = some (.sv (.sl [.str d0, .str x0]))) (s1 : FS [.str f1, .str [58]] = some (.sv (.sl [.str a, .str a1]))) (s2 : FS [.str f2, .str [58]] = some (.sv (.sl [.str b, .str b1]))) (s4 : FS [.str f4, .str [58]] = some (.sv (.sl [.str q0, .str q1])))
    (p0 : FP [.str d0, .int .i64 0, .int .i64 64] = some (.sv (.tup [.int .u64 (n0 : Int), .nilI]))) (p1 : FP [.str a1, .int .i64 16, .int .i64 64] = some (.sv (.tup [.int .u64 (n1 : Int), .nilI]))) (p2 : FP [.str b1, .int .i64 16, .int .i64 64] = some (.sv (.tup [.int .u64 (n2 : Int), .nilI])))
    (p3 : FP [.str f3, .int .i64 16, .int .i64 64] = some (.sv (.tup [.int .u64 (n3 : Int), .nilI]))) (p4 : FP [.str q0, .int .i64 16, .int .i64 64] = some (.sv (.tup [.int .u64 (n4 : Int), .nilI]))) (p5 : FP [.str q1, .int .i64 16, .int .i64 64] = some (.sv (.tup [.int .u64 (n5 : Int), .nilI])))
    (p6 : FP [.str f7, .int .i64 0, .int .i64 64] = some (.sv (.tup [.int .u64 (n6 : Int), .nilI]))) (p7 : FP [.str f9, .int .i64 0, .int .i64 64] = some (.sv (.tup [.int .u64 (n7 : Int), .nilI])))
    (ia : FI [.str a] = some (.sv (.tup [.sl va, .nilI]))) (ib : FI [.str b] = some (.sv (.tup [.sl vb, .nilI]))) (n : Nat) :
    evP E n 159 [.sl [.str f0, .str f1, .str f2, .str f3, .str f4, .str f5, .str f6, .str f7, .str f8, .str f9, .str f10, .str f11, .str f12, .str f13, .str f14, .str f15, .str f16], .bool false] = some (.sv (.tup [.ref [.int .u64 (n0 : Int), .sl va, .int .u64 (n1 : Int), .sl vb, .int .u64 (n2 : Int), .int .u64 (n3 : Int), .int .u64 (n4 : Int), .int .u64 (n5 : Int), .int .u64 (n6 : Int), .int .u64 (n7 : Int), .nilP], .nilI])) := by
  unfold evP
  simp only [h]
  simp (maxSteps := 5000000) [c1159, List.replicate, h57, h91, h69, s0, s1, s2, s4, p0, p1, p2, p3, p4, p5, p6, p7, ia, ib]

set_option maxRecDepth 100000 in
set_option maxHeartbeats 80000000 in
theorem core1159_true (E : Env) (h : E.code 159 = some c1159) (FS FP FI : List SV → Option AV) (h57 : E.pure 157 = some FS) (h91 : E.pure 168 = some FP) (h69 : E.pure 169 = some FI)
    (f0 f1 f2 f3 f4 f5 f6 f7 f8 f9 f10 f11 f12 d0 x0 a a1 b b1 q0 q1 : List UInt8) (n0 n1 n2 n3 n4 n5 n6 n7 n8 : Nat) (va vb : List SV)
    (s0 : FS [.str f0, .str [58]] = some (.sv (.sl [.str d0, .str x0]))) (s1 : FS [.str f1, .str [58]] = some (.sv (.sl [.str a, .str a1]))) (s2 : FS [.str f2, .str [58]] = some (.sv (.sl [.str b, .str b1]))) (s4 : FS [.str f4, .str [58]] = some (.sv (.sl [.str q0, .str q1])))
    (p0 : FP [.str d0, .int .i64 0, .int .i64 64] = some (.sv (.tup [.int .u64 (n0 : Int), .nilI]))) (p1 : FP [.str a1, .int .i64 16, .int .i64 64] = some (.sv (.tup [.int .u64 (n1 : Int), .nilI]))) (p2 : FP [.str b1, .int .i64 16, .int .i64 64] = some (.sv (.tup [.int .u64 (n2 : Int), .nilI])))
    (p3 : FP [.str f3, .int .i64 16, .int .i64 64] = some (.sv (.tup [.int .u64 (n3 : Int), .nilI]))) (p4 : FP [.str q0, .int .i64 16, .int .i64 64] = some (.sv (.tup [.int .u64 (n4 : Int), .nilI]))) (p5 : FP [.str q1, .int .i64 16, .int .i64 64] = some (.sv (.tup [.int .u64 (n5 : Int), .nilI])))
    (p6 : FP [.str f7, .int .i64 0, .int .i64 64] = some (.sv (.tup [.int .u64 (n6 : Int), .nilI]))) (p7 : FP [.str f9, .int .i64 0, .int .i64 64] = some (.sv (.tup [.int .u64 (n7 : Int), .nilI])))
    (p8 : FP [.str f12, .int .i64 0, .int .i64 64] = some (.sv (.tup [.int .u64 (n8 : Int), .nilI])))
    (ia : FI [.str a] = some (.sv (.tup [.sl va, .nilI]))) (ib : FI [.str b] = some (.sv (.tup [.sl vb, .nilI]))) (n : Nat) :
    evP E n 159 [.sl [.str f0, .str f1, .str f2, .str f3, .str f4, .str f5, .str f6, .str f7, .str f8, .str f9, .str f10, .str f11, .str f12], .bool true] = some (.sv (.tup [.ref [.int .u64 (n0 : Int), .sl va, .int .u64 (n1 : Int), .sl vb, .int .u64 (n2 : Int), .int .u64 (n3 : Int), .int .u64 (n4 : Int), .int .u64 (n5 : Int), .int .u64 (n6 : Int), .int .u64 (n7 : Int), .ref [.int .u64 (n8 : Int)]], .nilI])) := by
  unfold evP
  simp only [h]
  simp (maxSteps := 5000000) [c1159, List.replicate, h57, h91, h69, s0, s1, s2, s4, p0, p1, p2, p3, p4, p5, p6, p7, ia, ib, p8]

end Go.Ev

set_option linter.unusedSimpArgs false
set_option linter.unusedVariables false
namespace Go.Ev
open Go.Proofs

def S1146 (F : List SV → Option AV) : Prop := ∀ (nm : List UInt8) (u : Int), F [.str nm, .int .u64 u] = some (.sv (nodeV nm 3 false 0 u 0 [] []))

theorem ev1146 (E : Env) (h : E.code 146 = some c1146) : S1146 (autoF E 146) := by
  intro nm u
  refine autoA_sv (n := 1) ?_ rfl
  unfold evPA
  simp only [h]
  simp [c1146, nodeV]

def S1145 (F : List SV → Option AV) : Prop := (∀ nm : List UInt8, F [.str nm, .nilP, .fn 146 [] []] = some (.sv (nodeV nm 0 false 0 0 0 [] []))) ∧
  ∀ (nm : List UInt8) (u : Int), F [.str nm, .ref [.int .u64 u], .fn 146 [] []] = some (.sv (nodeV nm 3 false 0 u 0 [] []))

theorem ev1145 (E : Env) (h : E.code 145 = some c1145) (h46 : Has E 146 S1146) : S1145 (autoF E 145) := by
  obtain ⟨F, hp, hF⟩ := h46
  have hF' : ∀ (nm : List UInt8) (u : Int), F [.str nm, .int .u64 u] = some (.sv (.agg [.str nm, .int .i64 3, .bool false, .int .i64 0, .int .u64 u, .flt .f64 0, .str [], .sl []])) := hF
  refine ⟨fun nm => ?_, fun nm u => ?_⟩
  · refine autoA_sv (n := 1) ?_ rfl
    unfold evPA
    simp only [h]
    simp [c1145, nodeV]
  · refine autoA_sv (n := 1) ?_ rfl
    unfold evPA
    simp only [h]
    simp [c1145, nodeV, hp, hF']

def S1123 (F : List SV → Option AV) : Prop := ∀ (d : Bool) (r : RowD), skOk d r = true → F [.str [], .agg (skCells d r)] = some (.sv (skNode d r))

set_option maxHeartbeats 16000000 in
theorem ev1123 (E : Env) (h : E.code 123 = some c1123) (h45 : Has E 145 S1145) : S1123 (autoF E 123) := by
  obtain ⟨F, hp, hF1, hF2⟩ := h45
  have hF1' : ∀ nm : List UInt8, F [.str nm, .nilP, .fn 146 [] []] = some (.sv (.agg [.str nm, .int .i64 0, .bool false, .int .i64 0, .int .u64 0, .flt .f64 0, .str [], .sl []])) := hF1
  have hF2' : ∀ (nm : List UInt8) (u : Int), F [.str nm, .ref [.int .u64 u], .fn 146 [] []] = some (.sv (.agg [.str nm, .int .i64 3, .bool false, .int .i64 0, .int .u64 u, .flt .f64 0, .str [], .sl []])) := hF2
  intro d r hr
  obtain ⟨n0, n1, n2, n3, n4, n5, n6, n7, n8, a, b, hs⟩ := skOk_spec hr
  refine autoA_sv (n := 1) ?_ (by unfold skNode; split <;> rfl)
  unfold evPA
  simp only [h]
  unfold skCells skNode
  simp only [hs.hN, hs.hS]
  have ea := svBytes_bytes (addrV a)
  have eb := svBytes_bytes (addrV b)
  generalize addrV a = va at *
  generalize addrV b = vb at *
  generalize bytesSV va = wa at *
  generalize bytesSV vb = wb at *
  cases d with
  | true => simp [c1123, nodeV, hp, hF2', ea, eb]
  | false => simp [c1123, nodeV, hp, hF1', ea, eb]

theorem skCells_len {d : Bool} {r : RowD} (h : skOk d r = true) : ∃ x0 x1 x2 x3 x4 x5 x6 x7 x8 x9 x10, skCells d r = [x0, x1, x2, x3, x4, x5, x6, x7, x8, x9, x10] ∧ (skCells d r).map SV.can0 = skCells d r := by
  obtain ⟨n0, n1, n2, n3, n4, n5, n6, n7, n8, a, b, hs⟩ := skOk_spec h
  unfold skCells
  simp only [hs.hN, hs.hS]
  refine ⟨_, _, _, _, _, _, _, _, _, _, _, rfl, ?_⟩
  cases d <;> rfl

theorem skNode_agg (d : Bool) (r : RowD) : ∃ k, skNode d r = .agg [.str [], .int .i64 8, .bool false, .int .i64 0, .int .u64 0, .flt .f64 0, .str [], .sl k] := by
  unfold skNode
  split
  · exact ⟨_, rfl⟩
  · exact ⟨_, rfl⟩

def S1122 (F : List SV → Option AV) : Prop := ∀ r : RowD, skOk false r = true → F [.str [], .agg (skCells false r)] = some (.sv (skNode false r))
def S1130 (F : List SV → Option AV) : Prop := ∀ r : RowD, skOk true r = true → F [.str [], .agg (skCells true r)] = some (.sv (skNode true r))

theorem ev1122 (E : Env) (h : E.code 122 = some c1122) (h23 : Has E 123 S1123) : S1122 (autoF E 122) := by
  obtain ⟨F, hp, hF⟩ := h23
  intro r hr
  have hFr := hF false r hr
  obtain ⟨k, hk⟩ := skNode_agg false r
  obtain ⟨n0, n1, n2, n3, n4, n5, n6, n7, n8, a, b, hs⟩ := skOk_spec hr
  rw [hk] at hFr ⊢
  unfold skCells at hFr ⊢
  simp only [hs.hN, hs.hS, if_true, Bool.false_eq_true, if_false] at hFr ⊢
  refine autoA_sv (n := 1) ?_ rfl
  unfold evPA
  simp only [h]
  generalize bytesSV (addrV a) = va at *
  generalize bytesSV (addrV b) = vb at *
  simp [c1122, hp, hFr]

theorem ev1130 (E : Env) (h : E.code 130 = some c1130) (h23 : Has E 123 S1123) : S1130 (autoF E 130) := by
  obtain ⟨F, hp, hF⟩ := h23
  intro r hr
  have hFr := hF true r hr
  obtain ⟨k, hk⟩ := skNode_agg true r
  obtain ⟨n0, n1, n2, n3, n4, n5, n6, n7, n8, a, b, hs⟩ := skOk_spec hr
  rw [hk] at hFr ⊢
  unfold skCells at hFr ⊢
  simp only [hs.hN, hs.hS, if_true, Bool.false_eq_true, if_false] at hFr ⊢
  refine autoA_sv (n := 1) ?_ rfl
  unfold evPA
  simp only [h]
  generalize bytesSV (addrV a) = va at *
  generalize bytesSV (addrV b) = vb at *
  simp [c1130, hp, hFr]

def fnN (d : Bool) : Nat := if d then 130 else 122
def fnL (d : Bool) : Nat := if d then 129 else 120

def S1121 (F : List SV → Option AV) : Prop := ∀ (d : Bool) (r : RowD), skOk d r = true → F [.str [], .ref (skCells d r), .fn (fnN d) [] []] = some (.sv (skNode d r))

theorem ev1121 (E : Env) (h : E.code 121 = some c1121) (h22 : Has E 122 S1122) (h30 : Has E 130 S1130) : S1121 (autoF E 121) := by
  obtain ⟨F, hp, hF⟩ := h22
  obtain ⟨G, hq, hG⟩ := h30
  intro d r hr
  obtain ⟨k, hk⟩ := skNode_agg d r
  obtain ⟨n0, n1, n2, n3, n4, n5, n6, n7, n8, a, b, hs⟩ := skOk_spec hr
  refine autoA_sv (n := 1) ?_ (by rw [hk]; rfl)
  unfold evPA
  simp only [h]
  cases d with
  | true =>
    have hFr := hG r hr
    rw [hk] at hFr ⊢
    unfold skCells at hFr ⊢
    simp only [hs.hN, hs.hS, if_true] at hFr ⊢
    generalize bytesSV (addrV a) = va at *
    generalize bytesSV (addrV b) = vb at *
    simp [c1121, fnN, hq, hFr]
  | false =>
    have hFr := hF r hr
    rw [hk] at hFr ⊢
    unfold skCells at hFr ⊢
    simp only [hs.hN, hs.hS, Bool.false_eq_true, if_false] at hFr ⊢
    generalize bytesSV (addrV a) = va at *
    generalize bytesSV (addrV b) = vb at *
    simp [c1121, fnN, hp, hFr]

def S1120 (F : List SV → Option AV) : Prop := ∀ r : RowD, skOk false r = true → F [.ref (skCells false r)] = some (.sv (skNode false r))

theorem ev1120 (E : Env) (h : E.code 120 = some c1120) (h21 : Has E 121 S1121) : S1120 (autoF E 120) := by
  obtain ⟨F, hp, hF⟩ := h21
  intro r hr
  have hFr := hF false r hr
  obtain ⟨k, hk⟩ := skNode_agg false r
  rw [hk] at hFr ⊢
  refine autoA_sv (n := 1) ?_ rfl
  unfold evPA
  simp only [h]
  generalize skCells false r = cs at *
  simp [fnN] at hFr
  simp [c1120, hp, hFr]

def S1129 (F : List SV → Option AV) : Prop := ∀ r : RowD, skOk true r = true → F [.ref (skCells true r)] = some (.sv (skNode true r))

theorem ev1129 (E : Env) (h : E.code 129 = some c1129) (h21 : Has E 121 S1121) : S1129 (autoF E 129) := by
  obtain ⟨F, hp, hF⟩ := h21
  intro r hr
  have hFr := hF true r hr
  obtain ⟨k, hk⟩ := skNode_agg true r
  rw [hk] at hFr ⊢
  refine autoA_sv (n := 1) ?_ rfl
  unfold evPA
  simp only [h]
  generalize skCells true r = cs at *
  simp [fnN] at hFr
  simp [c1129, hp, hFr]

/-! ### A list of sockets as a tree -/

def accK (xs : List SV) : Cell := match xs with | [] => .sv .nilS | x :: l => .own 47 (x :: l)

def st1119 (d : Bool) (xs acc : List SV) (i : Nat) (z : Box) : SA := { nt := 28, tm := [(14, .sv (.int .i64 i)), (13, .sv (.int .i64 xs.length)), (12, .sv (.sl xs)), (7, .ptr 1 0), (6, .ptr 0 0), (2, .sv (.fn (fnL d) [] []))], lz := none, bx := [z, .live [.sv (.str []), .sv (.int .i64 6), .sv (.bool false), .sv (.int .i64 0), .sv (.int .u64 0), .sv (.flt .f64 0), .sv (.str []), accK acc]], df := [] }

def S1119 (F : List SV → Option AV) : Prop := ∀ (d : Bool) (rs : List RowD), rs.length < 100000000 → (∀ r ∈ rs, skOk d r = true) → F [.str [], .sl (skVals d rs), .fn (fnL d) [] []] = some (.sv (skTree d rs))

set_option maxHeartbeats 4000000 in
theorem step1119 (E : Env) (cf : CallF) (m : Nat) (G : List SV → Option AV) (d : Bool) (hG : E.pure (fnL d) = some G) (xs acc : List SV) (ha : acc.length < 1000000000) (i : Nat) (hlt : i < xs.length) (hxl : xs.length < 100000000) (x : SV) (cs : List SV) (hx : x = .ref cs) (hc : ∀ h : i < xs.length, xs[i]'h = x) (v : SV) (k : List SV) (hv : v = .agg [.str [], .int .i64 8, .bool false, .int .i64 0, .int .u64 0, .flt .f64 0, .str [], .sl k]) (hgx : G [x] = some (.sv v)) (z : Box) :
    evCA E cf m b1119_0 (st1119 d xs acc i z) = some (.normal, st1119 d xs (acc ++ [v]) (i + 1) z) := by
  subst hx; subst hv
  have hw : IntKind.i64.wrap ((i : Int) + 1) = ((i + 1 : Nat) : Int) := by rw [IntKind.wrap_i64]; omega
  have hl1 : (acc.length + 1) * 96 ≤ 140737488355328 := by omega
  have hl2 : acc.length + 1 ≤ 140737488355328 := by omega
  cases acc with
  | nil => simp [st1119, b1119_0, hlt, hc, hG, hgx, hw, accK]
  | cons y ys =>
    simp only [List.length_cons] at hl1 hl2
    simp [st1119, b1119_0, hlt, hc, hG, hgx, hw, accK, hl1, hl2]

theorem loop1119 (E : Env) (cf : CallF) (m : Nat) (d : Bool) (h20 : Has E 120 S1120) (h29 : Has E 129 S1129) (xs : List SV) (hxl : xs.length < 100000000) (z : Box) :
    ∀ (rest : List RowD) (pre acc : List SV) (i : Nat) (k : Nat), xs = pre ++ skVals d rest → i = pre.length → acc.length = i → (∀ r ∈ rest, skOk d r = true) → rest.length < k →
      roundsA (evCA E cf m b1119_0) k (st1119 d xs acc i z) = some (.exit 0, { nt := 28, tm := [(7, .ptr 1 0), (6, .ptr 0 0)], lz := none, bx := [z, .live [.sv (.str []), .sv (.int .i64 6), .sv (.bool false), .sv (.int .i64 0), .sv (.int .u64 0), .sv (.flt .f64 0), .sv (.str []), accK (acc ++ rest.map (skNode d))]], df := [] }) := by
  obtain ⟨G, hG, hg⟩ : ∃ G, E.pure (fnL d) = some G ∧ ∀ r : RowD, skOk d r = true → G [.ref (skCells d r)] = some (.sv (skNode d r)) := by
    obtain ⟨F, hp, hF⟩ := h20
    obtain ⟨G, hq, hG⟩ := h29
    cases d with
    | true => exact ⟨G, by simpa [fnL] using hq, hG⟩
    | false => exact ⟨F, by simpa [fnL] using hp, hF⟩
  intro rest
  induction rest with
  | nil =>
    intro pre acc i k hsp hi ha _ hk
    obtain ⟨k, rfl⟩ : ∃ k', k = k' + 1 := ⟨k - 1, by omega⟩
    have hlt : ¬ (i < xs.length) := by rw [hsp, hi]; simp [skVals]
    refine roundsA_out ?_ (by simp)
    simp [st1119, b1119_0, hlt]
  | cons r rest ih =>
    intro pre acc i k hsp hi ha hr hk
    obtain ⟨k, rfl⟩ : ∃ k', k = k' + 1 := ⟨k - 1, by omega⟩
    have hlt : i < xs.length := by rw [hsp, hi]; simp [skVals]
    obtain ⟨kk, hkk⟩ := skNode_agg d r
    have hc : ∀ h : i < xs.length, xs[i]'h = .ref (skCells d r) := by subst hi; subst hsp; simp [skVals]
    rw [roundsA_step (step1119 E cf m G d hG xs acc (by omega) i hlt hxl _ (skCells d r) rfl hc _ kk hkk (hg r (hr r (by simp))) z)]
    rw [ih (pre ++ [.ref (skCells d r)]) (acc ++ [skNode d r]) (i + 1) k (by rw [hsp]; simp [skVals]) (by simp [hi]) (by simp [ha]) (fun q hq => hr q (by simp [hq])) (by simp at hk; omega)]
    simp

theorem ev1119 (E : Env) (h : E.code 119 = some c1119) (h20 : Has E 120 S1120) (h29 : Has E 129 S1129) : S1119 (autoF E 119) := by
  intro d rs hl hr
  have he := loop1119 E (evF E (rs.length + 1)) (rs.length + 1) d h20 h29 (skVals d rs) (by simpa [skVals] using hl) (.live [.sv (.str []), .sv (.int .i64 0), .sv (.bool false), .sv (.int .i64 0), .sv (.int .u64 0), .sv (.flt .f64 0), .sv (.str []), .sv .nilS]) rs [] [] 0 (rs.length + 1) rfl rfl rfl hr (by omega)
  refine autoA_sv (n := rs.length + 1) ?_ rfl
  unfold evPA
  simp only [h]
  rw [List.nil_append] at he
  unfold skTree
  simp only [st1119, accK, Int.ofNat_zero, Int.natCast_zero] at he
  generalize rs.map (skNode d) = ks at he ⊢
  generalize skVals d rs = xs at he ⊢
  cases ks with
  | nil => simp only [accK] at he; simp [c1119, he, nodeV]
  | cons y ys => simp only [accK] at he; simp [c1119, he, nodeV]

def S1074 (F : List SV → Option AV) : Prop := ∀ rs : List RowD, rs.length < 100000000 → (∀ r ∈ rs, skOk false r = true) → F [.str [], .sl (skVals false rs)] = some (.sv (skTree false rs))

theorem ev1074 (E : Env) (h : E.code 74 = some c1074) (h19 : Has E 119 S1119) : S1074 (autoF E 74) := by
  obtain ⟨F, hp, hF⟩ := h19
  intro rs hl hr
  have hFr := hF false rs hl hr
  refine autoA_sv (n := 1) ?_ rfl
  unfold evPA
  simp only [h]
  unfold skTree nodeV at hFr ⊢
  generalize rs.map (skNode false) = ks at hFr ⊢
  generalize skVals false rs = xs at hFr ⊢
  simp [fnL] at hFr
  simp [c1074, hp, hFr]

def S1073 (F : List SV → Option AV) : Prop := ∀ rs : List RowD, rs.length < 100000000 → (∀ r ∈ rs, skOk false r = true) → F [.sl (skVals false rs)] = some (.sv (skTree false rs))

theorem ev1073 (E : Env) (h : E.code 73 = some c1073) (h74 : Has E 74 S1074) : S1073 (autoF E 73) := by
  obtain ⟨F, hp, hF⟩ := h74
  intro rs hl hr
  have hFr := hF rs hl hr
  refine autoA_sv (n := 1) ?_ rfl
  unfold evPA
  simp only [h]
  unfold skTree nodeV at hFr ⊢
  generalize rs.map (skNode false) = ks at hFr ⊢
  generalize skVals false rs = xs at hFr ⊢
  simp [c1073, hp, hFr]

def S1079 (F : List SV → Option AV) : Prop := ∀ rs : List RowD, rs.length < 100000000 → (∀ r ∈ rs, skOk true r = true) → F [.str [], .sl (skVals true rs)] = some (.sv (skTree true rs))

theorem ev1079 (E : Env) (h : E.code 79 = some c1079) (h19 : Has E 119 S1119) : S1079 (autoF E 79) := by
  obtain ⟨F, hp, hF⟩ := h19
  intro rs hl hr
  have hFr := hF true rs hl hr
  refine autoA_sv (n := 1) ?_ rfl
  unfold evPA
  simp only [h]
  unfold skTree nodeV at hFr ⊢
  generalize rs.map (skNode true) = ks at hFr ⊢
  generalize skVals true rs = xs at hFr ⊢
  simp [fnL] at hFr
  simp [c1079, hp, hFr]

def S1078 (F : List SV → Option AV) : Prop := ∀ rs : List RowD, rs.length < 100000000 → (∀ r ∈ rs, skOk true r = true) → F [.sl (skVals true rs)] = some (.sv (skTree true rs))

theorem ev1078 (E : Env) (h : E.code 78 = some c1078) (h74 : Has E 79 S1079) : S1078 (autoF E 78) := by
  obtain ⟨F, hp, hF⟩ := h74
  intro rs hl hr
  have hFr := hF rs hl hr
  refine autoA_sv (n := 1) ?_ rfl
  unfold evPA
  simp only [h]
  unfold skTree nodeV at hFr ⊢
  generalize rs.map (skNode true) = ks at hFr ⊢
  generalize skVals true rs = xs at hFr ⊢
  simp [c1078, hp, hFr]

end Go.Ev

set_option linter.unusedSimpArgs false
set_option linter.unusedVariables false
namespace Go.Ev
open Go.Proofs

/-- What is known of a line that the reference reads as a socket. -/
structure LineF (d : Bool) (f : List (List UInt8)) (r : RowD) (n0 n1 n2 n3 n4 n5 n6 n7 n8 : Nat) (a b a1 b1 q0 q1 : List UInt8) : Prop where
  len : f.length = if d then 13 else 17
  p0 : partG 58 [] (skFld f 0) = [decS n0, []]
  p1 : partG 58 [] (skFld f 1) = [a, a1]
  p2 : partG 58 [] (skFld f 2) = [b, b1]
  p4 : partG 58 [] (skFld f 4) = [q0, q1]
  x1 : hexV a1 = some n1
  x2 : hexV b1 = some n2
  x3 : hexV (skFld f 3) = some n3
  x4 : hexV q0 = some n4
  x5 : hexV q1 = some n5
  d6 : skFld f 7 = decS n6
  d7 : skFld f 9 = decS n7
  d8 : d = true → skFld f 12 = decS n8

theorem ends_cut {s : List UInt8} (h : endsC s = true) : s = s.take (s.length - 1) ++ [58] := by
  unfold endsC at h
  simp only [Bool.and_eq_true, decide_eq_true_eq, beq_iff_eq] at h
  conv => lhs; rw [← List.take_append_drop (s.length - 1) s, h.2]

theorem decsV4 {a b c e : List UInt8} {l : List Nat} (h : decsV [a, b, c, e] = some l) : ∃ x y z w, l = [x, y, z, w] ∧ decV a = some x ∧ decV b = some y ∧ decV c = some z ∧ decV e = some w := by
  simp only [decsV] at h
  cases ha : decV a with
  | none => rw [ha] at h; simp at h
  | some x =>
    cases hb : decV b with
    | none => rw [ha, hb] at h; simp at h
    | some y =>
      cases hc : decV c with
      | none => rw [ha, hb, hc] at h; simp at h
      | some z =>
        cases he : decV e with
        | none => rw [ha, hb, hc, he] at h; simp at h
        | some w =>
          rw [ha, hb, hc, he] at h
          simp only [Option.some.injEq] at h
          exact ⟨x, y, z, w, h.symm, rfl, rfl, rfl, rfl⟩

theorem hexsV5 {a b c e g : List UInt8} {l : List Nat} (h : hexsV [a, b, c, e, g] = some l) : ∃ x y z w v, l = [x, y, z, w, v] ∧ hexV a = some x ∧ hexV b = some y ∧ hexV c = some z ∧ hexV e = some w ∧ hexV g = some v := by
  simp only [hexsV] at h
  cases ha : hexV a with
  | none => rw [ha] at h; simp at h
  | some x =>
    cases hb : hexV b with
    | none => rw [ha, hb] at h; simp at h
    | some y =>
      cases hc : hexV c with
      | none => rw [ha, hb, hc] at h; simp at h
      | some z =>
        cases he : hexV e with
        | none => rw [ha, hb, hc, he] at h; simp at h
        | some w =>
          cases hg : hexV g with
          | none => rw [ha, hb, hc, he, hg] at h; simp at h
          | some v =>
            rw [ha, hb, hc, he, hg] at h
            simp only [Option.some.injEq] at h
            exact ⟨x, y, z, w, v, h.symm, rfl, rfl, rfl, rfl, rfl⟩

theorem skLine_facts {d : Bool} {f : List (List UInt8)} {r : RowD} (h : skLineV d f = some r) (ho : skOk d r = true) : ∃ n0 n1 n2 n3 n4 n5 n6 n7 n8 a b a1 b1 q0 q1, SkR d r n0 n1 n2 n3 n4 n5 n6 n7 n8 a b ∧ LineF d f r n0 n1 n2 n3 n4 n5 n6 n7 n8 a b a1 b1 q0 q1 := by
  unfold skLineV at h
  by_cases hc : f.length = (if d then 13 else 17) ∧ endsC (skFld f 0) = true
  rotate_left
  · rw [if_neg hc] at h; cases h
  rw [if_pos hc] at h
  obtain ⟨hlen, he⟩ := hc
  generalize hla : (if d then skFld f 12 else [48]) = last at h
  unfold skV at h
  split at h <;> try (simp at h; done)
  rename_i a0 a1 b0 b1 q0 q1 hp1 hp2 hp4
  split at h <;> try (simp at h; done)
  rename_i d0 d1 d2 d3 hd
  split at h <;> try (simp at h; done)
  rename_i h0 h1 h2 h3 h4 hx
  simp only [Option.some.injEq] at h
  subst h
  obtain ⟨x, y, z, w, hl, g0, g6, g7, g8⟩ := decsV4 hd
  simp only [List.cons.injEq, and_true] at hl
  obtain ⟨rfl, rfl, rfl, rfl⟩ := hl
  obtain ⟨y1, y2, y3, y4, y5, hl, k1, k2, k3, k4, k5⟩ := hexsV5 hx
  simp only [List.cons.injEq, and_true] at hl
  obtain ⟨rfl, rfl, rfl, rfl, rfl⟩ := hl
  obtain ⟨n0, n1, n2, n3, n4, n5, n6, n7, n8, a, b, hs⟩ := skOk_spec ho
  have hN := hs.hN
  have hS := hs.hS
  simp only [List.cons.injEq, and_true] at hN hS
  obtain ⟨rfl, rfl, rfl, rfl, rfl, rfl, rfl, rfl, rfl⟩ := hN
  obtain ⟨rfl, rfl⟩ := hS
  refine ⟨_, _, _, _, _, _, _, _, _, _, _, a1, b1, q0, q1, hs, hlen, ?_, hp1, hp2, hp4, k1, k2, k3, k4, k5, (decV_dec g6).symm, (decV_dec g7).symm, fun hdt => ?_⟩
  · rw [ends_cut he, ← decV_dec g0]
    exact partG_two (b := 58) (w := decS _) (v := []) (fun c hc => ((decS_word _).2 c hc).2.1) (by simp)
  · subst hdt
    simp only [if_true] at hla
    rw [hla]
    exact (decV_dec g8).symm

def S1159 (F : List SV → Option AV) : Prop := ∀ (d : Bool) (f : List (List UInt8)) (r : RowD), skLineV d f = some r → skOk d r = true → (∀ x ∈ f, x.length < 1000000) → F [.sl (strs f), .bool d] = some (.sv (.tup [.ref (skCells d r), .nilI]))

theorem ev1159 (E : Env) (h : E.code 159 = some c1159) (h57 : Has E 157 S1157) (h91 : Has E 168 S91) (h69 : Has E 169 S1169) : S1159 (autoF E 159) := by
  obtain ⟨FS, hpS, hS⟩ := h57
  obtain ⟨FP, hpP, hP1, hP2⟩ := h91
  obtain ⟨FI, hpI, hI⟩ := h69
  intro d f r hv ho hx
  obtain ⟨n0, n1, n2, n3, n4, n5, n6, n7, n8, a, b, a1, b1, q0, q1, hs, hf⟩ := skLine_facts hv ho
  obtain ⟨fa, fb⟩ := addrOk_F hs
  have b0 := hs.h0; have b1' := hs.h1; have b2 := hs.h2; have b3 := hs.h3; have b4 := hs.h4; have b5 := hs.h5; have b6 := hs.h6; have b7 := hs.h7; have b8 := hs.h8
  have hlx : ∀ i, (skFld f i).length < 1000000 := fun i => by
    unfold skFld
    rw [List.getD_eq_getElem?_getD]
    cases hg : f[i]? with
    | none => simp
    | some x => exact hx x (List.mem_of_getElem? hg)
  have sp : ∀ i, FS [.str (skFld f i), .str [58]] = some (.sv (.sl (strs (partG 58 [] (skFld f i))))) := fun i => hS 58 (skFld f i) (by have := hlx i; omega)
  have hxx : ∀ {t : List UInt8} {n : Nat}, hexV t = some n → t.length < 1000000 → FP [.str t, .int .i64 16, .int .i64 64] = some (.sv (.tup [.int .u64 (n : Int), .nilI])) := fun {t n} ht hl => by
    obtain ⟨g1, g2, g3, g4, g5⟩ := hexV_spec ht
    rw [g4] at g3 ⊢
    exact hP1 t (by omega) g2 g5 g3
  have hpl : ∀ {i : Nat} {u v : List UInt8}, partG 58 [] (skFld f i) = [u, v] → u.length < 1000000 ∧ v.length < 1000000 := fun {i u v} hp => by
    have k := partG_mem 58 (skFld f i) []
    rw [hp] at k
    have k1 := k u (by simp)
    have k2 := k v (by simp)
    have := hlx i
    simp at k1 k2
    omega
  have s0 := sp 0; have s1 := sp 1; have s2 := sp 2; have s4 := sp 4
  rw [hf.p0] at s0; rw [hf.p1] at s1; rw [hf.p2] at s2; rw [hf.p4] at s4
  simp only [strs, List.map_cons, List.map_nil] at s0 s1 s2 s4
  have p0 := hP2 n0 (by omega)
  have p1 := hxx hf.x1 (hpl hf.p1).2
  have p2 := hxx hf.x2 (hpl hf.p2).2
  have p3 := hxx hf.x3 (hlx 3)
  have p4 := hxx hf.x4 (hpl hf.p4).1
  have p5 := hxx hf.x5 (hpl hf.p4).2
  have p6 := hP2 n6 (by omega)
  have p7 := hP2 n7 (by omega)
  have p8 := hP2 n8 (by omega)
  rw [← hf.d6] at p6
  rw [← hf.d7] at p7
  have ia := hI a fa
  have ib := hI b fb
  have hlen := hf.len
  have hd8 := hf.d8
  refine autoF_sv (n := 1) ?_ rfl
  unfold skCells
  simp only [hs.hN, hs.hS]
  clear sp hxx hpl hlx hx hf hv ho hS hP1 hP2 hI
  cases d with
  | true =>
    rw [← hd8 rfl] at p8
    simp only [if_true] at hlen ⊢
    match f, hlen with
    | [g0, g1, g2, g3, g4, g5, g6, g7, g8, g9, g10, g11, g12], _ =>
      exact core1159_true E h FS FP FI hpS hpP hpI g0 g1 g2 g3 g4 g5 g6 g7 g8 g9 g10 g11 g12 (decS n0) [] a a1 b b1 q0 q1 n0 n1 n2 n3 n4 n5 n6 n7 n8 _ _ s0 s1 s2 s4 p0 p1 p2 p3 p4 p5 p6 p7 p8 ia ib 1
  | false =>
    simp only [Bool.false_eq_true, if_false] at hlen ⊢
    match f, hlen with
    | [g0, g1, g2, g3, g4, g5, g6, g7, g8, g9, g10, g11, g12, g13, g14, g15, g16], _ =>
      exact core1159_false E h FS FP FI hpS hpP hpI g0 g1 g2 g3 g4 g5 g6 g7 g8 g9 g10 g11 g12 g13 g14 g15 g16 (decS n0) [] a a1 b b1 q0 q1 n0 n1 n2 n3 n4 n5 n6 n7 n8 _ _ s0 s1 s2 s4 p0 p1 p2 p3 p4 p5 p6 p7 ia ib 1

end Go.Ev
