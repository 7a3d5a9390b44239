/- Tables of sockets: their text. -/
import Derived.Test.YtnpkdihdpgfemaaGreatDoorKC
set_option linter.unusedSimpArgs false
set_option linter.unusedVariables false
namespace Go.Ev
open Go.Proofs

def S1069 (F : List SV → Option AV) : Prop := ∀ (d : Bool) (l : List RowD), rowsFit3 l → (∀ r ∈ l, skOk d r = true) → F [.sl (rowsSV l), .bool d] = some (.sv (.str (skText d l)))

def st1069 (d : Bool) (xs : List SV) (out : List UInt8) (i : Nat) (bx : List Box) : SA := { nt := 92, tm := [(11, .sv (.int .i64 i)), (10, .sv (.int .i64 xs.length)), (9, .sv (.sl xs)), (5, .sv (.str out)), (1, .sv (.bool d))], lz := none, bx := bx, df := [] }

theorem skRow_eq {d : Bool} {r : RowD} {n0 n1 n2 n3 n4 n5 n6 n7 n8 : Nat} {a b : List UInt8} (h : SkR d r n0 n1 n2 n3 n4 n5 n6 n7 n8 a b) : r = ⟨[], [n0, n1, n2, n3, n4, n5, n6, n7, n8], [a, b]⟩ := by
  obtain ⟨nm, N, S⟩ := r
  have h1 := h.hN; have h2 := h.hS; have h3 := h.hn
  simp only at h1 h2 h3
  rw [h1, h2, h3]

theorem addS {a b : List UInt8} (h : a.length + b.length < 4611686018427387904) : binSV .add (.str a) (.str b) = some (.str (a ++ b)) := by
  simp only [binSV, h, if_true]

set_option maxHeartbeats 16000000 in
theorem step1069 (E : Env) (cf : CallF) (m : Nat) (h45 : E.pure 85 = some F45) (h46 : Has E 112 S46) (h13 : Has E 113 S1113) (d : Bool) (xs : List SV) (r : RowD) (n0 n1 n2 n3 n4 n5 n6 n7 n8 : Nat) (a b : List UInt8) (hs : SkR d r n0 n1 n2 n3 n4 n5 n6 n7 n8 a b) (out : List UInt8) (ho : out.length < 1000000000000) (i : Nat) (hlt : i < xs.length) (hxl : xs.length < 1000000000)
    (hc : ∀ h : i < xs.length, xs[i]'h = .agg [.str [], .sl [.int .u64 (n0 : Int), .int .u64 (n1 : Int), .int .u64 (n2 : Int), .int .u64 (n3 : Int), .int .u64 (n4 : Int), .int .u64 (n5 : Int), .int .u64 (n6 : Int), .int .u64 (n7 : Int), .int .u64 (n8 : Int)], .sl [.str a, .str b]]) (bx : List Box) :
    evCA E cf m b1069_0 (st1069 d xs out i bx) = some (.normal, st1069 d xs (out ++ (skBody d r ++ [10])) (i + 1) (bx ++ [rowBox r])) := by
  obtain ⟨FR, hpR, hR⟩ := h46
  obtain ⟨FU, hpU, hU⟩ := h13
  have b0 := hs.h0; have b1 := hs.h1; have b2 := hs.h2; have b3 := hs.h3; have b4 := hs.h4; have b5 := hs.h5; have b6 := hs.h6; have b7 := hs.h7; have b8 := hs.h8
  have t0 := F45_eq n0 (by omega); have t6 := F45_eq n6 (by omega); have t7 := F45_eq n7 (by omega); have t8 := F45_eq n8 (by omega)
  have l0 := decS_len20 (n := n0) (by omega); have l6 := decS_len20 (n := n6) (by omega); have l7 := decS_len20 (n := n7) (by omega); have l8 := decS_len20 (n := n8) (by omega)
  have r0 := hR (decS n0) 4 (by omega) (by omega)
  have r6 := hR (decS n6) 5 (by omega) (by omega)
  have k0 := rightS_len (decS n0) 4; have k6 := rightS_len (decS n6) 5
  have u1 := hU n1 4 (by omega) (by omega); have u2 := hU n2 4 (by omega) (by omega); have u3 := hU n3 2 (by omega) (by omega); have u4 := hU n4 8 (by omega) (by omega); have u5 := hU n5 8 (by omega) (by omega)
  have m1 := upS_len (n := n1) (by omega) 4; have m2 := upS_len (n := n2) (by omega) 4; have m3 := upS_len (n := n3) (by omega) 2; have m4 := upS_len (n := n4) (by omega) 8; have m5 := upS_len (n := n5) (by omega) 8
  have la : a.length ≤ 32 := by rcases hs.ha with h | h <;> omega
  have lb : b.length ≤ 32 := by rw [hs.hb]; exact la
  have hw : binSV .add (.int .i64 (i : Int)) (.int .i64 1) = some (.int .i64 ((i + 1 : Nat) : Int)) := by
    simp only [binSV, if_true]
    rw [show IntKind.i64.wrap ((i : Int) + 1) = ((i + 1 : Nat) : Int) from by rw [IntKind.wrap_i64]; omega]
  have hlss : binSV .lss (.int .i64 (i : Int)) (.int .i64 (xs.length : Int)) = some (.bool true) := by
    simp only [binSV, if_true, show (i : Int) < (xs.length : Int) from by omega, decide_true]
  have hbody : skBody d r = rightS (decS n0) 4 ++ ([58, 32] ++ (a ++ ([58] ++ (upS n1 4 ++ ([32] ++ (b ++ ([58] ++ (upS n2 4 ++ ([32] ++ (upS n3 2 ++ ([32] ++ (upS n4 8 ++ ([58] ++ (upS n5 8 ++
      ([32, 48, 48, 58, 48, 48, 48, 48, 48, 48, 48, 48, 32, 48, 48, 48, 48, 48, 48, 48, 48, 32] ++ (rightS (decS n6) 5 ++ ([32, 32, 32, 32, 32, 32, 32, 32, 48, 32] ++ (decS n7 ++ skLast d n8)))))))))))))))))) := by
    unfold skBody
    simp only [hs.hN, hs.hS]
  rw [hbody, skRow_eq hs]
  unfold skLast
  simp only [castI2, castI4, castI5, castI8] at r0 r6 u1 u2 u3 u4 u5
  generalize rightS (decS n0) 4 = A0 at *
  generalize rightS (decS n6) 5 = A6 at *
  generalize upS n1 4 = U1 at *
  generalize upS n2 4 = U2 at *
  generalize upS n3 2 = U3 at *
  generalize upS n4 8 = U4 at *
  generalize upS n5 8 = U5 at *
  generalize decS n0 = D0 at *
  generalize decS n6 = D6 at *
  generalize decS n7 = D7 at *
  generalize decS n8 = D8 at *
  clear hbody hR hU
  obtain ⟨Z1, hZ1⟩ : ∃ z, z = A0 ++ [58, 32] := ⟨_, rfl⟩
  have y1 : binSV .add (.str A0) (.str [58, 32]) = some (.str Z1) := by rw [hZ1]; exact addS (by (try simp only [List.length_cons, List.length_nil]); omega)
  have v1 : Z1.length ≤ 26 := by rw [hZ1, List.length_append]; (try simp only [List.length_cons, List.length_nil]); omega
  obtain ⟨Z2, hZ2⟩ : ∃ z, z = Z1 ++ a := ⟨_, rfl⟩
  have y2 : binSV .add (.str Z1) (.str a) = some (.str Z2) := by rw [hZ2]; exact addS (by (try simp only [List.length_cons, List.length_nil]); omega)
  have v2 : Z2.length ≤ 58 := by rw [hZ2, List.length_append]; (try simp only [List.length_cons, List.length_nil]); omega
  obtain ⟨Z3, hZ3⟩ : ∃ z, z = Z2 ++ [58] := ⟨_, rfl⟩
  have y3 : binSV .add (.str Z2) (.str [58]) = some (.str Z3) := by rw [hZ3]; exact addS (by (try simp only [List.length_cons, List.length_nil]); omega)
  have v3 : Z3.length ≤ 59 := by rw [hZ3, List.length_append]; (try simp only [List.length_cons, List.length_nil]); omega
  obtain ⟨Z4, hZ4⟩ : ∃ z, z = Z3 ++ U1 := ⟨_, rfl⟩
  have y4 : binSV .add (.str Z3) (.str U1) = some (.str Z4) := by rw [hZ4]; exact addS (by (try simp only [List.length_cons, List.length_nil]); omega)
  have v4 : Z4.length ≤ 79 := by rw [hZ4, List.length_append]; (try simp only [List.length_cons, List.length_nil]); omega
  obtain ⟨Z5, hZ5⟩ : ∃ z, z = Z4 ++ [32] := ⟨_, rfl⟩
  have y5 : binSV .add (.str Z4) (.str [32]) = some (.str Z5) := by rw [hZ5]; exact addS (by (try simp only [List.length_cons, List.length_nil]); omega)
  have v5 : Z5.length ≤ 80 := by rw [hZ5, List.length_append]; (try simp only [List.length_cons, List.length_nil]); omega
  obtain ⟨Z6, hZ6⟩ : ∃ z, z = Z5 ++ b := ⟨_, rfl⟩
  have y6 : binSV .add (.str Z5) (.str b) = some (.str Z6) := by rw [hZ6]; exact addS (by (try simp only [List.length_cons, List.length_nil]); omega)
  have v6 : Z6.length ≤ 112 := by rw [hZ6, List.length_append]; (try simp only [List.length_cons, List.length_nil]); omega
  obtain ⟨Z7, hZ7⟩ : ∃ z, z = Z6 ++ [58] := ⟨_, rfl⟩
  have y7 : binSV .add (.str Z6) (.str [58]) = some (.str Z7) := by rw [hZ7]; exact addS (by (try simp only [List.length_cons, List.length_nil]); omega)
  have v7 : Z7.length ≤ 113 := by rw [hZ7, List.length_append]; (try simp only [List.length_cons, List.length_nil]); omega
  obtain ⟨Z8, hZ8⟩ : ∃ z, z = Z7 ++ U2 := ⟨_, rfl⟩
  have y8 : binSV .add (.str Z7) (.str U2) = some (.str Z8) := by rw [hZ8]; exact addS (by (try simp only [List.length_cons, List.length_nil]); omega)
  have v8 : Z8.length ≤ 133 := by rw [hZ8, List.length_append]; (try simp only [List.length_cons, List.length_nil]); omega
  obtain ⟨Z9, hZ9⟩ : ∃ z, z = Z8 ++ [32] := ⟨_, rfl⟩
  have y9 : binSV .add (.str Z8) (.str [32]) = some (.str Z9) := by rw [hZ9]; exact addS (by (try simp only [List.length_cons, List.length_nil]); omega)
  have v9 : Z9.length ≤ 134 := by rw [hZ9, List.length_append]; (try simp only [List.length_cons, List.length_nil]); omega
  obtain ⟨Z10, hZ10⟩ : ∃ z, z = Z9 ++ U3 := ⟨_, rfl⟩
  have y10 : binSV .add (.str Z9) (.str U3) = some (.str Z10) := by rw [hZ10]; exact addS (by (try simp only [List.length_cons, List.length_nil]); omega)
  have v10 : Z10.length ≤ 152 := by rw [hZ10, List.length_append]; (try simp only [List.length_cons, List.length_nil]); omega
  obtain ⟨Z11, hZ11⟩ : ∃ z, z = Z10 ++ [32] := ⟨_, rfl⟩
  have y11 : binSV .add (.str Z10) (.str [32]) = some (.str Z11) := by rw [hZ11]; exact addS (by (try simp only [List.length_cons, List.length_nil]); omega)
  have v11 : Z11.length ≤ 153 := by rw [hZ11, List.length_append]; (try simp only [List.length_cons, List.length_nil]); omega
  obtain ⟨Z12, hZ12⟩ : ∃ z, z = Z11 ++ U4 := ⟨_, rfl⟩
  have y12 : binSV .add (.str Z11) (.str U4) = some (.str Z12) := by rw [hZ12]; exact addS (by (try simp only [List.length_cons, List.length_nil]); omega)
  have v12 : Z12.length ≤ 177 := by rw [hZ12, List.length_append]; (try simp only [List.length_cons, List.length_nil]); omega
  obtain ⟨Z13, hZ13⟩ : ∃ z, z = Z12 ++ [58] := ⟨_, rfl⟩
  have y13 : binSV .add (.str Z12) (.str [58]) = some (.str Z13) := by rw [hZ13]; exact addS (by (try simp only [List.length_cons, List.length_nil]); omega)
  have v13 : Z13.length ≤ 178 := by rw [hZ13, List.length_append]; (try simp only [List.length_cons, List.length_nil]); omega
  obtain ⟨Z14, hZ14⟩ : ∃ z, z = Z13 ++ U5 := ⟨_, rfl⟩
  have y14 : binSV .add (.str Z13) (.str U5) = some (.str Z14) := by rw [hZ14]; exact addS (by (try simp only [List.length_cons, List.length_nil]); omega)
  have v14 : Z14.length ≤ 202 := by rw [hZ14, List.length_append]; (try simp only [List.length_cons, List.length_nil]); omega
  obtain ⟨Z15, hZ15⟩ : ∃ z, z = Z14 ++ [32, 48, 48, 58, 48, 48, 48, 48, 48, 48, 48, 48, 32, 48, 48, 48, 48, 48, 48, 48, 48, 32] := ⟨_, rfl⟩
  have y15 : binSV .add (.str Z14) (.str [32, 48, 48, 58, 48, 48, 48, 48, 48, 48, 48, 48, 32, 48, 48, 48, 48, 48, 48, 48, 48, 32]) = some (.str Z15) := by rw [hZ15]; exact addS (by (try simp only [List.length_cons, List.length_nil]); omega)
  have v15 : Z15.length ≤ 224 := by rw [hZ15, List.length_append]; (try simp only [List.length_cons, List.length_nil]); omega
  obtain ⟨Z16, hZ16⟩ : ∃ z, z = Z15 ++ A6 := ⟨_, rfl⟩
  have y16 : binSV .add (.str Z15) (.str A6) = some (.str Z16) := by rw [hZ16]; exact addS (by (try simp only [List.length_cons, List.length_nil]); omega)
  have v16 : Z16.length ≤ 249 := by rw [hZ16, List.length_append]; (try simp only [List.length_cons, List.length_nil]); omega
  obtain ⟨Z17, hZ17⟩ : ∃ z, z = Z16 ++ [32, 32, 32, 32, 32, 32, 32, 32, 48, 32] := ⟨_, rfl⟩
  have y17 : binSV .add (.str Z16) (.str [32, 32, 32, 32, 32, 32, 32, 32, 48, 32]) = some (.str Z17) := by rw [hZ17]; exact addS (by (try simp only [List.length_cons, List.length_nil]); omega)
  have v17 : Z17.length ≤ 259 := by rw [hZ17, List.length_append]; (try simp only [List.length_cons, List.length_nil]); omega
  obtain ⟨Z18, hZ18⟩ : ∃ z, z = Z17 ++ D7 := ⟨_, rfl⟩
  have y18 : binSV .add (.str Z17) (.str D7) = some (.str Z18) := by rw [hZ18]; exact addS (by (try simp only [List.length_cons, List.length_nil]); omega)
  have v18 : Z18.length ≤ 279 := by rw [hZ18, List.length_append]; (try simp only [List.length_cons, List.length_nil]); omega
  obtain ⟨Y, hY⟩ : ∃ z, z = out ++ Z18 := ⟨_, rfl⟩
  have yY : binSV .add (.str out) (.str Z18) = some (.str Y) := by rw [hY]; exact addS (by omega)
  have vY : Y.length < 1000000001000 := by rw [hY, List.length_append]; omega
  cases d with
  | true =>
    obtain ⟨W1, hW1⟩ : ∃ z, z = [32, 50, 32, 48, 48, 48, 48, 48, 48, 48, 48, 48, 48, 48, 48, 48, 48, 48, 48, 32] ++ D8 := ⟨_, rfl⟩
    have w1 : binSV .add (.str [32, 50, 32, 48, 48, 48, 48, 48, 48, 48, 48, 48, 48, 48, 48, 48, 48, 48, 48, 32]) (.str D8) = some (.str W1) := by rw [hW1]; exact addS (by (try simp only [List.length_cons, List.length_nil]); omega)
    have x1 : W1.length ≤ 40 := by rw [hW1, List.length_append]; (try simp only [List.length_cons, List.length_nil]); omega
    obtain ⟨W2, hW2⟩ : ∃ z, z = W1 ++ [10] := ⟨_, rfl⟩
    have w2 : binSV .add (.str W1) (.str [10]) = some (.str W2) := by rw [hW2]; exact addS (by (try simp only [List.length_cons, List.length_nil]); omega)
    have x2 : W2.length ≤ 41 := by rw [hW2, List.length_append]; (try simp only [List.length_cons, List.length_nil]); omega
    obtain ⟨W3, hW3⟩ : ∃ z, z = Y ++ W2 := ⟨_, rfl⟩
    have w3 : binSV .add (.str Y) (.str W2) = some (.str W3) := by rw [hW3]; exact addS (by omega)
    have e : evCA E cf m b1069_0 (st1069 true xs out i bx) = some (.normal, st1069 true xs W3 (i + 1) (bx ++ [rowBox ⟨[], [n0, n1, n2, n3, n4, n5, n6, n7, n8], [a, b]⟩])) := by
      simp [-binSV, st1069, b1069_0, hlss, hlt, hc, rowBox, u64s, strs, h45, hpR, hpU, t0, t6, t7, t8, r0, r6, u1, u2, u3, u4, u5, hw, y1, y2, y3, y4, y5, y6, y7, y8, y9, y10, y11, y12, y13, y14, y15, y16, y17, y18, yY, w1, w2, w3]
    rw [e, hW3, hW2, hW1, hY, hZ18, hZ17, hZ16, hZ15, hZ14, hZ13, hZ12, hZ11, hZ10, hZ9, hZ8, hZ7, hZ6, hZ5, hZ4, hZ3, hZ2, hZ1]
    simp only [if_true, List.append_assoc]
  | false =>
    obtain ⟨W1, hW1⟩ : ∃ z, z = Y ++ [32, 49, 32, 48, 48, 48, 48, 48, 48, 48, 48, 48, 48, 48, 48, 48, 48, 48, 48, 32, 49, 48, 48, 32, 48, 32, 48, 32, 49, 48, 32, 48, 10] := ⟨_, rfl⟩
    have w1 : binSV .add (.str Y) (.str [32, 49, 32, 48, 48, 48, 48, 48, 48, 48, 48, 48, 48, 48, 48, 48, 48, 48, 48, 32, 49, 48, 48, 32, 48, 32, 48, 32, 49, 48, 32, 48, 10]) = some (.str W1) := by rw [hW1]; exact addS (by (try simp only [List.length_cons, List.length_nil]); omega)
    have e : evCA E cf m b1069_0 (st1069 false xs out i bx) = some (.normal, st1069 false xs W1 (i + 1) (bx ++ [rowBox ⟨[], [n0, n1, n2, n3, n4, n5, n6, n7, n8], [a, b]⟩])) := by
      simp [-binSV, st1069, b1069_0, hlss, hlt, hc, rowBox, u64s, strs, h45, hpR, hpU, t0, t6, t7, t8, r0, r6, u1, u2, u3, u4, u5, hw, y1, y2, y3, y4, y5, y6, y7, y8, y9, y10, y11, y12, y13, y14, y15, y16, y17, y18, yY, w1]
    rw [e, hW1, hY, hZ18, hZ17, hZ16, hZ15, hZ14, hZ13, hZ12, hZ11, hZ10, hZ9, hZ8, hZ7, hZ6, hZ5, hZ4, hZ3, hZ2, hZ1]
    simp only [Bool.false_eq_true, if_false, List.append_assoc]
    rfl

theorem skBody_len {d : Bool} {r : RowD} {n0 n1 n2 n3 n4 n5 n6 n7 n8 : Nat} {a b : List UInt8} (hs : SkR d r n0 n1 n2 n3 n4 n5 n6 n7 n8 a b) : (skBody d r).length ≤ 399 := by
  have b0 := hs.h0; have b1 := hs.h1; have b2 := hs.h2; have b3 := hs.h3; have b4 := hs.h4; have b5 := hs.h5; have b6 := hs.h6; have b7 := hs.h7; have b8 := hs.h8
  have l0 := decS_len20 (n := n0) (by omega); have l6 := decS_len20 (n := n6) (by omega); have l7 := decS_len20 (n := n7) (by omega); have l8 := decS_len20 (n := n8) (by omega)
  have k0 := rightS_len (decS n0) 4; have k6 := rightS_len (decS n6) 5
  have m1 := upS_len (n := n1) (by omega) 4; have m2 := upS_len (n := n2) (by omega) 4; have m3 := upS_len (n := n3) (by omega) 2; have m4 := upS_len (n := n4) (by omega) 8; have m5 := upS_len (n := n5) (by omega) 8
  have la : a.length ≤ 32 := by rcases hs.ha with h | h <;> omega
  have lb : b.length ≤ 32 := by rw [hs.hb]; exact la
  unfold skBody skLast
  simp only [hs.hN, hs.hS]
  cases d <;> simp <;> omega

theorem loop1069 (E : Env) (cf : CallF) (m : Nat) (h45 : E.pure 85 = some F45) (h46 : Has E 112 S46) (h13 : Has E 113 S1113) (d : Bool) (xs : List SV) (hxl : xs.length < 100000000) :
    ∀ (rest : List RowD) (pre : List SV) (out : List UInt8) (i : Nat) (bx : List Box) (k : Nat), xs = pre ++ rowsSV rest → i = pre.length → out.length ≤ 1000 + i * 400 → (∀ r ∈ rest, skOk d r = true) → rest.length < k →
      ∃ bx', roundsA (evCA E cf m b1069_0) k (st1069 d xs out i bx) = some (.exit 0, { nt := 92, tm := [(5, .sv (.str (out ++ (rest.map fun r => skBody d r ++ [10]).flatten)))], lz := none, bx := bx', df := [] }) := by
  intro rest
  induction rest with
  | nil =>
    intro pre out i bx k hsp hi _ _ hk
    obtain ⟨k, rfl⟩ : ∃ k', k = k' + 1 := ⟨k - 1, by omega⟩
    have hlt : ¬ (i < xs.length) := by rw [hsp, hi]; simp [rowsSV]
    refine ⟨bx, roundsA_out ?_ (by simp)⟩
    simp [st1069, b1069_0, hlt]
  | cons r rest ih =>
    intro pre out i bx k hsp hi ho hr hk
    obtain ⟨k, rfl⟩ : ∃ k', k = k' + 1 := ⟨k - 1, by omega⟩
    have hlt : i < xs.length := by rw [hsp, hi]; simp [rowsSV]
    obtain ⟨n0, n1, n2, n3, n4, n5, n6, n7, n8, a, b, hs⟩ := skOk_spec (hr r (by simp))
    have hreq := skRow_eq hs
    have hc : ∀ h : i < xs.length, xs[i]'h = .agg [.str [], .sl [.int .u64 (n0 : Int), .int .u64 (n1 : Int), .int .u64 (n2 : Int), .int .u64 (n3 : Int), .int .u64 (n4 : Int), .int .u64 (n5 : Int), .int .u64 (n6 : Int), .int .u64 (n7 : Int), .int .u64 (n8 : Int)], .sl [.str a, .str b]] := by subst hi; subst hsp; simp [rowsSV, RowD.sv, hreq, u64s, strs]
    have hst := step1069 E cf m h45 h46 h13 d xs r n0 n1 n2 n3 n4 n5 n6 n7 n8 a b hs out (by omega) i hlt (by omega) hc bx
    have hbl := skBody_len hs
    obtain ⟨bx', he⟩ := ih (pre ++ [r.sv]) (out ++ (skBody d r ++ [10])) (i + 1) (bx ++ [rowBox r]) k (by rw [hsp]; simp [rowsSV]) (by simp [hi]) (by simp; omega) (fun q hq => hr q (by simp [hq])) (by simp at hk; omega)
    refine ⟨bx', ?_⟩
    rw [roundsA_step hst, he]
    simp

theorem ev1069 (E : Env) (h : E.code 69 = some c1069) (h45 : E.pure 85 = some F45) (h46 : Has E 112 S46) (h13 : Has E 113 S1113) : S1069 (autoF E 69) := by
  intro d l hf hok
  have hlen : (rowsSV l).length = l.length := by simp [rowsSV]
  obtain ⟨bx', he⟩ := loop1069 E (evF E (l.length + 1)) (l.length + 1) h45 h46 h13 d (rowsSV l) (by rw [hlen]; exact hf.1) l [] skHead 0 [] (l.length + 1) rfl rfl (by simp [skHead, skHeadL]) hok (by omega)
  refine autoA_sv (n := l.length + 1) ?_ rfl
  unfold evPA
  simp only [h]
  unfold skText
  simp only [st1069, skHead, skHeadL, List.cons_append, List.nil_append, Int.ofNat_zero, Int.natCast_zero] at he ⊢
  generalize (l.map fun r => skBody d r ++ [10]).flatten = o at he ⊢
  simp [c1069, he]

end Go.Ev
