/- Tables of sockets: what is fine, whole; the text. -/
/- Tables of sockets: their text. -/
import Derived.Test.YtnpkdihdpgfemaaGreatDoorKB
set_option linter.unusedSimpArgs false
set_option linter.unusedVariables false
namespace Go.Ev
open Go.Proofs

def stA1068 (d : Bool) (xs : List SV) (i : Nat) (bx : List Box) (a b : List UInt8) (j p : Nat) : SA := { nt := 135, tm := [(94, .sv (.int .i64 j)), (93, .sv (.int .i64 2)), (92, .sv (.sl [.str a, .str b])), (12, .sv (.int .i64 i)), (11, .sv (.int .i64 xs.length)), (10, .sv (.sl xs)), (6, .ptr p 0), (1, .sv (.bool d))], lz := none, bx := bx, df := [] }

set_option maxHeartbeats 8000000 in
theorem roundA1068_0 (E : Env) (cf : CallF) (m : Nat) (h134 : E.pure 111 = some F134) (d : Bool) (xs : List SV) (i : Nat) (bx : List Box) (nm : List UInt8) (N : List Nat) (a b : List UInt8) (hm : 40 < m) :
    evCA E cf m b1068_1 (stA1068 d xs i (bx ++ [rowBox ⟨nm, N, [a, b]⟩]) a b 0 bx.length) = if addrOk a a.length = true then some (.normal, stA1068 d xs i (bx ++ [rowBox ⟨nm, N, [a, b]⟩]) a b 1 bx.length) else some (.ret, bad1068 (bx ++ [rowBox ⟨nm, N, [a, b]⟩])) := by
  have hlx : a.length = 8 ∨ a.length = 32 → _ := fun hx => loop1068_0 E cf h134 m (bx ++ [rowBox ⟨nm, N, [a, b]⟩]) a (by omega) (.sv (.bool d)) (.ptr bx.length 0) (.sv (.sl xs)) (.sv (.int .i64 xs.length)) (.sv (.int .i64 i)) (.sv (.sl [.str a, .str b])) (.sv (.int .i64 2)) (.sv (.int .i64 0)) a [] m rfl (by omega)
  simp only [List.length_nil, Int.ofNat_zero, Int.natCast_zero, rowBox, strs, List.map_cons, List.map_nil] at hlx
  have hw : IntKind.i64.wrap 1 = 1 := by decide
  have b8 : ((a.length : Int) != 8) = !decide (a.length = 8) := by rw [Bool.eq_iff_iff]; simp; omega
  have b32 : ((a.length : Int) != 32) = !decide (a.length = 32) := by rw [Bool.eq_iff_iff]; simp; omega
  have ba : ((b.length : Int) != (a.length : Int)) = !decide (b.length = a.length) := by rw [Bool.eq_iff_iff]; simp; omega
  by_cases h8 : a.length = 8
  · have hl := hlx (.inl h8)
    rw [h8] at hl
    simp only [castI8] at hl
    cases hv : a.all addrC with
    | false =>
      rw [if_neg (by simp [addrOk, hv])]
      simp only [hv, Bool.false_eq_true, if_false] at hl
      simp [stA1068, bad1068, b1068_1, hw, b8, b32, ba, rowBox, strs, h8, hl]
    | true =>
      rw [if_pos (by simp [addrOk, hv, h8])]
      simp only [hv, if_true] at hl
      simp [stA1068, bad1068, b1068_1, hw, b8, b32, ba, rowBox, strs, h8, hl]
  · by_cases h32 : a.length = 32
    · have hl := hlx (.inr h32)
      rw [h32] at hl
      simp only [castI32] at hl
      cases hv : a.all addrC with
      | false =>
        rw [if_neg (by simp [addrOk, hv])]
        simp only [hv, Bool.false_eq_true, if_false] at hl
        simp [stA1068, bad1068, b1068_1, hw, b8, b32, ba, rowBox, strs, h8, h32, hl]
      | true =>
        rw [if_pos (by simp [addrOk, hv, h8, h32])]
        simp only [hv, if_true] at hl
        simp [stA1068, bad1068, b1068_1, hw, b8, b32, ba, rowBox, strs, h8, h32, hl]
    · rw [if_neg (by simp [addrOk, h8, h32])]
      simp [stA1068, bad1068, b1068_1, hw, b8, b32, ba, rowBox, strs, h8, h32]

set_option maxHeartbeats 8000000 in
theorem roundA1068_1 (E : Env) (cf : CallF) (m : Nat) (h134 : E.pure 111 = some F134) (d : Bool) (xs : List SV) (i : Nat) (bx : List Box) (nm : List UInt8) (N : List Nat) (a b : List UInt8) (hm : 40 < m) :
    evCA E cf m b1068_1 (stA1068 d xs i (bx ++ [rowBox ⟨nm, N, [a, b]⟩]) a b 1 bx.length) = if addrOk b a.length = true then some (.normal, stA1068 d xs i (bx ++ [rowBox ⟨nm, N, [a, b]⟩]) a b 2 bx.length) else some (.ret, bad1068 (bx ++ [rowBox ⟨nm, N, [a, b]⟩])) := by
  have hlx : b.length = 8 ∨ b.length = 32 → _ := fun hx => loop1068_0 E cf h134 m (bx ++ [rowBox ⟨nm, N, [a, b]⟩]) b (by omega) (.sv (.bool d)) (.ptr bx.length 0) (.sv (.sl xs)) (.sv (.int .i64 xs.length)) (.sv (.int .i64 i)) (.sv (.sl [.str a, .str b])) (.sv (.int .i64 2)) (.sv (.int .i64 1)) b [] m rfl (by omega)
  simp only [List.length_nil, Int.ofNat_zero, Int.natCast_zero, rowBox, strs, List.map_cons, List.map_nil] at hlx
  have hw : IntKind.i64.wrap 2 = 2 := by decide
  have b8 : ((b.length : Int) != 8) = !decide (b.length = 8) := by rw [Bool.eq_iff_iff]; simp; omega
  have b32 : ((b.length : Int) != 32) = !decide (b.length = 32) := by rw [Bool.eq_iff_iff]; simp; omega
  have ba : ((b.length : Int) != (a.length : Int)) = !decide (b.length = a.length) := by rw [Bool.eq_iff_iff]; simp; omega
  by_cases h8 : b.length = 8
  · have hl := hlx (.inl h8)
    rw [h8] at hl
    simp only [castI8] at hl
    by_cases ha : b.length = a.length
    rotate_left
    · have hbb : (b.length == a.length) = false := by simpa using ha
      have hz : ¬ (8 : Int) = (a.length : Int) := by omega
      rw [if_neg (by simp [addrOk, ha])]
      simp [stA1068, bad1068, b1068_1, hw, b8, b32, ba, rowBox, strs, h8, ha, hbb, hz]
    have hz : (8 : Int) = (a.length : Int) := by omega
    cases hv : b.all addrC with
    | false =>
      rw [if_neg (by simp [addrOk, hv])]
      simp only [hv, Bool.false_eq_true, if_false] at hl
      simp [stA1068, bad1068, b1068_1, hw, b8, b32, ba, rowBox, strs, h8, hl, ha, ← hz]
    | true =>
      rw [if_pos (by simp [addrOk, hv, h8, ← ha])]
      simp only [hv, if_true] at hl
      simp [stA1068, bad1068, b1068_1, hw, b8, b32, ba, rowBox, strs, h8, hl, ha, ← hz]
  · by_cases h32 : b.length = 32
    · have hl := hlx (.inr h32)
      rw [h32] at hl
      simp only [castI32] at hl
      by_cases ha : b.length = a.length
      rotate_left
      · have hbb : (b.length == a.length) = false := by simpa using ha
        have hz : ¬ (32 : Int) = (a.length : Int) := by omega
        rw [if_neg (by simp [addrOk, ha])]
        simp [stA1068, bad1068, b1068_1, hw, b8, b32, ba, rowBox, strs, h8, h32, ha, hbb, hz]
      have hz : (32 : Int) = (a.length : Int) := by omega
      cases hv : b.all addrC with
      | false =>
        rw [if_neg (by simp [addrOk, hv])]
        simp only [hv, Bool.false_eq_true, if_false] at hl
        simp [stA1068, bad1068, b1068_1, hw, b8, b32, ba, rowBox, strs, h8, h32, hl, ha, ← hz]
      | true =>
        rw [if_pos (by simp [addrOk, hv, h8, h32, ← ha])]
        simp only [hv, if_true] at hl
        simp [stA1068, bad1068, b1068_1, hw, b8, b32, ba, rowBox, strs, h8, h32, hl, ha, ← hz]
    · rw [if_neg (by simp [addrOk, h8, h32])]
      simp [stA1068, bad1068, b1068_1, hw, b8, b32, ba, rowBox, strs, h8, h32]

theorem loopA1068 (E : Env) (cf : CallF) (m : Nat) (hm : 40 < m) (h134 : E.pure 111 = some F134) (d : Bool) (xs : List SV) (i : Nat) (bx : List Box) (nm : List UInt8) (N : List Nat) (a b : List UInt8) :
    roundsA (evCA E cf m b1068_1) m (stA1068 d xs i (bx ++ [rowBox ⟨nm, N, [a, b]⟩]) a b 0 bx.length) =
      if (addrOk a a.length && addrOk b a.length) = true then some (.exit 2, (st1068 d xs i (bx ++ [rowBox ⟨nm, N, [a, b]⟩]))) else some (.ret, bad1068 (bx ++ [rowBox ⟨nm, N, [a, b]⟩])) := by
  obtain ⟨k, rfl⟩ : ∃ k, m = k + 1 + 1 + 1 := ⟨m - 3, by omega⟩
  have h0 := roundA1068_0 E cf (k + 1 + 1 + 1) h134 d xs i bx nm N a b hm
  have h1 := roundA1068_1 E cf (k + 1 + 1 + 1) h134 d xs i bx nm N a b hm
  generalize hM : k + 1 + 1 + 1 = M at h0 h1
  have hend : evCA E cf M b1068_1 (stA1068 d xs i (bx ++ [rowBox ⟨nm, N, [a, b]⟩]) a b 2 bx.length) = some (.exit 2, (st1068 d xs i (bx ++ [rowBox ⟨nm, N, [a, b]⟩]))) := by
    simp [stA1068, st1068, b1068_1]
  rw [show roundsA (evCA E cf M b1068_1) M = roundsA (evCA E cf M b1068_1) (k + 1 + 1 + 1) from by rw [hM]]
  cases ha : addrOk a a.length with
  | false =>
    rw [ha, if_neg (by simp)] at h0
    rw [if_neg (by simp), roundsA_out h0 (by simp)]
  | true =>
    rw [ha, if_pos rfl] at h0
    rw [roundsA_step h0]
    cases hb : addrOk b a.length with
    | false =>
      rw [hb, if_neg (by simp)] at h1
      rw [if_neg (by simp), roundsA_out h1 (by simp)]
    | true =>
      rw [hb, if_pos rfl] at h1
      rw [roundsA_step h1, if_pos (by simp), roundsA_out hend (by simp)]

end Go.Ev

set_option linter.unusedSimpArgs false
set_option linter.unusedVariables false
namespace Go.Ev
open Go.Proofs

def S1068 (F : List SV → Option AV) : Prop := ∀ (d : Bool) (l : List RowD), rowsFit3 l → F [.sl (rowsSV l), .bool d] = some (.sv (.bool (l.all (skOk d))))

set_option maxHeartbeats 8000000 in
/-- A row whose counts and numbers are right: its addresses tell. -/
theorem step1068_addr (E : Env) (cf : CallF) (m : Nat) (hm : 40 < m) (h83 : Has E 83 S1083s) (h134 : E.pure 111 = some F134) (d : Bool) (xs : List SV) (nm : List UInt8) (n0 n1 n2 n3 n4 n5 n6 n7 n8 : Nat) (a b : List UInt8) (hr : RowD.fits3 ⟨nm, [n0, n1, n2, n3, n4, n5, n6, n7, n8], [a, b]⟩) (hcn : cnt63 ⟨nm, [n0, n1, n2, n3, n4, n5, n6, n7, n8], [a, b]⟩ = true) (i : Nat) (hlt : i < xs.length) (hxl : xs.length < 1000000000)
    (hc : ∀ h : i < xs.length, xs[i]'h = .agg [.str nm, .sl [.int .u64 (n0 : Int), .int .u64 (n1 : Int), .int .u64 (n2 : Int), .int .u64 (n3 : Int), .int .u64 (n4 : Int), .int .u64 (n5 : Int), .int .u64 (n6 : Int), .int .u64 (n7 : Int), .int .u64 (n8 : Int)], .sl [.str a, .str b]]) (bx : List Box)
    (hb : n0 < 2147483648 ∧ n1 < 65536 ∧ n2 < 65536 ∧ 1 ≤ n3 ∧ n3 ≤ 12 ∧ n4 < 4294967296 ∧ n5 < 4294967296 ∧ n6 < 4294967296 ∧ (d = true ∨ n8 = 0) ∧ nm = [])
    :
    evCA E cf m b1068_2 (st1068 d xs i bx) = if (addrOk a a.length && addrOk b a.length) = true then some (.normal, st1068 d xs (i + 1) (bx ++ [rowBox ⟨nm, [n0, n1, n2, n3, n4, n5, n6, n7, n8], [a, b]⟩])) else some (.ret, bad1068 (bx ++ [rowBox ⟨nm, [n0, n1, n2, n3, n4, n5, n6, n7, n8], [a, b]⟩])) := by
  have hl := loopA1068 E cf m hm h134 d xs i bx nm [n0, n1, n2, n3, n4, n5, n6, n7, n8] a b
  obtain ⟨F, hp, hF⟩ := h83
  have hFr := hF _ hr
  rw [hcn] at hFr
  simp only [u64s, strs, List.map_cons, List.map_nil] at hFr
  obtain ⟨q0, q1, q2, q3, q4, q5, q6, q7, q8, rfl⟩ := hb
  have e0 : ¬ (2147483648 : Int) ≤ (n0 : Int) := by omega
  have e1 : ¬ (65536 : Int) ≤ (n1 : Int) := by omega
  have e2 : ¬ (65536 : Int) ≤ (n2 : Int) := by omega
  have e3 : ¬ (n3 : Int) < 1 := by omega
  have e4 : ¬ (12 : Int) < (n3 : Int) := by omega
  have e5 : ¬ (4294967296 : Int) ≤ (n4 : Int) := by omega
  have e6 : ¬ (4294967296 : Int) ≤ (n5 : Int) := by omega
  have e7 : ¬ (4294967296 : Int) ≤ (n6 : Int) := by omega
  have hw : IntKind.i64.wrap ((i : Int) + 1) = ((i + 1 : Nat) : Int) := by rw [IntKind.wrap_i64]; omega
  simp only [stA1068, Int.ofNat_zero, Int.natCast_zero, rowBox, u64s, strs, List.map_cons, List.map_nil] at hl
  cases hok : addrOk a a.length && addrOk b a.length with
  | false =>
    simp only [hok, Bool.false_eq_true, if_false] at hl ⊢
    simp only [bad1068, rowBox, u64s, strs, List.map_cons, List.map_nil] at hl
    cases d with
    | true => simp [st1068, bad1068, b1068_2, hlt, hc, hp, hFr, rowBox, u64s, strs, e0, e1, e2, e3, e4, e5, e6, e7, hl]
    | false =>
      obtain rfl : n8 = 0 := by simpa using q8
      simp only [Int.ofNat_zero, Int.natCast_zero] at hl hFr hc
      simp [st1068, bad1068, b1068_2, hlt, hc, hp, hFr, rowBox, u64s, strs, e0, e1, e2, e3, e4, e5, e6, e7, hl]
  | true =>
    simp only [hok, if_true] at hl ⊢
    simp only [st1068, rowBox, u64s, strs, List.map_cons, List.map_nil] at hl
    cases d with
    | true => simp [st1068, bad1068, b1068_2, hlt, hc, hp, hFr, rowBox, u64s, strs, e0, e1, e2, e3, e4, e5, e6, e7, hl, hw]
    | false =>
      obtain rfl : n8 = 0 := by simpa using q8
      simp only [Int.ofNat_zero, Int.natCast_zero] at hl hFr hc
      simp [st1068, bad1068, b1068_2, hlt, hc, hp, hFr, rowBox, u64s, strs, e0, e1, e2, e3, e4, e5, e6, e7, hl, hw]

theorem skOk_false {d : Bool} {r : RowD} (h : cnt63 r = false) : skOk d r = false := by
  cases hk : skOk d r with
  | false => rfl
  | true => rw [skOk_cnt hk] at h; cases h

theorem loop1068_2 (E : Env) (cf : CallF) (m : Nat) (hm : 40 < m) (h83 : Has E 83 S1083s) (h134 : E.pure 111 = some F134) (d : Bool) (xs : List SV) (hxl : xs.length < 1000000000) :
    ∀ (rest : List RowD) (pre : List SV) (i : Nat) (bx : List Box) (k : Nat), xs = pre ++ rowsSV rest → i = pre.length → (∀ r ∈ rest, r.fits3) → rest.length < k →
      ∃ bx', roundsA (evCA E cf m b1068_2) k (st1068 d xs i bx) = if rest.all (skOk d) = true then some (.exit 0, end1068 bx') else some (.ret, bad1068 bx') := by
  intro rest
  induction rest with
  | nil =>
    intro pre i bx k hsp hi _ hk
    obtain ⟨k, rfl⟩ : ∃ k', k = k' + 1 := ⟨k - 1, by omega⟩
    have hlt : ¬ (i < xs.length) := by rw [hsp, hi]; simp [rowsSV]
    refine ⟨bx, roundsA_out ?_ (by simp)⟩
    simp [st1068, end1068, b1068_2, hlt]
  | cons r rest ih =>
    intro pre i bx k hsp hi hr hk
    obtain ⟨k, rfl⟩ : ∃ k', k = k' + 1 := ⟨k - 1, by omega⟩
    have hlt : i < xs.length := by rw [hsp, hi]; simp [rowsSV]
    have hc : ∀ h : i < xs.length, xs[i]'h = .agg [.str r.name, .sl (u64s r.N), .sl (strs r.S)] := by subst hi; subst hsp; simp [rowsSV, RowD.sv]
    have hrf := hr r (by simp)
    cases hcn : cnt63 r with
    | false =>
      refine ⟨bx ++ [rowBox r], ?_⟩
      rw [if_neg (by simp [skOk_false hcn])]
      exact roundsA_out (step1068_cnt E cf m h83 d xs r hrf i hlt hc bx hcn) (by simp)
    | true =>
      obtain ⟨n0, n1, n2, n3, n4, n5, n6, n7, n8, a, b, hN, hS, hbd⟩ := cnt63_spec hcn
      obtain ⟨nm, N, S⟩ := r
      simp only at hN hS
      subst hN; subst hS
      simp only [u64s, strs, List.map_cons, List.map_nil] at hc
      have hskr := skOk_eq d nm n0 n1 n2 n3 n4 n5 n6 n7 n8 a b
      have h7 := hbd n7 (by simp)
      have h8 := hbd n8 (by simp)
      by_cases hb : n0 < 2147483648 ∧ n1 < 65536 ∧ n2 < 65536 ∧ 1 ≤ n3 ∧ n3 ≤ 12 ∧ n4 < 4294967296 ∧ n5 < 4294967296 ∧ n6 < 4294967296 ∧ (d = true ∨ n8 = 0) ∧ nm = []
      · have hst := step1068_addr E cf m hm h83 h134 d xs nm n0 n1 n2 n3 n4 n5 n6 n7 n8 a b hrf hcn i hlt hxl hc bx hb
        obtain ⟨q0, q1, q2, q3, q4, q5, q6, q7, q8, q9⟩ := hb
        have hsk : skOk d ⟨nm, [n0, n1, n2, n3, n4, n5, n6, n7, n8], [a, b]⟩ = (addrOk a a.length && addrOk b a.length) := by
          rw [hskr]
          rcases q8 with q8 | q8
          · simp [q0, q1, q2, q3, q4, q5, q6, q7, q8, q9, h7, h8]
          · simp [q0, q1, q2, q3, q4, q5, q6, q7, q8, q9, h7]
        cases hok : addrOk a a.length && addrOk b a.length with
        | false =>
          rw [hok, if_neg (by simp)] at hst
          refine ⟨bx ++ [rowBox ⟨nm, [n0, n1, n2, n3, n4, n5, n6, n7, n8], [a, b]⟩], ?_⟩
          rw [if_neg (by simp [hsk, hok])]
          exact roundsA_out hst (by simp)
        | true =>
          rw [hok, if_pos rfl] at hst
          obtain ⟨bx', he⟩ := ih (pre ++ [RowD.sv ⟨nm, [n0, n1, n2, n3, n4, n5, n6, n7, n8], [a, b]⟩]) (i + 1) (bx ++ [rowBox ⟨nm, [n0, n1, n2, n3, n4, n5, n6, n7, n8], [a, b]⟩]) k (by rw [hsp]; simp [rowsSV]) (by simp [hi]) (fun q hq => hr q (by simp [hq])) (by simp at hk; omega)
          refine ⟨bx', ?_⟩
          rw [roundsA_step hst, he]
          simp only [List.all_cons, hsk, hok, Bool.true_and]
      · refine ⟨bx ++ [rowBox ⟨nm, [n0, n1, n2, n3, n4, n5, n6, n7, n8], [a, b]⟩], ?_⟩
        have hsk : skOk d ⟨nm, [n0, n1, n2, n3, n4, n5, n6, n7, n8], [a, b]⟩ = false := by
          cases hk : skOk d ⟨nm, [n0, n1, n2, n3, n4, n5, n6, n7, n8], [a, b]⟩ with
          | false => rfl
          | true =>
            exfalso
            rw [hskr] at hk
            simp only [Bool.and_eq_true, Bool.or_eq_true, decide_eq_true_eq, beq_iff_eq] at hk
            exact hb ⟨hk.1.1.1.1.1.1.1.1.1.1.1.1.1, hk.1.1.1.1.1.1.1.1.1.1.1.1.2, hk.1.1.1.1.1.1.1.1.1.1.1.2, hk.1.1.1.1.1.1.1.1.1.1.2, hk.1.1.1.1.1.1.1.1.1.2, hk.1.1.1.1.1.1.1.1.2, hk.1.1.1.1.1.1.1.2, hk.1.1.1.1.1.1.2, hk.1.1.1.2, hk.1.1.2⟩
        rw [if_neg (by simp [hsk])]
        exact roundsA_out (step1068_num E cf m h83 d xs nm n0 n1 n2 n3 n4 n5 n6 n7 n8 a b hrf hcn i hlt hc bx hb) (by simp)

theorem ev1068 (E : Env) (h : E.code 68 = some c1068) (h83 : Has E 83 S1083s) (h134 : E.pure 111 = some F134) : S1068 (autoF E 68) := by
  intro d l hf
  have hlen : (rowsSV l).length = l.length := by simp [rowsSV]
  obtain ⟨bx', he⟩ := loop1068_2 E (evF E (l.length + 41)) (l.length + 41) (by omega) h83 h134 d (rowsSV l) (by rw [hlen]; have := hf.1; omega) l [] 0 [] (l.length + 41) rfl rfl hf.2 (by omega)
  refine autoA_sv (n := l.length + 41) ?_ rfl
  unfold evPA
  simp only [h]
  simp only [st1068, Int.ofNat_zero, Int.natCast_zero] at he
  cases hv : l.all (skOk d) with
  | false => simp only [hv, Bool.false_eq_true, if_false, bad1068] at he; simp [c1068, he]
  | true => simp only [hv, if_true, end1068] at he; simp [c1068, he]

end Go.Ev
