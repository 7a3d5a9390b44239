/- Sockets of the Unix domain: what is fine. -/
/- Texts split at a sign, addresses: the program's functions. -/
/- A socket's line: the program's reading. -/
/- Tables of sockets: the tree, and what the program holds of a socket. -/
/- Sockets: the program's trees of them. -/
/- Sockets: the door. -/
/- Sockets of the Unix domain: the reference's reading. -/
/- Tables of sockets: what is fine. -/
/- Tables of sockets: what is fine, whole. -/
/- Tables of sockets: what is fine, whole; the text. -/
/- Tables of sockets: their text. -/
/- Tables of sockets: their text. -/
/- Sockets of the Unix domain: what is written. -/
import Derived.Test.YtgonelmeonncpaaGreatDoorAar
import Derived.Test.YtgonelmeonncpaaGreatDoorAaq
import Derived.Test.YtgonelmeonncpaaGreatDoorAai
import Derived.Test.YtgonelmeonncpaaGreatDoorAak
import Derived.Test.YtgonelmeonncpaaGreatDoorAaf
set_option linter.unusedSimpArgs false
set_option linter.unusedVariables false
namespace Go.Ev
open Go.Proofs

def unHeadL : List UInt8 := [78, 117, 109, 32, 32, 32, 32, 32, 32, 32, 82, 101, 102, 67, 111, 117, 110, 116, 32, 80, 114, 111, 116, 111, 99, 111, 108, 32, 70, 108, 97, 103, 115, 32, 32, 32, 32, 84, 121, 112, 101, 32, 83, 116, 32, 73, 110, 111, 100, 101, 32, 80, 97, 116, 104]
def unHead : List UInt8 := unHeadL ++ [10]

def cnt32 (k : Nat) (r : RowD) : Bool := r.N.all (fun n => decide (n < 4294967296)) && decide (r.N.length = k)

/-- Is the row a socket of the Unix domain? -/
def unOk (r : RowD) : Bool := (hexV r.name).isSome && decide (r.name.length = 16) && cnt32 6 r && decide (r.N.getD 1 0 = 0) && decide (r.S.length ≤ 1) && r.S.all isWord && (decide (1 ≤ r.N.getD 3 0) && decide (r.N.getD 3 0 ≤ 10)) && (decide (1 ≤ r.N.getD 4 0) && decide (r.N.getD 4 0 ≤ 4))

structure UnR (r : RowD) (n0 n2 n3 n4 n5 : Nat) : Prop where
  hN : r.N = [n0, 0, n2, n3, n4, n5]
  hS : r.S = [] ∨ ∃ p, r.S = [p] ∧ isWord p = true
  hx : (hexV r.name).isSome = true
  hl : r.name.length = 16
  h0 : n0 < 4294967296
  h2 : n2 < 4294967296
  h3 : 1 ≤ n3 ∧ n3 ≤ 10
  h4 : 1 ≤ n4 ∧ n4 ≤ 4
  h5 : n5 < 4294967296

theorem unOk_spec {r : RowD} (h : unOk r = true) : ∃ n0 n2 n3 n4 n5, UnR r n0 n2 n3 n4 n5 := by
  obtain ⟨nm, N, S⟩ := r
  unfold unOk cnt32 at h
  simp only [Bool.and_eq_true, decide_eq_true_eq, List.all_eq_true] at h
  obtain ⟨⟨⟨⟨⟨⟨⟨h1, h2⟩, h3, h4⟩, h5⟩, h6⟩, h7⟩, h8⟩, h9⟩ := h
  match N, h4 with
  | [n0, n1, n2, n3, n4, n5], _ =>
    simp only [List.getD_cons_succ, List.getD_cons_zero] at h5 h8 h9
    subst h5
    refine ⟨n0, n2, n3, n4, n5, rfl, ?_, h1, h2, h3 n0 (by simp), h3 n2 (by simp), h8, h9, h3 n5 (by simp)⟩
    match S, h6 with
    | [], _ => exact .inl rfl
    | [p], _ => exact .inr ⟨p, rfl, h7 p (by simp)⟩

theorem loop1083c (E : Env) (cf : CallF) (xs : List SV) (hs : xs.length < 1000000000000) (m : Nat) (bx : List Box) (a1 a3 a4 : AV) :
    ∀ (rest : List Nat) (pre : List SV) (k : Nat), xs = pre ++ u64s rest → (∀ n ∈ rest, n < 18446744073709551616) → rest.length < k →
      rounds (evC E cf m b1083_0) k { tm := [.sv .undef, a1, .sv (.int .i64 32), a3, a4, .sv .undef, .sv .undef, .sv .undef, .sv .undef, .sv .undef, .sv .undef, .sv .undef, .sv (.sl xs), .sv (.int .i64 xs.length), .sv (.int .i64 pre.length)] ++ List.replicate 23 (.sv .undef), lz := none, bx := bx, df := [] } =
        if rest.all (fun n => decide (n < 4294967296)) = true then some (.exit 0, { tm := [.sv .undef, a1, .sv .undef, a3, a4] ++ List.replicate 33 (.sv .undef), lz := none, bx := bx, df := [] })
        else some (.ret, { tm := List.replicate 8 (.sv .undef) ++ [.sv (.bool false)] ++ List.replicate 29 (.sv .undef), lz := none, bx := bx, df := [] }) := by
  intro rest
  induction rest with
  | nil =>
    intro pre k hsp _ hk
    obtain ⟨k, rfl⟩ : ∃ k', k = k' + 1 := ⟨k - 1, by omega⟩
    have hlt : ¬ (pre.length < xs.length) := by rw [hsp]; simp [u64s]
    refine rounds_out ?_ (by simp)
    simp [b1083_0, List.replicate, hlt]
  | cons c rest ih =>
    intro pre k hsp hr hk
    obtain ⟨k, rfl⟩ : ∃ k', k = k' + 1 := ⟨k - 1, by omega⟩
    have hlt : pre.length < xs.length := by rw [hsp]; simp [u64s]
    have hc : ∀ h : pre.length < xs.length, xs[pre.length]'h = .int .u64 (c : Int) := by subst hsp; simp [u64s]
    have hw2 : IntKind.i64.wrap ((pre.length : Int) + 1) = ((pre ++ [SV.int .u64 (c : Int)]).length : Int) := by rw [IntKind.wrap_i64]; simp; omega
    have w1 : IntKind.i64.wrap 31 = 31 := by decide
    have w0 : IntKind.u64.bits = 64 := rfl
    have w2 : IntKind.u64.wrap 2147483648 = 2147483648 := by decide
    have w3 : IntKind.u64.wrap 4294967296 = 4294967296 := by decide
    have w4 : IntKind.u64.wrap 4294967295 = 4294967295 := by decide
    by_cases h1 : c < 4294967296
    · have e : ¬ (4294967295 : Int) < (c : Int) := by omega
      have := ih (pre ++ [.int .u64 (c : Int)]) k (by rw [hsp]; simp [u64s]) (fun n hn => hr n (by simp [hn])) (by simp at hk; omega)
      rw [show (c :: rest).all (fun n => decide (n < 4294967296)) = rest.all (fun n => decide (n < 4294967296)) from by simp [h1], ← this]
      refine rounds_step ?_
      simp [b1083_0, List.replicate, hlt, hc, e, hw2, w0, w1, w2, w3, w4]
    · have e : (4294967295 : Int) < (c : Int) := by omega
      rw [if_neg (by simp [h1])]
      refine rounds_out ?_ (by simp)
      simp [b1083_0, List.replicate, hlt, hc, e, w0, w1, w2, w3, w4]

def S1083c (F : List SV → Option AV) : Prop := ∀ r : RowD, r.fits3 → F [.agg [.str r.name, .sl (u64s r.N), .sl (strs r.S)], .int .i64 6, .int .i64 32, .int .i64 (r.S.length : Int)] = some (.sv (.bool (cnt32 6 r)))

theorem ev1083c (E : Env) (h : E.code 158 = some c1083) : S1083c (autoF E 158) := by
  intro r hr
  obtain ⟨n, hn⟩ : ∃ n, r.N.length < n := ⟨r.N.length + 1, by omega⟩
  refine autoF_sv (n := n) ?_ rfl
  unfold evP
  simp only [h]
  obtain ⟨name, N, S⟩ := r
  simp only at hn
  have hsl : (u64s N).length = N.length := u64s_length N
  have hst : (strs S).length = S.length := strs_length S
  have hl := loop1083c E (evF E n) (u64s N) (by rw [hsl]; have := hr.2.1; simp only at this; omega) n [.live [.sv (.str name), .sv (.sl (u64s N)), .sv (.sl (strs S))]] (.sv (.int .i64 6)) (.sv (.int .i64 (S.length : Int))) (.ptr 0 0) N [] n rfl hr.2.2.1 hn
  simp only [List.replicate, List.cons_append, List.nil_append, List.length_nil, Int.ofNat_zero, Int.natCast_zero, hsl] at hl
  have b1 : ((N.length : Int) == 6) = decide (N.length = 6) := by rw [Bool.eq_iff_iff]; simp; omega
  simp only [cnt32]
  cases hv : N.all (fun n => decide (n < 4294967296)) with
  | false => simp only [hv, Bool.false_eq_true, if_false] at hl; simp [c1083, List.replicate, hl, hsl]
  | true =>
    simp only [hv, if_true] at hl
    by_cases h1 : N.length = 6
    · have e1 : ((N.length : Nat) : Int) = 6 := by omega
      rw [e1] at hl
      simp [c1083, List.replicate, hl, hsl, hst, b1, h1]
    · simp [c1083, List.replicate, hl, hsl, hst, b1, h1]

theorem S123_ok {F : List SV → Option AV} (h : S123 F) (s : List UInt8) (hs : s.length < 9223372036854775807) : ∃ v : Int, F [.str s, .int .u64 16] = some (.sv (.tup [.int .u64 v, .bool (hexV s).isSome])) := by
  have h1 := h s hs
  cases hv : hexV s with
  | some m => rw [hv] at h1; exact ⟨_, h1⟩
  | none =>
    rw [hv] at h1
    cases hn : numV 16 0 s with
    | some m => rw [hn] at h1; exact ⟨_, h1⟩
    | none => rw [hn] at h1; exact ⟨_, h1⟩

def st2081 (xs : List SV) (i : Nat) (bx : List Box) : SA := { nt := 91, tm := [(9, .sv (.int .i64 i)), (8, .sv (.int .i64 xs.length)), (7, .sv (.sl xs))], lz := none, bx := bx, df := [] }

def bad2081 (bx : List Box) : SA := { nt := 91, tm := [(2, .sv (.bool false))], lz := none, bx := bx, df := [] }

set_option maxRecDepth 100000 in
set_option maxHeartbeats 16000000 in
theorem step2081 (E : Env) (cf : CallF) (m : Nat) (h23 : Has E 91 S123) (h83 : Has E 158 S1083c) (h54 : E.pure 176 = some F54) (xs : List SV) (r : RowD) (hf : r.fits3) (i : Nat) (hlt : i < xs.length) (hxl : xs.length < 1000000000)
    (hc : ∀ h : i < xs.length, xs[i]'h = .agg [.str r.name, .sl (u64s r.N), .sl (strs r.S)]) (bx : List Box) :
    evCA E cf m b2081_0 (st2081 xs i bx) = if unOk r = true then some (.normal, st2081 xs (i + 1) (bx ++ [rowBox r])) else some (.ret, bad2081 (bx ++ [rowBox r])) := by
  obtain ⟨G, hpG, hG⟩ := h23
  obtain ⟨C, hpC, hC⟩ := h83
  obtain ⟨v, e23⟩ := S123_ok hG r.name (by have := hf.1; omega)
  have e83 := hC r hf
  have hw : IntKind.i64.wrap ((i : Int) + 1) = ((i + 1 : Nat) : Int) := by rw [IntKind.wrap_i64]; omega
  obtain ⟨nm, N, S⟩ := r
  obtain ⟨f1, f2, f3, f4, f5⟩ := hf
  unfold unOk
  simp only at *
  have hbx : rowBox ⟨nm, N, S⟩ = .live [.sv (.str nm), .sv (.sl (u64s N)), .sv (.sl (strs S))] := rfl
  rw [hbx]
  clear hbx
  have hSl : (strs S).length = S.length := strs_length S
  have b16 : ((nm.length : Int) != 16) = !decide (nm.length = 16) := by rw [Bool.eq_iff_iff]; simp; omega
  generalize (hexV nm).isSome = q1 at *
  cases q1 with
  | false => simp [st2081, bad2081, b2081_0, hlt, hc, hpG, e23]
  | true =>
    by_cases q2 : nm.length = 16
    rotate_left
    · simp [st2081, bad2081, b2081_0, hlt, hc, hpG, e23, b16, q2]
    cases q3 : cnt32 6 ⟨nm, N, S⟩ with
    | false =>
      rw [q3] at e83
      simp [st2081, bad2081, b2081_0, hlt, hc, hpG, e23, b16, q2, hpC, hSl, e83]
    | true =>
      rw [q3] at e83
      unfold cnt32 at q3
      simp only [Bool.and_eq_true, decide_eq_true_eq] at q3
      obtain ⟨_, q3⟩ := q3
      clear f2 f3 hC
      match N, q3 with
      | [n0, n1, n2, n3, n4, n5], _ =>
        simp only [u64s, List.map_cons, List.map_nil] at e83 hc ⊢
        simp only [List.getD_cons_succ, List.getD_cons_zero]
        have b1 : ((n1 : Int) != 0) = !decide (n1 = 0) := by rw [Bool.eq_iff_iff]; simp
        by_cases q4 : n1 = 0
        rotate_left
        · simp [st2081, bad2081, b2081_0, hlt, hc, hpG, e23, b16, q2, hpC, hSl, e83, b1, q4]
        subst q4
        rw [show ((0 : Nat) : Int) = 0 from rfl] at e83
        by_cases q5 : S.length ≤ 1
        rotate_left
        · have e : (1 : Int) < (S.length : Int) := by omega
          simp [st2081, bad2081, b2081_0, hlt, hc, hpG, e23, b16, q2, hpC, hSl, e83, e, q5]
        match S, q5 with
        | [], _ =>
          simp only [strs, List.map_nil, List.length_nil, Int.natCast_zero, Int.ofNat_zero] at e83 hc ⊢
          by_cases q6 : 1 ≤ n3
          rotate_left
          · have e : (n3 : Int) < 1 := by omega
            simp [st2081, bad2081, b2081_0, hlt, hc, hpG, e23, b16, q2, hpC, e83, e, q6]
          have e6 : ¬ (n3 : Int) < 1 := by omega
          by_cases q7 : n3 ≤ 10
          rotate_left
          · have e : (10 : Int) < (n3 : Int) := by omega
            simp [st2081, bad2081, b2081_0, hlt, hc, hpG, e23, b16, q2, hpC, e83, e6, e, q6, q7]
          have e7 : ¬ (10 : Int) < (n3 : Int) := by omega
          by_cases q8 : 1 ≤ n4
          rotate_left
          · have e : (n4 : Int) < 1 := by omega
            simp [st2081, bad2081, b2081_0, hlt, hc, hpG, e23, b16, q2, hpC, e83, e6, e7, e, q6, q7, q8]
          have e8 : ¬ (n4 : Int) < 1 := by omega
          by_cases q9 : n4 ≤ 4
          rotate_left
          · have e : (4 : Int) < (n4 : Int) := by omega
            simp [st2081, bad2081, b2081_0, hlt, hc, hpG, e23, b16, q2, hpC, e83, e6, e7, e8, e, q6, q7, q8, q9]
          have e9 : ¬ (4 : Int) < (n4 : Int) := by omega
          simp [st2081, bad2081, b2081_0, hlt, hc, hpG, e23, b16, q2, hpC, e83, e6, e7, e8, e9, q6, q7, q8, q9, hw]
        | [p], _ =>
          simp only [strs, List.map_cons, List.map_nil, List.length_cons, List.length_nil] at e83 hc ⊢
          rw [show ((0 + 1 : Nat) : Int) = 1 from rfl] at e83
          have e54 : F54 [.str p] = some (.sv (.bool (isWord p))) := onlyIf_pos (by have := f5 p (by simp); omega)
          cases q5 : isWord p with
          | false =>
            rw [q5] at e54
            simp [st2081, bad2081, b2081_0, hlt, hc, hpG, e23, b16, q2, hpC, e83, h54, e54, q5]
          | true =>
          rw [q5] at e54
          by_cases q6 : 1 ≤ n3
          rotate_left
          · have e : (n3 : Int) < 1 := by omega
            simp [st2081, bad2081, b2081_0, hlt, hc, hpG, e23, b16, q2, hpC, e83, h54, e54, q5, e, q6]
          have e6 : ¬ (n3 : Int) < 1 := by omega
          by_cases q7 : n3 ≤ 10
          rotate_left
          · have e : (10 : Int) < (n3 : Int) := by omega
            simp [st2081, bad2081, b2081_0, hlt, hc, hpG, e23, b16, q2, hpC, e83, h54, e54, q5, e6, e, q6, q7]
          have e7 : ¬ (10 : Int) < (n3 : Int) := by omega
          by_cases q8 : 1 ≤ n4
          rotate_left
          · have e : (n4 : Int) < 1 := by omega
            simp [st2081, bad2081, b2081_0, hlt, hc, hpG, e23, b16, q2, hpC, e83, h54, e54, q5, e6, e7, e, q6, q7, q8]
          have e8 : ¬ (n4 : Int) < 1 := by omega
          by_cases q9 : n4 ≤ 4
          rotate_left
          · have e : (4 : Int) < (n4 : Int) := by omega
            simp [st2081, bad2081, b2081_0, hlt, hc, hpG, e23, b16, q2, hpC, e83, h54, e54, q5, e6, e7, e8, e, q6, q7, q8, q9]
          have e9 : ¬ (4 : Int) < (n4 : Int) := by omega
          simp [st2081, bad2081, b2081_0, hlt, hc, hpG, e23, b16, q2, hpC, e83, h54, e54, q5, e6, e7, e8, e9, q6, q7, q8, q9, hw]

theorem loop2081 (E : Env) (cf : CallF) (m : Nat) (h23 : Has E 91 S123) (h83 : Has E 158 S1083c) (h54 : E.pure 176 = some F54) (xs : List SV) (hxl : xs.length < 1000000000) :
    ∀ (rest : List RowD) (pre : List SV) (bx : List Box) (i k : Nat), xs = pre ++ rowsSV rest → i = pre.length → (∀ r ∈ rest, r.fits3) → rest.length < k →
      ∃ bx', roundsA (evCA E cf m b2081_0) k (st2081 xs i bx) = if rest.all unOk = true then some (.exit 0, { nt := 91, tm := [], lz := none, bx := bx', df := [] }) else some (.ret, bad2081 bx') := by
  intro rest
  induction rest with
  | nil =>
    intro pre bx i k hsp hi _ hk
    obtain ⟨k, rfl⟩ : ∃ k', k = k' + 1 := ⟨k - 1, by omega⟩
    have hlt : ¬ (i < xs.length) := by rw [hsp, hi]; simp [rowsSV]
    refine ⟨bx, roundsA_out ?_ (by simp)⟩
    simp [st2081, b2081_0, hlt]
  | cons r rest ih =>
    intro pre bx i k hsp hi hr hk
    obtain ⟨k, rfl⟩ : ∃ k', k = k' + 1 := ⟨k - 1, by omega⟩
    have hlt : i < xs.length := by rw [hsp, hi]; simp [rowsSV]
    have hc : ∀ h : i < xs.length, xs[i]'h = .agg [.str r.name, .sl (u64s r.N), .sl (strs r.S)] := by subst hi; subst hsp; simp [rowsSV, RowD.sv]
    have hst := step2081 E cf m h23 h83 h54 xs r (hr r (by simp)) i hlt hxl hc bx
    cases hv : unOk r with
    | false =>
      rw [hv, if_neg (by simp)] at hst
      exact ⟨_, by rw [if_neg (by simp [hv])]; exact roundsA_out hst (by simp)⟩
    | true =>
      rw [hv, if_pos rfl] at hst
      obtain ⟨bx', he⟩ := ih (pre ++ [r.sv]) (bx ++ [rowBox r]) (i + 1) k (by rw [hsp]; simp [rowsSV]) (by simp [hi]) (fun q hq => hr q (by simp [hq])) (by simp at hk; omega)
      exact ⟨bx', by rw [roundsA_step hst, he]; simp [hv]⟩

def S2081 (F : List SV → Option AV) : Prop := ∀ l : List RowD, rowsFit3 l → F [.sl (rowsSV l)] = some (.sv (.bool (l.all unOk)))

theorem ev2081 (E : Env) (h : E.code 81 = some c2081) (h23 : Has E 91 S123) (h83 : Has E 158 S1083c) (h54 : E.pure 176 = some F54) : S2081 (autoF E 81) := by
  intro l hl
  have hrl : (rowsSV l).length = l.length := by simp [rowsSV]
  obtain ⟨bx', he⟩ := loop2081 E (evF E (l.length + 1)) (l.length + 1) h23 h83 h54 (rowsSV l) (by rw [hrl]; have := hl.1; omega) l [] [] 0 (l.length + 1) rfl rfl hl.2 (by omega)
  refine autoA_sv (n := l.length + 1) ?_ rfl
  unfold evPA
  simp only [h]
  simp only [st2081, bad2081, Int.ofNat_zero, Int.natCast_zero] at he
  generalize rowsSV l = R at *
  cases hv : l.all unOk with
  | false => rw [hv, if_neg (by simp)] at he; simp [c2081, he]
  | true => rw [hv, if_pos rfl] at he; simp [c2081, he]

end Go.Ev

set_option linter.unusedSimpArgs false
set_option linter.unusedVariables false
namespace Go.Ev
open Go.Proofs

/-! ### The first place of a sign -/

def S1166 (F : List SV → Option AV) : Prop := ∀ (b : UInt8) (s : List UInt8), s.length < 1000000000000 →
  ((∀ c ∈ s, c.toNat ≠ b.toNat) → F [.str s, .str [b]] = some (.sv (.int .i64 (-1)))) ∧
  ∀ w rest, s = w ++ b :: rest → (∀ c ∈ w, c.toNat ≠ b.toNat) → F [.str s, .str [b]] = some (.sv (.int .i64 (w.length : Int)))

theorem take_one {s : List UInt8} {i : Nat} {c : UInt8} {rest pre : List UInt8} (h : s = pre ++ c :: rest) (hi : i = pre.length) : (s.take (i + 1)).drop i = [c] := by
  subst h; subst hi
  rw [show pre.length + 1 = (pre ++ [c]).length from by simp, show pre ++ c :: rest = (pre ++ [c]) ++ rest from by simp, List.take_left, List.drop_left]

theorem loop1166 (E : Env) (cf : CallF) (b : UInt8) (s : List UInt8) (hs : s.length < 1000000000000) (m : Nat) :
    ∀ (rest pre : List UInt8) (i k : Nat), s = pre ++ rest → i = pre.length → rest.length < k →
      ((∀ c ∈ rest, c.toNat ≠ b.toNat) → rounds (evC E cf m b1166_0) k { tm := [.sv (.str s), .sv (.str [b]), .sv .undef, .sv .undef, .sv .undef, .sv (.int .i64 i)] ++ List.replicate 19 (.sv .undef), lz := none, bx := [], df := [] } = some (.exit 0, { tm := List.replicate 25 (.sv .undef), lz := none, bx := [], df := [] })) ∧
      ∀ w r2, rest = w ++ b :: r2 → (∀ c ∈ w, c.toNat ≠ b.toNat) → rounds (evC E cf m b1166_0) k { tm := [.sv (.str s), .sv (.str [b]), .sv .undef, .sv .undef, .sv .undef, .sv (.int .i64 i)] ++ List.replicate 19 (.sv .undef), lz := none, bx := [], df := [] } = some (.ret, { tm := List.replicate 4 (.sv .undef) ++ [.sv (.int .i64 ((i + w.length : Nat) : Int))] ++ List.replicate 20 (.sv .undef), lz := none, bx := [], df := [] }) := by
  intro rest
  induction rest with
  | nil =>
    intro pre i k hsp hi hk
    obtain ⟨k, rfl⟩ : ∃ k', k = k' + 1 := ⟨k - 1, by omega⟩
    have hl : s.length = i := by rw [hsp, hi]; simp
    have hw : IntKind.i64.wrap ((i : Int) + 1) = ((i + 1 : Nat) : Int) := by rw [IntKind.wrap_i64]; omega
    have hle : ¬ ((i + 1 : Nat) : Int) ≤ (i : Int) := by omega
    refine ⟨fun _ => ?_, fun w r2 h => by simp at h⟩
    refine rounds_out ?_ (by simp)
    generalize hj : ((i + 1 : Nat) : Int) = j at *
    have hnle : ¬ j ≤ (i : Int) := by omega
    simp [b1166_0, List.replicate, hl, hw, hnle]
  | cons c rest ih =>
    intro pre i k hsp hi hk
    obtain ⟨k, rfl⟩ : ∃ k', k = k' + 1 := ⟨k - 1, by omega⟩
    have hl : s.length = i + rest.length + 1 := by rw [hsp, hi]; simp; omega
    have hw : IntKind.i64.wrap ((i : Int) + 1) = ((i + 1 : Nat) : Int) := by rw [IntKind.wrap_i64]; omega
    have hle : ((i + 1 : Nat) : Int) ≤ (s.length : Int) := by omega
    have hle2 : i + 1 ≤ s.length := by omega
    have hii : i ≤ i + 1 := by omega
    have ht := take_one hsp hi
    obtain ⟨ih1, ih2⟩ := ih (pre ++ [c]) (i + 1) k (by rw [hsp]; simp) (by simp [hi]) (by simp at hk; omega)
    have hcb : ∀ x y : UInt8, ([x] == [y]) = decide (x.toNat = y.toNat) := fun x y => by
      rw [Bool.eq_iff_iff]; simp [UInt8.toNat_inj]
    have step : c.toNat ≠ b.toNat → evC E cf m b1166_0 { tm := [.sv (.str s), .sv (.str [b]), .sv .undef, .sv .undef, .sv .undef, .sv (.int .i64 i)] ++ List.replicate 19 (.sv .undef), lz := none, bx := [], df := [] } = some (.normal, { tm := [.sv (.str s), .sv (.str [b]), .sv .undef, .sv .undef, .sv .undef, .sv (.int .i64 ((i + 1 : Nat) : Int))] ++ List.replicate 19 (.sv .undef), lz := none, bx := [], df := [] }) := by
      intro hne
      have hbe := hcb c b
      rw [decide_eq_false hne] at hbe
      generalize hj : ((i + 1 : Nat) : Int) = j at *
      have hj0 : 0 ≤ j := by omega
      have hjt : j.toNat = i + 1 := by omega
      have hij : (i : Int) ≤ j := by omega
      have hii2 : (i : Int) ≤ (i : Int) + 1 := by omega
      have hcne : ¬ c = b := fun e => hne (by rw [e])
      simp [b1166_0, List.replicate, hw, hle, hle2, hii, ht, hbe, hj0, hjt, hij, hii2, hcne]
    refine ⟨fun h => ?_, fun w r2 h hwn => ?_⟩
    · rw [rounds_step (step (h c (by simp)))]
      exact ih1 (fun x hx => h x (by simp [hx]))
    · cases w with
      | nil =>
        simp only [List.nil_append, List.cons.injEq] at h
        obtain ⟨rfl, rfl⟩ := h
        refine rounds_out ?_ (by simp)
        have hbe := hcb c c
        rw [decide_eq_true rfl] at hbe
        simp only [List.length_nil, Nat.add_zero]
        generalize hj : ((i + 1 : Nat) : Int) = j at *
        have hj0 : 0 ≤ j := by omega
        have hjt : j.toNat = i + 1 := by omega
        have hij : (i : Int) ≤ j := by omega
        have hii2 : (i : Int) ≤ (i : Int) + 1 := by omega
        simp [b1166_0, List.replicate, hw, hle, hle2, hii, ht, hbe, hj0, hjt, hij, hii2]
      | cons d w =>
        simp only [List.cons_append, List.cons.injEq] at h
        obtain ⟨rfl, rfl⟩ := h
        rw [rounds_step (step (hwn c (by simp)))]
        have := ih2 w r2 rfl (fun x hx => hwn x (by simp [hx]))
        rw [this, show i + 1 + w.length = i + (c :: w).length from by simp; omega]

theorem ev1166 (E : Env) (h : E.code 242 = some c1166) : S1166 (autoF E 242) := by
  intro b s hs
  obtain ⟨h1, h2⟩ := loop1166 E (evF E (s.length + 1)) b s hs (s.length + 1) s [] 0 (s.length + 1) rfl rfl (by omega)
  refine ⟨fun hn => ?_, fun w rest hsp hw => ?_⟩
  · have hl := h1 hn
    refine autoF_sv (n := s.length + 1) ?_ rfl
    unfold evP
    simp only [h]
    simp only [List.replicate, List.cons_append, List.nil_append, Int.ofNat_zero, Int.natCast_zero] at hl
    simp [c1166, List.replicate, hl]
  · have hl := h2 w rest hsp hw
    refine autoF_sv (n := s.length + 1) ?_ rfl
    unfold evP
    simp only [h]
    simp only [List.replicate, List.cons_append, List.nil_append, Int.ofNat_zero, Int.natCast_zero, Nat.zero_add] at hl
    simp [c1166, List.replicate, hl]

theorem first_or (b : Nat) : ∀ s : List UInt8, (∀ c ∈ s, c.toNat ≠ b) ∨ ∃ w c rest, s = w ++ c :: rest ∧ c.toNat = b ∧ ∀ x ∈ w, x.toNat ≠ b
  | [] => .inl (by simp)
  | c :: s => by
    by_cases h : c.toNat = b
    · exact .inr ⟨[], c, s, rfl, h, by simp⟩
    · rcases first_or b s with h1 | ⟨w, d, rest, h1, h2, h3⟩
      · exact .inl fun x hx => by
          rcases List.mem_cons.1 hx with rfl | hx
          · exact h
          · exact h1 x hx
      · exact .inr ⟨c :: w, d, rest, by rw [h1]; rfl, h2, fun x hx => by
          rcases List.mem_cons.1 hx with rfl | hx
          · exact h
          · exact h3 x hx⟩

/-! ### A text split -/

def S1157 (F : List SV → Option AV) : Prop := ∀ (b : UInt8) (s : List UInt8), s.length < 100000000000 → F [.str s, .str [b]] = some (.sv (.sl (strs (partG b.toNat [] s))))

def byV (hi lo : UInt8) : UInt8 := UInt8.ofNat (digitV hi.toNat * 16 + digitV lo.toNat)

theorem byV_toNat {hi lo : UInt8} (h1 : digitV hi.toNat < 16) (h2 : digitV lo.toNat < 16) : (byV hi lo).toNat = digitV hi.toNat * 16 + digitV lo.toNat := by
  unfold byV; simp; omega

def hexB : List UInt8 → List UInt8
  | a :: b :: r => byV a b :: hexB r
  | _ => []

/-- An address's bytes: each word backwards. -/
def addrV : List UInt8 → List UInt8
  | a :: b :: c :: d :: e :: f :: g :: h :: r => byV g h :: byV e f :: byV c d :: byV a b :: addrV r
  | _ => []

def S1177 (F : List SV → Option AV) : Prop := ∀ c : UInt8, digitV c.toNat < 16 → F [.int .u8 (c.toNat : Int)] = some (.sv (.tup [.int .u8 (digitV c.toNat : Int), .bool true]))

def S1174 (F : List SV → Option AV) : Prop := ∀ (k : Nat) (s : List UInt8), s.length = 2 * k → s.length < 1000000 → (∀ c ∈ s, digitV c.toNat < 16) → F [.str s] = some (.sv (.tup [.sl (bytesSV (hexB s)), .nilI]))

theorem or16 : ∀ a b : Fin 16, (a.val * 16 ||| b.val) = a.val * 16 + b.val := by decide

theorem or16' {a b : Nat} (ha : a < 16) (hb : b < 16) : (a * 16 ||| b) = a * 16 + b := or16 ⟨a, ha⟩ ⟨b, hb⟩

def addrF (s : List UInt8) : Prop := (s.length = 8 ∨ s.length = 32) ∧ ∀ c ∈ s, digitV c.toNat < 16

def S1169 (F : List SV → Option AV) : Prop := ∀ s : List UInt8, addrF s → F [.str s] = some (.sv (.tup [.sl (bytesSV (addrV s)), .nilI]))

end Go.Ev

set_option linter.unusedSimpArgs false
set_option linter.unusedVariables false
namespace Go.Ev
open Go.Proofs

end Go.Ev

set_option linter.unusedSimpArgs false
set_option linter.unusedVariables false
namespace Go.Ev
open Go.Proofs

/-- A socket as a tree. -/
def skNode (d : Bool) (r : RowD) : SV := match r.N, r.S with
  | [n0, n1, n2, n3, n4, n5, n6, n7, n8], [a, b] => nodeV [] 8 false 0 0 0 [] [nodeV [83, 108] 3 false 0 (n0 : Int) 0 [] [], nodeV [76, 111, 99, 97, 108, 65, 100, 100, 114] 9 false 0 0 0 (addrV a) [], nodeV [76, 111, 99, 97, 108, 80, 111, 114, 116] 3 false 0 (n1 : Int) 0 [] [], nodeV [82, 101, 109, 65, 100, 100, 114] 9 false 0 0 0 (addrV b) [], nodeV [82, 101, 109, 80, 111, 114, 116] 3 false 0 (n2 : Int) 0 [] [], nodeV [83, 116] 3 false 0 (n3 : Int) 0 [] [], nodeV [84, 120, 81, 117, 101, 117, 101] 3 false 0 (n4 : Int) 0 [] [], nodeV [82, 120, 81, 117, 101, 117, 101] 3 false 0 (n5 : Int) 0 [] [], nodeV [85, 73, 68] 3 false 0 (n6 : Int) 0 [] [], nodeV [73, 110, 111, 100, 101] 3 false 0 (n7 : Int) 0 [] [],
      if d then nodeV [68, 114, 111, 112, 115] 3 false 0 (n8 : Int) 0 [] [] else nodeV [68, 114, 111, 112, 115] 0 false 0 0 0 [] []]
  | _, _ => nodeV [] 8 false 0 0 0 [] []

def skTree (d : Bool) (l : List RowD) : SV := nodeV [] 6 false 0 0 0 [] (l.map (skNode d))

theorem skNode_node (d : Bool) (r : RowD) : IsNode (skNode d r) := by
  unfold skNode
  split
  · refine .mk _ _ _ _ _ _ _ _ (by simp) fun k hk => ?_
    simp only [List.mem_cons, List.not_mem_nil, or_false] at hk
    have key : ∀ nm kd u s, IsNode (nodeV nm kd false 0 u 0 s []) := fun nm kd u s => .mk _ _ _ _ _ _ _ _ (by simp) (by simp)
    rcases hk with rfl | rfl | rfl | rfl | rfl | rfl | rfl | rfl | rfl | rfl | rfl
    all_goals first
      | exact key _ _ _ _
      | (cases d <;> exact key _ _ _ _)
  · exact .mk _ _ _ _ _ _ _ _ (by simp) (by simp)

theorem skTree_node (d : Bool) (l : List RowD) (hl : l.length < 100000000) : IsNode (skTree d l) := by
  refine .mk _ _ _ _ _ _ _ _ (by simpa using (by omega : l.length < 1000000000)) fun k hk => ?_
  obtain ⟨r, _, rfl⟩ := List.mem_map.1 hk
  exact skNode_node d r

/-- What the program holds of a socket. -/
def skCells (d : Bool) (r : RowD) : List SV := match r.N, r.S with
  | [n0, n1, n2, n3, n4, n5, n6, n7, n8], [a, b] => [.int .u64 (n0 : Int), .sl (bytesSV (addrV a)), .int .u64 (n1 : Int), .sl (bytesSV (addrV b)), .int .u64 (n2 : Int), .int .u64 (n3 : Int), .int .u64 (n4 : Int), .int .u64 (n5 : Int), .int .u64 (n6 : Int), .int .u64 (n7 : Int), if d then .ref [.int .u64 (n8 : Int)] else .nilP]
  | _, _ => []

def skVals (d : Bool) (rs : List RowD) : List SV := rs.map fun r => .ref (skCells d r)

theorem addrOk_F {drops : Bool} {r : RowD} {n0 n1 n2 n3 n4 n5 n6 n7 n8 : Nat} {a b : List UInt8} (h : SkR drops r n0 n1 n2 n3 n4 n5 n6 n7 n8 a b) : addrF a ∧ addrF b := by
  have key : ∀ c : UInt8, addrC c = true → digitV c.toNat < 16 := fun c hc => by
    unfold addrC at hc
    simp only [Bool.and_eq_true, decide_eq_true_eq] at hc
    omega
  exact ⟨⟨h.ha, fun c hc => key c (h.ca c hc)⟩, ⟨by rw [h.hb]; exact h.ha, fun c hc => key c (h.cb c hc)⟩⟩

end Go.Ev

set_option linter.unusedSimpArgs false
set_option linter.unusedVariables false
namespace Go.Ev
open Go.Proofs

def S1146 (F : List SV → Option AV) : Prop := ∀ (nm : List UInt8) (u : Int), F [.str nm, .int .u64 u] = some (.sv (nodeV nm 3 false 0 u 0 [] []))

def S1145 (F : List SV → Option AV) : Prop := (∀ nm : List UInt8, F [.str nm, .nilP, .fn 204 [] []] = some (.sv (nodeV nm 0 false 0 0 0 [] []))) ∧
  ∀ (nm : List UInt8) (u : Int), F [.str nm, .ref [.int .u64 u], .fn 204 [] []] = some (.sv (nodeV nm 3 false 0 u 0 [] []))

def S1123 (F : List SV → Option AV) : Prop := ∀ (d : Bool) (r : RowD), skOk d r = true → F [.str [], .agg (skCells d r)] = some (.sv (skNode d r))

theorem skCells_len {d : Bool} {r : RowD} (h : skOk d r = true) : ∃ x0 x1 x2 x3 x4 x5 x6 x7 x8 x9 x10, skCells d r = [x0, x1, x2, x3, x4, x5, x6, x7, x8, x9, x10] ∧ (skCells d r).map SV.can0 = skCells d r := by
  obtain ⟨n0, n1, n2, n3, n4, n5, n6, n7, n8, a, b, hs⟩ := skOk_spec h
  unfold skCells
  simp only [hs.hN, hs.hS]
  refine ⟨_, _, _, _, _, _, _, _, _, _, _, rfl, ?_⟩
  cases d <;> rfl

theorem skNode_agg (d : Bool) (r : RowD) : ∃ k, skNode d r = .agg [.str [], .int .i64 8, .bool false, .int .i64 0, .int .u64 0, .flt .f64 0, .str [], .sl k] := by
  unfold skNode
  split
  · exact ⟨_, rfl⟩
  · exact ⟨_, rfl⟩

def S1122 (F : List SV → Option AV) : Prop := ∀ r : RowD, skOk false r = true → F [.str [], .agg (skCells false r)] = some (.sv (skNode false r))
def S1130 (F : List SV → Option AV) : Prop := ∀ r : RowD, skOk true r = true → F [.str [], .agg (skCells true r)] = some (.sv (skNode true r))

def fnN (d : Bool) : Nat := if d then 170 else 165
def fnL (d : Bool) : Nat := if d then 169 else 163

def S1121 (F : List SV → Option AV) : Prop := ∀ (d : Bool) (r : RowD), skOk d r = true → F [.str [], .ref (skCells d r), .fn (fnN d) [] []] = some (.sv (skNode d r))

def S1120 (F : List SV → Option AV) : Prop := ∀ r : RowD, skOk false r = true → F [.ref (skCells false r)] = some (.sv (skNode false r))

def S1129 (F : List SV → Option AV) : Prop := ∀ r : RowD, skOk true r = true → F [.ref (skCells true r)] = some (.sv (skNode true r))

def accK (xs : List SV) : Cell := match xs with | [] => .sv .nilS | x :: l => .own 36 (x :: l)

def st1119 (d : Bool) (xs acc : List SV) (i : Nat) (z : Box) : SA := { nt := 28, tm := [(14, .sv (.int .i64 i)), (13, .sv (.int .i64 xs.length)), (12, .sv (.sl xs)), (7, .ptr 1 0), (6, .ptr 0 0), (2, .sv (.fn (fnL d) [] []))], lz := none, bx := [z, .live [.sv (.str []), .sv (.int .i64 6), .sv (.bool false), .sv (.int .i64 0), .sv (.int .u64 0), .sv (.flt .f64 0), .sv (.str []), accK acc]], df := [] }

def S1119 (F : List SV → Option AV) : Prop := ∀ (d : Bool) (rs : List RowD), rs.length < 100000000 → (∀ r ∈ rs, skOk d r = true) → F [.str [], .sl (skVals d rs), .fn (fnL d) [] []] = some (.sv (skTree d rs))

def S1074 (F : List SV → Option AV) : Prop := ∀ rs : List RowD, rs.length < 100000000 → (∀ r ∈ rs, skOk false r = true) → F [.str [], .sl (skVals false rs)] = some (.sv (skTree false rs))

def S1073 (F : List SV → Option AV) : Prop := ∀ rs : List RowD, rs.length < 100000000 → (∀ r ∈ rs, skOk false r = true) → F [.sl (skVals false rs)] = some (.sv (skTree false rs))

def S1079 (F : List SV → Option AV) : Prop := ∀ rs : List RowD, rs.length < 100000000 → (∀ r ∈ rs, skOk true r = true) → F [.str [], .sl (skVals true rs)] = some (.sv (skTree true rs))

def S1078 (F : List SV → Option AV) : Prop := ∀ rs : List RowD, rs.length < 100000000 → (∀ r ∈ rs, skOk true r = true) → F [.sl (skVals true rs)] = some (.sv (skTree true rs))

end Go.Ev

set_option linter.unusedSimpArgs false
set_option linter.unusedVariables false
namespace Go.Ev
open Go.Proofs

/-- What is known of a line that the reference reads as a socket. -/
structure LineF (d : Bool) (f : List (List UInt8)) (r : RowD) (n0 n1 n2 n3 n4 n5 n6 n7 n8 : Nat) (a b a1 b1 q0 q1 : List UInt8) : Prop where
  len : f.length = if d then 13 else 17
  p0 : partG 58 [] (skFld f 0) = [decS n0, []]
  p1 : partG 58 [] (skFld f 1) = [a, a1]
  p2 : partG 58 [] (skFld f 2) = [b, b1]
  p4 : partG 58 [] (skFld f 4) = [q0, q1]
  x1 : hexV a1 = some n1
  x2 : hexV b1 = some n2
  x3 : hexV (skFld f 3) = some n3
  x4 : hexV q0 = some n4
  x5 : hexV q1 = some n5
  d6 : skFld f 7 = decS n6
  d7 : skFld f 9 = decS n7
  d8 : d = true → skFld f 12 = decS n8

theorem ends_cut {s : List UInt8} (h : endsC s = true) : s = s.take (s.length - 1) ++ [58] := by
  unfold endsC at h
  simp only [Bool.and_eq_true, decide_eq_true_eq, beq_iff_eq] at h
  conv => lhs; rw [← List.take_append_drop (s.length - 1) s, h.2]

theorem decsV4 {a b c e : List UInt8} {l : List Nat} (h : decsV [a, b, c, e] = some l) : ∃ x y z w, l = [x, y, z, w] ∧ decV a = some x ∧ decV b = some y ∧ decV c = some z ∧ decV e = some w := by
  simp only [decsV] at h
  cases ha : decV a with
  | none => rw [ha] at h; simp at h
  | some x =>
    cases hb : decV b with
    | none => rw [ha, hb] at h; simp at h
    | some y =>
      cases hc : decV c with
      | none => rw [ha, hb, hc] at h; simp at h
      | some z =>
        cases he : decV e with
        | none => rw [ha, hb, hc, he] at h; simp at h
        | some w =>
          rw [ha, hb, hc, he] at h
          simp only [Option.some.injEq] at h
          exact ⟨x, y, z, w, h.symm, rfl, rfl, rfl, rfl⟩

theorem hexsV5 {a b c e g : List UInt8} {l : List Nat} (h : hexsV [a, b, c, e, g] = some l) : ∃ x y z w v, l = [x, y, z, w, v] ∧ hexV a = some x ∧ hexV b = some y ∧ hexV c = some z ∧ hexV e = some w ∧ hexV g = some v := by
  simp only [hexsV] at h
  cases ha : hexV a with
  | none => rw [ha] at h; simp at h
  | some x =>
    cases hb : hexV b with
    | none => rw [ha, hb] at h; simp at h
    | some y =>
      cases hc : hexV c with
      | none => rw [ha, hb, hc] at h; simp at h
      | some z =>
        cases he : hexV e with
        | none => rw [ha, hb, hc, he] at h; simp at h
        | some w =>
          cases hg : hexV g with
          | none => rw [ha, hb, hc, he, hg] at h; simp at h
          | some v =>
            rw [ha, hb, hc, he, hg] at h
            simp only [Option.some.injEq] at h
            exact ⟨x, y, z, w, v, h.symm, rfl, rfl, rfl, rfl, rfl⟩

theorem skLine_facts {d : Bool} {f : List (List UInt8)} {r : RowD} (h : skLineV d f = some r) (ho : skOk d r = true) : ∃ n0 n1 n2 n3 n4 n5 n6 n7 n8 a b a1 b1 q0 q1, SkR d r n0 n1 n2 n3 n4 n5 n6 n7 n8 a b ∧ LineF d f r n0 n1 n2 n3 n4 n5 n6 n7 n8 a b a1 b1 q0 q1 := by
  unfold skLineV at h
  by_cases hc : f.length = (if d then 13 else 17) ∧ endsC (skFld f 0) = true
  rotate_left
  · rw [if_neg hc] at h; cases h
  rw [if_pos hc] at h
  obtain ⟨hlen, he⟩ := hc
  generalize hla : (if d then skFld f 12 else [48]) = last at h
  unfold skV at h
  split at h <;> try (simp at h; done)
  rename_i a0 a1 b0 b1 q0 q1 hp1 hp2 hp4
  split at h <;> try (simp at h; done)
  rename_i d0 d1 d2 d3 hd
  split at h <;> try (simp at h; done)
  rename_i h0 h1 h2 h3 h4 hx
  simp only [Option.some.injEq] at h
  subst h
  obtain ⟨x, y, z, w, hl, g0, g6, g7, g8⟩ := decsV4 hd
  simp only [List.cons.injEq, and_true] at hl
  obtain ⟨rfl, rfl, rfl, rfl⟩ := hl
  obtain ⟨y1, y2, y3, y4, y5, hl, k1, k2, k3, k4, k5⟩ := hexsV5 hx
  simp only [List.cons.injEq, and_true] at hl
  obtain ⟨rfl, rfl, rfl, rfl, rfl⟩ := hl
  obtain ⟨n0, n1, n2, n3, n4, n5, n6, n7, n8, a, b, hs⟩ := skOk_spec ho
  have hN := hs.hN
  have hS := hs.hS
  simp only [List.cons.injEq, and_true] at hN hS
  obtain ⟨rfl, rfl, rfl, rfl, rfl, rfl, rfl, rfl, rfl⟩ := hN
  obtain ⟨rfl, rfl⟩ := hS
  refine ⟨_, _, _, _, _, _, _, _, _, _, _, a1, b1, q0, q1, hs, hlen, ?_, hp1, hp2, hp4, k1, k2, k3, k4, k5, (decV_dec g6).symm, (decV_dec g7).symm, fun hdt => ?_⟩
  · rw [ends_cut he, ← decV_dec g0]
    exact partG_two (b := 58) (w := decS _) (v := []) (fun c hc => ((decS_word _).2 c hc).2.1) (by simp)
  · subst hdt
    simp only [if_true] at hla
    rw [hla]
    exact (decV_dec g8).symm

def S1159 (F : List SV → Option AV) : Prop := ∀ (d : Bool) (f : List (List UInt8)) (r : RowD), skLineV d f = some r → skOk d r = true → (∀ x ∈ f, x.length < 1000000) → F [.sl (strs f), .bool d] = some (.sv (.tup [.ref (skCells d r), .nilI]))

end Go.Ev

set_option linter.unusedSimpArgs false
set_option linter.unusedVariables false
namespace Go.Ev
open Go.Proofs

def unLineV (f : List (List UInt8)) : Option RowD :=
  if (f.length = 7 ∨ f.length = 8) ∧ endsC (skFld f 0) = true then
    match hexsV [skFld f 1, skFld f 2, skFld f 3, skFld f 4, skFld f 5] with
    | some hs => match decV (skFld f 6) with
      | some d => some ⟨(skFld f 0).take ((skFld f 0).length - 1), hs ++ [d], f.drop 7⟩
      | none => none
    | none => none
  else none

def unTabV : List (List UInt8) → Option (List RowD)
  | [] => some []
  | s :: l => match unLineV (fieldsL s) with
    | some r => match unTabV l with
      | some rs => some (r :: rs)
      | none => none
    | none => none

/-- What the reference reads, where it tells. -/
def unRead (s : List UInt8) : Option (List RowD) :=
  if s.all plainC = true ∧ s.take 56 = unHead then match unTabV (linesL (s.drop 56)) with
    | some rs => if rs.all unOk = true then some rs else none
    | none => none
  else none

def S123b (F : List SV → Option AV) : Prop := S123 F ∧ ∀ s : List UInt8, s.length < 9223372036854775807 → F [.str s, .int .u64 10] = some (.sv (.tup (match numV 10 0 s with | some m => [.int .u64 m, .bool (!(s == []))] | none => [.int .u64 0, .bool false])))

theorem ev123b (E : Env) (h : E.code 91 = some c123) (h134 : E.pure 159 = some F134) : S123b (autoF E 91) :=
  ⟨ev123h E h h134, fun s hs => autoF_sv (ev123 E h h134 s hs (s.length + 1) (by omega)) rfl⟩

def accU (xs : List SV) : Cell := match xs with | [] => .sv .nilS | x :: l => .own 32 (x :: l)

def bad2034 (bx : List Box) : SA := { nt := 104, tm := [(4, .sv (.int .i64 2)), (3, .sv (.bool false)), (2, .sv .nilS)], lz := none, bx := bx, df := [] }

def st2034 (xs acc : List SV) (i : Nat) (bx : List Box) : SA := { nt := 104, tm := [(27, .sv (.int .i64 i)), (26, .sv (.int .i64 xs.length)), (25, .sv (.sl xs)), (5, accA 56 acc)], lz := none, bx := bx, df := [] }

theorem snoc_set (B : List Box) (x y : Box) : (B ++ [x]).set B.length y = B ++ [y] := by
  rw [List.set_append_right _ _ (by omega)]; simp

def stN2034 (xs acc fs : List SV) (i : Nat) (bx : List Box) (nm : List UInt8) (ss N : List SV) (j : Nat) : SA := { nt := 104, tm := [(63, .sv (.int .i64 j)), (62, .sv (.int .i64 6)), (61, .sv (.sl fs)), (27, .sv (.int .i64 i)), (26, .sv (.int .i64 xs.length)), (25, .sv (.sl xs)), (9, .ptr bx.length 0), (5, accA 56 acc)], lz := none, bx := bx ++ [.live [.sv (.str nm), (accU N), .sv (.sl ss)]], df := [] }

set_option maxHeartbeats 4000000 in
theorem stepH2034 (E : Env) (cf : CallF) (m : Nat) (h23 : Has E 91 S123b) (xs acc fs : List SV) (hfl : fs.length = 6) (i : Nat) (bx : List Box) (nm : List UInt8) (ss N : List SV) (hN : N.length < 1000) (j : Nat) (hj : j < 5) (c : List UInt8) (hcl : c.length < 1000000) (hc : ∀ h : j < fs.length, fs[j]'h = .str c) :
    evCA E cf m b2034_0 (stN2034 xs acc fs i bx nm ss N j) = match hexV c with
      | some v => some (.normal, stN2034 xs acc fs i bx nm ss (N ++ [.int .u64 (v : Int)]) (j + 1))
      | none => some (.ret, bad2034 (bx ++ [.live [.sv (.str nm), (accU N), .sv (.sl ss)]])) := by
  obtain ⟨F, hp, hF, _⟩ := h23
  have hFc := hF c (by omega)
  have hlt : j < fs.length := by omega
  have hw : IntKind.i64.wrap ((j : Int) + 1) = ((j + 1 : Nat) : Int) := by rw [IntKind.wrap_i64]; omega
  have b5 : ((j : Int) == 5) = false := by simp; omega
  have b6 : (j : Int) < 6 := by omega
  have hl1 : (N.length + 1) * 8 ≤ 140737488355328 := by omega
  have hl2 : N.length + 1 ≤ 140737488355328 := by omega
  cases hv : hexV c with
  | none =>
    rw [hv] at hFc
    cases hn : numV 16 0 c with
    | none => simp only [hn] at hFc; simp [bad2034, stN2034, b2034_0, hlt, hc, hp, hFc, b5, b6]
    | some q => simp only [hn] at hFc; simp [bad2034, stN2034, b2034_0, hlt, hc, hp, hFc, b5, b6]
  | some v =>
    simp only [hv] at hFc
    cases N with
    | nil => simp [stN2034, b2034_0, hlt, hc, hp, hFc, b5, b6, hw, accU, snoc_set]
    | cons y ys =>
      simp only [List.length_cons] at hl1 hl2
      simp [stN2034, b2034_0, hlt, hc, hp, hFc, b5, b6, hw, accU, snoc_set, hl1, hl2]

set_option maxHeartbeats 4000000 in
theorem stepD2034 (E : Env) (cf : CallF) (m : Nat) (h23 : Has E 91 S123b) (h45 : E.pure 62 = some F45) (xs acc fs : List SV) (hfl : fs.length = 6) (i : Nat) (bx : List Box) (nm : List UInt8) (ss N : List SV) (hN : N.length = 5) (c : List UInt8) (hcl : c.length < 1000000) (hc : ∀ h : 5 < fs.length, fs[5]'h = .str c) :
    evCA E cf m b2034_0 (stN2034 xs acc fs i bx nm ss N 5) = match decV c with
      | some v => some (.normal, stN2034 xs acc fs i bx nm ss (N ++ [.int .u64 (v : Int)]) 6)
      | none => some (.ret, bad2034 (bx ++ [.live [.sv (.str nm), (accU N), .sv (.sl ss)]])) := by
  obtain ⟨F, hp, _, hF⟩ := h23
  have hFc := hF c (by omega)
  have hlt : 5 < fs.length := by omega
  have hltI : (5 : Int) < (fs.length : Int) := by omega
  have hg : fs[5]? = some (.str c) := by rw [List.getElem?_eq_getElem hlt, hc hlt]
  have w6 : IntKind.i64.wrap 6 = 6 := by decide
  unfold decV
  cases hn : numV 10 0 c with
  | none => rw [hn] at hFc; simp [bad2034, stN2034, b2034_0, hltI, hg, hp, hFc]
  | some v =>
    rw [hn] at hFc
    have hvb : v < 18446744073709551616 := numV_lt (by omega) c 0 v (by omega) hn
    have t45 := F45_eq v hvb
    by_cases hne : c = []
    · subst hne
      simp [bad2034, stN2034, b2034_0, hltI, hg, hp, hFc]
    · have hne' : (c == []) = false := by simpa using hne
      rw [hne'] at hFc
      by_cases hd : decS v = c
      · simp only
        rw [if_pos ⟨hne, hd⟩]
        rw [hd] at t45
        match N, hN with
        | y :: ys, hN =>
          simp only [List.length_cons] at hN
          have hl : ys.length = 4 := by omega
          simp [stN2034, b2034_0, hltI, hg, hp, hFc, h45, t45, w6, accU, snoc_set, hl]
      · simp only
        rw [if_neg (fun hh => hd hh.2)]
        generalize decS v = D at *
        simp [bad2034, stN2034, b2034_0, hltI, hg, hp, hFc, h45, t45, hd]

theorem loopH2034 (E : Env) (cf : CallF) (m : Nat) (h23 : Has E 91 S123b) (h45 : E.pure 62 = some F45) (xs acc fs : List SV) (hfl : fs.length = 6) (i : Nat) (bx : List Box) (nm : List UInt8) (ss : List SV) (d : List UInt8) (hdl : d.length < 1000000) :
    ∀ (rest : List (List UInt8)) (pre N : List SV) (j k : Nat), fs = pre ++ strs rest ++ [.str d] → j = pre.length → N.length = j → (∀ x ∈ rest, x.length < 1000000) → rest.length + 1 < k →
      ∃ b, roundsA (evCA E cf m b2034_0) k (stN2034 xs acc fs i bx nm ss N j) = match hexsV rest with
        | some ms => (match decV d with
          | some v => some (.exit 2, { nt := 104, tm := [(27, .sv (.int .i64 i)), (26, .sv (.int .i64 xs.length)), (25, .sv (.sl xs)), (9, .ptr bx.length 0), (5, accA 56 acc)], lz := none, bx := bx ++ [.live [.sv (.str nm), (accU (N ++ u64s ms ++ [.int .u64 (v : Int)])), .sv (.sl ss)]], df := [] })
          | none => some (.ret, bad2034 (bx ++ [b])))
        | none => some (.ret, bad2034 (bx ++ [b])) := by
  intro rest
  induction rest with
  | nil =>
    intro pre N j k hsp hj hN _ hk
    obtain ⟨k, rfl⟩ : ∃ k', k = k' + 1 + 1 := ⟨k - 2, by simp at hk; omega⟩
    have hj5 : j = 5 := by
      have := congrArg List.length hsp
      simp [strs, hfl] at this; omega
    subst hj5
    have hc : ∀ h : 5 < fs.length, fs[5]'h = .str d := by intro h; subst hsp; simp [strs, hj]
    have hst := stepD2034 E cf m h23 h45 xs acc fs hfl i bx nm ss N hN d hdl hc
    refine ⟨.live [.sv (.str nm), (accU N), .sv (.sl ss)], ?_⟩
    simp only [hexsV]
    cases hv : decV d with
    | none => rw [hv] at hst; exact roundsA_out hst (by simp)
    | some v =>
      rw [hv] at hst
      rw [roundsA_step hst]
      refine roundsA_out ?_ (by simp)
      simp [stN2034, b2034_0, u64s]
  | cons c rest ih =>
    intro pre N j k hsp hj hN hr hk
    obtain ⟨k, rfl⟩ : ∃ k', k = k' + 1 := ⟨k - 1, by omega⟩
    have hjl : j + (rest.length + 1) + 1 = 6 := by
      have := congrArg List.length hsp
      simp [strs, hfl] at this; omega
    have hc : ∀ h : j < fs.length, fs[j]'h = .str c := by intro h; subst hsp; simp [strs, hj]
    have hst := stepH2034 E cf m h23 xs acc fs hfl i bx nm ss N (by omega) j (by omega) c (hr c (by simp)) hc
    simp only [hexsV]
    cases hv : hexV c with
    | none =>
      rw [hv] at hst
      exact ⟨_, roundsA_out hst (by simp)⟩
    | some v =>
      rw [hv] at hst
      obtain ⟨b, he⟩ := ih (pre ++ [.str c]) (N ++ [.int .u64 (v : Int)]) (j + 1) k (by rw [hsp]; simp [strs]) (by simp [hj]) (by simp [hN]) (fun x hx => hr x (by simp [hx])) (by simp at hk; omega)
      refine ⟨b, ?_⟩
      rw [roundsA_step hst, he]
      cases hexsV rest with
      | none => rfl
      | some ms =>
        cases decV d with
        | none => rfl
        | some v => simp [u64s]

theorem len_fld {f : List (List UInt8)} (h : f.length = 7 ∨ f.length = 8) : ∃ g0 g1 g2 g3 g4 g5 g6 t, f = g0 :: g1 :: g2 :: g3 :: g4 :: g5 :: g6 :: t ∧ t.length ≤ 1 := by
  match f, h with
  | g0 :: g1 :: g2 :: g3 :: g4 :: g5 :: g6 :: t, h => exact ⟨g0, g1, g2, g3, g4, g5, g6, t, rfl, by simp only [List.length_cons] at h; omega⟩
  | [], h => simp at h
  | [_], h => simp at h
  | [_, _], h => simp at h
  | [_, _, _], h => simp at h
  | [_, _, _, _], h => simp at h
  | [_, _, _, _, _], h => simp at h
  | [_, _, _, _, _, _], h => simp at h

set_option maxRecDepth 100000 in
set_option maxHeartbeats 16000000 in
theorem step2034 (E : Env) (cf : CallF) (m : Nat) (hm : 10 < m) (h52 : E.pure 89 = some F52) (h76 : E.pure 90 = some F76) (h23 : Has E 91 S123b) (h45 : E.pure 62 = some F45) (xs acc : List SV) (ha : acc.length < 1000000) (i : Nat) (hlt : i < xs.length) (hxl : xs.length < 1000000000) (c : List UInt8) (hcl : c.length < 1000000) (hc : ∀ h : i < xs.length, xs[i]'h = .str c) (bx : List Box) :
    ∃ bx', evCA E cf m b2034_1 (st2034 xs acc i bx) = match unLineV (fieldsL c) with
      | some r => some (.normal, st2034 xs (acc ++ [r.sv]) (i + 1) bx')
      | none => some (.ret, bad2034 bx') := by
  have hF := F52_eq c (by omega)
  obtain ⟨_, hsh1, hsh2⟩ := fieldsV_shape c
  have hw : IntKind.i64.wrap ((i : Int) + 1) = ((i + 1 : Nat) : Int) := by rw [IntKind.wrap_i64]; omega
  have hl1 : (acc.length + 1) * 64 ≤ 140737488355328 := by omega
  have hl2 : acc.length + 1 ≤ 140737488355328 := by omega
  by_cases hlen : (fieldsL c).length = 7 ∨ (fieldsL c).length = 8
  rotate_left
  · have hn : unLineV (fieldsL c) = none := by unfold unLineV; rw [if_neg (fun h => hlen h.1)]
    rw [hn]
    have hsl : (strs (fieldsL c)).length = (fieldsL c).length := strs_length _
    have hb7 : (((fieldsL c).length : Int) != 7) = true := by simp; omega
    have hb8 : (((fieldsL c).length : Int) != 8) = true := by simp; omega
    refine ⟨bx, ?_⟩
    generalize strs (fieldsL c) = fs at hF hsl
    simp [st2034, bad2034, b2034_1, hlt, hc, h52, hF, hsl, hb7, hb8]
  generalize fieldsL c = f at *
  have hgl : ∀ x ∈ f, x.length < 1000000 := fun x hx => by have := hsh2 x hx; omega
  obtain ⟨g0, g1, g2, g3, g4, g5, g6, t, rfl, ht⟩ := len_fld hlen
  have hE : F76 [.str g0, .str [58]] = some (.sv (.bool (endsC g0))) := by
    show onlyIf _ _ = _
    rw [onlyIf_pos (by have := hgl g0 (by simp); omega)]
    unfold endsC; simp
  have hS : strs (g0 :: g1 :: g2 :: g3 :: g4 :: g5 :: g6 :: t) = [.str g0, .str g1, .str g2, .str g3, .str g4, .str g5, .str g6] ++ strs t := rfl
  rw [hS] at hF
  cases he : endsC g0 with
  | false =>
    have hn : unLineV (g0 :: g1 :: g2 :: g3 :: g4 :: g5 :: g6 :: t) = none := by unfold unLineV; rw [if_neg (by simp [skFld, he])]
    rw [hn]
    rw [he] at hE
    refine ⟨bx, ?_⟩
    rcases (by omega : t.length = 0 ∨ t.length = 1) with h | h
    · match t, h with
      | [], _ => simp only [strs, List.map_nil, List.append_nil] at hF; simp [st2034, bad2034, b2034_1, hlt, hc, h52, hF, h76, hE]
    · match t, h with
      | [p], _ => simp only [strs, List.map_cons, List.map_nil, List.cons_append, List.nil_append] at hF; simp [st2034, bad2034, b2034_1, hlt, hc, h52, hF, h76, hE]
  | true =>
    rw [he] at hE
    have hv : unLineV (g0 :: g1 :: g2 :: g3 :: g4 :: g5 :: g6 :: t) = match hexsV [g1, g2, g3, g4, g5] with
        | some hs => match decV g6 with
          | some d => some ⟨g0.take (g0.length - 1), hs ++ [d], t⟩
          | none => none
        | none => none := by
      unfold unLineV
      rw [if_pos (by refine ⟨?_, by simp [skFld, he]⟩; simpa using hlen)]
      rfl
    rw [hv]
    have z0 := hgl g0 (by simp)
    have h0l : 0 < g0.length := by
      unfold endsC at he
      simp only [Bool.and_eq_true, decide_eq_true_eq] at he
      omega
    have hw0 : IntKind.i64.wrap ((g0.length : Int) - 1) = ((g0.length - 1 : Nat) : Int) := by rw [IntKind.wrap_i64]; omega
    have hle0 : g0.length - 1 ≤ g0.length := by omega
    generalize hgl1 : g0.length - 1 = L1 at *
    obtain ⟨b, hin⟩ := loopH2034 E cf m h23 h45 xs acc [.str g1, .str g2, .str g3, .str g4, .str g5, .str g6] rfl i bx (g0.take L1) (strs t) g6 (hgl g6 (by simp)) [g1, g2, g3, g4, g5] [] [] 0 m rfl rfl rfl (fun x hx => hgl x (by
      simp only [List.mem_cons, List.not_mem_nil, or_false] at hx
      rcases hx with rfl | rfl | rfl | rfl | rfl <;> simp)) (by simp; omega)
    simp only [stN2034, List.nil_append, Int.natCast_zero, Int.ofNat_zero, show accU [] = .sv .nilS from rfl] at hin
    have hE0 : True := trivial
    match t, ht with
    | [], _ =>
      simp only [strs, List.map_cons, List.map_nil, List.cons_append, List.nil_append] at hF hin
      cases hxv : hexsV [g1, g2, g3, g4, g5] with
      | none =>
        rw [hxv] at hin
        simp only [bad2034] at hin
        exact ⟨bx ++ [b], by simp [st2034, bad2034, b2034_1, hlt, hc, h52, hF, h76, hE, hw0, hle0, snoc_set, hin]⟩
      | some ms =>
        obtain ⟨x0, x1, x2, x3, x4, rfl, _⟩ := hexsV5 hxv
        rw [hxv] at hin
        cases hdv : decV g6 with
        | none =>
          rw [hdv] at hin
          simp only [bad2034] at hin
          exact ⟨bx ++ [b], by simp [st2034, bad2034, b2034_1, hlt, hc, h52, hF, h76, hE, hw0, hle0, snoc_set, hin]⟩
        | some d =>
          rw [hdv] at hin
          simp only [u64s, List.map_cons, List.map_nil, List.cons_append, List.nil_append, accU] at hin
          refine ⟨bx ++ [.live [.sv (.str (g0.take L1)), .own 32 [.int .u64 (x0 : Int), .int .u64 (x1 : Int), .int .u64 (x2 : Int), .int .u64 (x3 : Int), .int .u64 (x4 : Int), .int .u64 (d : Int)], .sv (.sl [])]], ?_⟩
          clear hxv hdv hE0 hgl hsh2
          cases acc with
          | nil =>
            simp only [accA] at hin
            simp [st2034, b2034_1, hlt, hc, h52, hF, h76, hE, hw0, hle0, snoc_set, hin, hw, accA, RowD.sv, u64s, strs]
          | cons y ys =>
            simp only [List.length_cons] at hl1 hl2
            simp only [accA] at hin
            simp [st2034, b2034_1, hlt, hc, h52, hF, h76, hE, hw0, hle0, snoc_set, hin, hw, accA, RowD.sv, u64s, strs, hl1, hl2]
    | [p], _ =>
      simp only [strs, List.map_cons, List.map_nil, List.cons_append, List.nil_append] at hF hin
      cases hxv : hexsV [g1, g2, g3, g4, g5] with
      | none =>
        rw [hxv] at hin
        simp only [bad2034] at hin
        exact ⟨bx ++ [b], by simp [st2034, bad2034, b2034_1, hlt, hc, h52, hF, h76, hE, hw0, hle0, snoc_set, hin]⟩
      | some ms =>
        obtain ⟨x0, x1, x2, x3, x4, rfl, _⟩ := hexsV5 hxv
        rw [hxv] at hin
        cases hdv : decV g6 with
        | none =>
          rw [hdv] at hin
          simp only [bad2034] at hin
          exact ⟨bx ++ [b], by simp [st2034, bad2034, b2034_1, hlt, hc, h52, hF, h76, hE, hw0, hle0, snoc_set, hin]⟩
        | some d =>
          rw [hdv] at hin
          simp only [u64s, List.map_cons, List.map_nil, List.cons_append, List.nil_append, accU] at hin
          refine ⟨bx ++ [.live [.sv (.str (g0.take L1)), .own 32 [.int .u64 (x0 : Int), .int .u64 (x1 : Int), .int .u64 (x2 : Int), .int .u64 (x3 : Int), .int .u64 (x4 : Int), .int .u64 (d : Int)], .sv (.sl [.str p])]], ?_⟩
          clear hxv hdv hE0 hgl hsh2
          cases acc with
          | nil =>
            simp only [accA] at hin
            simp [st2034, b2034_1, hlt, hc, h52, hF, h76, hE, hw0, hle0, snoc_set, hin, hw, accA, RowD.sv, u64s, strs]
          | cons y ys =>
            simp only [List.length_cons] at hl1 hl2
            simp only [accA] at hin
            simp [st2034, b2034_1, hlt, hc, h52, hF, h76, hE, hw0, hle0, snoc_set, hin, hw, accA, RowD.sv, u64s, strs, hl1, hl2]

theorem loop2034 (E : Env) (cf : CallF) (m : Nat) (hm : 10 < m) (h52 : E.pure 89 = some F52) (h76 : E.pure 90 = some F76) (h23 : Has E 91 S123b) (h45 : E.pure 62 = some F45) (xs : List SV) (hxl : xs.length < 1000000) :
    ∀ (rest : List (List UInt8)) (pre acc : List SV) (i k : Nat) (bx : List Box), xs = pre ++ strs rest → i = pre.length → acc.length = i → (∀ x ∈ rest, x.length < 1000000) → rest.length < k →
      ∃ bx', roundsA (evCA E cf m b2034_1) k (st2034 xs acc i bx) =
        match unTabV rest with
        | some rs => some (.exit 0, { nt := 104, tm := [(5, accA 56 (acc ++ rowsSV rs))], lz := none, bx := bx', df := [] })
        | none => some (.ret, bad2034 bx') := by
  intro rest
  induction rest with
  | nil =>
    intro pre acc i k bx hsp hi _ _ hk
    obtain ⟨k, rfl⟩ : ∃ k', k = k' + 1 := ⟨k - 1, by omega⟩
    have hlt : ¬ (i < xs.length) := by rw [hsp, hi]; simp [strs]
    refine ⟨bx, roundsA_out ?_ (by simp [unTabV])⟩
    simp [b2034_1, st2034, hlt, unTabV, rowsSV]
  | cons c rest ih =>
    intro pre acc i k bx hsp hi ha hr hk
    obtain ⟨k, rfl⟩ : ∃ k', k = k' + 1 := ⟨k - 1, by omega⟩
    have hlt : i < xs.length := by rw [hsp, hi]; simp [strs]
    have hc : ∀ h : i < xs.length, xs[i]'h = .str c := by subst hi; subst hsp; simp [strs]
    obtain ⟨bx1, hst⟩ := step2034 E cf m hm h52 h76 h23 h45 xs acc (by omega) i hlt (by omega) c (hr c (by simp)) hc bx
    simp only [unTabV]
    cases hv : unLineV (fieldsL c) with
    | none =>
      rw [hv] at hst
      exact ⟨bx1, roundsA_out hst (by simp)⟩
    | some r =>
      rw [hv] at hst
      obtain ⟨bx', he⟩ := ih (pre ++ [.str c]) (acc ++ [r.sv]) (i + 1) k bx1 (by rw [hsp]; simp [strs]) (by simp [hi]) (by simp [ha]) (fun x hx => hr x (by simp [hx])) (by simp at hk; omega)
      refine ⟨bx', ?_⟩
      rw [roundsA_step hst, he]
      cases unTabV rest with
      | none => rfl
      | some rs => simp [rowsSV]

theorem unLineV_fit {f : List (List UInt8)} {r : RowD} {B : Nat} (hB : B < 2147483648) (h : unLineV f = some r) (hf : ∀ x ∈ f, x.length ≤ B) : r.fits3 := by
  unfold unLineV at h
  by_cases hc : (f.length = 7 ∨ f.length = 8) ∧ endsC (skFld f 0) = true
  rotate_left
  · rw [if_neg hc] at h; cases h
  rw [if_pos hc] at h
  split at h <;> try (simp at h; done)
  rename_i hs hx
  split at h <;> try (simp at h; done)
  rename_i d hd
  simp only [Option.some.injEq] at h
  subst h
  obtain ⟨y1, y2, y3, y4, y5, hl, k1, k2, k3, k4, k5⟩ := hexsV5 hx
  subst hl
  have e1 := (hexV_spec k1).2.2.1; have e2 := (hexV_spec k2).2.2.1; have e3 := (hexV_spec k3).2.2.1; have e4 := (hexV_spec k4).2.2.1; have e5 := (hexV_spec k5).2.2.1
  have e6 := decV_lt hd
  have h0 : (skFld f 0).length ≤ B := by
    unfold skFld
    rw [List.getD_eq_getElem?_getD]
    cases hg : f[0]? with
    | none => simp
    | some x => exact hf x (List.mem_of_getElem? hg)
  refine ⟨by simp; omega, by simp, fun n hn => ?_, by simp; omega, fun s hs => ?_⟩
  · simp only [List.cons_append, List.nil_append, List.mem_cons, List.not_mem_nil, or_false] at hn
    rcases hn with rfl | rfl | rfl | rfl | rfl | rfl <;> assumption
  · have := hf s (List.mem_of_mem_drop hs); omega

theorem unTabV_fit {B : Nat} (hB : B < 2147483648) : ∀ {ls : List (List UInt8)} {rs : List RowD}, unTabV ls = some rs → (∀ s ∈ ls, s.length ≤ B) → rs.length = ls.length ∧ ∀ r ∈ rs, r.fits3
  | [], rs, h, _ => by simp only [unTabV, Option.some.injEq] at h; subst h; simp
  | s :: ls, rs, h, hl => by
    simp only [unTabV] at h
    cases hv : unLineV (fieldsL s) with
    | none => rw [hv] at h; simp at h
    | some r =>
      rw [hv] at h
      cases ht : unTabV ls with
      | none => rw [ht] at h; simp at h
      | some q =>
        rw [ht] at h
        simp only [Option.some.injEq] at h
        subst h
        obtain ⟨i1, i2⟩ := unTabV_fit hB ht (fun s hs => hl s (by simp [hs]))
        have hs := hl s (by simp)
        have hr := unLineV_fit hB hv (fun x hx => by
          obtain ⟨_, _, k2⟩ := fieldsV_shape s
          have := k2 x hx; omega)
        refine ⟨by simp [i1], fun q' hq => ?_⟩
        rcases List.mem_cons.1 hq with rfl | hq
        · exact hr
        · exact i2 q' hq

theorem unRows_fit {t : List UInt8} {rs : List RowD} (h : unTabV (linesL t) = some rs) (ht : t.length ≤ 40000) : rs.length ≤ 40001 ∧ rowsFit3 rs := by
  obtain ⟨_, k1, k2⟩ := linesV_shape t
  obtain ⟨g1, g2⟩ := unTabV_fit (B := 40000) (by omega) h (fun x hx => by have := k2 x hx; omega)
  exact ⟨by omega, by omega, g2⟩

def S2034 (F : List SV → Option AV) : Prop := ∀ s : List UInt8, s.length ≤ 40000 → match unRead s with
  | some rs => F [.str s] = some (.sv (.tup [.sl (rowsSV rs), .bool true, .int .i64 1])) ∧ rowsFit3 rs ∧ ∀ r ∈ rs, unOk r = true
  | none => ∃ l b, F [.str s] = some (.sv (.tup [.sl l, .bool b, .int .i64 2]))

set_option maxHeartbeats 4000000 in
theorem ev2034 (E : Env) (h : E.code 34 = some c2034) (h78 : E.pure 88 = some F78) (h30 : E.pure 47 = some F30) (h28 : E.pure 45 = some F28) (h52 : E.pure 89 = some F52) (h76 : E.pure 90 = some F76) (h23 : Has E 91 S123b) (h45 : E.pure 62 = some F45) (h81 : Has E 81 S2081) (h50 : E.pure 92 = some F1050) : S2034 (autoF E 34) := by
  obtain ⟨FF, hpF, hFF⟩ := h81
  intro s hs
  have e78 := F78_eq s (by omega)
  have e30 : F30 [.str s, .str unHead] = some (.sv (.bool (decide (unHead.length ≤ s.length) && (s.take unHead.length == unHead)))) := rfl
  have e28 := F28_eq (s.drop 56) (by simp; omega)
  have hh : unHead.length = 56 := rfl
  unfold unRead
  rw [hh] at e30
  have bad : ∀ l b, (∃ n, evPA E n 34 [.str s] = some (.sv (.tup [.sl l, .bool b, .int .i64 2]))) → ∃ l b, autoF E 34 [.str s] = some (.sv (.tup [.sl l, .bool b, .int .i64 2])) := fun l b ⟨n, hn⟩ => ⟨l, b, autoA_sv hn rfl⟩
  by_cases hp : s.all plainC = true
  rotate_left
  · have hp' : s.all plainC = false := by simpa using hp
    rw [if_neg (fun hc => hp hc.1)]
    rw [hp'] at e78
    refine bad [] false ⟨1, ?_⟩
    unfold evPA
    simp only [h]
    simp [c2034, h78, e78]
  rw [hp] at e78
  by_cases ht : s.take 56 = unHead
  rotate_left
  · rw [if_neg (fun hc => ht hc.2)]
    have e : (decide (56 ≤ s.length) && (s.take 56 == unHead)) = false := by simp [ht]
    rw [e] at e30
    simp only [unHead, unHeadL, List.cons_append, List.nil_append] at e30
    refine bad [] false ⟨1, ?_⟩
    unfold evPA
    simp only [h]
    simp [c2034, h78, e78, h30, e30]
  rw [if_pos ⟨hp, ht⟩]
  have hl : 56 ≤ s.length := by
    have := congrArg List.length ht
    rw [List.length_take, hh] at this
    omega
  have e : (decide (56 ≤ s.length) && (s.take 56 == unHead)) = true := by simp [ht, hl]
  rw [e] at e30
  simp only [unHead, unHeadL, List.cons_append, List.nil_append] at e30
  have hdl : (s.drop 56).length ≤ 40000 := by simp; omega
  have hdl2 : (s.drop 56).length ≤ s.length := by simp
  have hsub : (56 : Int) ≤ (s.length : Int) := by omega
  generalize ht' : s.drop 56 = t at *
  obtain ⟨_, k1, k2⟩ := linesV_shape t
  obtain ⟨bx', hlp⟩ := loop2034 E (evF E (s.length + 12)) (s.length + 12) (by omega) h52 h76 h23 h45 (strs (linesL t)) (by rw [strs_length]; omega) (linesL t) [] [] 0 (s.length + 12) [] rfl rfl rfl (fun x hx => by have := k2 x hx; omega) (by omega)
  have hfit := @unRows_fit t
  generalize linesL t = ls at *
  simp only [st2034, accA, List.nil_append] at hlp
  have hcast : ((0 : Nat) : Int) = 0 := rfl
  rw [hcast] at hlp
  cases hv : unTabV ls with
  | none =>
    rw [hv] at hlp
    simp only [bad2034] at hlp
    refine bad [] false ⟨s.length + 12, ?_⟩
    unfold evPA
    simp only [h]
    simp [c2034, h78, e78, h30, e30, hsub, ht', h28, e28, hlp]
  | some rs =>
    rw [hv] at hlp
    obtain ⟨f1, f2⟩ := hfit hv hdl
    have hF := hFF rs f2
    simp only at hlp ⊢
    have hall : ∀ q : Bool, rs.all unOk = q → autoF E 34 [.str s] = some (.sv (.tup [.sl (rowsSV rs), .bool true, .int .i64 (if q then 1 else 2)])) := by
      intro q hq
      rw [hq] at hF
      refine autoA_sv (n := s.length + 12) ?_ rfl
      unfold evPA
      simp only [h]
      generalize rowsSV rs = R at *
      cases R with
      | nil =>
        simp only [accA] at hlp
        cases q <;> simp [c2034, h78, e78, h30, e30, hsub, ht', h28, e28, hlp, hpF, hF, h50, F1050]
      | cons y ys =>
        simp only [accA] at hlp
        cases q <;> simp [c2034, h78, e78, h30, e30, hsub, ht', h28, e28, hlp, hpF, hF, h50, F1050]
    cases ha : rs.all unOk with
    | false =>
      have := hall false ha
      rw [if_neg (by simp)]
      exact ⟨_, _, this⟩
    | true =>
      have := hall true ha
      rw [if_pos rfl]
      exact ⟨this, f2, List.all_eq_true.1 ha⟩

end Go.Ev

set_option linter.unusedSimpArgs false
set_option linter.unusedVariables false
namespace Go.Ev
open Go.Proofs

theorem castI2 : ((2 : Nat) : Int) = 2 := rfl
theorem castI4 : ((4 : Nat) : Int) = 4 := rfl
theorem castI5 : ((5 : Nat) : Int) = 5 := rfl
theorem castI8 : ((8 : Nat) : Int) = 8 := rfl
theorem castI32 : ((32 : Nat) : Int) = 32 := rfl

def cnt63 (r : RowD) : Bool := r.N.all (fun n => decide (n < 9223372036854775808)) && decide (r.N.length = 9) && decide (r.S.length = 2)

theorem loop1083s (E : Env) (cf : CallF) (xs : List SV) (hs : xs.length < 1000000000000) (m : Nat) (bx : List Box) (a1 a3 a4 : AV) :
    ∀ (rest : List Nat) (pre : List SV) (k : Nat), xs = pre ++ u64s rest → (∀ n ∈ rest, n < 18446744073709551616) → rest.length < k →
      rounds (evC E cf m b1083_0) k { tm := [.sv .undef, a1, .sv (.int .i64 63), a3, a4, .sv .undef, .sv .undef, .sv .undef, .sv .undef, .sv .undef, .sv .undef, .sv .undef, .sv (.sl xs), .sv (.int .i64 xs.length), .sv (.int .i64 pre.length)] ++ List.replicate 23 (.sv .undef), lz := none, bx := bx, df := [] } =
        if rest.all (fun n => decide (n < 9223372036854775808)) = true then some (.exit 0, { tm := [.sv .undef, a1, .sv .undef, a3, a4] ++ List.replicate 33 (.sv .undef), lz := none, bx := bx, df := [] })
        else some (.ret, { tm := List.replicate 8 (.sv .undef) ++ [.sv (.bool false)] ++ List.replicate 29 (.sv .undef), lz := none, bx := bx, df := [] }) := by
  intro rest
  induction rest with
  | nil =>
    intro pre k hsp _ hk
    obtain ⟨k, rfl⟩ : ∃ k', k = k' + 1 := ⟨k - 1, by omega⟩
    have hlt : ¬ (pre.length < xs.length) := by rw [hsp]; simp [u64s]
    refine rounds_out ?_ (by simp)
    simp [b1083_0, List.replicate, hlt]
  | cons c rest ih =>
    intro pre k hsp hr hk
    obtain ⟨k, rfl⟩ : ∃ k', k = k' + 1 := ⟨k - 1, by omega⟩
    have hlt : pre.length < xs.length := by rw [hsp]; simp [u64s]
    have hc : ∀ h : pre.length < xs.length, xs[pre.length]'h = .int .u64 (c : Int) := by subst hsp; simp [u64s]
    have hw2 : IntKind.i64.wrap ((pre.length : Int) + 1) = ((pre ++ [SV.int .u64 (c : Int)]).length : Int) := by rw [IntKind.wrap_i64]; simp; omega
    have w1 : IntKind.i64.wrap 62 = 62 := by decide
    have w0 : IntKind.u64.bits = 64 := rfl
    have w2 : IntKind.u64.wrap 4611686018427387904 = 4611686018427387904 := by decide
    have w3 : IntKind.u64.wrap 9223372036854775808 = 9223372036854775808 := by decide
    have w4 : IntKind.u64.wrap 9223372036854775807 = 9223372036854775807 := by decide
    by_cases h1 : c < 9223372036854775808
    · have e : ¬ (9223372036854775807 : Int) < (c : Int) := by omega
      have := ih (pre ++ [.int .u64 (c : Int)]) k (by rw [hsp]; simp [u64s]) (fun n hn => hr n (by simp [hn])) (by simp at hk; omega)
      rw [show (c :: rest).all (fun n => decide (n < 9223372036854775808)) = rest.all (fun n => decide (n < 9223372036854775808)) from by simp [h1], ← this]
      refine rounds_step ?_
      simp [b1083_0, List.replicate, hlt, hc, e, hw2, w0, w1, w2, w3, w4]
    · have e : (9223372036854775807 : Int) < (c : Int) := by omega
      rw [if_neg (by simp [h1])]
      refine rounds_out ?_ (by simp)
      simp [b1083_0, List.replicate, hlt, hc, e, w0, w1, w2, w3, w4]

def S1083s (F : List SV → Option AV) : Prop := ∀ r : RowD, r.fits3 → F [.agg [.str r.name, .sl (u64s r.N), .sl (strs r.S)], .int .i64 9, .int .i64 63, .int .i64 2] = some (.sv (.bool (cnt63 r)))

theorem ev1083s (E : Env) (h : E.code 158 = some c1083) : S1083s (autoF E 158) := by
  intro r hr
  obtain ⟨n, hn⟩ : ∃ n, r.N.length < n := ⟨r.N.length + 1, by omega⟩
  refine autoF_sv (n := n) ?_ rfl
  unfold evP
  simp only [h]
  obtain ⟨name, N, S⟩ := r
  simp only at hn
  have hsl : (u64s N).length = N.length := u64s_length N
  have hst : (strs S).length = S.length := strs_length S
  have hl := loop1083s E (evF E n) (u64s N) (by rw [hsl]; have := hr.2.1; simp only at this; omega) n [.live [.sv (.str name), .sv (.sl (u64s N)), .sv (.sl (strs S))]] (.sv (.int .i64 9)) (.sv (.int .i64 2)) (.ptr 0 0) N [] n rfl hr.2.2.1 hn
  simp only [List.replicate, List.cons_append, List.nil_append, List.length_nil, Int.ofNat_zero, Int.natCast_zero, hsl] at hl
  have b1 : ((N.length : Int) == 9) = decide (N.length = 9) := by rw [Bool.eq_iff_iff]; simp; omega
  have b2 : ((S.length : Int) == 2) = decide (S.length = 2) := by rw [Bool.eq_iff_iff]; simp; omega
  simp only [cnt63]
  cases hv : N.all (fun n => decide (n < 9223372036854775808)) with
  | false => simp only [hv, Bool.false_eq_true, if_false] at hl; simp [c1083, List.replicate, hl, hsl]
  | true =>
    simp only [hv, if_true] at hl
    by_cases h1 : N.length = 9
    · have e1 : ((N.length : Nat) : Int) = 9 := by omega
      rw [e1] at hl
      simp [c1083, List.replicate, hl, hsl, hst, b1, b2, h1]
    · simp [c1083, List.replicate, hl, hsl, hst, b1, b2, h1]

/-! ### The bytes of an address -/

end Go.Ev

set_option linter.unusedSimpArgs false
set_option linter.unusedVariables false
namespace Go.Ev
open Go.Proofs

/-- The state at the head of the loop over the rows. -/
def st1068 (d : Bool) (xs : List SV) (i : Nat) (bx : List Box) : SA := { nt := 135, tm := [(12, .sv (.int .i64 i)), (11, .sv (.int .i64 xs.length)), (10, .sv (.sl xs)), (1, .sv (.bool d))], lz := none, bx := bx, df := [] }

def bad1068 (bx : List Box) : SA := { nt := 135, tm := [(4, .sv (.bool false))], lz := none, bx := bx, df := [] }

def end1068 (bx : List Box) : SA := { nt := 135, tm := [], lz := none, bx := bx, df := [] }

theorem cnt63_spec {r : RowD} (h : cnt63 r = true) : ∃ n0 n1 n2 n3 n4 n5 n6 n7 n8 a b, r.N = [n0, n1, n2, n3, n4, n5, n6, n7, n8] ∧ r.S = [a, b] ∧ (∀ n ∈ r.N, n < 9223372036854775808) := by
  obtain ⟨nm, N, S⟩ := r
  simp only [cnt63, Bool.and_eq_true, decide_eq_true_eq, List.all_eq_true] at h
  obtain ⟨⟨h1, h2⟩, h3⟩ := h
  match N, S, h2, h3 with
  | [n0, n1, n2, n3, n4, n5, n6, n7, n8], [a, b], _, _ => exact ⟨n0, n1, n2, n3, n4, n5, n6, n7, n8, a, b, rfl, rfl, h1⟩

theorem skOk_cnt {d : Bool} {r : RowD} (h : skOk d r = true) : cnt63 r = true := by
  obtain ⟨n0, n1, n2, n3, n4, n5, n6, n7, n8, a, b, hs⟩ := skOk_spec h
  have := hs.h0; have := hs.h1; have := hs.h2; have := hs.h3; have := hs.h4; have := hs.h5; have := hs.h6; have := hs.h7; have := hs.h8
  simp only [cnt63, hs.hN, hs.hS, Bool.and_eq_true, decide_eq_true_eq, List.all_eq_true, List.length_cons, List.length_nil, and_true, List.mem_cons, List.not_mem_nil, or_false]
  intro n hn
  rcases hn with rfl | rfl | rfl | rfl | rfl | rfl | rfl | rfl | rfl <;> omega

theorem skOk_eq (d : Bool) (nm : List UInt8) (n0 n1 n2 n3 n4 n5 n6 n7 n8 : Nat) (a b : List UInt8) : skOk d ⟨nm, [n0, n1, n2, n3, n4, n5, n6, n7, n8], [a, b]⟩ =
    (decide (n0 < 2147483648) && decide (n1 < 65536) && decide (n2 < 65536) && decide (1 ≤ n3) && decide (n3 ≤ 12) && decide (n4 < 4294967296) && decide (n5 < 4294967296) && decide (n6 < 4294967296) &&
      decide (n7 < 9223372036854775808) && decide (n8 < 9223372036854775808) && (d || decide (n8 = 0)) && (nm == []) && addrOk a a.length && addrOk b a.length) := rfl

end Go.Ev

set_option linter.unusedSimpArgs false
set_option linter.unusedVariables false
namespace Go.Ev
open Go.Proofs

def stA1068 (d : Bool) (xs : List SV) (i : Nat) (bx : List Box) (a b : List UInt8) (j p : Nat) : SA := { nt := 135, tm := [(94, .sv (.int .i64 j)), (93, .sv (.int .i64 2)), (92, .sv (.sl [.str a, .str b])), (12, .sv (.int .i64 i)), (11, .sv (.int .i64 xs.length)), (10, .sv (.sl xs)), (6, .ptr p 0), (1, .sv (.bool d))], lz := none, bx := bx, df := [] }

end Go.Ev

set_option linter.unusedSimpArgs false
set_option linter.unusedVariables false
namespace Go.Ev
open Go.Proofs

def S1068 (F : List SV → Option AV) : Prop := ∀ (d : Bool) (l : List RowD), rowsFit3 l → F [.sl (rowsSV l), .bool d] = some (.sv (.bool (l.all (skOk d))))

theorem skOk_false {d : Bool} {r : RowD} (h : cnt63 r = false) : skOk d r = false := by
  cases hk : skOk d r with
  | false => rfl
  | true => rw [skOk_cnt hk] at h; cases h

end Go.Ev

set_option linter.unusedSimpArgs false
set_option linter.unusedVariables false
namespace Go.Ev
open Go.Proofs

def S1069 (F : List SV → Option AV) : Prop := ∀ (d : Bool) (l : List RowD), rowsFit3 l → (∀ r ∈ l, skOk d r = true) → F [.sl (rowsSV l), .bool d] = some (.sv (.str (skText d l)))

def st1069 (d : Bool) (xs : List SV) (out : List UInt8) (i : Nat) (bx : List Box) : SA := { nt := 92, tm := [(11, .sv (.int .i64 i)), (10, .sv (.int .i64 xs.length)), (9, .sv (.sl xs)), (5, .sv (.str out)), (1, .sv (.bool d))], lz := none, bx := bx, df := [] }

theorem skRow_eq {d : Bool} {r : RowD} {n0 n1 n2 n3 n4 n5 n6 n7 n8 : Nat} {a b : List UInt8} (h : SkR d r n0 n1 n2 n3 n4 n5 n6 n7 n8 a b) : r = ⟨[], [n0, n1, n2, n3, n4, n5, n6, n7, n8], [a, b]⟩ := by
  obtain ⟨nm, N, S⟩ := r
  have h1 := h.hN; have h2 := h.hS; have h3 := h.hn
  simp only at h1 h2 h3
  rw [h1, h2, h3]

theorem addS {a b : List UInt8} (h : a.length + b.length < 4611686018427387904) : binSV .add (.str a) (.str b) = some (.str (a ++ b)) := by
  simp only [binSV, h, if_true]

theorem skBody_len {d : Bool} {r : RowD} {n0 n1 n2 n3 n4 n5 n6 n7 n8 : Nat} {a b : List UInt8} (hs : SkR d r n0 n1 n2 n3 n4 n5 n6 n7 n8 a b) : (skBody d r).length ≤ 399 := by
  have b0 := hs.h0; have b1 := hs.h1; have b2 := hs.h2; have b3 := hs.h3; have b4 := hs.h4; have b5 := hs.h5; have b6 := hs.h6; have b7 := hs.h7; have b8 := hs.h8
  have l0 := decS_len20 (n := n0) (by omega); have l6 := decS_len20 (n := n6) (by omega); have l7 := decS_len20 (n := n7) (by omega); have l8 := decS_len20 (n := n8) (by omega)
  have k0 := rightS_len (decS n0) 4; have k6 := rightS_len (decS n6) 5
  have m1 := upS_len (n := n1) (by omega) 4; have m2 := upS_len (n := n2) (by omega) 4; have m3 := upS_len (n := n3) (by omega) 2; have m4 := upS_len (n := n4) (by omega) 8; have m5 := upS_len (n := n5) (by omega) 8
  have la : a.length ≤ 32 := by rcases hs.ha with h | h <;> omega
  have lb : b.length ≤ 32 := by rw [hs.hb]; exact la
  unfold skBody skLast
  simp only [hs.hN, hs.hS]
  cases d <;> simp <;> omega

end Go.Ev

set_option linter.unusedSimpArgs false
set_option linter.unusedVariables false
namespace Go.Ev
open Go.Proofs

/-- A socket's line, but for its path. -/
def unB0 (r : RowD) : List UInt8 := match r.N with
  | [n0, n1, n2, n3, n4, n5] => r.name ++ ([58, 32] ++ (upS n0 8 ++ ([32] ++ (upS n1 8 ++ ([32] ++ (upS n2 8 ++ ([32] ++ (upS n3 4 ++ ([32] ++ (upS n4 2 ++ ([32] ++ (rightS (decS n5) 5))))))))))))
  | _ => []

def pathsS (S : List (List UInt8)) : List UInt8 := (S.map fun s => 32 :: s).flatten

def unBody (r : RowD) : List UInt8 := unB0 r ++ pathsS r.S

def unText (rs : List RowD) : List UInt8 := unHead ++ (rs.map fun r => unBody r ++ [10]).flatten

def st2031 (xs : List SV) (out : List UInt8) (i : Nat) (bx : List Box) : SA := { nt := 78, tm := [(15, .sv (.int .i64 i)), (14, .sv (.int .i64 xs.length)), (13, .sv (.sl xs)), (4, .sv (.str out))], lz := none, bx := bx, df := [] }

def stP2031 (xs : List SV) (out : List UInt8) (i : Nat) (bx : List Box) (ss : List SV) (j : Nat) : SA := { nt := 78, tm := [(65, .sv (.int .i64 j)), (64, .sv (.int .i64 ss.length)), (63, .sv (.sl ss)), (15, .sv (.int .i64 i)), (14, .sv (.int .i64 xs.length)), (13, .sv (.sl xs)), (4, .sv (.str out))], lz := none, bx := bx, df := [] }

theorem loop2031_0 (E : Env) (cf : CallF) (m : Nat) (xs ss : List SV) (i : Nat) (bx : List Box) (hsl : ss.length < 1000000000) :
    ∀ (rest : List (List UInt8)) (pre : List SV) (out : List UInt8) (j k : Nat), ss = pre ++ strs rest → j = pre.length → out.length + (pathsS rest).length < 4611686018427387904 → rest.length < k →
      roundsA (evCA E cf m b2031_0) k (stP2031 xs out i bx ss j) = some (.exit 2, st2031 xs (out ++ pathsS rest) i bx) := by
  intro rest
  induction rest with
  | nil =>
    intro pre out j k hsp hj _ hk
    obtain ⟨k, rfl⟩ : ∃ k', k = k' + 1 := ⟨k - 1, by omega⟩
    have hlt : ¬ (j < ss.length) := by rw [hsp, hj]; simp [strs]
    refine roundsA_out ?_ (by simp)
    simp [b2031_0, stP2031, st2031, hlt, pathsS]
  | cons s rest ih =>
    intro pre out j k hsp hj ho hk
    obtain ⟨k, rfl⟩ : ∃ k', k = k' + 1 := ⟨k - 1, by omega⟩
    have hlt : j < ss.length := by rw [hsp, hj]; simp [strs]
    have hc : ∀ h : j < ss.length, ss[j]'h = .str s := by subst hj; subst hsp; simp [strs]
    have hp : pathsS (s :: rest) = [32] ++ (s ++ pathsS rest) := rfl
    rw [hp] at ho ⊢
    simp only [List.length_append, List.length_singleton] at ho
    have hw : binSV .add (.int .i64 (j : Int)) (.int .i64 1) = some (.int .i64 ((j + 1 : Nat) : Int)) := by
      simp only [binSV, if_true]
      rw [show IntKind.i64.wrap ((j : Int) + 1) = ((j + 1 : Nat) : Int) from by rw [IntKind.wrap_i64]; omega]
    have hlss : binSV .lss (.int .i64 (j : Int)) (.int .i64 (ss.length : Int)) = some (.bool true) := by
      simp only [binSV, if_true, show (j : Int) < (ss.length : Int) from by omega, decide_true]
    obtain ⟨Z1, hZ1⟩ : ∃ z, z = [32] ++ s := ⟨_, rfl⟩
    have y1 : binSV .add (.str [32]) (.str s) = some (.str Z1) := by rw [hZ1]; exact addS (by simp; omega)
    have x1 : Z1.length = 1 + s.length := by rw [hZ1]; simp; omega
    obtain ⟨Z2, hZ2⟩ : ∃ z, z = out ++ Z1 := ⟨_, rfl⟩
    have y2 : binSV .add (.str out) (.str Z1) = some (.str Z2) := by rw [hZ2]; exact addS (by omega)
    have he := ih (pre ++ [.str s]) Z2 (j + 1) k (by rw [hsp]; simp [strs]) (by simp [hj]) (by rw [hZ2, List.length_append]; omega) (by simp at hk; omega)
    rw [show out ++ ([32] ++ (s ++ pathsS rest)) = Z2 ++ pathsS rest from by rw [hZ2, hZ1]; simp only [List.append_assoc], ← he]
    refine roundsA_step ?_
    clear hZ1 hZ2 he
    simp [-binSV, b2031_0, stP2031, hlss, hlt, hc, y1, y2, hw]

set_option maxHeartbeats 16000000 in
theorem step2031 (E : Env) (cf : CallF) (m : Nat) (hm : 3 < m) (h45 : E.pure 62 = some F45) (h46 : Has E 63 S46) (h13 : Has E 82 S1113) (xs : List SV) (r : RowD) (hf : r.fits3) (n0 n2 n3 n4 n5 : Nat) (hr : UnR r n0 n2 n3 n4 n5) (out : List UInt8) (ho : out.length < 1000000000000000000) (i : Nat) (hlt : i < xs.length) (hxl : xs.length < 1000000000)
    (hc : ∀ h : i < xs.length, xs[i]'h = .agg [.str r.name, .sl [.int .u64 (n0 : Int), .int .u64 0, .int .u64 (n2 : Int), .int .u64 (n3 : Int), .int .u64 (n4 : Int), .int .u64 (n5 : Int)], .sl (strs r.S)]) (bx : List Box) :
    evCA E cf m b2031_1 (st2031 xs out i bx) = some (.normal, st2031 xs (out ++ (unBody r ++ [10])) (i + 1) (bx ++ [rowBox r])) := by
  obtain ⟨FR, hpR, hR⟩ := h46
  obtain ⟨FU, hpU, hU⟩ := h13
  obtain ⟨nm, N, S⟩ := r
  obtain ⟨f1, f2, f3, f4, f5⟩ := hf
  obtain ⟨rfl, hS, hx, hl, b0, b2, b3, b4, b5⟩ := hr
  simp only at f1 f2 f3 f4 f5 hS hl hc
  have t5 := F45_eq n5 (by omega)
  have l5 := decS_len20 (n := n5) (by omega)
  have r5 := hR (decS n5) 5 (by omega) (by omega)
  have k5 := rightS_len (decS n5) 5
  have u0 := hU n0 8 (by omega) (by omega); have u1 := hU 0 8 (by omega) (by omega); have u2 := hU n2 8 (by omega) (by omega); have u3 := hU n3 4 (by omega) (by omega); have u4 := hU n4 2 (by omega) (by omega)
  have m0 := upS_len (n := n0) (by omega) 8; have m1 := upS_len (n := 0) (by omega) 8; have m2 := upS_len (n := n2) (by omega) 8; have m3 := upS_len (n := n3) (by omega) 4; have m4 := upS_len (n := n4) (by omega) 2
  have hw : binSV .add (.int .i64 (i : Int)) (.int .i64 1) = some (.int .i64 ((i + 1 : Nat) : Int)) := by
    simp only [binSV, if_true]
    rw [show IntKind.i64.wrap ((i : Int) + 1) = ((i + 1 : Nat) : Int) from by rw [IntKind.wrap_i64]; omega]
  have hlss : binSV .lss (.int .i64 (i : Int)) (.int .i64 (xs.length : Int)) = some (.bool true) := by
    simp only [binSV, if_true, show (i : Int) < (xs.length : Int) from by omega, decide_true]
  have hpl : (pathsS S).length < 3000000000 := by
    rcases hS with rfl | ⟨p, rfl, _⟩
    · simp [pathsS]
    · have := f5 p (by simp)
      simp [pathsS]; omega
  have hbody : unBody ⟨nm, [n0, 0, n2, n3, n4, n5], S⟩ = (nm ++ ([58, 32] ++ (upS n0 8 ++ ([32] ++ (upS 0 8 ++ ([32] ++ (upS n2 8 ++ ([32] ++ (upS n3 4 ++ ([32] ++ (upS n4 2 ++ ([32] ++ (rightS (decS n5) 5))))))))))))) ++ pathsS S := rfl
  rw [hbody]
  have c8 : ((8 : Nat) : Int) = 8 := rfl
  have c4 : ((4 : Nat) : Int) = 4 := rfl
  have c2 : ((2 : Nat) : Int) = 2 := rfl
  have c5 : ((5 : Nat) : Int) = 5 := rfl
  have c0 : ((0 : Nat) : Int) = 0 := rfl
  rw [c8] at u0 u1 u2; rw [c4] at u3; rw [c2] at u4; rw [c5] at r5; rw [c0] at u1
  have hrb : rowBox ⟨nm, [n0, 0, n2, n3, n4, n5], S⟩ = .live [.sv (.str nm), .sv (.sl [.int .u64 (n0 : Int), .int .u64 0, .int .u64 (n2 : Int), .int .u64 (n3 : Int), .int .u64 (n4 : Int), .int .u64 (n5 : Int)]), .sv (.sl (strs S))] := rfl
  rw [hrb]
  generalize rightS (decS n5) 5 = R5 at *
  generalize upS n0 8 = U0 at *
  generalize upS 0 8 = U1 at *
  generalize upS n2 8 = U2 at *
  generalize upS n3 4 = U3 at *
  generalize upS n4 2 = U4 at *
  generalize decS n5 = D5 at *
  clear hbody hR hU hrb c8 c4 c2 c5 c0 f1 f2 f3
  obtain ⟨Z1, hZ1⟩ : ∃ z, z = nm ++ [58, 32] := ⟨_, rfl⟩
  have y1 : binSV .add (.str nm) (.str [58, 32]) = some (.str Z1) := by rw [hZ1]; exact addS (by simp; omega)
  have x1 : Z1.length ≤ 18 := by rw [hZ1, List.length_append]; simp; omega
  obtain ⟨Z2, hZ2⟩ : ∃ z, z = Z1 ++ U0 := ⟨_, rfl⟩
  have y2 : binSV .add (.str Z1) (.str U0) = some (.str Z2) := by rw [hZ2]; exact addS (by omega)
  have x2 : Z2.length ≤ 58 := by rw [hZ2, List.length_append]; omega
  obtain ⟨Z3, hZ3⟩ : ∃ z, z = Z2 ++ [32] := ⟨_, rfl⟩
  have y3 : binSV .add (.str Z2) (.str [32]) = some (.str Z3) := by rw [hZ3]; exact addS (by simp; omega)
  have x3 : Z3.length ≤ 59 := by rw [hZ3, List.length_append]; simp; omega
  obtain ⟨Z4, hZ4⟩ : ∃ z, z = Z3 ++ U1 := ⟨_, rfl⟩
  have y4 : binSV .add (.str Z3) (.str U1) = some (.str Z4) := by rw [hZ4]; exact addS (by omega)
  have x4 : Z4.length ≤ 99 := by rw [hZ4, List.length_append]; omega
  obtain ⟨Z5, hZ5⟩ : ∃ z, z = Z4 ++ [32] := ⟨_, rfl⟩
  have y5 : binSV .add (.str Z4) (.str [32]) = some (.str Z5) := by rw [hZ5]; exact addS (by simp; omega)
  have x5 : Z5.length ≤ 100 := by rw [hZ5, List.length_append]; simp; omega
  obtain ⟨Z6, hZ6⟩ : ∃ z, z = Z5 ++ U2 := ⟨_, rfl⟩
  have y6 : binSV .add (.str Z5) (.str U2) = some (.str Z6) := by rw [hZ6]; exact addS (by omega)
  have x6 : Z6.length ≤ 140 := by rw [hZ6, List.length_append]; omega
  obtain ⟨Z7, hZ7⟩ : ∃ z, z = Z6 ++ [32] := ⟨_, rfl⟩
  have y7 : binSV .add (.str Z6) (.str [32]) = some (.str Z7) := by rw [hZ7]; exact addS (by simp; omega)
  have x7 : Z7.length ≤ 141 := by rw [hZ7, List.length_append]; simp; omega
  obtain ⟨Z8, hZ8⟩ : ∃ z, z = Z7 ++ U3 := ⟨_, rfl⟩
  have y8 : binSV .add (.str Z7) (.str U3) = some (.str Z8) := by rw [hZ8]; exact addS (by omega)
  have x8 : Z8.length ≤ 181 := by rw [hZ8, List.length_append]; omega
  obtain ⟨Z9, hZ9⟩ : ∃ z, z = Z8 ++ [32] := ⟨_, rfl⟩
  have y9 : binSV .add (.str Z8) (.str [32]) = some (.str Z9) := by rw [hZ9]; exact addS (by simp; omega)
  have x9 : Z9.length ≤ 182 := by rw [hZ9, List.length_append]; simp; omega
  obtain ⟨Z10, hZ10⟩ : ∃ z, z = Z9 ++ U4 := ⟨_, rfl⟩
  have y10 : binSV .add (.str Z9) (.str U4) = some (.str Z10) := by rw [hZ10]; exact addS (by omega)
  have x10 : Z10.length ≤ 222 := by rw [hZ10, List.length_append]; omega
  obtain ⟨Z11, hZ11⟩ : ∃ z, z = Z10 ++ [32] := ⟨_, rfl⟩
  have y11 : binSV .add (.str Z10) (.str [32]) = some (.str Z11) := by rw [hZ11]; exact addS (by simp; omega)
  have x11 : Z11.length ≤ 223 := by rw [hZ11, List.length_append]; simp; omega
  obtain ⟨Z12, hZ12⟩ : ∃ z, z = Z11 ++ R5 := ⟨_, rfl⟩
  have y12 : binSV .add (.str Z11) (.str R5) = some (.str Z12) := by rw [hZ12]; exact addS (by omega)
  have x12 : Z12.length ≤ 263 := by rw [hZ12, List.length_append]; omega
  obtain ⟨Z13, hZ13⟩ : ∃ z, z = out ++ Z12 := ⟨_, rfl⟩
  have y13 : binSV .add (.str out) (.str Z12) = some (.str Z13) := by rw [hZ13]; exact addS (by omega)
  have x13 : Z13.length ≤ 1000000000000000000 + 1000 := by rw [hZ13, List.length_append]; omega
  have hsl : (strs S).length < 1000000000 := by rw [strs_length]; rcases hS with rfl | ⟨p, rfl, _⟩ <;> simp
  have hin := loop2031_0 E cf m xs (strs S) i (bx ++ [.live [.sv (.str nm), .sv (.sl [.int .u64 (n0 : Int), .int .u64 0, .int .u64 (n2 : Int), .int .u64 (n3 : Int), .int .u64 (n4 : Int), .int .u64 (n5 : Int)]), .sv (.sl (strs S))]]) hsl S [] Z13 0 m rfl rfl (by omega) (by rcases hS with rfl | ⟨p, rfl, _⟩ <;> simp <;> omega)
  obtain ⟨W, hW⟩ : ∃ z, z = Z13 ++ pathsS S := ⟨_, rfl⟩
  rw [← hW] at hin
  obtain ⟨W2, hW2⟩ : ∃ z, z = W ++ [10] := ⟨_, rfl⟩
  have yW : binSV .add (.str W) (.str [10]) = some (.str W2) := by rw [hW2]; exact addS (by rw [hW]; simp; omega)
  have hfin : out ++ ((nm ++ ([58, 32] ++ (U0 ++ ([32] ++ (U1 ++ ([32] ++ (U2 ++ ([32] ++ (U3 ++ ([32] ++ (U4 ++ ([32] ++ (R5))))))))))))) ++ pathsS S ++ [10]) = W2 := by
    rw [hW2, hW, hZ13, hZ12, hZ11, hZ10, hZ9, hZ8, hZ7, hZ6, hZ5, hZ4, hZ3, hZ2, hZ1]
    simp only [List.append_assoc]
  rw [hfin]
  clear hZ1 hZ2 hZ3 hZ4 hZ5 hZ6 hZ7 hZ8 hZ9 hZ10 hZ11 hZ12 hZ13 hW hW2 hfin x1 x2 x3 x4 x5 x6 x7 x8 x9 x10 x11 x12 x13 hpl k5 l5 m0 m1 m2 m3 m4 b0 b2 b3 b4 b5 hS f4 f5 hl hx hsl
  have hstl := strs_length S
  simp only [stP2031, st2031, List.length_nil, Int.ofNat_zero, Int.natCast_zero] at hin
  generalize strs S = ss at *
  simp [-binSV, st2031, b2031_1, hlss, hlt, hc, hpU, u0, u1, u2, u3, u4, h45, t5, hpR, r5, hin, yW, hw, y1, y2, y3, y4, y5, y6, y7, y8, y9, y10, y11, y12, y13]

def S2031 (F : List SV → Option AV) : Prop := ∀ l : List RowD, rowsFit3 l → F [.sl (rowsSV l)] = some (.sv (.tup (if l.all unOk = true then [.str (unText l), .int .i64 1] else [.str [], .int .i64 2])))

theorem unRow_eq {r : RowD} {n0 n2 n3 n4 n5 : Nat} (h : UnR r n0 n2 n3 n4 n5) : r = ⟨r.name, [n0, 0, n2, n3, n4, n5], r.S⟩ := by
  obtain ⟨nm, N, S⟩ := r
  have h1 := h.hN
  simp only at h1
  rw [h1]

theorem unBody_len {r : RowD} {n0 n2 n3 n4 n5 : Nat} (h : UnR r n0 n2 n3 n4 n5) (hf : r.fits3) : (unBody r ++ [10]).length ≤ 4000000000 := by
  rw [unRow_eq h]
  have b0 := h.h0; have b2 := h.h2; have b3 := h.h3; have b4 := h.h4; have b5 := h.h5; have hl := h.hl
  have m0 := upS_len (n := n0) (by omega) 8; have m1 := upS_len (n := 0) (by omega) 8; have m2 := upS_len (n := n2) (by omega) 8; have m3 := upS_len (n := n3) (by omega) 4; have m4 := upS_len (n := n4) (by omega) 2
  have l5 := decS_len20 (n := n5) (by omega)
  have k5 := rightS_len (decS n5) 5
  have hp : (pathsS r.S).length < 3000000000 := by
    rcases h.hS with e | ⟨p, e, _⟩
    · rw [e]; simp [pathsS]
    · have := hf.2.2.2.2 p (by rw [e]; simp)
      rw [e]; simp [pathsS]; omega
  simp only [unBody, unB0, List.length_append, List.length_cons, List.length_nil]
  omega

theorem loop2031 (E : Env) (cf : CallF) (m : Nat) (hm : 3 < m) (h45 : E.pure 62 = some F45) (h46 : Has E 63 S46) (h13 : Has E 82 S1113) (xs : List SV) (hxl : xs.length < 100000000) :
    ∀ (rest : List RowD) (pre : List SV) (out : List UInt8) (bx : List Box) (i k : Nat), xs = pre ++ rowsSV rest → i = pre.length → (∀ r ∈ rest, unOk r = true ∧ r.fits3) → out.length + rest.length * 4000000000 < 1000000000000000000 → rest.length < k →
      ∃ bx', roundsA (evCA E cf m b2031_1) k (st2031 xs out i bx) = some (.exit 0, { nt := 78, tm := [(4, .sv (.str (out ++ (rest.map fun r => unBody r ++ [10]).flatten)))], lz := none, bx := bx', df := [] }) := by
  intro rest
  induction rest with
  | nil =>
    intro pre out bx i k hsp hi _ _ hk
    obtain ⟨k, rfl⟩ : ∃ k', k = k' + 1 := ⟨k - 1, by omega⟩
    have hlt : ¬ (i < xs.length) := by rw [hsp, hi]; simp [rowsSV]
    refine ⟨bx, roundsA_out ?_ (by simp)⟩
    simp [st2031, b2031_1, hlt]
  | cons r rest ih =>
    intro pre out bx i k hsp hi hr ho hk
    obtain ⟨k, rfl⟩ : ∃ k', k = k' + 1 := ⟨k - 1, by omega⟩
    have hlt : i < xs.length := by rw [hsp, hi]; simp [rowsSV]
    obtain ⟨n0, n2, n3, n4, n5, hu⟩ := unOk_spec (hr r (by simp)).1
    have hlen := unBody_len hu (hr r (by simp)).2
    have hN := hu.hN
    have hc : ∀ h : i < xs.length, xs[i]'h = .agg [.str r.name, .sl [.int .u64 (n0 : Int), .int .u64 0, .int .u64 (n2 : Int), .int .u64 (n3 : Int), .int .u64 (n4 : Int), .int .u64 (n5 : Int)], .sl (strs r.S)] := by subst hi; subst hsp; simp [rowsSV, RowD.sv, hN, u64s]
    simp only [List.length_cons, Nat.add_mul, Nat.one_mul] at ho
    have hst := step2031 E cf m hm h45 h46 h13 xs r (hr r (by simp)).2 n0 n2 n3 n4 n5 hu out (by omega) i hlt (by omega) hc bx
    obtain ⟨bx', he⟩ := ih (pre ++ [r.sv]) (out ++ (unBody r ++ [10])) (bx ++ [rowBox r]) (i + 1) k (by rw [hsp]; simp [rowsSV]) (by simp [hi]) (fun q hq => hr q (by simp [hq])) (by rw [List.length_append]; omega) (by simp at hk; omega)
    refine ⟨bx', ?_⟩
    rw [roundsA_step hst, he]
    simp

theorem ev2031 (E : Env) (h : E.code 31 = some c2031) (h81 : Has E 81 S2081) (h45 : E.pure 62 = some F45) (h46 : Has E 63 S46) (h13 : Has E 82 S1113) : S2031 (autoF E 31) := by
  obtain ⟨F, hp, hF⟩ := h81
  intro l hl
  have hF1 := hF l hl
  have hrl : (rowsSV l).length = l.length := by simp [rowsSV]
  refine autoA_sv (n := l.length + 5) ?_ rfl
  unfold evPA
  simp only [h]
  cases hv : l.all unOk with
  | false =>
    rw [hv] at hF1
    rw [if_neg (by simp)]
    generalize rowsSV l = R at *
    simp [c2031, hp, hF1]
  | true =>
    rw [hv] at hF1
    rw [if_pos rfl]
    obtain ⟨bx', he⟩ := loop2031 E (evF E (l.length + 5)) (l.length + 5) (by omega) h45 h46 h13 (rowsSV l) (by rw [hrl]; exact hl.1) l [] unHead [] 0 (l.length + 5) rfl rfl (fun r hr => ⟨List.all_eq_true.1 hv r hr, hl.2 r hr⟩) (by have := hl.1; rw [show unHead.length = 56 from rfl]; omega) (by omega)
    have hT : unHead ++ (l.map fun r => unBody r ++ [10]).flatten = unText l := rfl
    rw [hT] at he
    simp only [st2031, Int.ofNat_zero, Int.natCast_zero, unHead, unHeadL, List.cons_append, List.nil_append] at he
    generalize unText l = T at *
    generalize rowsSV l = R at *
    simp [c2031, hp, hF1, he]

end Go.Ev
