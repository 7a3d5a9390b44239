/- Sockets: the door. -/
/- Tables of sockets: what is fine. -/
/- Tables of sockets: what is fine, whole. -/
/- Tables of sockets: what is fine, whole; the text. -/
/- Tables of sockets: their text. -/
/- Tables of sockets: their text. -/
/- Tables of sockets: addresses, the tree. -/
/- Tables of sockets: the tree. -/
/- Tables of sockets: the reference's reading. -/
/- Tables of sockets: the reference's reading, one line. -/
/- Tables of sockets: the reference's reading, one line. -/
/- Tables of sockets: the reference's reading, whole. -/
/- Sockets: the door, whole. -/
import Derived.Test.YtgonelmeonncpaaGreatDoorCap
import Derived.Test.YtgonelmeonncpaaGreatDoorCaf
import Derived.Test.YtgonelmeonncpaaGreatDoorCao
set_option linter.unusedSimpArgs false
set_option linter.unusedVariables false
namespace Go.Ev
open Go.Proofs

/-- What is known of a line that the reference reads as a socket. -/
structure LineF (d : Bool) (f : List (List UInt8)) (r : RowD) (n0 n1 n2 n3 n4 n5 n6 n7 n8 : Nat) (a b a1 b1 q0 q1 : List UInt8) : Prop where
  len : f.length = if d then 13 else 17
  p0 : partG 58 [] (skFld f 0) = [decS n0, []]
  p1 : partG 58 [] (skFld f 1) = [a, a1]
  p2 : partG 58 [] (skFld f 2) = [b, b1]
  p4 : partG 58 [] (skFld f 4) = [q0, q1]
  x1 : hexV a1 = some n1
  x2 : hexV b1 = some n2
  x3 : hexV (skFld f 3) = some n3
  x4 : hexV q0 = some n4
  x5 : hexV q1 = some n5
  d6 : skFld f 7 = decS n6
  d7 : skFld f 9 = decS n7
  d8 : d = true → skFld f 12 = decS n8

theorem ends_cut {s : List UInt8} (h : endsC s = true) : s = s.take (s.length - 1) ++ [58] := by
  unfold endsC at h
  simp only [Bool.and_eq_true, decide_eq_true_eq, beq_iff_eq] at h
  conv => lhs; rw [← List.take_append_drop (s.length - 1) s, h.2]

theorem decsV4 {a b c e : List UInt8} {l : List Nat} (h : decsV [a, b, c, e] = some l) : ∃ x y z w, l = [x, y, z, w] ∧ decV a = some x ∧ decV b = some y ∧ decV c = some z ∧ decV e = some w := by
  simp only [decsV] at h
  cases ha : decV a with
  | none => rw [ha] at h; simp at h
  | some x =>
    cases hb : decV b with
    | none => rw [ha, hb] at h; simp at h
    | some y =>
      cases hc : decV c with
      | none => rw [ha, hb, hc] at h; simp at h
      | some z =>
        cases he : decV e with
        | none => rw [ha, hb, hc, he] at h; simp at h
        | some w =>
          rw [ha, hb, hc, he] at h
          simp only [Option.some.injEq] at h
          exact ⟨x, y, z, w, h.symm, rfl, rfl, rfl, rfl⟩

theorem hexsV5 {a b c e g : List UInt8} {l : List Nat} (h : hexsV [a, b, c, e, g] = some l) : ∃ x y z w v, l = [x, y, z, w, v] ∧ hexV a = some x ∧ hexV b = some y ∧ hexV c = some z ∧ hexV e = some w ∧ hexV g = some v := by
  simp only [hexsV] at h
  cases ha : hexV a with
  | none => rw [ha] at h; simp at h
  | some x =>
    cases hb : hexV b with
    | none => rw [ha, hb] at h; simp at h
    | some y =>
      cases hc : hexV c with
      | none => rw [ha, hb, hc] at h; simp at h
      | some z =>
        cases he : hexV e with
        | none => rw [ha, hb, hc, he] at h; simp at h
        | some w =>
          cases hg : hexV g with
          | none => rw [ha, hb, hc, he, hg] at h; simp at h
          | some v =>
            rw [ha, hb, hc, he, hg] at h
            simp only [Option.some.injEq] at h
            exact ⟨x, y, z, w, v, h.symm, rfl, rfl, rfl, rfl, rfl⟩

theorem skLine_facts {d : Bool} {f : List (List UInt8)} {r : RowD} (h : skLineV d f = some r) (ho : skOk d r = true) : ∃ n0 n1 n2 n3 n4 n5 n6 n7 n8 a b a1 b1 q0 q1, SkR d r n0 n1 n2 n3 n4 n5 n6 n7 n8 a b ∧ LineF d f r n0 n1 n2 n3 n4 n5 n6 n7 n8 a b a1 b1 q0 q1 := by
  unfold skLineV at h
  by_cases hc : f.length = (if d then 13 else 17) ∧ endsC (skFld f 0) = true
  rotate_left
  · rw [if_neg hc] at h; cases h
  rw [if_pos hc] at h
  obtain ⟨hlen, he⟩ := hc
  generalize hla : (if d then skFld f 12 else [48]) = last at h
  unfold skV at h
  split at h <;> try (simp at h; done)
  rename_i a0 a1 b0 b1 q0 q1 hp1 hp2 hp4
  split at h <;> try (simp at h; done)
  rename_i d0 d1 d2 d3 hd
  split at h <;> try (simp at h; done)
  rename_i h0 h1 h2 h3 h4 hx
  simp only [Option.some.injEq] at h
  subst h
  obtain ⟨x, y, z, w, hl, g0, g6, g7, g8⟩ := decsV4 hd
  simp only [List.cons.injEq, and_true] at hl
  obtain ⟨rfl, rfl, rfl, rfl⟩ := hl
  obtain ⟨y1, y2, y3, y4, y5, hl, k1, k2, k3, k4, k5⟩ := hexsV5 hx
  simp only [List.cons.injEq, and_true] at hl
  obtain ⟨rfl, rfl, rfl, rfl, rfl⟩ := hl
  obtain ⟨n0, n1, n2, n3, n4, n5, n6, n7, n8, a, b, hs⟩ := skOk_spec ho
  have hN := hs.hN
  have hS := hs.hS
  simp only [List.cons.injEq, and_true] at hN hS
  obtain ⟨rfl, rfl, rfl, rfl, rfl, rfl, rfl, rfl, rfl⟩ := hN
  obtain ⟨rfl, rfl⟩ := hS
  refine ⟨_, _, _, _, _, _, _, _, _, _, _, a1, b1, q0, q1, hs, hlen, ?_, hp1, hp2, hp4, k1, k2, k3, k4, k5, (decV_dec g6).symm, (decV_dec g7).symm, fun hdt => ?_⟩
  · rw [ends_cut he, ← decV_dec g0]
    exact partG_two (b := 58) (w := decS _) (v := []) (fun c hc => ((decS_word _).2 c hc).2.1) (by simp)
  · subst hdt
    simp only [if_true] at hla
    rw [hla]
    exact (decV_dec g8).symm

def S1159 (F : List SV → Option AV) : Prop := ∀ (d : Bool) (f : List (List UInt8)) (r : RowD), skLineV d f = some r → skOk d r = true → (∀ x ∈ f, x.length < 1000000) → F [.sl (strs f), .bool d] = some (.sv (.tup [.ref (skCells d r), .nilI]))

theorem ev1159 (E : Env) (h : E.code 225 = some c1159) (h57 : Has E 239 S1157) (h91 : Has E 136 S91) (h69 : Has E 240 S1169) : S1159 (autoF E 225) := by
  obtain ⟨FS, hpS, hS⟩ := h57
  obtain ⟨FP, hpP, hP1, hP2⟩ := h91
  obtain ⟨FI, hpI, hI⟩ := h69
  intro d f r hv ho hx
  obtain ⟨n0, n1, n2, n3, n4, n5, n6, n7, n8, a, b, a1, b1, q0, q1, hs, hf⟩ := skLine_facts hv ho
  obtain ⟨fa, fb⟩ := addrOk_F hs
  have b0 := hs.h0; have b1' := hs.h1; have b2 := hs.h2; have b3 := hs.h3; have b4 := hs.h4; have b5 := hs.h5; have b6 := hs.h6; have b7 := hs.h7; have b8 := hs.h8
  have hlx : ∀ i, (skFld f i).length < 1000000 := fun i => by
    unfold skFld
    rw [List.getD_eq_getElem?_getD]
    cases hg : f[i]? with
    | none => simp
    | some x => exact hx x (List.mem_of_getElem? hg)
  have sp : ∀ i, FS [.str (skFld f i), .str [58]] = some (.sv (.sl (strs (partG 58 [] (skFld f i))))) := fun i => hS 58 (skFld f i) (by have := hlx i; omega)
  have hxx : ∀ {t : List UInt8} {n : Nat}, hexV t = some n → t.length < 1000000 → FP [.str t, .int .i64 16, .int .i64 64] = some (.sv (.tup [.int .u64 (n : Int), .nilI])) := fun {t n} ht hl => by
    obtain ⟨g1, g2, g3, g4, g5⟩ := hexV_spec ht
    rw [g4] at g3 ⊢
    exact hP1 t (by omega) g2 g5 g3
  have hpl : ∀ {i : Nat} {u v : List UInt8}, partG 58 [] (skFld f i) = [u, v] → u.length < 1000000 ∧ v.length < 1000000 := fun {i u v} hp => by
    have k := partG_mem 58 (skFld f i) []
    rw [hp] at k
    have k1 := k u (by simp)
    have k2 := k v (by simp)
    have := hlx i
    simp at k1 k2
    omega
  have s0 := sp 0; have s1 := sp 1; have s2 := sp 2; have s4 := sp 4
  rw [hf.p0] at s0; rw [hf.p1] at s1; rw [hf.p2] at s2; rw [hf.p4] at s4
  simp only [strs, List.map_cons, List.map_nil] at s0 s1 s2 s4
  have p0 := hP2 n0 (by omega)
  have p1 := hxx hf.x1 (hpl hf.p1).2
  have p2 := hxx hf.x2 (hpl hf.p2).2
  have p3 := hxx hf.x3 (hlx 3)
  have p4 := hxx hf.x4 (hpl hf.p4).1
  have p5 := hxx hf.x5 (hpl hf.p4).2
  have p6 := hP2 n6 (by omega)
  have p7 := hP2 n7 (by omega)
  have p8 := hP2 n8 (by omega)
  rw [← hf.d6] at p6
  rw [← hf.d7] at p7
  have ia := hI a fa
  have ib := hI b fb
  have hlen := hf.len
  have hd8 := hf.d8
  refine autoF_sv (n := 1) ?_ rfl
  unfold skCells
  simp only [hs.hN, hs.hS]
  clear sp hxx hpl hlx hx hf hv ho hS hP1 hP2 hI
  cases d with
  | true =>
    rw [← hd8 rfl] at p8
    simp only [if_true] at hlen ⊢
    match f, hlen with
    | [g0, g1, g2, g3, g4, g5, g6, g7, g8, g9, g10, g11, g12], _ =>
      exact core1159_true E h FS FP FI hpS hpP hpI g0 g1 g2 g3 g4 g5 g6 g7 g8 g9 g10 g11 g12 (decS n0) [] a a1 b b1 q0 q1 n0 n1 n2 n3 n4 n5 n6 n7 n8 _ _ s0 s1 s2 s4 p0 p1 p2 p3 p4 p5 p6 p7 p8 ia ib 1
  | false =>
    simp only [Bool.false_eq_true, if_false] at hlen ⊢
    match f, hlen with
    | [g0, g1, g2, g3, g4, g5, g6, g7, g8, g9, g10, g11, g12, g13, g14, g15, g16], _ =>
      exact core1159_false E h FS FP FI hpS hpP hpI g0 g1 g2 g3 g4 g5 g6 g7 g8 g9 g10 g11 g12 g13 g14 g15 g16 (decS n0) [] a a1 b b1 q0 q1 n0 n1 n2 n3 n4 n5 n6 n7 n8 _ _ s0 s1 s2 s4 p0 p1 p2 p3 p4 p5 p6 p7 ia ib 1

end Go.Ev

set_option linter.unusedSimpArgs false
set_option linter.unusedVariables false
namespace Go.Ev
open Go.Proofs

theorem castI2 : ((2 : Nat) : Int) = 2 := rfl
theorem castI4 : ((4 : Nat) : Int) = 4 := rfl
theorem castI5 : ((5 : Nat) : Int) = 5 := rfl
theorem castI8 : ((8 : Nat) : Int) = 8 := rfl
theorem castI32 : ((32 : Nat) : Int) = 32 := rfl

def cnt63 (r : RowD) : Bool := r.N.all (fun n => decide (n < 9223372036854775808)) && decide (r.N.length = 9) && decide (r.S.length = 2)

theorem loop1083s (E : Env) (cf : CallF) (xs : List SV) (hs : xs.length < 1000000000000) (m : Nat) (bx : List Box) (a1 a3 a4 : AV) :
    ∀ (rest : List Nat) (pre : List SV) (k : Nat), xs = pre ++ u64s rest → (∀ n ∈ rest, n < 18446744073709551616) → rest.length < k →
      rounds (evC E cf m b1083_0) k { tm := [.sv .undef, a1, .sv (.int .i64 63), a3, a4, .sv .undef, .sv .undef, .sv .undef, .sv .undef, .sv .undef, .sv .undef, .sv .undef, .sv (.sl xs), .sv (.int .i64 xs.length), .sv (.int .i64 pre.length)] ++ List.replicate 23 (.sv .undef), lz := none, bx := bx, df := [] } =
        if rest.all (fun n => decide (n < 9223372036854775808)) = true then some (.exit 0, { tm := [.sv .undef, a1, .sv .undef, a3, a4] ++ List.replicate 33 (.sv .undef), lz := none, bx := bx, df := [] })
        else some (.ret, { tm := List.replicate 8 (.sv .undef) ++ [.sv (.bool false)] ++ List.replicate 29 (.sv .undef), lz := none, bx := bx, df := [] }) := by
  intro rest
  induction rest with
  | nil =>
    intro pre k hsp _ hk
    obtain ⟨k, rfl⟩ : ∃ k', k = k' + 1 := ⟨k - 1, by omega⟩
    have hlt : ¬ (pre.length < xs.length) := by rw [hsp]; simp [u64s]
    refine rounds_out ?_ (by simp)
    simp [b1083_0, List.replicate, hlt]
  | cons c rest ih =>
    intro pre k hsp hr hk
    obtain ⟨k, rfl⟩ : ∃ k', k = k' + 1 := ⟨k - 1, by omega⟩
    have hlt : pre.length < xs.length := by rw [hsp]; simp [u64s]
    have hc : ∀ h : pre.length < xs.length, xs[pre.length]'h = .int .u64 (c : Int) := by subst hsp; simp [u64s]
    have hw2 : IntKind.i64.wrap ((pre.length : Int) + 1) = ((pre ++ [SV.int .u64 (c : Int)]).length : Int) := by rw [IntKind.wrap_i64]; simp; omega
    have w1 : IntKind.i64.wrap 62 = 62 := by decide
    have w0 : IntKind.u64.bits = 64 := rfl
    have w2 : IntKind.u64.wrap 4611686018427387904 = 4611686018427387904 := by decide
    have w3 : IntKind.u64.wrap 9223372036854775808 = 9223372036854775808 := by decide
    have w4 : IntKind.u64.wrap 9223372036854775807 = 9223372036854775807 := by decide
    by_cases h1 : c < 9223372036854775808
    · have e : ¬ (9223372036854775807 : Int) < (c : Int) := by omega
      have := ih (pre ++ [.int .u64 (c : Int)]) k (by rw [hsp]; simp [u64s]) (fun n hn => hr n (by simp [hn])) (by simp at hk; omega)
      rw [show (c :: rest).all (fun n => decide (n < 9223372036854775808)) = rest.all (fun n => decide (n < 9223372036854775808)) from by simp [h1], ← this]
      refine rounds_step ?_
      simp [b1083_0, List.replicate, hlt, hc, e, hw2, w0, w1, w2, w3, w4]
    · have e : (9223372036854775807 : Int) < (c : Int) := by omega
      rw [if_neg (by simp [h1])]
      refine rounds_out ?_ (by simp)
      simp [b1083_0, List.replicate, hlt, hc, e, w0, w1, w2, w3, w4]

def S1083s (F : List SV → Option AV) : Prop := ∀ r : RowD, r.fits3 → F [.agg [.str r.name, .sl (u64s r.N), .sl (strs r.S)], .int .i64 9, .int .i64 63, .int .i64 2] = some (.sv (.bool (cnt63 r)))

theorem ev1083s (E : Env) (h : E.code 158 = some c1083) : S1083s (autoF E 158) := by
  intro r hr
  obtain ⟨n, hn⟩ : ∃ n, r.N.length < n := ⟨r.N.length + 1, by omega⟩
  refine autoF_sv (n := n) ?_ rfl
  unfold evP
  simp only [h]
  obtain ⟨name, N, S⟩ := r
  simp only at hn
  have hsl : (u64s N).length = N.length := u64s_length N
  have hst : (strs S).length = S.length := strs_length S
  have hl := loop1083s E (evF E n) (u64s N) (by rw [hsl]; have := hr.2.1; simp only at this; omega) n [.live [.sv (.str name), .sv (.sl (u64s N)), .sv (.sl (strs S))]] (.sv (.int .i64 9)) (.sv (.int .i64 2)) (.ptr 0 0) N [] n rfl hr.2.2.1 hn
  simp only [List.replicate, List.cons_append, List.nil_append, List.length_nil, Int.ofNat_zero, Int.natCast_zero, hsl] at hl
  have b1 : ((N.length : Int) == 9) = decide (N.length = 9) := by rw [Bool.eq_iff_iff]; simp; omega
  have b2 : ((S.length : Int) == 2) = decide (S.length = 2) := by rw [Bool.eq_iff_iff]; simp; omega
  simp only [cnt63]
  cases hv : N.all (fun n => decide (n < 9223372036854775808)) with
  | false => simp only [hv, Bool.false_eq_true, if_false] at hl; simp [c1083, List.replicate, hl, hsl]
  | true =>
    simp only [hv, if_true] at hl
    by_cases h1 : N.length = 9
    · have e1 : ((N.length : Nat) : Int) = 9 := by omega
      rw [e1] at hl
      simp [c1083, List.replicate, hl, hsl, hst, b1, b2, h1]
    · simp [c1083, List.replicate, hl, hsl, hst, b1, b2, h1]

/-! ### The bytes of an address -/

theorem loop1068_0 (E : Env) (cf : CallF) (h134 : E.pure 159 = some F134) (m : Nat) (bx : List Box) (s : List UInt8) (hs : s.length < 1000000) (a1 a6 a10 a11 a12 a92 a93 a94 : AV) :
    ∀ (rest pre : List UInt8) (k : Nat), s = pre ++ rest → rest.length < k →
      roundsA (evCA E cf m b1068_0) k { nt := 135, tm := [(118, .sv (.int .i64 pre.length)), (117, .sv (.int .i64 s.length)), (94, a94), (93, a93), (92, a92), (12, a12), (11, a11), (10, a10), (8, .sv (.str s)), (6, a6), (1, a1)], lz := none, bx := bx, df := [] } =
        if rest.all addrC = true then some (.exit 4, { nt := 135, tm := [(94, a94), (93, a93), (92, a92), (12, a12), (11, a11), (10, a10), (6, a6), (1, a1)], lz := none, bx := bx, df := [] })
        else some (.ret, { nt := 135, tm := [(4, .sv (.bool false))], lz := none, bx := bx, df := [] }) := by
  intro rest
  induction rest with
  | nil =>
    intro pre k hsp hk
    obtain ⟨k, rfl⟩ : ∃ k', k = k' + 1 := ⟨k - 1, by omega⟩
    have hlt : ¬ (pre.length < s.length) := by rw [hsp]; simp
    refine roundsA_out ?_ (by simp)
    simp [b1068_0, hlt]
  | cons c rest ih =>
    intro pre k hsp hk
    obtain ⟨k, rfl⟩ : ∃ k', k = k' + 1 := ⟨k - 1, by omega⟩
    have hlt : pre.length < s.length := by rw [hsp]; simp
    have hc : ∀ h : pre.length < s.length, s[pre.length]'h = c := by subst hsp; simp
    have hw2 : IntKind.i64.wrap ((pre.length : Int) + 1) = ((pre ++ [c]).length : Int) := by rw [IntKind.wrap_i64]; simp; omega
    have hc1 : (c.toNat : Int) < 256 := by have := c.toNat_lt; omega
    by_cases h1 : digitV c.toNat ≤ 15
    · have e1 : ¬ (15 : Int) < (digitV c.toNat : Int) := by omega
      by_cases h2 : c.toNat < 97
      · have e2 : ¬ (97 : Int) ≤ (c.toNat : Int) := by omega
        have := ih (pre ++ [c]) k (by rw [hsp]; simp) (by simp at hk; omega)
        rw [show (c :: rest).all addrC = rest.all addrC from by simp [addrC, h1, h2], ← this]
        refine roundsA_step ?_
        simp [b1068_0, hlt, hc, hw2, h134, F134, hc1, e1, e2]
      · have e2 : (97 : Int) ≤ (c.toNat : Int) := by omega
        rw [if_neg (by simp [addrC, h1, h2])]
        refine roundsA_out ?_ (by simp)
        simp [b1068_0, hlt, hc, h134, F134, hc1, e1, e2]
    · have e1 : (15 : Int) < (digitV c.toNat : Int) := by omega
      rw [if_neg (by simp [addrC, h1])]
      refine roundsA_out ?_ (by simp)
      simp [b1068_0, hlt, hc, h134, F134, hc1, e1]

end Go.Ev

set_option linter.unusedSimpArgs false
set_option linter.unusedVariables false
namespace Go.Ev
open Go.Proofs

/-- The state at the head of the loop over the rows. -/
def st1068 (d : Bool) (xs : List SV) (i : Nat) (bx : List Box) : SA := { nt := 135, tm := [(12, .sv (.int .i64 i)), (11, .sv (.int .i64 xs.length)), (10, .sv (.sl xs)), (1, .sv (.bool d))], lz := none, bx := bx, df := [] }

def bad1068 (bx : List Box) : SA := { nt := 135, tm := [(4, .sv (.bool false))], lz := none, bx := bx, df := [] }

def end1068 (bx : List Box) : SA := { nt := 135, tm := [], lz := none, bx := bx, df := [] }

theorem cnt63_spec {r : RowD} (h : cnt63 r = true) : ∃ n0 n1 n2 n3 n4 n5 n6 n7 n8 a b, r.N = [n0, n1, n2, n3, n4, n5, n6, n7, n8] ∧ r.S = [a, b] ∧ (∀ n ∈ r.N, n < 9223372036854775808) := by
  obtain ⟨nm, N, S⟩ := r
  simp only [cnt63, Bool.and_eq_true, decide_eq_true_eq, List.all_eq_true] at h
  obtain ⟨⟨h1, h2⟩, h3⟩ := h
  match N, S, h2, h3 with
  | [n0, n1, n2, n3, n4, n5, n6, n7, n8], [a, b], _, _ => exact ⟨n0, n1, n2, n3, n4, n5, n6, n7, n8, a, b, rfl, rfl, h1⟩

theorem skOk_cnt {d : Bool} {r : RowD} (h : skOk d r = true) : cnt63 r = true := by
  obtain ⟨n0, n1, n2, n3, n4, n5, n6, n7, n8, a, b, hs⟩ := skOk_spec h
  have := hs.h0; have := hs.h1; have := hs.h2; have := hs.h3; have := hs.h4; have := hs.h5; have := hs.h6; have := hs.h7; have := hs.h8
  simp only [cnt63, hs.hN, hs.hS, Bool.and_eq_true, decide_eq_true_eq, List.all_eq_true, List.length_cons, List.length_nil, and_true, List.mem_cons, List.not_mem_nil, or_false]
  intro n hn
  rcases hn with rfl | rfl | rfl | rfl | rfl | rfl | rfl | rfl | rfl <;> omega

theorem skOk_eq (d : Bool) (nm : List UInt8) (n0 n1 n2 n3 n4 n5 n6 n7 n8 : Nat) (a b : List UInt8) : skOk d ⟨nm, [n0, n1, n2, n3, n4, n5, n6, n7, n8], [a, b]⟩ =
    (decide (n0 < 2147483648) && decide (n1 < 65536) && decide (n2 < 65536) && decide (1 ≤ n3) && decide (n3 ≤ 12) && decide (n4 < 4294967296) && decide (n5 < 4294967296) && decide (n6 < 4294967296) &&
      decide (n7 < 9223372036854775808) && decide (n8 < 9223372036854775808) && (d || decide (n8 = 0)) && (nm == []) && addrOk a a.length && addrOk b a.length) := rfl

set_option maxHeartbeats 8000000 in
/-- A row with the wrong counts. -/
theorem step1068_cnt (E : Env) (cf : CallF) (m : Nat) (h83 : Has E 158 S1083s) (d : Bool) (xs : List SV) (r : RowD) (hr : r.fits3) (i : Nat) (hlt : i < xs.length) (hc : ∀ h : i < xs.length, xs[i]'h = .agg [.str r.name, .sl (u64s r.N), .sl (strs r.S)]) (bx : List Box) (hb : cnt63 r = false) :
    evCA E cf m b1068_2 (st1068 d xs i bx) = some (.ret, bad1068 (bx ++ [rowBox r])) := by
  obtain ⟨F, hp, hF⟩ := h83
  have hFr := hF r hr
  rw [hb] at hFr
  simp [st1068, bad1068, b1068_2, hlt, hc, hp, hFr, rowBox]

set_option maxHeartbeats 8000000 in
/-- A row with wrong numbers. -/
theorem step1068_num (E : Env) (cf : CallF) (m : Nat) (h83 : Has E 158 S1083s) (d : Bool) (xs : List SV) (nm : List UInt8) (n0 n1 n2 n3 n4 n5 n6 n7 n8 : Nat) (a b : List UInt8) (hr : RowD.fits3 ⟨nm, [n0, n1, n2, n3, n4, n5, n6, n7, n8], [a, b]⟩) (hcn : cnt63 ⟨nm, [n0, n1, n2, n3, n4, n5, n6, n7, n8], [a, b]⟩ = true) (i : Nat) (hlt : i < xs.length)
    (hc : ∀ h : i < xs.length, xs[i]'h = .agg [.str nm, .sl [.int .u64 (n0 : Int), .int .u64 (n1 : Int), .int .u64 (n2 : Int), .int .u64 (n3 : Int), .int .u64 (n4 : Int), .int .u64 (n5 : Int), .int .u64 (n6 : Int), .int .u64 (n7 : Int), .int .u64 (n8 : Int)], .sl [.str a, .str b]]) (bx : List Box)
    (hb : ¬ (n0 < 2147483648 ∧ n1 < 65536 ∧ n2 < 65536 ∧ 1 ≤ n3 ∧ n3 ≤ 12 ∧ n4 < 4294967296 ∧ n5 < 4294967296 ∧ n6 < 4294967296 ∧ (d = true ∨ n8 = 0) ∧ nm = [])) :
    evCA E cf m b1068_2 (st1068 d xs i bx) = some (.ret, bad1068 (bx ++ [rowBox ⟨nm, [n0, n1, n2, n3, n4, n5, n6, n7, n8], [a, b]⟩])) := by
  obtain ⟨F, hp, hF⟩ := h83
  have hFr := hF _ hr
  rw [hcn] at hFr
  simp only [u64s, strs, List.map_cons, List.map_nil] at hFr
  by_cases c0 : n0 < 2147483648
  rotate_left
  · have e0 : (2147483648 : Int) ≤ (n0 : Int) := by omega
    simp [st1068, bad1068, b1068_2, hlt, hc, hp, hFr, rowBox, u64s, strs, e0]
  have e0 : ¬ (2147483648 : Int) ≤ (n0 : Int) := by omega
  by_cases q1 : n1 < 65536
  rotate_left
  · have e1 : (65536 : Int) ≤ (n1 : Int) := by omega
    simp [st1068, bad1068, b1068_2, hlt, hc, hp, hFr, rowBox, u64s, strs, e0, e1]
  have e1 : ¬ (65536 : Int) ≤ (n1 : Int) := by omega
  by_cases q2 : n2 < 65536
  rotate_left
  · have e2 : (65536 : Int) ≤ (n2 : Int) := by omega
    simp [st1068, bad1068, b1068_2, hlt, hc, hp, hFr, rowBox, u64s, strs, e0, e1, e2]
  have e2 : ¬ (65536 : Int) ≤ (n2 : Int) := by omega
  by_cases q3 : 1 ≤ n3
  rotate_left
  · have e3 : (n3 : Int) < 1 := by omega
    simp [st1068, bad1068, b1068_2, hlt, hc, hp, hFr, rowBox, u64s, strs, e0, e1, e2, e3]
  have e3 : ¬ (n3 : Int) < 1 := by omega
  by_cases q4 : n3 ≤ 12
  rotate_left
  · have e4 : (12 : Int) < (n3 : Int) := by omega
    simp [st1068, bad1068, b1068_2, hlt, hc, hp, hFr, rowBox, u64s, strs, e0, e1, e2, e3, e4]
  have e4 : ¬ (12 : Int) < (n3 : Int) := by omega
  by_cases q5 : n4 < 4294967296
  rotate_left
  · have e5 : (4294967296 : Int) ≤ (n4 : Int) := by omega
    simp [st1068, bad1068, b1068_2, hlt, hc, hp, hFr, rowBox, u64s, strs, e0, e1, e2, e3, e4, e5]
  have e5 : ¬ (4294967296 : Int) ≤ (n4 : Int) := by omega
  by_cases q6 : n5 < 4294967296
  rotate_left
  · have e6 : (4294967296 : Int) ≤ (n5 : Int) := by omega
    simp [st1068, bad1068, b1068_2, hlt, hc, hp, hFr, rowBox, u64s, strs, e0, e1, e2, e3, e4, e5, e6]
  have e6 : ¬ (4294967296 : Int) ≤ (n5 : Int) := by omega
  by_cases q7 : n6 < 4294967296
  rotate_left
  · have e7 : (4294967296 : Int) ≤ (n6 : Int) := by omega
    simp [st1068, bad1068, b1068_2, hlt, hc, hp, hFr, rowBox, u64s, strs, e0, e1, e2, e3, e4, e5, e6, e7]
  have e7 : ¬ (4294967296 : Int) ≤ (n6 : Int) := by omega
  cases d with
  | true =>
    have hnm : nm ≠ [] := fun e => hb ⟨c0, q1, q2, q3, q4, q5, q6, q7, .inl rfl, e⟩
    have e9 : (nm != []) = true := by simpa using hnm
    simp [st1068, bad1068, b1068_2, hlt, hc, hp, hFr, rowBox, u64s, strs, e0, e1, e2, e3, e4, e5, e6, e7, e9, hnm]
  | false =>
    by_cases q8 : n8 = 0
    · have hnm : nm ≠ [] := fun e => hb ⟨c0, q1, q2, q3, q4, q5, q6, q7, .inr q8, e⟩
      have e9 : (nm != []) = true := by simpa using hnm
      subst q8
      simp only [Int.ofNat_zero, Int.natCast_zero] at hFr hc
      simp [st1068, bad1068, b1068_2, hlt, hc, hp, hFr, rowBox, u64s, strs, e0, e1, e2, e3, e4, e5, e6, e7, e9, hnm]
    · have e8 : ((n8 : Int) != 0) = true := by simpa using q8
      simp [st1068, bad1068, b1068_2, hlt, hc, hp, hFr, rowBox, u64s, strs, e0, e1, e2, e3, e4, e5, e6, e7, e8, q8]

end Go.Ev

set_option linter.unusedSimpArgs false
set_option linter.unusedVariables false
namespace Go.Ev
open Go.Proofs

def stA1068 (d : Bool) (xs : List SV) (i : Nat) (bx : List Box) (a b : List UInt8) (j p : Nat) : SA := { nt := 135, tm := [(94, .sv (.int .i64 j)), (93, .sv (.int .i64 2)), (92, .sv (.sl [.str a, .str b])), (12, .sv (.int .i64 i)), (11, .sv (.int .i64 xs.length)), (10, .sv (.sl xs)), (6, .ptr p 0), (1, .sv (.bool d))], lz := none, bx := bx, df := [] }

set_option maxHeartbeats 8000000 in
theorem roundA1068_0 (E : Env) (cf : CallF) (m : Nat) (h134 : E.pure 159 = some F134) (d : Bool) (xs : List SV) (i : Nat) (bx : List Box) (nm : List UInt8) (N : List Nat) (a b : List UInt8) (hm : 40 < m) :
    evCA E cf m b1068_1 (stA1068 d xs i (bx ++ [rowBox ⟨nm, N, [a, b]⟩]) a b 0 bx.length) = if addrOk a a.length = true then some (.normal, stA1068 d xs i (bx ++ [rowBox ⟨nm, N, [a, b]⟩]) a b 1 bx.length) else some (.ret, bad1068 (bx ++ [rowBox ⟨nm, N, [a, b]⟩])) := by
  have hlx : a.length = 8 ∨ a.length = 32 → _ := fun hx => loop1068_0 E cf h134 m (bx ++ [rowBox ⟨nm, N, [a, b]⟩]) a (by omega) (.sv (.bool d)) (.ptr bx.length 0) (.sv (.sl xs)) (.sv (.int .i64 xs.length)) (.sv (.int .i64 i)) (.sv (.sl [.str a, .str b])) (.sv (.int .i64 2)) (.sv (.int .i64 0)) a [] m rfl (by omega)
  simp only [List.length_nil, Int.ofNat_zero, Int.natCast_zero, rowBox, strs, List.map_cons, List.map_nil] at hlx
  have hw : IntKind.i64.wrap 1 = 1 := by decide
  have b8 : ((a.length : Int) != 8) = !decide (a.length = 8) := by rw [Bool.eq_iff_iff]; simp; omega
  have b32 : ((a.length : Int) != 32) = !decide (a.length = 32) := by rw [Bool.eq_iff_iff]; simp; omega
  have ba : ((b.length : Int) != (a.length : Int)) = !decide (b.length = a.length) := by rw [Bool.eq_iff_iff]; simp; omega
  by_cases h8 : a.length = 8
  · have hl := hlx (.inl h8)
    rw [h8] at hl
    simp only [castI8] at hl
    cases hv : a.all addrC with
    | false =>
      rw [if_neg (by simp [addrOk, hv])]
      simp only [hv, Bool.false_eq_true, if_false] at hl
      simp [stA1068, bad1068, b1068_1, hw, b8, b32, ba, rowBox, strs, h8, hl]
    | true =>
      rw [if_pos (by simp [addrOk, hv, h8])]
      simp only [hv, if_true] at hl
      simp [stA1068, bad1068, b1068_1, hw, b8, b32, ba, rowBox, strs, h8, hl]
  · by_cases h32 : a.length = 32
    · have hl := hlx (.inr h32)
      rw [h32] at hl
      simp only [castI32] at hl
      cases hv : a.all addrC with
      | false =>
        rw [if_neg (by simp [addrOk, hv])]
        simp only [hv, Bool.false_eq_true, if_false] at hl
        simp [stA1068, bad1068, b1068_1, hw, b8, b32, ba, rowBox, strs, h8, h32, hl]
      | true =>
        rw [if_pos (by simp [addrOk, hv, h8, h32])]
        simp only [hv, if_true] at hl
        simp [stA1068, bad1068, b1068_1, hw, b8, b32, ba, rowBox, strs, h8, h32, hl]
    · rw [if_neg (by simp [addrOk, h8, h32])]
      simp [stA1068, bad1068, b1068_1, hw, b8, b32, ba, rowBox, strs, h8, h32]

set_option maxHeartbeats 8000000 in
theorem roundA1068_1 (E : Env) (cf : CallF) (m : Nat) (h134 : E.pure 159 = some F134) (d : Bool) (xs : List SV) (i : Nat) (bx : List Box) (nm : List UInt8) (N : List Nat) (a b : List UInt8) (hm : 40 < m) :
    evCA E cf m b1068_1 (stA1068 d xs i (bx ++ [rowBox ⟨nm, N, [a, b]⟩]) a b 1 bx.length) = if addrOk b a.length = true then some (.normal, stA1068 d xs i (bx ++ [rowBox ⟨nm, N, [a, b]⟩]) a b 2 bx.length) else some (.ret, bad1068 (bx ++ [rowBox ⟨nm, N, [a, b]⟩])) := by
  have hlx : b.length = 8 ∨ b.length = 32 → _ := fun hx => loop1068_0 E cf h134 m (bx ++ [rowBox ⟨nm, N, [a, b]⟩]) b (by omega) (.sv (.bool d)) (.ptr bx.length 0) (.sv (.sl xs)) (.sv (.int .i64 xs.length)) (.sv (.int .i64 i)) (.sv (.sl [.str a, .str b])) (.sv (.int .i64 2)) (.sv (.int .i64 1)) b [] m rfl (by omega)
  simp only [List.length_nil, Int.ofNat_zero, Int.natCast_zero, rowBox, strs, List.map_cons, List.map_nil] at hlx
  have hw : IntKind.i64.wrap 2 = 2 := by decide
  have b8 : ((b.length : Int) != 8) = !decide (b.length = 8) := by rw [Bool.eq_iff_iff]; simp; omega
  have b32 : ((b.length : Int) != 32) = !decide (b.length = 32) := by rw [Bool.eq_iff_iff]; simp; omega
  have ba : ((b.length : Int) != (a.length : Int)) = !decide (b.length = a.length) := by rw [Bool.eq_iff_iff]; simp; omega
  by_cases h8 : b.length = 8
  · have hl := hlx (.inl h8)
    rw [h8] at hl
    simp only [castI8] at hl
    by_cases ha : b.length = a.length
    rotate_left
    · have hbb : (b.length == a.length) = false := by simpa using ha
      have hz : ¬ (8 : Int) = (a.length : Int) := by omega
      rw [if_neg (by simp [addrOk, ha])]
      simp [stA1068, bad1068, b1068_1, hw, b8, b32, ba, rowBox, strs, h8, ha, hbb, hz]
    have hz : (8 : Int) = (a.length : Int) := by omega
    cases hv : b.all addrC with
    | false =>
      rw [if_neg (by simp [addrOk, hv])]
      simp only [hv, Bool.false_eq_true, if_false] at hl
      simp [stA1068, bad1068, b1068_1, hw, b8, b32, ba, rowBox, strs, h8, hl, ha, ← hz]
    | true =>
      rw [if_pos (by simp [addrOk, hv, h8, ← ha])]
      simp only [hv, if_true] at hl
      simp [stA1068, bad1068, b1068_1, hw, b8, b32, ba, rowBox, strs, h8, hl, ha, ← hz]
  · by_cases h32 : b.length = 32
    · have hl := hlx (.inr h32)
      rw [h32] at hl
      simp only [castI32] at hl
      by_cases ha : b.length = a.length
      rotate_left
      · have hbb : (b.length == a.length) = false := by simpa using ha
        have hz : ¬ (32 : Int) = (a.length : Int) := by omega
        rw [if_neg (by simp [addrOk, ha])]
        simp [stA1068, bad1068, b1068_1, hw, b8, b32, ba, rowBox, strs, h8, h32, ha, hbb, hz]
      have hz : (32 : Int) = (a.length : Int) := by omega
      cases hv : b.all addrC with
      | false =>
        rw [if_neg (by simp [addrOk, hv])]
        simp only [hv, Bool.false_eq_true, if_false] at hl
        simp [stA1068, bad1068, b1068_1, hw, b8, b32, ba, rowBox, strs, h8, h32, hl, ha, ← hz]
      | true =>
        rw [if_pos (by simp [addrOk, hv, h8, h32, ← ha])]
        simp only [hv, if_true] at hl
        simp [stA1068, bad1068, b1068_1, hw, b8, b32, ba, rowBox, strs, h8, h32, hl, ha, ← hz]
    · rw [if_neg (by simp [addrOk, h8, h32])]
      simp [stA1068, bad1068, b1068_1, hw, b8, b32, ba, rowBox, strs, h8, h32]

theorem loopA1068 (E : Env) (cf : CallF) (m : Nat) (hm : 40 < m) (h134 : E.pure 159 = some F134) (d : Bool) (xs : List SV) (i : Nat) (bx : List Box) (nm : List UInt8) (N : List Nat) (a b : List UInt8) :
    roundsA (evCA E cf m b1068_1) m (stA1068 d xs i (bx ++ [rowBox ⟨nm, N, [a, b]⟩]) a b 0 bx.length) =
      if (addrOk a a.length && addrOk b a.length) = true then some (.exit 2, (st1068 d xs i (bx ++ [rowBox ⟨nm, N, [a, b]⟩]))) else some (.ret, bad1068 (bx ++ [rowBox ⟨nm, N, [a, b]⟩])) := by
  obtain ⟨k, rfl⟩ : ∃ k, m = k + 1 + 1 + 1 := ⟨m - 3, by omega⟩
  have h0 := roundA1068_0 E cf (k + 1 + 1 + 1) h134 d xs i bx nm N a b hm
  have h1 := roundA1068_1 E cf (k + 1 + 1 + 1) h134 d xs i bx nm N a b hm
  generalize hM : k + 1 + 1 + 1 = M at h0 h1
  have hend : evCA E cf M b1068_1 (stA1068 d xs i (bx ++ [rowBox ⟨nm, N, [a, b]⟩]) a b 2 bx.length) = some (.exit 2, (st1068 d xs i (bx ++ [rowBox ⟨nm, N, [a, b]⟩]))) := by
    simp [stA1068, st1068, b1068_1]
  rw [show roundsA (evCA E cf M b1068_1) M = roundsA (evCA E cf M b1068_1) (k + 1 + 1 + 1) from by rw [hM]]
  cases ha : addrOk a a.length with
  | false =>
    rw [ha, if_neg (by simp)] at h0
    rw [if_neg (by simp), roundsA_out h0 (by simp)]
  | true =>
    rw [ha, if_pos rfl] at h0
    rw [roundsA_step h0]
    cases hb : addrOk b a.length with
    | false =>
      rw [hb, if_neg (by simp)] at h1
      rw [if_neg (by simp), roundsA_out h1 (by simp)]
    | true =>
      rw [hb, if_pos rfl] at h1
      rw [roundsA_step h1, if_pos (by simp), roundsA_out hend (by simp)]

end Go.Ev

set_option linter.unusedSimpArgs false
set_option linter.unusedVariables false
namespace Go.Ev
open Go.Proofs

/-- Rows as a program can hold them, however many. -/
def rowsFit4 (l : List RowD) : Prop := l.length < 2147483648 ∧ ∀ r ∈ l, r.fits3

theorem rowsFit3.four {l : List RowD} (h : rowsFit3 l) : rowsFit4 l := ⟨by have := h.1; omega, h.2⟩

def S1068 (F : List SV → Option AV) : Prop := ∀ (d : Bool) (l : List RowD), rowsFit4 l → F [.sl (rowsSV l), .bool d] = some (.sv (.bool (l.all (skOk d))))

set_option maxHeartbeats 8000000 in
/-- A row whose counts and numbers are right: its addresses tell. -/
theorem step1068_addr (E : Env) (cf : CallF) (m : Nat) (hm : 40 < m) (h83 : Has E 158 S1083s) (h134 : E.pure 159 = some F134) (d : Bool) (xs : List SV) (nm : List UInt8) (n0 n1 n2 n3 n4 n5 n6 n7 n8 : Nat) (a b : List UInt8) (hr : RowD.fits3 ⟨nm, [n0, n1, n2, n3, n4, n5, n6, n7, n8], [a, b]⟩) (hcn : cnt63 ⟨nm, [n0, n1, n2, n3, n4, n5, n6, n7, n8], [a, b]⟩ = true) (i : Nat) (hlt : i < xs.length) (hxl : xs.length < 10000000000)
    (hc : ∀ h : i < xs.length, xs[i]'h = .agg [.str nm, .sl [.int .u64 (n0 : Int), .int .u64 (n1 : Int), .int .u64 (n2 : Int), .int .u64 (n3 : Int), .int .u64 (n4 : Int), .int .u64 (n5 : Int), .int .u64 (n6 : Int), .int .u64 (n7 : Int), .int .u64 (n8 : Int)], .sl [.str a, .str b]]) (bx : List Box)
    (hb : n0 < 2147483648 ∧ n1 < 65536 ∧ n2 < 65536 ∧ 1 ≤ n3 ∧ n3 ≤ 12 ∧ n4 < 4294967296 ∧ n5 < 4294967296 ∧ n6 < 4294967296 ∧ (d = true ∨ n8 = 0) ∧ nm = [])
    :
    evCA E cf m b1068_2 (st1068 d xs i bx) = if (addrOk a a.length && addrOk b a.length) = true then some (.normal, st1068 d xs (i + 1) (bx ++ [rowBox ⟨nm, [n0, n1, n2, n3, n4, n5, n6, n7, n8], [a, b]⟩])) else some (.ret, bad1068 (bx ++ [rowBox ⟨nm, [n0, n1, n2, n3, n4, n5, n6, n7, n8], [a, b]⟩])) := by
  have hl := loopA1068 E cf m hm h134 d xs i bx nm [n0, n1, n2, n3, n4, n5, n6, n7, n8] a b
  obtain ⟨F, hp, hF⟩ := h83
  have hFr := hF _ hr
  rw [hcn] at hFr
  simp only [u64s, strs, List.map_cons, List.map_nil] at hFr
  obtain ⟨q0, q1, q2, q3, q4, q5, q6, q7, q8, rfl⟩ := hb
  have e0 : ¬ (2147483648 : Int) ≤ (n0 : Int) := by omega
  have e1 : ¬ (65536 : Int) ≤ (n1 : Int) := by omega
  have e2 : ¬ (65536 : Int) ≤ (n2 : Int) := by omega
  have e3 : ¬ (n3 : Int) < 1 := by omega
  have e4 : ¬ (12 : Int) < (n3 : Int) := by omega
  have e5 : ¬ (4294967296 : Int) ≤ (n4 : Int) := by omega
  have e6 : ¬ (4294967296 : Int) ≤ (n5 : Int) := by omega
  have e7 : ¬ (4294967296 : Int) ≤ (n6 : Int) := by omega
  have hw : IntKind.i64.wrap ((i : Int) + 1) = ((i + 1 : Nat) : Int) := by rw [IntKind.wrap_i64]; omega
  simp only [stA1068, Int.ofNat_zero, Int.natCast_zero, rowBox, u64s, strs, List.map_cons, List.map_nil] at hl
  cases hok : addrOk a a.length && addrOk b a.length with
  | false =>
    simp only [hok, Bool.false_eq_true, if_false] at hl ⊢
    simp only [bad1068, rowBox, u64s, strs, List.map_cons, List.map_nil] at hl
    cases d with
    | true => simp [st1068, bad1068, b1068_2, hlt, hc, hp, hFr, rowBox, u64s, strs, e0, e1, e2, e3, e4, e5, e6, e7, hl]
    | false =>
      obtain rfl : n8 = 0 := by simpa using q8
      simp only [Int.ofNat_zero, Int.natCast_zero] at hl hFr hc
      simp [st1068, bad1068, b1068_2, hlt, hc, hp, hFr, rowBox, u64s, strs, e0, e1, e2, e3, e4, e5, e6, e7, hl]
  | true =>
    simp only [hok, if_true] at hl ⊢
    simp only [st1068, rowBox, u64s, strs, List.map_cons, List.map_nil] at hl
    cases d with
    | true => simp [st1068, bad1068, b1068_2, hlt, hc, hp, hFr, rowBox, u64s, strs, e0, e1, e2, e3, e4, e5, e6, e7, hl, hw]
    | false =>
      obtain rfl : n8 = 0 := by simpa using q8
      simp only [Int.ofNat_zero, Int.natCast_zero] at hl hFr hc
      simp [st1068, bad1068, b1068_2, hlt, hc, hp, hFr, rowBox, u64s, strs, e0, e1, e2, e3, e4, e5, e6, e7, hl, hw]

theorem skOk_false {d : Bool} {r : RowD} (h : cnt63 r = false) : skOk d r = false := by
  cases hk : skOk d r with
  | false => rfl
  | true => rw [skOk_cnt hk] at h; cases h

theorem loop1068_2 (E : Env) (cf : CallF) (m : Nat) (hm : 40 < m) (h83 : Has E 158 S1083s) (h134 : E.pure 159 = some F134) (d : Bool) (xs : List SV) (hxl : xs.length < 10000000000) :
    ∀ (rest : List RowD) (pre : List SV) (i : Nat) (bx : List Box) (k : Nat), xs = pre ++ rowsSV rest → i = pre.length → (∀ r ∈ rest, r.fits3) → rest.length < k →
      ∃ bx', roundsA (evCA E cf m b1068_2) k (st1068 d xs i bx) = if rest.all (skOk d) = true then some (.exit 0, end1068 bx') else some (.ret, bad1068 bx') := by
  intro rest
  induction rest with
  | nil =>
    intro pre i bx k hsp hi _ hk
    obtain ⟨k, rfl⟩ : ∃ k', k = k' + 1 := ⟨k - 1, by omega⟩
    have hlt : ¬ (i < xs.length) := by rw [hsp, hi]; simp [rowsSV]
    refine ⟨bx, roundsA_out ?_ (by simp)⟩
    simp [st1068, end1068, b1068_2, hlt]
  | cons r rest ih =>
    intro pre i bx k hsp hi hr hk
    obtain ⟨k, rfl⟩ : ∃ k', k = k' + 1 := ⟨k - 1, by omega⟩
    have hlt : i < xs.length := by rw [hsp, hi]; simp [rowsSV]
    have hc : ∀ h : i < xs.length, xs[i]'h = .agg [.str r.name, .sl (u64s r.N), .sl (strs r.S)] := by subst hi; subst hsp; simp [rowsSV, RowD.sv]
    have hrf := hr r (by simp)
    cases hcn : cnt63 r with
    | false =>
      refine ⟨bx ++ [rowBox r], ?_⟩
      rw [if_neg (by simp [skOk_false hcn])]
      exact roundsA_out (step1068_cnt E cf m h83 d xs r hrf i hlt hc bx hcn) (by simp)
    | true =>
      obtain ⟨n0, n1, n2, n3, n4, n5, n6, n7, n8, a, b, hN, hS, hbd⟩ := cnt63_spec hcn
      obtain ⟨nm, N, S⟩ := r
      simp only at hN hS
      subst hN; subst hS
      simp only [u64s, strs, List.map_cons, List.map_nil] at hc
      have hskr := skOk_eq d nm n0 n1 n2 n3 n4 n5 n6 n7 n8 a b
      have h7 := hbd n7 (by simp)
      have h8 := hbd n8 (by simp)
      by_cases hb : n0 < 2147483648 ∧ n1 < 65536 ∧ n2 < 65536 ∧ 1 ≤ n3 ∧ n3 ≤ 12 ∧ n4 < 4294967296 ∧ n5 < 4294967296 ∧ n6 < 4294967296 ∧ (d = true ∨ n8 = 0) ∧ nm = []
      · have hst := step1068_addr E cf m hm h83 h134 d xs nm n0 n1 n2 n3 n4 n5 n6 n7 n8 a b hrf hcn i hlt hxl hc bx hb
        obtain ⟨q0, q1, q2, q3, q4, q5, q6, q7, q8, q9⟩ := hb
        have hsk : skOk d ⟨nm, [n0, n1, n2, n3, n4, n5, n6, n7, n8], [a, b]⟩ = (addrOk a a.length && addrOk b a.length) := by
          rw [hskr]
          rcases q8 with q8 | q8
          · simp [q0, q1, q2, q3, q4, q5, q6, q7, q8, q9, h7, h8]
          · simp [q0, q1, q2, q3, q4, q5, q6, q7, q8, q9, h7]
        cases hok : addrOk a a.length && addrOk b a.length with
        | false =>
          rw [hok, if_neg (by simp)] at hst
          refine ⟨bx ++ [rowBox ⟨nm, [n0, n1, n2, n3, n4, n5, n6, n7, n8], [a, b]⟩], ?_⟩
          rw [if_neg (by simp [hsk, hok])]
          exact roundsA_out hst (by simp)
        | true =>
          rw [hok, if_pos rfl] at hst
          obtain ⟨bx', he⟩ := ih (pre ++ [RowD.sv ⟨nm, [n0, n1, n2, n3, n4, n5, n6, n7, n8], [a, b]⟩]) (i + 1) (bx ++ [rowBox ⟨nm, [n0, n1, n2, n3, n4, n5, n6, n7, n8], [a, b]⟩]) k (by rw [hsp]; simp [rowsSV]) (by simp [hi]) (fun q hq => hr q (by simp [hq])) (by simp at hk; omega)
          refine ⟨bx', ?_⟩
          rw [roundsA_step hst, he]
          simp only [List.all_cons, hsk, hok, Bool.true_and]
      · refine ⟨bx ++ [rowBox ⟨nm, [n0, n1, n2, n3, n4, n5, n6, n7, n8], [a, b]⟩], ?_⟩
        have hsk : skOk d ⟨nm, [n0, n1, n2, n3, n4, n5, n6, n7, n8], [a, b]⟩ = false := by
          cases hk : skOk d ⟨nm, [n0, n1, n2, n3, n4, n5, n6, n7, n8], [a, b]⟩ with
          | false => rfl
          | true =>
            exfalso
            rw [hskr] at hk
            simp only [Bool.and_eq_true, Bool.or_eq_true, decide_eq_true_eq, beq_iff_eq] at hk
            exact hb ⟨hk.1.1.1.1.1.1.1.1.1.1.1.1.1, hk.1.1.1.1.1.1.1.1.1.1.1.1.2, hk.1.1.1.1.1.1.1.1.1.1.1.2, hk.1.1.1.1.1.1.1.1.1.1.2, hk.1.1.1.1.1.1.1.1.1.2, hk.1.1.1.1.1.1.1.1.2, hk.1.1.1.1.1.1.1.2, hk.1.1.1.1.1.1.2, hk.1.1.1.2, hk.1.1.2⟩
        rw [if_neg (by simp [hsk])]
        exact roundsA_out (step1068_num E cf m h83 d xs nm n0 n1 n2 n3 n4 n5 n6 n7 n8 a b hrf hcn i hlt hc bx hb) (by simp)

theorem ev1068 (E : Env) (h : E.code 70 = some c1068) (h83 : Has E 158 S1083s) (h134 : E.pure 159 = some F134) : S1068 (autoF E 70) := by
  intro d l hf
  have hlen : (rowsSV l).length = l.length := by simp [rowsSV]
  obtain ⟨bx', he⟩ := loop1068_2 E (evF E (l.length + 41)) (l.length + 41) (by omega) h83 h134 d (rowsSV l) (by rw [hlen]; have := hf.1; omega) l [] 0 [] (l.length + 41) rfl rfl hf.2 (by omega)
  refine autoA_sv (n := l.length + 41) ?_ rfl
  unfold evPA
  simp only [h]
  simp only [st1068, Int.ofNat_zero, Int.natCast_zero] at he
  cases hv : l.all (skOk d) with
  | false => simp only [hv, Bool.false_eq_true, if_false, bad1068] at he; simp [c1068, he]
  | true => simp only [hv, if_true, end1068] at he; simp [c1068, he]

end Go.Ev

set_option linter.unusedSimpArgs false
set_option linter.unusedVariables false
namespace Go.Ev
open Go.Proofs

def S1069 (F : List SV → Option AV) : Prop := ∀ (d : Bool) (l : List RowD), rowsFit4 l → (∀ r ∈ l, skOk d r = true) → F [.sl (rowsSV l), .bool d] = some (.sv (.str (skText d l)))

def st1069 (d : Bool) (xs : List SV) (out : List UInt8) (i : Nat) (bx : List Box) : SA := { nt := 92, tm := [(11, .sv (.int .i64 i)), (10, .sv (.int .i64 xs.length)), (9, .sv (.sl xs)), (5, .sv (.str out)), (1, .sv (.bool d))], lz := none, bx := bx, df := [] }

theorem skRow_eq {d : Bool} {r : RowD} {n0 n1 n2 n3 n4 n5 n6 n7 n8 : Nat} {a b : List UInt8} (h : SkR d r n0 n1 n2 n3 n4 n5 n6 n7 n8 a b) : r = ⟨[], [n0, n1, n2, n3, n4, n5, n6, n7, n8], [a, b]⟩ := by
  obtain ⟨nm, N, S⟩ := r
  have h1 := h.hN; have h2 := h.hS; have h3 := h.hn
  simp only at h1 h2 h3
  rw [h1, h2, h3]

theorem addS {a b : List UInt8} (h : a.length + b.length < 4611686018427387904) : binSV .add (.str a) (.str b) = some (.str (a ++ b)) := by
  simp only [binSV, h, if_true]

set_option maxHeartbeats 16000000 in
theorem step1069 (E : Env) (cf : CallF) (m : Nat) (h45 : E.pure 62 = some F45) (h46 : Has E 63 S46) (h13 : Has E 82 S1113) (d : Bool) (xs : List SV) (r : RowD) (n0 n1 n2 n3 n4 n5 n6 n7 n8 : Nat) (a b : List UInt8) (hs : SkR d r n0 n1 n2 n3 n4 n5 n6 n7 n8 a b) (out : List UInt8) (ho : out.length < 1000000000000) (i : Nat) (hlt : i < xs.length) (hxl : xs.length < 10000000000)
    (hc : ∀ h : i < xs.length, xs[i]'h = .agg [.str [], .sl [.int .u64 (n0 : Int), .int .u64 (n1 : Int), .int .u64 (n2 : Int), .int .u64 (n3 : Int), .int .u64 (n4 : Int), .int .u64 (n5 : Int), .int .u64 (n6 : Int), .int .u64 (n7 : Int), .int .u64 (n8 : Int)], .sl [.str a, .str b]]) (bx : List Box) :
    evCA E cf m b1069_0 (st1069 d xs out i bx) = some (.normal, st1069 d xs (out ++ (skBody d r ++ [10])) (i + 1) (bx ++ [rowBox r])) := by
  obtain ⟨FR, hpR, hR⟩ := h46
  obtain ⟨FU, hpU, hU⟩ := h13
  have b0 := hs.h0; have b1 := hs.h1; have b2 := hs.h2; have b3 := hs.h3; have b4 := hs.h4; have b5 := hs.h5; have b6 := hs.h6; have b7 := hs.h7; have b8 := hs.h8
  have t0 := F45_eq n0 (by omega); have t6 := F45_eq n6 (by omega); have t7 := F45_eq n7 (by omega); have t8 := F45_eq n8 (by omega)
  have l0 := decS_len20 (n := n0) (by omega); have l6 := decS_len20 (n := n6) (by omega); have l7 := decS_len20 (n := n7) (by omega); have l8 := decS_len20 (n := n8) (by omega)
  have r0 := hR (decS n0) 4 (by omega) (by omega)
  have r6 := hR (decS n6) 5 (by omega) (by omega)
  have k0 := rightS_len (decS n0) 4; have k6 := rightS_len (decS n6) 5
  have u1 := hU n1 4 (by omega) (by omega); have u2 := hU n2 4 (by omega) (by omega); have u3 := hU n3 2 (by omega) (by omega); have u4 := hU n4 8 (by omega) (by omega); have u5 := hU n5 8 (by omega) (by omega)
  have m1 := upS_len (n := n1) (by omega) 4; have m2 := upS_len (n := n2) (by omega) 4; have m3 := upS_len (n := n3) (by omega) 2; have m4 := upS_len (n := n4) (by omega) 8; have m5 := upS_len (n := n5) (by omega) 8
  have la : a.length ≤ 32 := by rcases hs.ha with h | h <;> omega
  have lb : b.length ≤ 32 := by rw [hs.hb]; exact la
  have hw : binSV .add (.int .i64 (i : Int)) (.int .i64 1) = some (.int .i64 ((i + 1 : Nat) : Int)) := by
    simp only [binSV, if_true]
    rw [show IntKind.i64.wrap ((i : Int) + 1) = ((i + 1 : Nat) : Int) from by rw [IntKind.wrap_i64]; omega]
  have hlss : binSV .lss (.int .i64 (i : Int)) (.int .i64 (xs.length : Int)) = some (.bool true) := by
    simp only [binSV, if_true, show (i : Int) < (xs.length : Int) from by omega, decide_true]
  have hbody : skBody d r = rightS (decS n0) 4 ++ ([58, 32] ++ (a ++ ([58] ++ (upS n1 4 ++ ([32] ++ (b ++ ([58] ++ (upS n2 4 ++ ([32] ++ (upS n3 2 ++ ([32] ++ (upS n4 8 ++ ([58] ++ (upS n5 8 ++
      ([32, 48, 48, 58, 48, 48, 48, 48, 48, 48, 48, 48, 32, 48, 48, 48, 48, 48, 48, 48, 48, 32] ++ (rightS (decS n6) 5 ++ ([32, 32, 32, 32, 32, 32, 32, 32, 48, 32] ++ (decS n7 ++ skLast d n8)))))))))))))))))) := by
    unfold skBody
    simp only [hs.hN, hs.hS]
  rw [hbody, skRow_eq hs]
  unfold skLast
  simp only [castI2, castI4, castI5, castI8] at r0 r6 u1 u2 u3 u4 u5
  generalize rightS (decS n0) 4 = A0 at *
  generalize rightS (decS n6) 5 = A6 at *
  generalize upS n1 4 = U1 at *
  generalize upS n2 4 = U2 at *
  generalize upS n3 2 = U3 at *
  generalize upS n4 8 = U4 at *
  generalize upS n5 8 = U5 at *
  generalize decS n0 = D0 at *
  generalize decS n6 = D6 at *
  generalize decS n7 = D7 at *
  generalize decS n8 = D8 at *
  clear hbody hR hU
  obtain ⟨Z1, hZ1⟩ : ∃ z, z = A0 ++ [58, 32] := ⟨_, rfl⟩
  have y1 : binSV .add (.str A0) (.str [58, 32]) = some (.str Z1) := by rw [hZ1]; exact addS (by (try simp only [List.length_cons, List.length_nil]); omega)
  have v1 : Z1.length ≤ 26 := by rw [hZ1, List.length_append]; (try simp only [List.length_cons, List.length_nil]); omega
  obtain ⟨Z2, hZ2⟩ : ∃ z, z = Z1 ++ a := ⟨_, rfl⟩
  have y2 : binSV .add (.str Z1) (.str a) = some (.str Z2) := by rw [hZ2]; exact addS (by (try simp only [List.length_cons, List.length_nil]); omega)
  have v2 : Z2.length ≤ 58 := by rw [hZ2, List.length_append]; (try simp only [List.length_cons, List.length_nil]); omega
  obtain ⟨Z3, hZ3⟩ : ∃ z, z = Z2 ++ [58] := ⟨_, rfl⟩
  have y3 : binSV .add (.str Z2) (.str [58]) = some (.str Z3) := by rw [hZ3]; exact addS (by (try simp only [List.length_cons, List.length_nil]); omega)
  have v3 : Z3.length ≤ 59 := by rw [hZ3, List.length_append]; (try simp only [List.length_cons, List.length_nil]); omega
  obtain ⟨Z4, hZ4⟩ : ∃ z, z = Z3 ++ U1 := ⟨_, rfl⟩
  have y4 : binSV .add (.str Z3) (.str U1) = some (.str Z4) := by rw [hZ4]; exact addS (by (try simp only [List.length_cons, List.length_nil]); omega)
  have v4 : Z4.length ≤ 79 := by rw [hZ4, List.length_append]; (try simp only [List.length_cons, List.length_nil]); omega
  obtain ⟨Z5, hZ5⟩ : ∃ z, z = Z4 ++ [32] := ⟨_, rfl⟩
  have y5 : binSV .add (.str Z4) (.str [32]) = some (.str Z5) := by rw [hZ5]; exact addS (by (try simp only [List.length_cons, List.length_nil]); omega)
  have v5 : Z5.length ≤ 80 := by rw [hZ5, List.length_append]; (try simp only [List.length_cons, List.length_nil]); omega
  obtain ⟨Z6, hZ6⟩ : ∃ z, z = Z5 ++ b := ⟨_, rfl⟩
  have y6 : binSV .add (.str Z5) (.str b) = some (.str Z6) := by rw [hZ6]; exact addS (by (try simp only [List.length_cons, List.length_nil]); omega)
  have v6 : Z6.length ≤ 112 := by rw [hZ6, List.length_append]; (try simp only [List.length_cons, List.length_nil]); omega
  obtain ⟨Z7, hZ7⟩ : ∃ z, z = Z6 ++ [58] := ⟨_, rfl⟩
  have y7 : binSV .add (.str Z6) (.str [58]) = some (.str Z7) := by rw [hZ7]; exact addS (by (try simp only [List.length_cons, List.length_nil]); omega)
  have v7 : Z7.length ≤ 113 := by rw [hZ7, List.length_append]; (try simp only [List.length_cons, List.length_nil]); omega
  obtain ⟨Z8, hZ8⟩ : ∃ z, z = Z7 ++ U2 := ⟨_, rfl⟩
  have y8 : binSV .add (.str Z7) (.str U2) = some (.str Z8) := by rw [hZ8]; exact addS (by (try simp only [List.length_cons, List.length_nil]); omega)
  have v8 : Z8.length ≤ 133 := by rw [hZ8, List.length_append]; (try simp only [List.length_cons, List.length_nil]); omega
  obtain ⟨Z9, hZ9⟩ : ∃ z, z = Z8 ++ [32] := ⟨_, rfl⟩
  have y9 : binSV .add (.str Z8) (.str [32]) = some (.str Z9) := by rw [hZ9]; exact addS (by (try simp only [List.length_cons, List.length_nil]); omega)
  have v9 : Z9.length ≤ 134 := by rw [hZ9, List.length_append]; (try simp only [List.length_cons, List.length_nil]); omega
  obtain ⟨Z10, hZ10⟩ : ∃ z, z = Z9 ++ U3 := ⟨_, rfl⟩
  have y10 : binSV .add (.str Z9) (.str U3) = some (.str Z10) := by rw [hZ10]; exact addS (by (try simp only [List.length_cons, List.length_nil]); omega)
  have v10 : Z10.length ≤ 152 := by rw [hZ10, List.length_append]; (try simp only [List.length_cons, List.length_nil]); omega
  obtain ⟨Z11, hZ11⟩ : ∃ z, z = Z10 ++ [32] := ⟨_, rfl⟩
  have y11 : binSV .add (.str Z10) (.str [32]) = some (.str Z11) := by rw [hZ11]; exact addS (by (try simp only [List.length_cons, List.length_nil]); omega)
  have v11 : Z11.length ≤ 153 := by rw [hZ11, List.length_append]; (try simp only [List.length_cons, List.length_nil]); omega
  obtain ⟨Z12, hZ12⟩ : ∃ z, z = Z11 ++ U4 := ⟨_, rfl⟩
  have y12 : binSV .add (.str Z11) (.str U4) = some (.str Z12) := by rw [hZ12]; exact addS (by (try simp only [List.length_cons, List.length_nil]); omega)
  have v12 : Z12.length ≤ 177 := by rw [hZ12, List.length_append]; (try simp only [List.length_cons, List.length_nil]); omega
  obtain ⟨Z13, hZ13⟩ : ∃ z, z = Z12 ++ [58] := ⟨_, rfl⟩
  have y13 : binSV .add (.str Z12) (.str [58]) = some (.str Z13) := by rw [hZ13]; exact addS (by (try simp only [List.length_cons, List.length_nil]); omega)
  have v13 : Z13.length ≤ 178 := by rw [hZ13, List.length_append]; (try simp only [List.length_cons, List.length_nil]); omega
  obtain ⟨Z14, hZ14⟩ : ∃ z, z = Z13 ++ U5 := ⟨_, rfl⟩
  have y14 : binSV .add (.str Z13) (.str U5) = some (.str Z14) := by rw [hZ14]; exact addS (by (try simp only [List.length_cons, List.length_nil]); omega)
  have v14 : Z14.length ≤ 202 := by rw [hZ14, List.length_append]; (try simp only [List.length_cons, List.length_nil]); omega
  obtain ⟨Z15, hZ15⟩ : ∃ z, z = Z14 ++ [32, 48, 48, 58, 48, 48, 48, 48, 48, 48, 48, 48, 32, 48, 48, 48, 48, 48, 48, 48, 48, 32] := ⟨_, rfl⟩
  have y15 : binSV .add (.str Z14) (.str [32, 48, 48, 58, 48, 48, 48, 48, 48, 48, 48, 48, 32, 48, 48, 48, 48, 48, 48, 48, 48, 32]) = some (.str Z15) := by rw [hZ15]; exact addS (by (try simp only [List.length_cons, List.length_nil]); omega)
  have v15 : Z15.length ≤ 224 := by rw [hZ15, List.length_append]; (try simp only [List.length_cons, List.length_nil]); omega
  obtain ⟨Z16, hZ16⟩ : ∃ z, z = Z15 ++ A6 := ⟨_, rfl⟩
  have y16 : binSV .add (.str Z15) (.str A6) = some (.str Z16) := by rw [hZ16]; exact addS (by (try simp only [List.length_cons, List.length_nil]); omega)
  have v16 : Z16.length ≤ 249 := by rw [hZ16, List.length_append]; (try simp only [List.length_cons, List.length_nil]); omega
  obtain ⟨Z17, hZ17⟩ : ∃ z, z = Z16 ++ [32, 32, 32, 32, 32, 32, 32, 32, 48, 32] := ⟨_, rfl⟩
  have y17 : binSV .add (.str Z16) (.str [32, 32, 32, 32, 32, 32, 32, 32, 48, 32]) = some (.str Z17) := by rw [hZ17]; exact addS (by (try simp only [List.length_cons, List.length_nil]); omega)
  have v17 : Z17.length ≤ 259 := by rw [hZ17, List.length_append]; (try simp only [List.length_cons, List.length_nil]); omega
  obtain ⟨Z18, hZ18⟩ : ∃ z, z = Z17 ++ D7 := ⟨_, rfl⟩
  have y18 : binSV .add (.str Z17) (.str D7) = some (.str Z18) := by rw [hZ18]; exact addS (by (try simp only [List.length_cons, List.length_nil]); omega)
  have v18 : Z18.length ≤ 279 := by rw [hZ18, List.length_append]; (try simp only [List.length_cons, List.length_nil]); omega
  obtain ⟨Y, hY⟩ : ∃ z, z = out ++ Z18 := ⟨_, rfl⟩
  have yY : binSV .add (.str out) (.str Z18) = some (.str Y) := by rw [hY]; exact addS (by omega)
  have vY : Y.length < 1000000001000 := by rw [hY, List.length_append]; omega
  cases d with
  | true =>
    obtain ⟨W1, hW1⟩ : ∃ z, z = [32, 50, 32, 48, 48, 48, 48, 48, 48, 48, 48, 48, 48, 48, 48, 48, 48, 48, 48, 32] ++ D8 := ⟨_, rfl⟩
    have w1 : binSV .add (.str [32, 50, 32, 48, 48, 48, 48, 48, 48, 48, 48, 48, 48, 48, 48, 48, 48, 48, 48, 32]) (.str D8) = some (.str W1) := by rw [hW1]; exact addS (by (try simp only [List.length_cons, List.length_nil]); omega)
    have x1 : W1.length ≤ 40 := by rw [hW1, List.length_append]; (try simp only [List.length_cons, List.length_nil]); omega
    obtain ⟨W2, hW2⟩ : ∃ z, z = W1 ++ [10] := ⟨_, rfl⟩
    have w2 : binSV .add (.str W1) (.str [10]) = some (.str W2) := by rw [hW2]; exact addS (by (try simp only [List.length_cons, List.length_nil]); omega)
    have x2 : W2.length ≤ 41 := by rw [hW2, List.length_append]; (try simp only [List.length_cons, List.length_nil]); omega
    obtain ⟨W3, hW3⟩ : ∃ z, z = Y ++ W2 := ⟨_, rfl⟩
    have w3 : binSV .add (.str Y) (.str W2) = some (.str W3) := by rw [hW3]; exact addS (by omega)
    have e : evCA E cf m b1069_0 (st1069 true xs out i bx) = some (.normal, st1069 true xs W3 (i + 1) (bx ++ [rowBox ⟨[], [n0, n1, n2, n3, n4, n5, n6, n7, n8], [a, b]⟩])) := by
      simp [-binSV, st1069, b1069_0, hlss, hlt, hc, rowBox, u64s, strs, h45, hpR, hpU, t0, t6, t7, t8, r0, r6, u1, u2, u3, u4, u5, hw, y1, y2, y3, y4, y5, y6, y7, y8, y9, y10, y11, y12, y13, y14, y15, y16, y17, y18, yY, w1, w2, w3]
    rw [e, hW3, hW2, hW1, hY, hZ18, hZ17, hZ16, hZ15, hZ14, hZ13, hZ12, hZ11, hZ10, hZ9, hZ8, hZ7, hZ6, hZ5, hZ4, hZ3, hZ2, hZ1]
    simp only [if_true, List.append_assoc]
  | false =>
    obtain ⟨W1, hW1⟩ : ∃ z, z = Y ++ [32, 49, 32, 48, 48, 48, 48, 48, 48, 48, 48, 48, 48, 48, 48, 48, 48, 48, 48, 32, 49, 48, 48, 32, 48, 32, 48, 32, 49, 48, 32, 48, 10] := ⟨_, rfl⟩
    have w1 : binSV .add (.str Y) (.str [32, 49, 32, 48, 48, 48, 48, 48, 48, 48, 48, 48, 48, 48, 48, 48, 48, 48, 48, 32, 49, 48, 48, 32, 48, 32, 48, 32, 49, 48, 32, 48, 10]) = some (.str W1) := by rw [hW1]; exact addS (by (try simp only [List.length_cons, List.length_nil]); omega)
    have e : evCA E cf m b1069_0 (st1069 false xs out i bx) = some (.normal, st1069 false xs W1 (i + 1) (bx ++ [rowBox ⟨[], [n0, n1, n2, n3, n4, n5, n6, n7, n8], [a, b]⟩])) := by
      simp [-binSV, st1069, b1069_0, hlss, hlt, hc, rowBox, u64s, strs, h45, hpR, hpU, t0, t6, t7, t8, r0, r6, u1, u2, u3, u4, u5, hw, y1, y2, y3, y4, y5, y6, y7, y8, y9, y10, y11, y12, y13, y14, y15, y16, y17, y18, yY, w1]
    rw [e, hW1, hY, hZ18, hZ17, hZ16, hZ15, hZ14, hZ13, hZ12, hZ11, hZ10, hZ9, hZ8, hZ7, hZ6, hZ5, hZ4, hZ3, hZ2, hZ1]
    simp only [Bool.false_eq_true, if_false, List.append_assoc]
    rfl

theorem skBody_len {d : Bool} {r : RowD} {n0 n1 n2 n3 n4 n5 n6 n7 n8 : Nat} {a b : List UInt8} (hs : SkR d r n0 n1 n2 n3 n4 n5 n6 n7 n8 a b) : (skBody d r).length ≤ 399 := by
  have b0 := hs.h0; have b1 := hs.h1; have b2 := hs.h2; have b3 := hs.h3; have b4 := hs.h4; have b5 := hs.h5; have b6 := hs.h6; have b7 := hs.h7; have b8 := hs.h8
  have l0 := decS_len20 (n := n0) (by omega); have l6 := decS_len20 (n := n6) (by omega); have l7 := decS_len20 (n := n7) (by omega); have l8 := decS_len20 (n := n8) (by omega)
  have k0 := rightS_len (decS n0) 4; have k6 := rightS_len (decS n6) 5
  have m1 := upS_len (n := n1) (by omega) 4; have m2 := upS_len (n := n2) (by omega) 4; have m3 := upS_len (n := n3) (by omega) 2; have m4 := upS_len (n := n4) (by omega) 8; have m5 := upS_len (n := n5) (by omega) 8
  have la : a.length ≤ 32 := by rcases hs.ha with h | h <;> omega
  have lb : b.length ≤ 32 := by rw [hs.hb]; exact la
  unfold skBody skLast
  simp only [hs.hN, hs.hS]
  cases d <;> simp <;> omega

theorem loop1069 (E : Env) (cf : CallF) (m : Nat) (h45 : E.pure 62 = some F45) (h46 : Has E 63 S46) (h13 : Has E 82 S1113) (d : Bool) (xs : List SV) (hxl : xs.length < 2147483648) :
    ∀ (rest : List RowD) (pre : List SV) (out : List UInt8) (i : Nat) (bx : List Box) (k : Nat), xs = pre ++ rowsSV rest → i = pre.length → out.length ≤ 1000 + i * 400 → (∀ r ∈ rest, skOk d r = true) → rest.length < k →
      ∃ bx', roundsA (evCA E cf m b1069_0) k (st1069 d xs out i bx) = some (.exit 0, { nt := 92, tm := [(5, .sv (.str (out ++ (rest.map fun r => skBody d r ++ [10]).flatten)))], lz := none, bx := bx', df := [] }) := by
  intro rest
  induction rest with
  | nil =>
    intro pre out i bx k hsp hi _ _ hk
    obtain ⟨k, rfl⟩ : ∃ k', k = k' + 1 := ⟨k - 1, by omega⟩
    have hlt : ¬ (i < xs.length) := by rw [hsp, hi]; simp [rowsSV]
    refine ⟨bx, roundsA_out ?_ (by simp)⟩
    simp [st1069, b1069_0, hlt]
  | cons r rest ih =>
    intro pre out i bx k hsp hi ho hr hk
    obtain ⟨k, rfl⟩ : ∃ k', k = k' + 1 := ⟨k - 1, by omega⟩
    have hlt : i < xs.length := by rw [hsp, hi]; simp [rowsSV]
    obtain ⟨n0, n1, n2, n3, n4, n5, n6, n7, n8, a, b, hs⟩ := skOk_spec (hr r (by simp))
    have hreq := skRow_eq hs
    have hc : ∀ h : i < xs.length, xs[i]'h = .agg [.str [], .sl [.int .u64 (n0 : Int), .int .u64 (n1 : Int), .int .u64 (n2 : Int), .int .u64 (n3 : Int), .int .u64 (n4 : Int), .int .u64 (n5 : Int), .int .u64 (n6 : Int), .int .u64 (n7 : Int), .int .u64 (n8 : Int)], .sl [.str a, .str b]] := by subst hi; subst hsp; simp [rowsSV, RowD.sv, hreq, u64s, strs]
    have hst := step1069 E cf m h45 h46 h13 d xs r n0 n1 n2 n3 n4 n5 n6 n7 n8 a b hs out (by omega) i hlt (by omega) hc bx
    have hbl := skBody_len hs
    obtain ⟨bx', he⟩ := ih (pre ++ [r.sv]) (out ++ (skBody d r ++ [10])) (i + 1) (bx ++ [rowBox r]) k (by rw [hsp]; simp [rowsSV]) (by simp [hi]) (by simp; omega) (fun q hq => hr q (by simp [hq])) (by simp at hk; omega)
    refine ⟨bx', ?_⟩
    rw [roundsA_step hst, he]
    simp

theorem ev1069 (E : Env) (h : E.code 71 = some c1069) (h45 : E.pure 62 = some F45) (h46 : Has E 63 S46) (h13 : Has E 82 S1113) : S1069 (autoF E 71) := by
  intro d l hf hok
  have hlen : (rowsSV l).length = l.length := by simp [rowsSV]
  obtain ⟨bx', he⟩ := loop1069 E (evF E (l.length + 1)) (l.length + 1) h45 h46 h13 d (rowsSV l) (by rw [hlen]; exact hf.1) l [] skHead 0 [] (l.length + 1) rfl rfl (by simp [skHead, skHeadL]) hok (by omega)
  refine autoA_sv (n := l.length + 1) ?_ rfl
  unfold evPA
  simp only [h]
  unfold skText
  simp only [st1069, skHead, skHeadL, List.cons_append, List.nil_append, Int.ofNat_zero, Int.natCast_zero] at he ⊢
  generalize (l.map fun r => skBody d r ++ [10]).flatten = o at he ⊢
  simp [c1069, he]

end Go.Ev

set_option linter.unusedSimpArgs false
set_option linter.unusedVariables false
namespace Go.Ev
open Go.Proofs

def S1114 (F : List SV → Option AV) : Prop := ∀ nm : List UInt8, F [.str nm] = some (.sv (nodeV nm 0 false 0 0 0 [] []))

def S35 (F : List SV → Option AV) : Prop := ∀ (nm : List UInt8) (u : Int), F [.str nm, .int .u64 u] = some (.sv (nodeV nm 3 false 0 u 0 [] []))

def S1116 (F : List SV → Option AV) : Prop := ∀ s : List UInt8, addrF s → F [.str s] = some (.sv (.str (addrV s)))

def st1116 (s : List UInt8) (acc : List SV) (i : Nat) (q : Int) : SA := { nt := 37, tm := [(5, .sv (.int .i64 q)), (4, .sv (.int .i64 i)), (3, accA 5 acc), (0, .sv (.str s))], lz := none, bx := [], df := [] }

def st1116' (s : List UInt8) (acc : List SV) (i : Nat) : SA := { nt := 37, tm := [(4, .sv (.int .i64 i)), (3, accA 5 acc), (0, .sv (.str s))], lz := none, bx := [], df := [] }

end Go.Ev

set_option linter.unusedSimpArgs false
set_option linter.unusedVariables false
namespace Go.Ev
open Go.Proofs

theorem box2_get0 (B : List Box) (x y : Box) : (B ++ [x, y])[B.length]? = some x := by simp
theorem box2_get1 (B : List Box) (x y : Box) : (B ++ [x, y])[B.length + 1]? = some y := by
  rw [List.getElem?_append_right (by omega)]; simp
theorem box2_set (B : List Box) (x y z : Box) : (B ++ [x, y]).set (B.length + 1) z = B ++ [x, z] := by
  rw [List.set_append_right _ _ (by omega)]; simp

def S1070 (F : List SV → Option AV) : Prop := ∀ (d : Bool) (l : List RowD), rowsFit3 l → (∀ r ∈ l, skOk d r = true) → F [.sl (rowsSV l), .bool d] = some (.sv (skTree d l))

def st1070 (d : Bool) (xs acc : List SV) (i : Nat) (z : Box) (bx : List Box) : SA := { nt := 83, tm := [(11, .sv (.int .i64 i)), (10, .sv (.int .i64 xs.length)), (9, .sv (.sl xs)), (5, accA 45 acc), (4, .ptr 0 0), (1, .sv (.bool d))], lz := none, bx := z :: bx, df := [] }

end Go.Ev

set_option linter.unusedSimpArgs false
set_option linter.unusedVariables false
namespace Go.Ev
open Go.Proofs

def bad1075 : SA := { nt := 190, tm := [(5, .sv (.bool false)), (4, .sv .nilS)], lz := none, bx := [], df := [] }

theorem len_two {l : List (List UInt8)} (h : l.length = 2) : ∃ a b, l = [a, b] := by
  match l, h with
  | [a, b], _ => exact ⟨a, b, rfl⟩

theorem skV_n {g0 g1 g2 g3 g4 g7 g9 g12 : List UInt8} (h : ¬ ((partG 58 [] g1).length = 2 ∧ (partG 58 [] g2).length = 2 ∧ (partG 58 [] g4).length = 2)) : skV g0 g1 g2 g3 g4 g7 g9 g12 = none := by
  unfold skV
  split
  · rename_i e1 e2 e4
    exact absurd ⟨by rw [e1]; rfl, by rw [e2]; rfl, by rw [e4]; rfl⟩ h
  · rfl

theorem skV_y {g0 g1 g2 g3 g4 g7 g9 g12 a0 a1 b0 b1 q0 q1 : List UInt8} (e1 : partG 58 [] g1 = [a0, a1]) (e2 : partG 58 [] g2 = [b0, b1]) (e4 : partG 58 [] g4 = [q0, q1]) : skV g0 g1 g2 g3 g4 g7 g9 g12 = match decsV [g0.take (g0.length - 1), g7, g9, g12] with
    | some [d0, d1, d2, d3] => (match hexsV [a1, b1, g3, q0, q1] with
      | some [h0, h1, h2, h3, h4] => some ⟨[], [d0, h0, h1, h2, h3, h4, d1, d2, d3], [a0, b0]⟩
      | _ => none)
    | _ => none := by
  unfold skV
  rw [e1, e2, e4]
  rfl

theorem hexsV_five {a b c e g : List UInt8} {l : List Nat} (h : hexsV [a, b, c, e, g] = some l) : ∃ x y z w v, l = [x, y, z, w, v] ∧ True := by
  simp only [hexsV] at h
  cases ha : hexV a with
  | none => rw [ha] at h; simp at h
  | some x =>
    cases hb : hexV b with
    | none => rw [ha, hb] at h; simp at h
    | some y =>
      cases hc : hexV c with
      | none => rw [ha, hb, hc] at h; simp at h
      | some z =>
        cases he : hexV e with
        | none => rw [ha, hb, hc, he] at h; simp at h
        | some w =>
          cases hg : hexV g with
          | none => rw [ha, hb, hc, he, hg] at h; simp at h
          | some v =>
            rw [ha, hb, hc, he, hg] at h
            simp only [Option.some.injEq] at h
            exact ⟨x, y, z, w, v, h.symm, trivial⟩

def st1075 (d : Bool) (xs acc : List SV) (i : Nat) : SA := { nt := 190, tm := [(33, .sv (.int .i64 i)), (32, .sv (.int .i64 xs.length)), (31, .sv (.sl xs)), (6, accA 56 acc), (1, .sv (.bool d))], lz := none, bx := [], df := [] }

end Go.Ev

set_option linter.unusedSimpArgs false
set_option linter.unusedVariables false
namespace Go.Ev
open Go.Proofs

end Go.Ev

set_option linter.unusedSimpArgs false
set_option linter.unusedVariables false
namespace Go.Ev
open Go.Proofs

end Go.Ev

set_option linter.unusedSimpArgs false
set_option linter.unusedVariables false
namespace Go.Ev
open Go.Proofs

theorem hexsV_five' {a b c e g : List UInt8} {l : List Nat} (h : hexsV [a, b, c, e, g] = some l) : ∃ x y z w v, l = [x, y, z, w, v] ∧ hexV a = some x ∧ hexV b = some y ∧ hexV c = some z ∧ hexV e = some w ∧ hexV g = some v := by
  simp only [hexsV] at h
  cases ha : hexV a with
  | none => rw [ha] at h; simp at h
  | some x =>
    cases hb : hexV b with
    | none => rw [ha, hb] at h; simp at h
    | some y =>
      cases hc : hexV c with
      | none => rw [ha, hb, hc] at h; simp at h
      | some z =>
        cases he : hexV e with
        | none => rw [ha, hb, hc, he] at h; simp at h
        | some w =>
          cases hg : hexV g with
          | none => rw [ha, hb, hc, he, hg] at h; simp at h
          | some v =>
            rw [ha, hb, hc, he, hg] at h
            simp only [Option.some.injEq] at h
            exact ⟨x, y, z, w, v, h.symm, rfl, rfl, rfl, rfl, rfl⟩

theorem skLineV_fit {d : Bool} {f : List (List UInt8)} {r : RowD} {B : Nat} (hB : B < 2147483648) (h : skLineV d f = some r) (hf : ∀ x ∈ f, x.length ≤ B) : r.fits3 := by
  have hlx : ∀ i, (skFld f i).length ≤ B := fun i => by
    unfold skFld
    rw [List.getD_eq_getElem?_getD]
    cases hg : f[i]? with
    | none => simp
    | some x => exact hf x (List.mem_of_getElem? hg)
  unfold skLineV at h
  by_cases hc : f.length = (if d then 13 else 17) ∧ endsC (skFld f 0) = true
  rotate_left
  · rw [if_neg hc] at h; cases h
  rw [if_pos hc] at h
  generalize (if d then skFld f 12 else [48]) = last at h
  unfold skV at h
  split at h <;> try (simp at h; done)
  rename_i a0 a1 b0 b1 q0 q1 hp1 hp2 hp4
  split at h <;> try (simp at h; done)
  rename_i d0 d1 d2 d3 hd
  split at h <;> try (simp at h; done)
  rename_i h0 h1 h2 h3 h4 hx
  simp only [Option.some.injEq] at h
  subst h
  obtain ⟨_, g⟩ := decsV_fit hd
  obtain ⟨y1, y2, y3, y4, y5, hl, k1, k2, k3, k4, k5⟩ := hexsV_five' hx
  simp only [List.cons.injEq, and_true] at hl
  obtain ⟨rfl, rfl, rfl, rfl, rfl⟩ := hl
  have e1 := (hexV_spec k1).2.2.1; have e2 := (hexV_spec k2).2.2.1; have e3 := (hexV_spec k3).2.2.1; have e4 := (hexV_spec k4).2.2.1; have e5 := (hexV_spec k5).2.2.1
  have g0 := g d0 (by simp); have g1 := g d1 (by simp); have g2 := g d2 (by simp); have g3 := g d3 (by simp)
  have p1 := partG_mem 58 (skFld f 1) []
  have p2 := partG_mem 58 (skFld f 2) []
  rw [hp1] at p1
  rw [hp2] at p2
  have p1 := p1 a0 (by simp)
  have p2 := p2 b0 (by simp)
  have l1 := hlx 1
  have l2 := hlx 2
  simp only [List.length_nil, Nat.zero_add] at p1 p2
  refine ⟨by simp, by simp, fun n hn => ?_, by simp, fun s hs => ?_⟩
  · simp only [List.mem_cons, List.not_mem_nil, or_false] at hn
    rcases hn with rfl | rfl | rfl | rfl | rfl | rfl | rfl | rfl | rfl <;> assumption
  · simp only [List.mem_cons, List.not_mem_nil, or_false] at hs
    rcases hs with rfl | rfl <;> omega

theorem skTabV_fit {d : Bool} {B : Nat} (hB : B < 2147483648) : ∀ {ls : List (List UInt8)} {rs : List RowD}, skTabV d ls = some rs → (∀ s ∈ ls, s.length ≤ B) → rs.length = ls.length ∧ ∀ r ∈ rs, r.fits3
  | [], rs, h, _ => by simp only [skTabV, Option.some.injEq] at h; subst h; simp
  | s :: ls, rs, h, hl => by
    simp only [skTabV] at h
    cases hv : skLineV d (fieldsL s) with
    | none => rw [hv] at h; simp at h
    | some r =>
      rw [hv] at h
      cases ht : skTabV d ls with
      | none => rw [ht] at h; simp at h
      | some q =>
        rw [ht] at h
        simp only [Option.some.injEq] at h
        subst h
        obtain ⟨i1, i2⟩ := skTabV_fit hB ht (fun s hs => hl s (by simp [hs]))
        have hs := hl s (by simp)
        have hr := skLineV_fit hB hv (fun x hx => by
          obtain ⟨_, _, k2⟩ := fieldsV_shape s
          have := k2 x hx; omega)
        refine ⟨by simp [i1], fun q' hq => ?_⟩
        rcases List.mem_cons.1 hq with rfl | hq
        · exact hr
        · exact i2 q' hq

def skRes (d : Bool) (s : List UInt8) : List SV :=
  if s.all plainC = true ∧ s.take skHead.length = skHead then match skTabV d (linesL (s.drop skHead.length)) with
    | some rs => [.sl (rowsSV rs), .bool (rs.all (skOk d))]
    | none => [.sl [], .bool false]
  else [.sl [], .bool false]

theorem skRows_fit {d : Bool} {t : List UInt8} {rs : List RowD} (h : skTabV d (linesL t) = some rs) (ht : t.length ≤ 40000) : rs.length ≤ 40001 ∧ rowsFit3 rs := by
  obtain ⟨_, k1, k2⟩ := linesV_shape t
  obtain ⟨g1, g2⟩ := skTabV_fit (B := 40000) (by omega) h (fun x hx => by have := k2 x hx; omega)
  exact ⟨by omega, by omega, g2⟩

def S1075 (F : List SV → Option AV) : Prop := ∀ (d : Bool) (s : List UInt8), s.length ≤ 40000 → F [.str s, .bool d] = some (.sv (.tup (skRes d s)))

end Go.Ev

set_option linter.unusedSimpArgs false
set_option linter.unusedVariables false
namespace Go.Ev
open Go.Proofs

theorem skRows_fit6 {d : Bool} {t : List UInt8} {rs : List RowD} (h : skTabV d (linesL t) = some rs) (ht : t.length ≤ 65000) : rs.length ≤ 65001 ∧ rowsFit3 rs := by
  obtain ⟨_, k1, k2⟩ := linesV_shape t
  obtain ⟨g1, g2⟩ := skTabV_fit (B := 65000) (by omega) h (fun x hx => by have := k2 x hx; omega)
  exact ⟨by omega, by omega, g2⟩

def st1144 (d : Bool) (s t : List UInt8) (acc : List SV) : SA := { nt := 53, tm := [(10, .ptr 0 0), (8, accA 194 acc), (1, .sv (.bool d))], lz := none, bx := [scanBox s t], df := [131] }

theorem skTab_cons {d : Bool} {s : List UInt8} {rs : List RowD} (h : skTabV d (lineG [] s) = some rs) : (s = [] ∧ rs = []) ∨ ∃ line rest r rs', (∀ c ∈ line, c.toNat ≠ 10) ∧ ((s = line ++ 10 :: rest) ∨ (s = line ∧ rest = [] ∧ line ≠ [])) ∧ skLineV d (fieldsL line) = some r ∧ rs = r :: rs' ∧ skTabV d (lineG [] rest) = some rs' := by
  rcases line_cases s with rfl | ⟨line, rest, h1, h2, h3⟩
  · left
    simp only [lineG, if_true, skTabV, Option.some.injEq] at h
    exact ⟨rfl, h.symm⟩
  · right
    rw [h2] at h
    simp only [skTabV] at h
    cases hv : skLineV d (fieldsL line) with
    | none => rw [hv] at h; simp at h
    | some r =>
      rw [hv] at h
      cases ht : skTabV d (lineG [] rest) with
      | none => rw [ht] at h; simp at h
      | some q =>
        rw [ht] at h
        simp only [Option.some.injEq] at h
        exact ⟨line, rest, r, q, h1, h3, hv, h.symm, ht⟩

set_option maxHeartbeats 2000000 in
theorem loop1144 (E : Env) (N m : Nat) (h88 : E.code 133 = some c88) (h90 : E.code 135 = some c90) (h127 : E.pure 201 = some F127) (h59 : Has E 225 S1159) (hp88 : E.pure 133 = none) (hp90 : E.pure 135 = none) (d : Bool) :
    ∀ (rs : List RowD) (s t : List UInt8) (acc : List SV) (k : Nat), skTabV d (lineG [] s) = some rs → (∀ c ∈ s, plainC c = true) → (∀ r ∈ rs, skOk d r = true) → s.length ≤ 65000 → s.length < N → acc.length + rs.length < 1000000000 → rs.length < k →
      roundsA (evCA E (evF E (N + 1)) m b1144_0) k (st1144 d s t acc) =
        some (.exit 0, { nt := 53, tm := [(10, .ptr 0 0), (8, accA 194 (acc ++ skVals d rs))], lz := none, bx := [scanBox [] []], df := [131] }) := by
  obtain ⟨F, hp, hF⟩ := h59
  intro rs
  induction rs with
  | nil =>
    intro s t acc k hn hpl _ hl hN ha hk
    obtain ⟨k, rfl⟩ : ∃ k', k = k' + 1 := ⟨k - 1, by omega⟩
    rcases skTab_cons hn with ⟨rfl, _⟩ | ⟨line, rest, r, rs', _, _, _, e, _⟩
    · have hs := scan88e E h88 0 [scanBox [] t] t rfl N
      simp only [List.length_nil, List.set_cons_zero] at hs
      refine roundsA_out ?_ (by simp)
      simp [b1144_0, st1144, hp88, hs, skVals]
    · cases e
  | cons r rs ih =>
    intro s t acc k hn hpl hok hl hN ha hk
    obtain ⟨k, rfl⟩ : ∃ k', k = k' + 1 := ⟨k - 1, by omega⟩
    rcases skTab_cons hn with ⟨_, e⟩ | ⟨line, rest, r', rs', h1, h3, hv, e, hn'⟩
    · cases e
    · simp only [List.cons.injEq] at e
      obtain ⟨rfl, rfl⟩ := e
      have hll : line.length ≤ s.length ∧ rest.length ≤ s.length ∧ (∀ c ∈ line, plainC c = true) ∧ (∀ c ∈ rest, plainC c = true) := by
        rcases h3 with rfl | ⟨rfl, rfl, _⟩
        · refine ⟨by simp, by simp; omega, fun c hc => hpl c (by simp [hc]), fun c hc => hpl c (by simp [hc])⟩
        · exact ⟨by omega, by simp, hpl, by simp⟩
      obtain ⟨l1, l2, l3, l4⟩ := hll
      have hsc := scanG E h88 s t line rest h1 h3 (by omega) (fun c hc => (plain_lt (hpl c hc)).2) N hN
      have htx := evF90 E h90 N 0 [scanBox rest line] rest line rfl
      have hF1 : F127 [.str line] = some (.sv (.sl (strs (fieldsL line)))) := by
        have := F127_eq line (by omega) (fun c hc => (plain_lt (l3 c hc)).1)
        rw [words_fields (fun c hc => ⟨l3 c hc, h1 c hc⟩)] at this
        exact this
      have hF2 := hF d (fieldsL line) r hv (hok r (by simp)) (fun x hx => by
        obtain ⟨_, _, k2⟩ := fieldsV_shape line
        have := k2 x hx; omega)
      have hl1 : (acc.length + 1) * 8 ≤ 140737488355328 := by simp at ha; omega
      have hl2 : acc.length + 1 ≤ 140737488355328 := by simp at ha; omega
      have he := ih rest line (acc ++ [.ref (skCells d r)]) k hn' l4 (fun q hq => hok q (by simp [hq])) (by omega) (by omega) (by simp at ha ⊢; omega) (by simp at hk; omega)
      have hst : evCA E (evF E (N + 1)) m b1144_0 (st1144 d s t acc) = some (.normal, st1144 d rest line (acc ++ [.ref (skCells d r)])) := by
        generalize strs (fieldsL line) = fl at *
        generalize skCells d r = cs at *
        cases acc with
        | nil => simp [b1144_0, st1144, hp88, hp90, hsc, htx, h127, hF1, hp, hF2, accA]
        | cons y ys =>
          simp only [List.length_cons] at hl1 hl2
          simp [b1144_0, st1144, hp88, hp90, hsc, htx, h127, hF1, hp, hF2, accA, hl1, hl2]
      rw [roundsA_step hst, he]
      simp [skVals]

theorem skRead_spec {d : Bool} {s : List UInt8} {rs : List RowD} (h : skRead d s = some rs) : ∃ rest, s = skHeadL ++ 10 :: rest ∧ (∀ c ∈ s, plainC c = true) ∧ skTabV d (linesL rest) = some rs ∧ ∀ r ∈ rs, skOk d r = true := by
  unfold skRead at h
  by_cases hc : s.all plainC = true ∧ s.take skHead.length = skHead
  rotate_left
  · rw [if_neg hc] at h; cases h
  rw [if_pos hc] at h
  cases hv : skTabV d (linesL (s.drop skHead.length)) with
  | none => rw [hv] at h; cases h
  | some q =>
    rw [hv] at h
    simp only at h
    by_cases ha : q.all (skOk d) = true
    rotate_left
    · rw [if_neg ha] at h; cases h
    rw [if_pos ha] at h
    simp only [Option.some.injEq] at h
    subst h
    refine ⟨s.drop skHead.length, ?_, List.all_eq_true.1 hc.1, hv, List.all_eq_true.1 ha⟩
    conv => lhs; rw [← List.take_append_drop skHead.length s, hc.2]
    simp [skHead]

def SSock (F : List SV → Option AV) : Prop := ∀ (d : Bool) (s : List UInt8) (rs : List RowD), skRead d s = some rs → s.length ≤ 65000 → F [.str s, .bool d] = some (.sv (.tup [.sl (skVals d rs), .nilI]))

set_option maxHeartbeats 2000000 in
theorem ev1144 (E : Env) (h : E.code 203 = some c1144) (h87 : E.code 132 = some c87) (h88 : E.code 133 = some c88) (h90 : E.code 135 = some c90) (h128 : E.code 202 = some c128) (hq : E.quiet 131 = true) (h84 : E.pure 129 = some F84) (h127 : E.pure 201 = some F127) (h59 : Has E 225 S1159) (hp87 : E.pure 132 = none) (hp88 : E.pure 133 = none) (hp90 : E.pure 135 = none) (hp128 : E.pure 202 = none) : SSock (autoF E 203) := by
  intro d s rs hr hs
  obtain ⟨rest, g1, g2, g3, g4⟩ := skRead_spec hr
  have hrl : rest.length ≤ 65000 ∧ rest.length < s.length := by rw [g1] at hs ⊢; simp at hs ⊢; omega
  obtain ⟨f1, f2⟩ := skRows_fit6 g3 hrl.1
  have hlen : rs.length ≤ rest.length + 1 := by
    obtain ⟨_, k1, k2⟩ := linesV_shape rest
    obtain ⟨g1, g2⟩ := skTabV_fit (B := 65000) (by omega) g3 (fun x hx => by have := k2 x hx; omega)
    omega
  rw [linesL_eq] at g3
  have hpr : ∀ c ∈ rest, plainC c = true := fun c hc => g2 c (by rw [g1]; simp [hc])
  have e128 := evF128 E h128 (s.length + 1) 0 [scanBox [] []] [] [] rfl
  have e87 := evF87 E h87 (s.length + 1) [] s
  have hsc := scanG E h88 s [] skHeadL rest (by decide) (.inl g1) (by omega) (fun c hc => (plain_lt (g2 c hc)).2) (s.length + 1) (by omega)
  have hl := loop1144 E (s.length + 1) (s.length + 2) h88 h90 h127 h59 hp88 hp90 d rs rest skHeadL [] (s.length + 2) g3 hpr g4 hrl.1 (by omega) (by simp; omega) (by omega)
  clear g1 g2 g3 hpr hr
  refine autoA_sv (n := s.length + 2) ?_ rfl
  unfold evPA
  simp only [h]
  generalize skVals d rs = vs at *
  generalize skHeadL = hd at *
  simp only [List.length_nil, List.nil_append] at e87
  simp only [List.nil_append, st1144, show accA 194 [] = .sv .nilS from rfl] at hl
  cases vs with
  | nil =>
    simp only [accA] at hl
    simp only [scanBox] at *
    simp [c1144, h84, F84, hq, hp87, hp88, hp128, e87, hsc, hl, e128]
  | cons y ys =>
    simp only [accA] at hl
    simp only [scanBox] at *
    simp [c1144, h84, F84, hq, hp87, hp88, hp128, e87, hsc, hl, e128]

def SNew_tcp (F : List SV → Option AV) : Prop := ∀ (s : List UInt8) (rs : List RowD), skRead false s = some rs → s.length ≤ 65000 → F [.str s] = some (.sv (.tup [.sl (skVals false rs), .nilI]))

theorem ev1118 (E : Env) (h : E.code 161 = some c1118) (h44 : Has E 203 SSock) : SNew_tcp (autoF E 161) := by
  obtain ⟨F, hp, hF⟩ := h44
  intro s rs hr hs
  have hF1 := hF false s rs hr hs
  refine autoA_sv (n := 1) ?_ rfl
  unfold evPA
  simp only [h]
  generalize skVals false rs = vs at *
  simp [c1118, hp, hF1]

def SFs_tcp (F : List SV → Option AV) : Prop := ∀ (s : List UInt8) (rs : List RowD), skRead false s = some rs → s.length ≤ 65000 → F [.agg [.str s]] = some (.sv (.tup [.sl (skVals false rs), .nilI]))

theorem ev1072 (E : Env) (h : E.code 73 = some c1072) (h85 : E.pure 130 = some F85) (hN : Has E 161 SNew_tcp) : SFs_tcp (autoF E 73) := by
  obtain ⟨F, hp, hF⟩ := hN
  intro s rs hr hs
  have hF1 := hF s rs hr hs
  refine autoA_sv (n := 1) ?_ rfl
  unfold evPA
  simp only [h]
  generalize skVals false rs = vs at *
  simp [c1072, h85, F85, hp, hF1]

def STr_tcp (F : List SV → Option AV) : Prop := ∀ (s : List UInt8) (rs : List RowD), skRead false s = some rs → s.length ≤ 65000 → F [.fn 73 [.agg [.str s]] [], .fn 74 [] []] = some (.sv (.tup [skTree false rs, .int .i64 0]))

theorem ev1071 (E : Env) (h : E.code 72 = some c1071) (hq : E.quiet 160 = true) (hS : Has E 73 SFs_tcp) (hC : Has E 74 S1073) : STr_tcp (autoF E 72) := by
  obtain ⟨F, hp, hF⟩ := hS
  obtain ⟨G, hg, hG⟩ := hC
  intro s rs hr hs
  have hF1 := hF s rs hr hs
  obtain ⟨rest, g1, _, g3, g4⟩ := skRead_spec hr
  obtain ⟨f1, f2⟩ := skRows_fit6 g3 (by rw [g1] at hs; simp at hs; omega)
  have hG1 := hG rs (by omega) g4
  clear g1 g3 g4 hr hF hG
  refine autoA_sv (n := 1) ?_ rfl
  unfold evPA
  simp only [h]
  unfold skTree nodeV at *
  generalize rs.map (skNode false) = kids at *
  generalize skVals false rs = vs at *
  simp [c1071, hp, hF1, hg, hG1, hq]

def SDoor_tcp (F : List SV → Option AV) : Prop := ∀ (s : List UInt8) (rs : List RowD), skRead false s = some rs → s.length ≤ 65000 → F [.str s] = some (.sv (.tup [skTree false rs, .int .i64 0]))

theorem ev1029 (E : Env) (h : E.code 26 = some c1029) (h38 : E.pure 55 = some F38) (hT : Has E 72 STr_tcp) : SDoor_tcp (autoF E 26) := by
  obtain ⟨F, hp, hF⟩ := hT
  intro s rs hr hs
  have hF1 := hF s rs hr hs
  refine autoA_sv (n := 1) ?_ rfl
  unfold evPA
  simp only [h]
  unfold skTree nodeV at *
  generalize rs.map (skNode false) = kids at *
  simp [c1029, h38, F38, hp, hF1]

def SNew_udp (F : List SV → Option AV) : Prop := ∀ (s : List UInt8) (rs : List RowD), skRead true s = some rs → s.length ≤ 65000 → F [.str s] = some (.sv (.tup [.sl (skVals true rs), .nilI]))

theorem ev1128 (E : Env) (h : E.code 168 = some c1128) (h44 : Has E 203 SSock) : SNew_udp (autoF E 168) := by
  obtain ⟨F, hp, hF⟩ := h44
  intro s rs hr hs
  have hF1 := hF true s rs hr hs
  refine autoA_sv (n := 1) ?_ rfl
  unfold evPA
  simp only [h]
  generalize skVals true rs = vs at *
  simp [c1128, hp, hF1]

def SFs_udp (F : List SV → Option AV) : Prop := ∀ (s : List UInt8) (rs : List RowD), skRead true s = some rs → s.length ≤ 65000 → F [.agg [.str s]] = some (.sv (.tup [.sl (skVals true rs), .nilI]))

theorem ev1077 (E : Env) (h : E.code 77 = some c1077) (h85 : E.pure 130 = some F85) (hN : Has E 168 SNew_udp) : SFs_udp (autoF E 77) := by
  obtain ⟨F, hp, hF⟩ := hN
  intro s rs hr hs
  have hF1 := hF s rs hr hs
  refine autoA_sv (n := 1) ?_ rfl
  unfold evPA
  simp only [h]
  generalize skVals true rs = vs at *
  simp [c1077, h85, F85, hp, hF1]

def STr_udp (F : List SV → Option AV) : Prop := ∀ (s : List UInt8) (rs : List RowD), skRead true s = some rs → s.length ≤ 65000 → F [.fn 77 [.agg [.str s]] [], .fn 78 [] []] = some (.sv (.tup [skTree true rs, .int .i64 0]))

theorem ev1076 (E : Env) (h : E.code 76 = some c1076) (hq : E.quiet 167 = true) (hS : Has E 77 SFs_udp) (hC : Has E 78 S1078) : STr_udp (autoF E 76) := by
  obtain ⟨F, hp, hF⟩ := hS
  obtain ⟨G, hg, hG⟩ := hC
  intro s rs hr hs
  have hF1 := hF s rs hr hs
  obtain ⟨rest, g1, _, g3, g4⟩ := skRead_spec hr
  obtain ⟨f1, f2⟩ := skRows_fit6 g3 (by rw [g1] at hs; simp at hs; omega)
  have hG1 := hG rs (by omega) g4
  clear g1 g3 g4 hr hF hG
  refine autoA_sv (n := 1) ?_ rfl
  unfold evPA
  simp only [h]
  unfold skTree nodeV at *
  generalize rs.map (skNode true) = kids at *
  generalize skVals true rs = vs at *
  simp [c1076, hp, hF1, hg, hG1, hq]

def SDoor_udp (F : List SV → Option AV) : Prop := ∀ (s : List UInt8) (rs : List RowD), skRead true s = some rs → s.length ≤ 65000 → F [.str s] = some (.sv (.tup [skTree true rs, .int .i64 0]))

theorem ev1033 (E : Env) (h : E.code 27 = some c1033) (h38 : E.pure 55 = some F38) (hT : Has E 76 STr_udp) : SDoor_udp (autoF E 27) := by
  obtain ⟨F, hp, hF⟩ := hT
  intro s rs hr hs
  have hF1 := hF s rs hr hs
  refine autoA_sv (n := 1) ?_ rfl
  unfold evPA
  simp only [h]
  unfold skTree nodeV at *
  generalize rs.map (skNode true) = kids at *
  simp [c1033, h38, F38, hp, hF1]

end Go.Ev
