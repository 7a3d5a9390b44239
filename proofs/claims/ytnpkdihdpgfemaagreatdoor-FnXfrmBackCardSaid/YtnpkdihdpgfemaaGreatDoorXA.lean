/- Reading of counters with names: numbers, sameness of names. -/
/- Counters of transformations: what is fine, what a text says. -/
/- Counters of transformations: the reference's reading. -/
/- Counters of transformations: the tree and the text. -/
/- Counters of transformations: their text. -/
import Derived.Test.YtnpkdihdpgfemaaGreatDoorSA
set_option linter.unusedSimpArgs false
set_option linter.unusedVariables false
namespace Go.Ev
open Go.Proofs

/-- Rows as an argument may hold them. -/
def RowD.fits3 (r : RowD) : Prop := r.name.length < 2147483648 ∧ r.N.length < 100000000000 ∧ (∀ n ∈ r.N, n < 18446744073709551616) ∧ r.S.length < 2147483648 ∧ ∀ s ∈ r.S, s.length < 2147483648

def rowsFit3 (l : List RowD) : Prop := l.length < 100000000 ∧ ∀ r ∈ l, r.fits3

theorem b1097_eq : b1097_0 = b77_0 := rfl

theorem ev1097 (E : Env) (h : E.code 97 = some c1097) (hP : E.pure 108 = some F81) (hP2 : E.pure 85 = some F45) (l : List (List UInt8)) (hs : l.length < 1000000000000) (hr : ∀ s ∈ l, s.length < 9223372036854775807) (n : Nat) (hn : l.length < n) :
    evP E n 97 [.sl (strs l)] = some (.sv (.tup (match decsV l with | some ms => [.sl (u64s ms), .bool true] | none => [.sl [], .bool false]))) := by
  unfold evP
  simp only [h]
  have hl := loop77 E (evF E n) hP hP2 (strs l) (by rw [strs_length]; exact hs) n l [] [] n rfl hr rfl rfl hn
  simp only [accA, List.replicate, List.cons_append, List.nil_append, List.length_nil, Int.ofNat_zero, Int.natCast_zero, ← b1097_eq] at hl
  cases hv : decsV l with
  | none => simp [hv] at hl; simp [c1097, List.replicate, hl]
  | some ms =>
    cases ms with
    | nil => simp [hv, u64s] at hl; simp [c1097, List.replicate, hl, accA, u64s]
    | cons x xs => simp [hv, u64s] at hl; simp [c1097, List.replicate, hl, accA, u64s]

/-! ### Different names -/

def distP (pre : List (List UInt8)) : List (List UInt8) → Bool
  | [] => true
  | c :: rest => pre.all (fun p => !(c == p)) && distP (pre ++ [c]) rest

theorem loop1084_0 (E : Env) (cf : CallF) (l : List RowD) (hs : l.length < 1000000000) (m i : Nat) (r : RowD) (hi : l[i]? = some r) :
    ∀ (rest pre : List RowD) (k : Nat), l.take i = pre ++ rest → rest.length < k →
      rounds (evC E cf m b1084_0) k { tm := [.sv (.sl (rowsSV l)), .sv .undef, .sv .undef, .sv (.int .i64 i), .sv .undef, .sv .undef, .sv (.int .i64 l.length), .sv (.int .i64 i), .sv .undef, .sv .undef, .sv (.int .i64 i), .sv (.int .i64 pre.length)] ++ List.replicate 15 (.sv .undef), lz := none, bx := [], df := [] } =
        if rest.all (fun p => !(r.name == p.name)) = true then some (.exit 2, { tm := [.sv (.sl (rowsSV l)), .sv .undef, .sv .undef, .sv .undef, .sv .undef, .sv .undef, .sv (.int .i64 l.length), .sv (.int .i64 i)] ++ List.replicate 19 (.sv .undef), lz := none, bx := [], df := [] })
        else some (.ret, { tm := [.sv .undef, .sv .undef, .sv (.bool false)] ++ List.replicate 24 (.sv .undef), lz := none, bx := [], df := [] }) := by
  have hil : i < l.length := (List.getElem?_eq_some_iff.1 hi).1
  have hri : l[i]'hil = r := (List.getElem?_eq_some_iff.1 hi).2
  intro rest
  induction rest with
  | nil =>
    intro pre k hsp hk
    obtain ⟨k, rfl⟩ : ∃ k', k = k' + 1 := ⟨k - 1, by omega⟩
    have hlt : ¬ (pre.length < i) := by have := congrArg List.length hsp; simp at this; omega
    refine rounds_out ?_ (by simp)
    simp [b1084_0, List.replicate, hlt]
  | cons p rest ih =>
    intro pre k hsp hk
    obtain ⟨k, rfl⟩ : ∃ k', k = k' + 1 := ⟨k - 1, by omega⟩
    have hlen : i = pre.length + (rest.length + 1) := by have := congrArg List.length hsp; simp at this; omega
    have hlt : pre.length < i := by omega
    have hpl : pre.length < l.length := by omega
    have hp : l[pre.length]? = some p := by
      have := congrArg (fun q => q[pre.length]?) hsp
      simpa [List.getElem?_take, hlt] using this
    have hpe : l[pre.length]'hpl = p := (List.getElem?_eq_some_iff.1 hp).2
    have hsl : (rowsSV l).length = l.length := by simp [rowsSV]
    have c1 : ∀ h : i < (rowsSV l).length, (rowsSV l)[i]'h = .agg [.str r.name, .sl (u64s r.N), .sl (strs r.S)] := fun h => by simp [rowsSV, hri, RowD.sv]
    have c2 : ∀ h : pre.length < (rowsSV l).length, (rowsSV l)[pre.length]'h = .agg [.str p.name, .sl (u64s p.N), .sl (strs p.S)] := fun h => by simp [rowsSV, hpe, RowD.sv]
    have hw2 : IntKind.i64.wrap ((pre.length : Int) + 1) = ((pre ++ [p]).length : Int) := by rw [IntKind.wrap_i64]; simp; omega
    by_cases he : r.name = p.name
    · have e1 : (r.name == p.name) = true := by simpa using he
      rw [if_neg (by simp [e1])]
      refine rounds_out ?_ (by simp)
      simp [b1084_0, List.replicate, hlt, hil, hpl, hsl, c1, c2, he]
    · have e1 : (r.name == p.name) = false := by simpa using he
      have := ih (pre ++ [p]) k (by rw [hsp]; simp) (by simp at hk; omega)
      rw [show (p :: rest).all (fun p => !(r.name == p.name)) = rest.all (fun p => !(r.name == p.name)) from by simp [e1], ← this]
      refine rounds_step ?_
      simp [b1084_0, List.replicate, hlt, hil, hpl, hsl, c1, c2, he, e1, hw2]

theorem loop1084_1 (E : Env) (cf : CallF) (l : List RowD) (hs : l.length < 1000000000) (m : Nat) (hm : l.length < m) :
    ∀ (rest pre : List RowD) (k : Nat), l = pre ++ rest → rest.length < k →
      rounds (evC E cf m b1084_1) k { tm := [.sv (.sl (rowsSV l)), .sv .undef, .sv .undef, .sv .undef, .sv .undef, .sv .undef, .sv (.int .i64 l.length), .sv (.int .i64 pre.length)] ++ List.replicate 19 (.sv .undef), lz := none, bx := [], df := [] } =
        if distP (pre.map RowD.name) (rest.map RowD.name) = true then some (.exit 0, { tm := List.replicate 27 (.sv .undef), lz := none, bx := [], df := [] })
        else some (.ret, { tm := [.sv .undef, .sv .undef, .sv (.bool false)] ++ List.replicate 24 (.sv .undef), lz := none, bx := [], df := [] }) := by
  intro rest
  induction rest with
  | nil =>
    intro pre k hsp hk
    obtain ⟨k, rfl⟩ : ∃ k', k = k' + 1 := ⟨k - 1, by omega⟩
    have hlt : ¬ (pre.length < l.length) := by rw [hsp]; simp
    refine rounds_out ?_ (by simp)
    simp [b1084_1, List.replicate, hlt, distP]
  | cons r rest ih =>
    intro pre k hsp hk
    obtain ⟨k, rfl⟩ : ∃ k', k = k' + 1 := ⟨k - 1, by omega⟩
    have hlt : pre.length < l.length := by rw [hsp]; simp
    have hi : l[pre.length]? = some r := by rw [hsp]; simp
    have hin := loop1084_0 E cf l hs m pre.length r hi pre [] m (by rw [hsp]; simp) (by omega)
    simp only [List.replicate, List.cons_append, List.nil_append, List.length_nil, Int.ofNat_zero, Int.natCast_zero] at hin
    have hw2 : IntKind.i64.wrap ((pre.length : Int) + 1) = ((pre ++ [r]).length : Int) := by rw [IntKind.wrap_i64]; simp; omega
    have hmap : (pre.map RowD.name).all (fun p => !(r.name == p)) = pre.all (fun p => !(r.name == p.name)) := by simp [List.all_map, Function.comp_def]
    cases hc : pre.all (fun p => !(r.name == p.name)) with
    | false =>
      rw [hc, if_neg (by simp)] at hin
      rw [if_neg (by simp only [List.map_cons, distP, hmap, hc]; simp)]
      refine rounds_out ?_ (by simp)
      simp [b1084_1, List.replicate, hlt, hin]
    | true =>
      rw [hc, if_pos rfl] at hin
      have := ih (pre ++ [r]) k (by rw [hsp]; simp) (by simp at hk; omega)
      rw [show distP (pre.map RowD.name) ((r :: rest).map RowD.name) = distP ((pre ++ [r]).map RowD.name) (rest.map RowD.name) from by simp [distP, hmap, hc], ← this]
      refine rounds_step ?_
      simp [b1084_1, List.replicate, hlt, hin, hw2]

theorem ev1084 (E : Env) (h : E.code 84 = some c1084) (l : List RowD) (hs : l.length < 1000000000) (n : Nat) (hn : l.length < n) :
    evP E n 84 [.sl (rowsSV l)] = some (.sv (.bool (distP [] (l.map RowD.name)))) := by
  unfold evP
  simp only [h]
  have hsl : (rowsSV l).length = l.length := by simp [rowsSV]
  have hl := loop1084_1 E (evF E n) l hs n hn l [] n rfl hn
  simp only [List.replicate, List.cons_append, List.nil_append, List.length_nil, Int.ofNat_zero, Int.natCast_zero, List.map_nil] at hl
  cases hv : distP [] (l.map RowD.name) with
  | true => simp only [hv, if_true] at hl; simp [c1084, List.replicate, hl, hsl]
  | false => simp only [hv, Bool.false_eq_true, if_false] at hl; simp [c1084, List.replicate, hl, hsl]

noncomputable def F1084 : List SV → Option AV
  | [.sl l] => onlyIf (l = rowsSV (l.map unrow) ∧ l.length < 1000000000) (some (.sv (.bool (distP [] ((l.map unrow).map RowD.name)))))
  | _ => none

theorem F1084_eq (l : List RowD) (h : l.length < 1000000000) : F1084 [.sl (rowsSV l)] = some (.sv (.bool (distP [] (l.map RowD.name)))) := by
  unfold F1084
  simp only [unrows]
  exact onlyIf_pos ⟨trivial, by simpa [rowsSV] using h⟩

/-! ### So many numbers of so many bits -/

def cnt31 (r : RowD) : Bool := r.N.all (fun n => decide (n < 2147483648)) && decide (r.N.length = 1) && decide (r.S.length = 0)

theorem loop1083 (E : Env) (cf : CallF) (xs : List SV) (hs : xs.length < 1000000000000) (m : Nat) (bx : List Box) (a1 a3 a4 : AV) :
    ∀ (rest : List Nat) (pre : List SV) (k : Nat), xs = pre ++ u64s rest → (∀ n ∈ rest, n < 18446744073709551616) → rest.length < k →
      rounds (evC E cf m b1083_0) k { tm := [.sv .undef, a1, .sv (.int .i64 31), a3, a4, .sv .undef, .sv .undef, .sv .undef, .sv .undef, .sv .undef, .sv .undef, .sv .undef, .sv (.sl xs), .sv (.int .i64 xs.length), .sv (.int .i64 pre.length)] ++ List.replicate 23 (.sv .undef), lz := none, bx := bx, df := [] } =
        if rest.all (fun n => decide (n < 2147483648)) = true then some (.exit 0, { tm := [.sv .undef, a1, .sv .undef, a3, a4] ++ List.replicate 33 (.sv .undef), lz := none, bx := bx, df := [] })
        else some (.ret, { tm := List.replicate 8 (.sv .undef) ++ [.sv (.bool false)] ++ List.replicate 29 (.sv .undef), lz := none, bx := bx, df := [] }) := by
  intro rest
  induction rest with
  | nil =>
    intro pre k hsp _ hk
    obtain ⟨k, rfl⟩ : ∃ k', k = k' + 1 := ⟨k - 1, by omega⟩
    have hlt : ¬ (pre.length < xs.length) := by rw [hsp]; simp [u64s]
    refine rounds_out ?_ (by simp)
    simp [b1083_0, List.replicate, hlt]
  | cons c rest ih =>
    intro pre k hsp hr hk
    obtain ⟨k, rfl⟩ : ∃ k', k = k' + 1 := ⟨k - 1, by omega⟩
    have hlt : pre.length < xs.length := by rw [hsp]; simp [u64s]
    have hc : ∀ h : pre.length < xs.length, xs[pre.length]'h = .int .u64 (c : Int) := by subst hsp; simp [u64s]
    have hw2 : IntKind.i64.wrap ((pre.length : Int) + 1) = ((pre ++ [SV.int .u64 (c : Int)]).length : Int) := by rw [IntKind.wrap_i64]; simp; omega
    have w1 : IntKind.i64.wrap 30 = 30 := by decide
    have w0 : IntKind.u64.bits = 64 := rfl
    have w2 : IntKind.u64.wrap 1073741824 = 1073741824 := by decide
    have w3 : IntKind.u64.wrap 2147483648 = 2147483648 := by decide
    have w4 : IntKind.u64.wrap 2147483647 = 2147483647 := by decide
    by_cases h1 : c < 2147483648
    · have e : ¬ (2147483647 : Int) < (c : Int) := by omega
      have := ih (pre ++ [.int .u64 (c : Int)]) k (by rw [hsp]; simp [u64s]) (fun n hn => hr n (by simp [hn])) (by simp at hk; omega)
      rw [show (c :: rest).all (fun n => decide (n < 2147483648)) = rest.all (fun n => decide (n < 2147483648)) from by simp [h1], ← this]
      refine rounds_step ?_
      simp [b1083_0, List.replicate, hlt, hc, e, hw2, w0, w1, w2, w3, w4]
    · have e : (2147483647 : Int) < (c : Int) := by omega
      rw [if_neg (by simp [h1])]
      refine rounds_out ?_ (by simp)
      simp [b1083_0, List.replicate, hlt, hc, e, w0, w1, w2, w3, w4]

theorem ev1083 (E : Env) (h : E.code 83 = some c1083) (r : RowD) (hr : r.fits3) (n : Nat) (hn : r.N.length < n) :
    evP E n 83 [r.sv, .int .i64 1, .int .i64 31, .int .i64 0] = some (.sv (.bool (cnt31 r))) := by
  unfold evP
  simp only [h]
  obtain ⟨name, N, S⟩ := r
  have hsl : (u64s N).length = N.length := u64s_length N
  have hst : (strs S).length = S.length := strs_length S
  have hl := loop1083 E (evF E n) (u64s N) (by rw [hsl]; have := hr.2.1; simp only at this; omega) n [.live [.sv (.str name), .sv (.sl (u64s N)), .sv (.sl (strs S))]] (.sv (.int .i64 1)) (.sv (.int .i64 0)) (.ptr 0 0) N [] n rfl hr.2.2.1 hn
  simp only [List.replicate, List.cons_append, List.nil_append, List.length_nil, Int.ofNat_zero, Int.natCast_zero, hsl] at hl
  have b1 : ((N.length : Int) == 1) = decide (N.length = 1) := by rw [Bool.eq_iff_iff]; simp; omega
  have b2 : ((S.length : Int) == 0) = decide (S.length = 0) := by rw [Bool.eq_iff_iff]; simp
  simp only [cnt31, RowD.sv]
  cases hv : N.all (fun n => decide (n < 2147483648)) with
  | false => simp only [hv, Bool.false_eq_true, if_false] at hl; simp [c1083, List.replicate, hl, hsl]
  | true =>
    simp only [hv, if_true] at hl
    by_cases h1 : N.length = 1
    · have e1 : ((N.length : Nat) : Int) = 1 := by omega
      rw [e1] at hl
      simp [c1083, List.replicate, hl, hsl, hst, b1, b2, h1]
    · simp [c1083, List.replicate, hl, hsl, hst, b1, b2, h1]

end Go.Ev

set_option linter.unusedSimpArgs false
set_option linter.unusedVariables false
namespace Go.Ev
open Go.Proofs

def xfNames : List (List UInt8) := [[88, 102, 114, 109, 73, 110, 69, 114, 114, 111, 114], [88, 102, 114, 109, 73, 110, 66, 117, 102, 102, 101, 114, 69, 114, 114, 111, 114], [88, 102, 114, 109, 73, 110, 72, 100, 114, 69, 114, 114, 111, 114], [88, 102, 114, 109, 73, 110, 78, 111, 83, 116, 97, 116, 101, 115], [88, 102, 114, 109, 73, 110, 83, 116, 97, 116, 101, 80, 114, 111, 116, 111, 69, 114, 114, 111, 114], [88, 102, 114, 109, 73, 110, 83, 116, 97, 116, 101, 77, 111, 100, 101, 69, 114, 114, 111, 114], [88, 102, 114, 109, 73, 110, 83, 116, 97, 116, 101, 83, 101, 113, 69, 114, 114, 111, 114], [88, 102, 114, 109, 73, 110, 83, 116, 97, 116, 101, 69, 120, 112, 105, 114, 101, 100], [88, 102, 114, 109, 73, 110, 83, 116, 97, 116, 101, 77, 105, 115, 109, 97, 116, 99, 104], [88, 102, 114, 109, 73, 110, 83, 116, 97, 116, 101, 73, 110, 118, 97, 108, 105, 100], [88, 102, 114, 109, 73, 110, 84, 109, 112, 108, 77, 105, 115, 109, 97, 116, 99, 104], [88, 102, 114, 109, 73, 110, 78, 111, 80, 111, 108, 115], [88, 102, 114, 109, 73, 110, 80, 111, 108, 66, 108, 111, 99, 107], [88, 102, 114, 109, 73, 110, 80, 111, 108, 69, 114, 114, 111, 114], [88, 102, 114, 109, 79, 117, 116, 69, 114, 114, 111, 114], [88, 102, 114, 109, 79, 117, 116, 66, 117, 110, 100, 108, 101, 71, 101, 110, 69, 114, 114, 111, 114], [88, 102, 114, 109, 79, 117, 116, 66, 117, 110, 100, 108, 101, 67, 104, 101, 99, 107, 69, 114, 114, 111, 114], [88, 102, 114, 109, 79, 117, 116, 78, 111, 83, 116, 97, 116, 101, 115], [88, 102, 114, 109, 79, 117, 116, 83, 116, 97, 116, 101, 80, 114, 111, 116, 111, 69, 114, 114, 111, 114], [88, 102, 114, 109, 79, 117, 116, 83, 116, 97, 116, 101, 77, 111, 100, 101, 69, 114, 114, 111, 114], [88, 102, 114, 109, 79, 117, 116, 83, 116, 97, 116, 101, 83, 101, 113, 69, 114, 114, 111, 114], [88, 102, 114, 109, 79, 117, 116, 83, 116, 97, 116, 101, 69, 120, 112, 105, 114, 101, 100], [88, 102, 114, 109, 79, 117, 116, 80, 111, 108, 66, 108, 111, 99, 107], [88, 102, 114, 109, 79, 117, 116, 80, 111, 108, 68, 101, 97, 100], [88, 102, 114, 109, 79, 117, 116, 80, 111, 108, 69, 114, 114, 111, 114], [88, 102, 114, 109, 70, 119, 100, 72, 100, 114, 69, 114, 114, 111, 114], [88, 102, 114, 109, 79, 117, 116, 83, 116, 97, 116, 101, 73, 110, 118, 97, 108, 105, 100], [88, 102, 114, 109, 65, 99, 113, 117, 105, 114, 101, 69, 114, 114, 111, 114]]

theorem ev1041 (E : Env) (h : E.code 41 = some c1041) (n : Nat) : evP E n 41 [] = some (.own 9 (strs xfNames)) := by
  unfold evP
  simp only [h]
  simp [c1041, List.replicate, strs, xfNames]

def F1041 : List SV → Option AV
  | [] => some (.sv (.sl (strs xfNames)))
  | _ => none

noncomputable def F1083 : List SV → Option AV
  | [.agg [.str s, .sl ns, .sl ss], .int .i64 a, .int .i64 b, .int .i64 c] => onlyIf (a = 1 ∧ b = 31 ∧ c = 0 ∧ SV.agg [.str s, .sl ns, .sl ss] = (unrow (.agg [.str s, .sl ns, .sl ss])).sv ∧ (unrow (.agg [.str s, .sl ns, .sl ss])).fits3) (some (.sv (.bool (cnt31 (unrow (.agg [.str s, .sl ns, .sl ss]))))))
  | _ => none

theorem F1083_eq (r : RowD) (h : r.fits3) : F1083 [.agg [.str r.name, .sl (u64s r.N), .sl (strs r.S)], .int .i64 1, .int .i64 31, .int .i64 0] = some (.sv (.bool (cnt31 r))) := by
  have hu : unrow (.agg [.str r.name, .sl (u64s r.N), .sl (strs r.S)]) = r := unrow_sv r
  unfold F1083
  simp only [hu]
  exact onlyIf_pos ⟨trivial, trivial, trivial, rfl, h⟩

def xfOk (r : RowD) : Bool := xfNames.any (fun s => s == r.name) && cnt31 r
def xfFine (l : List RowD) : Bool := l.all xfOk && distP [] (l.map RowD.name)

theorem loop1039_0 (E : Env) (cf : CallF) (m : Nat) (ys : List (List UInt8)) (hys : ys.length < 1000000) (r : RowD) (bx : List Box) (a0 a8 a9 a10 : AV) :
    ∀ (rest pre : List (List UInt8)) (b : Bool) (k : Nat), ys = pre ++ rest → rest.length < k →
      rounds (evC E cf m b1039_0) k { tm := [a0, .sv .undef, .sv .undef, .sv .undef, .ptr bx.length 0, .sv (.bool b), .sv .undef, .sv .undef, a8, a9, a10, .sv .undef, .sv .undef, .sv .undef, .sv (.sl (strs ys)), .sv (.int .i64 (strs ys).length), .sv (.int .i64 pre.length)] ++ List.replicate 21 (.sv .undef), lz := none, bx := bx ++ [rowBox r], df := [] } =
        some (.exit 2, { tm := [a0, .sv .undef, .sv .undef, .sv .undef, .ptr bx.length 0, .sv (.bool (b || rest.any (fun s => s == r.name))), .sv .undef, .sv .undef, a8, a9, a10] ++ List.replicate 27 (.sv .undef), lz := none, bx := bx ++ [rowBox r], df := [] }) := by
  intro rest
  induction rest with
  | nil =>
    intro pre b k hsp hk
    obtain ⟨k, rfl⟩ : ∃ k', k = k' + 1 := ⟨k - 1, by omega⟩
    have hlt : ¬ (pre.length < (strs ys).length) := by rw [strs_length, hsp]; simp
    refine rounds_out ?_ (by simp)
    simp [b1039_0, List.replicate, hlt]
  | cons c rest ih =>
    intro pre b k hsp hk
    obtain ⟨k, rfl⟩ : ∃ k', k = k' + 1 := ⟨k - 1, by omega⟩
    have hlt : pre.length < (strs ys).length := by rw [strs_length, hsp]; simp
    have hc : ∀ h : pre.length < (strs ys).length, (strs ys)[pre.length]'h = .str c := by subst hsp; simp [strs]
    have hb : ys.length < 1000000 := hys
    have hpl : pre.length < ys.length := by rw [hsp]; simp
    have hw2 : IntKind.i64.wrap ((pre.length : Int) + 1) = ((pre ++ [c]).length : Int) := by rw [IntKind.wrap_i64]; simp; omega
    have := ih (pre ++ [c]) (b || c == r.name) k (by rw [hsp]; simp) (by simp at hk; omega)
    rw [show (b || (c :: rest).any (fun s => s == r.name)) = ((b || c == r.name) || rest.any (fun s => s == r.name)) from by simp [Bool.or_assoc], ← this]
    refine rounds_step ?_
    cases b with
    | true => simp [b1039_0, List.replicate, hlt, hc, hw2, rowBox]
    | false => simp [b1039_0, List.replicate, hlt, hc, hw2, rowBox]

theorem loop1039_1 (E : Env) (cf : CallF) (h41 : E.pure 41 = some F1041) (h83 : E.pure 83 = some F1083) (xs : List SV) (hxs : xs.length < 1000000000) (m : Nat) (hm : 28 < m) :
    ∀ (rest : List RowD) (pre : List SV) (bx : List Box) (k : Nat), xs = pre ++ rowsSV rest → (∀ r ∈ rest, r.fits3) → rest.length < k →
      ∃ bx', rounds (evC E cf m b1039_1) k { tm := [.sv (.sl xs)] ++ List.replicate 7 (.sv .undef) ++ [.sv (.sl xs), .sv (.int .i64 xs.length), .sv (.int .i64 pre.length)] ++ List.replicate 27 (.sv .undef), lz := none, bx := bx, df := [] } =
        if rest.all xfOk = true then some (.exit 0, { tm := [.sv (.sl xs)] ++ List.replicate 37 (.sv .undef), lz := none, bx := bx', df := [] })
        else some (.ret, { tm := [.sv .undef, .sv .undef, .sv (.bool false)] ++ List.replicate 35 (.sv .undef), lz := none, bx := bx', df := [] }) := by
  intro rest
  induction rest with
  | nil =>
    intro pre bx k hsp _ hk
    obtain ⟨k, rfl⟩ : ∃ k', k = k' + 1 := ⟨k - 1, by omega⟩
    have hlt : ¬ (pre.length < xs.length) := by rw [hsp]; simp [rowsSV]
    refine ⟨bx, ?_⟩
    refine rounds_out ?_ (by simp)
    simp [b1039_1, List.replicate, hlt]
  | cons r rest ih =>
    intro pre bx k hsp hr hk
    obtain ⟨k, rfl⟩ : ∃ k', k = k' + 1 := ⟨k - 1, by omega⟩
    have hlt : pre.length < xs.length := by rw [hsp]; simp [rowsSV]
    have hc : ∀ h : pre.length < xs.length, xs[pre.length]'h = .agg [.str r.name, .sl (u64s r.N), .sl (strs r.S)] := by subst hsp; simp [rowsSV, RowD.sv]
    have hw2 : IntKind.i64.wrap ((pre.length : Int) + 1) = ((pre ++ [r.sv]).length : Int) := by rw [IntKind.wrap_i64]; simp; omega
    have h83r := F1083_eq r (hr r (by simp))
    have hin := loop1039_0 E cf m xfNames (by decide) r bx (.sv (.sl xs)) (.sv (.sl xs)) (.sv (.int .i64 xs.length)) (.sv (.int .i64 pre.length)) xfNames [] false m rfl (by simpa [xfNames] using hm)
    simp only [Bool.false_or] at hin
    obtain ⟨bx', he⟩ := ih (pre ++ [r.sv]) (bx ++ [rowBox r]) k (by rw [hsp]; simp [rowsSV]) (fun q hq => hr q (by simp [hq])) (by simp at hk; omega)
    cases hk1 : xfNames.any (fun s => s == r.name) with
    | false =>
      simp only [hk1] at hin
      simp only [rowBox, List.replicate, List.cons_append, List.nil_append, List.length_nil, Int.ofNat_zero, Int.natCast_zero] at hin
      refine ⟨bx ++ [rowBox r], ?_⟩
      rw [if_neg (by simp only [List.all_cons, xfOk, hk1]; simp)]
      refine rounds_out ?_ (by simp)
      simp [b1039_1, List.replicate, hlt, hc, h41, F1041, hin, rowBox]
    | true =>
      simp only [hk1] at hin
      simp only [rowBox, List.replicate, List.cons_append, List.nil_append, List.length_nil, Int.ofNat_zero, Int.natCast_zero] at hin
      cases hk2 : cnt31 r with
      | false =>
        rw [hk2] at h83r
        refine ⟨bx ++ [rowBox r], ?_⟩
        rw [if_neg (by simp only [List.all_cons, xfOk, hk1, hk2]; simp)]
        refine rounds_out ?_ (by simp)
        simp [b1039_1, List.replicate, hlt, hc, h41, F1041, hin, rowBox, h83, h83r]
      | true =>
        rw [hk2] at h83r
        refine ⟨bx', ?_⟩
        rw [show (r :: rest).all xfOk = rest.all xfOk from by simp only [List.all_cons, xfOk, hk1, hk2]; simp, ← he]
        refine rounds_step ?_
        simp [b1039_1, List.replicate, hlt, hc, h41, F1041, hin, rowBox, h83, h83r, hw2]

theorem ev1039 (E : Env) (h : E.code 39 = some c1039) (h41 : E.pure 41 = some F1041) (h83 : E.pure 83 = some F1083) (h84 : E.pure 84 = some F1084) (l : List RowD) (hf : rowsFit3 l) (n : Nat) (hn : l.length + 28 < n) :
    evP E n 39 [.sl (rowsSV l)] = some (.sv (.bool (xfFine l))) := by
  unfold evP
  simp only [h]
  have hlen : (rowsSV l).length = l.length := by simp [rowsSV]
  obtain ⟨hl, hf⟩ := hf
  obtain ⟨bx', he⟩ := loop1039_1 E (evF E n) h41 h83 (rowsSV l) (by rw [hlen]; omega) n (by omega) l [] [] n rfl hf (by omega)
  simp only [List.replicate, List.cons_append, List.nil_append, List.length_nil, Int.ofNat_zero, Int.natCast_zero] at he
  have h84l := F1084_eq l (by omega)
  unfold xfFine
  cases hv : l.all xfOk with
  | true => simp only [hv, if_true] at he; simp [c1039, List.replicate, he, h84, h84l]
  | false => simp only [hv, Bool.false_eq_true, if_false] at he; simp [c1039, List.replicate, he]

noncomputable def F1039 : List SV → Option AV
  | [.sl l] => onlyIf (l = rowsSV (l.map unrow) ∧ rowsFit3 (l.map unrow)) (some (.sv (.bool (xfFine (l.map unrow)))))
  | _ => none

theorem F1039_eq (l : List RowD) (h : rowsFit3 l) : F1039 [.sl (rowsSV l)] = some (.sv (.bool (xfFine l))) := by
  unfold F1039
  simp only [unrows]
  exact onlyIf_pos ⟨trivial, h⟩

theorem ev1050 (E : Env) (h : E.code 50 = some c1050) (b : Bool) (n : Nat) : evP E n 50 [.bool b] = some (.sv (.int .i64 (if b then 1 else 2))) := by
  unfold evP
  simp only [h]
  cases b <;> simp [c1050, List.replicate]

def F1050 : List SV → Option AV
  | [.bool b] => some (.sv (.int .i64 (if b then 1 else 2)))
  | _ => none

end Go.Ev

set_option linter.unusedSimpArgs false
set_option linter.unusedVariables false
namespace Go.Ev
open Go.Proofs

/-- Names with numbers. -/
def namedV : List (List UInt8) → Option (List RowD)
  | [] => some []
  | s :: l => match fieldsL s with
    | [a, b] => match decV b with
      | some n => match namedV l with
        | some rs => some (⟨a, [n], []⟩ :: rs)
        | none => none
      | none => none
    | _ => none

set_option maxHeartbeats 4000000 in
theorem loop1049 (E : Env) (cf : CallF) (h52 : E.pure 65 = some F52) (h97 : E.pure 97 = some F77) (xs : List SV) (hs : xs.length < 1000000000000) (m : Nat) (t0 : AV) :
    ∀ (rest : List (List UInt8)) (pre acc : List SV) (k : Nat), xs = pre ++ strs rest → (∀ s ∈ rest, s.length < 100000000000) → acc.length = pre.length → rest.length < k →
      rounds (evC E cf m b1049_0) k { tm := [t0, .sv .undef, .sv .undef, .sv .undef, accA 35 acc, .sv .undef, .sv .undef, .sv .undef, .sv .undef, .sv .undef, .sv .undef, .sv (.sl xs), .sv (.int .i64 xs.length), .sv (.int .i64 pre.length)] ++ List.replicate 28 (.sv .undef), lz := none, bx := [], df := [] } =
        match namedV rest with
        | some ms => some (.exit 0, { tm := [t0, .sv .undef, .sv .undef, .sv .undef, accA 35 (acc ++ rowsSV ms)] ++ List.replicate 37 (.sv .undef), lz := none, bx := [], df := [] })
        | none => some (.ret, { tm := [.sv .undef, .sv .undef, .sv .nilS, .sv (.bool false)] ++ List.replicate 38 (.sv .undef), lz := none, bx := [], df := [] }) := by
  intro rest
  induction rest with
  | nil =>
    intro pre acc k hsp _ _ hk
    obtain ⟨k, rfl⟩ : ∃ k', k = k' + 1 := ⟨k - 1, by omega⟩
    have hlt : ¬ (pre.length < xs.length) := by rw [hsp]; simp [strs]
    refine rounds_out ?_ (by simp)
    simp [b1049_0, List.replicate, hlt, namedV, rowsSV]
  | cons c rest ih =>
    intro pre acc k hsp hr hal hk
    obtain ⟨k, rfl⟩ : ∃ k', k = k' + 1 := ⟨k - 1, by omega⟩
    have hlt : pre.length < xs.length := by rw [hsp]; simp [strs]
    have hc : ∀ h : pre.length < xs.length, xs[pre.length]'h = .str c := by subst hsp; simp [strs]
    have hw2 : IntKind.i64.wrap ((pre.length : Int) + 1) = ((pre ++ [SV.str c]).length : Int) := by rw [IntKind.wrap_i64]; simp; omega
    have hcb := hr c (by simp)
    have hF := F52_eq c (by omega)
    obtain ⟨_, hsh1, hsh2⟩ := fieldsV_shape c
    have hl1 : (acc.length + 1) * 64 ≤ 140737488355328 := by omega
    have hl2 : acc.length + 1 ≤ 140737488355328 := by omega
    rcases hfl : fieldsL c with _ | ⟨a, _ | ⟨b, _ | ⟨d, t⟩⟩⟩
    · have hn : namedV (c :: rest) = none := by simp [namedV, hfl]
      rw [hfl] at hF; simp only [strs, List.map_nil] at hF
      rw [hn]
      refine rounds_out ?_ (by simp)
      simp [b1049_0, List.replicate, hlt, hc, h52, hF]
    · have hn : namedV (c :: rest) = none := by simp [namedV, hfl]
      rw [hfl] at hF; simp only [strs, List.map_nil, List.map_cons] at hF
      rw [hn]
      refine rounds_out ?_ (by simp)
      simp [b1049_0, List.replicate, hlt, hc, h52, hF]
    · rw [hfl] at hF hsh2
      have hF2 := F77_eq [b] (by simp) (fun s hs' => by have := hsh2 s (by simp at hs'; simp [hs']); omega)
      simp only [strs, List.map_nil, List.map_cons] at hF hF2
      cases hd : decV b with
      | none =>
        have hn : namedV (c :: rest) = none := by simp [namedV, hfl, hd]
        rw [hn]
        simp only [decsV, hd] at hF2
        refine rounds_out ?_ (by simp)
        simp [b1049_0, List.replicate, hlt, hc, h52, hF, h97, hF2]
      | some v =>
        simp only [decsV, hd, u64s, List.map_cons, List.map_nil] at hF2
        have := ih (pre ++ [.str c]) (acc ++ [RowD.sv ⟨a, [v], []⟩]) k (by rw [hsp]; simp [strs]) (fun n hn => hr n (by simp [hn])) (by simp [hal]) (by simp at hk; omega)
        have key : rounds (evC E cf m b1049_0) (k + 1) { tm := [t0, .sv .undef, .sv .undef, .sv .undef, accA 35 acc, .sv .undef, .sv .undef, .sv .undef, .sv .undef, .sv .undef, .sv .undef, .sv (.sl xs), .sv (.int .i64 xs.length), .sv (.int .i64 pre.length)] ++ List.replicate 28 (.sv .undef), lz := none, bx := [], df := [] } = rounds (evC E cf m b1049_0) k { tm := [t0, .sv .undef, .sv .undef, .sv .undef, accA 35 (acc ++ [RowD.sv ⟨a, [v], []⟩]), .sv .undef, .sv .undef, .sv .undef, .sv .undef, .sv .undef, .sv .undef, .sv (.sl xs), .sv (.int .i64 xs.length), .sv (.int .i64 (pre ++ [SV.str c]).length)] ++ List.replicate 28 (.sv .undef), lz := none, bx := [], df := [] } := by
          refine rounds_step ?_
          cases acc with
          | nil => simp [b1049_0, List.replicate, hlt, hc, hw2, h52, hF, h97, hF2, accA, RowD.sv, strs, u64s]
          | cons y ys =>
            simp only [List.length_cons] at hl1 hl2
            simp [b1049_0, List.replicate, hlt, hc, hw2, h52, hF, h97, hF2, accA, RowD.sv, strs, u64s, hl1, hl2]
        rw [key, this]
        cases hn2 : namedV rest with
        | none => simp [namedV, hfl, hd, hn2]
        | some rs => simp [namedV, hfl, hd, hn2, rowsSV]
    · have hn : namedV (c :: rest) = none := by simp [namedV, hfl]
      rw [hfl] at hF; simp only [strs, List.map_cons] at hF
      rw [hn]
      have e1 : ¬ ((t.length : Int) + 1 + 1 + 1 = 2) := by omega
      refine rounds_out ?_ (by simp)
      simp [b1049_0, List.replicate, hlt, hc, h52, hF, e1]

theorem ev1049 (E : Env) (h : E.code 49 = some c1049) (h28 : E.pure 64 = some F28) (h52 : E.pure 65 = some F52) (h78 : E.pure 98 = some F78) (h97 : E.pure 97 = some F77) (s : List UInt8) (hs : s.length ≤ 40000) (n : Nat) (hn : s.length + 1 < n) :
    evP E n 49 [.str s] = some (.sv (.tup (match namedV (linesL s) with | some rs => [.sl (rowsSV rs), .bool (s.all plainC)] | none => [.sl [], .bool false]))) := by
  unfold evP
  simp only [h]
  obtain ⟨_, k1, k2⟩ := linesV_shape s
  have hF28 := F28_eq s (by omega)
  have hF78 := F78_eq s (by omega)
  have hl := loop1049 E (evF E n) h52 h97 (strs (linesL s)) (by rw [strs_length]; omega) n (.sv (.str s)) (linesL s) [] [] n rfl (fun x hx => by have := k2 x hx; omega) rfl (by omega)
  simp only [accA, List.replicate, List.cons_append, List.nil_append, List.length_nil, Int.ofNat_zero, Int.natCast_zero] at hl
  generalize s.all plainC = pl at hF78 ⊢
  cases hv : namedV (linesL s) with
  | none => simp only [hv] at hl; simp [c1049, List.replicate, h28, hF28, hl]
  | some ms =>
    simp only [hv] at hl
    cases ms with
    | nil => simp only [rowsSV, List.map_nil, accA] at hl; simp [c1049, List.replicate, h28, hF28, hl, h78, hF78, rowsSV]
    | cons x xs => simp only [rowsSV, List.map_cons, accA] at hl; simp [c1049, List.replicate, h28, hF28, hl, h78, hF78, rowsSV]

noncomputable def F1049 : List SV → Option AV
  | [.str s] => onlyIf (s.length ≤ 40000) (some (.sv (.tup (match namedV (linesL s) with | some rs => [.sl (rowsSV rs), .bool (s.all plainC)] | none => [.sl [], .bool false]))))
  | _ => none

theorem namedV_fit {B : Nat} : ∀ {l : List (List UInt8)} {rs : List RowD}, namedV l = some rs → (∀ s ∈ l, s.length ≤ B) → rs.length = l.length ∧ ∀ r ∈ rs, r.name.length ≤ B ∧ (∃ n, r.N = [n] ∧ n < 18446744073709551616) ∧ r.S = []
  | [], rs, h, _ => by simp only [namedV, Option.some.injEq] at h; subst h; simp
  | s :: l, rs, h, hB => by
    simp only [namedV] at h
    obtain ⟨_, _, hsh⟩ := fieldsV_shape s
    rcases hfl : fieldsL s with _ | ⟨a, _ | ⟨b, _ | ⟨d, t⟩⟩⟩ <;> rw [hfl] at h hsh <;> simp only [reduceCtorEq] at h
    cases hd : decV b with
    | none => rw [hd] at h; simp only [reduceCtorEq] at h
    | some v =>
      rw [hd] at h
      cases hn : namedV l with
      | none => rw [hn] at h; simp only [reduceCtorEq] at h
      | some rs' =>
        rw [hn] at h
        simp only [Option.some.injEq] at h
        subst h
        obtain ⟨h1, h2⟩ := namedV_fit hn (fun x hx => hB x (by simp [hx]))
        refine ⟨by simp [h1], fun r hr => ?_⟩
        rcases List.mem_cons.1 hr with rfl | hr
        · refine ⟨?_, ⟨v, rfl, decV_lt hd⟩, rfl⟩
          have := hsh a (by simp); have := hB s (by simp); simp only; omega
        · exact h2 r hr

theorem namedV_rows {s : List UInt8} (hs : s.length ≤ 40000) {rs : List RowD} (h : namedV (linesL s) = some rs) : rowsFit3 rs := by
  obtain ⟨_, k1, k2⟩ := linesV_shape s
  obtain ⟨h1, h2⟩ := namedV_fit h (fun x hx => k2 x hx)
  refine ⟨by omega, fun r hr => ?_⟩
  obtain ⟨g1, ⟨n, g2, g3⟩, g4⟩ := h2 r hr
  exact ⟨by omega, by rw [g2]; simp, by rw [g2]; simpa using g3, by rw [g4]; simp, by rw [g4]; simp⟩

def xfRes (s : List UInt8) : List SV := match namedV (linesL s) with
  | some rs => [.sl (rowsSV rs), .bool (s.all plainC), .int .i64 (if (s.all plainC && xfFine rs) = true then 1 else 2)]
  | none => [.sl [], .bool false, .int .i64 2]

theorem ev1021 (E : Env) (h : E.code 21 = some c1021) (h49 : E.pure 49 = some F1049) (h39 : E.pure 39 = some F1039) (h50 : E.pure 50 = some F1050) (s : List UInt8) (hs : s.length ≤ 40000) (n : Nat) :
    evP E n 21 [.str s] = some (.sv (.tup (xfRes s))) := by
  unfold evP
  simp only [h]
  have hF : F1049 [.str s] = some (.sv (.tup (match namedV (linesL s) with | some rs => [.sl (rowsSV rs), .bool (s.all plainC)] | none => [.sl [], .bool false]))) := onlyIf_pos hs
  unfold xfRes
  cases hv : namedV (linesL s) with
  | none => simp only [hv] at hF; simp [c1021, List.replicate, h49, hF, h50, F1050]
  | some rs =>
    simp only [hv] at hF
    have hF39 := F1039_eq rs (namedV_rows hs hv)
    generalize s.all plainC = pl at hF ⊢
    cases pl with
    | false => simp [c1021, List.replicate, h49, hF, h50, F1050]
    | true => cases hx : xfFine rs <;> rw [hx] at hF39 <;> simp [c1021, List.replicate, h49, hF, h50, F1050, h39, hF39, hx]

noncomputable def F1021 : List SV → Option AV
  | [.str s] => onlyIf (s.length ≤ 40000) (some (.sv (.tup (xfRes s))))
  | _ => none

/-- What the reference reads, where it tells. -/
def xfRead (s : List UInt8) : Option (List RowD) := match namedV (linesL s) with
  | some rs => if (s.all plainC && xfFine rs) = true then some rs else none
  | none => none

theorem F1021_yes {s : List UInt8} {rs : List RowD} (hs : s.length ≤ 40000) (h : xfRead s = some rs) : F1021 [.str s] = some (.sv (.tup [.sl (rowsSV rs), .bool true, .int .i64 1])) := by
  have e : F1021 [.str s] = some (.sv (.tup (xfRes s))) := onlyIf_pos hs
  rw [e]
  unfold xfRead at h
  unfold xfRes
  cases hv : namedV (linesL s) with
  | none => rw [hv] at h; simp at h
  | some q =>
    rw [hv] at h
    simp only at h
    split at h
    · rename_i hc
      simp only [Option.some.injEq] at h; subst h
      simp only [hc, if_true]
      rw [Bool.and_eq_true] at hc
      rw [hc.1]
    · simp at h

theorem F1021_no {s : List UInt8} (hs : s.length ≤ 40000) (h : xfRead s = none) : ∃ l b, F1021 [.str s] = some (.sv (.tup [.sl l, .bool b, .int .i64 2])) := by
  have e : F1021 [.str s] = some (.sv (.tup (xfRes s))) := onlyIf_pos hs
  rw [e]
  unfold xfRead at h
  unfold xfRes
  cases hv : namedV (linesL s) with
  | none => exact ⟨[], false, rfl⟩
  | some q =>
    rw [hv] at h
    simp only at h
    split at h
    · simp at h
    · rename_i hc
      simp only [hc, if_false]
      exact ⟨_, _, rfl⟩

end Go.Ev

set_option linter.unusedSimpArgs false
set_option linter.unusedVariables false
namespace Go.Ev
open Go.Proofs

def valOf (rs : List RowD) (s : List UInt8) (v : Int) : Int := rs.foldl (fun v r => if r.name = s then ((r.N.headD 0 : Nat) : Int) else v) v

theorem cnt31_spec {r : RowD} (h : cnt31 r = true) : ∃ n, r.N = [n] ∧ n < 2147483648 ∧ r.S = [] := by
  obtain ⟨name, N, S⟩ := r
  unfold cnt31 at h
  simp only [Bool.and_eq_true, decide_eq_true_eq] at h
  obtain ⟨⟨h1, h2⟩, h3⟩ := h
  match N, h2 with
  | [n], _ => exact ⟨n, rfl, by simpa using h1, List.eq_nil_of_length_eq_zero h3⟩

theorem loop1018_0 (E : Env) (cf : CallF) (m : Nat) (xs : List SV) (hxs : xs.length < 1000000000) (s : List UInt8) (p : Nat) (z : Box) (a0 a2 a4 a14 a15 a16 : AV) :
    ∀ (rest : List RowD) (pre : List SV) (v : Int) (bx : List Box) (k : Nat), xs = pre ++ rowsSV rest → (∀ r ∈ rest, ∃ n, r.N = [n] ∧ n < 2147483648) → bx[p]? = some (nodeBox s 2 false v 0 0 [] (.sv (.sl []))) → rest.length < k →
      ∃ bx', bx'[p]? = some (nodeBox s 2 false (valOf rest s v) 0 0 [] (.sv (.sl []))) ∧
        rounds (evC E cf m b1018_0) k { tm := [a0, .sv .undef, a2, .sv .undef, a4, .sv .undef, .sv (.str s), .ptr (p + 1) 0, .sv .undef, .sv .undef, .sv .undef, .sv .undef, .sv .undef, .sv .undef, a14, a15, a16, .sv .undef, .sv .undef, .sv .undef, .sv .undef, .sv .undef, .sv (.sl xs), .sv (.int .i64 xs.length), .sv (.int .i64 pre.length)] ++ List.replicate 21 (.sv .undef), lz := none, bx := z :: bx, df := [] } =
          some (.exit 2, { tm := [a0, .sv .undef, a2, .sv .undef, a4, .sv .undef, .sv .undef, .ptr (p + 1) 0, .sv .undef, .sv .undef, .sv .undef, .sv .undef, .sv .undef, .sv .undef, a14, a15, a16] ++ List.replicate 29 (.sv .undef), lz := none, bx := z :: bx', df := [] }) := by
  intro rest
  induction rest with
  | nil =>
    intro pre v bx k hsp _ hb hk
    obtain ⟨k, rfl⟩ : ∃ k', k = k' + 1 := ⟨k - 1, by omega⟩
    have hlt : ¬ (pre.length < xs.length) := by rw [hsp]; simp [rowsSV]
    refine ⟨bx, hb, ?_⟩
    refine rounds_out ?_ (by simp)
    simp [b1018_0, List.replicate, hlt]
  | cons r rest ih =>
    intro pre v bx k hsp hr hb hk
    obtain ⟨k, rfl⟩ : ∃ k', k = k' + 1 := ⟨k - 1, by omega⟩
    have hlt : pre.length < xs.length := by rw [hsp]; simp [rowsSV]
    obtain ⟨n, hN, hn⟩ := hr r (by simp)
    have hc : ∀ h : pre.length < xs.length, xs[pre.length]'h = .agg [.str r.name, .sl [.int .u64 (n : Int)], .sl (strs r.S)] := by subst hsp; simp [rowsSV, RowD.sv, hN, u64s]
    have hw2 : IntKind.i64.wrap ((pre.length : Int) + 1) = ((pre ++ [r.sv]).length : Int) := by rw [IntKind.wrap_i64]; simp; omega
    have hwn : IntKind.i64.wrap (n : Int) = (n : Int) := by rw [IntKind.wrap_i64]; omega
    obtain ⟨hpb, hpe⟩ := List.getElem?_eq_some_iff.1 hb
    have hbi : ∀ h : p < bx.length, bx[p]'h = .live [.sv (.str s), .sv (.int .i64 2), .sv (.bool false), .sv (.int .i64 v), .sv (.int .u64 0), .sv (.flt .f64 0), .sv (.str []), .sv (.sl [])] := fun h => hpe
    have hpb1 : p < bx.length + 1 := by omega
    by_cases he : r.name = s
    · have e1 : (r.name == s) = true := by simpa using he
      obtain ⟨bx', g1, g2⟩ := ih (pre ++ [r.sv]) (n : Int) ((bx ++ [Box.live [.sv (.str r.name), .sv (.sl [.int .u64 (n : Int)]), .sv (.sl (strs r.S))]]).set p (nodeBox s 2 false (n : Int) 0 0 [] (.sv (.sl [])))) k (by rw [hsp]; simp [rowsSV]) (fun q hq => hr q (by simp [hq])) (by simp [hpb1]) (by simp at hk; omega)
      refine ⟨bx', by rw [g1]; simp [valOf, he, hN], ?_⟩
      rw [← g2]
      refine rounds_step ?_
      simp [b1018_0, List.replicate, hlt, hc, e1, he, hw2, hwn, hpb, hpb1, hbi, List.getElem_append, nodeBox]
    · have e1 : (r.name == s) = false := by simpa using he
      obtain ⟨bx', g1, g2⟩ := ih (pre ++ [r.sv]) v (bx ++ [Box.live [.sv (.str r.name), .sv (.sl [.int .u64 (n : Int)]), .sv (.sl (strs r.S))]]) k (by rw [hsp]; simp [rowsSV]) (fun q hq => hr q (by simp [hq])) (by rw [List.getElem?_append_left hpb]; exact hb) (by simp at hk; omega)
      refine ⟨bx', by rw [g1]; simp [valOf, he], ?_⟩
      rw [← g2]
      refine rounds_step ?_
      simp [b1018_0, List.replicate, hlt, hc, e1, he, hw2, hwn]

def xfKid (l : List RowD) (s : List UInt8) : SV := nodeV s 2 false (valOf l s 0) 0 0 [] []

theorem loop1018_1 (E : Env) (cf : CallF) (h66 : E.pure 42 = some F66) (l : List RowD) (hl : l.length < 1000000000) (ho : ∀ r ∈ l, ∃ n, r.N = [n] ∧ n < 2147483648) (ys : List (List UInt8)) (hys : ys.length < 1000000) (m : Nat) (hm : l.length < m) (z : Box) (b2 : AV) :
    ∀ (rest pre : List (List UInt8)) (acc : List SV) (bx : List Box) (k : Nat), ys = pre ++ rest → acc.length = pre.length → rest.length < k →
      ∃ bx', rounds (evC E cf m b1018_1) k { tm := [.sv (.sl (rowsSV l)), .sv .undef, b2, .sv .undef, accA 43 acc] ++ List.replicate 9 (.sv .undef) ++ [.sv (.sl (strs ys)), .sv (.int .i64 (strs ys).length), .sv (.int .i64 pre.length)] ++ List.replicate 29 (.sv .undef), lz := none, bx := z :: bx, df := [] } =
        some (.exit 0, { tm := [.sv .undef, .sv .undef, b2, .sv .undef, accA 43 (acc ++ rest.map (xfKid l))] ++ List.replicate 41 (.sv .undef), lz := none, bx := z :: bx', df := [] }) := by
  intro rest
  induction rest with
  | nil =>
    intro pre acc bx k hsp _ hk
    obtain ⟨k, rfl⟩ : ∃ k', k = k' + 1 := ⟨k - 1, by omega⟩
    have hlt : ¬ (pre.length < (strs ys).length) := by rw [strs_length, hsp]; simp
    refine ⟨bx, rounds_out ?_ (by simp)⟩
    simp [b1018_1, List.replicate, hlt]
  | cons s rest ih =>
    intro pre acc bx k hsp hal hk
    obtain ⟨k, rfl⟩ : ∃ k', k = k' + 1 := ⟨k - 1, by omega⟩
    have hlt : pre.length < (strs ys).length := by rw [strs_length, hsp]; simp
    have hpl : pre.length < ys.length := by rw [hsp]; simp
    have hc : ∀ h : pre.length < (strs ys).length, (strs ys)[pre.length]'h = .str s := by subst hsp; simp [strs]
    have hw2 : IntKind.i64.wrap ((pre.length : Int) + 1) = ((pre ++ [s]).length : Int) := by rw [IntKind.wrap_i64]; simp; omega
    have hl1 : (acc.length + 1) * 96 ≤ 140737488355328 := by omega
    have hl2 : acc.length + 1 ≤ 140737488355328 := by omega
    have hrl : (rowsSV l).length = l.length := by simp [rowsSV]
    obtain ⟨bx1, g1, g2⟩ := loop1018_0 E cf m (rowsSV l) (by rw [hrl]; exact hl) s bx.length z (.sv (.sl (rowsSV l))) b2 (accA 43 acc) (.sv (.sl (strs ys))) (.sv (.int .i64 (strs ys).length)) (.sv (.int .i64 pre.length)) l [] 0 (bx ++ [nodeBox s 2 false 0 0 0 [] (.sv (.sl []))]) m rfl ho (by simp) hm
    obtain ⟨hpb, hpe⟩ := List.getElem?_eq_some_iff.1 g1
    have hbi : ∀ h : bx.length < bx1.length, bx1[bx.length]'h = .live [.sv (.str s), .sv (.int .i64 2), .sv (.bool false), .sv (.int .i64 (valOf l s 0)), .sv (.int .u64 0), .sv (.flt .f64 0), .sv (.str []), .sv (.sl [])] := fun h => hpe
    obtain ⟨bx', he⟩ := ih (pre ++ [s]) (acc ++ [xfKid l s]) bx1 k (by rw [hsp]; simp) (by simp [hal]) (by simp at hk; omega)
    refine ⟨bx', ?_⟩
    rw [show acc ++ (s :: rest).map (xfKid l) = acc ++ [xfKid l s] ++ rest.map (xfKid l) from by simp, ← he]
    refine rounds_step ?_
    generalize hvv : valOf l s 0 = vv at hbi
    simp only [List.replicate, List.cons_append, List.nil_append, List.length_nil, Int.ofNat_zero, Int.natCast_zero, nodeBox] at g2
    cases acc with
    | nil => simp only [accA] at g2; simp [b1018_1, List.replicate, hlt, hc, hw2, h66, F66, nodeV, g2, hpb, hbi, accA, xfKid, hvv]
    | cons q qs =>
      simp only [List.length_cons] at hl1 hl2
      simp only [accA] at g2
      simp [b1018_1, List.replicate, hlt, hc, hw2, h66, F66, nodeV, g2, hpb, hbi, accA, hl1, hl2, xfKid, hvv]

def xfTree (l : List RowD) : SV := nodeV [] 8 false 0 0 0 [] (xfNames.map (xfKid l))

theorem xfFine_ok {l : List RowD} (h : xfFine l = true) : ∀ r ∈ l, ∃ n, r.N = [n] ∧ n < 2147483648 := by
  intro r hr
  unfold xfFine at h
  rw [Bool.and_eq_true, List.all_eq_true] at h
  have h1 := h.1 r hr
  unfold xfOk at h1
  rw [Bool.and_eq_true] at h1
  obtain ⟨n, h2, h3, _⟩ := cnt31_spec h1.2
  exact ⟨n, h2, h3⟩

theorem ev1018 (E : Env) (h : E.code 18 = some c1018) (h33 : E.pure 43 = some F33) (h39 : E.pure 39 = some F1039) (h41 : E.pure 41 = some F1041) (h66 : E.pure 42 = some F66) (l : List RowD) (hf : rowsFit3 l) (ho : xfFine l = true) (n : Nat) (hn : l.length + 28 < n) :
    evP E n 18 [.sl (rowsSV l)] = some (.sv (.tup [xfTree l, .int .i64 1])) := by
  unfold evP
  simp only [h]
  have hF := F1039_eq l hf
  rw [ho] at hF
  obtain ⟨bx', he⟩ := loop1018_1 E (evF E n) h66 l (by have := hf.1; omega) (xfFine_ok ho) xfNames (by decide) n (by omega) (.live [.sv (.str []), .sv (.int .i64 0), .sv (.bool false), .sv (.int .i64 0), .sv (.int .u64 0), .sv (.flt .f64 0), .sv (.str []), .sv .nilS]) (.ptr 0 0) xfNames [] [] [] n rfl rfl (by have : xfNames.length = 28 := rfl; omega)
  obtain ⟨x, xs, e⟩ : ∃ x xs, xfNames.map (xfKid l) = x :: xs := ⟨_, _, rfl⟩
  unfold xfTree
  rw [e] at he ⊢
  simp only [accA, List.replicate, List.cons_append, List.nil_append, List.length_nil, Int.ofNat_zero, Int.natCast_zero] at he
  simp [c1018, List.replicate, h39, hF, h41, F1041, he, h33, F33, nodeV]

noncomputable def F1018 : List SV → Option AV
  | [.sl l] => onlyIf (l = rowsSV (l.map unrow) ∧ rowsFit3 (l.map unrow) ∧ xfFine (l.map unrow) = true) (some (.sv (.tup [xfTree (l.map unrow), .int .i64 1])))
  | _ => none

theorem F1018_eq (l : List RowD) (h : rowsFit3 l) (ho : xfFine l = true) : F1018 [.sl (rowsSV l)] = some (.sv (.tup [xfTree l, .int .i64 1])) := by
  unfold F1018
  simp only [unrows]
  exact onlyIf_pos ⟨trivial, h, ho⟩

/-! ### The text -/

def xfLine (r : RowD) : List UInt8 := leftS r.name 24 ++ [9] ++ decS (r.N.headD 0) ++ [10]

theorem xfLine_len (r : RowD) (hr : r.fits3) (ho : ∃ n, r.N = [n] ∧ n < 2147483648) : (xfLine r).length ≤ 2147483800 := by
  obtain ⟨n, hN, hn⟩ := ho
  have l1 := leftS_len r.name 24
  have l2 := decS_len20 (show n < 18446744073709551616 by omega)
  have := hr.1
  simp only [xfLine, hN, List.length_append, List.length_cons, List.length_nil, List.headD_cons]
  omega

theorem loop1040 (E : Env) (cf : CallF) (h44 : E.pure 55 = some F44) (h45 : E.pure 85 = some F45) (xs : List SV) (m : Nat) (hxs : xs.length < 1000000000) :
    ∀ (rest : List RowD) (pre : List SV) (acc : List UInt8) (bx : List Box) (k : Nat), xs = pre ++ rowsSV rest → (∀ r ∈ rest, r.fits3 ∧ ∃ n, r.N = [n] ∧ n < 2147483648) → acc.length + rest.length * 2147483800 < 2305843009213693952 → rest.length < k →
      ∃ bx', rounds (evC E cf m b1040_0) k { tm := [.sv .undef, .sv (.int .i64 24), .sv .undef, .sv .undef, .sv .undef, .sv (.str acc), .sv .undef, .sv .undef, .sv (.sl xs), .sv (.int .i64 xs.length), .sv (.int .i64 pre.length)] ++ List.replicate 19 (.sv .undef), lz := none, bx := bx, df := [] } =
        some (.exit 0, { tm := [.sv .undef, .sv .undef, .sv .undef, .sv .undef, .sv .undef, .sv (.str (acc ++ (rest.map xfLine).flatten))] ++ List.replicate 24 (.sv .undef), lz := none, bx := bx', df := [] }) := by
  intro rest
  induction rest with
  | nil =>
    intro pre acc bx k hsp _ _ hk
    obtain ⟨k, rfl⟩ : ∃ k', k = k' + 1 := ⟨k - 1, by omega⟩
    have hlt : ¬ (pre.length < xs.length) := by rw [hsp]; simp [rowsSV]
    refine ⟨bx, rounds_out ?_ (by simp)⟩
    simp [b1040_0, List.replicate, hlt]
  | cons r rest ih =>
    intro pre acc bx k hsp hr hb hk
    obtain ⟨k, rfl⟩ : ∃ k', k = k' + 1 := ⟨k - 1, by omega⟩
    have hlt : pre.length < xs.length := by rw [hsp]; simp [rowsSV]
    have hll := xfLine_len r (hr r (by simp)).1 (hr r (by simp)).2
    obtain ⟨hfit, n, hN, hn⟩ := hr r (by simp)
    have hc : ∀ h : pre.length < xs.length, xs[pre.length]'h = .agg [.str r.name, .sl [.int .u64 (n : Int)], .sl (strs r.S)] := by subst hsp; simp [rowsSV, RowD.sv, hN, u64s]
    have hw2 : IntKind.i64.wrap ((pre.length : Int) + 1) = ((pre ++ [r.sv]).length : Int) := by rw [IntKind.wrap_i64]; simp; omega
    obtain ⟨bx', he⟩ := ih (pre ++ [r.sv]) (acc ++ xfLine r) (bx ++ [.live [.sv (.str r.name), .sv (.sl [.int .u64 (n : Int)]), .sv (.sl (strs r.S))]]) k (by rw [hsp]; simp [rowsSV]) (fun q hq => hr q (by simp [hq])) (by simp only [List.length_append, List.length_cons] at hb ⊢; omega) (by simp at hk; omega)
    refine ⟨bx', ?_⟩
    rw [show acc ++ ((r :: rest).map xfLine).flatten = acc ++ xfLine r ++ (rest.map xfLine).flatten from by simp, ← he]
    refine rounds_step ?_
    have hF44 : F44 [.str r.name, .int .i64 24] = some (.sv (.str (leftS r.name 24))) := F44_eq r.name 24 (by omega) (by have := hfit.1; omega)
    have hF45 : F45 [.int .u64 (n : Int)] = some (.sv (.str (decS n))) := by
      have : F45 [.int .u64 (n : Int)] = some (.sv (.str (decS (n : Int).toNat))) := onlyIf_pos ⟨by omega, by omega⟩
      simpa using this
    simp only [List.length_cons] at hb
    simp only [xfLine, hN, List.headD_cons, List.length_append, List.length_cons, List.length_nil] at hll
    have g1 : (leftS r.name 24).length + 1 < 4611686018427387904 := by omega
    have g2 : (leftS r.name 24).length + (1 + (decS n).length) < 4611686018427387904 := by omega
    have g3 : (leftS r.name 24).length + ((decS n).length + 1) < 4611686018427387904 := by omega
    have g4 : (leftS r.name 24).length + ((decS n).length + 1 + 1) < 4611686018427387904 := by omega
    have g5 : acc.length + ((leftS r.name 24).length + ((decS n).length + 1 + 1)) < 4611686018427387904 := by omega
    have g6 : (leftS r.name 24).length + 1 + (decS n).length < 4611686018427387904 := by omega
    have g7 : (leftS r.name 24).length + ((decS n).length + 1) + 1 < 4611686018427387904 := by omega
    have g8 : acc.length + ((leftS r.name 24).length + ((decS n).length + 1) + 1) < 4611686018427387904 := by omega
    simp [b1040_0, List.replicate, hlt, hc, hw2, h44, hF44, h45, hF45, xfLine, hN, g1, g2, g3, g4, g5, g6, g7, g8]

end Go.Ev

set_option linter.unusedSimpArgs false
set_option linter.unusedVariables false
namespace Go.Ev
open Go.Proofs

def xfText (l : List RowD) : List UInt8 := (l.map xfLine).flatten

theorem ev1040 (E : Env) (h : E.code 40 = some c1040) (h44 : E.pure 55 = some F44) (h45 : E.pure 85 = some F45) (l : List RowD) (hf : rowsFit3 l) (ho : ∀ r ∈ l, ∃ n, r.N = [n] ∧ n < 2147483648) (n : Nat) (hn : l.length < n) :
    evP E n 40 [.sl (rowsSV l), .int .i64 24] = some (.sv (.str (xfText l))) := by
  unfold evP
  simp only [h]
  have hlen : (rowsSV l).length = l.length := by simp [rowsSV]
  obtain ⟨hl, hf⟩ := hf
  obtain ⟨bx', he⟩ := loop1040 E (evF E n) h44 h45 (rowsSV l) n (by rw [hlen]; omega) l [] [] [] n rfl (fun r hr => ⟨hf r hr, ho r hr⟩) (by simp only [List.length_nil]; omega) hn
  simp only [List.replicate, List.cons_append, List.nil_append, List.length_nil, Int.ofNat_zero, Int.natCast_zero] at he
  unfold xfText
  generalize (l.map xfLine).flatten = o at he ⊢
  simp [c1040, List.replicate, he]

noncomputable def F1040 : List SV → Option AV
  | [.sl l, .int .i64 w] => onlyIf (w = 24 ∧ l = rowsSV (l.map unrow) ∧ rowsFit3 (l.map unrow) ∧ ∀ r ∈ l.map unrow, ∃ n, r.N = [n] ∧ n < 2147483648) (some (.sv (.str (xfText (l.map unrow)))))
  | _ => none

theorem F1040_eq (l : List RowD) (h : rowsFit3 l) (ho : ∀ r ∈ l, ∃ n, r.N = [n] ∧ n < 2147483648) : F1040 [.sl (rowsSV l), .int .i64 24] = some (.sv (.str (xfText l))) := by
  unfold F1040
  simp only [unrows]
  exact onlyIf_pos ⟨trivial, trivial, h, ho⟩

theorem ev1017 (E : Env) (h : E.code 17 = some c1017) (h39 : E.pure 39 = some F1039) (h40 : E.pure 40 = some F1040) (l : List RowD) (hf : rowsFit3 l) (n : Nat) :
    evP E n 17 [.sl (rowsSV l)] = some (.sv (.tup (if xfFine l = true then [.str (xfText l), .int .i64 1] else [.str [], .int .i64 2]))) := by
  unfold evP
  simp only [h]
  have hF := F1039_eq l hf
  cases hx : xfFine l with
  | false => rw [hx] at hF; simp [c1017, List.replicate, h39, hF]
  | true =>
    rw [hx] at hF
    have hF2 := F1040_eq l hf (xfFine_ok hx)
    simp [c1017, List.replicate, h39, hF, h40, hF2]

noncomputable def F1017 : List SV → Option AV
  | [.sl l] => onlyIf (l = rowsSV (l.map unrow) ∧ rowsFit3 (l.map unrow)) (some (.sv (.tup (if xfFine (l.map unrow) = true then [.str (xfText (l.map unrow)), .int .i64 1] else [.str [], .int .i64 2]))))
  | _ => none

theorem F1017_eq (l : List RowD) (h : rowsFit3 l) (ho : xfFine l = true) : F1017 [.sl (rowsSV l)] = some (.sv (.tup [.str (xfText l), .int .i64 1])) := by
  unfold F1017
  simp only [unrows, ho, if_true]
  exact onlyIf_pos ⟨trivial, h⟩

end Go.Ev
