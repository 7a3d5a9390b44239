/- What is written of swaps is read again; the law's frame: normal. -/
/- Reading of counters with names: numbers, sameness of names. -/
/- Counters of transformations: what is fine, what a text says. -/
/- Counters of transformations: the reference's reading. -/
/- Counters of transformations: the tree and the text. -/
/- Counters of transformations: their text. -/
/- Counters of transformations: the program's reading, whole. -/
/- Counters of transformations: what is written is read, and the laws. -/
/- Rows of an argument: what fits. -/
/- What is written is read as its tree: the law. -/
/- The table of functions, entry by entry: numbers, texts, lists. -/
/- The table of functions, entry by entry: swaps. -/
/- Entries of the counters of transformations. -/
/- The seat's tables; the sanity check by evaluation; what the listed variables hold. -/
/- Environments entry by entry. -/
/- Entries of the counters of transformations: what is written is read. -/
/- Tables of sockets: parts of a text, hexadecimal numbers, padding. -/
import Derived.Test.YtgonelmeonncpaaGreatDoorCan
import Derived.Test.YtgonelmeonncpaaGreatDoorCai
import Derived.Test.YtgonelmeonncpaaGreatDoorCah
import Derived.Test.YtgonelmeonncpaaGreatDoorCaj
import Derived.Test.YtgonelmeonncpaaGreatDoorCal
import Derived.Test.YtgonelmeonncpaaGreatDoorCam
import Derived.Laws.Externs
set_option linter.unusedSimpArgs false
set_option linter.unusedVariables false
namespace Go.Ev
open Go.Proofs

theorem digitV_dig {c : UInt8} (h : digC c = true) : digitV c.toNat = dgt c ∧ dgt c ≤ 9 := by
  have := digC_iff.1 h
  unfold digitV dgt
  rw [if_pos this]; omega

theorem numV_dig : ∀ (s : List UInt8) (a : Nat), (∀ c ∈ s, digC c = true) → digN a s < 18446744073709551616 → numV 10 a s = some (digN a s)
  | [], a, _, _ => by rw [digN_nil]; rfl
  | c :: s, a, h, hb => by
    obtain ⟨h1, h2⟩ := digitV_dig (h c (by simp))
    rw [digN_cons] at hb ⊢
    have hge := digN_ge s (a * 10 + dgt c)
    simp only [numV, h1]
    generalize dgt c = d at *
    rw [if_neg (by omega)]
    exact numV_dig s (a * 10 + d) (fun x hx => h x (by simp [hx])) hb

theorem numV_dec {n : Nat} (h : n < 18446744073709551616) : numV 10 0 (decS n) = some n := by
  obtain ⟨e1, e2, _⟩ := decS_dig n
  have := numV_dig (decS n) 0 e2 (by rw [e1]; exact h)
  rw [this, e1]

theorem wholeV_dec {n : Nat} (h : n < 18446744073709551616) : wholeV (decS n) = some n := by
  obtain ⟨e1, e2, e3⟩ := decS_dig n
  have hn := numV_dec h
  cases hs : decS n with
  | nil => exact absurd hs e3
  | cons c t =>
    rw [hs] at e2 hn
    have := digC_iff.1 (e2 c (by simp))
    unfold wholeV
    simp only
    rw [if_neg (by omega)]
    exact hn

theorem wholeV_sdec {n : Nat} (h : n < 18446744073709551616) : wholeV (sdecS (i64 n)) = some n := by
  unfold sdecS
  by_cases hn : i64 n < 0
  · rw [if_pos hn]
    have hi : i64 n = (n : Int) - 18446744073709551616 := by
      unfold i64 at hn ⊢
      rw [IntKind.wrap_i64] at hn ⊢; omega
    have hle : (-(i64 n)).toNat ≤ 9223372036854775808 := by have := i64_range n; omega
    have hm := numV_dec (n := (-(i64 n)).toNat) (by omega)
    obtain ⟨_, _, e3⟩ := decS_dig (-(i64 n)).toNat
    have hneg : negV (decS (-(i64 n)).toNat) = some (-(i64 n)).toNat := by
      unfold negV
      rw [hm]
      simp only
      rw [if_neg (fun hh => by rcases hh with hh | hh; omega; exact e3 hh)]
    unfold wholeV
    simp only
    rw [if_pos (show (45 : UInt8).toNat = 45 from rfl), hneg]
    simp only [Option.some.injEq]
    unfold twoC
    omega
  · rw [if_neg hn]
    have hi : i64 n = (n : Int) := by
      unfold i64 at hn ⊢
      rw [IntKind.wrap_i64] at hn ⊢; omega
    rw [hi, Int.toNat_natCast]
    exact wholeV_dec h

theorem swTab_bodies : ∀ {rs : List RowD}, (∀ r ∈ rs, swOk r = true ∧ r.fits2) → swTab (rs.map swBody) = some rs
  | [], _ => rfl
  | r :: rs, h => by
    obtain ⟨h1, h2⟩ := h r (by simp)
    obtain ⟨_, _, a, b, c, s, e1, e2, e3⟩ := swBody_spec h1
    have hN := h2.2.2.1
    simp only [List.map_cons, swTab, e3]
    rw [e1] at hN
    have hw : wholesV [decS a, decS b, sdecS (i64 c)] = some [a, b, c] := by
      simp only [wholesV, wholeV_dec (hN a (by simp)), wholeV_dec (hN b (by simp)), wholeV_sdec (hN c (by simp))]
    rw [hw, swTab_bodies (fun q hq => h q (by simp [hq]))]
    obtain ⟨name, N, S⟩ := r
    simp only at e1 e2
    subst e1; subst e2
    rfl

theorem wordC_plain {c : UInt8} (h : wordC c = true) : plainC c = true := by
  simp only [wordC, Bool.and_eq_true, decide_eq_true_eq] at h
  simp [plainC]; omega

theorem digC_plain {c : UInt8} (h : digC c = true) : plainC c = true := by
  have := digC_iff.1 h
  simp [plainC]; omega

theorem sdecS_plain {n : Int} : ∀ c ∈ sdecS n, plainC c = true := by
  unfold sdecS
  split
  · obtain ⟨_, h2, _⟩ := decS_dig (-n).toNat
    intro c hc
    rcases List.mem_cons.1 hc with rfl | hc
    · decide
    · exact digC_plain (h2 c hc)
  · obtain ⟨_, h2, _⟩ := decS_dig n.toNat
    exact fun c hc => digC_plain (h2 c hc)

theorem swText_plain {rs : List RowD} (h : ∀ r ∈ rs, swOk r = true) : ∀ c ∈ swText rs, plainC c = true := by
  intro c hc
  unfold swText at hc
  rcases List.mem_append.1 hc with hc | hc
  · exact (show ∀ c ∈ swHead, plainC c = true by decide) c hc
  · obtain ⟨l, hl, hc⟩ := List.mem_flatten.1 hc
    obtain ⟨r, hr, rfl⟩ := List.mem_map.1 hl
    obtain ⟨a, b, k, s, e1, e2, w1, w2, _⟩ := swOk_spec (h r hr)
    obtain ⟨n1, n2⟩ := isWord_spec w1
    obtain ⟨s1, s2⟩ := isWord_spec w2
    obtain ⟨_, a2, _⟩ := decS_dig a
    obtain ⟨_, b2, _⟩ := decS_dig b
    obtain ⟨name, N, S⟩ := r
    simp only at e1 e2
    subst e1; subst e2
    simp only [swLine, List.mem_append, List.mem_cons, List.not_mem_nil, or_false] at hc
    rcases hc with (((((((((hc | rfl) | hc) | rfl) | hc) | rfl) | hc) | rfl) | hc) | rfl)
    · rcases leftS_mem hc with hc | rfl
      · exact wordC_plain (n2 c hc)
      · decide
    · decide
    · rcases leftS_mem hc with hc | rfl
      · exact wordC_plain (s2 c hc)
      · decide
    · decide
    · exact digC_plain (a2 c hc)
    · decide
    · exact digC_plain (b2 c hc)
    · decide
    · exact sdecS_plain c hc
    · decide

/-- What is written of rows is read as these rows. -/
theorem swRead_text {rs : List RowD} (h : ∀ r ∈ rs, swOk r = true ∧ r.fits2) : swRead (swText rs) = some rs := by
  have ho : ∀ r ∈ rs, swOk r = true := fun r hr => (h r hr).1
  unfold swRead
  rw [swText_lines ho]
  simp only [swTab_bodies h]
  rw [if_pos ⟨List.all_eq_true.2 (swText_plain ho), List.all_eq_true.2 ho, .inl trivial⟩]

/-! ### normal -/

theorem swTree_node {rs : List RowD} (h : ∀ r ∈ rs, swOk r = true) (hl : rs.length < 1000000000) : IsNode (swTree rs) := by
  refine .mk _ _ _ _ _ _ _ _ (by simpa using hl) fun k hk => ?_
  obtain ⟨r, hr, rfl⟩ := List.mem_map.1 hk
  obtain ⟨a, b, c, s, e1, e2, _⟩ := swOk_spec (h r hr)
  obtain ⟨name, N, S⟩ := r
  simp only at e1 e2
  subst e1; subst e2
  refine .mk _ _ _ _ _ _ _ _ (by simp) fun k hk => ?_
  simp only [List.mem_cons, List.not_mem_nil, or_false] at hk
  rcases hk with rfl | rfl | rfl | rfl | rfl <;> exact .mk _ _ _ _ _ _ _ _ (by simp) (by simp)

theorem F18_eq (s : List UInt8) (hs : s.length ≤ 40000) : F18 [.str s] = some (.sv (.tup (match swRead s with | some rs => [.sl (rowsSV rs), .bool true, .int .i64 1] | none => [.sl [], .bool false, .int .i64 2]))) := onlyIf_pos hs

end Go.Ev

set_option linter.unusedSimpArgs false
set_option linter.unusedVariables false
namespace Go.Ev
open Go.Proofs

/-- Rows as an argument may hold them. -/
def RowD.fits3 (r : RowD) : Prop := r.name.length < 2147483648 ∧ r.N.length < 100000000000 ∧ (∀ n ∈ r.N, n < 18446744073709551616) ∧ r.S.length < 2147483648 ∧ ∀ s ∈ r.S, s.length < 2147483648

def rowsFit3 (l : List RowD) : Prop := l.length < 100000000 ∧ ∀ r ∈ l, r.fits3

def distP (pre : List (List UInt8)) : List (List UInt8) → Bool
  | [] => true
  | c :: rest => pre.all (fun p => !(c == p)) && distP (pre ++ [c]) rest

noncomputable def F1084 : List SV → Option AV
  | [.sl l] => onlyIf (l = rowsSV (l.map unrow) ∧ l.length < 1000000000) (some (.sv (.bool (distP [] ((l.map unrow).map RowD.name)))))
  | _ => none

theorem F1084_eq (l : List RowD) (h : l.length < 1000000000) : F1084 [.sl (rowsSV l)] = some (.sv (.bool (distP [] (l.map RowD.name)))) := by
  unfold F1084
  simp only [unrows]
  exact onlyIf_pos ⟨trivial, by simpa [rowsSV] using h⟩

/-! ### So many numbers of so many bits -/

def cnt31 (r : RowD) : Bool := r.N.all (fun n => decide (n < 2147483648)) && decide (r.N.length = 1) && decide (r.S.length = 0)

theorem loop1083 (E : Env) (cf : CallF) (xs : List SV) (hs : xs.length < 1000000000000) (m : Nat) (bx : List Box) (a1 a3 a4 : AV) :
    ∀ (rest : List Nat) (pre : List SV) (k : Nat), xs = pre ++ u64s rest → (∀ n ∈ rest, n < 18446744073709551616) → rest.length < k →
      rounds (evC E cf m b1083_0) k { tm := [.sv .undef, a1, .sv (.int .i64 31), a3, a4, .sv .undef, .sv .undef, .sv .undef, .sv .undef, .sv .undef, .sv .undef, .sv .undef, .sv (.sl xs), .sv (.int .i64 xs.length), .sv (.int .i64 pre.length)] ++ List.replicate 23 (.sv .undef), lz := none, bx := bx, df := [] } =
        if rest.all (fun n => decide (n < 2147483648)) = true then some (.exit 0, { tm := [.sv .undef, a1, .sv .undef, a3, a4] ++ List.replicate 33 (.sv .undef), lz := none, bx := bx, df := [] })
        else some (.ret, { tm := List.replicate 8 (.sv .undef) ++ [.sv (.bool false)] ++ List.replicate 29 (.sv .undef), lz := none, bx := bx, df := [] }) := by
  intro rest
  induction rest with
  | nil =>
    intro pre k hsp _ hk
    obtain ⟨k, rfl⟩ : ∃ k', k = k' + 1 := ⟨k - 1, by omega⟩
    have hlt : ¬ (pre.length < xs.length) := by rw [hsp]; simp [u64s]
    refine rounds_out ?_ (by simp)
    simp [b1083_0, List.replicate, hlt]
  | cons c rest ih =>
    intro pre k hsp hr hk
    obtain ⟨k, rfl⟩ : ∃ k', k = k' + 1 := ⟨k - 1, by omega⟩
    have hlt : pre.length < xs.length := by rw [hsp]; simp [u64s]
    have hc : ∀ h : pre.length < xs.length, xs[pre.length]'h = .int .u64 (c : Int) := by subst hsp; simp [u64s]
    have hw2 : IntKind.i64.wrap ((pre.length : Int) + 1) = ((pre ++ [SV.int .u64 (c : Int)]).length : Int) := by rw [IntKind.wrap_i64]; simp; omega
    have w1 : IntKind.i64.wrap 30 = 30 := by decide
    have w0 : IntKind.u64.bits = 64 := rfl
    have w2 : IntKind.u64.wrap 1073741824 = 1073741824 := by decide
    have w3 : IntKind.u64.wrap 2147483648 = 2147483648 := by decide
    have w4 : IntKind.u64.wrap 2147483647 = 2147483647 := by decide
    by_cases h1 : c < 2147483648
    · have e : ¬ (2147483647 : Int) < (c : Int) := by omega
      have := ih (pre ++ [.int .u64 (c : Int)]) k (by rw [hsp]; simp [u64s]) (fun n hn => hr n (by simp [hn])) (by simp at hk; omega)
      rw [show (c :: rest).all (fun n => decide (n < 2147483648)) = rest.all (fun n => decide (n < 2147483648)) from by simp [h1], ← this]
      refine rounds_step ?_
      simp [b1083_0, List.replicate, hlt, hc, e, hw2, w0, w1, w2, w3, w4]
    · have e : (2147483647 : Int) < (c : Int) := by omega
      rw [if_neg (by simp [h1])]
      refine rounds_out ?_ (by simp)
      simp [b1083_0, List.replicate, hlt, hc, e, w0, w1, w2, w3, w4]

theorem ev1083 (E : Env) (h : E.code 158 = some c1083) (r : RowD) (hr : r.fits3) (n : Nat) (hn : r.N.length < n) :
    evP E n 158 [r.sv, .int .i64 1, .int .i64 31, .int .i64 0] = some (.sv (.bool (cnt31 r))) := by
  unfold evP
  simp only [h]
  obtain ⟨name, N, S⟩ := r
  have hsl : (u64s N).length = N.length := u64s_length N
  have hst : (strs S).length = S.length := strs_length S
  have hl := loop1083 E (evF E n) (u64s N) (by rw [hsl]; have := hr.2.1; simp only at this; omega) n [.live [.sv (.str name), .sv (.sl (u64s N)), .sv (.sl (strs S))]] (.sv (.int .i64 1)) (.sv (.int .i64 0)) (.ptr 0 0) N [] n rfl hr.2.2.1 hn
  simp only [List.replicate, List.cons_append, List.nil_append, List.length_nil, Int.ofNat_zero, Int.natCast_zero, hsl] at hl
  have b1 : ((N.length : Int) == 1) = decide (N.length = 1) := by rw [Bool.eq_iff_iff]; simp; omega
  have b2 : ((S.length : Int) == 0) = decide (S.length = 0) := by rw [Bool.eq_iff_iff]; simp
  simp only [cnt31, RowD.sv]
  cases hv : N.all (fun n => decide (n < 2147483648)) with
  | false => simp only [hv, Bool.false_eq_true, if_false] at hl; simp [c1083, List.replicate, hl, hsl]
  | true =>
    simp only [hv, if_true] at hl
    by_cases h1 : N.length = 1
    · have e1 : ((N.length : Nat) : Int) = 1 := by omega
      rw [e1] at hl
      simp [c1083, List.replicate, hl, hsl, hst, b1, b2, h1]
    · simp [c1083, List.replicate, hl, hsl, hst, b1, b2, h1]

end Go.Ev

set_option linter.unusedSimpArgs false
set_option linter.unusedVariables false
namespace Go.Ev
open Go.Proofs

def xfNames : List (List UInt8) := [[88, 102, 114, 109, 73, 110, 69, 114, 114, 111, 114], [88, 102, 114, 109, 73, 110, 66, 117, 102, 102, 101, 114, 69, 114, 114, 111, 114], [88, 102, 114, 109, 73, 110, 72, 100, 114, 69, 114, 114, 111, 114], [88, 102, 114, 109, 73, 110, 78, 111, 83, 116, 97, 116, 101, 115], [88, 102, 114, 109, 73, 110, 83, 116, 97, 116, 101, 80, 114, 111, 116, 111, 69, 114, 114, 111, 114], [88, 102, 114, 109, 73, 110, 83, 116, 97, 116, 101, 77, 111, 100, 101, 69, 114, 114, 111, 114], [88, 102, 114, 109, 73, 110, 83, 116, 97, 116, 101, 83, 101, 113, 69, 114, 114, 111, 114], [88, 102, 114, 109, 73, 110, 83, 116, 97, 116, 101, 69, 120, 112, 105, 114, 101, 100], [88, 102, 114, 109, 73, 110, 83, 116, 97, 116, 101, 77, 105, 115, 109, 97, 116, 99, 104], [88, 102, 114, 109, 73, 110, 83, 116, 97, 116, 101, 73, 110, 118, 97, 108, 105, 100], [88, 102, 114, 109, 73, 110, 84, 109, 112, 108, 77, 105, 115, 109, 97, 116, 99, 104], [88, 102, 114, 109, 73, 110, 78, 111, 80, 111, 108, 115], [88, 102, 114, 109, 73, 110, 80, 111, 108, 66, 108, 111, 99, 107], [88, 102, 114, 109, 73, 110, 80, 111, 108, 69, 114, 114, 111, 114], [88, 102, 114, 109, 79, 117, 116, 69, 114, 114, 111, 114], [88, 102, 114, 109, 79, 117, 116, 66, 117, 110, 100, 108, 101, 71, 101, 110, 69, 114, 114, 111, 114], [88, 102, 114, 109, 79, 117, 116, 66, 117, 110, 100, 108, 101, 67, 104, 101, 99, 107, 69, 114, 114, 111, 114], [88, 102, 114, 109, 79, 117, 116, 78, 111, 83, 116, 97, 116, 101, 115], [88, 102, 114, 109, 79, 117, 116, 83, 116, 97, 116, 101, 80, 114, 111, 116, 111, 69, 114, 114, 111, 114], [88, 102, 114, 109, 79, 117, 116, 83, 116, 97, 116, 101, 77, 111, 100, 101, 69, 114, 114, 111, 114], [88, 102, 114, 109, 79, 117, 116, 83, 116, 97, 116, 101, 83, 101, 113, 69, 114, 114, 111, 114], [88, 102, 114, 109, 79, 117, 116, 83, 116, 97, 116, 101, 69, 120, 112, 105, 114, 101, 100], [88, 102, 114, 109, 79, 117, 116, 80, 111, 108, 66, 108, 111, 99, 107], [88, 102, 114, 109, 79, 117, 116, 80, 111, 108, 68, 101, 97, 100], [88, 102, 114, 109, 79, 117, 116, 80, 111, 108, 69, 114, 114, 111, 114], [88, 102, 114, 109, 70, 119, 100, 72, 100, 114, 69, 114, 114, 111, 114], [88, 102, 114, 109, 79, 117, 116, 83, 116, 97, 116, 101, 73, 110, 118, 97, 108, 105, 100], [88, 102, 114, 109, 65, 99, 113, 117, 105, 114, 101, 69, 114, 114, 111, 114]]

def F1041 : List SV → Option AV
  | [] => some (.sv (.sl (strs xfNames)))
  | _ => none

noncomputable def F1083 : List SV → Option AV
  | [.agg [.str s, .sl ns, .sl ss], .int .i64 a, .int .i64 b, .int .i64 c] => onlyIf (a = 1 ∧ b = 31 ∧ c = 0 ∧ SV.agg [.str s, .sl ns, .sl ss] = (unrow (.agg [.str s, .sl ns, .sl ss])).sv ∧ (unrow (.agg [.str s, .sl ns, .sl ss])).fits3) (some (.sv (.bool (cnt31 (unrow (.agg [.str s, .sl ns, .sl ss]))))))
  | _ => none

theorem F1083_eq (r : RowD) (h : r.fits3) : F1083 [.agg [.str r.name, .sl (u64s r.N), .sl (strs r.S)], .int .i64 1, .int .i64 31, .int .i64 0] = some (.sv (.bool (cnt31 r))) := by
  have hu : unrow (.agg [.str r.name, .sl (u64s r.N), .sl (strs r.S)]) = r := unrow_sv r
  unfold F1083
  simp only [hu]
  exact onlyIf_pos ⟨trivial, trivial, trivial, rfl, h⟩

def xfOk (r : RowD) : Bool := xfNames.any (fun s => s == r.name) && cnt31 r
def xfFine (l : List RowD) : Bool := l.all xfOk && distP [] (l.map RowD.name)

noncomputable def F1039 : List SV → Option AV
  | [.sl l] => onlyIf (l = rowsSV (l.map unrow) ∧ rowsFit3 (l.map unrow)) (some (.sv (.bool (xfFine (l.map unrow)))))
  | _ => none

theorem F1039_eq (l : List RowD) (h : rowsFit3 l) : F1039 [.sl (rowsSV l)] = some (.sv (.bool (xfFine l))) := by
  unfold F1039
  simp only [unrows]
  exact onlyIf_pos ⟨trivial, h⟩

def F1050 : List SV → Option AV
  | [.bool b] => some (.sv (.int .i64 (if b then 1 else 2)))
  | _ => none

end Go.Ev

set_option linter.unusedSimpArgs false
set_option linter.unusedVariables false
namespace Go.Ev
open Go.Proofs

/-- Names with numbers. -/
def namedV : List (List UInt8) → Option (List RowD)
  | [] => some []
  | s :: l => match fieldsL s with
    | [a, b] => match decV b with
      | some n => match namedV l with
        | some rs => some (⟨a, [n], []⟩ :: rs)
        | none => none
      | none => none
    | _ => none

noncomputable def F1049 : List SV → Option AV
  | [.str s] => onlyIf (s.length ≤ 40000) (some (.sv (.tup (match namedV (linesL s) with | some rs => [.sl (rowsSV rs), .bool (s.all plainC)] | none => [.sl [], .bool false]))))
  | _ => none

theorem namedV_fit {B : Nat} : ∀ {l : List (List UInt8)} {rs : List RowD}, namedV l = some rs → (∀ s ∈ l, s.length ≤ B) → rs.length = l.length ∧ ∀ r ∈ rs, r.name.length ≤ B ∧ (∃ n, r.N = [n] ∧ n < 18446744073709551616) ∧ r.S = []
  | [], rs, h, _ => by simp only [namedV, Option.some.injEq] at h; subst h; simp
  | s :: l, rs, h, hB => by
    simp only [namedV] at h
    obtain ⟨_, _, hsh⟩ := fieldsV_shape s
    rcases hfl : fieldsL s with _ | ⟨a, _ | ⟨b, _ | ⟨d, t⟩⟩⟩ <;> rw [hfl] at h hsh <;> simp only [reduceCtorEq] at h
    cases hd : decV b with
    | none => rw [hd] at h; simp only [reduceCtorEq] at h
    | some v =>
      rw [hd] at h
      cases hn : namedV l with
      | none => rw [hn] at h; simp only [reduceCtorEq] at h
      | some rs' =>
        rw [hn] at h
        simp only [Option.some.injEq] at h
        subst h
        obtain ⟨h1, h2⟩ := namedV_fit hn (fun x hx => hB x (by simp [hx]))
        refine ⟨by simp [h1], fun r hr => ?_⟩
        rcases List.mem_cons.1 hr with rfl | hr
        · refine ⟨?_, ⟨v, rfl, decV_lt hd⟩, rfl⟩
          have := hsh a (by simp); have := hB s (by simp); simp only; omega
        · exact h2 r hr

theorem namedV_rows {s : List UInt8} (hs : s.length ≤ 40000) {rs : List RowD} (h : namedV (linesL s) = some rs) : rowsFit3 rs := by
  obtain ⟨_, k1, k2⟩ := linesV_shape s
  obtain ⟨h1, h2⟩ := namedV_fit h (fun x hx => k2 x hx)
  refine ⟨by omega, fun r hr => ?_⟩
  obtain ⟨g1, ⟨n, g2, g3⟩, g4⟩ := h2 r hr
  exact ⟨by omega, by rw [g2]; simp, by rw [g2]; simpa using g3, by rw [g4]; simp, by rw [g4]; simp⟩

def xfRes (s : List UInt8) : List SV := match namedV (linesL s) with
  | some rs => [.sl (rowsSV rs), .bool (s.all plainC), .int .i64 (if (s.all plainC && xfFine rs) = true then 1 else 2)]
  | none => [.sl [], .bool false, .int .i64 2]

noncomputable def F1021 : List SV → Option AV
  | [.str s] => onlyIf (s.length ≤ 40000) (some (.sv (.tup (xfRes s))))
  | _ => none

/-- What the reference reads, where it tells. -/
def xfRead (s : List UInt8) : Option (List RowD) := match namedV (linesL s) with
  | some rs => if (s.all plainC && xfFine rs) = true then some rs else none
  | none => none

theorem F1021_yes {s : List UInt8} {rs : List RowD} (hs : s.length ≤ 40000) (h : xfRead s = some rs) : F1021 [.str s] = some (.sv (.tup [.sl (rowsSV rs), .bool true, .int .i64 1])) := by
  have e : F1021 [.str s] = some (.sv (.tup (xfRes s))) := onlyIf_pos hs
  rw [e]
  unfold xfRead at h
  unfold xfRes
  cases hv : namedV (linesL s) with
  | none => rw [hv] at h; simp at h
  | some q =>
    rw [hv] at h
    simp only at h
    split at h
    · rename_i hc
      simp only [Option.some.injEq] at h; subst h
      simp only [hc, if_true]
      rw [Bool.and_eq_true] at hc
      rw [hc.1]
    · simp at h

theorem F1021_no {s : List UInt8} (hs : s.length ≤ 40000) (h : xfRead s = none) : ∃ l b, F1021 [.str s] = some (.sv (.tup [.sl l, .bool b, .int .i64 2])) := by
  have e : F1021 [.str s] = some (.sv (.tup (xfRes s))) := onlyIf_pos hs
  rw [e]
  unfold xfRead at h
  unfold xfRes
  cases hv : namedV (linesL s) with
  | none => exact ⟨[], false, rfl⟩
  | some q =>
    rw [hv] at h
    simp only at h
    split at h
    · simp at h
    · rename_i hc
      simp only [hc, if_false]
      exact ⟨_, _, rfl⟩

end Go.Ev

set_option linter.unusedSimpArgs false
set_option linter.unusedVariables false
namespace Go.Ev
open Go.Proofs

def valOf (rs : List RowD) (s : List UInt8) (v : Int) : Int := rs.foldl (fun v r => if r.name = s then ((r.N.headD 0 : Nat) : Int) else v) v

theorem cnt31_spec {r : RowD} (h : cnt31 r = true) : ∃ n, r.N = [n] ∧ n < 2147483648 ∧ r.S = [] := by
  obtain ⟨name, N, S⟩ := r
  unfold cnt31 at h
  simp only [Bool.and_eq_true, decide_eq_true_eq] at h
  obtain ⟨⟨h1, h2⟩, h3⟩ := h
  match N, h2 with
  | [n], _ => exact ⟨n, rfl, by simpa using h1, List.eq_nil_of_length_eq_zero h3⟩

def xfKid (l : List RowD) (s : List UInt8) : SV := nodeV s 2 false (valOf l s 0) 0 0 [] []

def xfTree (l : List RowD) : SV := nodeV [] 8 false 0 0 0 [] (xfNames.map (xfKid l))

theorem xfFine_ok {l : List RowD} (h : xfFine l = true) : ∀ r ∈ l, ∃ n, r.N = [n] ∧ n < 2147483648 := by
  intro r hr
  unfold xfFine at h
  rw [Bool.and_eq_true, List.all_eq_true] at h
  have h1 := h.1 r hr
  unfold xfOk at h1
  rw [Bool.and_eq_true] at h1
  obtain ⟨n, h2, h3, _⟩ := cnt31_spec h1.2
  exact ⟨n, h2, h3⟩

noncomputable def F1018 : List SV → Option AV
  | [.sl l] => onlyIf (l = rowsSV (l.map unrow) ∧ rowsFit3 (l.map unrow) ∧ xfFine (l.map unrow) = true) (some (.sv (.tup [xfTree (l.map unrow), .int .i64 1])))
  | _ => none

theorem F1018_eq (l : List RowD) (h : rowsFit3 l) (ho : xfFine l = true) : F1018 [.sl (rowsSV l)] = some (.sv (.tup [xfTree l, .int .i64 1])) := by
  unfold F1018
  simp only [unrows]
  exact onlyIf_pos ⟨trivial, h, ho⟩

/-! ### The text -/

def xfLine (r : RowD) : List UInt8 := leftS r.name 24 ++ [9] ++ decS (r.N.headD 0) ++ [10]

theorem xfLine_len (r : RowD) (hr : r.fits3) (ho : ∃ n, r.N = [n] ∧ n < 2147483648) : (xfLine r).length ≤ 2147483800 := by
  obtain ⟨n, hN, hn⟩ := ho
  have l1 := leftS_len r.name 24
  have l2 := decS_len20 (show n < 18446744073709551616 by omega)
  have := hr.1
  simp only [xfLine, hN, List.length_append, List.length_cons, List.length_nil, List.headD_cons]
  omega

end Go.Ev

set_option linter.unusedSimpArgs false
set_option linter.unusedVariables false
namespace Go.Ev
open Go.Proofs

def xfText (l : List RowD) : List UInt8 := (l.map xfLine).flatten

noncomputable def F1040 : List SV → Option AV
  | [.sl l, .int .i64 w] => onlyIf (w = 24 ∧ l = rowsSV (l.map unrow) ∧ rowsFit3 (l.map unrow) ∧ ∀ r ∈ l.map unrow, ∃ n, r.N = [n] ∧ n < 2147483648) (some (.sv (.str (xfText (l.map unrow)))))
  | _ => none

theorem F1040_eq (l : List RowD) (h : rowsFit3 l) (ho : ∀ r ∈ l, ∃ n, r.N = [n] ∧ n < 2147483648) : F1040 [.sl (rowsSV l), .int .i64 24] = some (.sv (.str (xfText l))) := by
  unfold F1040
  simp only [unrows]
  exact onlyIf_pos ⟨trivial, trivial, h, ho⟩

noncomputable def F1017 : List SV → Option AV
  | [.sl l] => onlyIf (l = rowsSV (l.map unrow) ∧ rowsFit3 (l.map unrow)) (some (.sv (.tup (if xfFine (l.map unrow) = true then [.str (xfText (l.map unrow)), .int .i64 1] else [.str [], .int .i64 2]))))
  | _ => none

theorem F1017_eq (l : List RowD) (h : rowsFit3 l) (ho : xfFine l = true) : F1017 [.sl (rowsSV l)] = some (.sv (.tup [.str (xfText l), .int .i64 1])) := by
  unfold F1017
  simp only [unrows, ho, if_true]
  exact onlyIf_pos ⟨trivial, h⟩

end Go.Ev

set_option linter.unusedSimpArgs false
set_option linter.unusedVariables false
namespace Go.Ev
open Go.Proofs

theorem xfNames_nodup : xfNames.Nodup := by decide

theorem map_set_at {α β : Type} [DecidableEq α] {f : α → β} {v : β} {s : α} : ∀ {L : List α} (_ : L.Nodup) {i : Nat} (_ : L[i]? = some s), (L.map f).set i v = L.map (fun x => if s = x then v else f x)
  | [], _, i, hi => by simp at hi
  | a :: L, hnd, i, hi => by
    obtain ⟨h1, h2⟩ := List.nodup_cons.1 hnd
    cases i with
    | zero =>
      simp only [List.getElem?_cons_zero, Option.some.injEq] at hi
      subst hi
      simp only [List.map_cons, List.set_cons_zero, if_true, List.cons.injEq, true_and]
      apply List.map_congr_left
      intro x hx
      rw [if_neg]
      rintro rfl; exact h1 hx
    | succ i =>
      simp only [List.getElem?_cons_succ] at hi
      have hne : s ≠ a := by rintro rfl; exact h1 (List.mem_of_getElem? hi)
      simp only [List.map_cons, List.set_cons_succ, if_neg hne]
      rw [map_set_at h2 hi]

theorem valOf_snoc (done : List RowD) (r : RowD) (n : Nat) (hN : r.N = [n]) (x : List UInt8) : valOf (done ++ [r]) x 0 = if r.name = x then (n : Int) else valOf done x 0 := by
  simp [valOf, List.foldl_append, hN]

theorem vals_snoc (done : List RowD) (r : RowD) (n : Nat) (hN : r.N = [n]) (i : Nat) (hi : xfNames[i]? = some r.name) :
    (xfNames.map fun x => valOf done x 0).set i (n : Int) = xfNames.map fun x => valOf (done ++ [r]) x 0 := by
  rw [map_set_at xfNames_nodup hi]
  exact List.map_congr_left fun x _ => (valOf_snoc done r n hN x).symm

theorem named_cons {s : List UInt8} {rs : List RowD} (h : namedV (lineG [] s) = some rs) : (s = [] ∧ rs = []) ∨ ∃ line rest a b n rs', (∀ c ∈ line, c.toNat ≠ 10) ∧ ((s = line ++ 10 :: rest) ∨ (s = line ∧ rest = [] ∧ line ≠ [])) ∧ fieldsL line = [a, b] ∧ decV b = some n ∧ rs = ⟨a, [n], []⟩ :: rs' ∧ namedV (lineG [] rest) = some rs' := by
  rcases line_cases s with rfl | ⟨line, rest, h1, h2, h3⟩
  · left
    simp only [lineG, if_true, namedV, Option.some.injEq] at h
    exact ⟨rfl, h.symm⟩
  · right
    rw [h2] at h
    simp only [namedV] at h
    rcases hfl : fieldsL line with _ | ⟨a, _ | ⟨b, _ | ⟨d, t⟩⟩⟩ <;> rw [hfl] at h <;> simp only [reduceCtorEq] at h
    cases hd : decV b with
    | none => rw [hd] at h; simp only [reduceCtorEq] at h
    | some n =>
      rw [hd] at h
      cases hn : namedV (lineG [] rest) with
      | none => rw [hn] at h; simp only [reduceCtorEq] at h
      | some rs' =>
        rw [hn] at h
        simp only [Option.some.injEq] at h
        exact ⟨line, rest, a, b, n, rs', h1, h3, hfl, hd, h.symm, hn⟩

theorem decV_dec {b : List UInt8} {n : Nat} (h : decV b = some n) : decS n = b := by
  unfold decV at h
  split at h
  · split at h <;> simp only [Option.some.injEq, reduceCtorEq] at h
    subst h; rename_i hc; exact hc.2
  · simp at h

theorem plain13 {c : UInt8} (h : plainC c = true) : c.toNat < 128 ∧ c.toNat ≠ 13 := by
  unfold plainC at h
  simp only [Bool.and_eq_true, Bool.or_eq_true, decide_eq_true_eq, beq_iff_eq] at h
  omega

theorem named_len : ∀ {l : List (List UInt8)} {rs : List RowD}, namedV l = some rs → rs.length = l.length := fun {l rs} h => (namedV_fit (B := l.foldr (fun s b => max s.length b) 0) h (by
  clear h
  intro s hs
  induction l with
  | nil => cases hs
  | cons a l ih =>
    rcases List.mem_cons.1 hs with rfl | hs
    · simp only [List.foldr_cons]; omega
    · have := ih hs; simp only [List.foldr_cons]; omega)).1

theorem xfRead_spec {s : List UInt8} {rs : List RowD} (h : xfRead s = some rs) : namedV (linesL s) = some rs ∧ (∀ c ∈ s, plainC c = true) ∧ xfFine rs = true := by
  unfold xfRead at h
  split at h
  · rename_i q hq
    split at h <;> simp only [Option.some.injEq, reduceCtorEq] at h
    subst h
    rename_i hc
    rw [Bool.and_eq_true, List.all_eq_true] at hc
    exact ⟨hq, hc.1, hc.2⟩
  · simp at h

def F84 : List SV → Option AV
  | [.str s] => some (.sv (.tup [.str s, .nilI]))
  | _ => none

theorem ev84 (E : Env) (h : E.code 129 = some c84) (s : List UInt8) (n : Nat) : evP E n 129 [.str s] = some (.sv (.tup [.str s, .nilI])) := by
  unfold evP
  simp only [h]
  simp [c84, List.replicate]

def xfVals (rs : List RowD) : List Int := xfNames.map fun x => valOf rs x 0

end Go.Ev

set_option linter.unusedSimpArgs false
set_option linter.unusedVariables false
namespace Go.Ev
open Go.Proofs

def xfBody (r : RowD) : List UInt8 := leftS r.name 24 ++ 9 :: decS (r.N.headD 0)

theorem xfLine_body (r : RowD) : xfLine r = xfBody r ++ [10] := by simp [xfLine, xfBody]

theorem xfNames_words : ∀ s ∈ xfNames, s ≠ [] ∧ ∀ c ∈ s, wordC c = true := by decide

theorem fieldG_left9 {w rest : List UInt8} {n : Nat} (hw : w ≠ []) (h : ∀ c ∈ w, blankC c = false) : fieldG [] (leftS w n ++ 9 :: rest) = w :: fieldG [] rest := by
  unfold leftS
  rw [List.append_assoc]
  cases hk : n - w.length with
  | zero => exact fieldG_sep hw h (by decide)
  | succ k =>
    rw [List.replicate_succ, List.cons_append, fieldG_sep hw h (by decide), fieldG_skip k (9 :: rest)]
    rw [show fieldG [] (9 :: rest) = fieldG [] rest from by
      simp only [fieldG]
      rw [if_pos (show blankC 9 = true by decide)]
      simp]

theorem xfOk_name {r : RowD} (h : xfOk r = true) : r.name ≠ [] ∧ ∀ c ∈ r.name, wordC c = true := by
  unfold xfOk at h
  rw [Bool.and_eq_true] at h
  obtain ⟨q, hq1, hq2⟩ := List.any_eq_true.1 h.1
  simp only [beq_iff_eq] at hq2
  rw [← hq2]
  exact xfNames_words q hq1

theorem decV_decS {n : Nat} (h : n < 18446744073709551616) : decV (decS n) = some n := by
  unfold decV
  rw [numV_dec h]
  obtain ⟨_, _, h3⟩ := decS_dig n
  simp [h3]

theorem xfBody_fields {r : RowD} (h : xfOk r = true) : fieldsL (xfBody r) = [r.name, decS (r.N.headD 0)] := by
  obtain ⟨h1, h2⟩ := xfOk_name h
  obtain ⟨_, g2, g3⟩ := decS_dig (r.N.headD 0)
  rw [fieldsL_eq]
  unfold xfBody
  rw [fieldG_left9 h1 (fun c hc => (wordC_blank (h2 c hc)).1), fieldG_last g3 (fun c hc => (digC_blank (g2 c hc)).1)]

theorem xfBody_chars {r : RowD} (h : xfOk r = true) : ∀ c ∈ xfBody r, c.toNat ≠ 10 ∧ plainC c = true := by
  obtain ⟨h1, h2⟩ := xfOk_name h
  obtain ⟨_, g2, g3⟩ := decS_dig (r.N.headD 0)
  intro c hc
  unfold xfBody at hc
  rcases List.mem_append.1 hc with hc | hc
  · rcases leftS_mem hc with hc | rfl
    · have := h2 c hc
      refine ⟨(wordC_blank this).2, ?_⟩
      simp only [wordC, Bool.and_eq_true, decide_eq_true_eq] at this
      simp only [plainC, Bool.and_eq_true, Bool.or_eq_true, decide_eq_true_eq, beq_iff_eq]
      omega
    · decide
  · rcases List.mem_cons.1 hc with rfl | hc
    · decide
    · have := g2 c hc
      refine ⟨(digC_blank this).2, ?_⟩
      have := digC_iff.1 this
      simp only [plainC, Bool.and_eq_true, Bool.or_eq_true, decide_eq_true_eq, beq_iff_eq]
      omega

theorem xfText_lines {rs : List RowD} (h : ∀ r ∈ rs, xfOk r = true) : linesL (xfText rs) = rs.map xfBody := by
  rw [linesL_eq]
  have e : xfText rs = ((rs.map xfBody).map fun l => l ++ [10]).flatten := by
    unfold xfText
    rw [List.map_map]
    congr 1
    exact List.map_congr_left fun r _ => xfLine_body r
  rw [e]
  exact lineG_lines _ (fun l hl c hc => by
    obtain ⟨r, hr, rfl⟩ := List.mem_map.1 hl
    exact (xfBody_chars (h r hr) c hc).1)

theorem named_bodies : ∀ {rs : List RowD}, (∀ r ∈ rs, xfOk r = true) → namedV (rs.map xfBody) = some rs
  | [], _ => rfl
  | r :: rs, h => by
    have h0 := h r (by simp)
    have h1 := named_bodies (rs := rs) (fun q hq => h q (List.mem_cons_of_mem _ hq))
    simp only [List.map_cons, namedV, xfBody_fields h0, h1]
    have hc := h0
    unfold xfOk at hc
    rw [Bool.and_eq_true] at hc
    obtain ⟨n, e1, e2, e3⟩ := cnt31_spec hc.2
    obtain ⟨name, N, S⟩ := r
    simp only at e1 e3
    subst e1; subst e3
    simp only [List.headD_cons, decV_decS (show n < 18446744073709551616 by omega)]

theorem xfFine_all {rs : List RowD} (h : xfFine rs = true) : ∀ r ∈ rs, xfOk r = true := by
  unfold xfFine at h
  rw [Bool.and_eq_true, List.all_eq_true] at h
  exact h.1

theorem xfRead_text {rs : List RowD} (h : xfFine rs = true) : xfRead (xfText rs) = some rs := by
  have ho := xfFine_all h
  unfold xfRead
  rw [xfText_lines ho, named_bodies ho]
  have hp : (xfText rs).all plainC = true := by
    rw [List.all_eq_true]
    intro c hc
    unfold xfText at hc
    obtain ⟨l, hl, hcl⟩ := List.mem_flatten.1 hc
    obtain ⟨r, hr, rfl⟩ := List.mem_map.1 hl
    rw [xfLine_body] at hcl
    rcases List.mem_append.1 hcl with hcl | hcl
    · exact (xfBody_chars (ho r hr) c hcl).2
    · obtain rfl := List.mem_singleton.1 hcl; decide
  simp only [hp, h, Bool.and_self, if_true]

theorem xfTree_node (rs : List RowD) : IsNode (xfTree rs) := by
  refine .mk _ _ _ _ _ _ _ _ (by simp [xfNames]) fun k hk => ?_
  obtain ⟨r, hr, rfl⟩ := List.mem_map.1 hk
  exact .mk _ _ _ _ _ _ _ _ (by simp) (by simp)

end Go.Ev

set_option linter.unusedSimpArgs false
set_option linter.unusedVariables false
namespace Go.Ev
open Go.Proofs

def zzS (S : List (List UInt8)) : Bool := decide (S.length ≤ 2147483647) && S.all fun s => decide (s.length ≤ 2147483647)
def zzRow (r : RowD) : Bool := decide (r.name.length ≤ 2147483647) && decide (r.N.length ≤ 2147483647) && zzS r.S
def zzRows (l : List RowD) : Bool := decide (l.length ≤ 2147483647) && l.all zzRow

theorem loop1080 (E : Env) (cf : CallF) (xs : List SV) (hs : xs.length < 1000000000000) (m : Nat) :
    ∀ (rest : List (List UInt8)) (pre : List SV) (k : Nat), xs = pre ++ strs rest → rest.length < k →
      rounds (evC E cf m b1080_0) k { tm := List.replicate 8 (.sv .undef) ++ [.sv (.sl xs), .sv (.int .i64 xs.length), .sv (.int .i64 pre.length)] ++ List.replicate 7 (.sv .undef), lz := none, bx := [], df := [] } =
        if rest.all (fun s => decide (s.length ≤ 2147483647)) = true then some (.exit 0, { tm := List.replicate 18 (.sv .undef), lz := none, bx := [], df := [] })
        else some (.ret, { tm := [.sv .undef, .sv .undef, .sv (.bool false)] ++ List.replicate 15 (.sv .undef), lz := none, bx := [], df := [] }) := by
  intro rest
  induction rest with
  | nil =>
    intro pre k hsp hk
    obtain ⟨k, rfl⟩ : ∃ k', k = k' + 1 := ⟨k - 1, by omega⟩
    have hlt : ¬ (pre.length < xs.length) := by rw [hsp]; simp [strs]
    refine rounds_out ?_ (by simp)
    simp [b1080_0, List.replicate, hlt]
  | cons c rest ih =>
    intro pre k hsp hk
    obtain ⟨k, rfl⟩ : ∃ k', k = k' + 1 := ⟨k - 1, by omega⟩
    have hlt : pre.length < xs.length := by rw [hsp]; simp [strs]
    have hc : ∀ h : pre.length < xs.length, xs[pre.length]'h = .str c := by subst hsp; simp [strs]
    have hw2 : IntKind.i64.wrap ((pre.length : Int) + 1) = ((pre ++ [SV.str c]).length : Int) := by rw [IntKind.wrap_i64]; simp; omega
    by_cases h1 : c.length ≤ 2147483647
    · have e : ¬ (2147483647 : Int) < (c.length : Int) := by omega
      have := ih (pre ++ [.str c]) k (by rw [hsp]; simp [strs]) (by simp at hk; omega)
      rw [show (c :: rest).all (fun s => decide (s.length ≤ 2147483647)) = rest.all (fun s => decide (s.length ≤ 2147483647)) from by simp [h1], ← this]
      refine rounds_step ?_
      simp [b1080_0, List.replicate, hlt, hc, e, hw2]
    · have e : (2147483647 : Int) < (c.length : Int) := by omega
      rw [if_neg (by simp [h1])]
      refine rounds_out ?_ (by simp)
      simp [b1080_0, List.replicate, hlt, hc, e]

theorem ev1080 (E : Env) (h : E.code 157 = some c1080) (S : List (List UInt8)) (n : Nat) (hn : S.length < n ∨ 2147483647 < S.length) : evP E n 157 [.sl (strs S)] = some (.sv (.bool (zzS S))) := by
  unfold evP
  simp only [h]
  have hst : (strs S).length = S.length := strs_length S
  unfold zzS
  by_cases h1 : S.length ≤ 2147483647
  · have e : ¬ (2147483647 : Int) < (S.length : Int) := by omega
    have hl := loop1080 E (evF E n) (strs S) (by omega) n S [] n rfl (by omega)
    simp only [List.replicate, List.cons_append, List.nil_append, List.length_nil, Int.ofNat_zero, Int.natCast_zero, hst] at hl
    cases hv : S.all (fun s => decide (s.length ≤ 2147483647)) with
    | false => simp only [hv, Bool.false_eq_true, if_false] at hl; simp [c1080, List.replicate, hl, hst, e, h1]
    | true => simp only [hv, if_true] at hl; simp [c1080, List.replicate, hl, hst, e, h1]
  · have e : (2147483647 : Int) < (S.length : Int) := by omega
    simp [c1080, List.replicate, hst, e, h1]

noncomputable def F1080 : List SV → Option AV
  | [.sl l] => onlyIf (l = strs (l.map unstr)) (some (.sv (.bool (zzS (l.map unstr)))))
  | _ => none

theorem ev1035 (E : Env) (h : E.code 69 = some c1035) (h80 : E.pure 157 = some F1080) (r : RowD) (n : Nat) : evP E n 69 [.agg [.str r.name, .sl (u64s r.N), .sl (strs r.S)]] = some (.sv (.bool (zzRow r))) := by
  unfold evP
  simp only [h]
  have hsl : (u64s r.N).length = r.N.length := u64s_length r.N
  have hF : F1080 [.sl (strs r.S)] = some (.sv (.bool (zzS r.S))) := by
    unfold F1080
    simp only [unstrs]
    exact onlyIf_pos trivial
  unfold zzRow
  by_cases h1 : r.name.length ≤ 2147483647
  · have e : ¬ (2147483647 : Int) < (r.name.length : Int) := by omega
    by_cases h2 : r.N.length ≤ 2147483647
    · have e2 : ¬ (2147483647 : Int) < (r.N.length : Int) := by omega
      cases hz : zzS r.S <;> rw [hz] at hF <;> simp [c1035, List.replicate, e, e2, h1, h2, hsl, h80, hF]
    · have e2 : (2147483647 : Int) < (r.N.length : Int) := by omega
      simp [c1035, List.replicate, e, e2, h1, h2, hsl]
  · have e : (2147483647 : Int) < (r.name.length : Int) := by omega
    simp [c1035, List.replicate, e, h1]

noncomputable def F1035 : List SV → Option AV
  | [.agg [.str s, .sl ns, .sl ss]] => onlyIf (SV.agg [.str s, .sl ns, .sl ss] = (unrow (.agg [.str s, .sl ns, .sl ss])).sv) (some (.sv (.bool (zzRow (unrow (.agg [.str s, .sl ns, .sl ss]))))))
  | _ => none

theorem F1035_eq (r : RowD) : F1035 [.agg [.str r.name, .sl (u64s r.N), .sl (strs r.S)]] = some (.sv (.bool (zzRow r))) := by
  have hu : unrow (.agg [.str r.name, .sl (u64s r.N), .sl (strs r.S)]) = r := unrow_sv r
  unfold F1035
  simp only [hu]
  exact onlyIf_pos rfl

theorem loop1015 (E : Env) (cf : CallF) (h35 : E.pure 69 = some F1035) (xs : List SV) (hs : xs.length < 1000000000000) (m : Nat) :
    ∀ (rest : List RowD) (pre : List SV) (bx : List Box) (k : Nat), xs = pre ++ rowsSV rest → rest.length < k →
      ∃ bx', rounds (evC E cf m b1015_0) k { tm := List.replicate 8 (.sv .undef) ++ [.sv (.sl xs), .sv (.int .i64 xs.length), .sv (.int .i64 pre.length)] ++ List.replicate 7 (.sv .undef), lz := none, bx := bx, df := [] } =
        if rest.all zzRow = true then some (.exit 0, { tm := List.replicate 18 (.sv .undef), lz := none, bx := bx', df := [] })
        else some (.ret, { tm := [.sv .undef, .sv .undef, .sv (.bool false)] ++ List.replicate 15 (.sv .undef), lz := none, bx := bx', df := [] }) := by
  intro rest
  induction rest with
  | nil =>
    intro pre bx k hsp hk
    obtain ⟨k, rfl⟩ : ∃ k', k = k' + 1 := ⟨k - 1, by omega⟩
    have hlt : ¬ (pre.length < xs.length) := by rw [hsp]; simp [rowsSV]
    refine ⟨bx, rounds_out ?_ (by simp)⟩
    simp [b1015_0, List.replicate, hlt]
  | cons r rest ih =>
    intro pre bx k hsp hk
    obtain ⟨k, rfl⟩ : ∃ k', k = k' + 1 := ⟨k - 1, by omega⟩
    have hlt : pre.length < xs.length := by rw [hsp]; simp [rowsSV]
    have hc : ∀ h : pre.length < xs.length, xs[pre.length]'h = .agg [.str r.name, .sl (u64s r.N), .sl (strs r.S)] := by subst hsp; simp [rowsSV, RowD.sv]
    have hw2 : IntKind.i64.wrap ((pre.length : Int) + 1) = ((pre ++ [r.sv]).length : Int) := by rw [IntKind.wrap_i64]; simp; omega
    have hF := F1035_eq r
    obtain ⟨bx', he⟩ := ih (pre ++ [r.sv]) (bx ++ [rowBox r]) k (by rw [hsp]; simp [rowsSV]) (by simp at hk; omega)
    cases hz : zzRow r with
    | false =>
      rw [hz] at hF
      refine ⟨bx ++ [rowBox r], ?_⟩
      rw [if_neg (by simp [hz])]
      refine rounds_out ?_ (by simp)
      simp [b1015_0, List.replicate, hlt, hc, h35, hF, rowBox]
    | true =>
      rw [hz] at hF
      refine ⟨bx', ?_⟩
      rw [show (r :: rest).all zzRow = rest.all zzRow from by simp [hz], ← he]
      refine rounds_step ?_
      simp [b1015_0, List.replicate, hlt, hc, h35, hF, rowBox, hw2]

theorem ev1015 (E : Env) (h : E.code 24 = some c1015) (h35 : E.pure 69 = some F1035) (l : List RowD) (n : Nat) (hn : l.length < n ∨ 2147483647 < l.length) : evP E n 24 [.sl (rowsSV l)] = some (.sv (.bool (zzRows l))) := by
  unfold evP
  simp only [h]
  have hst : (rowsSV l).length = l.length := by simp [rowsSV]
  unfold zzRows
  by_cases h1 : l.length ≤ 2147483647
  · have e : ¬ (2147483647 : Int) < (l.length : Int) := by omega
    obtain ⟨bx', hl⟩ := loop1015 E (evF E n) h35 (rowsSV l) (by omega) n l [] [] n rfl (by omega)
    simp only [List.replicate, List.cons_append, List.nil_append, List.length_nil, Int.ofNat_zero, Int.natCast_zero, hst] at hl
    cases hv : l.all zzRow with
    | false => simp only [hv, Bool.false_eq_true, if_false] at hl; simp [c1015, List.replicate, hl, hst, e, h1]
    | true => simp only [hv, if_true] at hl; simp [c1015, List.replicate, hl, hst, e, h1]
  · have e : (2147483647 : Int) < (l.length : Int) := by omega
    simp [c1015, List.replicate, hst, e, h1]

noncomputable def F1015 : List SV → Option AV
  | [.sl l] => onlyIf (l = rowsSV (l.map unrow)) (some (.sv (.bool (zzRows (l.map unrow)))))
  | _ => none

theorem F1015_eq (l : List RowD) : F1015 [.sl (rowsSV l)] = some (.sv (.bool (zzRows l))) := by
  unfold F1015
  simp only [unrows]
  exact onlyIf_pos trivial

end Go.Ev

set_option linter.unusedSimpArgs false
set_option linter.unusedVariables false
namespace Go.Ev
open Go.Proofs

theorem zzRows_fit {l : List RowD} (h : zzRows l = true) (hn : ∀ r ∈ l, ∀ n ∈ r.N, n < 18446744073709551616) (hl : l.length ≤ 1000) : rowsFit3 l := by
  unfold zzRows at h
  rw [Bool.and_eq_true, List.all_eq_true] at h
  refine ⟨by omega, fun r hr => ?_⟩
  have h1 := h.2 r hr
  unfold zzRow zzS at h1
  simp only [Bool.and_eq_true, decide_eq_true_eq, List.all_eq_true] at h1
  obtain ⟨⟨h2, h3⟩, h4, h5⟩ := h1
  exact ⟨by omega, by omega, hn r hr, by omega, fun s hs => by have := h5 s hs; omega⟩

noncomputable def F1003 : List SV → Option AV
  | [.sl l] => onlyIf (l = rowsSV (l.map unrow) ∧ ∀ r ∈ l.map unrow, ∀ n ∈ r.N, n < 18446744073709551616) (some (.sv (.bool true)))
  | _ => none

end Go.Ev

set_option linter.unusedSimpArgs false
set_option linter.unusedVariables false
namespace Go.Ev
open Go.Proofs

/-- What every entry rests on. -/
structure Base (P : Program) (E : Env) : Prop where
  m : P.follows .mixedOrders = true
  T : CodeT P E
  Q : QuietOK P E
  P : PureOK P E

variable {P : Program} {E : Env}

theorem p134 (B : Base P E) (h : E.code 159 = some c134) : PureFn P E 159 F134 := by
  refine PureFn.of B.m B.T B.Q B.P fun vs r hF => ?_
  unfold F134 at hF
  split at hF
  · obtain ⟨⟨h0, h1⟩, hr⟩ := onlyIf_some hF
    rename_i c
    obtain ⟨k, rfl⟩ := Int.eq_ofNat_of_zero_le h0
    simp only [Option.some.injEq, Int.toNat_natCast] at hr; subst hr
    exact ⟨1, _, ev134 E h 1 k (by omega), .inl rfl⟩
  · cases hF

theorem p97 (B : Base P E) (h : E.code 142 = some c97) : PureFn P E 142 F97 := by
  refine PureFn.of_rec size97 B.m B.T B.Q B.P fun m vs r hF hs => ?_
  unfold F97 at hF
  split at hF
  · obtain ⟨⟨h0, h1, rfl⟩, hr⟩ := onlyIf_some hF
    rename_i c
    obtain ⟨k, rfl⟩ := Int.eq_ofNat_of_zero_le h0
    simp only [Option.some.injEq, Int.toNat_natCast] at hr; subst hr
    simp only [size97, Int.toNat_natCast] at hs
    subst hs
    exact ⟨1, _, ev97 E h 1 k (by omega), .inl rfl⟩
  · cases hF

theorem p45 (B : Base P E) (h : E.code 62 = some c45) (h97 : E.pure 142 = some F97) : PureFn P E 62 F45 := by
  refine PureFn.of B.m B.T B.Q B.P fun vs r hF => ?_
  unfold F45 at hF
  split at hF
  · obtain ⟨⟨h0, h1⟩, hr⟩ := onlyIf_some hF
    rename_i c
    obtain ⟨k, rfl⟩ := Int.eq_ofNat_of_zero_le h0
    simp only [Option.some.injEq, Int.toNat_natCast] at hr; subst hr
    exact ⟨1, _, ev45 E h h97 1 k (by omega), .inl rfl⟩
  · cases hF

theorem p38 (B : Base P E) (h : E.code 55 = some c38) : PureFn P E 55 F38 := by
  refine PureFn.of B.m B.T B.Q B.P fun vs r hF => ?_
  unfold F38 at hF
  split at hF
  · rename_i a
    simp only [Option.some.injEq] at hF; subst hF
    exact ⟨1, _, ev38 E h a 1, .inl rfl⟩
  · cases hF

theorem p85 (B : Base P E) (h : E.code 130 = some c85) : PureFn P E 130 F85 := by
  refine PureFn.of B.m B.T B.Q B.P fun vs r hF => ?_
  unfold F85 at hF
  split at hF
  · rename_i a b
    simp only [Option.some.injEq] at hF; subst hF
    exact ⟨1, _, ev85 E h a b 1, .inl rfl⟩
  · cases hF

theorem p99 (B : Base P E) (h : E.code 144 = some c99) : PureFn P E 144 F99 := by
  refine PureFn.of B.m B.T B.Q B.P fun vs r hF => ?_
  unfold F99 at hF
  split at hF
  · obtain ⟨h0, hr⟩ := onlyIf_some hF
    rename_i s
    simp only [Option.some.injEq] at hr; subst hr
    exact ⟨1, _, ev99 E h s h0 1, .inl rfl⟩
  · cases hF

theorem p127 (B : Base P E) (h : E.code 201 = some c127) (hT : SpT E) : PureFn P E 201 F127 := by
  refine PureFn.of B.m B.T B.Q B.P fun vs r hF => ?_
  unfold F127 at hF
  split at hF
  · obtain ⟨⟨h0, h1⟩, hr⟩ := onlyIf_some hF
    rename_i s
    simp only [Option.some.injEq] at hr; subst hr
    exact ⟨s.length + 1, _, ev127 E h hT s h0 h1 _ (by omega), .inl rfl⟩
  · cases hF

end Go.Ev


set_option linter.unusedSimpArgs false
set_option linter.unusedVariables false
namespace Go.Ev
open Go.Proofs
variable {P : Program} {E : Env}

theorem p125 (B : Base P E) (h : E.code 199 = some c125) : PureFn P E 199 F125 := by
  refine PureFn.of B.m B.T B.Q B.P fun vs r hF => ?_
  unfold F125 at hF
  split at hF
  · obtain ⟨⟨rfl, rfl, h1, h2, h3, h4⟩, hr⟩ := onlyIf_some hF
    rename_i s
    simp only [Option.some.injEq] at hr; subst hr
    exact ⟨s.length + 1, _, ev125 E h s h1 h2 h3 h4 _ (by omega), .inl rfl⟩
  · cases hF

end Go.Ev


set_option linter.unusedSimpArgs false
set_option linter.unusedVariables false
namespace Go.Ev
open Go.Proofs
variable {P : Program} {E : Env}

theorem p1083 (B : Base P E) (h : E.code 158 = some c1083) : PureFn P E 158 F1083 := by
  refine PureFn.of B.m B.T B.Q B.P fun vs r hF => ?_
  unfold F1083 at hF
  split at hF
  · rename_i s ns ss a b c
    obtain ⟨⟨rfl, rfl, rfl, h1, h2⟩, hr⟩ := onlyIf_some hF
    simp only [Option.some.injEq] at hr; subst hr
    refine ⟨ns.length + 1, _, ?_, .inl rfl⟩
    have := ev1083 E h (unrow (.agg [.str s, .sl ns, .sl ss])) h2 (ns.length + 1) (by simp [unrow])
    rw [← h1] at this
    exact this
  · cases hF

theorem p84 (B : Base P E) (h : E.code 129 = some c84) : PureFn P E 129 F84 := by
  refine PureFn.of B.m B.T B.Q B.P fun vs r hF => ?_
  unfold F84 at hF
  split at hF
  · simp only [Option.some.injEq] at hF; subst hF
    exact ⟨1, _, ev84 E h _ 1, .inl rfl⟩
  · cases hF

def F8x : List SV → Option AV
  | [.str s] => some (.sv (.bool true))
  | _ => none

end Go.Ev

set_option linter.unusedSimpArgs false
set_option linter.unusedVariables false
namespace Go.Ev
open Go.Proofs

def codeTab : List (Nat × AFn) := [(29, c25), (43, c26), (44, c27), (55, c38), (62, c45), (80, c74), (130, c85), (132, c87), (133, c88), (135, c90), (142, c97), (144, c99), (171, c117), (172, c118), (173, c119), (174, c120), (175, c121), (199, c125), (201, c127), (202, c128), (206, c133), (159, c134), (217, c135), (226, c145), (241, c150), (255, c155), (262, c158), (268, c163), (269, c164), (277, c172), (279, c174), (24, c1015), (69, c1035), (157, c1080), (158, c1083), (63, c46), (129, c84), (35, c1027), (26, c1029), (25, c1031), (27, c1033), (70, c1068), (71, c1069), (72, c1071), (73, c1072), (74, c1073), (75, c1074), (76, c1076), (77, c1077), (78, c1078), (79, c1079), (82, c1113), (161, c1118), (162, c1119), (163, c1120), (164, c1121), (165, c1122), (166, c1123), (168, c1128), (169, c1129), (170, c1130), (109, c1143), (203, c1144), (186, c1145), (204, c1146), (239, c1157), (225, c1159), (242, c1166), (136, c91), (240, c1169), (254, c1174), (260, c1177), (10, c2010), (11, c2011), (36, c2036), (37, c2037), (38, c2038), (93, c2093), (94, c2094), (95, c2095), (96, c2096), (97, c2097), (98, c2098), (99, c2099), (100, c2100), (101, c2101), (102, c2102), (103, c2103), (104, c2104), (184, c2184), (185, c2185), (187, c2187), (188, c2188), (189, c2189), (190, c2190), (211, c2211)]

theorem codeTab_ok : ∀ p ∈ codeTab, codeOf Tryz.prog p.1 = some p.2 := by
  intro p hp
  simp only [codeTab, List.mem_cons, List.not_mem_nil, or_false] at hp
  rcases hp with rfl | rfl | rfl | rfl | rfl | rfl | rfl | rfl | rfl | rfl | rfl | rfl | rfl | rfl | rfl | rfl | rfl | rfl | rfl | rfl | rfl | rfl | rfl | rfl | rfl | rfl | rfl | rfl | rfl | rfl | rfl | rfl | rfl | rfl | rfl | rfl | rfl | rfl | rfl | rfl | rfl | rfl | rfl | rfl | rfl | rfl | rfl | rfl | rfl | rfl | rfl | rfl | rfl | rfl | rfl | rfl | rfl | rfl | rfl | rfl | rfl | rfl | rfl | rfl | rfl | rfl | rfl | rfl | rfl | rfl | rfl | rfl | rfl | rfl | rfl | rfl | rfl | rfl | rfl | rfl | rfl | rfl | rfl | rfl | rfl | rfl | rfl | rfl | rfl | rfl | rfl | rfl | rfl | rfl | rfl | rfl
  · exact code25
  · exact code26
  · exact code27
  · exact code38
  · exact code45
  · exact code74
  · exact code85
  · exact code87
  · exact code88
  · exact code90
  · exact code97
  · exact code99
  · exact code117
  · exact code118
  · exact code119
  · exact code120
  · exact code121
  · exact code125
  · exact code127
  · exact code128
  · exact code133
  · exact code134
  · exact code135
  · exact code145
  · exact code150
  · exact code155
  · exact code158
  · exact code163
  · exact code164
  · exact code172
  · exact code174
  · exact code1015
  · exact code1035
  · exact code1080
  · exact code1083
  · exact code46
  · exact code84
  · exact code1027
  · exact code1029
  · exact code1031
  · exact code1033
  · exact code1068
  · exact code1069
  · exact code1071
  · exact code1072
  · exact code1073
  · exact code1074
  · exact code1076
  · exact code1077
  · exact code1078
  · exact code1079
  · exact code1113
  · exact code1118
  · exact code1119
  · exact code1120
  · exact code1121
  · exact code1122
  · exact code1123
  · exact code1128
  · exact code1129
  · exact code1130
  · exact code1143
  · exact code1144
  · exact code1145
  · exact code1146
  · exact code1157
  · exact code1159
  · exact code1166
  · exact code91
  · exact code1169
  · exact code1174
  · exact code1177
  · exact code2010
  · exact code2011
  · exact code2036
  · exact code2037
  · exact code2038
  · exact code2093
  · exact code2094
  · exact code2095
  · exact code2096
  · exact code2097
  · exact code2098
  · exact code2099
  · exact code2100
  · exact code2101
  · exact code2102
  · exact code2103
  · exact code2104
  · exact code2184
  · exact code2185
  · exact code2187
  · exact code2188
  · exact code2189
  · exact code2190
  · exact code2211

def codeFn (f : Nat) : Option AFn := codeTab.lookup f

theorem codeFn_ok (f : Nat) (fn : AFn) (h : codeFn f = some fn) : codeOf Tryz.prog f = some fn := by
  unfold codeFn at h
  have key : ∀ (l : List (Nat × AFn)), l.lookup f = some fn → (f, fn) ∈ l := by
    intro l
    induction l with
    | nil => intro h; simp at h
    | cons p l ih =>
      obtain ⟨g, x⟩ := p
      intro h
      simp only [List.lookup] at h
      split at h
      · rename_i e
        have e' : f = g := by simpa using e
        simp only [Option.some.injEq] at h
        subst h; subst e'
        simp
      · simp [ih h]
  exact codeTab_ok (f, fn) (key _ h)

def lvl (E : Env) (L : List Nat) (N : Nat) : Nat → Env
  | 0 => E
  | k + 1 => { E with pure := fun f => if L.contains f then some (fun vs => evP (lvl E L N k) N f vs) else E.pure f }

theorem lvl_same (E : Env) (L : List Nat) (N : Nat) : ∀ k, (lvl E L N k).glob = E.glob ∧ (lvl E L N k).code = E.code ∧ (lvl E L N k).quiet = E.quiet
  | 0 => ⟨rfl, rfl, rfl⟩
  | _ + 1 => ⟨rfl, rfl, rfl⟩

theorem lvl_ok {P : Program} {E : Env} (hm : P.follows .mixedOrders = true) (hT : CodeT P E) (hQ : QuietOK P E) (hP : PureOK P E) (L : List Nat) (N : Nat) : ∀ k, PureOK P (lvl E L N k)
  | 0 => hP
  | k + 1 => by
    obtain ⟨h1, h2, h3⟩ := lvl_same E L N k
    refine ⟨fun f F hf => ?_, fun f k hf => ?_⟩
    rotate_left
    · exact hP.2 f _ hf
    simp only [lvl] at hf
    split at hf
    · simp only [Option.some.injEq] at hf
      subst hf
      have hT' : CodeT P (lvl E L N k) := by intro g fn hg; rw [h2] at hg; exact hT g fn hg
      have hQ' : QuietOK P (lvl E L N k) := by intro g hg; rw [h3] at hg; exact hQ g hg
      exact (evP_ok hm hT' hQ' (lvl_ok hm hT hQ hP L N k) N f).glob h1.symm
    · exact (hP.1 f F hf).glob rfl

def unlit : DataW Unit → Lit
  | .lit l => l
  | _ => .nil

/-- A laid datum's plain values. -/
def lits : DataW Unit → List Lit
  | .agg l => l.map unlit
  | .slice l _ => l.map unlit
  | d => [unlit d]

/-- The cells of a variable that is laid. -/
def svD (d : DataW Unit) : List SV := match d with
  | .slice _ _ => [.sl ((lits d).map litS)]
  | d => (lits d).map litS

def globT (f : Nat) : List SV := match f with
  | 1 => svD YtgonelmeonncpaaGreatDoor.Rows.laid_strings_asciiSpace
  | 6 => svD YtgonelmeonncpaaGreatDoor.Rows.laid_internal_strconv_float32info
  | 7 => svD YtgonelmeonncpaaGreatDoor.Rows.laid_internal_strconv_optimize
  | 8 => svD YtgonelmeonncpaaGreatDoor.Rows.laid_internal_strconv_float64info
  | 9 => svD YtgonelmeonncpaaGreatDoor.Rows.laid_internal_strconv_uint64pow10
  | 12 => svD YtgonelmeonncpaaGreatDoor.Rows.laid_internal_strconv_float64pow10
  | _ => []

def E0 : Env := { glob := globT, pure := fun _ => none, code := codeFn, quiet := quietT, look := fun f => if f = 202 then some 3 else none }

def livesL : List Nat := [55, 130, 144, 206, 201, 226, 241, 255, 262, 268, 269, 217, 277, 279, 174, 175, 173, 172]

set_option maxRecDepth 100000 in
theorem lives_ev : evP (lvl E0 livesL 200 12) 200 29 [] = some (.sv (.bool true)) := by kernel_rfl

theorem follows : Tryz.prog.follows .mixedOrders = true := by kernel_rfl

theorem look0 : LookOK Tryz.prog E0 := by
  intro f k h b w u hu us hs h0
  have h' : (if f = 202 then some 3 else none) = some k := h
  split at h' <;> simp only [Option.some.injEq, reduceCtorEq] at h'
  rename_i e
  subst e; subst h'
  exact .inr ⟨202, us, by simp [callFunc, Tryz.func202, show (Tryz.f202.name == "runtime.NumGoroutine") = false by kernel_rfl, show Tryz.f202.name ≠ "runtime.NumGoroutine" from of_decide_eq_true (by kernel_rfl), Tryz.f202], (lookErr b w u hu us hs h0).mono fun e w' h => h⟩

theorem b0 : Base Tryz.prog E0 := ⟨follows, codeT_of codeFn_ok, quiet_ok E0 rfl, And.intro (fun f F h => by cases h) look0⟩

theorem p25 (E : Env) (hE : E.glob = globT) : PureFn Tryz.prog E 29 F25 := by
  have h : PureFn Tryz.prog (lvl E0 livesL 200 12) 29 (evP (lvl E0 livesL 200 12) 200 29) := by
    obtain ⟨h1, h2, h3⟩ := lvl_same E0 livesL 200 12
    exact evP_ok follows (fun g fn hg => b0.T g fn (by rw [h2] at hg; exact hg)) (fun g hg => b0.Q g (by rw [h3] at hg; exact hg)) (lvl_ok follows b0.T b0.Q b0.P livesL 200 12) 200 29
  refine (h.glob (E' := E) (by rw [hE, (lvl_same E0 livesL 200 12).1]; rfl)).mono fun vs r hr => ?_
  unfold F25 at hr
  split at hr
  · rw [lives_ev]; exact hr
  · cases hr

theorem p75 (E : Env) : PureFn Tryz.prog E 123 F75 := by
  intro vs r hF F0 w us hG hw hs hr
  unfold F75 at hF
  split at hF
  · rename_i b
    simp only [Option.some.injEq] at hF; subst hF
    have h0 := hr 0 (.flt .f64 b) rfl
    have hsz : us.size = 1 := by simpa using hs
    obtain ⟨l⟩ := us
    match l, hsz with
    | [u], _ =>
      have hu : u = .float .f64 b := by
        have : RepS F0 (.flt .f64 b) u := by simpa using h0
        cases this; rfl
      subst hu
      refine .inl ⟨.int .u64 b, w, ?_, ⟨F0, [], fun _ => none⟩, ⟨rfl, rfl, rfl, Nat.le_refl _, fun _ _ => rfl, fun _ _ _ h => h, fun _ _ _ _ h => h, hw, rfl, fun _ _ => rfl, fun _ _ _ h => by cases h⟩, .sv _ _ _ (.int _ _)⟩
      rw [run_callFunc_extern Tryz.func123 (by kernel_rfl) (by kernel_rfl) (by kernel_rfl) (e := Extern.MathFloatBits.float64bits) (by kernel_rfl)]
      rfl
  · cases hF

def spCheck (l : List SV) : Bool := (List.range 128).all fun k => match l[k]? with
  | some (.int .u8 n) => n == ((if (decide (9 ≤ k) && decide (k ≤ 13)) || k == 32 then 1 else 0 : Nat) : Int)
  | _ => false

theorem spCheck_ok : spCheck (globT 1) = true := by kernel_rfl

theorem spT0 : SpT E0 := by
  intro c hc
  have h := List.all_eq_true.1 spCheck_ok c.toNat (List.mem_range.2 hc)
  show (globT 1).drop c.toNat = _
  have hl : c.toNat < (globT 1).length := by
    refine Decidable.byContradiction fun hn => ?_
    rw [List.getElem?_eq_none (by omega)] at h
    cases h
  rw [List.drop_eq_getElem_cons hl]
  congr 1
  rw [List.getElem?_eq_getElem hl] at h
  split at h
  · rename_i n hx
    simp only [Option.some.injEq] at hx
    rw [hx]
    have : n = (spV c : Nat) := by
      simp only [beq_iff_eq] at h
      rw [h]; unfold spV spC; rfl
    rw [this]
  · cases h

end Go.Ev

set_option linter.unusedSimpArgs false
set_option linter.unusedVariables false
namespace Go.Ev
open Go.Proofs

theorem Base.add {P : Program} {E : Env} (B : Base P E) {f : Nat} {F : List SV → Option AV} (hF : PureFn P E f F) : Base P (E.add f F) := ⟨B.m, fun g fn h => B.T g fn h, fun g h => B.Q g h, B.P.add hF⟩

theorem p27 {P : Program} {E : Env} (B : Base P E) (h : E.code 44 = some c27) : PureFn P E 44 F27 := pure27 B.m B.T B.Q B.P h
theorem p26 {P : Program} {E : Env} (B : Base P E) (h : E.code 43 = some c26) (h75 : E.pure 123 = some F75) : PureFn P E 43 F26 := pure26 B.m B.T B.Q B.P h h75

end Go.Ev


set_option linter.unusedSimpArgs false
set_option linter.unusedVariables false
namespace Go.Ev
open Go.Proofs
variable {P : Program} {E : Env}

theorem p1080 (B : Base P E) (h : E.code 157 = some c1080) : PureFn P E 157 F1080 := by
  refine PureFn.of B.m B.T B.Q B.P fun vs r hF => ?_
  unfold F1080 at hF
  split at hF
  · rename_i l
    obtain ⟨h1, hr⟩ := onlyIf_some hF
    simp only [Option.some.injEq] at hr; subst hr
    refine ⟨l.length + 1, _, ?_, .inl rfl⟩
    have := ev1080 E h (l.map unstr) (l.length + 1) (.inl (by simp))
    rw [← h1] at this
    exact this
  · cases hF

theorem p1035 (B : Base P E) (h : E.code 69 = some c1035) (h80 : E.pure 157 = some F1080) : PureFn P E 69 F1035 := by
  refine PureFn.of B.m B.T B.Q B.P fun vs r hF => ?_
  unfold F1035 at hF
  split at hF
  · rename_i s ns ss
    obtain ⟨h1, hr⟩ := onlyIf_some hF
    simp only [Option.some.injEq] at hr; subst hr
    refine ⟨1, _, ?_, .inl rfl⟩
    have := ev1035 E h h80 (unrow (.agg [.str s, .sl ns, .sl ss])) 1
    rw [show SV.agg [.str (unrow (.agg [.str s, .sl ns, .sl ss])).name, .sl (u64s (unrow (.agg [.str s, .sl ns, .sl ss])).N), .sl (strs (unrow (.agg [.str s, .sl ns, .sl ss])).S)] = (unrow (.agg [.str s, .sl ns, .sl ss])).sv from rfl, ← h1] at this
    exact this
  · cases hF

theorem p1015 (B : Base P E) (h : E.code 24 = some c1015) (h35 : E.pure 69 = some F1035) : PureFn P E 24 F1015 := by
  refine PureFn.of B.m B.T B.Q B.P fun vs r hF => ?_
  unfold F1015 at hF
  split at hF
  · rename_i l
    obtain ⟨h1, hr⟩ := onlyIf_some hF
    simp only [Option.some.injEq] at hr; subst hr
    refine ⟨l.length + 1, _, ?_, .inl rfl⟩
    have := ev1015 E h h35 (l.map unrow) (l.length + 1) (.inl (by simp))
    rw [← h1] at this
    exact this
  · cases hF

end Go.Ev

set_option linter.unusedSimpArgs false
set_option linter.unusedVariables false
namespace Go.Ev
open Go.Proofs

/-! ### Parts between a sign -/

def partG (b : Nat) (cur : List UInt8) : List UInt8 → List (List UInt8)
  | [] => [cur]
  | c :: cs => if c.toNat = b then cur :: partG b [] cs else partG b (cur ++ [c]) cs

def partI (b : Nat) (cur : List UInt8) : List UInt8 → List (List UInt8)
  | [] => []
  | c :: cs => if c.toNat = b then cur :: partI b [] cs else partI b (cur ++ [c]) cs

def partE (b : Nat) (cur : List UInt8) : List UInt8 → List UInt8
  | [] => cur
  | c :: cs => if c.toNat = b then partE b [] cs else partE b (cur ++ [c]) cs

theorem partG_eq (b : Nat) : ∀ (s cur : List UInt8), partG b cur s = partI b cur s ++ [partE b cur s]
  | [], cur => rfl
  | c :: s, cur => by
    simp only [partG, partI, partE]
    split
    · rw [partG_eq b s]; rfl
    · rw [partG_eq b s]

theorem partI_len (b : Nat) : ∀ (s cur : List UInt8), (partI b cur s).length ≤ s.length
  | [], cur => by simp [partI]
  | c :: s, cur => by
    simp only [partI]
    split
    · have := partI_len b s []; simp; omega
    · have := partI_len b s (cur ++ [c]); simp; omega

theorem partE_len (b : Nat) : ∀ (s cur : List UInt8), (partE b cur s).length ≤ cur.length + s.length
  | [], cur => by simp [partE]
  | c :: s, cur => by
    simp only [partE]
    split
    · have := partE_len b s []; simp at this ⊢; omega
    · have := partE_len b s (cur ++ [c]); simp at this ⊢; omega

theorem partG_mem (b : Nat) : ∀ (s cur : List UInt8), ∀ x ∈ partG b cur s, x.length ≤ cur.length + s.length
  | [], cur => by simp [partG]
  | c :: s, cur => by
    simp only [partG]
    split
    · intro x hx
      rcases List.mem_cons.1 hx with rfl | hx
      · omega
      · have := partG_mem b s [] x hx; simp at this ⊢; omega
    · intro x hx
      have := partG_mem b s (cur ++ [c]) x hx; simp at this ⊢; omega

theorem partG_no (b : Nat) : ∀ (w cur rest : List UInt8), (∀ c ∈ w, c.toNat ≠ b) → partG b cur (w ++ rest) = partG b (cur ++ w) rest
  | [], cur, rest, _ => by simp
  | c :: w, cur, rest, h => by
    simp only [List.cons_append, partG]
    rw [if_neg (h c (by simp)), partG_no b w (cur ++ [c]) rest (fun x hx => h x (by simp [hx]))]
    simp

theorem partG_two {b : UInt8} {w v : List UInt8} (hw : ∀ c ∈ w, c.toNat ≠ b.toNat) (hv : ∀ c ∈ v, c.toNat ≠ b.toNat) : partG b.toNat [] (w ++ b :: v) = [w, v] := by
  rw [partG_no _ w [] _ hw, List.nil_append]
  simp only [partG, if_true]
  have := partG_no b.toNat v [] [] hv
  rw [List.append_nil, List.nil_append] at this
  rw [this]; rfl

theorem partG_none {b : Nat} {s : List UInt8} (h : ∀ c ∈ s, c.toNat ≠ b) : partG b [] s = [s] := by
  have := partG_no b s [] [] h
  rw [List.append_nil, List.nil_append] at this
  rw [this]; rfl

theorem partG_first {b : UInt8} {w rest : List UInt8} (hw : ∀ c ∈ w, c.toNat ≠ b.toNat) : partG b.toNat [] (w ++ b :: rest) = w :: partG b.toNat [] rest := by
  rw [partG_no _ w [] _ hw, List.nil_append]
  simp only [partG, if_true]

/-! ### Hexadecimal numbers -/

def hexC (d : Nat) : UInt8 := UInt8.ofNat (if d < 10 then 48 + d else 87 + d)

def hexF : Nat → Nat → List UInt8
  | 0, _ => []
  | f + 1, n => if n < 16 then [hexC n] else hexF f (n / 16) ++ [hexC (n % 16)]

def hexS (n : Nat) : List UInt8 := hexF (n + 1) n

theorem hexF_more : ∀ (f g n : Nat), n < f → n < g → hexF f n = hexF g n
  | 0, _, _, h, _ => by omega
  | _ + 1, 0, _, _, h => by omega
  | f + 1, g + 1, n, h1, h2 => by
    simp only [hexF]
    split
    · rfl
    · rw [hexF_more f g (n / 16) (by omega) (by omega)]

theorem hexS_small {n : Nat} (h : n < 16) : hexS n = [hexC n] := by simp [hexS, hexF, h]

theorem hexS_step {n : Nat} (h : ¬ n < 16) : hexS n = hexS (n / 16) ++ [hexC (n % 16)] := by
  unfold hexS
  rw [hexF, if_neg h, hexF_more n (n / 16 + 1) (n / 16) (by omega) (by omega)]

theorem hexS_length (n : Nat) : ∀ k, n < 16 ^ (k + 1) → (hexS n).length ≤ k + 1 := by
  intro k
  induction k generalizing n with
  | zero => intro h; simp at h; rw [hexS_small h]; simp
  | succ k ih =>
    intro h
    by_cases hn : n < 16
    · rw [hexS_small hn]; simp
    · rw [hexS_step hn]
      have := ih (n / 16) (by rw [Nat.pow_succ] at h; omega)
      simp; omega

theorem hexS_len16 {n : Nat} (h : n < 18446744073709551616) : (hexS n).length ≤ 16 := hexS_length n 15 (by omega)

theorem hexC_toNat {d : Nat} (h : d < 16) : (hexC d).toNat = if d < 10 then 48 + d else 87 + d := by
  unfold hexC
  split <;> simp <;> omega

/-- A text with noughts ahead. -/
def padS (s : List UInt8) (k : Nat) : List UInt8 := List.replicate (k - s.length) 48 ++ s

/-- A text with blanks ahead. -/
def rightS (s : List UInt8) (k : Nat) : List UInt8 := List.replicate (k - s.length) 32 ++ s

theorem padS_step {s : List UInt8} {n : Nat} (h : s.length < n) : padS (48 :: s) n = padS s n := by
  unfold padS
  obtain ⟨k, hk⟩ : ∃ k, n - s.length = k + 1 := ⟨n - s.length - 1, by omega⟩
  rw [hk, show n - (48 :: s : List UInt8).length = k from by simp; omega, List.replicate_succ', List.append_assoc]; rfl

theorem padS_done {s : List UInt8} {n : Nat} (h : ¬ s.length < n) : padS s n = s := by
  unfold padS
  rw [show n - s.length = 0 from by omega]; rfl

theorem padS_len (s : List UInt8) (n : Nat) : (padS s n).length ≤ s.length + n := by unfold padS; rw [List.length_append, List.length_replicate]; omega

theorem rightS_step {s : List UInt8} {n : Nat} (h : s.length < n) : rightS (32 :: s) n = rightS s n := by
  unfold rightS
  obtain ⟨k, hk⟩ : ∃ k, n - s.length = k + 1 := ⟨n - s.length - 1, by omega⟩
  rw [hk, show n - (32 :: s : List UInt8).length = k from by simp; omega, List.replicate_succ', List.append_assoc]; rfl

theorem rightS_done {s : List UInt8} {n : Nat} (h : ¬ s.length < n) : rightS s n = s := by
  unfold rightS
  rw [show n - s.length = 0 from by omega]; rfl

theorem rightS_len (s : List UInt8) (n : Nat) : (rightS s n).length ≤ s.length + n := by unfold rightS; rw [List.length_append, List.length_replicate]; omega

def upB (c : UInt8) : UInt8 := if 97 ≤ c.toNat then UInt8.ofNat (c.toNat - 32) else c

/-- A number in large hexadecimal digits, at least so many. -/
def upS (n k : Nat) : List UInt8 := (padS (hexS n) k).map upB

theorem upS_len {n : Nat} (h : n < 18446744073709551616) (k : Nat) : (upS n k).length ≤ 16 + k := by
  unfold upS
  rw [List.length_map]
  have := padS_len (hexS n) k
  have := hexS_len16 h
  omega

/-- A large hexadecimal digit. -/
def addrC (c : UInt8) : Bool := decide (digitV c.toNat ≤ 15) && decide (c.toNat < 97)

theorem addrC_spec {c : UInt8} (h : addrC c = true) : (48 ≤ c.toNat ∧ c.toNat ≤ 57) ∨ (65 ≤ c.toNat ∧ c.toNat ≤ 70) := by
  unfold addrC at h
  simp only [Bool.and_eq_true, decide_eq_true_eq] at h
  obtain ⟨h1, h2⟩ := h
  unfold digitV at h1
  split at h1
  · omega
  · split at h1
    · omega
    · split at h1 <;> omega

theorem addrC_word {c : UInt8} (h : addrC c = true) : wordC c = true ∧ c.toNat ≠ 58 := by
  have := addrC_spec h
  refine ⟨?_, by omega⟩
  unfold wordC
  simp only [Bool.and_eq_true, decide_eq_true_eq]
  omega

theorem upB_hexC {d : Nat} (h : d < 16) : (upB (hexC d)).toNat = (if d < 10 then 48 + d else 55 + d) := by
  unfold upB
  rw [hexC_toNat h]
  by_cases hd : d < 10
  · rw [if_pos hd, if_pos hd, if_neg (by omega), hexC_toNat h, if_pos hd]
  · rw [if_neg hd, if_neg hd, if_pos (by omega)]
    simp; omega

theorem upB_digit {d : Nat} (h : d < 16) : digitV (upB (hexC d)).toNat = d ∧ addrC (upB (hexC d)) = true := by
  have h1 := upB_hexC h
  have h2 : digitV (upB (hexC d)).toNat = d := by
    rw [h1]; unfold digitV
    (repeat' split) <;> omega
  refine ⟨h2, ?_⟩
  unfold addrC
  rw [h2, h1]
  simp only [Bool.and_eq_true, decide_eq_true_eq]
  split <;> omega

def hexN (a : Nat) (s : List UInt8) : Nat := s.foldl (fun a c => a * 16 + digitV c.toNat) a

theorem hexN_nil (a : Nat) : hexN a [] = a := by unfold hexN; rw [List.foldl_nil]
theorem hexN_cons (a : Nat) (c : UInt8) (s : List UInt8) : hexN a (c :: s) = hexN (a * 16 + digitV c.toNat) s := by unfold hexN; rw [List.foldl_cons]
theorem hexN_append (s t : List UInt8) (a : Nat) : hexN a (s ++ t) = hexN (hexN a s) t := by unfold hexN; rw [List.foldl_append]

theorem hexN_ge : ∀ (s : List UInt8) (a : Nat), a ≤ hexN a s
  | [], a => by rw [hexN_nil]; exact Nat.le_refl _
  | c :: s, a => by rw [hexN_cons]; have := hexN_ge s (a * 16 + digitV c.toNat); omega

theorem hexN_noughts : ∀ k : Nat, hexN 0 (List.replicate k 48) = 0
  | 0 => by rw [List.replicate_zero, hexN_nil]
  | k + 1 => by rw [List.replicate_succ, hexN_cons]; exact hexN_noughts k

theorem hexS_hex (n : Nat) : hexN 0 ((hexS n).map upB) = n ∧ (∀ c ∈ (hexS n).map upB, addrC c = true) ∧ hexS n ≠ [] := by
  induction n using Nat.strongRecOn with
  | _ n ih =>
    by_cases h : n < 16
    · rw [hexS_small h]
      obtain ⟨h1, h2⟩ := upB_digit h
      refine ⟨?_, by simpa using h2, by simp⟩
      rw [List.map_cons, List.map_nil, hexN_cons, hexN_nil, h1]; omega
    · rw [hexS_step h]
      obtain ⟨g1, g2, g3⟩ := ih (n / 16) (by omega)
      obtain ⟨h1, h2⟩ := upB_digit (d := n % 16) (by omega)
      refine ⟨?_, ?_, by simp⟩
      · rw [List.map_append, hexN_append, g1, List.map_cons, List.map_nil, hexN_cons, hexN_nil, h1]; omega
      · intro c hc
        rw [List.map_append] at hc
        rcases List.mem_append.1 hc with hc | hc
        · exact g2 c hc
        · simp only [List.map_cons, List.map_nil, List.mem_singleton] at hc
          rw [hc]; exact h2

theorem upS_hex (n k : Nat) : hexN 0 (upS n k) = n ∧ (∀ c ∈ upS n k, addrC c = true) ∧ upS n k ≠ [] := by
  obtain ⟨h1, h2, h3⟩ := hexS_hex n
  have e : upS n k = List.replicate (k - (hexS n).length) 48 ++ (hexS n).map upB := by
    unfold upS padS
    rw [List.map_append, List.map_replicate]; rfl
  rw [e]
  refine ⟨by rw [hexN_append, hexN_noughts, h1], fun c hc => ?_, by simp [h3]⟩
  rcases List.mem_append.1 hc with hc | hc
  · rw [(List.mem_replicate.1 hc).2]; decide
  · exact h2 c hc

theorem numV_hex : ∀ (s : List UInt8) (a : Nat), (∀ c ∈ s, digitV c.toNat < 16) → hexN a s < 18446744073709551616 → numV 16 a s = some (hexN a s)
  | [], a, _, _ => by rw [hexN_nil]; rfl
  | c :: s, a, h, hb => by
    have h1 := h c (by simp)
    rw [hexN_cons] at hb ⊢
    have h2 := hexN_ge s (a * 16 + digitV c.toNat)
    simp only [numV]
    rw [if_neg (by omega)]
    exact numV_hex s _ (fun x hx => h x (by simp [hx])) hb

theorem numV_hexN : ∀ (s : List UInt8) (a m : Nat), numV 16 a s = some m → m = hexN a s ∧ ∀ c ∈ s, digitV c.toNat < 16
  | [], a, m, h => by simp only [numV, Option.some.injEq] at h; rw [hexN_nil]; exact ⟨h.symm, by simp⟩
  | c :: s, a, m, h => by
    simp only [numV] at h
    split at h
    · simp at h
    · rename_i hc
      obtain ⟨h1, h2⟩ := numV_hexN s _ m h
      rw [hexN_cons]
      refine ⟨h1, fun x hx => ?_⟩
      rcases List.mem_cons.1 hx with rfl | hx
      · omega
      · exact h2 x hx

/-- A hexadecimal number. -/
def hexV (s : List UInt8) : Option Nat := match numV 16 0 s with
  | some m => if s = [] then none else some m
  | none => none

theorem hexV_spec {s : List UInt8} {m : Nat} (h : hexV s = some m) : numV 16 0 s = some m ∧ s ≠ [] ∧ m < 18446744073709551616 ∧ m = hexN 0 s ∧ ∀ c ∈ s, digitV c.toNat < 16 := by
  unfold hexV at h
  split at h
  · rename_i v hv
    split at h <;> simp only [Option.some.injEq, reduceCtorEq] at h
    subst h
    rename_i hne
    obtain ⟨g1, g2⟩ := numV_hexN s 0 _ hv
    exact ⟨hv, hne, numV_lt (by omega) s 0 _ (by omega) hv, g1, g2⟩
  · simp at h

theorem hexV_upS {n k : Nat} (h : n < 18446744073709551616) : hexV (upS n k) = some n := by
  obtain ⟨h1, h2, h3⟩ := upS_hex n k
  unfold hexV
  rw [numV_hex (upS n k) 0 (fun c hc => by
    have := h2 c hc
    unfold addrC at this
    simp only [Bool.and_eq_true, decide_eq_true_eq] at this
    omega) (by rw [h1]; exact h), h1]
  simp [h3]

def hexsV : List (List UInt8) → Option (List Nat)
  | [] => some []
  | s :: l => match hexV s with
    | some m => match hexsV l with
      | some ms => some (m :: ms)
      | none => none
    | none => none

end Go.Ev
