/- The reading of swaps, whole; their tree. -/
/- The plain law of swaps: what the reference reads the program can read. -/
/- The rows of swaps, read by the program. -/
/- The door of swaps. -/
/- What is written of swaps is read again; the law's frame: normal. -/
/- Reading of counters with names: numbers, sameness of names. -/
/- Counters of transformations: what is fine, what a text says. -/
/- Counters of transformations: the reference's reading. -/
/- Counters of transformations: the tree and the text. -/
/- Counters of transformations: their text. -/
/- Counters of transformations: the program's reading, whole. -/
/- Counters of transformations: what is written is read, and the laws. -/
/- Rows of an argument: what fits. -/
/- What is written is read as its tree: the law. -/
/- The table of functions, entry by entry: numbers, texts, lists. -/
/- The table of functions, entry by entry: swaps. -/
/- Entries of the counters of transformations. -/
/- Entries of the counters of transformations: what is written is read. -/
import Derived.Test.YtkpjijiiegdcaaaGreatDoorHaq
import Derived.Test.YtkpjijiiegdcaaaGreatDoorHao
import Derived.Test.YtkpjijiiegdcaaaGreatDoorHam
set_option linter.unusedSimpArgs false
set_option linter.unusedVariables false
namespace Go.Ev
open Go.Proofs

def swFit (l : List RowD) : Prop := l.length ≤ 40000 ∧ (∀ r ∈ l, r.fits2) ∧ ∀ r ∈ l, r.name.length ≤ 40000 ∧ ∀ s ∈ r.S, s.length ≤ 40000

theorem swFit.two {l : List RowD} (h : swFit l) : rowsFit2 l := ⟨by have := h.1; omega, h.2.1⟩

/-! ### The tree -/

end Go.Ev

set_option linter.unusedSimpArgs false
set_option linter.unusedVariables false
namespace Go.Ev
open Go.Proofs

end Go.Ev

set_option linter.unusedSimpArgs false
set_option linter.unusedVariables false
namespace Go.Ev
open Go.Proofs

end Go.Ev

set_option linter.unusedSimpArgs false
set_option linter.unusedVariables false
namespace Go.Ev
open Go.Proofs

end Go.Ev

set_option linter.unusedSimpArgs false
set_option linter.unusedVariables false
namespace Go.Ev
open Go.Proofs

/-! ### normal -/

theorem ev13_long (E : Env) (h : E.code 14 = some c13) (w p d : Nat) (s : List UInt8) (hs : 40000 < s.length) (n : Nat) : evP E n 14 [.str s, .fn w [] [], .fn p [] [], .fn d [] []] = some (.sv (.bool true)) := by
  unfold evP
  simp only [h]
  have e : (40000 : Int) < (s.length : Int) := by omega
  simp [c13, List.replicate, e]

set_option maxHeartbeats 1000000 in
theorem ev13_yes (E : Env) (h : E.code 14 = some c13) (w p d : Nat) (Fw Fp Fd : List SV → Option AV) (hw : E.pure w = some Fw) (hp : E.pure p = some Fp) (hd : E.pure d = some Fd) (h25 : E.pure 22 = some F25) (h26 : E.pure 23 = some F26) (h27 : E.pure 24 = some F27) (s o : List UInt8) (hs : s.length ≤ 40000) (rows : List SV) (T : SV) (hT : IsNode T)
    (hFw : Fw [.str s] = some (.sv (.tup [.sl rows, .bool true, .int .i64 1]))) (hFp : Fp [.sl rows] = some (.sv (.tup [.str o, .int .i64 1]))) (hFd : Fd [.str s] = some (.sv (.tup [T, .int .i64 0]))) (hFo : o.length ≤ 40000 → Fd [.str o] = some (.sv (.tup [T, .int .i64 0]))) (n : Nat) :
    evP E n 14 [.str s, .fn w [] [], .fn p [] [], .fn d [] []] = some (.sv (.bool true)) := by
  unfold evP
  simp only [h]
  have e : ¬ (40000 : Int) < (s.length : Int) := by omega
  have hF27 : F27 [T] = some (.sv T) := onlyIf_pos hT
  have hF26 : F26 [T, T] = some (.sv (.bool true)) := onlyIf_pos ⟨hT, rfl⟩
  cases hT with
  | mk name kind b i u f s0 kids hl hk =>
    simp only [nodeV] at hFd hFo hF27 hF26
    by_cases ho : o.length ≤ 40000
    · have eo : ¬ (40000 : Int) < (o.length : Int) := by omega
      have hFo := hFo ho
      simp [c13, List.replicate, e, hw, hFw, hp, hFp, eo, hd, hFd, hFo, h27, hF27, h26, hF26, h25, F25]
    · have eo : (40000 : Int) < (o.length : Int) := by omega
      simp [c13, List.replicate, e, hw, hFw, hp, hFp, eo, h25, F25]

end Go.Ev

set_option linter.unusedSimpArgs false
set_option linter.unusedVariables false
namespace Go.Ev
open Go.Proofs

/-- Rows as an argument may hold them. -/
def RowD.fits3 (r : RowD) : Prop := r.name.length < 2147483648 ∧ r.N.length < 100000000000 ∧ (∀ n ∈ r.N, n < 18446744073709551616) ∧ r.S.length < 2147483648 ∧ ∀ s ∈ r.S, s.length < 2147483648

def rowsFit3 (l : List RowD) : Prop := l.length < 100000000 ∧ ∀ r ∈ l, r.fits3

/-! ### So many numbers of so many bits -/

end Go.Ev

set_option linter.unusedSimpArgs false
set_option linter.unusedVariables false
namespace Go.Ev
open Go.Proofs

end Go.Ev

set_option linter.unusedSimpArgs false
set_option linter.unusedVariables false
namespace Go.Ev
open Go.Proofs

end Go.Ev

set_option linter.unusedSimpArgs false
set_option linter.unusedVariables false
namespace Go.Ev
open Go.Proofs

/-! ### The text -/

end Go.Ev

set_option linter.unusedSimpArgs false
set_option linter.unusedVariables false
namespace Go.Ev
open Go.Proofs

end Go.Ev

set_option linter.unusedSimpArgs false
set_option linter.unusedVariables false
namespace Go.Ev
open Go.Proofs

def F84 : List SV → Option AV
  | [.str s] => some (.sv (.tup [.str s, .nilI]))
  | _ => none

theorem ev84 (E : Env) (h : E.code 178 = some c84) (s : List UInt8) (n : Nat) : evP E n 178 [.str s] = some (.sv (.tup [.str s, .nilI])) := by
  unfold evP
  simp only [h]
  simp [c84, List.replicate]

end Go.Ev

set_option linter.unusedSimpArgs false
set_option linter.unusedVariables false
namespace Go.Ev
open Go.Proofs

theorem ev9_opn (E : Env) (h : E.code 16 = some c9) (w t d : Nat) (Fw : List SV → Option AV) (hw : E.pure w = some Fw) (h25 : E.pure 22 = some F25) (s : List UInt8) (hs : s.length ≤ 40000) (l : List SV) (b : Bool)
    (hF : Fw [.str s] = some (.sv (.tup [.sl l, .bool b, .int .i64 2]))) (n : Nat) : evP E n 16 [.str s, .fn w [] [], .fn t [] [], .fn d [] []] = some (.sv (.bool true)) := by
  unfold evP
  simp only [h]
  have e : ¬ (40000 : Int) < (s.length : Int) := by omega
  simp [c9, List.replicate, e, hw, hF, h25, F25]

theorem ev13_opn (E : Env) (h : E.code 14 = some c13) (w p d : Nat) (Fw : List SV → Option AV) (hw : E.pure w = some Fw) (h25 : E.pure 22 = some F25) (s : List UInt8) (hs : s.length ≤ 40000) (l : List SV) (b : Bool)
    (hF : Fw [.str s] = some (.sv (.tup [.sl l, .bool b, .int .i64 2]))) (n : Nat) : evP E n 14 [.str s, .fn w [] [], .fn p [] [], .fn d [] []] = some (.sv (.bool true)) := by
  unfold evP
  simp only [h]
  have e : ¬ (40000 : Int) < (s.length : Int) := by omega
  cases b <;> simp [c13, List.replicate, e, hw, hF, h25, F25]

end Go.Ev

set_option linter.unusedSimpArgs false
set_option linter.unusedVariables false
namespace Go.Ev
open Go.Proofs

def zzS (S : List (List UInt8)) : Bool := decide (S.length ≤ 2147483647) && S.all fun s => decide (s.length ≤ 2147483647)
def zzRow (r : RowD) : Bool := decide (r.name.length ≤ 2147483647) && decide (r.N.length ≤ 2147483647) && zzS r.S
def zzRows (l : List RowD) : Bool := decide (l.length ≤ 2147483647) && l.all zzRow

theorem loop1080 (E : Env) (cf : CallF) (xs : List SV) (hs : xs.length < 1000000000000) (m : Nat) :
    ∀ (rest : List (List UInt8)) (pre : List SV) (k : Nat), xs = pre ++ strs rest → rest.length < k →
      rounds (evC E cf m b1080_0) k { tm := List.replicate 8 (.sv .undef) ++ [.sv (.sl xs), .sv (.int .i64 xs.length), .sv (.int .i64 pre.length)] ++ List.replicate 7 (.sv .undef), lz := none, bx := [], df := [] } =
        if rest.all (fun s => decide (s.length ≤ 2147483647)) = true then some (.exit 0, { tm := List.replicate 18 (.sv .undef), lz := none, bx := [], df := [] })
        else some (.ret, { tm := [.sv .undef, .sv .undef, .sv (.bool false)] ++ List.replicate 15 (.sv .undef), lz := none, bx := [], df := [] }) := by
  intro rest
  induction rest with
  | nil =>
    intro pre k hsp hk
    obtain ⟨k, rfl⟩ : ∃ k', k = k' + 1 := ⟨k - 1, by omega⟩
    have hlt : ¬ (pre.length < xs.length) := by rw [hsp]; simp [strs]
    refine rounds_out ?_ (by simp)
    simp [b1080_0, List.replicate, hlt]
  | cons c rest ih =>
    intro pre k hsp hk
    obtain ⟨k, rfl⟩ : ∃ k', k = k' + 1 := ⟨k - 1, by omega⟩
    have hlt : pre.length < xs.length := by rw [hsp]; simp [strs]
    have hc : ∀ h : pre.length < xs.length, xs[pre.length]'h = .str c := by subst hsp; simp [strs]
    have hw2 : IntKind.i64.wrap ((pre.length : Int) + 1) = ((pre ++ [SV.str c]).length : Int) := by rw [IntKind.wrap_i64]; simp; omega
    by_cases h1 : c.length ≤ 2147483647
    · have e : ¬ (2147483647 : Int) < (c.length : Int) := by omega
      have := ih (pre ++ [.str c]) k (by rw [hsp]; simp [strs]) (by simp at hk; omega)
      rw [show (c :: rest).all (fun s => decide (s.length ≤ 2147483647)) = rest.all (fun s => decide (s.length ≤ 2147483647)) from by simp [h1], ← this]
      refine rounds_step ?_
      simp [b1080_0, List.replicate, hlt, hc, e, hw2]
    · have e : (2147483647 : Int) < (c.length : Int) := by omega
      rw [if_neg (by simp [h1])]
      refine rounds_out ?_ (by simp)
      simp [b1080_0, List.replicate, hlt, hc, e]

theorem ev1080 (E : Env) (h : E.code 55 = some c1080) (S : List (List UInt8)) (n : Nat) (hn : S.length < n ∨ 2147483647 < S.length) : evP E n 55 [.sl (strs S)] = some (.sv (.bool (zzS S))) := by
  unfold evP
  simp only [h]
  have hst : (strs S).length = S.length := strs_length S
  unfold zzS
  by_cases h1 : S.length ≤ 2147483647
  · have e : ¬ (2147483647 : Int) < (S.length : Int) := by omega
    have hl := loop1080 E (evF E n) (strs S) (by omega) n S [] n rfl (by omega)
    simp only [List.replicate, List.cons_append, List.nil_append, List.length_nil, Int.ofNat_zero, Int.natCast_zero, hst] at hl
    cases hv : S.all (fun s => decide (s.length ≤ 2147483647)) with
    | false => simp only [hv, Bool.false_eq_true, if_false] at hl; simp [c1080, List.replicate, hl, hst, e, h1]
    | true => simp only [hv, if_true] at hl; simp [c1080, List.replicate, hl, hst, e, h1]
  · have e : (2147483647 : Int) < (S.length : Int) := by omega
    simp [c1080, List.replicate, hst, e, h1]

noncomputable def F1080 : List SV → Option AV
  | [.sl l] => onlyIf (l = strs (l.map unstr)) (some (.sv (.bool (zzS (l.map unstr)))))
  | _ => none

theorem ev1035 (E : Env) (h : E.code 21 = some c1035) (h80 : E.pure 55 = some F1080) (r : RowD) (n : Nat) : evP E n 21 [.agg [.str r.name, .sl (u64s r.N), .sl (strs r.S)]] = some (.sv (.bool (zzRow r))) := by
  unfold evP
  simp only [h]
  have hsl : (u64s r.N).length = r.N.length := u64s_length r.N
  have hF : F1080 [.sl (strs r.S)] = some (.sv (.bool (zzS r.S))) := by
    unfold F1080
    simp only [unstrs]
    exact onlyIf_pos trivial
  unfold zzRow
  by_cases h1 : r.name.length ≤ 2147483647
  · have e : ¬ (2147483647 : Int) < (r.name.length : Int) := by omega
    by_cases h2 : r.N.length ≤ 2147483647
    · have e2 : ¬ (2147483647 : Int) < (r.N.length : Int) := by omega
      cases hz : zzS r.S <;> rw [hz] at hF <;> simp [c1035, List.replicate, e, e2, h1, h2, hsl, h80, hF]
    · have e2 : (2147483647 : Int) < (r.N.length : Int) := by omega
      simp [c1035, List.replicate, e, e2, h1, h2, hsl]
  · have e : (2147483647 : Int) < (r.name.length : Int) := by omega
    simp [c1035, List.replicate, e, h1]

noncomputable def F1035 : List SV → Option AV
  | [.agg [.str s, .sl ns, .sl ss]] => onlyIf (SV.agg [.str s, .sl ns, .sl ss] = (unrow (.agg [.str s, .sl ns, .sl ss])).sv) (some (.sv (.bool (zzRow (unrow (.agg [.str s, .sl ns, .sl ss]))))))
  | _ => none

theorem F1035_eq (r : RowD) : F1035 [.agg [.str r.name, .sl (u64s r.N), .sl (strs r.S)]] = some (.sv (.bool (zzRow r))) := by
  have hu : unrow (.agg [.str r.name, .sl (u64s r.N), .sl (strs r.S)]) = r := unrow_sv r
  unfold F1035
  simp only [hu]
  exact onlyIf_pos rfl

theorem loop1015 (E : Env) (cf : CallF) (h35 : E.pure 21 = some F1035) (xs : List SV) (hs : xs.length < 1000000000000) (m : Nat) :
    ∀ (rest : List RowD) (pre : List SV) (bx : List Box) (k : Nat), xs = pre ++ rowsSV rest → rest.length < k →
      ∃ bx', rounds (evC E cf m b1015_0) k { tm := List.replicate 8 (.sv .undef) ++ [.sv (.sl xs), .sv (.int .i64 xs.length), .sv (.int .i64 pre.length)] ++ List.replicate 7 (.sv .undef), lz := none, bx := bx, df := [] } =
        if rest.all zzRow = true then some (.exit 0, { tm := List.replicate 18 (.sv .undef), lz := none, bx := bx', df := [] })
        else some (.ret, { tm := [.sv .undef, .sv .undef, .sv (.bool false)] ++ List.replicate 15 (.sv .undef), lz := none, bx := bx', df := [] }) := by
  intro rest
  induction rest with
  | nil =>
    intro pre bx k hsp hk
    obtain ⟨k, rfl⟩ : ∃ k', k = k' + 1 := ⟨k - 1, by omega⟩
    have hlt : ¬ (pre.length < xs.length) := by rw [hsp]; simp [rowsSV]
    refine ⟨bx, rounds_out ?_ (by simp)⟩
    simp [b1015_0, List.replicate, hlt]
  | cons r rest ih =>
    intro pre bx k hsp hk
    obtain ⟨k, rfl⟩ : ∃ k', k = k' + 1 := ⟨k - 1, by omega⟩
    have hlt : pre.length < xs.length := by rw [hsp]; simp [rowsSV]
    have hc : ∀ h : pre.length < xs.length, xs[pre.length]'h = .agg [.str r.name, .sl (u64s r.N), .sl (strs r.S)] := by subst hsp; simp [rowsSV, RowD.sv]
    have hw2 : IntKind.i64.wrap ((pre.length : Int) + 1) = ((pre ++ [r.sv]).length : Int) := by rw [IntKind.wrap_i64]; simp; omega
    have hF := F1035_eq r
    obtain ⟨bx', he⟩ := ih (pre ++ [r.sv]) (bx ++ [rowBox r]) k (by rw [hsp]; simp [rowsSV]) (by simp at hk; omega)
    cases hz : zzRow r with
    | false =>
      rw [hz] at hF
      refine ⟨bx ++ [rowBox r], ?_⟩
      rw [if_neg (by simp [hz])]
      refine rounds_out ?_ (by simp)
      simp [b1015_0, List.replicate, hlt, hc, h35, hF, rowBox]
    | true =>
      rw [hz] at hF
      refine ⟨bx', ?_⟩
      rw [show (r :: rest).all zzRow = rest.all zzRow from by simp [hz], ← he]
      refine rounds_step ?_
      simp [b1015_0, List.replicate, hlt, hc, h35, hF, rowBox, hw2]

theorem ev1015 (E : Env) (h : E.code 9 = some c1015) (h35 : E.pure 21 = some F1035) (l : List RowD) (n : Nat) (hn : l.length < n ∨ 2147483647 < l.length) : evP E n 9 [.sl (rowsSV l)] = some (.sv (.bool (zzRows l))) := by
  unfold evP
  simp only [h]
  have hst : (rowsSV l).length = l.length := by simp [rowsSV]
  unfold zzRows
  by_cases h1 : l.length ≤ 2147483647
  · have e : ¬ (2147483647 : Int) < (l.length : Int) := by omega
    obtain ⟨bx', hl⟩ := loop1015 E (evF E n) h35 (rowsSV l) (by omega) n l [] [] n rfl (by omega)
    simp only [List.replicate, List.cons_append, List.nil_append, List.length_nil, Int.ofNat_zero, Int.natCast_zero, hst] at hl
    cases hv : l.all zzRow with
    | false => simp only [hv, Bool.false_eq_true, if_false] at hl; simp [c1015, List.replicate, hl, hst, e, h1]
    | true => simp only [hv, if_true] at hl; simp [c1015, List.replicate, hl, hst, e, h1]
  · have e : (2147483647 : Int) < (l.length : Int) := by omega
    simp [c1015, List.replicate, hst, e, h1]

noncomputable def F1015 : List SV → Option AV
  | [.sl l] => onlyIf (l = rowsSV (l.map unrow)) (some (.sv (.bool (zzRows (l.map unrow)))))
  | _ => none

theorem F1015_eq (l : List RowD) : F1015 [.sl (rowsSV l)] = some (.sv (.bool (zzRows l))) := by
  unfold F1015
  simp only [unrows]
  exact onlyIf_pos trivial

end Go.Ev

set_option linter.unusedSimpArgs false
set_option linter.unusedVariables false
namespace Go.Ev
open Go.Proofs

theorem zzRows_fit {l : List RowD} (h : zzRows l = true) (hn : ∀ r ∈ l, ∀ n ∈ r.N, n < 18446744073709551616) (hl : l.length ≤ 1000) : rowsFit3 l := by
  unfold zzRows at h
  rw [Bool.and_eq_true, List.all_eq_true] at h
  refine ⟨by omega, fun r hr => ?_⟩
  have h1 := h.2 r hr
  unfold zzRow zzS at h1
  simp only [Bool.and_eq_true, decide_eq_true_eq, List.all_eq_true] at h1
  obtain ⟨⟨h2, h3⟩, h4, h5⟩ := h1
  exact ⟨by omega, by omega, hn r hr, by omega, fun s hs => by have := h5 s hs; omega⟩

set_option maxHeartbeats 1000000 in
theorem ev1016_long (E : Env) (h : E.code 10 = some c1016) (p t d : Nat) (l : List SV) (hl : 1000 < l.length) (n : Nat) : evP E n 10 [.sl l, .fn p [] [], .fn t [] [], .fn d [] []] = some (.sv (.bool true)) := by
  unfold evP
  simp only [h]
  have e : (1000 : Int) < (l.length : Int) := by omega
  simp [c1016, List.replicate, e]

set_option maxHeartbeats 1000000 in
theorem ev1016_open (E : Env) (h : E.code 10 = some c1016) (p t d : Nat) (Fp : List SV → Option AV) (hp : E.pure p = some Fp) (h25 : E.pure 22 = some F25) (l : List SV) (hl : l.length ≤ 1000) (o : List UInt8) (told : Int)
    (hF : Fp [.sl l] = some (.sv (.tup [.str o, .int .i64 told]))) (ht : told ≠ 1 ∨ 40000 < o.length) (n : Nat) : evP E n 10 [.sl l, .fn p [] [], .fn t [] [], .fn d [] []] = some (.sv (.bool true)) := by
  unfold evP
  simp only [h]
  have e : ¬ (1000 : Int) < (l.length : Int) := by omega
  by_cases h1 : told = 1
  · have e2 : (40000 : Int) < (o.length : Int) := by omega
    simp [c1016, List.replicate, e, hp, hF, h1, e2, h25, F25]
  · have h2 : (told == 1) = false := by simpa using h1
    have h3 : (told != 1) = true := by simp [bne, h2]
    simp [c1016, List.replicate, e, hp, hF, h1, h2, h3, h25, F25]

set_option maxHeartbeats 1000000 in
theorem ev1016_yes (E : Env) (h : E.code 10 = some c1016) (p t d : Nat) (Fp Ft Fd : List SV → Option AV) (hp : E.pure p = some Fp) (ht : E.pure t = some Ft) (hd : E.pure d = some Fd) (h25 : E.pure 22 = some F25) (h26 : E.pure 23 = some F26) (h27 : E.pure 24 = some F27) (l : List SV) (hl : l.length ≤ 1000) (o : List UInt8) (ho : o.length ≤ 40000) (T : SV) (hT : IsNode T)
    (hFp : Fp [.sl l] = some (.sv (.tup [.str o, .int .i64 1]))) (hFt : Ft [.sl l] = some (.sv (.tup [T, .int .i64 1]))) (hFd : Fd [.str o] = some (.sv (.tup [T, .int .i64 0]))) (n : Nat) :
    evP E n 10 [.sl l, .fn p [] [], .fn t [] [], .fn d [] []] = some (.sv (.bool true)) := by
  unfold evP
  simp only [h]
  have e : ¬ (1000 : Int) < (l.length : Int) := by omega
  have e2 : ¬ (40000 : Int) < (o.length : Int) := by omega
  have hF27 : F27 [T] = some (.sv T) := onlyIf_pos hT
  have hF26 : F26 [T, T] = some (.sv (.bool true)) := onlyIf_pos ⟨hT, rfl⟩
  cases hT with
  | mk name kind b i u f s0 kids hl hk =>
    simp only [nodeV] at hFt hFd hF27 hF26
    simp [c1016, List.replicate, e, e2, hp, hFp, hd, hFd, ht, hFt, h27, hF27, h26, hF26, h25, F25]

noncomputable def F1003 : List SV → Option AV
  | [.sl l] => onlyIf (l = rowsSV (l.map unrow) ∧ ∀ r ∈ l.map unrow, ∀ n ∈ r.N, n < 18446744073709551616) (some (.sv (.bool true)))
  | _ => none

end Go.Ev

set_option linter.unusedSimpArgs false
set_option linter.unusedVariables false
namespace Go.Ev
open Go.Proofs

/-- What every entry rests on. -/
structure Base (P : Program) (E : Env) : Prop where
  m : P.follows .mixedOrders = true
  T : CodeT P E
  Q : QuietOK P E
  P : PureOK P E

variable {P : Program} {E : Env}

theorem p134 (B : Base P E) (h : E.code 204 = some c134) : PureFn P E 204 F134 := by
  refine PureFn.of B.m B.T B.Q B.P fun vs r hF => ?_
  unfold F134 at hF
  split at hF
  · obtain ⟨⟨h0, h1⟩, hr⟩ := onlyIf_some hF
    rename_i c
    obtain ⟨k, rfl⟩ := Int.eq_ofNat_of_zero_le h0
    simp only [Option.some.injEq, Int.toNat_natCast] at hr; subst hr
    exact ⟨1, _, ev134 E h 1 k (by omega), .inl rfl⟩
  · cases hF

theorem p123 (B : Base P E) (h : E.code 188 = some c123) (h134 : E.pure 204 = some F134) : PureFn P E 188 F123 := by
  refine PureFn.of B.m B.T B.Q B.P fun vs r hF => ?_
  unfold F123 at hF
  split at hF
  · obtain ⟨⟨h0, rfl⟩, hr⟩ := onlyIf_some hF
    rename_i s
    simp only [Option.some.injEq] at hr; subst hr
    exact ⟨s.length + 1, _, ev123 E h h134 s h0 _ (by omega), .inl rfl⟩
  · cases hF

theorem p81 (B : Base P E) (h : E.code 54 = some c81) (h123 : E.pure 188 = some F123) : PureFn P E 54 F81 := by
  refine PureFn.of B.m B.T B.Q B.P fun vs r hF => ?_
  unfold F81 at hF
  split at hF
  · obtain ⟨h0, hr⟩ := onlyIf_some hF
    rename_i s
    simp only [Option.some.injEq] at hr; subst hr
    exact ⟨1, _, ev81 E h h123 s h0 _, .inl rfl⟩
  · cases hF

theorem p97 (B : Base P E) (h : E.code 60 = some c97) : PureFn P E 60 F97 := by
  refine PureFn.of_rec size97 B.m B.T B.Q B.P fun m vs r hF hs => ?_
  unfold F97 at hF
  split at hF
  · obtain ⟨⟨h0, h1, rfl⟩, hr⟩ := onlyIf_some hF
    rename_i c
    obtain ⟨k, rfl⟩ := Int.eq_ofNat_of_zero_le h0
    simp only [Option.some.injEq, Int.toNat_natCast] at hr; subst hr
    simp only [size97, Int.toNat_natCast] at hs
    subst hs
    exact ⟨1, _, ev97 E h 1 k (by omega), .inl rfl⟩
  · cases hF

theorem p45 (B : Base P E) (h : E.code 29 = some c45) (h97 : E.pure 60 = some F97) : PureFn P E 29 F45 := by
  refine PureFn.of B.m B.T B.Q B.P fun vs r hF => ?_
  unfold F45 at hF
  split at hF
  · obtain ⟨⟨h0, h1⟩, hr⟩ := onlyIf_some hF
    rename_i c
    obtain ⟨k, rfl⟩ := Int.eq_ofNat_of_zero_le h0
    simp only [Option.some.injEq, Int.toNat_natCast] at hr; subst hr
    exact ⟨1, _, ev45 E h h97 1 k (by omega), .inl rfl⟩
  · cases hF

theorem p78 (B : Base P E) (h : E.code 174 = some c78) : PureFn P E 174 F78 := by
  refine PureFn.of B.m B.T B.Q B.P fun vs r hF => ?_
  unfold F78 at hF
  split at hF
  · obtain ⟨h0, hr⟩ := onlyIf_some hF
    rename_i s
    simp only [Option.some.injEq] at hr; subst hr
    exact ⟨s.length + 1, _, ev78 E h s h0 _ (by omega), .inl rfl⟩
  · cases hF

theorem p55 (B : Base P E) (h : E.code 46 = some c55) : PureFn P E 46 F55 := by
  refine PureFn.of B.m B.T B.Q B.P fun vs r hF => ?_
  unfold F55 at hF
  split at hF
  · rename_i s ns ss a b
    simp only [Option.some.injEq] at hF; subst hF
    exact ⟨1, _, ev55 E h s ns ss a b 1, .inl rfl⟩
  · cases hF

theorem p28 (B : Base P E) (h : E.code 41 = some c28) : PureFn P E 41 F28 := by
  refine PureFn.of B.m B.T B.Q B.P fun vs r hF => ?_
  unfold F28 at hF
  split at hF
  · obtain ⟨h0, hr⟩ := onlyIf_some hF
    rename_i s
    simp only [Option.some.injEq] at hr; subst hr
    obtain ⟨r, h1, h2⟩ := ev28 E h s h0 (s.length + 1) (by omega)
    exact ⟨_, r, h1, .inr ⟨_, rfl, h2⟩⟩
  · cases hF

theorem p52 (B : Base P E) (h : E.code 42 = some c52) : PureFn P E 42 F52 := by
  refine PureFn.of B.m B.T B.Q B.P fun vs r hF => ?_
  unfold F52 at hF
  split at hF
  · obtain ⟨h0, hr⟩ := onlyIf_some hF
    rename_i s
    simp only [Option.some.injEq] at hr; subst hr
    obtain ⟨r, h1, h2⟩ := ev52 E h s h0 (s.length + 1) (by omega)
    exact ⟨_, r, h1, .inr ⟨_, rfl, h2⟩⟩
  · cases hF

theorem p33 (B : Base P E) (h : E.code 35 = some c33) : PureFn P E 35 F33 := by
  refine PureFn.of B.m B.T B.Q B.P fun vs r hF => ?_
  unfold F33 at hF
  split at hF
  · rename_i a b
    simp only [Option.some.injEq] at hF; subst hF
    exact ⟨1, _, ev33 E h a b 1, .inl rfl⟩
  · cases hF

theorem p38 (B : Base P E) (h : E.code 37 = some c38) : PureFn P E 37 F38 := by
  refine PureFn.of B.m B.T B.Q B.P fun vs r hF => ?_
  unfold F38 at hF
  split at hF
  · rename_i a
    simp only [Option.some.injEq] at hF; subst hF
    exact ⟨1, _, ev38 E h a 1, .inl rfl⟩
  · cases hF

end Go.Ev


set_option linter.unusedSimpArgs false
set_option linter.unusedVariables false
namespace Go.Ev
open Go.Proofs
variable {P : Program} {E : Env}

theorem p44 (B : Base P E) (h : E.code 26 = some c44) : PureFn P E 26 F44 := by
  refine PureFn.of B.m B.T B.Q B.P fun vs r hF => ?_
  unfold F44 at hF
  split at hF
  · obtain ⟨⟨h0, h1, h2⟩, hr⟩ := onlyIf_some hF
    rename_i s n
    obtain ⟨k, rfl⟩ := Int.eq_ofNat_of_zero_le h0
    simp only [Option.some.injEq, Int.toNat_natCast] at hr; subst hr
    exact ⟨k + 1, _, ev44 E h s k (by omega) h2 _ (by omega), .inl rfl⟩
  · cases hF

theorem p30 (B : Base P E) (h : E.code 61 = some c30) : PureFn P E 61 F30 := by
  refine PureFn.of B.m B.T B.Q B.P fun vs r hF => ?_
  unfold F30 at hF
  split at hF
  · rename_i a b
    simp only [Option.some.injEq] at hF; subst hF
    exact ⟨1, _, ev30 E h 1 a b, .inl rfl⟩
  · cases hF

end Go.Ev


set_option linter.unusedSimpArgs false
set_option linter.unusedVariables false
namespace Go.Ev
open Go.Proofs
variable {P : Program} {E : Env}

theorem p84 (B : Base P E) (h : E.code 178 = some c84) : PureFn P E 178 F84 := by
  refine PureFn.of B.m B.T B.Q B.P fun vs r hF => ?_
  unfold F84 at hF
  split at hF
  · simp only [Option.some.injEq] at hF; subst hF
    exact ⟨1, _, ev84 E h _ 1, .inl rfl⟩
  · cases hF

def F8x : List SV → Option AV
  | [.str s] => some (.sv (.bool true))
  | _ => none

end Go.Ev


set_option linter.unusedSimpArgs false
set_option linter.unusedVariables false
namespace Go.Ev
open Go.Proofs
variable {P : Program} {E : Env}

theorem p1080 (B : Base P E) (h : E.code 55 = some c1080) : PureFn P E 55 F1080 := by
  refine PureFn.of B.m B.T B.Q B.P fun vs r hF => ?_
  unfold F1080 at hF
  split at hF
  · rename_i l
    obtain ⟨h1, hr⟩ := onlyIf_some hF
    simp only [Option.some.injEq] at hr; subst hr
    refine ⟨l.length + 1, _, ?_, .inl rfl⟩
    have := ev1080 E h (l.map unstr) (l.length + 1) (.inl (by simp))
    rw [← h1] at this
    exact this
  · cases hF

theorem p1035 (B : Base P E) (h : E.code 21 = some c1035) (h80 : E.pure 55 = some F1080) : PureFn P E 21 F1035 := by
  refine PureFn.of B.m B.T B.Q B.P fun vs r hF => ?_
  unfold F1035 at hF
  split at hF
  · rename_i s ns ss
    obtain ⟨h1, hr⟩ := onlyIf_some hF
    simp only [Option.some.injEq] at hr; subst hr
    refine ⟨1, _, ?_, .inl rfl⟩
    have := ev1035 E h h80 (unrow (.agg [.str s, .sl ns, .sl ss])) 1
    rw [show SV.agg [.str (unrow (.agg [.str s, .sl ns, .sl ss])).name, .sl (u64s (unrow (.agg [.str s, .sl ns, .sl ss])).N), .sl (strs (unrow (.agg [.str s, .sl ns, .sl ss])).S)] = (unrow (.agg [.str s, .sl ns, .sl ss])).sv from rfl, ← h1] at this
    exact this
  · cases hF

theorem p1015 (B : Base P E) (h : E.code 9 = some c1015) (h35 : E.pure 21 = some F1035) : PureFn P E 9 F1015 := by
  refine PureFn.of B.m B.T B.Q B.P fun vs r hF => ?_
  unfold F1015 at hF
  split at hF
  · rename_i l
    obtain ⟨h1, hr⟩ := onlyIf_some hF
    simp only [Option.some.injEq] at hr; subst hr
    refine ⟨l.length + 1, _, ?_, .inl rfl⟩
    have := ev1015 E h h35 (l.map unrow) (l.length + 1) (.inl (by simp))
    rw [← h1] at this
    exact this
  · cases hF

end Go.Ev
