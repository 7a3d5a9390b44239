/- Reading of counters with names: numbers, sameness of names. -/
/- Counters of transformations: what is fine, what a text says. -/
/- Counters of transformations: the reference's reading. -/
/- Counters of transformations: the tree and the text. -/
/- Counters of transformations: their text. -/
import Derived.Test.YtnpkdihdpgfemaaGreatDoorSA
set_option linter.unusedSimpArgs false
set_option linter.unusedVariables false
namespace Go.Ev
open Go.Proofs

/-- Rows as an argument may hold them. -/
def RowD.fits3 (r : RowD) : Prop := r.name.length < 2147483648 ∧ r.N.length < 100000000000 ∧ (∀ n ∈ r.N, n < 18446744073709551616) ∧ r.S.length < 2147483648 ∧ ∀ s ∈ r.S, s.length < 2147483648

def rowsFit3 (l : List RowD) : Prop := l.length < 100000000 ∧ ∀ r ∈ l, r.fits3

def distP (pre : List (List UInt8)) : List (List UInt8) → Bool
  | [] => true
  | c :: rest => pre.all (fun p => !(c == p)) && distP (pre ++ [c]) rest

noncomputable def F1084 : List SV → Option AV
  | [.sl l] => onlyIf (l = rowsSV (l.map unrow) ∧ l.length < 1000000000) (some (.sv (.bool (distP [] ((l.map unrow).map RowD.name)))))
  | _ => none

theorem F1084_eq (l : List RowD) (h : l.length < 1000000000) : F1084 [.sl (rowsSV l)] = some (.sv (.bool (distP [] (l.map RowD.name)))) := by
  unfold F1084
  simp only [unrows]
  exact onlyIf_pos ⟨trivial, by simpa [rowsSV] using h⟩

/-! ### So many numbers of so many bits -/

def cnt31 (r : RowD) : Bool := r.N.all (fun n => decide (n < 2147483648)) && decide (r.N.length = 1) && decide (r.S.length = 0)

end Go.Ev

set_option linter.unusedSimpArgs false
set_option linter.unusedVariables false
namespace Go.Ev
open Go.Proofs

def xfNames : List (List UInt8) := [[88, 102, 114, 109, 73, 110, 69, 114, 114, 111, 114], [88, 102, 114, 109, 73, 110, 66, 117, 102, 102, 101, 114, 69, 114, 114, 111, 114], [88, 102, 114, 109, 73, 110, 72, 100, 114, 69, 114, 114, 111, 114], [88, 102, 114, 109, 73, 110, 78, 111, 83, 116, 97, 116, 101, 115], [88, 102, 114, 109, 73, 110, 83, 116, 97, 116, 101, 80, 114, 111, 116, 111, 69, 114, 114, 111, 114], [88, 102, 114, 109, 73, 110, 83, 116, 97, 116, 101, 77, 111, 100, 101, 69, 114, 114, 111, 114], [88, 102, 114, 109, 73, 110, 83, 116, 97, 116, 101, 83, 101, 113, 69, 114, 114, 111, 114], [88, 102, 114, 109, 73, 110, 83, 116, 97, 116, 101, 69, 120, 112, 105, 114, 101, 100], [88, 102, 114, 109, 73, 110, 83, 116, 97, 116, 101, 77, 105, 115, 109, 97, 116, 99, 104], [88, 102, 114, 109, 73, 110, 83, 116, 97, 116, 101, 73, 110, 118, 97, 108, 105, 100], [88, 102, 114, 109, 73, 110, 84, 109, 112, 108, 77, 105, 115, 109, 97, 116, 99, 104], [88, 102, 114, 109, 73, 110, 78, 111, 80, 111, 108, 115], [88, 102, 114, 109, 73, 110, 80, 111, 108, 66, 108, 111, 99, 107], [88, 102, 114, 109, 73, 110, 80, 111, 108, 69, 114, 114, 111, 114], [88, 102, 114, 109, 79, 117, 116, 69, 114, 114, 111, 114], [88, 102, 114, 109, 79, 117, 116, 66, 117, 110, 100, 108, 101, 71, 101, 110, 69, 114, 114, 111, 114], [88, 102, 114, 109, 79, 117, 116, 66, 117, 110, 100, 108, 101, 67, 104, 101, 99, 107, 69, 114, 114, 111, 114], [88, 102, 114, 109, 79, 117, 116, 78, 111, 83, 116, 97, 116, 101, 115], [88, 102, 114, 109, 79, 117, 116, 83, 116, 97, 116, 101, 80, 114, 111, 116, 111, 69, 114, 114, 111, 114], [88, 102, 114, 109, 79, 117, 116, 83, 116, 97, 116, 101, 77, 111, 100, 101, 69, 114, 114, 111, 114], [88, 102, 114, 109, 79, 117, 116, 83, 116, 97, 116, 101, 83, 101, 113, 69, 114, 114, 111, 114], [88, 102, 114, 109, 79, 117, 116, 83, 116, 97, 116, 101, 69, 120, 112, 105, 114, 101, 100], [88, 102, 114, 109, 79, 117, 116, 80, 111, 108, 66, 108, 111, 99, 107], [88, 102, 114, 109, 79, 117, 116, 80, 111, 108, 68, 101, 97, 100], [88, 102, 114, 109, 79, 117, 116, 80, 111, 108, 69, 114, 114, 111, 114], [88, 102, 114, 109, 70, 119, 100, 72, 100, 114, 69, 114, 114, 111, 114], [88, 102, 114, 109, 79, 117, 116, 83, 116, 97, 116, 101, 73, 110, 118, 97, 108, 105, 100], [88, 102, 114, 109, 65, 99, 113, 117, 105, 114, 101, 69, 114, 114, 111, 114]]

def F1041 : List SV → Option AV
  | [] => some (.sv (.sl (strs xfNames)))
  | _ => none

noncomputable def F1083 : List SV → Option AV
  | [.agg [.str s, .sl ns, .sl ss], .int .i64 a, .int .i64 b, .int .i64 c] => onlyIf (a = 1 ∧ b = 31 ∧ c = 0 ∧ SV.agg [.str s, .sl ns, .sl ss] = (unrow (.agg [.str s, .sl ns, .sl ss])).sv ∧ (unrow (.agg [.str s, .sl ns, .sl ss])).fits3) (some (.sv (.bool (cnt31 (unrow (.agg [.str s, .sl ns, .sl ss]))))))
  | _ => none

theorem F1083_eq (r : RowD) (h : r.fits3) : F1083 [.agg [.str r.name, .sl (u64s r.N), .sl (strs r.S)], .int .i64 1, .int .i64 31, .int .i64 0] = some (.sv (.bool (cnt31 r))) := by
  have hu : unrow (.agg [.str r.name, .sl (u64s r.N), .sl (strs r.S)]) = r := unrow_sv r
  unfold F1083
  simp only [hu]
  exact onlyIf_pos ⟨trivial, trivial, trivial, rfl, h⟩

def xfOk (r : RowD) : Bool := xfNames.any (fun s => s == r.name) && cnt31 r
def xfFine (l : List RowD) : Bool := l.all xfOk && distP [] (l.map RowD.name)

noncomputable def F1039 : List SV → Option AV
  | [.sl l] => onlyIf (l = rowsSV (l.map unrow) ∧ rowsFit3 (l.map unrow)) (some (.sv (.bool (xfFine (l.map unrow)))))
  | _ => none

theorem F1039_eq (l : List RowD) (h : rowsFit3 l) : F1039 [.sl (rowsSV l)] = some (.sv (.bool (xfFine l))) := by
  unfold F1039
  simp only [unrows]
  exact onlyIf_pos ⟨trivial, h⟩

def F1050 : List SV → Option AV
  | [.bool b] => some (.sv (.int .i64 (if b then 1 else 2)))
  | _ => none

end Go.Ev

set_option linter.unusedSimpArgs false
set_option linter.unusedVariables false
namespace Go.Ev
open Go.Proofs

/-- Names with numbers. -/
def namedV : List (List UInt8) → Option (List RowD)
  | [] => some []
  | s :: l => match fieldsL s with
    | [a, b] => match decV b with
      | some n => match namedV l with
        | some rs => some (⟨a, [n], []⟩ :: rs)
        | none => none
      | none => none
    | _ => none

noncomputable def F1049 : List SV → Option AV
  | [.str s] => onlyIf (s.length ≤ 40000) (some (.sv (.tup (match namedV (linesL s) with | some rs => [.sl (rowsSV rs), .bool (s.all plainC)] | none => [.sl [], .bool false]))))
  | _ => none

theorem namedV_fit {B : Nat} : ∀ {l : List (List UInt8)} {rs : List RowD}, namedV l = some rs → (∀ s ∈ l, s.length ≤ B) → rs.length = l.length ∧ ∀ r ∈ rs, r.name.length ≤ B ∧ (∃ n, r.N = [n] ∧ n < 18446744073709551616) ∧ r.S = []
  | [], rs, h, _ => by simp only [namedV, Option.some.injEq] at h; subst h; simp
  | s :: l, rs, h, hB => by
    simp only [namedV] at h
    obtain ⟨_, _, hsh⟩ := fieldsV_shape s
    rcases hfl : fieldsL s with _ | ⟨a, _ | ⟨b, _ | ⟨d, t⟩⟩⟩ <;> rw [hfl] at h hsh <;> simp only [reduceCtorEq] at h
    cases hd : decV b with
    | none => rw [hd] at h; simp only [reduceCtorEq] at h
    | some v =>
      rw [hd] at h
      cases hn : namedV l with
      | none => rw [hn] at h; simp only [reduceCtorEq] at h
      | some rs' =>
        rw [hn] at h
        simp only [Option.some.injEq] at h
        subst h
        obtain ⟨h1, h2⟩ := namedV_fit hn (fun x hx => hB x (by simp [hx]))
        refine ⟨by simp [h1], fun r hr => ?_⟩
        rcases List.mem_cons.1 hr with rfl | hr
        · refine ⟨?_, ⟨v, rfl, decV_lt hd⟩, rfl⟩
          have := hsh a (by simp); have := hB s (by simp); simp only; omega
        · exact h2 r hr

theorem namedV_rows {s : List UInt8} (hs : s.length ≤ 40000) {rs : List RowD} (h : namedV (linesL s) = some rs) : rowsFit3 rs := by
  obtain ⟨_, k1, k2⟩ := linesV_shape s
  obtain ⟨h1, h2⟩ := namedV_fit h (fun x hx => k2 x hx)
  refine ⟨by omega, fun r hr => ?_⟩
  obtain ⟨g1, ⟨n, g2, g3⟩, g4⟩ := h2 r hr
  exact ⟨by omega, by rw [g2]; simp, by rw [g2]; simpa using g3, by rw [g4]; simp, by rw [g4]; simp⟩

def xfRes (s : List UInt8) : List SV := match namedV (linesL s) with
  | some rs => [.sl (rowsSV rs), .bool (s.all plainC), .int .i64 (if (s.all plainC && xfFine rs) = true then 1 else 2)]
  | none => [.sl [], .bool false, .int .i64 2]

noncomputable def F1021 : List SV → Option AV
  | [.str s] => onlyIf (s.length ≤ 40000) (some (.sv (.tup (xfRes s))))
  | _ => none

/-- What the reference reads, where it tells. -/
def xfRead (s : List UInt8) : Option (List RowD) := match namedV (linesL s) with
  | some rs => if (s.all plainC && xfFine rs) = true then some rs else none
  | none => none

theorem F1021_yes {s : List UInt8} {rs : List RowD} (hs : s.length ≤ 40000) (h : xfRead s = some rs) : F1021 [.str s] = some (.sv (.tup [.sl (rowsSV rs), .bool true, .int .i64 1])) := by
  have e : F1021 [.str s] = some (.sv (.tup (xfRes s))) := onlyIf_pos hs
  rw [e]
  unfold xfRead at h
  unfold xfRes
  cases hv : namedV (linesL s) with
  | none => rw [hv] at h; simp at h
  | some q =>
    rw [hv] at h
    simp only at h
    split at h
    · rename_i hc
      simp only [Option.some.injEq] at h; subst h
      simp only [hc, if_true]
      rw [Bool.and_eq_true] at hc
      rw [hc.1]
    · simp at h

theorem F1021_no {s : List UInt8} (hs : s.length ≤ 40000) (h : xfRead s = none) : ∃ l b, F1021 [.str s] = some (.sv (.tup [.sl l, .bool b, .int .i64 2])) := by
  have e : F1021 [.str s] = some (.sv (.tup (xfRes s))) := onlyIf_pos hs
  rw [e]
  unfold xfRead at h
  unfold xfRes
  cases hv : namedV (linesL s) with
  | none => exact ⟨[], false, rfl⟩
  | some q =>
    rw [hv] at h
    simp only at h
    split at h
    · simp at h
    · rename_i hc
      simp only [hc, if_false]
      exact ⟨_, _, rfl⟩

end Go.Ev

set_option linter.unusedSimpArgs false
set_option linter.unusedVariables false
namespace Go.Ev
open Go.Proofs

def valOf (rs : List RowD) (s : List UInt8) (v : Int) : Int := rs.foldl (fun v r => if r.name = s then ((r.N.headD 0 : Nat) : Int) else v) v

theorem cnt31_spec {r : RowD} (h : cnt31 r = true) : ∃ n, r.N = [n] ∧ n < 2147483648 ∧ r.S = [] := by
  obtain ⟨name, N, S⟩ := r
  unfold cnt31 at h
  simp only [Bool.and_eq_true, decide_eq_true_eq] at h
  obtain ⟨⟨h1, h2⟩, h3⟩ := h
  match N, h2 with
  | [n], _ => exact ⟨n, rfl, by simpa using h1, List.eq_nil_of_length_eq_zero h3⟩

def xfKid (l : List RowD) (s : List UInt8) : SV := nodeV s 2 false (valOf l s 0) 0 0 [] []

def xfTree (l : List RowD) : SV := nodeV [] 8 false 0 0 0 [] (xfNames.map (xfKid l))

theorem xfFine_ok {l : List RowD} (h : xfFine l = true) : ∀ r ∈ l, ∃ n, r.N = [n] ∧ n < 2147483648 := by
  intro r hr
  unfold xfFine at h
  rw [Bool.and_eq_true, List.all_eq_true] at h
  have h1 := h.1 r hr
  unfold xfOk at h1
  rw [Bool.and_eq_true] at h1
  obtain ⟨n, h2, h3, _⟩ := cnt31_spec h1.2
  exact ⟨n, h2, h3⟩

noncomputable def F1018 : List SV → Option AV
  | [.sl l] => onlyIf (l = rowsSV (l.map unrow) ∧ rowsFit3 (l.map unrow) ∧ xfFine (l.map unrow) = true) (some (.sv (.tup [xfTree (l.map unrow), .int .i64 1])))
  | _ => none

theorem F1018_eq (l : List RowD) (h : rowsFit3 l) (ho : xfFine l = true) : F1018 [.sl (rowsSV l)] = some (.sv (.tup [xfTree l, .int .i64 1])) := by
  unfold F1018
  simp only [unrows]
  exact onlyIf_pos ⟨trivial, h, ho⟩

/-! ### The text -/

def xfLine (r : RowD) : List UInt8 := leftS r.name 24 ++ [9] ++ decS (r.N.headD 0) ++ [10]

theorem xfLine_len (r : RowD) (hr : r.fits3) (ho : ∃ n, r.N = [n] ∧ n < 2147483648) : (xfLine r).length ≤ 2147483800 := by
  obtain ⟨n, hN, hn⟩ := ho
  have l1 := leftS_len r.name 24
  have l2 := decS_len20 (show n < 18446744073709551616 by omega)
  have := hr.1
  simp only [xfLine, hN, List.length_append, List.length_cons, List.length_nil, List.headD_cons]
  omega

end Go.Ev

set_option linter.unusedSimpArgs false
set_option linter.unusedVariables false
namespace Go.Ev
open Go.Proofs

def xfText (l : List RowD) : List UInt8 := (l.map xfLine).flatten

noncomputable def F1040 : List SV → Option AV
  | [.sl l, .int .i64 w] => onlyIf (w = 24 ∧ l = rowsSV (l.map unrow) ∧ rowsFit3 (l.map unrow) ∧ ∀ r ∈ l.map unrow, ∃ n, r.N = [n] ∧ n < 2147483648) (some (.sv (.str (xfText (l.map unrow)))))
  | _ => none

theorem F1040_eq (l : List RowD) (h : rowsFit3 l) (ho : ∀ r ∈ l, ∃ n, r.N = [n] ∧ n < 2147483648) : F1040 [.sl (rowsSV l), .int .i64 24] = some (.sv (.str (xfText l))) := by
  unfold F1040
  simp only [unrows]
  exact onlyIf_pos ⟨trivial, trivial, h, ho⟩

noncomputable def F1017 : List SV → Option AV
  | [.sl l] => onlyIf (l = rowsSV (l.map unrow) ∧ rowsFit3 (l.map unrow)) (some (.sv (.tup (if xfFine (l.map unrow) = true then [.str (xfText (l.map unrow)), .int .i64 1] else [.str [], .int .i64 2]))))
  | _ => none

theorem F1017_eq (l : List RowD) (h : rowsFit3 l) (ho : xfFine l = true) : F1017 [.sl (rowsSV l)] = some (.sv (.tup [.str (xfText l), .int .i64 1])) := by
  unfold F1017
  simp only [unrows, ho, if_true]
  exact onlyIf_pos ⟨trivial, h⟩

end Go.Ev
