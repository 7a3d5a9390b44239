/- Fields, whole; tables. -/
/- Tables, whole; what is written of rows of cgroups. -/
/- What is written of rows of cgroups. -/
/- What is written of rows of cgroups, whole. -/
/- meant, the reading of cgroups. -/
/- The reading of cgroups. -/
/- The reading of cgroups, whole. -/
/- The tree of cgroups. -/
/- The tree of cgroups, whole. -/
/- Trees of the laws: a copy is the same tree. -/
/- Trees of the laws: a copy is the same tree, whole. -/
/- A tree is the same as itself. -/
/- A tree is the same as itself, whole. -/
/- The door's small functions. -/
/- Scanners: what stands in their boxes. -/
/- A scanner's step. -/
/- A scanner at the end. -/
import Derived.Test.YtnpkdihdpgfemaaGreatDoorFA
set_option linter.unusedSimpArgs false
set_option linter.unusedVariables false
namespace Go.Ev
open Go.Proofs

theorem fieldK_inv (s : List UInt8) : ∀ (rest : List UInt8) (i : Nat) (from_ : Option Nat) (acc : List SV), i + rest.length = s.length → (∀ f, from_ = some f → f ≤ i) → acc.length ≤ i → acc = strs (acc.map unstr) → (∀ x ∈ acc.map unstr, x.length ≤ s.length) →
    (∀ f, (fieldK s i rest (from_, acc)).1 = some f → f ≤ s.length) ∧ (fieldK s i rest (from_, acc)).2.length ≤ s.length ∧ (fieldK s i rest (from_, acc)).2 = strs ((fieldK s i rest (from_, acc)).2.map unstr) ∧ ∀ x ∈ (fieldK s i rest (from_, acc)).2.map unstr, x.length ≤ s.length
  | [], i, from_, acc, h1, h2, h3, h4, h5 => by
    simp only [List.length_nil] at h1
    simp only [fieldK]
    exact ⟨fun f hf => by have := h2 f hf; omega, by omega, h4, h5⟩
  | c :: rest, i, from_, acc, h1, h2, h3, h4, h5 => by
    simp only [List.length_cons] at h1
    have hstep : ∀ (fr : Option Nat) (ac : List SV), (∀ f, fr = some f → f ≤ i + 1) → ac.length ≤ i + 1 → ac = strs (ac.map unstr) → (∀ x ∈ ac.map unstr, x.length ≤ s.length) →
        (∀ f, (fieldK s (i + 1) rest (fr, ac)).1 = some f → f ≤ s.length) ∧ (fieldK s (i + 1) rest (fr, ac)).2.length ≤ s.length ∧ (fieldK s (i + 1) rest (fr, ac)).2 = strs ((fieldK s (i + 1) rest (fr, ac)).2.map unstr) ∧ ∀ x ∈ (fieldK s (i + 1) rest (fr, ac)).2.map unstr, x.length ≤ s.length :=
      fun fr ac g1 g2 g3 g4 => fieldK_inv s rest (i + 1) fr ac (by omega) g1 g2 g3 g4
    simp only [fieldK]
    cases blankC c with
    | true =>
      cases from_ with
      | none => exact hstep none acc (by simp) (by omega) h4 h5
      | some f =>
        refine hstep none _ (by simp) (by simp; omega) ?_ ?_
        · simp only [List.map_append, List.map_cons, List.map_nil, unstr, strs] at h4 ⊢
          rw [← h4]
        · intro x hx
          simp only [List.map_append, List.map_cons, List.map_nil, unstr, List.mem_append, List.mem_singleton] at hx
          rcases hx with hx | rfl
          · exact h5 x hx
          · simp; omega
    | false =>
      cases from_ with
      | none => exact hstep (some i) acc (by intro f hf; simp at hf; omega) (by omega) h4 h5
      | some f => exact hstep (some f) acc (by intro g hg; have := h2 g hg; omega) (by omega) h4 h5

def fieldsV (s : List UInt8) : List SV := match (fieldK s 0 s (none, [])).1 with
  | some f => (fieldK s 0 s (none, [])).2 ++ [.str (s.drop f)]
  | none => (fieldK s 0 s (none, [])).2

/-- A line's fields, as the reference finds them. -/
def fieldsL (s : List UInt8) : List (List UInt8) := (fieldsV s).map unstr

theorem fieldsV_shape (s : List UInt8) : fieldsV s = strs (fieldsL s) ∧ (fieldsL s).length ≤ s.length + 1 ∧ ∀ x ∈ fieldsL s, x.length ≤ s.length := by
  obtain ⟨h1, h2, h3, h4⟩ := fieldK_inv s s 0 none [] (by omega) (by simp) (Nat.le_refl _) rfl (by simp)
  unfold fieldsL fieldsV
  split
  · refine ⟨?_, by simp; omega, ?_⟩
    · simp only [List.map_append, List.map_cons, List.map_nil, unstr, strs] at h3 ⊢
      rw [← h3]
    · intro x hx
      simp only [List.map_append, List.map_cons, List.map_nil, unstr, List.mem_append, List.mem_singleton] at hx
      rcases hx with hx | rfl
      · exact h4 x hx
      · simp
  · exact ⟨h3, by simp; omega, h4⟩

theorem ev52 (E : Env) (h : E.code 65 = some c52) (s : List UInt8) (hs : s.length < 1000000000000) (n : Nat) (hn : s.length < n) :
    ∃ r, evP E n 65 [.str s] = some r ∧ r.elems = some (fieldsV s) := by
  unfold evP
  simp only [h]
  have hl := loop52 E (evF E n) s hs n s [] none [] n rfl (by simp) (Nat.le_refl _) hn
  obtain ⟨h1, h2, h3, h4⟩ := fieldK_inv s s 0 none [] (by omega) (by simp) (Nat.le_refl _) rfl (by simp)
  unfold fieldsV
  generalize fieldK s 0 s (none, []) = p at hl h1 h2 h3 h4 ⊢
  obtain ⟨from_, acc⟩ := p
  simp only at h1 h2 h3 h4 ⊢
  simp only [accA, List.replicate, List.cons_append, List.nil_append, List.length_nil, Int.ofNat_zero, Int.natCast_zero, fromI] at hl
  have hl1 : (acc.length + 1) * 16 ≤ 140737488355328 := by omega
  have hl2 : acc.length + 1 ≤ 140737488355328 := by omega
  cases from_ with
  | some f =>
    have hle := h1 f rfl
    cases acc with
    | nil => simp [c52, List.replicate, hl, hle, accA, fromI]
    | cons y ys =>
      simp only [List.length_cons] at hl1 hl2
      simp [c52, List.replicate, hl, hle, accA, hl1, hl2, fromI]
  | none =>
    cases acc with
    | nil => simp [c52, List.replicate, hl, accA, fromI]
    | cons y ys => simp [c52, List.replicate, hl, accA, fromI]

noncomputable def F52 : List SV → Option AV
  | [.str s] => onlyIf (s.length < 1000000000000) (some (.sv (.sl (fieldsV s))))
  | _ => none

/-- A row of a text. -/
structure RowD where
  name : List UInt8
  N : List Nat
  S : List (List UInt8)

def RowD.sv (r : RowD) : SV := .agg [.str r.name, .sl (u64s r.N), .sl (strs r.S)]

/-- A table of a label and numbers. -/
def tabV : List (List UInt8) → Option (List RowD)
  | [] => some []
  | s :: l => match fieldsL s with
    | [] => none
    | f :: fs => match decsV fs with
      | some n => match tabV l with
        | some rs => some (⟨f, n, []⟩ :: rs)
        | none => none
      | none => none

def rowsSV (l : List RowD) : List SV := l.map RowD.sv

theorem F52_eq (s : List UInt8) (hs : s.length < 1000000000000) : F52 [.str s] = some (.sv (.sl (strs (fieldsL s)))) := by
  unfold F52
  rw [← (fieldsV_shape s).1]
  exact onlyIf_pos hs

end Go.Ev

set_option linter.unusedSimpArgs false
set_option linter.unusedVariables false
namespace Go.Ev
open Go.Proofs

noncomputable def F29 : List SV → Option AV
  | [.sl l, .str []] => onlyIf (l = strs (l.map unstr) ∧ l.length < 1000000000000 ∧ ∀ s ∈ l.map unstr, s.length < 100000000000) (some (.sv (.tup (match tabV (l.map unstr) with | some ms => [.sl (rowsSV ms), .bool true] | none => [.sl [], .bool false]))))
  | _ => none

theorem F29_eq (l : List (List UInt8)) (hs : l.length < 1000000000000) (hr : ∀ s ∈ l, s.length < 100000000000) : F29 [.sl (strs l), .str []] = some (.sv (.tup (match tabV l with | some ms => [.sl (rowsSV ms), .bool true] | none => [.sl [], .bool false]))) := by
  unfold F29
  simp only [unstrs]
  exact onlyIf_pos ⟨trivial, by rw [strs_length]; exact hs, hr⟩

/-- What the form can say of one row of cgroups. -/
def cgOk (r : RowD) : Bool := r.name.all wordC && !(r.name == []) && !(r.name.head? == some 35) && decide (r.N.length = 3) && decide (r.S.length = 0) && r.N.all (fun n => decide (n < 2147483648))

def cgLine (r : RowD) : List UInt8 := r.name ++ [9] ++ joinS [9] (r.N.map decS) ++ [10]

def cgHead : List UInt8 := [35, 115, 117, 98, 115, 121, 115, 95, 110, 97, 109, 101, 9, 104, 105, 101, 114, 97, 114, 99, 104, 121, 9, 110, 117, 109, 95, 99, 103, 114, 111, 117, 112, 115, 9, 101, 110, 97, 98, 108, 101, 100, 10]

theorem F54_eq (s : List UInt8) (hs : s.length < 9223372036854775807) : F54 [.str s] = some (.sv (.bool (s.all wordC && !(s == [])))) := onlyIf_pos hs

theorem F55_eq (s : List UInt8) (ns ss : List SV) (a b : Nat) : F55 [.agg [.str s, .sl ns, .sl ss], .int .i64 a, .int .i64 b] = some (.sv (.bool (decide (ns.length = a) && decide (ss.length = b)))) := rfl

noncomputable def F57 : List SV → Option AV
  | [.int .u64 a, .sl l] => onlyIf (0 ≤ a ∧ l = u64s (l.map unint) ∧ l.length < 9223372036854775807) (some (.sv (.bool ((l.map unint).all (fun n => decide (n < a.toNat))))))
  | _ => none

theorem F57_eq (a : Nat) (ns : List Nat) (hs : ns.length < 9223372036854775807) : F57 [.int .u64 a, .sl (u64s ns)] = some (.sv (.bool (ns.all (fun n => decide (n < a))))) := by
  unfold F57
  simp only [unu64s]
  exact onlyIf_pos ⟨by omega, trivial, by rw [u64s_length]; exact hs⟩

end Go.Ev

set_option linter.unusedSimpArgs false
set_option linter.unusedVariables false
namespace Go.Ev
open Go.Proofs

theorem joinS_len3 (a b c : Nat) (ha : a < 18446744073709551616) (hb : b < 18446744073709551616) (hc : c < 18446744073709551616) : (joinS [9] ([a, b, c].map decS)).length ≤ 62 := by
  have h1 := decS_len20 ha
  have h2 := decS_len20 hb
  have h3 := decS_len20 hc
  simp [joinS]
  omega

end Go.Ev

set_option linter.unusedSimpArgs false
set_option linter.unusedVariables false
namespace Go.Ev
open Go.Proofs

/-- Rows as a program can hold them. -/
def RowD.fits (r : RowD) : Prop := r.name.length < 100000000000 ∧ r.N.length < 100000000000 ∧ ∀ n ∈ r.N, n < 18446744073709551616

theorem cgLine_len (r : RowD) (hr : r.fits) (h : cgOk r = true) : (cgLine r).length ≤ r.name.length + 64 := by
  obtain ⟨name, N, S⟩ := r
  unfold cgOk at h
  simp only [Bool.and_eq_true, decide_eq_true_eq] at h
  have h3 := h.1.1.2
  match N, h3 with
  | [x, y, z], _ =>
    have hN := hr.2.2
    have hj := joinS_len3 x y z (hN x (by simp)) (hN y (by simp)) (hN z (by simp))
    simp only [cgLine, List.length_append, List.length_cons, List.length_nil]
    omega

end Go.Ev

set_option linter.unusedSimpArgs false
set_option linter.unusedVariables false
namespace Go.Ev
open Go.Proofs

def unrow : SV → RowD
  | .agg [.str s, .sl ns, .sl ss] => ⟨s, ns.map unint, ss.map unstr⟩
  | _ => ⟨[], [], []⟩

theorem unrow_sv (r : RowD) : unrow r.sv = r := by
  obtain ⟨a, b, c⟩ := r
  simp only [RowD.sv, unrow, unu64s, unstrs]

theorem unrows (l : List RowD) : (rowsSV l).map unrow = l := by
  induction l with
  | nil => rfl
  | cons r l ih =>
    simp only [rowsSV, List.map_cons, unrow_sv]
    rw [show (l.map RowD.sv).map unrow = l from ih]

def rowsFit (l : List RowD) : Prop := l.length < 1000000000000 ∧ (∀ r ∈ l, r.fits) ∧ (l.map fun r => r.name.length + 64).sum < 2305843009213693900

noncomputable def F67 : List SV → Option AV
  | [.sl l] => onlyIf (l = rowsSV (l.map unrow) ∧ rowsFit (l.map unrow)) (some (.sv (.tup (if (l.map unrow).all cgOk = true then [.str (cgHead ++ ((l.map unrow).map cgLine).flatten), .int .i64 1] else [.str [], .int .i64 2]))))
  | _ => none

theorem F67_eq (l : List RowD) (h : rowsFit l) : F67 [.sl (rowsSV l)] = some (.sv (.tup (if l.all cgOk = true then [.str (cgHead ++ (l.map cgLine).flatten), .int .i64 1] else [.str [], .int .i64 2]))) := by
  unfold F67
  simp only [unrows]
  exact onlyIf_pos ⟨trivial, h⟩

theorem F78_eq (s : List UInt8) (hs : s.length < 9223372036854775807) : F78 [.str s] = some (.sv (.bool (s.all plainC))) := onlyIf_pos hs

/-- meant, where blanks count, for a table's form. -/
theorem ev31 (E : Env) (h : E.code 67 = some c31) (h78 : E.pure 98 = some F78) (P : Nat) (F : List SV → Option AV) (hP : E.pure P = some F) (text : List UInt8) (hs : text.length < 9223372036854775807) (rows : List SV) (ok : Bool) (out : List UInt8) (told : Int)
    (hF : F [.sl rows] = some (.sv (.tup [.str out, .int .i64 told]))) (n : Nat) :
    evP E n 67 [.str text, .sl rows, .bool ok, .fn P [] [], .bool false] = some (.sv (.tup (if ok = true ∧ text.all plainC = true ∧ told = 1 ∧ out = text then [.sl rows, .bool true, .int .i64 1] else [.sl [], .bool false, .int .i64 2]))) := by
  unfold evP
  simp only [h]
  have hF78 := F78_eq text hs
  cases ok with
  | false => simp [c31, List.replicate]
  | true =>
    cases hp : text.all plainC with
    | false => rw [hp] at hF78; simp [c31, List.replicate, h78, hF78]
    | true =>
      rw [hp] at hF78
      by_cases h1 : told = 1
      · subst h1
        by_cases h2 : out = text
        · subst h2
          simp [c31, List.replicate, h78, hF78, hP, hF]
        · have h2b : (out != text) = true := by simpa using h2
          have h2c : (out == text) = false := by simpa using h2
          simp [c31, List.replicate, h78, hF78, hP, hF, h2, h2b, h2c]
      · have h1b : (told != 1) = true := by simpa using h1
        simp [c31, List.replicate, h78, hF78, hP, hF, h1, h1b]

/-! ### Trees -/

/-- A tree, in its cells. -/
def nodeV (name : List UInt8) (kind : Int) (b : Bool) (i u : Int) (f : Nat) (s : List UInt8) (kids : List SV) : SV :=
  .agg [.str name, .int .i64 kind, .bool b, .int .i64 i, .int .u64 u, .flt .f64 f, .str s, .sl kids]

theorem ev33 (E : Env) (h : E.code 43 = some c33) (name : List UInt8) (kids : List SV) (n : Nat) : evP E n 43 [.str name, .sl kids] = some (.sv (nodeV name 8 false 0 0 0 [] kids)) := by
  unfold evP
  simp only [h]
  simp [c33, List.replicate, nodeV]

theorem ev34 (E : Env) (h : E.code 57 = some c34) (name s : List UInt8) (n : Nat) : evP E n 57 [.str name, .str s] = some (.sv (nodeV name 5 false 0 0 0 s [])) := by
  unfold evP
  simp only [h]
  simp [c34, List.replicate, nodeV]

theorem ev36 (E : Env) (h : E.code 59 = some c36) (name : List UInt8) (kids : List SV) (n : Nat) : evP E n 59 [.str name, .sl kids] = some (.sv (nodeV name 6 false 0 0 0 [] kids)) := by
  unfold evP
  simp only [h]
  simp [c36, List.replicate, nodeV]

theorem ev66 (E : Env) (h : E.code 42 = some c66) (name : List UInt8) (i : Int) (n : Nat) : evP E n 42 [.str name, .int .i64 i] = some (.sv (nodeV name 2 false i 0 0 [] [])) := by
  unfold evP
  simp only [h]
  simp [c66, List.replicate, nodeV]

def F33 : List SV → Option AV
  | [.str name, .sl kids] => some (.sv (nodeV name 8 false 0 0 0 [] kids))
  | _ => none
def F34 : List SV → Option AV
  | [.str name, .str s] => some (.sv (nodeV name 5 false 0 0 0 s []))
  | _ => none
def F36 : List SV → Option AV
  | [.str name, .sl kids] => some (.sv (nodeV name 6 false 0 0 0 [] kids))
  | _ => none
def F66 : List SV → Option AV
  | [.str name, .int .i64 i] => some (.sv (nodeV name 2 false i 0 0 [] []))
  | _ => none

end Go.Ev

set_option linter.unusedSimpArgs false
set_option linter.unusedVariables false
namespace Go.Ev
open Go.Proofs

theorem decV_lt {s : List UInt8} {m : Nat} (h : decV s = some m) : m < 18446744073709551616 := by
  unfold decV at h
  split at h <;> try (simp at h; done)
  rename_i v hv
  split at h <;> simp only [Option.some.injEq, reduceCtorEq] at h
  subst h
  exact numV_lt (by omega) s 0 v (by omega) hv

theorem decsV_fit : ∀ {l : List (List UInt8)} {ms : List Nat}, decsV l = some ms → ms.length = l.length ∧ ∀ m ∈ ms, m < 18446744073709551616
  | [], ms, h => by simp only [decsV, Option.some.injEq] at h; subst h; simp
  | s :: l, ms, h => by
    simp only [decsV] at h
    split at h <;> try (simp at h; done)
    rename_i v hv
    split at h <;> simp only [Option.some.injEq, reduceCtorEq] at h
    rename_i vs hvs
    subst h
    obtain ⟨h1, h2⟩ := decsV_fit hvs
    exact ⟨by simp [h1], fun m hm => by
      rcases List.mem_cons.1 hm with rfl | hm
      · exact decV_lt hv
      · exact h2 m hm⟩

theorem tabV_fit {B : Nat} (hB : B < 10000000000) : ∀ {l : List (List UInt8)} {rs : List RowD}, tabV l = some rs → (∀ s ∈ l, s.length ≤ B) → rs.length = l.length ∧ (∀ r ∈ rs, r.fits) ∧ (rs.map fun r => r.name.length + 64).sum ≤ rs.length * (B + 64)
  | [], rs, h, _ => by simp only [tabV, Option.some.injEq] at h; subst h; simp
  | s :: l, rs, h, hl => by
    simp only [tabV] at h
    split at h <;> try (simp at h; done)
    rename_i f fs hf
    split at h <;> try (simp at h; done)
    rename_i n hn
    split at h <;> simp only [Option.some.injEq, reduceCtorEq] at h
    rename_i rs' hrs
    subst h
    obtain ⟨h1, h2, h3⟩ := tabV_fit hB hrs (fun x hx => hl x (by simp [hx]))
    obtain ⟨_, k1, k2⟩ := fieldsV_shape s
    rw [hf] at k1 k2
    have hs := hl s (by simp)
    have hfl := k2 f (by simp)
    obtain ⟨d1, d2⟩ := decsV_fit hn
    simp only [List.length_cons] at k1
    refine ⟨by simp [h1], fun r hr => ?_, ?_⟩
    · rcases List.mem_cons.1 hr with rfl | hr
      · exact ⟨by simp only; omega, by simp only; omega, d2⟩
      · exact h2 r hr
    · simp only [List.map_cons, List.sum_cons, List.length_cons, Nat.add_mul, Nat.one_mul]
      omega

/-- What the reference reads of a text of cgroups. -/
def cgRead (text : List UInt8) : Option (List RowD) :=
  match linesL text with
  | [] => none
  | _ :: ls => match tabV ls with
    | some rs => if text.all plainC = true ∧ rs.all cgOk = true ∧ cgHead ++ (rs.map cgLine).flatten = text then some rs else none
    | none => none

end Go.Ev

set_option linter.unusedSimpArgs false
set_option linter.unusedVariables false
namespace Go.Ev
open Go.Proofs

theorem F28_eq (s : List UInt8) (hs : s.length < 1000000000000) : F28 [.str s] = some (.sv (.sl (strs (linesL s)))) := by
  unfold F28
  rw [← (linesV_shape s).1]
  exact onlyIf_pos hs

theorem fit_nil : rowsFit [] := ⟨by simp, by simp, by simp⟩

noncomputable def F22 : List SV → Option AV
  | [.str s] => onlyIf (s.length ≤ 40000) (some (.sv (.tup (match cgRead s with | some rs => [.sl (rowsSV rs), .bool true, .int .i64 1] | none => [.sl [], .bool false, .int .i64 2]))))
  | _ => none

end Go.Ev

set_option linter.unusedSimpArgs false
set_option linter.unusedVariables false
namespace Go.Ev
open Go.Proofs

def cgNode (r : RowD) : SV := match r.N with
  | [a, b, c] => nodeV [] 8 false 0 0 0 [] [nodeV [83, 117, 98, 115, 121, 115, 78, 97, 109, 101] 5 false 0 0 0 r.name [], nodeV [72, 105, 101, 114, 97, 114, 99, 104, 121] 2 false (a : Int) 0 0 [] [], nodeV [67, 103, 114, 111, 117, 112, 115] 2 false (b : Int) 0 0 [] [], nodeV [69, 110, 97, 98, 108, 101, 100] 2 false (c : Int) 0 0 [] []]
  | _ => .undef

end Go.Ev

set_option linter.unusedSimpArgs false
set_option linter.unusedVariables false
namespace Go.Ev
open Go.Proofs

def rowBox (r : RowD) : Box := .live [.sv (.str r.name), .sv (.sl (u64s r.N)), .sv (.sl (strs r.S))]

def cgTree (rs : List RowD) : SV := nodeV [] 6 false 0 0 0 [] (rs.map cgNode)

end Go.Ev

set_option linter.unusedSimpArgs false
set_option linter.unusedVariables false
namespace Go.Ev
open Go.Proofs

def accC (e : Nat) : List SV → Cell
  | [] => .sv .nilS
  | x :: xs => .own e (x :: xs)

def zeroBox : Box := .live [.sv (.str []), .sv (.int .i64 0), .sv (.bool false), .sv (.int .i64 0), .sv (.int .u64 0), .sv (.flt .f64 0), .sv (.str []), .sv .nilS]

def nodeBox (name : List UInt8) (kind : Int) (b : Bool) (i u : Int) (f : Nat) (s : List UInt8) (k : Cell) : Box := .live [.sv (.str name), .sv (.int .i64 kind), .sv (.bool b), .sv (.int .i64 i), .sv (.int .u64 u), .sv (.flt .f64 f), .sv (.str s), k]

set_option maxHeartbeats 4000000 in
theorem step27 (E : Env) (cf : CallF) (G : List SV → Option AV) (hP : E.pure 38 = some G) (xs : List SV) (m k j : Nat) (n0 : List UInt8) (k0 : Int) (b0 : Bool) (i0 u0 : Int) (f0 : Nat) (s0 : List UInt8) (x1 : List SV) (bx0 bx1 : Box) (bx : List Box) (acc : List SV) (name : List UInt8) (kind : Int) (b : Bool) (i u : Int) (f : Nat) (s : List UInt8)
    (hj : j < xs.length) (hc : ∀ h : j < xs.length, xs[j]'h = nodeV n0 k0 b0 i0 u0 f0 s0 x1) (hG : G [nodeV n0 k0 b0 i0 u0 f0 s0 x1] = some (.sv (nodeV n0 k0 b0 i0 u0 f0 s0 x1))) (hal : acc.length < 1000000000) (hxs : xs.length < 1000000000) :
    rounds (evC E cf m b27_0) (k + 1) { tm := [.sv .undef, .sv .undef, .ptr 1 0, .ptr 2 0] ++ List.replicate 18 (.sv .undef) ++ [.sv (.sl xs), .sv (.int .i64 xs.length), .sv (.int .i64 j)] ++ List.replicate 12 (.sv .undef), lz := none, bx := bx0 :: bx1 :: nodeBox name kind b i u f s (accC 43 acc) :: bx, df := [] } =
      rounds (evC E cf m b27_0) k { tm := [.sv .undef, .sv .undef, .ptr 1 0, .ptr 2 0] ++ List.replicate 18 (.sv .undef) ++ [.sv (.sl xs), .sv (.int .i64 xs.length), .sv (.int .i64 (j + 1 : Nat))] ++ List.replicate 12 (.sv .undef), lz := none, bx := bx0 :: bx1 :: nodeBox name kind b i u f s (accC 43 (acc ++ [nodeV n0 k0 b0 i0 u0 f0 s0 x1])) :: (bx ++ [nodeBox n0 k0 b0 i0 u0 f0 s0 (.sv (.sl x1))]), df := [] } := by
  have hw2 : IntKind.i64.wrap ((j : Int) + 1) = ((j + 1 : Nat) : Int) := by rw [IntKind.wrap_i64]; omega
  have hl1 : (acc.length + 1) * 96 ≤ 140737488355328 := by omega
  have hl2 : acc.length + 1 ≤ 140737488355328 := by omega
  simp only [nodeV] at hc hG
  cases acc with
  | nil => simp [rounds, b27_0, List.replicate, hj, hc, hP, hG, nodeBox, accC, hw2, nodeV]
  | cons q qs =>
    simp only [List.length_cons] at hl1 hl2
    simp [rounds, b27_0, List.replicate, hj, hc, hP, hG, nodeBox, accC, hw2, nodeV, hl1, hl2]

end Go.Ev

set_option linter.unusedSimpArgs false
set_option linter.unusedVariables false
namespace Go.Ev
open Go.Proofs

inductive IsNode : SV → Prop
  | mk (name : List UInt8) (kind : Int) (b : Bool) (i u : Int) (f : Nat) (s : List UInt8) (kids : List SV) (hl : kids.length < 1000000000) (h : ∀ k ∈ kids, IsNode k) : IsNode (nodeV name kind b i u f s kids)

theorem loop27 (E : Env) (cf : CallF) (G : List SV → Option AV) (hP : E.pure 38 = some G) (xs : List SV) (m : Nat) (hxs : xs.length < 1000000000) (bx0 bx1 : Box) (name : List UInt8) (kind : Int) (b : Bool) (i u : Int) (f : Nat) (s : List UInt8) :
    ∀ (rest pre : List SV) (bx : List Box) (k : Nat), xs = pre ++ rest → (∀ v ∈ rest, IsNode v ∧ G [v] = some (.sv v)) → rest.length < k →
      ∃ bx', rounds (evC E cf m b27_0) k { tm := [.sv .undef, .sv .undef, .ptr 1 0, .ptr 2 0] ++ List.replicate 18 (.sv .undef) ++ [.sv (.sl xs), .sv (.int .i64 xs.length), .sv (.int .i64 pre.length)] ++ List.replicate 12 (.sv .undef), lz := none, bx := bx0 :: bx1 :: nodeBox name kind b i u f s (accC 43 pre) :: bx, df := [] } =
        some (.exit 0, { tm := [.sv .undef, .sv .undef, .ptr 1 0, .ptr 2 0] ++ List.replicate 33 (.sv .undef), lz := none, bx := bx0 :: bx1 :: nodeBox name kind b i u f s (accC 43 xs) :: bx', df := [] }) := by
  intro rest
  induction rest with
  | nil =>
    intro pre bx k hsp _ hk
    obtain ⟨k, rfl⟩ : ∃ k', k = k' + 1 := ⟨k - 1, by omega⟩
    have hlt : ¬ (pre.length < xs.length) := by rw [hsp]; simp
    have he : pre = xs := by rw [hsp]; simp
    subst he
    exact ⟨bx, by simp [rounds, b27_0, List.replicate]⟩
  | cons r rest ih =>
    intro pre bx k hsp hr hk
    obtain ⟨k, rfl⟩ : ∃ k', k = k' + 1 := ⟨k - 1, by omega⟩
    have hlt : pre.length < xs.length := by rw [hsp]; simp
    obtain ⟨hn, hG⟩ := hr r (by simp)
    cases hn with
    | mk n0 k0 b0 i0 u0 f0 s0 x1 hl1 hk1 =>
      have hc : ∀ h : pre.length < xs.length, xs[pre.length]'h = nodeV n0 k0 b0 i0 u0 f0 s0 x1 := by subst hsp; simp
      rw [step27 E cf G hP xs m k pre.length n0 k0 b0 i0 u0 f0 s0 x1 bx0 bx1 bx pre name kind b i u f s hlt hc hG (by omega) hxs]
      obtain ⟨bx', he⟩ := ih (pre ++ [nodeV n0 k0 b0 i0 u0 f0 s0 x1]) (bx ++ [nodeBox n0 k0 b0 i0 u0 f0 s0 (.sv (.sl x1))]) k (by rw [hsp]; simp) (fun v hv => hr v (by simp [hv])) (by simp at hk; omega)
      rw [show ((pre ++ [nodeV n0 k0 b0 i0 u0 f0 s0 x1]).length : Int) = ((pre.length + 1 : Nat) : Int) from by simp] at he
      exact ⟨bx', he⟩

theorem ev27 (E : Env) (h : E.code 38 = some c27) (G : List SV → Option AV) (hP : E.pure 38 = some G) (name : List UInt8) (kind : Int) (b : Bool) (i u : Int) (f : Nat) (s : List UInt8) (kids : List SV) (hl : kids.length < 1000000000) (hG : ∀ v ∈ kids, IsNode v ∧ G [v] = some (.sv v)) (n : Nat) (hn : kids.length < n) :
    evP E n 38 [nodeV name kind b i u f s kids] = some (.sv (nodeV name kind b i u f s kids)) := by
  unfold evP
  simp only [h]
  obtain ⟨bx', he⟩ := loop27 E (evF E n) G hP kids n hl (nodeBox name kind b i u f s (.sv (.sl kids))) zeroBox name kind b i u f s kids [] [] n rfl hG hn
  simp only [accC, List.replicate, List.cons_append, List.nil_append, List.length_nil, Int.ofNat_zero, Int.natCast_zero, nodeBox, zeroBox] at he
  cases kids with
  | nil => simp [accC] at he; simp [c27, List.replicate, nodeV, he, accC]
  | cons q qs => simp [accC] at he; simp [c27, List.replicate, nodeV, he, accC]

end Go.Ev

set_option linter.unusedSimpArgs false
set_option linter.unusedVariables false
namespace Go.Ev
open Go.Proofs

set_option maxHeartbeats 4000000 in
theorem loop26 (E : Env) (cf : CallF) (G : List SV → Option AV) (hP : E.pure 37 = some G) (xs : List SV) (m : Nat) (hxs : xs.length < 1000000000) (name : List UInt8) (kind : Int) (b : Bool) (i u : Int) (f : Nat) (s : List UInt8) :
    ∀ (rest pre : List SV) (k : Nat), xs = pre ++ rest → (∀ v ∈ rest, IsNode v ∧ G [v, v] = some (.sv (.bool true))) → rest.length < k →
      rounds (evC E cf m b26_0) k { tm := [.sv .undef, .sv .undef, .ptr 0 0, .ptr 1 0] ++ List.replicate 62 (.sv .undef) ++ [.sv (.int .i64 xs.length), .sv (.int .i64 pre.length)] ++ List.replicate 15 (.sv .undef), lz := none, bx := [nodeBox name kind b i u f s (.sv (.sl xs)), nodeBox name kind b i u f s (.sv (.sl xs))], df := [] } =
        some (.exit 0, { tm := List.replicate 83 (.sv .undef), lz := none, bx := [nodeBox name kind b i u f s (.sv (.sl xs)), nodeBox name kind b i u f s (.sv (.sl xs))], df := [] }) := by
  intro rest
  induction rest with
  | nil =>
    intro pre k hsp _ hk
    obtain ⟨k, rfl⟩ : ∃ k', k = k' + 1 := ⟨k - 1, by omega⟩
    have hlt : ¬ (pre.length < xs.length) := by rw [hsp]; simp
    simp [rounds, b26_0, List.replicate, hlt]
  | cons r rest ih =>
    intro pre k hsp hr hk
    obtain ⟨k, rfl⟩ : ∃ k', k = k' + 1 := ⟨k - 1, by omega⟩
    have hlt : pre.length < xs.length := by rw [hsp]; simp
    obtain ⟨hn, hG⟩ := hr r (by simp)
    cases hn with
    | mk n0 k0 b0 i0 u0 f0 s0 x1 hl1 hk1 =>
      have hc : ∀ h : pre.length < xs.length, xs[pre.length]'h = nodeV n0 k0 b0 i0 u0 f0 s0 x1 := by subst hsp; simp
      have hw2 : IntKind.i64.wrap ((pre.length : Int) + 1) = ((pre.length + 1 : Nat) : Int) := by rw [IntKind.wrap_i64]; omega
      have he := ih (pre ++ [nodeV n0 k0 b0 i0 u0 f0 s0 x1]) k (by rw [hsp]; simp) (fun v hv => hr v (by simp [hv])) (by simp at hk; omega)
      rw [show ((pre ++ [nodeV n0 k0 b0 i0 u0 f0 s0 x1]).length : Int) = ((pre.length + 1 : Nat) : Int) from by simp] at he
      rw [← he]
      simp only [nodeV] at hc hG
      simp [rounds, b26_0, List.replicate, hlt, hc, hP, hG, nodeBox, hw2]

end Go.Ev

set_option linter.unusedSimpArgs false
set_option linter.unusedVariables false
namespace Go.Ev
open Go.Proofs

def F75 : List SV → Option AV
  | [.flt .f64 b] => some (.sv (.int .u64 b))
  | _ => none

set_option maxHeartbeats 8000000 in
theorem ev26 (E : Env) (h : E.code 37 = some c26) (G : List SV → Option AV) (hP : E.pure 37 = some G) (h75 : E.pure 82 = some F75) (name : List UInt8) (kind : Int) (b : Bool) (i u : Int) (f : Nat) (s : List UInt8) (kids : List SV) (hl : kids.length < 1000000000) (hG : ∀ v ∈ kids, IsNode v ∧ G [v, v] = some (.sv (.bool true))) (n : Nat) (hn : kids.length < n) :
    evP E n 37 [nodeV name kind b i u f s kids, nodeV name kind b i u f s kids] = some (.sv (.bool true)) := by
  unfold evP
  simp only [h]
  have he := loop26 E (evF E n) G hP kids n hl name kind b i u f s kids [] n rfl hG hn
  simp only [List.replicate, List.cons_append, List.nil_append, List.length_nil, Int.ofNat_zero, Int.natCast_zero, nodeBox] at he
  simp [c26, List.replicate, nodeV, he, h75, F75]

end Go.Ev

set_option linter.unusedSimpArgs false
set_option linter.unusedVariables false
namespace Go.Ev
open Go.Proofs

theorem ev38 (E : Env) (h : E.code 45 = some c38) (s : List UInt8) (n : Nat) : evP E n 45 [.str s] = some (.sv (.agg [.str s])) := by
  unfold evP
  simp only [h]
  simp [c38, List.replicate]

theorem ev85 (E : Env) (h : E.code 88 = some c85) (s : List UInt8) (l : List SV) (n : Nat) : evP E n 88 [.str s, .sl l] = some (.sv (.str s)) := by
  unfold evP
  simp only [h]
  simp [c85, List.replicate]

theorem ev99 (E : Env) (h : E.code 101 = some c99) (s : List UInt8) (hs : s.length ≤ 1048576) (n : Nat) : evP E n 101 [.str s] = some (.sv (.tup [.sl (bytesSV s), .nilI])) := by
  unfold evP
  simp only [h]
  have e : ¬ ((1048576 : Int) < (s.length : Int)) := by omega
  by_cases hs0 : s = []
  · subst hs0; simp [c99, List.replicate]
  · have hp : List.map (Cell.plain ∘ Cell.sv) (bytesSV s) = bytesSV s := by
      unfold bytesSV
      rw [List.map_map]; rfl
    have hl : (bytesSV s).length = s.length := by simp [bytesSV]
    simp [c99, List.replicate, e, hs0, hp, hl]

def F38 : List SV → Option AV
  | [.str s] => some (.sv (.agg [.str s]))
  | _ => none
def F85 : List SV → Option AV
  | [.str s, .sl _] => some (.sv (.str s))
  | _ => none
noncomputable def F99 : List SV → Option AV
  | [.str s] => onlyIf (s.length ≤ 1048576) (some (.sv (.tup [.sl (bytesSV s), .nilI])))
  | _ => none

end Go.Ev

set_option linter.unusedSimpArgs false
set_option linter.unusedVariables false
namespace Go.Ev
open Go.Proofs

def F144 : List SV → Option AV
  | [.str s, .str w] => some (.sv (.bool (decide (w.length ≤ s.length) && (s.take w.length == w))))
  | _ => none

/-- A scanner's box: what is left, the line, the longest line, the error. -/
def scanBox (left line : List UInt8) : Box := .live [.sv (.str left), .sv (.str line), .sv (.int .i64 65536), .sv .nilI]

theorem evF90 (E : Env) (h : E.code 93 = some c90) (n i : Nat) (bx : List Box) (l t : List UInt8) (hb : bx[i]? = some (scanBox l t)) : evF E (n + 1) 93 [.ptr i 0] bx = some (.sv (.str t), bx) := by
  simp only [evF, h]
  simp only [scanBox] at hb
  simp [c90, List.replicate, hb]

theorem evF128 (E : Env) (h : E.code 96 = some c128) (n i : Nat) (bx : List Box) (l t : List UInt8) (hb : bx[i]? = some (scanBox l t)) : evF E (n + 1) 96 [.ptr i 0] bx = some (.sv .nilI, bx) := by
  simp only [evF, h]
  simp only [scanBox] at hb
  simp [c128, List.replicate, hb]

theorem evF87 (E : Env) (h : E.code 90 = some c87) (n : Nat) (bx : List Box) (s : List UInt8) : evF E (n + 1) 90 [.sv (.str s)] bx = some (.ptr bx.length 0, bx ++ [scanBox s []]) := by
  simp only [evF, h]
  simp [c87, List.replicate, scanBox]

end Go.Ev

set_option linter.unusedSimpArgs false
set_option linter.unusedVariables false
namespace Go.Ev
open Go.Proofs

theorem loop88 (E : Env) (cf : CallF) (i : Nat) (bx : List Box) (left after_ : List UInt8) (m : Nat) (hb : bx[i]? = some (scanBox left [])) :
    ∀ (rest pre : List UInt8) (k : Nat), left = pre ++ rest ++ 10 :: after_ → left.length < 9223372036854775807 → (∀ c ∈ rest, c.toNat ≠ 10) → rest.length < k →
      rounds (evC E cf m b88_0) k { tm := [.ptr i 0, .sv .undef, .sv .undef, .sv (.int .i64 pre.length)] ++ List.replicate 104 (.sv .undef), lz := none, bx := bx, df := [] } =
        some (.exit 0, { tm := [.ptr i 0, .sv .undef, .sv .undef, .sv (.int .i64 (pre ++ rest).length)] ++ List.replicate 104 (.sv .undef), lz := none, bx := bx, df := [] }) := by
  simp only [scanBox] at hb
  intro rest
  induction rest with
  | nil =>
    intro pre k hsp hl hr hk
    obtain ⟨k, rfl⟩ : ∃ k', k = k' + 1 := ⟨k - 1, by omega⟩
    have hlt : pre.length < left.length := by rw [hsp]; simp
    have hc : ∀ h : pre.length < left.length, left[pre.length]'h = 10 := by subst hsp; simp
    simp [rounds, b88_0, List.replicate, hb, hlt, hc]
  | cons c rest ih =>
    intro pre k hsp hl hr hk
    obtain ⟨k, rfl⟩ : ∃ k', k = k' + 1 := ⟨k - 1, by omega⟩
    have hlt : pre.length < left.length := by rw [hsp]; simp
    have hc : ∀ h : pre.length < left.length, left[pre.length]'h = c := by subst hsp; simp
    have hne : ¬ (c.toNat : Int) = 10 := by have := hr c (by simp); omega
    have hneb : ((c.toNat : Int) == 10) = false := by simpa using hne
    have hnec : ((c.toNat : Int) != 10) = true := by simpa using hne
    have hw2 : IntKind.i64.wrap ((pre.length : Int) + 1) = ((pre ++ [c]).length : Int) := by rw [IntKind.wrap_i64]; simp; omega
    have := ih (pre ++ [c]) k (by rw [hsp]; simp) hl (fun x hx => hr x (by simp [hx])) (by simp at hk; omega)
    rw [show pre ++ [c] ++ rest = pre ++ c :: rest from by simp] at this
    rw [← this]
    simp [rounds, b88_0, List.replicate, hb, hlt, hc, hne, hneb, hnec, hw2]

/-- The next line. -/
theorem scan88 (E : Env) (h : E.code 91 = some c88) (i : Nat) (bx : List Box) (line after_ t : List UInt8) (hb : bx[i]? = some (scanBox (line ++ 10 :: after_) t)) (hl : line.length < 65536) (hal : after_.length < 1000000000) (hr : ∀ c ∈ line, c.toNat ≠ 10 ∧ c.toNat ≠ 13) (n : Nat) (hn : line.length < n) :
    evF E (n + 1) 91 [.ptr i 0] bx = some (.sv (.bool true), bx.set i (scanBox after_ line)) := by
  have hil : i < bx.length := (List.getElem?_eq_some_iff.1 hb).1
  have hb1 : (bx.set i (scanBox (line ++ 10 :: after_) []))[i]? = some (scanBox (line ++ 10 :: after_) []) := by simp [hil]
  have he := loop88 E (evF E n) i (bx.set i (scanBox (line ++ 10 :: after_) [])) (line ++ 10 :: after_) after_ n hb1 line [] n rfl (by simp; omega) (fun c hc => (hr c hc).1) hn
  simp only [scanBox, List.replicate, List.cons_append, List.nil_append, List.length_nil, Int.ofNat_zero, Int.natCast_zero] at he hb
  have hbi : ∀ h : i < bx.length, bx[i]'h = .live [.sv (.str (line ++ 10 :: after_)), .sv (.str t), .sv (.int .i64 65536), .sv .nilI] := fun h => by
    rw [List.getElem?_eq_getElem h] at hb; exact Option.some.inj hb
  have hw : IntKind.i64.wrap ((line.length : Int) + 1) = ((line.length + 1 : Nat) : Int) := by rw [IntKind.wrap_i64]; omega
  have g1 : ¬ (65536 : Int) ≤ (line.length : Int) := by omega
  have g2 : (line.length : Int) ≤ (line.length : Int) + ((after_.length : Int) + 1) := by omega
  have g3 : (line.length : Int) < (line.length : Int) + ((after_.length : Int) + 1) := by omega
  have g4 : (line.length : Int) + 1 ≤ (line.length : Int) + ((after_.length : Int) + 1) := by omega
  have g5 : (0 : Int) ≤ (line.length : Int) + ((after_.length : Int) + 1) := by omega
  have g6 : (0 : Int) ≤ (line.length : Int) + 1 := by omega
  have g7 : (line.length : Int) + 1 ≤ max ((line.length : Int) + ((after_.length : Int) + 1)) 0 := by omega
  have g8 : ((line.length : Int) + ((after_.length : Int) + 1)).toNat = line.length + (after_.length + 1) := by omega
  have ht : List.take line.length (line ++ 10 :: after_) = line := by simp
  have hd : List.drop (line.length + 1) (line ++ 10 :: after_) = after_ := by simp
  have hta : List.take (line.length + (after_.length + 1)) (line ++ 10 :: after_) = line ++ 10 :: after_ := List.take_of_length_le (by simp)
  simp only [evF, h]
  by_cases hl0 : line = []
  · subst hl0
    simp at *
    simp [c88, List.replicate, hbi, hil, he, scanBox, hw, g1, g2, g3, g4, g5, g6, ht, hd, hta]
  · have hpos : 0 < line.length := by
      cases line with
      | nil => exact absurd rfl hl0
      | cons x xs => simp
    have hposI : (0 : Int) < (line.length : Int) := by omega
    have wm : IntKind.i64.wrap ((line.length : Int) - 1) = ((line.length - 1 : Nat) : Int) := by rw [IntKind.wrap_i64]; omega
    have hlt1 : line.length - 1 < line.length := by omega
    have hlast := (hr (line[line.length - 1]'hlt1) (List.getElem_mem hlt1)).2
    have hl13 : ¬ ((line[line.length - 1]'hlt1).toNat : Int) = 13 := by omega
    have hl13b : (((line[line.length - 1]'hlt1).toNat : Int) == 13) = false := by simpa using hl13
    simp [c88, List.replicate, hbi, hil, he, scanBox, hw, g1, g2, g3, g4, g5, g6, ht, hd, hta, hpos, hposI, wm, hlt1, hl13, hl13b, g7, g8]

end Go.Ev

set_option linter.unusedSimpArgs false
set_option linter.unusedVariables false
namespace Go.Ev
open Go.Proofs

theorem scan88e (E : Env) (h : E.code 91 = some c88) (i : Nat) (bx : List Box) (t : List UInt8) (hb : bx[i]? = some (scanBox [] t)) (n : Nat) :
    evF E (n + 1) 91 [.ptr i 0] bx = some (.sv (.bool false), bx.set i (scanBox [] [])) := by
  have hil : i < bx.length := (List.getElem?_eq_some_iff.1 hb).1
  simp only [scanBox] at hb
  have hbi : ∀ h : i < bx.length, bx[i]'h = .live [.sv (.str []), .sv (.str t), .sv (.int .i64 65536), .sv .nilI] := fun h => by
    rw [List.getElem?_eq_getElem h] at hb; exact Option.some.inj hb
  simp only [evF, h]
  simp [c88, List.replicate, hbi, hil, scanBox]

end Go.Ev
