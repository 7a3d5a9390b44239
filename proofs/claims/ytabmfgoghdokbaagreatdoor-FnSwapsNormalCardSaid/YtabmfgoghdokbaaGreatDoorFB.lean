/- Fields, whole; tables. -/
/- Tables, whole; what is written of rows of cgroups. -/
/- What is written of rows of cgroups. -/
/- What is written of rows of cgroups, whole. -/
/- meant, the reading of cgroups. -/
/- The reading of cgroups. -/
/- The reading of cgroups, whole. -/
/- The tree of cgroups. -/
/- The tree of cgroups, whole. -/
import Derived.Test.YtabmfgoghdokbaaGreatDoorFA
set_option linter.unusedSimpArgs false
set_option linter.unusedVariables false
namespace Go.Ev
open Go.Proofs

theorem fieldK_inv (s : List UInt8) : ∀ (rest : List UInt8) (i : Nat) (from_ : Option Nat) (acc : List SV), i + rest.length = s.length → (∀ f, from_ = some f → f ≤ i) → acc.length ≤ i → acc = strs (acc.map unstr) → (∀ x ∈ acc.map unstr, x.length ≤ s.length) →
    (∀ f, (fieldK s i rest (from_, acc)).1 = some f → f ≤ s.length) ∧ (fieldK s i rest (from_, acc)).2.length ≤ s.length ∧ (fieldK s i rest (from_, acc)).2 = strs ((fieldK s i rest (from_, acc)).2.map unstr) ∧ ∀ x ∈ (fieldK s i rest (from_, acc)).2.map unstr, x.length ≤ s.length
  | [], i, from_, acc, h1, h2, h3, h4, h5 => by
    simp only [List.length_nil] at h1
    simp only [fieldK]
    exact ⟨fun f hf => by have := h2 f hf; omega, by omega, h4, h5⟩
  | c :: rest, i, from_, acc, h1, h2, h3, h4, h5 => by
    simp only [List.length_cons] at h1
    have hstep : ∀ (fr : Option Nat) (ac : List SV), (∀ f, fr = some f → f ≤ i + 1) → ac.length ≤ i + 1 → ac = strs (ac.map unstr) → (∀ x ∈ ac.map unstr, x.length ≤ s.length) →
        (∀ f, (fieldK s (i + 1) rest (fr, ac)).1 = some f → f ≤ s.length) ∧ (fieldK s (i + 1) rest (fr, ac)).2.length ≤ s.length ∧ (fieldK s (i + 1) rest (fr, ac)).2 = strs ((fieldK s (i + 1) rest (fr, ac)).2.map unstr) ∧ ∀ x ∈ (fieldK s (i + 1) rest (fr, ac)).2.map unstr, x.length ≤ s.length :=
      fun fr ac g1 g2 g3 g4 => fieldK_inv s rest (i + 1) fr ac (by omega) g1 g2 g3 g4
    simp only [fieldK]
    cases blankC c with
    | true =>
      cases from_ with
      | none => exact hstep none acc (by simp) (by omega) h4 h5
      | some f =>
        refine hstep none _ (by simp) (by simp; omega) ?_ ?_
        · simp only [List.map_append, List.map_cons, List.map_nil, unstr, strs] at h4 ⊢
          rw [← h4]
        · intro x hx
          simp only [List.map_append, List.map_cons, List.map_nil, unstr, List.mem_append, List.mem_singleton] at hx
          rcases hx with hx | rfl
          · exact h5 x hx
          · simp; omega
    | false =>
      cases from_ with
      | none => exact hstep (some i) acc (by intro f hf; simp at hf; omega) (by omega) h4 h5
      | some f => exact hstep (some f) acc (by intro g hg; have := h2 g hg; omega) (by omega) h4 h5

def fieldsV (s : List UInt8) : List SV := match (fieldK s 0 s (none, [])).1 with
  | some f => (fieldK s 0 s (none, [])).2 ++ [.str (s.drop f)]
  | none => (fieldK s 0 s (none, [])).2

/-- A line's fields, as the reference finds them. -/
def fieldsL (s : List UInt8) : List (List UInt8) := (fieldsV s).map unstr

theorem fieldsV_shape (s : List UInt8) : fieldsV s = strs (fieldsL s) ∧ (fieldsL s).length ≤ s.length + 1 ∧ ∀ x ∈ fieldsL s, x.length ≤ s.length := by
  obtain ⟨h1, h2, h3, h4⟩ := fieldK_inv s s 0 none [] (by omega) (by simp) (Nat.le_refl _) rfl (by simp)
  unfold fieldsL fieldsV
  split
  · refine ⟨?_, by simp; omega, ?_⟩
    · simp only [List.map_append, List.map_cons, List.map_nil, unstr, strs] at h3 ⊢
      rw [← h3]
    · intro x hx
      simp only [List.map_append, List.map_cons, List.map_nil, unstr, List.mem_append, List.mem_singleton] at hx
      rcases hx with hx | rfl
      · exact h4 x hx
      · simp
  · exact ⟨h3, by simp; omega, h4⟩

theorem ev52 (E : Env) (h : E.code 52 = some c52) (s : List UInt8) (hs : s.length < 1000000000000) (n : Nat) (hn : s.length < n) :
    ∃ r, evP E n 52 [.str s] = some r ∧ r.elems = some (fieldsV s) := by
  unfold evP
  simp only [h]
  have hl := loop52 E (evF E n) s hs n s [] none [] n rfl (by simp) (Nat.le_refl _) hn
  obtain ⟨h1, h2, h3, h4⟩ := fieldK_inv s s 0 none [] (by omega) (by simp) (Nat.le_refl _) rfl (by simp)
  unfold fieldsV
  generalize fieldK s 0 s (none, []) = p at hl h1 h2 h3 h4 ⊢
  obtain ⟨from_, acc⟩ := p
  simp only at h1 h2 h3 h4 ⊢
  simp only [accA, List.replicate, List.cons_append, List.nil_append, List.length_nil, Int.ofNat_zero, Int.natCast_zero, fromI] at hl
  have hl1 : (acc.length + 1) * 16 ≤ 140737488355328 := by omega
  have hl2 : acc.length + 1 ≤ 140737488355328 := by omega
  cases from_ with
  | some f =>
    have hle := h1 f rfl
    cases acc with
    | nil => simp [c52, List.replicate, hl, hle, accA, fromI]
    | cons y ys =>
      simp only [List.length_cons] at hl1 hl2
      simp [c52, List.replicate, hl, hle, accA, hl1, hl2, fromI]
  | none =>
    cases acc with
    | nil => simp [c52, List.replicate, hl, accA, fromI]
    | cons y ys => simp [c52, List.replicate, hl, accA, fromI]

noncomputable def F52 : List SV → Option AV
  | [.str s] => onlyIf (s.length < 1000000000000) (some (.sv (.sl (fieldsV s))))
  | _ => none

/-- A row of a text. -/
structure RowD where
  name : List UInt8
  N : List Nat
  S : List (List UInt8)

def RowD.sv (r : RowD) : SV := .agg [.str r.name, .sl (u64s r.N), .sl (strs r.S)]

/-- A table of a label and numbers. -/
def tabV : List (List UInt8) → Option (List RowD)
  | [] => some []
  | s :: l => match fieldsL s with
    | [] => none
    | f :: fs => match decsV fs with
      | some n => match tabV l with
        | some rs => some (⟨f, n, []⟩ :: rs)
        | none => none
      | none => none

def rowsSV (l : List RowD) : List SV := l.map RowD.sv

theorem F52_eq (s : List UInt8) (hs : s.length < 1000000000000) : F52 [.str s] = some (.sv (.sl (strs (fieldsL s)))) := by
  unfold F52
  rw [← (fieldsV_shape s).1]
  exact onlyIf_pos hs

set_option maxHeartbeats 4000000 in
theorem loop29 (E : Env) (cf : CallF) (hP : E.pure 52 = some F52) (hP2 : E.pure 76 = some F76) (hP3 : E.pure 77 = some F77) (xs : List SV) (hs : xs.length < 1000000000000) (m : Nat) :
    ∀ (rest : List (List UInt8)) (pre acc : List SV) (k : Nat), xs = pre ++ strs rest → (∀ s ∈ rest, s.length < 100000000000) → acc.length = pre.length → rest.length < k →
      rounds (evC E cf m b29_0) k { tm := [.sv .undef, .sv (.str []), .sv .undef, .sv .undef, .sv .undef, .sv .undef, accA 51 acc, .sv .undef, .sv .undef, .sv .undef, .sv .undef, .sv .undef, .sv (.sl xs), .sv (.int .i64 xs.length), .sv (.int .i64 pre.length)] ++ List.replicate 42 (.sv .undef), lz := none, bx := [], df := [] } =
        match tabV rest with
        | some ms => some (.exit 0, { tm := [.sv .undef, .sv .undef, .sv .undef, .sv .undef, .sv .undef, .sv .undef, accA 51 (acc ++ rowsSV ms)] ++ List.replicate 50 (.sv .undef), lz := none, bx := [], df := [] })
        | none => some (.ret, { tm := [.sv .undef, .sv .undef, .sv .undef, .sv .undef, .sv .nilS, .sv (.bool false)] ++ List.replicate 51 (.sv .undef), lz := none, bx := [], df := [] }) := by
  intro rest
  induction rest with
  | nil =>
    intro pre acc k hsp _ _ hk
    obtain ⟨k, rfl⟩ : ∃ k', k = k' + 1 := ⟨k - 1, by omega⟩
    have hlt : ¬ (pre.length < xs.length) := by rw [hsp]; simp [strs]
    simp [rounds, b29_0, List.replicate, hlt, tabV, rowsSV]
  | cons c rest ih =>
    intro pre acc k hsp hr hal hk
    obtain ⟨k, rfl⟩ : ∃ k', k = k' + 1 := ⟨k - 1, by omega⟩
    have hlt : pre.length < xs.length := by rw [hsp]; simp [strs]
    have hc : ∀ h : pre.length < xs.length, xs[pre.length]'h = .str c := by subst hsp; simp [strs]
    have hw2 : IntKind.i64.wrap ((pre.length : Int) + 1) = ((pre ++ [SV.str c]).length : Int) := by rw [IntKind.wrap_i64]; simp; omega
    have hcb := hr c (by simp)
    have hF := F52_eq c (by omega)
    obtain ⟨_, hsh1, hsh2⟩ := fieldsV_shape c
    have hl1 : (acc.length + 1) * 64 ≤ 140737488355328 := by omega
    have hl2 : acc.length + 1 ≤ 140737488355328 := by omega
    cases hfl : fieldsL c with
    | nil =>
      have htab : tabV (c :: rest) = none := by simp [tabV, hfl]
      rw [hfl] at hF
      simp only [strs, List.map_nil] at hF
      rw [htab]
      simp [rounds, b29_0, List.replicate, hlt, hc, hP, hF]
    | cons f fs =>
      rw [hfl] at hF hsh1 hsh2
      simp only [List.length_cons] at hsh1
      have hF2 := F77_eq fs (by omega) (fun s hs' => by have := hsh2 s (by simp [hs']); omega)
      have hfl2 := hsh2 f (by simp)
      have hfb : f.length < 9223372036854775807 := by omega
      simp only [strs, List.map_cons] at hF hF2
      have hwf : IntKind.i64.wrap (f.length : Int) = (f.length : Int) := by rw [IntKind.wrap_i64]; omega
      have e0 : ((fs.length : Int) + 1 == 0) = false := by rw [Bool.eq_false_iff]; simp; omega
      have e1 : (0 : Int) < (fs.length : Int) + 1 := by omega
      have e2 : (0 : Int) ≤ (fs.length : Int) + 1 := by omega
      have e3 : (1 : Int) ≤ ((fs.length + 1 : Nat) : Int) := by omega
      have e4 : (1 : Int) ≤ (fs.length : Int) + 1 := by omega
      have ht : List.take fs.length (fs.map SV.str) = fs.map SV.str := List.take_of_length_le (by simp)
      cases hd : decsV fs with
      | none =>
        have htab : tabV (c :: rest) = none := by simp [tabV, hfl, hd]
        rw [hd] at hF2
        rw [htab]
        simp [rounds, b29_0, List.replicate, hlt, hc, hP, hF, hP2, hP3, hF2, F76, hfb, e0, e1, e2, e3, e4, ht]
      | some n =>
        have key : rounds (evC E cf m b29_0) (k + 1) { tm := [.sv .undef, .sv (.str []), .sv .undef, .sv .undef, .sv .undef, .sv .undef, accA 51 acc, .sv .undef, .sv .undef, .sv .undef, .sv .undef, .sv .undef, .sv (.sl xs), .sv (.int .i64 xs.length), .sv (.int .i64 pre.length)] ++ List.replicate 42 (.sv .undef), lz := none, bx := [], df := [] } = rounds (evC E cf m b29_0) k { tm := [.sv .undef, .sv (.str []), .sv .undef, .sv .undef, .sv .undef, .sv .undef, accA 51 (acc ++ [RowD.sv ⟨f, n, []⟩]), .sv .undef, .sv .undef, .sv .undef, .sv .undef, .sv .undef, .sv (.sl xs), .sv (.int .i64 xs.length), .sv (.int .i64 (pre ++ [SV.str c]).length)] ++ List.replicate 42 (.sv .undef), lz := none, bx := [], df := [] } := by
          rw [hd] at hF2
          cases acc with
          | nil => simp [rounds, b29_0, List.replicate, hlt, hc, hw2, hP, hF, hP2, hP3, hF2, F76, hfb, e0, e1, e2, e3, e4, ht, accA, RowD.sv, hwf, strs]
          | cons y ys =>
            simp only [List.length_cons] at hl1 hl2
            simp [rounds, b29_0, List.replicate, hlt, hc, hw2, hP, hF, hP2, hP3, hF2, F76, hfb, e0, e1, e2, e3, e4, ht, accA, RowD.sv, hwf, hl1, hl2, strs]
        have := ih (pre ++ [.str c]) (acc ++ [RowD.sv ⟨f, n, []⟩]) k (by rw [hsp]; simp [strs]) (fun n hn => hr n (by simp [hn])) (by simp [hal]) (by simp at hk; omega)
        rw [key, this]
        have htab : tabV (c :: rest) = (match tabV rest with | some rs => some (⟨f, n, []⟩ :: rs) | none => none) := by simp [tabV, hfl, hd]
        rw [htab]
        cases tabV rest with
        | none => rfl
        | some ms => simp [rowsSV]

end Go.Ev

set_option linter.unusedSimpArgs false
set_option linter.unusedVariables false
namespace Go.Ev
open Go.Proofs

theorem ev29 (E : Env) (h : E.code 29 = some c29) (hP : E.pure 52 = some F52) (hP2 : E.pure 76 = some F76) (hP3 : E.pure 77 = some F77) (l : List (List UInt8)) (hs : l.length < 1000000000000) (hr : ∀ s ∈ l, s.length < 100000000000) (n : Nat) (hn : l.length < n) :
    evP E n 29 [.sl (strs l), .str []] = some (.sv (.tup (match tabV l with | some ms => [.sl (rowsSV ms), .bool true] | none => [.sl [], .bool false]))) := by
  unfold evP
  simp only [h]
  have hl := loop29 E (evF E n) hP hP2 hP3 (strs l) (by rw [strs_length]; exact hs) n l [] [] n rfl hr rfl hn
  simp only [accA, List.replicate, List.cons_append, List.nil_append, List.length_nil, Int.ofNat_zero, Int.natCast_zero] at hl
  cases hv : tabV l with
  | none => simp [hv] at hl; simp [c29, List.replicate, hl]
  | some ms =>
    cases ms with
    | nil => simp [hv, rowsSV] at hl; simp [c29, List.replicate, hl, accA, rowsSV]
    | cons x xs => simp [hv, rowsSV] at hl; simp [c29, List.replicate, hl, accA, rowsSV]

noncomputable def F29 : List SV → Option AV
  | [.sl l, .str []] => onlyIf (l = strs (l.map unstr) ∧ l.length < 1000000000000 ∧ ∀ s ∈ l.map unstr, s.length < 100000000000) (some (.sv (.tup (match tabV (l.map unstr) with | some ms => [.sl (rowsSV ms), .bool true] | none => [.sl [], .bool false]))))
  | _ => none

theorem F29_eq (l : List (List UInt8)) (hs : l.length < 1000000000000) (hr : ∀ s ∈ l, s.length < 100000000000) : F29 [.sl (strs l), .str []] = some (.sv (.tup (match tabV l with | some ms => [.sl (rowsSV ms), .bool true] | none => [.sl [], .bool false]))) := by
  unfold F29
  simp only [unstrs]
  exact onlyIf_pos ⟨trivial, by rw [strs_length]; exact hs, hr⟩

/-- What the form can say of one row of cgroups. -/
def cgOk (r : RowD) : Bool := r.name.all wordC && !(r.name == []) && !(r.name.head? == some 35) && decide (r.N.length = 3) && decide (r.S.length = 0) && r.N.all (fun n => decide (n < 2147483648))

def cgLine (r : RowD) : List UInt8 := r.name ++ [9] ++ joinS [9] (r.N.map decS) ++ [10]

def cgHead : List UInt8 := [35, 115, 117, 98, 115, 121, 115, 95, 110, 97, 109, 101, 9, 104, 105, 101, 114, 97, 114, 99, 104, 121, 9, 110, 117, 109, 95, 99, 103, 114, 111, 117, 112, 115, 9, 101, 110, 97, 98, 108, 101, 100, 10]

theorem F54_eq (s : List UInt8) (hs : s.length < 9223372036854775807) : F54 [.str s] = some (.sv (.bool (s.all wordC && !(s == [])))) := onlyIf_pos hs

theorem F55_eq (s : List UInt8) (ns ss : List SV) (a b : Nat) : F55 [.agg [.str s, .sl ns, .sl ss], .int .i64 a, .int .i64 b] = some (.sv (.bool (decide (ns.length = a) && decide (ss.length = b)))) := rfl

noncomputable def F57 : List SV → Option AV
  | [.int .u64 a, .sl l] => onlyIf (0 ≤ a ∧ l = u64s (l.map unint) ∧ l.length < 9223372036854775807) (some (.sv (.bool ((l.map unint).all (fun n => decide (n < a.toNat))))))
  | _ => none

theorem F57_eq (a : Nat) (ns : List Nat) (hs : ns.length < 9223372036854775807) : F57 [.int .u64 a, .sl (u64s ns)] = some (.sv (.bool (ns.all (fun n => decide (n < a))))) := by
  unfold F57
  simp only [unu64s]
  exact onlyIf_pos ⟨by omega, trivial, by rw [u64s_length]; exact hs⟩

end Go.Ev

set_option linter.unusedSimpArgs false
set_option linter.unusedVariables false
namespace Go.Ev
open Go.Proofs

theorem joinS_len3 (a b c : Nat) (ha : a < 18446744073709551616) (hb : b < 18446744073709551616) (hc : c < 18446744073709551616) : (joinS [9] ([a, b, c].map decS)).length ≤ 62 := by
  have h1 := decS_len20 ha
  have h2 := decS_len20 hb
  have h3 := decS_len20 hc
  simp [joinS]
  omega

set_option maxHeartbeats 4000000 in
theorem step67 (E : Env) (cf : CallF) (h54 : E.pure 54 = some F54) (h55 : E.pure 55 = some F55) (h57 : E.pure 57 = some F57) (h82 : E.pure 82 = some F82) (xs : List SV) (m k : Nat) (r : RowD) (i : Nat) (bx : List Box) (acc : List UInt8)
    (hi : i < xs.length) (hc : ∀ h : i < xs.length, xs[i]'h = r.sv) (hnl : r.name.length < 100000000000) (hNl : r.N.length < 100000000000) (hN : ∀ n ∈ r.N, n < 18446744073709551616) (hacc : acc.length < 2305843009213693952) (hxs : xs.length < 1000000000000) :
    rounds (evC E cf m b67_0) (k + 1) { tm := [.sv .undef, .sv .undef, .sv .undef, .sv .undef, .sv (.str acc), .sv .undef, .sv .undef, .sv (.sl xs), .sv (.int .i64 xs.length), .sv (.int .i64 i)] ++ List.replicate 36 (.sv .undef), lz := none, bx := bx, df := [] } =
      if cgOk r = true then rounds (evC E cf m b67_0) k { tm := [.sv .undef, .sv .undef, .sv .undef, .sv .undef, .sv (.str (acc ++ cgLine r)), .sv .undef, .sv .undef, .sv (.sl xs), .sv (.int .i64 xs.length), .sv (.int .i64 (i + 1 : Nat))] ++ List.replicate 36 (.sv .undef), lz := none, bx := bx ++ [.live [.sv (.str r.name), .sv (.sl (u64s r.N)), .sv (.sl (strs r.S))]], df := [] }
      else some (.ret, { tm := [.sv .undef, .sv .undef, .sv (.str []), .sv (.int .i64 2)] ++ List.replicate 42 (.sv .undef), lz := none, bx := bx ++ [.live [.sv (.str r.name), .sv (.sl (u64s r.N)), .sv (.sl (strs r.S))]], df := [] }) := by
  obtain ⟨name, N, S⟩ := r
  simp only [RowD.sv] at *
  have hw2 : IntKind.i64.wrap ((i : Int) + 1) = ((i + 1 : Nat) : Int) := by rw [IntKind.wrap_i64]; omega
  have hF54 := F54_eq name (by omega)
  have hF55 : F55 [.agg [.str name, .sl (u64s N), .sl (strs S)], .int .i64 3, .int .i64 0] = some (.sv (.bool (decide (N.length = 3) && decide (S.length = 0)))) := by
    have := F55_eq name (u64s N) (strs S) 3 0
    simp only [u64s_length, strs_length] at this
    exact this
  have hF57 : F57 [.int .u64 2147483648, .sl (u64s N)] = some (.sv (.bool (N.all (fun n => decide (n < 2147483648))))) := F57_eq 2147483648 N (by omega)
  by_cases h1 : (name.all wordC && !(name == [])) = true
  · rw [h1] at hF54
    simp only [Bool.and_eq_true, Bool.not_eq_true', beq_eq_false_iff_ne] at h1
    cases name with
    | nil => exact absurd rfl h1.2
    | cons c cs =>
      by_cases h2 : c = 35
      · subst h2
        have hok : cgOk ⟨35 :: cs, N, S⟩ = false := by simp [cgOk]
        rw [hok]
        simp [rounds, b67_0, List.replicate, hi, hc, h54, hF54]
      · have hne : ¬ ((c.toNat : Int) = 35) := by
          intro e
          apply h2
          have : c.toNat = 35 := by omega
          exact UInt8.toNat_inj.1 (by rw [this]; rfl)
        have hneb : ((c.toNat : Int) == 35) = false := by simpa using hne
        have hh : ((c :: cs).head? == some 35) = false := by simpa using h2
        have h1w : (c :: cs).all wordC = true := h1.1
        by_cases h3 : (decide (N.length = 3) && decide (S.length = 0)) = true
        · rw [h3] at hF55
          simp only [Bool.and_eq_true, decide_eq_true_eq] at h3
          obtain ⟨h3a, h3b⟩ := h3
          by_cases h4 : N.all (fun n => decide (n < 2147483648)) = true
          · rw [h4] at hF57
            have hok : cgOk ⟨c :: cs, N, S⟩ = true := by unfold cgOk; rw [h1w, hh, h4, h3a, h3b]; rfl
            rw [hok]
            obtain ⟨x, y, z, rfl⟩ : ∃ x y z, N = [x, y, z] := by
              match N, h3a with
              | [x, y, z], _ => exact ⟨x, y, z, rfl⟩
            have hj := joinS_len3 x y z (hN x (by simp)) (hN y (by simp)) (hN z (by simp))
            have hF82 := F82_eq [x, y, z] [9] (by simp) hN (by omega)
            generalize hJ : joinS [9] ([x, y, z].map decS) = J at hj hF82
            have hcg : cgLine ⟨c :: cs, [x, y, z], S⟩ = (c :: cs) ++ [9] ++ J ++ [10] := by simp only [cgLine, hJ]
            rw [hcg]
            simp only [List.length_cons] at hnl
            have q1 : cs.length + 1 + 1 < 4611686018427387904 := by omega
            have q2 : cs.length + 1 + 1 + J.length < 4611686018427387904 := by omega
            have q3 : cs.length + 1 + 1 + J.length + 1 < 4611686018427387904 := by omega
            have q4 : acc.length + (cs.length + 1 + 1 + J.length + 1) < 4611686018427387904 := by omega
            have p2 : cs.length + (J.length + 1) + 1 < 4611686018427387904 := by omega
            have p3 : cs.length + (J.length + 1 + 1) + 1 < 4611686018427387904 := by omega
            have p5 : cs.length + (J.length + 1) + 1 + 1 < 4611686018427387904 := by omega
            have p6 : acc.length + (cs.length + (J.length + 1) + 1 + 1) < 4611686018427387904 := by omega
            have p4 : acc.length + (cs.length + (J.length + 1 + 1) + 1) < 4611686018427387904 := by omega
            simp [rounds, b67_0, List.replicate, hi, hc, h54, hF54, hneb, hne, h55, hF55, h57, hF57, h82, hF82, hw2, q1, q2, q3, q4, p2, p3, p4, p5, p6]
          · have h4' : N.all (fun n => decide (n < 2147483648)) = false := by simpa using h4
            rw [h4'] at hF57
            have hok : cgOk ⟨c :: cs, N, S⟩ = false := by unfold cgOk; rw [h4']; simp
            rw [hok]
            simp [rounds, b67_0, List.replicate, hi, hc, h54, hF54, hneb, hne, h55, hF55, h57, hF57]
        · have h3' : (decide (N.length = 3) && decide (S.length = 0)) = false := by simpa using h3
          rw [h3'] at hF55
          have hok : cgOk ⟨c :: cs, N, S⟩ = false := by
            cases hx : cgOk ⟨c :: cs, N, S⟩ with
            | false => rfl
            | true =>
              exfalso; apply h3
              unfold cgOk at hx
              simp only [Bool.and_eq_true, decide_eq_true_eq] at hx ⊢
              exact ⟨hx.1.1.2, hx.1.2⟩
          rw [hok]
          simp [rounds, b67_0, List.replicate, hi, hc, h54, hF54, hneb, hne, h55, hF55]
  · have h1' : (name.all wordC && !(name == [])) = false := by simpa using h1
    rw [h1'] at hF54
    have hok : cgOk ⟨name, N, S⟩ = false := by unfold cgOk; rw [h1']; rfl
    rw [hok]
    simp [rounds, b67_0, List.replicate, hi, hc, h54, hF54]

end Go.Ev

set_option linter.unusedSimpArgs false
set_option linter.unusedVariables false
namespace Go.Ev
open Go.Proofs

/-- Rows as a program can hold them. -/
def RowD.fits (r : RowD) : Prop := r.name.length < 100000000000 ∧ r.N.length < 100000000000 ∧ ∀ n ∈ r.N, n < 18446744073709551616

theorem cgLine_len (r : RowD) (hr : r.fits) (h : cgOk r = true) : (cgLine r).length ≤ r.name.length + 64 := by
  obtain ⟨name, N, S⟩ := r
  unfold cgOk at h
  simp only [Bool.and_eq_true, decide_eq_true_eq] at h
  have h3 := h.1.1.2
  match N, h3 with
  | [x, y, z], _ =>
    have hN := hr.2.2
    have hj := joinS_len3 x y z (hN x (by simp)) (hN y (by simp)) (hN z (by simp))
    simp only [cgLine, List.length_append, List.length_cons, List.length_nil]
    omega

theorem loop67 (E : Env) (cf : CallF) (h54 : E.pure 54 = some F54) (h55 : E.pure 55 = some F55) (h57 : E.pure 57 = some F57) (h82 : E.pure 82 = some F82) (xs : List SV) (m : Nat) (hxs : xs.length < 1000000000000) :
    ∀ (rest : List RowD) (pre : List SV) (acc : List UInt8) (bx : List Box) (k : Nat), xs = pre ++ rowsSV rest → (∀ r ∈ rest, r.fits) → acc.length + (rest.map fun r => r.name.length + 64).sum < 2305843009213693952 → rest.length < k →
      ∃ bx', rounds (evC E cf m b67_0) k { tm := [.sv .undef, .sv .undef, .sv .undef, .sv .undef, .sv (.str acc), .sv .undef, .sv .undef, .sv (.sl xs), .sv (.int .i64 xs.length), .sv (.int .i64 pre.length)] ++ List.replicate 36 (.sv .undef), lz := none, bx := bx, df := [] } =
        if rest.all cgOk = true then some (.exit 0, { tm := [.sv .undef, .sv .undef, .sv .undef, .sv .undef, .sv (.str (acc ++ (rest.map cgLine).flatten))] ++ List.replicate 41 (.sv .undef), lz := none, bx := bx', df := [] })
        else some (.ret, { tm := [.sv .undef, .sv .undef, .sv (.str []), .sv (.int .i64 2)] ++ List.replicate 42 (.sv .undef), lz := none, bx := bx', df := [] }) := by
  intro rest
  induction rest with
  | nil =>
    intro pre acc bx k hsp _ _ hk
    obtain ⟨k, rfl⟩ : ∃ k', k = k' + 1 := ⟨k - 1, by omega⟩
    have hlt : ¬ (pre.length < xs.length) := by rw [hsp]; simp [rowsSV]
    exact ⟨bx, by simp [rounds, b67_0, List.replicate, hlt]⟩
  | cons r rest ih =>
    intro pre acc bx k hsp hr hb hk
    obtain ⟨k, rfl⟩ : ∃ k', k = k' + 1 := ⟨k - 1, by omega⟩
    have hlt : pre.length < xs.length := by rw [hsp]; simp [rowsSV]
    have hc : ∀ h : pre.length < xs.length, xs[pre.length]'h = r.sv := by subst hsp; simp [rowsSV]
    obtain ⟨g1, g2, g3⟩ := hr r (by simp)
    simp only [List.map_cons, List.sum_cons] at hb
    have hst := step67 E cf h54 h55 h57 h82 xs m k r pre.length bx acc hlt hc g1 g2 g3 (by omega) hxs
    rw [hst]
    cases hok : cgOk r with
    | false => exact ⟨bx ++ [.live [.sv (.str r.name), .sv (.sl (u64s r.N)), .sv (.sl (strs r.S))]], by simp [hok]⟩
    | true =>
      have hll := cgLine_len r (hr r (by simp)) hok
      obtain ⟨bx', he⟩ := ih (pre ++ [r.sv]) (acc ++ cgLine r) (bx ++ [.live [.sv (.str r.name), .sv (.sl (u64s r.N)), .sv (.sl (strs r.S))]]) k (by rw [hsp]; simp [rowsSV]) (fun q hq => hr q (by simp [hq])) (by simp only [List.length_append]; omega) (by simp at hk; omega)
      refine ⟨bx', ?_⟩
      rw [show ((pre ++ [r.sv]).length : Int) = ((pre.length + 1 : Nat) : Int) from by simp] at he
      simp only [if_true, he, List.all_cons, hok, Bool.true_and, List.map_cons, List.flatten_cons, List.append_assoc]

theorem ev67 (E : Env) (h : E.code 67 = some c67) (h54 : E.pure 54 = some F54) (h55 : E.pure 55 = some F55) (h57 : E.pure 57 = some F57) (h82 : E.pure 82 = some F82) (l : List RowD) (hl : l.length < 1000000000000) (hf : ∀ r ∈ l, r.fits) (hb : (l.map fun r => r.name.length + 64).sum < 2305843009213693900) (n : Nat) (hn : l.length < n) :
    evP E n 67 [.sl (rowsSV l)] = some (.sv (.tup (if l.all cgOk = true then [.str (cgHead ++ (l.map cgLine).flatten), .int .i64 1] else [.str [], .int .i64 2]))) := by
  unfold evP
  simp only [h]
  have hlen : (rowsSV l).length = l.length := by simp [rowsSV]
  obtain ⟨bx', he⟩ := loop67 E (evF E n) h54 h55 h57 h82 (rowsSV l) n (by rw [hlen]; exact hl) l [] cgHead [] n rfl hf (by simp only [cgHead, List.length_cons, List.length_nil]; omega) hn
  simp only [List.replicate, List.cons_append, List.nil_append, List.length_nil, Int.ofNat_zero, Int.natCast_zero, cgHead] at he
  cases hv : l.all cgOk with
  | true => simp only [hv, if_true] at he; simp [c67, List.replicate, he, cgHead]
  | false => simp only [hv, Bool.false_eq_true, if_false] at he; simp [c67, List.replicate, he]

end Go.Ev

set_option linter.unusedSimpArgs false
set_option linter.unusedVariables false
namespace Go.Ev
open Go.Proofs

def unrow : SV → RowD
  | .agg [.str s, .sl ns, .sl ss] => ⟨s, ns.map unint, ss.map unstr⟩
  | _ => ⟨[], [], []⟩

theorem unrow_sv (r : RowD) : unrow r.sv = r := by
  obtain ⟨a, b, c⟩ := r
  simp only [RowD.sv, unrow, unu64s, unstrs]

theorem unrows (l : List RowD) : (rowsSV l).map unrow = l := by
  induction l with
  | nil => rfl
  | cons r l ih =>
    simp only [rowsSV, List.map_cons, unrow_sv]
    rw [show (l.map RowD.sv).map unrow = l from ih]

def rowsFit (l : List RowD) : Prop := l.length < 1000000000000 ∧ (∀ r ∈ l, r.fits) ∧ (l.map fun r => r.name.length + 64).sum < 2305843009213693900

noncomputable def F67 : List SV → Option AV
  | [.sl l] => onlyIf (l = rowsSV (l.map unrow) ∧ rowsFit (l.map unrow)) (some (.sv (.tup (if (l.map unrow).all cgOk = true then [.str (cgHead ++ ((l.map unrow).map cgLine).flatten), .int .i64 1] else [.str [], .int .i64 2]))))
  | _ => none

theorem F67_eq (l : List RowD) (h : rowsFit l) : F67 [.sl (rowsSV l)] = some (.sv (.tup (if l.all cgOk = true then [.str (cgHead ++ (l.map cgLine).flatten), .int .i64 1] else [.str [], .int .i64 2]))) := by
  unfold F67
  simp only [unrows]
  exact onlyIf_pos ⟨trivial, h⟩

theorem F78_eq (s : List UInt8) (hs : s.length < 9223372036854775807) : F78 [.str s] = some (.sv (.bool (s.all plainC))) := onlyIf_pos hs

/-- meant, where blanks count, for a table's form. -/
theorem ev31 (E : Env) (h : E.code 31 = some c31) (h78 : E.pure 78 = some F78) (P : Nat) (F : List SV → Option AV) (hP : E.pure P = some F) (text : List UInt8) (hs : text.length < 9223372036854775807) (rows : List SV) (ok : Bool) (out : List UInt8) (told : Int)
    (hF : F [.sl rows] = some (.sv (.tup [.str out, .int .i64 told]))) (n : Nat) :
    evP E n 31 [.str text, .sl rows, .bool ok, .fn P [] [], .bool false] = some (.sv (.tup (if ok = true ∧ text.all plainC = true ∧ told = 1 ∧ out = text then [.sl rows, .bool true, .int .i64 1] else [.sl [], .bool false, .int .i64 2]))) := by
  unfold evP
  simp only [h]
  have hF78 := F78_eq text hs
  cases ok with
  | false => simp [c31, List.replicate]
  | true =>
    cases hp : text.all plainC with
    | false => rw [hp] at hF78; simp [c31, List.replicate, h78, hF78]
    | true =>
      rw [hp] at hF78
      by_cases h1 : told = 1
      · subst h1
        by_cases h2 : out = text
        · subst h2
          simp [c31, List.replicate, h78, hF78, hP, hF]
        · have h2b : (out != text) = true := by simpa using h2
          have h2c : (out == text) = false := by simpa using h2
          simp [c31, List.replicate, h78, hF78, hP, hF, h2, h2b, h2c]
      · have h1b : (told != 1) = true := by simpa using h1
        simp [c31, List.replicate, h78, hF78, hP, hF, h1, h1b]

/-! ### Trees -/

/-- A tree, in its cells. -/
def nodeV (name : List UInt8) (kind : Int) (b : Bool) (i u : Int) (f : Nat) (s : List UInt8) (kids : List SV) : SV :=
  .agg [.str name, .int .i64 kind, .bool b, .int .i64 i, .int .u64 u, .flt .f64 f, .str s, .sl kids]

theorem ev33 (E : Env) (h : E.code 33 = some c33) (name : List UInt8) (kids : List SV) (n : Nat) : evP E n 33 [.str name, .sl kids] = some (.sv (nodeV name 8 false 0 0 0 [] kids)) := by
  unfold evP
  simp only [h]
  simp [c33, List.replicate, nodeV]

theorem ev34 (E : Env) (h : E.code 34 = some c34) (name s : List UInt8) (n : Nat) : evP E n 34 [.str name, .str s] = some (.sv (nodeV name 5 false 0 0 0 s [])) := by
  unfold evP
  simp only [h]
  simp [c34, List.replicate, nodeV]

theorem ev36 (E : Env) (h : E.code 36 = some c36) (name : List UInt8) (kids : List SV) (n : Nat) : evP E n 36 [.str name, .sl kids] = some (.sv (nodeV name 6 false 0 0 0 [] kids)) := by
  unfold evP
  simp only [h]
  simp [c36, List.replicate, nodeV]

theorem ev66 (E : Env) (h : E.code 66 = some c66) (name : List UInt8) (i : Int) (n : Nat) : evP E n 66 [.str name, .int .i64 i] = some (.sv (nodeV name 2 false i 0 0 [] [])) := by
  unfold evP
  simp only [h]
  simp [c66, List.replicate, nodeV]

def F33 : List SV → Option AV
  | [.str name, .sl kids] => some (.sv (nodeV name 8 false 0 0 0 [] kids))
  | _ => none
def F34 : List SV → Option AV
  | [.str name, .str s] => some (.sv (nodeV name 5 false 0 0 0 s []))
  | _ => none
def F36 : List SV → Option AV
  | [.str name, .sl kids] => some (.sv (nodeV name 6 false 0 0 0 [] kids))
  | _ => none
def F66 : List SV → Option AV
  | [.str name, .int .i64 i] => some (.sv (nodeV name 2 false i 0 0 [] []))
  | _ => none

end Go.Ev

set_option linter.unusedSimpArgs false
set_option linter.unusedVariables false
namespace Go.Ev
open Go.Proofs

theorem decV_lt {s : List UInt8} {m : Nat} (h : decV s = some m) : m < 18446744073709551616 := by
  unfold decV at h
  split at h <;> try (simp at h; done)
  rename_i v hv
  split at h <;> simp only [Option.some.injEq, reduceCtorEq] at h
  subst h
  exact numV_lt (by omega) s 0 v (by omega) hv

theorem decsV_fit : ∀ {l : List (List UInt8)} {ms : List Nat}, decsV l = some ms → ms.length = l.length ∧ ∀ m ∈ ms, m < 18446744073709551616
  | [], ms, h => by simp only [decsV, Option.some.injEq] at h; subst h; simp
  | s :: l, ms, h => by
    simp only [decsV] at h
    split at h <;> try (simp at h; done)
    rename_i v hv
    split at h <;> simp only [Option.some.injEq, reduceCtorEq] at h
    rename_i vs hvs
    subst h
    obtain ⟨h1, h2⟩ := decsV_fit hvs
    exact ⟨by simp [h1], fun m hm => by
      rcases List.mem_cons.1 hm with rfl | hm
      · exact decV_lt hv
      · exact h2 m hm⟩

theorem tabV_fit {B : Nat} (hB : B < 10000000000) : ∀ {l : List (List UInt8)} {rs : List RowD}, tabV l = some rs → (∀ s ∈ l, s.length ≤ B) → rs.length = l.length ∧ (∀ r ∈ rs, r.fits) ∧ (rs.map fun r => r.name.length + 64).sum ≤ rs.length * (B + 64)
  | [], rs, h, _ => by simp only [tabV, Option.some.injEq] at h; subst h; simp
  | s :: l, rs, h, hl => by
    simp only [tabV] at h
    split at h <;> try (simp at h; done)
    rename_i f fs hf
    split at h <;> try (simp at h; done)
    rename_i n hn
    split at h <;> simp only [Option.some.injEq, reduceCtorEq] at h
    rename_i rs' hrs
    subst h
    obtain ⟨h1, h2, h3⟩ := tabV_fit hB hrs (fun x hx => hl x (by simp [hx]))
    obtain ⟨_, k1, k2⟩ := fieldsV_shape s
    rw [hf] at k1 k2
    have hs := hl s (by simp)
    have hfl := k2 f (by simp)
    obtain ⟨d1, d2⟩ := decsV_fit hn
    simp only [List.length_cons] at k1
    refine ⟨by simp [h1], fun r hr => ?_, ?_⟩
    · rcases List.mem_cons.1 hr with rfl | hr
      · exact ⟨by simp only; omega, by simp only; omega, d2⟩
      · exact h2 r hr
    · simp only [List.map_cons, List.sum_cons, List.length_cons, Nat.add_mul, Nat.one_mul]
      omega

/-- What the reference reads of a text of cgroups. -/
def cgRead (text : List UInt8) : Option (List RowD) :=
  match linesL text with
  | [] => none
  | _ :: ls => match tabV ls with
    | some rs => if text.all plainC = true ∧ rs.all cgOk = true ∧ cgHead ++ (rs.map cgLine).flatten = text then some rs else none
    | none => none

noncomputable def F31 : List SV → Option AV
  | [.str text, .sl rows, .bool ok, .fn 67 [] [], .bool false] => onlyIf (text.length < 9223372036854775807 ∧ rows = rowsSV (rows.map unrow) ∧ rowsFit (rows.map unrow)) (some (.sv (.tup (if ok = true ∧ text.all plainC = true ∧ (rows.map unrow).all cgOk = true ∧ cgHead ++ ((rows.map unrow).map cgLine).flatten = text then [.sl rows, .bool true, .int .i64 1] else [.sl [], .bool false, .int .i64 2]))))
  | _ => none

theorem F31_eq (text : List UInt8) (l : List RowD) (ok : Bool) (ht : text.length < 9223372036854775807) (h : rowsFit l) :
    F31 [.str text, .sl (rowsSV l), .bool ok, .fn 67 [] [], .bool false] = some (.sv (.tup (if ok = true ∧ text.all plainC = true ∧ l.all cgOk = true ∧ cgHead ++ (l.map cgLine).flatten = text then [.sl (rowsSV l), .bool true, .int .i64 1] else [.sl [], .bool false, .int .i64 2]))) := by
  unfold F31
  simp only [unrows]
  exact onlyIf_pos ⟨ht, trivial, h⟩

theorem ev31c (E : Env) (h : E.code 31 = some c31) (h78 : E.pure 78 = some F78) (h67 : E.pure 67 = some F67) (text : List UInt8) (hs : text.length < 9223372036854775807) (l : List RowD) (hf : rowsFit l) (ok : Bool) (n : Nat) :
    evP E n 31 [.str text, .sl (rowsSV l), .bool ok, .fn 67 [] [], .bool false] = some (.sv (.tup (if ok = true ∧ text.all plainC = true ∧ l.all cgOk = true ∧ cgHead ++ (l.map cgLine).flatten = text then [.sl (rowsSV l), .bool true, .int .i64 1] else [.sl [], .bool false, .int .i64 2]))) := by
  have hF := F67_eq l hf
  cases hv : l.all cgOk with
  | true =>
    rw [hv, if_pos rfl] at hF
    rw [ev31 E h h78 67 F67 h67 text hs (rowsSV l) ok _ 1 hF n]
    simp
  | false =>
    rw [hv] at hF
    rw [ev31 E h h78 67 F67 h67 text hs (rowsSV l) ok _ 2 hF n]
    simp

end Go.Ev

set_option linter.unusedSimpArgs false
set_option linter.unusedVariables false
namespace Go.Ev
open Go.Proofs

theorem F28_eq (s : List UInt8) (hs : s.length < 1000000000000) : F28 [.str s] = some (.sv (.sl (strs (linesL s)))) := by
  unfold F28
  rw [← (linesV_shape s).1]
  exact onlyIf_pos hs

theorem fit_nil : rowsFit [] := ⟨by simp, by simp, by simp⟩

theorem ev22 (E : Env) (h : E.code 22 = some c22) (h28 : E.pure 28 = some F28) (h29 : E.pure 29 = some F29) (h31 : E.pure 31 = some F31) (s : List UInt8) (hs : s.length ≤ 40000) (n : Nat) :
    evP E n 22 [.str s] = some (.sv (.tup (match cgRead s with | some rs => [.sl (rowsSV rs), .bool true, .int .i64 1] | none => [.sl [], .bool false, .int .i64 2]))) := by
  unfold evP
  simp only [h]
  have hF28 := F28_eq s (by omega)
  obtain ⟨_, k1, k2⟩ := linesV_shape s
  cases hl : linesL s with
  | nil =>
    rw [hl] at hF28
    simp only [strs, List.map_nil] at hF28
    have hc : cgRead s = none := by simp [cgRead, hl]
    rw [hc]
    simp [c22, List.replicate, h28, hF28]
  | cons f fs =>
    rw [hl] at hF28 k1 k2
    simp only [List.length_cons] at k1
    have hF29 := F29_eq fs (by omega) (fun x hx => by have := k2 x (by simp [hx]); omega)
    simp only [strs, List.map_cons] at hF28 hF29
    have e1 : (0 : Int) < (fs.length : Int) + 1 := by omega
    have e2 : (0 : Int) ≤ (fs.length : Int) + 1 := by omega
    have e3 : (1 : Int) ≤ ((fs.length + 1 : Nat) : Int) := by omega
    have e4 : (1 : Int) ≤ (fs.length : Int) + 1 := by omega
    have e5 : ¬ ((fs.length : Int) + 1 < 1) := by omega
    have ht : List.take fs.length (fs.map SV.str) = fs.map SV.str := List.take_of_length_le (by simp)
    cases hv : tabV fs with
    | none =>
      rw [hv] at hF29
      have hF31 := F31_eq s [] false (by omega) fit_nil
      simp only [rowsSV, List.map_nil] at hF31
      have hc : cgRead s = none := by simp [cgRead, hl, hv]
      rw [hc]
      simp at hF31
      simp [c22, List.replicate, h28, hF28, h29, hF29, h31, hF31, e1, e2, e3, e4, e5, ht]
    | some rs =>
      rw [hv] at hF29
      obtain ⟨q1, q2, q3⟩ := tabV_fit (B := 40000) (by omega) hv (fun x hx => by have := k2 x (by simp [hx]); omega)
      have hlen : rs.length ≤ 40000 := by omega
      have hfit : rowsFit rs := ⟨by omega, q2, by
        have : rs.length * (40000 + 64) ≤ 40000 * 40064 := Nat.mul_le_mul hlen (by omega)
        omega⟩
      have hF31 := F31_eq s rs true (by omega) hfit
      by_cases hcond : s.all plainC = true ∧ rs.all cgOk = true ∧ cgHead ++ (rs.map cgLine).flatten = s
      · have hc : cgRead s = some rs := by simp only [cgRead, hl, hv]; rw [if_pos hcond]
        rw [hc]
        rw [if_pos ⟨rfl, hcond⟩] at hF31
        simp [c22, List.replicate, h28, hF28, h29, hF29, h31, hF31, e1, e2, e3, e4, e5, ht]
      · have hc : cgRead s = none := by simp only [cgRead, hl, hv]; rw [if_neg hcond]
        rw [hc]
        rw [if_neg (fun hh => hcond hh.2)] at hF31
        simp [c22, List.replicate, h28, hF28, h29, hF29, h31, hF31, e1, e2, e3, e4, e5, ht]

noncomputable def F22 : List SV → Option AV
  | [.str s] => onlyIf (s.length ≤ 40000) (some (.sv (.tup (match cgRead s with | some rs => [.sl (rowsSV rs), .bool true, .int .i64 1] | none => [.sl [], .bool false, .int .i64 2]))))
  | _ => none

end Go.Ev

set_option linter.unusedSimpArgs false
set_option linter.unusedVariables false
namespace Go.Ev
open Go.Proofs

def cgNode (r : RowD) : SV := match r.N with
  | [a, b, c] => nodeV [] 8 false 0 0 0 [] [nodeV [83, 117, 98, 115, 121, 115, 78, 97, 109, 101] 5 false 0 0 0 r.name [], nodeV [72, 105, 101, 114, 97, 114, 99, 104, 121] 2 false (a : Int) 0 0 [] [], nodeV [67, 103, 114, 111, 117, 112, 115] 2 false (b : Int) 0 0 [] [], nodeV [69, 110, 97, 98, 108, 101, 100] 2 false (c : Int) 0 0 [] []]
  | _ => .undef

set_option maxHeartbeats 4000000 in
theorem step23 (E : Env) (cf : CallF) (h33 : E.pure 33 = some F33) (h34 : E.pure 34 = some F34) (h66 : E.pure 66 = some F66) (xs : List SV) (m k : Nat) (r : RowD) (i : Nat) (bx : List Box) (acc : List SV) (b0 : AV)
    (hi : i < xs.length) (hc : ∀ h : i < xs.length, xs[i]'h = r.sv) (hok : cgOk r = true) (hal : acc.length < 1000000000) (hxs : xs.length < 1000000000) :
    rounds (evC E cf m b23_0) (k + 1) { tm := [.sv .undef, .sv .undef, b0, .sv .undef, .sv .undef, .sv .undef, accA 40 acc, .sv .undef, .sv .undef, .sv .undef, .sv .undef, .sv .undef, .sv .undef, .sv .undef, .sv .undef, .sv .undef, .sv .undef, .sv (.sl xs), .sv (.int .i64 xs.length), .sv (.int .i64 i)] ++ List.replicate 32 (.sv .undef), lz := none, bx := bx, df := [] } =
      rounds (evC E cf m b23_0) k { tm := [.sv .undef, .sv .undef, b0, .sv .undef, .sv .undef, .sv .undef, accA 40 (acc ++ [cgNode r]), .sv .undef, .sv .undef, .sv .undef, .sv .undef, .sv .undef, .sv .undef, .sv .undef, .sv .undef, .sv .undef, .sv .undef, .sv (.sl xs), .sv (.int .i64 xs.length), .sv (.int .i64 (i + 1 : Nat))] ++ List.replicate 32 (.sv .undef), lz := none, bx := bx ++ [.live [.sv (.str r.name), .sv (.sl (u64s r.N)), .sv (.sl (strs r.S))]], df := [] } := by
  obtain ⟨name, N, S⟩ := r
  unfold cgOk at hok
  simp only [Bool.and_eq_true, decide_eq_true_eq] at hok
  have h3 := hok.1.1.2
  have h4 := hok.2
  match N, h3 with
  | [x, y, z], _ =>
    simp only [List.all_cons, List.all_nil, Bool.and_true, Bool.and_eq_true, decide_eq_true_eq] at h4
    obtain ⟨hx, hy, hz⟩ := h4
    have hw2 : IntKind.i64.wrap ((i : Int) + 1) = ((i + 1 : Nat) : Int) := by rw [IntKind.wrap_i64]; omega
    have wx : IntKind.i64.wrap (x : Int) = (x : Int) := by rw [IntKind.wrap_i64]; omega
    have wy : IntKind.i64.wrap (y : Int) = (y : Int) := by rw [IntKind.wrap_i64]; omega
    have wz : IntKind.i64.wrap (z : Int) = (z : Int) := by rw [IntKind.wrap_i64]; omega
    have hl1 : (acc.length + 1) * 96 ≤ 140737488355328 := by omega
    have hl2 : acc.length + 1 ≤ 140737488355328 := by omega
    simp only [RowD.sv] at hc
    cases acc with
    | nil => simp [rounds, b23_0, List.replicate, hi, hc, h33, h34, h66, F33, F34, F66, nodeV, cgNode, u64s, wx, wy, wz, hw2, accA]
    | cons q qs =>
      simp only [List.length_cons] at hl1 hl2
      simp [rounds, b23_0, List.replicate, hi, hc, h33, h34, h66, F33, F34, F66, nodeV, cgNode, u64s, wx, wy, wz, hw2, accA, hl1, hl2]

end Go.Ev

set_option linter.unusedSimpArgs false
set_option linter.unusedVariables false
namespace Go.Ev
open Go.Proofs

def rowBox (r : RowD) : Box := .live [.sv (.str r.name), .sv (.sl (u64s r.N)), .sv (.sl (strs r.S))]

theorem loop23 (E : Env) (cf : CallF) (h33 : E.pure 33 = some F33) (h34 : E.pure 34 = some F34) (h66 : E.pure 66 = some F66) (xs : List SV) (m : Nat) (hxs : xs.length < 1000000000) (b0 : AV) :
    ∀ (rest : List RowD) (pre acc : List SV) (bx : List Box) (k : Nat), xs = pre ++ rowsSV rest → (∀ r ∈ rest, cgOk r = true) → acc.length = pre.length → rest.length < k →
      rounds (evC E cf m b23_0) k { tm := [.sv .undef, .sv .undef, b0, .sv .undef, .sv .undef, .sv .undef, accA 40 acc, .sv .undef, .sv .undef, .sv .undef, .sv .undef, .sv .undef, .sv .undef, .sv .undef, .sv .undef, .sv .undef, .sv .undef, .sv (.sl xs), .sv (.int .i64 xs.length), .sv (.int .i64 pre.length)] ++ List.replicate 32 (.sv .undef), lz := none, bx := bx, df := [] } =
        some (.exit 0, { tm := [.sv .undef, .sv .undef, b0, .sv .undef, .sv .undef, .sv .undef, accA 40 (acc ++ rest.map cgNode)] ++ List.replicate 45 (.sv .undef), lz := none, bx := bx ++ rest.map rowBox, df := [] }) := by
  intro rest
  induction rest with
  | nil =>
    intro pre acc bx k hsp _ _ hk
    obtain ⟨k, rfl⟩ : ∃ k', k = k' + 1 := ⟨k - 1, by omega⟩
    have hlt : ¬ (pre.length < xs.length) := by rw [hsp]; simp [rowsSV]
    simp [rounds, b23_0, List.replicate, hlt]
  | cons r rest ih =>
    intro pre acc bx k hsp hr hal hk
    obtain ⟨k, rfl⟩ : ∃ k', k = k' + 1 := ⟨k - 1, by omega⟩
    have hlt : pre.length < xs.length := by rw [hsp]; simp [rowsSV]
    have hc : ∀ h : pre.length < xs.length, xs[pre.length]'h = r.sv := by subst hsp; simp [rowsSV]
    rw [step23 E cf h33 h34 h66 xs m k r pre.length bx acc b0 hlt hc (hr r (by simp)) (by omega) hxs]
    have he := ih (pre ++ [r.sv]) (acc ++ [cgNode r]) (bx ++ [rowBox r]) k (by rw [hsp]; simp [rowsSV]) (fun q hq => hr q (by simp [hq])) (by simp [hal]) (by simp at hk; omega)
    rw [show ((pre ++ [r.sv]).length : Int) = ((pre.length + 1 : Nat) : Int) from by simp] at he
    simp only [rowBox] at he ⊢
    rw [he]
    simp [rowBox]

def cgTree (rs : List RowD) : SV := nodeV [] 6 false 0 0 0 [] (rs.map cgNode)

theorem ev23 (E : Env) (h : E.code 23 = some c23) (h67 : E.pure 67 = some F67) (h33 : E.pure 33 = some F33) (h34 : E.pure 34 = some F34) (h36 : E.pure 36 = some F36) (h66 : E.pure 66 = some F66) (l : List RowD) (hf : rowsFit l) (hl : l.length < 1000000000) (hok : l.all cgOk = true) (n : Nat) (hn : l.length < n) :
    evP E n 23 [.sl (rowsSV l)] = some (.sv (.tup [cgTree l, .int .i64 1])) := by
  unfold evP
  simp only [h]
  have hlen : (rowsSV l).length = l.length := by simp [rowsSV]
  have hF := F67_eq l hf
  rw [if_pos hok] at hF
  have he := loop23 E (evF E n) h33 h34 h66 (rowsSV l) n (by rw [hlen]; exact hl) (.ptr 0 0) l [] [] [.live [.sv (.str []), .sv (.int .i64 0), .sv (.bool false), .sv (.int .i64 0), .sv (.int .u64 0), .sv (.flt .f64 0), .sv (.str []), .sv .nilS]] n rfl (by simpa using hok) rfl hn
  simp only [accA, List.replicate, List.cons_append, List.nil_append, List.length_nil, Int.ofNat_zero, Int.natCast_zero] at he
  cases l with
  | nil => simp at he; simp [c23, List.replicate, h67, hF, he, h36, F36, cgTree, nodeV, accA]
  | cons r rs => simp at he; simp [c23, List.replicate, h67, hF, he, h36, F36, cgTree, nodeV, accA]

end Go.Ev
