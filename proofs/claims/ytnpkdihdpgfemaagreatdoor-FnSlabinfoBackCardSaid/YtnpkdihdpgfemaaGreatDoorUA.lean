/- Slabs: the door: numbers, blanks, a word in a text. -/
/- Slabs: a line as words. -/
import Derived.Test.YtnpkdihdpgfemaaGreatDoorNA
import Derived.Test.YtnpkdihdpgfemaaGreatDoorSA
import Derived.Test.YtnpkdihdpgfemaaGreatDoorEvE
import Derived.Test.YtnpkdihdpgfemaaGreatDoorTA
set_option linter.unusedSimpArgs false
set_option linter.unusedVariables false
namespace Go.Ev
open Go.Proofs

def S125d (F : List SV → Option AV) : Prop := ∀ n : Nat, n < 18446744073709551616 → F [.str (decS n), .int .i64 10, .int .i64 64] = some (.sv (.tup [.int .u64 (n : Int), .nilI]))

set_option maxRecDepth 100000 in
set_option maxHeartbeats 4000000 in
theorem ev125d (E : Env) (h : E.code 163 = some c125) : S125d (autoF E 163) := by
  have hsh : IntKind.u64.wrap (IntKind.u64.wrap (2 ^ min 64 IntKind.u64.bits) - 1) = 18446744073709551615 := by decide
  have hsh0 : IntKind.u64.wrap 64 = 64 := by decide
  intro n hn
  obtain ⟨g1, g2, g3⟩ := decS_dig n
  have hlen := decS_len20 hn
  have hl := loop125b E (evF E ((decS n).length + 1)) false (decS n) (decS n) (by omega) ((decS n).length + 1) (decS n) [] 0 ((decS n).length + 1) rfl g2 (by rw [g1]; exact hn) (by omega)
  rw [g1] at hl
  refine autoF_sv (n := (decS n).length + 1) ?_ rfl
  unfold evP
  simp only [h]
  generalize decS n = s at *
  simp only [List.replicate, List.cons_append, List.nil_append, List.length_nil, Int.ofNat_zero, Int.natCast_zero] at hl
  simp [c125, List.replicate, g3, hsh, hsh0, bytesSV_length, hl]

def S154d (F : List SV → Option AV) : Prop := ∀ n : Nat, n < 4611686018427387904 → F [.str (decS n), .int .i64 10, .int .i64 64] = some (.sv (.tup [.int .i64 (n : Int), .nilI]))

theorem ev154d (E : Env) (h : E.code 150 = some c154) (h125 : Has E 163 S125d) : S154d (autoF E 150) := by
  obtain ⟨F, hp, hF⟩ := h125
  intro n hn
  have hF1 := hF n (by omega)
  obtain ⟨_, g2, g3⟩ := decS_dig n
  have hsh : IntKind.u64.wrap (2 ^ min 63 IntKind.u64.bits) = 9223372036854775808 := by decide
  have hw63 : IntKind.i64.wrap 63 = 63 := by decide
  have hw63u : IntKind.u64.wrap 63 = 63 := by decide
  have q1 : ¬ (9223372036854775808 : Int) ≤ (n : Int) := by omega
  have w1 : IntKind.i64.wrap (n : Int) = (n : Int) := by rw [IntKind.wrap_i64]; omega
  refine autoF_sv (n := 1) ?_ rfl
  unfold evP
  simp only [h]
  generalize decS n = s at *
  cases s with
  | nil => exact absurd rfl g3
  | cons c t =>
    have hc := digC_iff.1 (g2 c (by simp))
    have e1 : ((c.toNat : Int) == 43) = false := by rw [Bool.eq_false_iff]; simp; omega
    have e2 : ((c.toNat : Int) == 45) = false := by rw [Bool.eq_false_iff]; simp; omega
    have b3 : (0 : Int) < (t.length : Int) + 1 := by omega
    have b4 : (0 : Int) ≤ (t.length : Int) + 1 := by omega
    simp [c154, List.replicate, hp, hF1, e1, e2, b3, b4, hsh, hw63, hw63u, q1, w1]

def S1158 (F : List SV → Option AV) : Prop := S154d F

theorem ev1158 (E : Env) (h : E.code 158 = some c1158) (h154 : Has E 150 S154d) : S1158 (autoF E 158) := by
  obtain ⟨F, hp, hF⟩ := h154
  intro n hn
  have hF1 := hF n hn
  refine autoF_sv (n := 1) ?_ rfl
  unfold evP
  simp only [h]
  generalize decS n = s at *
  simp [c1158, List.replicate, hp, hF1]

/-! ### Blanks -/

def zB (c : UInt8) : Bool := decide (c.toNat = 32) || decide (c.toNat = 9) || decide (c.toNat = 10) || decide (c.toNat = 12) || decide (c.toNat = 13)

def S1167 (F : List SV → Option AV) : Prop := ∀ c : UInt8, F [.int .u8 (c.toNat : Int)] = some (.sv (.bool (zB c)))

theorem ev1167 (E : Env) (h : E.code 167 = some c1167) : S1167 (autoF E 167) := by
  intro c
  refine autoA_sv (n := 1) ?_ rfl
  unfold evPA zB
  simp only [h]
  generalize c.toNat = k
  by_cases h1 : k = 32
  · subst h1; simp [c1167]
  have e1 : ((k : Int) == 32) = false := by simp; omega
  by_cases h2 : k = 9
  · subst h2; simp [c1167]
  have e2 : ((k : Int) == 9) = false := by simp; omega
  by_cases h3 : k = 10
  · subst h3; simp [c1167]
  have e3 : ((k : Int) == 10) = false := by simp; omega
  by_cases h4 : k = 12
  · subst h4; simp [c1167]
  have e4 : ((k : Int) == 12) = false := by simp; omega
  by_cases h5 : k = 13
  · subst h5; simp [c1167]
  have e5 : ((k : Int) == 13) = false := by simp; omega
  simp [c1167, e1, e2, e3, e4, e5, h1, h2, h3, h4, h5]

/-- A text whose runs of blanks are single blanks; `p`: a blank is before it. -/
def spG : Bool → List UInt8 → List UInt8
  | _, [] => []
  | p, c :: t => if zB c = true then (if p then spG true t else 32 :: spG true t) else c :: spG false t

theorem spG_len : ∀ (s : List UInt8) (p : Bool), (spG p s).length ≤ s.length
  | [], p => by simp [spG]
  | c :: t, p => by
    have h1 := spG_len t true; have h2 := spG_len t false
    simp only [spG]
    split
    · split
      · simp; omega
      · simp; omega
    · simp; omega

def S1156 (F : List SV → Option AV) : Prop := ∀ s : List UInt8, s.length < 1000000000 → F [.str s] = some (.sv (.str (spG false s)))

def st1156 (s out : List UInt8) (i : Nat) : SA := { nt := 36, tm := [(4, .sv (.int .i64 i)), (3, .sv (.str out)), (0, .sv (.str s))], lz := none, bx := [], df := [] }

set_option maxHeartbeats 4000000 in
theorem step1156 (E : Env) (cf : CallF) (m : Nat) (h67 : Has E 167 S1167) (s out : List UInt8) (hs : s.length < 1000000000) (ho : out.length < 1000000000) (i : Nat) (hi : i < s.length) (c : UInt8) (hc : s[i]? = some c) (p : Bool) (hp : (i = 0 ∧ p = false) ∨ ∃ q, 0 < i ∧ s[i - 1]? = some q ∧ p = zB q) :
    evCA E cf m b1156_0 (st1156 s out i) = some (.normal, st1156 s (out ++ (if zB c = true then (if p then [] else [32]) else [c])) (i + 1)) := by
  obtain ⟨F, hpF, hF⟩ := h67
  have hFc := hF c
  have hw : IntKind.i64.wrap ((i : Int) + 1) = ((i + 1 : Nat) : Int) := by rw [IntKind.wrap_i64]; omega
  have hb : out.length + 1 < 4611686018427387904 := by omega
  have hget : s[i]'hi = c := by
    rw [List.getElem?_eq_getElem hi] at hc; simpa using hc
  have ht : (s.take (i + 1)).drop i = [c] := by
    rw [List.drop_take, show i + 1 - i = 1 from by omega]
    rw [List.drop_eq_getElem_cons hi, hget]; rfl
  have hi0 : (0 : Int) ≤ (i : Int) := by omega
  have hle : (i : Int) ≤ ((i + 1 : Nat) : Int) := by omega
  have hle2 : i + 1 ≤ s.length := by omega
  generalize hj : ((i + 1 : Nat) : Int) = j at *
  have hj0 : 0 ≤ j := by omega
  have hjt : j.toNat = i + 1 := by omega
  have hjl : j ≤ (s.length : Int) := by omega
  cases hz : zB c with
  | false =>
    rw [hz] at hFc
    simp [st1156, b1156_0, hi, hget, hpF, hFc, hw, hj, ht, hb, hj0, hjt, hjl, hle]
  | true =>
    rw [hz] at hFc
    rcases hp with ⟨rfl, rfl⟩ | ⟨q, hi1, hq, rfl⟩
    · simp at hw
      simp [st1156, b1156_0, hi, hget, hpF, hFc, hw, hb, hj]
    · have hFq := hF q
      have hi2 : i - 1 < s.length := by omega
      have hgq : s[i - 1]'hi2 = q := by
        rw [List.getElem?_eq_getElem hi2] at hq; simpa using hq
      have hne : ((i : Int) == 0) = false := by simp; omega
      have hw1 : IntKind.i64.wrap ((i : Int) - 1) = ((i - 1 : Nat) : Int) := by rw [IntKind.wrap_i64]; omega
      cases hzq : zB q with
      | false => rw [hzq] at hFq; simp [st1156, b1156_0, hi, hget, hpF, hFc, hw, hb, hne, hw1, hi2, hgq, hFq, hj]
      | true => rw [hzq] at hFq; simp [st1156, b1156_0, hi, hget, hpF, hFc, hw, hb, hne, hw1, hi2, hgq, hFq, hj]

theorem loop1156 (E : Env) (cf : CallF) (m : Nat) (h67 : Has E 167 S1167) (s : List UInt8) (hs : s.length < 1000000000) :
    ∀ (rest pre out : List UInt8) (p : Bool) (k : Nat), s = pre ++ rest → out.length ≤ pre.length → (pre.length = 0 ∧ p = false ∨ ∃ q, 0 < pre.length ∧ s[pre.length - 1]? = some q ∧ p = zB q) → rest.length < k →
      roundsA (evCA E cf m b1156_0) k (st1156 s out pre.length) = some (.exit 0, { nt := 36, tm := [(3, .sv (.str (out ++ spG p rest)))], lz := none, bx := [], df := [] }) := by
  intro rest
  induction rest with
  | nil =>
    intro pre out p k hsp ho hp hk
    obtain ⟨k, rfl⟩ : ∃ k', k = k' + 1 := ⟨k - 1, by omega⟩
    have hlt : ¬ (pre.length < s.length) := by rw [hsp]; simp
    refine roundsA_out ?_ (by simp)
    simp [b1156_0, st1156, hlt, spG]
  | cons c rest ih =>
    intro pre out p k hsp ho hp hk
    obtain ⟨k, rfl⟩ : ∃ k', k = k' + 1 := ⟨k - 1, by omega⟩
    have hlt : pre.length < s.length := by rw [hsp]; simp
    have hsl : s.length = pre.length + (rest.length + 1) := by rw [hsp]; simp
    have hc : s[pre.length]? = some c := by rw [hsp]; simp
    have hst := step1156 E cf m h67 s out hs (by omega) pre.length hlt c hc p hp
    rw [roundsA_step hst]
    have he := ih (pre ++ [c]) (out ++ (if zB c = true then (if p then [] else [32]) else [c])) (zB c) k (by rw [hsp]; simp) (by
      simp only [List.length_append, List.length_cons, List.length_nil]
      split
      · split <;> simp <;> omega
      · simp; omega) (.inr ⟨c, by simp, by rw [hsp]; simp, rfl⟩) (by simp at hk; omega)
    rw [List.length_append, List.length_singleton] at he
    rw [he]
    simp only [spG]
    cases zB c <;> cases p <;> simp

theorem ev1156 (E : Env) (h : E.code 156 = some c1156) (h67 : Has E 167 S1167) : S1156 (autoF E 156) := by
  intro s hs
  have hl := loop1156 E (evF E (s.length + 1)) (s.length + 1) h67 s hs s [] [] false (s.length + 1) rfl (by simp) (.inl ⟨rfl, rfl⟩) (by omega)
  refine autoA_sv (n := s.length + 1) ?_ rfl
  unfold evPA
  simp only [h]
  simp only [st1156, List.length_nil, Int.ofNat_zero, Int.natCast_zero, List.nil_append] at hl
  simp [c1156, hl]

/-! ### A word in a text -/

def S1166g (F : List SV → Option AV) : Prop := ∀ s w : List UInt8, s.length < 1000000000 → w.length < 1000000000 →
  ((∀ i, (s.drop i).take w.length ≠ w) → F [.str s, .str w] = some (.sv (.int .i64 (-1)))) ∧ (w.length ≤ s.length → s.take w.length = w → F [.str s, .str w] = some (.sv (.int .i64 0)))

def st1166 (s w : List UInt8) (i : Nat) : SA := { nt := 25, tm := [(5, .sv (.int .i64 i)), (1, .sv (.str w)), (0, .sv (.str s))], lz := none, bx := [], df := [] }

set_option maxHeartbeats 4000000 in
theorem step1166 (E : Env) (cf : CallF) (m : Nat) (s w : List UInt8) (hs : s.length < 1000000000) (hwl : w.length < 1000000000) (i : Nat) (hi : i + w.length ≤ s.length) :
    evCA E cf m b1166_0 (st1166 s w i) = if (s.drop i).take w.length = w then some (.ret, { nt := 25, tm := [(4, .sv (.int .i64 i))], lz := none, bx := [], df := [] }) else some (.normal, st1166 s w (i + 1)) := by
  have hw : IntKind.i64.wrap ((i : Int) + 1) = ((i + 1 : Nat) : Int) := by rw [IntKind.wrap_i64]; omega
  have hw2 : IntKind.i64.wrap ((i : Int) + (w.length : Int)) = ((i + w.length : Nat) : Int) := by rw [IntKind.wrap_i64]; omega
  have ht : (s.take (i + w.length)).drop i = (s.drop i).take w.length := by
    rw [List.drop_take, show i + w.length - i = w.length from by omega]
  have hle : (i : Int) ≤ (i : Int) + (w.length : Int) := by omega
  generalize hj : ((i + w.length : Nat) : Int) = j at *
  have hj0 : 0 ≤ j := by omega
  have hjt : j.toNat = i + w.length := by omega
  have hjl : j ≤ (s.length : Int) := by omega
  by_cases hc : (s.drop i).take w.length = w
  · rw [if_pos hc]
    rw [hc] at ht
    simp [st1166, b1166_0, hw2, hj0, hjt, hjl, hle, ht]
  · rw [if_neg hc]
    generalize (s.drop i).take w.length = v at *
    have hb : (v == w) = false := by simpa using hc
    simp [st1166, b1166_0, hw2, hj0, hjt, hjl, hle, ht, hc, hb, hw]

theorem out1166 (E : Env) (cf : CallF) (m : Nat) (s w : List UInt8) (hs : s.length < 1000000000) (hwl : w.length < 1000000000) (i : Nat) (hil : i ≤ s.length + 1) (hi : ¬ (i + w.length ≤ s.length)) :
    evCA E cf m b1166_0 (st1166 s w i) = some (.exit 0, { nt := 25, tm := [], lz := none, bx := [], df := [] }) := by
  have hw2 : IntKind.i64.wrap ((i : Int) + (w.length : Int)) = ((i + w.length : Nat) : Int) := by rw [IntKind.wrap_i64]; omega
  have hn : ¬ (((i + w.length : Nat) : Int) ≤ (s.length : Int)) := by omega
  generalize ((i + w.length : Nat) : Int) = j at *
  simp [st1166, b1166_0, hw2, hn]

theorem loop1166g (E : Env) (cf : CallF) (m : Nat) (s w : List UInt8) (hs : s.length < 1000000000) (hwl : w.length < 1000000000) (hno : ∀ i, (s.drop i).take w.length ≠ w) :
    ∀ (d i k : Nat), s.length + 1 - i ≤ d → i ≤ s.length + 1 → d < k → roundsA (evCA E cf m b1166_0) k (st1166 s w i) = some (.exit 0, { nt := 25, tm := [], lz := none, bx := [], df := [] }) := by
  intro d
  induction d with
  | zero =>
    intro i k hd hi hk
    obtain ⟨k, rfl⟩ : ∃ k', k = k' + 1 := ⟨k - 1, by omega⟩
    exact roundsA_out (out1166 E cf m s w hs hwl i hi (by omega)) (by simp)
  | succ d ih =>
    intro i k hd hi hk
    obtain ⟨k, rfl⟩ : ∃ k', k = k' + 1 := ⟨k - 1, by omega⟩
    by_cases h : i + w.length ≤ s.length
    · have hst := step1166 E cf m s w hs hwl i h
      rw [if_neg (hno i)] at hst
      rw [roundsA_step hst]
      exact ih (i + 1) k (by omega) (by omega) (by omega)
    · exact roundsA_out (out1166 E cf m s w hs hwl i hi h) (by simp)

theorem ev1166g (E : Env) (h : E.code 166 = some c1166) : S1166g (autoF E 166) := by
  intro s w hs hwl
  refine ⟨fun hno => ?_, fun hle hc => ?_⟩
  · have hl := loop1166g E (evF E (s.length + 2)) (s.length + 2) s w hs hwl hno (s.length + 1) 0 (s.length + 2) (by omega) (by omega) (by omega)
    refine autoA_sv (n := s.length + 2) ?_ rfl
    unfold evPA
    simp only [h]
    simp only [st1166, Int.ofNat_zero, Int.natCast_zero] at hl
    simp [c1166, hl]
  · have hst := step1166 E (evF E 1) 1 s w hs hwl 0 (by omega)
    rw [List.drop_zero, if_pos hc] at hst
    have hl : roundsA (evCA E (evF E 1) 1 b1166_0) (0 + 1) (st1166 s w 0) = _ := roundsA_out hst (by simp)
    refine autoA_sv (n := 1) ?_ rfl
    unfold evPA
    simp only [h]
    simp only [st1166, Int.ofNat_zero, Int.natCast_zero] at hl
    simp [c1166, hl]

def S1166b (F : List SV → Option AV) : Prop := S1166 F ∧ S1166g F

theorem ev1166b (E : Env) (h : E.code 166 = some c1166) : S1166b (autoF E 166) := ⟨ev1166 E h, ev1166g E h⟩

theorem has_fst {E : Env} {f : Nat} (h : Has E f S1166b) : Has E f S1166 := by
  obtain ⟨F, h1, h2, _⟩ := h
  exact ⟨F, h1, h2⟩

theorem ev1157b (E : Env) (h : E.code 157 = some c1157) (h66 : Has E 166 S1166b) : S1157 (autoF E 157) := ev1157 E h (has_fst h66)

def S1155 (F : List SV → Option AV) : Prop := ∀ s w : List UInt8, s.length < 1000000000 → w.length < 1000000000 →
  ((∀ i, (s.drop i).take w.length ≠ w) → F [.str s, .str w] = some (.sv (.bool false))) ∧ (w.length ≤ s.length → s.take w.length = w → F [.str s, .str w] = some (.sv (.bool true)))

theorem ev1155 (E : Env) (h : E.code 155 = some c1155) (h66 : Has E 166 S1166b) : S1155 (autoF E 155) := by
  obtain ⟨F, hp, _, hF⟩ := h66
  intro s w hs hwl
  obtain ⟨h1, h2⟩ := hF s w hs hwl
  refine ⟨fun hno => ?_, fun hle hc => ?_⟩
  · have := h1 hno
    refine autoA_sv (n := 1) ?_ rfl
    unfold evPA
    simp only [h]
    simp [c1155, hp, this]
  · have := h2 hle hc
    refine autoA_sv (n := 1) ?_ rfl
    unfold evPA
    simp only [h]
    simp [c1155, hp, this]

end Go.Ev

set_option linter.unusedSimpArgs false
set_option linter.unusedVariables false
namespace Go.Ev
open Go.Proofs

/-- A word of a line: no blank in it, and its first letter is neither n nor a dash. -/
def tokB (w : List UInt8) : Bool := w.all (fun c => !(zB c)) && (match w with | [] => false | c :: _ => decide (c.toNat ≠ 45) && decide (c.toNat ≠ 110))

theorem tok_spec {w : List UInt8} (h : tokB w = true) : (∀ c ∈ w, zB c = false) ∧ ∃ c t, w = c :: t ∧ c.toNat ≠ 45 ∧ c.toNat ≠ 110 := by
  unfold tokB at h
  rw [Bool.and_eq_true, List.all_eq_true] at h
  obtain ⟨h1, h2⟩ := h
  refine ⟨fun c hc => by simpa using h1 c hc, ?_⟩
  match w, h2 with
  | c :: t, h2 =>
    simp only [Bool.and_eq_true, decide_eq_true_eq] at h2
    exact ⟨c, t, rfl, h2.1, h2.2⟩

theorem zB_32 {c : UInt8} (h : zB c = false) : c.toNat ≠ 32 := by
  unfold zB at h
  simp only [Bool.or_eq_false_iff, decide_eq_false_iff_not] at h
  exact h.1.1.1.1

theorem joinS_two (b x y : List UInt8) (l : List (List UInt8)) : joinS b (x :: y :: l) = x ++ (b ++ joinS b (y :: l)) := by
  simp [joinS]

theorem joinS_one (b x : List UInt8) : joinS b [x] = x := by simp [joinS]

theorem spG_run : ∀ (w t : List UInt8), (∀ c ∈ w, zB c = false) → spG false (w ++ t) = w ++ spG false t
  | [], t, _ => rfl
  | c :: w, t, h => by
    have hc := h c (by simp)
    simp only [List.cons_append, spG, hc, Bool.false_eq_true, if_false]
    rw [spG_run w t (fun d hd => h d (by simp [hd]))]

theorem spG_word {w : List UInt8} (p : Bool) (t : List UInt8) (h : ∀ c ∈ w, zB c = false) (hn : w ≠ []) : spG p (w ++ t) = w ++ spG false t := by
  cases w with
  | nil => exact absurd rfl hn
  | cons c w =>
    have hc := h c (by simp)
    simp only [List.cons_append, spG, hc, Bool.false_eq_true, if_false]
    rw [spG_run w t (fun d hd => h d (by simp [hd]))]

theorem spG_sp (t : List UInt8) : spG false (32 :: t) = 32 :: spG true t := by
  simp only [spG, show zB 32 = true from rfl, if_true, Bool.false_eq_true, if_false]

theorem spG_spt (t : List UInt8) : spG true (32 :: t) = spG true t := by
  simp only [spG, show zB 32 = true from rfl, if_true]

theorem spG_reps (k : Nat) (t : List UInt8) : spG true (List.replicate k 32 ++ t) = spG true t := by
  induction k with
  | zero => rfl
  | succ k ih => rw [List.replicate_succ, List.cons_append, spG_spt, ih]

theorem spG_join : ∀ (l : List (List UInt8)) (p : Bool), (∀ w ∈ l, tokB w = true) → spG p (joinS [32] l) = joinS [32] l
  | [], p, _ => by simp [joinS, spG]
  | [x], p, h => by
    obtain ⟨h1, c, t, rfl, _, _⟩ := tok_spec (h x (by simp))
    rw [joinS_one]
    have := spG_word p [] h1 (by simp)
    simp only [List.append_nil] at this
    rw [this]; simp [spG]
  | x :: y :: l, p, h => by
    obtain ⟨h1, c, t, hx, _, _⟩ := tok_spec (h x (by simp))
    rw [joinS_two, spG_word p _ h1 (by rw [hx]; simp), show ([32] ++ joinS [32] (y :: l) : List UInt8) = 32 :: joinS [32] (y :: l) from rfl, spG_sp, spG_join (y :: l) true (fun w hw => h w (by simp [hw]))]

theorem part_join : ∀ (l : List (List UInt8)), l ≠ [] → (∀ w ∈ l, ∀ c ∈ w, c.toNat ≠ 32) → partG 32 [] (joinS [32] l) = l
  | [], hn, _ => absurd rfl hn
  | [x], _, h => by
    rw [joinS_one]
    exact partG_none (fun c hc => h x (by simp) c hc)
  | x :: y :: l, _, h => by
    rw [joinS_two]
    have := partG_first (b := 32) (w := x) (rest := joinS [32] (y :: l)) (fun c hc => h x (by simp) c hc)
    rw [show (32 : UInt8).toNat = 32 from rfl] at this
    rw [show ([32] ++ joinS [32] (y :: l) : List UInt8) = 32 :: joinS [32] (y :: l) from rfl, this, part_join (y :: l) (by simp) (fun w hw => h w (by simp [hw]))]

/-- No dash and no n behind a space; `p`: a space is before it. -/
def okG : Bool → List UInt8 → Bool
  | _, [] => true
  | p, c :: t => !(p && (decide (c.toNat = 45) || decide (c.toNat = 110))) && okG (decide (c.toNat = 32)) t

theorem okG_run : ∀ (w t : List UInt8), (∀ c ∈ w, c.toNat ≠ 32) → okG false (w ++ t) = okG false t
  | [], t, _ => rfl
  | c :: w, t, h => by
    have hc := h c (by simp)
    simp only [List.cons_append, okG, Bool.false_and, Bool.not_false, Bool.true_and, decide_eq_false hc]
    exact okG_run w t (fun d hd => h d (by simp [hd]))

theorem okG_tok {w : List UInt8} (p : Bool) (t : List UInt8) (h : tokB w = true) : okG p (w ++ t) = okG false t := by
  obtain ⟨h1, c, w', rfl, h45, h110⟩ := tok_spec h
  have hc := zB_32 (h1 c (by simp))
  simp only [List.cons_append, okG, decide_eq_false h45, decide_eq_false h110, Bool.or_self, Bool.and_false, Bool.not_false, Bool.true_and, decide_eq_false hc]
  exact okG_run w' t (fun d hd => zB_32 (h1 d (by simp [hd])))

theorem okG_sp (p : Bool) (t : List UInt8) : okG p (32 :: t) = okG true t := by
  simp [okG]

theorem okG_reps (k : Nat) (t : List UInt8) (h : okG true t = true) : okG false (List.replicate k 32 ++ 32 :: t) = true := by
  have key : ∀ k p, okG p (List.replicate k 32 ++ 32 :: t) = true := by
    intro k
    induction k with
    | zero => intro p; rw [List.replicate_zero, List.nil_append, okG_sp]; exact h
    | succ k ih => intro p; rw [List.replicate_succ, List.cons_append, okG_sp]; exact ih true
  exact key k false

theorem okG_join : ∀ (l : List (List UInt8)) (p : Bool), (∀ w ∈ l, tokB w = true) → okG p (joinS [32] l) = true
  | [], p, _ => by simp [joinS, okG]
  | [x], p, h => by
    rw [joinS_one]
    have := okG_tok p [] (h x (by simp))
    simp only [List.append_nil] at this
    rw [this]; rfl
  | x :: y :: l, p, h => by
    rw [joinS_two, okG_tok p _ (h x (by simp)), show ([32] ++ joinS [32] (y :: l) : List UInt8) = 32 :: joinS [32] (y :: l) from rfl, okG_sp]
    exact okG_join (y :: l) true (fun w hw => h w (by simp [hw]))

theorem okG_drop : ∀ (u v : List UInt8) (p : Bool), okG p (u ++ v) = true → ∃ q, okG q v = true
  | [], v, p, h => ⟨p, h⟩
  | c :: u, v, p, h => by
    simp only [List.cons_append, okG, Bool.and_eq_true] at h
    exact okG_drop u v _ h.2

theorem not_in {s w : List UInt8} (h : okG false s = true) (hw : ∀ p t, okG p (w ++ t) = false) (i : Nat) : (s.drop i).take w.length ≠ w := by
  intro e
  have h1 : s.drop i = w ++ (s.drop i).drop w.length := by
    conv => lhs; rw [← List.take_append_drop w.length (s.drop i), e]
  have h2 : s = s.take i ++ (w ++ (s.drop i).drop w.length) := by rw [← h1, List.take_append_drop]
  rw [h2] at h
  obtain ⟨q, hq⟩ := okG_drop _ _ _ h
  rw [hw] at hq
  cases hq

theorem not_in_char {s w : List UInt8} {c : UInt8} (hc : c ∈ w) (hs : c ∉ s) (i : Nat) : (s.drop i).take w.length ≠ w := by
  intro e
  rw [← e] at hc
  exact hs (List.mem_of_mem_drop (List.mem_of_mem_take hc))

/-! ### The line of a slab -/

def slToks (n0 n1 n2 n3 n4 n5 n6 n7 n8 n9 n10 : Nat) : List (List UInt8) := [decS n0, decS n1, decS n2, decS n3, decS n4, [58], [116, 117, 110, 97, 98, 108, 101, 115], decS n5, decS n6, decS n7, [58], [115, 108, 97, 98, 100, 97, 116, 97], decS n8, decS n9, decS n10]

theorem dec_tok (n : Nat) : tokB (decS n) = true := by
  obtain ⟨_, h1, h2⟩ := decS_dig n
  unfold tokB
  rw [Bool.and_eq_true, List.all_eq_true]
  refine ⟨fun c hc => ?_, ?_⟩
  · have := digC_iff.1 (h1 c hc)
    have e : zB c = false := by
      unfold zB
      simp only [Bool.or_eq_false_iff, decide_eq_false_iff_not]
      omega
    rw [e]; rfl
  · cases hd : decS n with
    | nil => exact absurd hd h2
    | cons c t =>
      have := digC_iff.1 (h1 c (by rw [hd]; simp))
      simp only [Bool.and_eq_true, decide_eq_true_eq]
      omega

theorem slToks_tok (n0 n1 n2 n3 n4 n5 n6 n7 n8 n9 n10 : Nat) : ∀ w ∈ slToks n0 n1 n2 n3 n4 n5 n6 n7 n8 n9 n10, tokB w = true := by
  intro w hw
  simp only [slToks, List.mem_cons, List.not_mem_nil, or_false] at hw
  rcases hw with rfl | rfl | rfl | rfl | rfl | rfl | rfl | rfl | rfl | rfl | rfl | rfl | rfl | rfl | rfl
  all_goals first
    | exact dec_tok _
    | rfl

theorem slBody_toks {r : RowD} {c : UInt8} {t : List UInt8} {n0 n1 n2 n3 n4 n5 n6 n7 n8 n9 n10 : Nat} (h : SlR r c t n0 n1 n2 n3 n4 n5 n6 n7 n8 n9 n10) : slBody r = (c :: t) ++ (List.replicate (17 - (c :: t).length) 32 ++ 32 :: joinS [32] (slToks n0 n1 n2 n3 n4 n5 n6 n7 n8 n9 n10)) := by
  rw [slRow_eq h]
  have e : slBody ⟨c :: t, [n0, n1, n2, n3, n4, n5, n6, n7, n8, n9, n10], []⟩ = leftS (c :: t) 17 ++ ([32] ++ (slA [n0, n1, n2, n3, n4] ++ (slTun ++ (slA [n5, n6, n7] ++ (slSld ++ slA [n8, n9, n10]))))) := rfl
  rw [e]
  unfold leftS slA slToks slTun slSld
  simp only [joinS, List.map_cons, List.map_nil, List.flatten_cons, List.flatten_nil, List.append_assoc, List.cons_append, List.nil_append, List.append_nil]

theorem word_zB {c : UInt8} (h : wordC c = true) : zB c = false := by
  simp only [wordC, Bool.and_eq_true, decide_eq_true_eq] at h
  unfold zB
  simp only [Bool.or_eq_false_iff, decide_eq_false_iff_not]
  omega

theorem slBody_sp {r : RowD} {c : UInt8} {t : List UInt8} {n0 n1 n2 n3 n4 n5 n6 n7 n8 n9 n10 : Nat} (h : SlR r c t n0 n1 n2 n3 n4 n5 n6 n7 n8 n9 n10) : partG 32 [] (spG false (slBody r)) = (c :: t) :: slToks n0 n1 n2 n3 n4 n5 n6 n7 n8 n9 n10 := by
  obtain ⟨_, hw⟩ := isWord_spec h.hw
  have hz : ∀ d ∈ c :: t, zB d = false := fun d hd => word_zB (hw d hd)
  rw [slBody_toks h, spG_run _ _ hz]
  have e : spG false (List.replicate (17 - (c :: t).length) 32 ++ 32 :: joinS [32] (slToks n0 n1 n2 n3 n4 n5 n6 n7 n8 n9 n10)) = 32 :: joinS [32] (slToks n0 n1 n2 n3 n4 n5 n6 n7 n8 n9 n10) := by
    cases (17 - (c :: t).length) with
    | zero => rw [List.replicate_zero, List.nil_append, spG_sp, spG_join _ _ (slToks_tok _ _ _ _ _ _ _ _ _ _ _)]
    | succ k => rw [List.replicate_succ, List.cons_append, spG_sp, spG_reps, spG_spt, spG_join _ _ (slToks_tok _ _ _ _ _ _ _ _ _ _ _)]
  rw [e]
  have h1 := partG_first (b := 32) (w := c :: t) (rest := joinS [32] (slToks n0 n1 n2 n3 n4 n5 n6 n7 n8 n9 n10)) (fun d hd => zB_32 (hz d hd))
  rw [show (32 : UInt8).toNat = 32 from rfl] at h1
  rw [h1, part_join _ (by simp [slToks]) (fun w hw d hd => zB_32 ((tok_spec (slToks_tok _ _ _ _ _ _ _ _ _ _ _ w hw)).1 d hd))]

theorem slBody_ok {r : RowD} (h : slOk r = true) : okG false (slBody r) = true := by
  obtain ⟨c, t, n0, n1, n2, n3, n4, n5, n6, n7, n8, n9, n10, hr⟩ := slOk_spec h
  obtain ⟨_, hw⟩ := isWord_spec hr.hw
  rw [slBody_toks hr, okG_run _ _ (fun d hd => zB_32 (word_zB (hw d hd)))]
  exact okG_reps _ _ (okG_join _ _ (slToks_tok _ _ _ _ _ _ _ _ _ _ _))

theorem slBody_chars {r : RowD} (h : slOk r = true) : slBody r ≠ [] ∧ ∀ d ∈ slBody r, d.toNat ≠ 10 ∧ d.toNat ≠ 13 := by
  obtain ⟨c, t, n0, n1, n2, n3, n4, n5, n6, n7, n8, n9, n10, hr⟩ := slOk_spec h
  obtain ⟨_, hw⟩ := isWord_spec hr.hw
  have hz : ∀ d, zB d = false → d.toNat ≠ 10 ∧ d.toNat ≠ 13 := fun d hd => by
    unfold zB at hd
    simp only [Bool.or_eq_false_iff, decide_eq_false_iff_not] at hd
    omega
  have hj : ∀ (l : List (List UInt8)), (∀ w ∈ l, tokB w = true) → ∀ d ∈ joinS [32] l, d.toNat ≠ 10 ∧ d.toNat ≠ 13 := by
    intro l hl d hd
    cases l with
    | nil => simp [joinS] at hd
    | cons x l =>
      simp only [joinS, List.mem_append, List.mem_flatten, List.mem_map] at hd
      rcases hd with hd | ⟨y, ⟨w, hw, rfl⟩, hd⟩
      · exact hz d ((tok_spec (hl x (by simp))).1 d hd)
      · rcases List.mem_append.1 hd with hd | hd
        · obtain rfl := List.mem_singleton.1 hd; decide
        · exact hz d ((tok_spec (hl w (by simp [hw]))).1 d hd)
  rw [slBody_toks hr]
  refine ⟨by simp, fun d hd => ?_⟩
  rcases List.mem_append.1 hd with hd | hd
  · exact hz d (word_zB (hw d hd))
  · rcases List.mem_append.1 hd with hd | hd
    · rw [(List.mem_replicate.1 hd).2]; decide
    · rcases List.mem_cons.1 hd with rfl | hd
      · decide
      · exact hj _ (slToks_tok _ _ _ _ _ _ _ _ _ _ _) d hd

end Go.Ev
