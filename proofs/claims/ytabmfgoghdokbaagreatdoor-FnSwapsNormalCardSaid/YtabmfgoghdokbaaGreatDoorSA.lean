/- Lines and fields of any text, by recursion; a scanner over any text. -/
/- Texts padded, signed numbers, words. -/
/- Whole numbers, perhaps with a sign, as two's complements. -/
/- Atoi of numbers with a sign, of 64 bits. -/
/- Atoi, whole. -/
import Derived.Test.YtabmfgoghdokbaaGreatDoorFE
import Derived.Test.YtabmfgoghdokbaaGreatDoorCodes2
set_option linter.unusedSimpArgs false
set_option linter.unusedVariables false
namespace Go.Ev
open Go.Proofs

/-- A text's lines; cur: what of a line came before. -/
def lineG (cur : List UInt8) : List UInt8 → List (List UInt8)
  | [] => if cur = [] then [] else [cur]
  | c :: cs => if c.toNat = 10 then cur :: lineG [] cs else lineG (cur ++ [c]) cs

def lineEnd (s : List UInt8) (p : Nat × List SV) : List SV := if p.1 < s.length then p.2 ++ [.str (s.drop p.1)] else p.2

theorem lineEnd_pos {s : List UInt8} {p : Nat} {acc : List SV} (h : p < s.length) : lineEnd s (p, acc) = acc ++ [.str (s.drop p)] := if_pos h
theorem lineEnd_neg {s : List UInt8} {p : Nat} {acc : List SV} (h : ¬ p < s.length) : lineEnd s (p, acc) = acc := if_neg h

theorem lineK_eq (s : List UInt8) : ∀ (rest pre cur : List UInt8) (acc : List SV), s = pre ++ cur ++ rest →
    lineEnd s (lineK s (pre ++ cur).length rest (pre.length, acc)) = acc ++ strs (lineG cur rest)
  | [], pre, cur, acc, h => by
    simp only [List.append_nil] at h
    simp only [lineK, lineG]
    by_cases hc : cur = []
    · subst hc
      rw [lineEnd_neg (by rw [h]; simp)]; simp [strs]
    · have hl : pre.length < s.length := by
        rw [h]; cases cur with
        | nil => exact absurd rfl hc
        | cons _ _ => simp
      rw [lineEnd_pos hl, if_neg hc, h, List.drop_left]; simp [strs]
  | c :: rest, pre, cur, acc, h => by
    simp only [lineK, lineG]
    by_cases h10 : c.toNat = 10
    · rw [if_pos h10, if_pos h10]
      have hsub : (s.take (pre ++ cur).length).drop pre.length = cur := by rw [h, List.take_left, List.drop_left]
      rw [hsub]
      have := lineK_eq s rest (pre ++ cur ++ [c]) [] (acc ++ [.str cur]) (by rw [h]; simp)
      simp only [List.append_nil] at this
      rw [show (pre ++ cur ++ [c]).length = (pre ++ cur).length + 1 from by simp; omega] at this
      rw [this]; simp [strs]
    · rw [if_neg h10, if_neg h10]
      have := lineK_eq s rest pre (cur ++ [c]) acc (by rw [h]; simp)
      rw [show (pre ++ (cur ++ [c])).length = (pre ++ cur).length + 1 from by simp; omega] at this
      exact this

theorem linesL_eq (s : List UInt8) : linesL s = lineG [] s := by
  have h := lineK_eq s s [] [] [] rfl
  simp only [List.nil_append, List.length_nil] at h
  have e : linesV s = lineEnd s (lineK s 0 s (0, [])) := rfl
  unfold linesL
  rw [e, h, unstrs]

/-- A line's fields; cur: what of a field came before. -/
def fieldG (cur : List UInt8) : List UInt8 → List (List UInt8)
  | [] => if cur = [] then [] else [cur]
  | c :: cs => if blankC c then (if cur = [] then fieldG [] cs else cur :: fieldG [] cs) else fieldG (cur ++ [c]) cs

def fieldEnd (s : List UInt8) (p : Option Nat × List SV) : List SV := match p.1 with
  | some f => p.2 ++ [.str (s.drop f)]
  | none => p.2

theorem fieldK_eq (s : List UInt8) : ∀ (rest pre cur : List UInt8) (acc : List SV), s = pre ++ cur ++ rest →
    fieldEnd s (fieldK s (pre ++ cur).length rest (if cur = [] then none else some pre.length, acc)) = acc ++ strs (fieldG cur rest)
  | [], pre, cur, acc, h => by
    simp only [List.append_nil] at h
    simp only [fieldK, fieldG, fieldEnd]
    by_cases hc : cur = []
    · subst hc
      simp [strs]
    · simp only [if_neg hc]
      rw [h, List.drop_left]; simp [strs]
  | c :: rest, pre, cur, acc, h => by
    have hpl : (pre ++ cur ++ [c]).length = (pre ++ cur).length + 1 := by simp; omega
    have hpl2 : (pre ++ (cur ++ [c])).length = (pre ++ cur).length + 1 := by simp; omega
    simp only [fieldK, fieldG]
    cases hb : blankC c with
    | true =>
      by_cases hc : cur = []
      · subst hc
        have := fieldK_eq s rest (pre ++ [] ++ [c]) [] acc (by rw [h]; simp)
        simp only [if_true, List.append_nil] at this
        simp only [if_true, List.append_nil]
        rw [show (pre ++ [c]).length = pre.length + 1 from by simp] at this
        exact this
      · simp only [if_neg hc, if_true]
        have hsub : (s.take (pre ++ cur).length).drop pre.length = cur := by rw [h, List.take_left, List.drop_left]
        rw [hsub]
        have := fieldK_eq s rest (pre ++ cur ++ [c]) [] (acc ++ [.str cur]) (by rw [h]; simp)
        simp only [if_true, List.append_nil] at this
        rw [hpl] at this
        rw [this]; simp [strs]
    | false =>
      by_cases hc : cur = []
      · subst hc
        have := fieldK_eq s rest pre [c] acc (by rw [h]; simp)
        simp only [List.append_nil, if_true, Bool.false_eq_true, if_false, List.nil_append]
        rw [if_neg (by simp), show (pre ++ [c]).length = pre.length + 1 from by simp] at this
        exact this
      · have := fieldK_eq s rest pre (cur ++ [c]) acc (by rw [h]; simp)
        simp only [if_neg hc, Bool.false_eq_true, if_false]
        rw [if_neg (by simp), hpl2] at this
        exact this

theorem fieldsL_eq (s : List UInt8) : fieldsL s = fieldG [] s := by
  have h := fieldK_eq s s [] [] [] rfl
  simp only [List.nil_append, List.length_nil, if_true] at h
  have e : fieldsV s = fieldEnd s (fieldK s 0 s (none, [])) := rfl
  unfold fieldsL
  rw [e, h, unstrs]

theorem fieldG_words : ∀ (s cur : List UInt8), (∀ c ∈ s, plainC c = true ∧ c.toNat ≠ 10) → fieldG cur s = wordsG cur s
  | [], cur, _ => rfl
  | c :: s, cur, h => by
    obtain ⟨h1, h2⟩ := h c (by simp)
    have hb : blankC c = spC c := by
      simp only [plainC, Bool.and_eq_true, Bool.or_eq_true, decide_eq_true_eq, beq_iff_eq] at h1
      rw [Bool.eq_iff_iff]
      simp [blankC, spC]; omega
    have ih := fun cur => fieldG_words s cur (fun x hx => h x (by simp [hx]))
    simp only [fieldG, wordsG, hb, ih]

/-- The words that the library finds in a plain line are the reference's fields. -/
theorem words_fields {s : List UInt8} (h : ∀ c ∈ s, plainC c = true ∧ c.toNat ≠ 10) : wordsG [] s = fieldsL s := by
  rw [fieldsL_eq, fieldG_words s [] h]

theorem lineG_no {cur : List UInt8} : ∀ (line rest : List UInt8), (∀ c ∈ line, c.toNat ≠ 10) → ∀ cur, lineG cur (line ++ rest) = lineG (cur ++ line) rest
  | [], rest, _, cur => by simp
  | c :: line, rest, h, cur => by
    simp only [List.cons_append, lineG]
    rw [if_neg (h c (by simp)), lineG_no (cur := cur) line rest (fun x hx => h x (by simp [hx]))]
    simp

/-- A text that is not empty: its first line, and what comes behind. -/
theorem line_cases (s : List UInt8) : s = [] ∨ ∃ line rest, (∀ c ∈ line, c.toNat ≠ 10) ∧ lineG [] s = line :: lineG [] rest ∧ ((s = line ++ 10 :: rest) ∨ (s = line ∧ rest = [] ∧ line ≠ [])) := by
  have key : ∀ (s cur : List UInt8), (∃ line rest, (∀ c ∈ line, c.toNat ≠ 10) ∧ s = line ++ 10 :: rest) ∨ ∀ c ∈ s, c.toNat ≠ 10 := by
    intro s cur
    induction s with
    | nil => exact .inr (by simp)
    | cons c s ih =>
      by_cases h : c.toNat = 10
      · refine .inl ⟨[], s, by simp, ?_⟩
        have : c = 10 := UInt8.toNat_inj.1 (by rw [h]; rfl)
        rw [this]; rfl
      · rcases ih with ⟨line, rest, h1, h2⟩ | h1
        · refine .inl ⟨c :: line, rest, fun x hx => ?_, by rw [h2]; rfl⟩
          rcases List.mem_cons.1 hx with rfl | hx
          · exact h
          · exact h1 x hx
        · refine .inr fun x hx => ?_
          rcases List.mem_cons.1 hx with rfl | hx
          · exact h
          · exact h1 x hx
  by_cases hs : s = []
  · exact .inl hs
  · right
    rcases key s [] with ⟨line, rest, h1, h2⟩ | h1
    · refine ⟨line, rest, h1, ?_, .inl h2⟩
      rw [h2, lineG_no (cur := []) line _ h1]
      simp [lineG]
    · refine ⟨s, [], h1, ?_, .inr ⟨rfl, rfl, hs⟩⟩
      have := lineG_no (cur := []) s [] h1 []
      simp only [List.append_nil, List.nil_append] at this
      rw [this]; simp [lineG, hs]

/-- A scanner's step at a last line without a line feed. -/
theorem loop88n (E : Env) (cf : CallF) (i : Nat) (bx : List Box) (left : List UInt8) (m : Nat) (hb : bx[i]? = some (scanBox left [])) :
    ∀ (rest pre : List UInt8) (k : Nat), left = pre ++ rest → left.length < 9223372036854775807 → (∀ c ∈ rest, c.toNat ≠ 10) → rest.length < k →
      rounds (evC E cf m b88_0) k { tm := [.ptr i 0, .sv .undef, .sv .undef, .sv (.int .i64 pre.length)] ++ List.replicate 104 (.sv .undef), lz := none, bx := bx, df := [] } =
        some (.exit 0, { tm := [.ptr i 0, .sv .undef, .sv .undef, .sv (.int .i64 (pre ++ rest).length)] ++ List.replicate 104 (.sv .undef), lz := none, bx := bx, df := [] }) := by
  simp only [scanBox] at hb
  intro rest
  induction rest with
  | nil =>
    intro pre k hsp hl hr hk
    obtain ⟨k, rfl⟩ : ∃ k', k = k' + 1 := ⟨k - 1, by omega⟩
    have hlt : ¬ pre.length < left.length := by rw [hsp]; simp
    refine rounds_out ?_ (by simp)
    simp [b88_0, List.replicate, hb, hlt]
  | cons c rest ih =>
    intro pre k hsp hl hr hk
    obtain ⟨k, rfl⟩ : ∃ k', k = k' + 1 := ⟨k - 1, by omega⟩
    have hlt : pre.length < left.length := by rw [hsp]; simp
    have hc : ∀ h : pre.length < left.length, left[pre.length]'h = c := by subst hsp; simp
    have hne : ¬ (c.toNat : Int) = 10 := by have := hr c (by simp); omega
    have hneb : ((c.toNat : Int) == 10) = false := by simpa using hne
    have hnec : ((c.toNat : Int) != 10) = true := by simpa using hne
    have hw2 : IntKind.i64.wrap ((pre.length : Int) + 1) = ((pre ++ [c]).length : Int) := by rw [IntKind.wrap_i64]; simp; omega
    have := ih (pre ++ [c]) k (by rw [hsp]; simp) hl (fun x hx => hr x (by simp [hx])) (by simp at hk; omega)
    rw [show pre ++ [c] ++ rest = pre ++ c :: rest from by simp] at this
    rw [← this]
    refine rounds_step ?_
    simp [b88_0, List.replicate, hb, hlt, hc, hne, hneb, hnec, hw2]

theorem scan88n (E : Env) (h : E.code 88 = some c88) (i : Nat) (bx : List Box) (line t : List UInt8) (hb : bx[i]? = some (scanBox line t)) (hne : line ≠ []) (hl : line.length < 65536) (hr : ∀ c ∈ line, c.toNat ≠ 10 ∧ c.toNat ≠ 13) (n : Nat) (hn : line.length < n) :
    evF E (n + 1) 88 [.ptr i 0] bx = some (.sv (.bool true), bx.set i (scanBox [] line)) := by
  have hil : i < bx.length := (List.getElem?_eq_some_iff.1 hb).1
  have hb1 : (bx.set i (scanBox line []))[i]? = some (scanBox line []) := by simp [hil]
  have he := loop88n E (evF E n) i (bx.set i (scanBox line [])) line n hb1 line [] n rfl (by omega) (fun c hc => (hr c hc).1) hn
  simp only [scanBox, List.replicate, List.cons_append, List.nil_append, List.length_nil, Int.ofNat_zero, Int.natCast_zero] at he hb
  have hbi : ∀ h : i < bx.length, bx[i]'h = .live [.sv (.str line), .sv (.str t), .sv (.int .i64 65536), .sv .nilI] := fun h => by
    rw [List.getElem?_eq_getElem h] at hb; exact Option.some.inj hb
  have g1 : ¬ (65536 : Int) ≤ (line.length : Int) := by omega
  have ht : List.take line.length line = line := List.take_length
  have hd : List.drop line.length line = [] := List.drop_length
  simp only [evF, h]
  have hpos : 0 < line.length := by
    cases line with
    | nil => exact absurd rfl hne
    | cons x xs => simp
  have hposI : (0 : Int) < (line.length : Int) := by omega
  have wm : IntKind.i64.wrap ((line.length : Int) - 1) = ((line.length - 1 : Nat) : Int) := by rw [IntKind.wrap_i64]; omega
  have hlt1 : line.length - 1 < line.length := by omega
  have hlast := (hr (line[line.length - 1]'hlt1) (List.getElem_mem hlt1)).2
  have hl13 : ¬ ((line[line.length - 1]'hlt1).toNat : Int) = 13 := by omega
  have hl13b : (((line[line.length - 1]'hlt1).toNat : Int) == 13) = false := by simpa using hl13
  simp [c88, List.replicate, hbi, hil, he, scanBox, g1, ht, hd, hpos, hposI, wm, hlt1, hl13, hl13b, hne]

end Go.Ev

set_option linter.unusedSimpArgs false
set_option linter.unusedVariables false
namespace Go.Ev
open Go.Proofs

/-- A text with blanks behind. -/
def leftS (s : List UInt8) (n : Nat) : List UInt8 := s ++ List.replicate (n - s.length) 32

theorem leftS_step {s : List UInt8} {n : Nat} (h : s.length < n) : leftS (s ++ [32]) n = leftS s n := by
  obtain ⟨d, hd⟩ : ∃ d, n - s.length = d + 1 := ⟨n - s.length - 1, by omega⟩
  have : n - (s ++ [32]).length = d := by simp; omega
  unfold leftS
  rw [this, hd, List.replicate_succ]; simp

theorem leftS_done {s : List UInt8} {n : Nat} (h : ¬ s.length < n) : leftS s n = s := by
  unfold leftS
  rw [show n - s.length = 0 from by omega]; simp

theorem leftS_len (s : List UInt8) (n : Nat) : (leftS s n).length ≤ s.length + n := by unfold leftS; rw [List.length_append, List.length_replicate]; omega

theorem loop44 (E : Env) (cf : CallF) (m : Nat) (n : Nat) (hn : n < 1000000) :
    ∀ (d : Nat) (s : List UInt8) (k : Nat), n - s.length ≤ d → s.length < 1000000000000 → d < k →
      rounds (evC E cf m b44_0) k { tm := [.sv (.str s), .sv (.int .i64 n)] ++ List.replicate 10 (.sv .undef), lz := none, bx := [], df := [] } =
        some (.exit 0, { tm := [.sv (.str (leftS s n))] ++ List.replicate 11 (.sv .undef), lz := none, bx := [], df := [] }) := by
  intro d
  induction d with
  | zero =>
    intro s k hd hs hk
    obtain ⟨k, rfl⟩ : ∃ k', k = k' + 1 := ⟨k - 1, by omega⟩
    have hlt : ¬ (s.length < n) := by omega
    refine rounds_out ?_ (by simp)
    rw [leftS_done hlt]
    have hltI : ¬ (s.length : Int) < (n : Int) := by omega
    simp [b44_0, List.replicate, hlt, hltI]
  | succ d ih =>
    intro s k hd hs hk
    obtain ⟨k, rfl⟩ : ∃ k', k = k' + 1 := ⟨k - 1, by omega⟩
    by_cases hlt : s.length < n
    · have he := ih (s ++ [32]) k (by simp; omega) (by simp; omega) (by omega)
      rw [leftS_step hlt] at he
      rw [← he]
      refine rounds_step ?_
      have hltI : (s.length : Int) < (n : Int) := by omega
      have hb : s.length + 1 < 4611686018427387904 := by omega
      simp [b44_0, List.replicate, hlt, hltI, hb]
    · refine rounds_out ?_ (by simp)
      rw [leftS_done hlt]
      have hltI : ¬ (s.length : Int) < (n : Int) := by omega
      simp [b44_0, List.replicate, hlt, hltI]

theorem ev44 (E : Env) (h : E.code 44 = some c44) (s : List UInt8) (n : Nat) (hn : n < 1000000) (hs : s.length < 100000000000) (k : Nat) (hk : n < k) : evP E k 44 [.str s, .int .i64 n] = some (.sv (.str (leftS s n))) := by
  unfold evP
  simp only [h]
  have hl := loop44 E (evF E k) k n hn n s k (by omega) (by omega) hk
  simp only [List.replicate, List.cons_append, List.nil_append] at hl
  simp [c44, List.replicate, hl]

noncomputable def F44 : List SV → Option AV
  | [.str s, .int .i64 n] => onlyIf (0 ≤ n ∧ n < 1000000 ∧ s.length < 100000000000) (some (.sv (.str (leftS s n.toNat))))
  | _ => none

theorem F44_eq (s : List UInt8) (n : Nat) (hn : n < 1000000) (hs : s.length < 100000000000) : F44 [.str s, .int .i64 n] = some (.sv (.str (leftS s n))) := by
  show onlyIf _ (some (AV.sv (.str (leftS s (n : Int).toNat)))) = _
  rw [onlyIf_pos ⟨by omega, by omega, hs⟩]; simp

theorem F45_eq (m : Nat) (hm : m < 18446744073709551616) : F45 [.int .u64 (m : Int)] = some (.sv (.str (decS m))) := by
  show onlyIf _ (some (AV.sv (.str (decS (m : Int).toNat)))) = _
  rw [onlyIf_pos ⟨by omega, by omega⟩]; simp

/-- A number with a sign, as it is written. -/
def sdecS (n : Int) : List UInt8 := if n < 0 then 45 :: decS (-n).toNat else decS n.toNat

theorem sdecS_len {n : Int} (h1 : -9223372036854775808 ≤ n) (h2 : n < 9223372036854775808) : (sdecS n).length ≤ 21 := by
  unfold sdecS
  split
  · have := decS_len20 (n := (-n).toNat) (by omega)
    simp; omega
  · have := decS_len20 (n := n.toNat) (by omega)
    omega

theorem ev58 (E : Env) (h : E.code 58 = some c58) (h45 : E.pure 45 = some F45) (n : Int) (h1 : -9223372036854775808 ≤ n) (h2 : n < 9223372036854775808) (k : Nat) : evP E k 58 [.int .i64 n] = some (.sv (.str (sdecS n))) := by
  unfold evP
  simp only [h]
  by_cases hn : n < 0
  · obtain ⟨m, hm⟩ : ∃ m : Nat, (-n).toNat = m := ⟨_, rfl⟩
    have hm1 : n = -(m : Int) := by omega
    have w1 : IntKind.i64.wrap (n + 1) = n + 1 := by rw [IntKind.wrap_i64]; omega
    have w2 : IntKind.i64.wrap (0 - (n + 1)) = -(n + 1) := by rw [IntKind.wrap_i64]; omega
    have w3 : IntKind.u64.wrap (-(n + 1)) = -(n + 1) := by rw [IntKind.wrap_u64]; omega
    have w4 : IntKind.u64.wrap (-(n + 1) + 1) = (m : Int) := by rw [IntKind.wrap_u64]; omega
    have hF := F45_eq m (by omega)
    have hl := decS_len20 (n := m) (by omega)
    have hl2 : 1 + (decS m).length < 4611686018427387904 := by omega
    have hl3 : (decS m).length + 1 < 4611686018427387904 := by omega
    have hs : sdecS n = 45 :: decS m := by unfold sdecS; rw [if_pos hn, hm]
    rw [hs]
    simp only [Int.zero_sub] at w2
    simp [c58, List.replicate, hn, w1, w2, w3, w4, h45, hF, hl2, hl3]
  · obtain ⟨m, rfl⟩ := Int.eq_ofNat_of_zero_le (show 0 ≤ n by omega)
    have w3 : IntKind.u64.wrap (m : Int) = (m : Int) := by rw [IntKind.wrap_u64]; omega
    have hF := F45_eq m (by omega)
    have hs : sdecS (m : Int) = decS m := by unfold sdecS; rw [if_neg hn]; simp
    rw [hs]
    simp [c58, List.replicate, hn, w3, h45, hF]

noncomputable def F58 : List SV → Option AV
  | [.int .i64 n] => onlyIf (-9223372036854775808 ≤ n ∧ n < 9223372036854775808) (some (.sv (.str (sdecS n))))
  | _ => none

theorem ev30 (E : Env) (h : E.code 30 = some c30) (n : Nat) (s w : List UInt8) : evP E n 30 [.str s, .str w] = some (.sv (.bool (decide (w.length ≤ s.length) && (s.take w.length == w)))) := by
  unfold evP
  simp only [h]
  by_cases h1 : w.length ≤ s.length
  · simp [c30, h1, List.replicate]
  · simp [c30, h1, List.replicate]

def F30 : List SV → Option AV
  | [.str s, .str w] => some (.sv (.bool (decide (w.length ≤ s.length) && (s.take w.length == w))))
  | _ => none

def isWord (s : List UInt8) : Bool := s.all wordC && !(s == [])

theorem loop56 (E : Env) (cf : CallF) (h54 : E.pure 54 = some F54) (xs : List SV) (hs : xs.length < 9223372036854775807) (m : Nat) :
    ∀ (rest : List (List UInt8)) (pre : List SV) (k : Nat), xs = pre ++ strs rest → (∀ s ∈ rest, s.length < 100000000000) → rest.length < k →
      rounds (evC E cf m b56_0) k { tm := List.replicate 5 (.sv .undef) ++ [.sv (.sl xs), .sv (.int .i64 xs.length), .sv (.int .i64 pre.length)] ++ List.replicate 7 (.sv .undef), lz := none, bx := [], df := [] } =
        if rest.all isWord = true then some (.exit 0, { tm := List.replicate 15 (.sv .undef), lz := none, bx := [], df := [] })
        else some (.ret, { tm := [.sv .undef, .sv .undef, .sv (.bool false)] ++ List.replicate 12 (.sv .undef), lz := none, bx := [], df := [] }) := by
  intro rest
  induction rest with
  | nil =>
    intro pre k hsp _ hk
    obtain ⟨k, rfl⟩ : ∃ k', k = k' + 1 := ⟨k - 1, by omega⟩
    have hlt : ¬ (pre.length < xs.length) := by rw [hsp]; simp [strs]
    simp only [List.all_nil, if_true]
    refine rounds_out ?_ (by simp)
    simp [b56_0, List.replicate, hlt]
  | cons c rest ih =>
    intro pre k hsp hr hk
    obtain ⟨k, rfl⟩ : ∃ k', k = k' + 1 := ⟨k - 1, by omega⟩
    have hlt : pre.length < xs.length := by rw [hsp]; simp [strs]
    have hc : ∀ h : pre.length < xs.length, xs[pre.length]'h = .str c := by subst hsp; simp [strs]
    have hw2 : IntKind.i64.wrap ((pre.length : Int) + 1) = ((pre ++ [SV.str c]).length : Int) := by rw [IntKind.wrap_i64]; simp; omega
    have := ih (pre ++ [.str c]) k (by rw [hsp]; simp [strs]) (fun s hs => hr s (by simp [hs])) (by simp at hk; omega)
    have hF : F54 [.str c] = some (.sv (.bool (isWord c))) := F54_eq c (by have := hr c (by simp); omega)
    cases hw : isWord c with
    | true =>
      rw [hw] at hF
      simp only [List.all_cons, hw, Bool.true_and]
      rw [← this]
      refine rounds_step ?_
      simp [b56_0, List.replicate, hlt, hc, h54, hF, hw2]
    | false =>
      rw [hw] at hF
      simp only [List.all_cons, hw, Bool.false_and, Bool.false_eq_true, if_false]
      refine rounds_out ?_ (by simp)
      simp [b56_0, List.replicate, hlt, hc, h54, hF]

theorem ev56 (E : Env) (h : E.code 56 = some c56) (h54 : E.pure 54 = some F54) (l : List (List UInt8)) (hl : l.length < 1000000000000) (hs : ∀ s ∈ l, s.length < 100000000000) (n : Nat) (hn : l.length < n) :
    evP E n 56 [.sl (strs l)] = some (.sv (.bool (l.all isWord))) := by
  unfold evP
  simp only [h]
  have he := loop56 E (evF E n) h54 (strs l) (by rw [strs_length]; omega) n l [] n rfl hs hn
  simp only [List.replicate, List.cons_append, List.nil_append, List.length_nil, Int.ofNat_zero, Int.natCast_zero] at he
  cases hv : l.all isWord with
  | true => simp only [hv, if_true] at he; simp [c56, List.replicate, he]
  | false => simp only [hv, Bool.false_eq_true, if_false] at he; simp [c56, List.replicate, he]

noncomputable def F56 : List SV → Option AV
  | [.sl l] => onlyIf (l = strs (l.map unstr) ∧ l.length < 1000000000000 ∧ ∀ s ∈ l.map unstr, s.length < 100000000000) (some (.sv (.bool ((l.map unstr).all isWord))))
  | _ => none

theorem F56_eq (l : List (List UInt8)) (hl : l.length < 1000000000000) (hs : ∀ s ∈ l, s.length < 100000000000) : F56 [.sl (strs l)] = some (.sv (.bool (l.all isWord))) := by
  unfold F56
  simp only [unstrs]
  exact onlyIf_pos ⟨trivial, by rw [strs_length]; exact hl, hs⟩

end Go.Ev

set_option linter.unusedSimpArgs false
set_option linter.unusedVariables false
namespace Go.Ev
open Go.Proofs

/-- What the reference reads of a text with a minus ahead: how much below nought. -/
def negV (t : List UInt8) : Option Nat := match numV 10 0 t with
  | some m => if m > 9223372036854775808 ∨ t = [] then none else some m
  | none => none

def twoC (m : Nat) : Nat := (18446744073709551616 - m) % 18446744073709551616

def wholeV (s : List UInt8) : Option Nat := match s with
  | [] => none
  | c :: t => if c.toNat = 45 then (match negV t with
      | some m => some (twoC m)
      | none => none) else numV 10 0 (c :: t)

def wholesV : List (List UInt8) → Option (List Nat)
  | [] => some []
  | s :: l => match wholeV s with
    | some m => match wholesV l with
      | some ms => some (m :: ms)
      | none => none
    | none => none

theorem F81_eq (s : List UInt8) (hs : s.length < 9223372036854775807) : F81 [.str s] = some (.sv (.tup (match numV 10 0 s with | some m => [.int .u64 m, .bool (!(s == []))] | none => [.int .u64 0, .bool false]))) := onlyIf_pos hs

theorem ev112 (E : Env) (h : E.code 112 = some c112) (h30 : E.pure 30 = some F30) (h81 : E.pure 81 = some F81) (c : UInt8) (hc : c.toNat = 45) (t : List UInt8) (ht : t.length < 100000000000) (k : Nat) :
    evP E k 112 [.str (c :: t)] = some (.sv (.tup (match negV t with | some m => [.int .i64 (-(m : Int)), .bool true] | none => match numV 10 0 t with | some m => if m > 9223372036854775808 then [.int .i64 0, .bool false] else [.int .i64 0, .bool false] | none => [.int .i64 0, .bool false]))) := by
  have hF81 := F81_eq t (by omega)
  have hc8 : c = 45 := UInt8.toNat_inj.1 (by rw [hc]; rfl)
  subst hc8
  have hF30 : F30 [.str (45 :: t), .str [45]] = some (.sv (.bool true)) := by simp [F30]
  have ht1 : List.take t.length t = t := List.take_length
  have b1 : (0 : Int) ≤ (t.length : Int) + 1 := by omega
  have b2 : (1 : Int) ≤ ((t.length + 1 : Nat) : Int) := by omega
  have b3 : (1 : Int) ≤ (t.length : Int) + 1 := by omega
  unfold evP
  simp only [h]
  unfold negV
  cases hn : numV 10 0 t with
  | none =>
    rw [hn] at hF81
    have w1 : IntKind.i64.wrap 0 = 0 := by rw [IntKind.wrap_i64]; omega
    simp [c112, List.replicate, h30, hF30, h81, hF81, ht1, b1, b2, b3, w1]
  | some m =>
    rw [hn] at hF81
    have hm := numV_lt (by omega) t 0 m (by omega) hn
    by_cases hgt : m > 9223372036854775808
    · have hgtI : (9223372036854775808 : Int) < (m : Int) := by omega
      have hgt' : 9223372036854775808 < m := hgt
      simp [c112, List.replicate, h30, hF30, h81, hF81, ht1, b1, b2, b3, hgtI, hgt']
    · have hgtI : ¬ (9223372036854775808 : Int) < (m : Int) := by omega
      have hgt' : ¬ 9223372036854775808 < m := hgt
      have w1 : IntKind.i64.wrap (0 - IntKind.i64.wrap (m : Int)) = -(m : Int) := by rw [IntKind.wrap_i64, IntKind.wrap_i64]; omega
      simp only [Int.zero_sub] at w1
      by_cases hte : t = []
      · subst hte
        simp [numV] at hn
        subst hn
        have w0 : IntKind.i64.wrap 0 = 0 := by rw [IntKind.wrap_i64]; omega
        simp [c112, List.replicate, h30, hF30, h81, hF81, ht1, b1, b2, b3, w0]
      · have hteb : (t == []) = false := by simpa using hte
        simp [c112, List.replicate, h30, hF30, h81, hF81, ht1, b1, b2, b3, hgtI, hgt', w1, hte, hteb]

noncomputable def F112 : List SV → Option AV
  | [.str (c :: t)] => onlyIf (c.toNat = 45 ∧ t.length < 100000000000) (some (.sv (.tup (match negV t with | some m => [.int .i64 (-(m : Int)), .bool true] | none => [.int .i64 0, .bool false]))))
  | _ => none

theorem negV_le {t : List UInt8} {m : Nat} (h : negV t = some m) : m ≤ 9223372036854775808 := by
  unfold negV at h
  split at h <;> try (simp at h; done)
  split at h <;> simp only [Option.some.injEq, reduceCtorEq] at h
  omega

theorem loop53 (E : Env) (cf : CallF) (h30 : E.pure 30 = some F30) (h81 : E.pure 81 = some F81) (h112 : E.pure 112 = some F112) (xs : List SV) (hs : xs.length < 1000000000000) (m : Nat) :
    ∀ (rest : List (List UInt8)) (pre acc : List SV) (k : Nat), xs = pre ++ strs rest → (∀ s ∈ rest, s.length < 100000000000) → acc.length = pre.length → rest.length < k →
      rounds (evC E cf m b53_0) k { tm := List.replicate 4 (.sv .undef) ++ [accA 32 acc] ++ List.replicate 6 (.sv .undef) ++ [.sv (.sl xs), .sv (.int .i64 xs.length), .sv (.int .i64 pre.length)] ++ List.replicate 30 (.sv .undef), lz := none, bx := [], df := [] } =
        match wholesV rest with
        | some ms => some (.exit 0, { tm := List.replicate 4 (.sv .undef) ++ [accA 32 (acc ++ u64s ms)] ++ List.replicate 39 (.sv .undef), lz := none, bx := [], df := [] })
        | none => some (.ret, { tm := [.sv .undef, .sv .undef, .sv .nilS, .sv (.bool false)] ++ List.replicate 40 (.sv .undef), lz := none, bx := [], df := [] }) := by
  intro rest
  induction rest with
  | nil =>
    intro pre acc k hsp _ _ hk
    obtain ⟨k, rfl⟩ : ∃ k', k = k' + 1 := ⟨k - 1, by omega⟩
    have hlt : ¬ (pre.length < xs.length) := by rw [hsp]; simp [strs]
    simp only [wholesV]
    refine rounds_out ?_ (by simp)
    simp [b53_0, List.replicate, hlt, u64s]
  | cons s rest ih =>
    intro pre acc k hsp hr hal hk
    obtain ⟨k, rfl⟩ : ∃ k', k = k' + 1 := ⟨k - 1, by omega⟩
    have hlt : pre.length < xs.length := by rw [hsp]; simp [strs]
    have hc : ∀ h : pre.length < xs.length, xs[pre.length]'h = .str s := by subst hsp; simp [strs]
    have hw2 : IntKind.i64.wrap ((pre.length : Int) + 1) = ((pre ++ [SV.str s]).length : Int) := by rw [IntKind.wrap_i64]; simp; omega
    have hsl := hr s (by simp)
    have hl1 : (acc.length + 1) * 8 ≤ 140737488355328 := by omega
    have hl2 : acc.length + 1 ≤ 140737488355328 := by omega
    have go : ∀ v : Nat, wholeV s = some v → evC E cf m b53_0 { tm := List.replicate 4 (.sv .undef) ++ [accA 32 acc] ++ List.replicate 6 (.sv .undef) ++ [.sv (.sl xs), .sv (.int .i64 xs.length), .sv (.int .i64 pre.length)] ++ List.replicate 30 (.sv .undef), lz := none, bx := [], df := [] } =
        some (.normal, { tm := List.replicate 4 (.sv .undef) ++ [accA 32 (acc ++ [.int .u64 (v : Int)])] ++ List.replicate 6 (.sv .undef) ++ [.sv (.sl xs), .sv (.int .i64 xs.length), .sv (.int .i64 (pre ++ [SV.str s]).length)] ++ List.replicate 30 (.sv .undef), lz := none, bx := [], df := [] }) →
        rounds (evC E cf m b53_0) (k + 1) { tm := List.replicate 4 (.sv .undef) ++ [accA 32 acc] ++ List.replicate 6 (.sv .undef) ++ [.sv (.sl xs), .sv (.int .i64 xs.length), .sv (.int .i64 pre.length)] ++ List.replicate 30 (.sv .undef), lz := none, bx := [], df := [] } =
        match wholesV (s :: rest) with
        | some ms => some (.exit 0, { tm := List.replicate 4 (.sv .undef) ++ [accA 32 (acc ++ u64s ms)] ++ List.replicate 39 (.sv .undef), lz := none, bx := [], df := [] })
        | none => some (.ret, { tm := [.sv .undef, .sv .undef, .sv .nilS, .sv (.bool false)] ++ List.replicate 40 (.sv .undef), lz := none, bx := [], df := [] }) := by
      intro v hv hst
      have he := ih (pre ++ [SV.str s]) (acc ++ [SV.int .u64 (v : Int)]) k (by rw [hsp]; simp [strs]) (fun x hx => hr x (by simp [hx])) (by simp [hal]) (by simp at hk; omega)
      rw [rounds_step hst, he]
      simp only [wholesV, hv]
      cases wholesV rest with
      | none => rfl
      | some ms => simp [u64s]
    cases s with
    | nil =>
      have hF30 : F30 [.str [], .str [45]] = some (.sv (.bool false)) := rfl
      have hF81 := F81_eq [] (by simp)
      simp only [wholesV, wholeV]
      refine rounds_out ?_ (by simp)
      simp [numV] at hF81
      simp [b53_0, List.replicate, hlt, hc, h30, hF30, h81, hF81]
    | cons c t =>
      by_cases h45 : c.toNat = 45
      · have hc8 : c = 45 := UInt8.toNat_inj.1 (by rw [h45]; rfl)
        subst hc8
        have hF30 : F30 [.str (45 :: t), .str [45]] = some (.sv (.bool true)) := by simp [F30]
        have hF112 : F112 [.str (45 :: t)] = some (.sv (.tup (match negV t with | some m => [.int .i64 (-(m : Int)), .bool true] | none => [.int .i64 0, .bool false]))) := by
          simp at hsl
          exact onlyIf_pos ⟨rfl, by omega⟩
        cases hn : negV t with
        | none =>
          rw [hn] at hF112
          have hv : wholesV ((45 :: t) :: rest) = none := by simp [wholesV, wholeV, hn]
          rw [hv]
          refine rounds_out ?_ (by simp)
          simp [b53_0, List.replicate, hlt, hc, h30, hF30, h112, hF112]
        | some v =>
          rw [hn] at hF112
          have hle := negV_le hn
          have hv : wholeV (45 :: t) = some (twoC v) := by simp [wholeV, hn]
          have hw3 : IntKind.u64.wrap (-(v : Int)) = ((twoC v : Nat) : Int) := by rw [IntKind.wrap_u64]; unfold twoC; omega
          refine go _ hv ?_
          generalize twoC v = tv at hw3
          cases acc with
          | nil => simp [b53_0, List.replicate, hlt, hc, h30, hF30, h112, hF112, hw2, hw3, accA]
          | cons y ys =>
            simp only [List.length_cons] at hl1 hl2
            simp [b53_0, List.replicate, hlt, hc, h30, hF30, h112, hF112, hw2, hw3, accA, hl1, hl2]
      · have hF30 : F30 [.str (c :: t), .str [45]] = some (.sv (.bool false)) := by
          have : c ≠ 45 := fun e => h45 (by rw [e]; rfl)
          simp [F30, this]
        have hF81 := F81_eq (c :: t) (by omega)
        cases hn : numV 10 0 (c :: t) with
        | none =>
          rw [hn] at hF81
          have hv : wholesV ((c :: t) :: rest) = none := by simp [wholesV, wholeV, h45, hn]
          rw [hv]
          refine rounds_out ?_ (by simp)
          simp [b53_0, List.replicate, hlt, hc, h30, hF30, h81, hF81]
        | some v =>
          rw [hn] at hF81
          have hv : wholeV (c :: t) = some v := by simp [wholeV, h45, hn]
          refine go _ hv ?_
          cases acc with
          | nil => simp [b53_0, List.replicate, hlt, hc, h30, hF30, h81, hF81, hw2, accA]
          | cons y ys =>
            simp only [List.length_cons] at hl1 hl2
            simp [b53_0, List.replicate, hlt, hc, h30, hF30, h81, hF81, hw2, accA, hl1, hl2]

theorem ev53 (E : Env) (h : E.code 53 = some c53) (h30 : E.pure 30 = some F30) (h81 : E.pure 81 = some F81) (h112 : E.pure 112 = some F112) (l : List (List UInt8)) (hs : l.length < 1000000000000) (hr : ∀ s ∈ l, s.length < 100000000000) (n : Nat) (hn : l.length < n) :
    evP E n 53 [.sl (strs l)] = some (.sv (.tup (match wholesV l with | some ms => [.sl (u64s ms), .bool true] | none => [.sl [], .bool false]))) := by
  unfold evP
  simp only [h]
  have hl := loop53 E (evF E n) h30 h81 h112 (strs l) (by rw [strs_length]; exact hs) n l [] [] n rfl hr rfl hn
  simp only [accA, List.replicate, List.cons_append, List.nil_append, List.length_nil, Int.ofNat_zero, Int.natCast_zero] at hl
  cases hv : wholesV l with
  | none => simp [hv] at hl; simp [c53, List.replicate, hl]
  | some ms =>
    cases ms with
    | nil => simp [hv, u64s] at hl; simp [c53, List.replicate, hl, accA, u64s]
    | cons x xs => simp [hv, u64s] at hl; simp [c53, List.replicate, hl, accA, u64s]

noncomputable def F53 : List SV → Option AV
  | [.sl l] => onlyIf (l = strs (l.map unstr) ∧ l.length < 1000000000000 ∧ ∀ s ∈ l.map unstr, s.length < 100000000000) (some (.sv (.tup (match wholesV (l.map unstr) with | some ms => [.sl (u64s ms), .bool true] | none => [.sl [], .bool false]))))
  | _ => none

theorem F53_eq (l : List (List UInt8)) (hs : l.length < 1000000000000) (hr : ∀ s ∈ l, s.length < 100000000000) : F53 [.sl (strs l)] = some (.sv (.tup (match wholesV l with | some ms => [.sl (u64s ms), .bool true] | none => [.sl [], .bool false]))) := by
  unfold F53
  simp only [unstrs]
  exact onlyIf_pos ⟨trivial, by rw [strs_length]; exact hs, hr⟩

end Go.Ev

set_option linter.unusedSimpArgs false
set_option linter.unusedVariables false
namespace Go.Ev
open Go.Proofs

theorem digN_ge : ∀ (s : List UInt8) (a : Nat), a ≤ digN a s
  | [], a => by rw [digN_nil]; exact Nat.le_refl _
  | c :: s, a => by
    rw [digN_cons]
    have := digN_ge s (a * 10 + dgt c)
    omega

set_option maxRecDepth 100000 in
theorem loop125 (E : Env) (cf : CallF) (s0 s : List UInt8) (hs : s.length < 1000000000000) (m : Nat) :
    ∀ (rest pre : List UInt8) (a k : Nat), s = pre ++ rest → (∀ c ∈ rest, digC c = true) → digN a rest < 18446744073709551616 → rest.length < k →
      rounds (evC E cf m b125_0) k { tm := [.sv .undef, .sv (.int .i64 10)] ++ List.replicate 6 (.sv .undef) ++ [.sv (.bool false), .sv (.str s0), .sv (.int .u64 1844674407370955162), .sv (.int .u64 18446744073709551615), .sv (.bool false), .sv (.int .u64 a)] ++ List.replicate 85 (.sv .undef) ++ [.sv (.sl (bytesSV s)), .sv (.int .i64 s.length), .sv (.int .i64 pre.length)] ++ List.replicate 70 (.sv .undef), lz := none, bx := [], df := [] } =
        some (.exit 3, { tm := List.replicate 9 (.sv .undef) ++ [.sv (.str s0), .sv .undef, .sv .undef, .sv (.bool false), .sv (.int .u64 (digN a rest : Nat))] ++ List.replicate 158 (.sv .undef), lz := none, bx := [], df := [] }) := by
  intro rest
  induction rest with
  | nil =>
    intro pre a k hsp hr ha hk
    obtain ⟨k, rfl⟩ : ∃ k', k = k' + 1 := ⟨k - 1, by omega⟩
    have hlt : ¬ (pre.length < s.length) := by rw [hsp]; simp
    refine rounds_out ?_ (by simp)
    simp [b125_0, List.replicate, hlt, digN_nil]
  | cons c rest ih =>
    intro pre a k hsp hr ha hk
    obtain ⟨k, rfl⟩ : ∃ k', k = k' + 1 := ⟨k - 1, by omega⟩
    have hlt : pre.length < s.length := by rw [hsp]; simp
    have hsl := congrArg List.length hsp
    simp only [List.length_append, List.length_cons] at hsl
    have hc : ∀ h : pre.length < (bytesSV s).length, (bytesSV s)[pre.length]'h = .int .u8 (c.toNat : Int) := by subst hsp; simp [bytesSV]
    have hw2 : IntKind.i64.wrap ((pre.length : Int) + 1) = ((pre ++ [c]).length : Int) := by rw [IntKind.wrap_i64]; simp; omega
    obtain ⟨d1, d2⟩ := digC_iff.1 (hr c (by simp))
    have hs8 : IntKind.u8.wrap ((c.toNat : Int) - 48) = ((dgt c : Nat) : Int) := by rw [IntKind.wrap_u8]; unfold dgt; omega
    have hd9 : dgt c ≤ 9 := by unfold dgt; omega
    have c1 : ((c.toNat : Int) == 95) = false := by rw [Bool.eq_false_iff]; simp; omega
    have c2 : (48 : Int) ≤ (c.toNat : Int) := by omega
    have c3 : (c.toNat : Int) ≤ 57 := by omega
    rw [digN_cons] at ha ⊢
    have hge := digN_ge rest (a * 10 + dgt c)
    generalize dgt c = d at *
    have h10 : ¬ (10 : Int) ≤ (d : Int) := by omega
    have hcut : ¬ (1844674407370955162 : Int) ≤ (a : Int) := by omega
    have hw8 : IntKind.u8.wrap 10 = 10 := by rw [IntKind.wrap_u8]; omega
    have hw64 : IntKind.u64.wrap 10 = 10 := by rw [IntKind.wrap_u64]; omega
    have hw3 : IntKind.u64.wrap (d : Int) = (d : Int) := by rw [IntKind.wrap_u64]; omega
    have hw4 : IntKind.u64.wrap ((a : Int) * 10) = ((a * 10 : Nat) : Int) := by rw [IntKind.wrap_u64]; omega
    have hw5 : IntKind.u64.wrap (((a * 10 : Nat) : Int) + (d : Int)) = ((a * 10 + d : Nat) : Int) := by rw [IntKind.wrap_u64]; omega
    have q1 : ¬ (((a * 10 + d : Nat) : Int) < ((a * 10 : Nat) : Int)) := by omega
    have q2 : ¬ ((18446744073709551615 : Int) < ((a * 10 + d : Nat) : Int)) := by omega
    have he := ih (pre ++ [c]) (a * 10 + d) k (by rw [hsp]; simp) (fun x hx => hr x (by simp [hx])) ha (by simp at hk; omega)
    rw [← he]
    refine rounds_step ?_
    generalize (a * 10 + d) = a2 at *
    generalize (a * 10) = a1 at *
    simp [b125_0, List.replicate, hlt, bytesSV_length, hc, hs8, c1, c2, c3, h10, hcut, hw8, hw64, hw2, hw3, hw4, hw5, q1, q2]

set_option maxRecDepth 100000 in
theorem ev125 (E : Env) (h : E.code 125 = some c125) (s : List UInt8) (hs : s.length < 1000000000000) (hne : s ≠ []) (hd : ∀ c ∈ s, digC c = true) (hv : digN 0 s < 18446744073709551616) (n : Nat) (hn : s.length < n) :
    evP E n 125 [.str s, .int .i64 10, .int .i64 0] = some (.sv (.tup [.int .u64 (digN 0 s : Nat), .nilI])) := by
  unfold evP
  simp only [h]
  have hl := loop125 E (evF E n) s s hs n s [] 0 n rfl hd hv hn
  simp only [List.replicate, List.cons_append, List.nil_append, List.length_nil, Int.ofNat_zero, Int.natCast_zero] at hl
  have hsh : IntKind.u64.wrap (IntKind.u64.wrap (2 ^ min 64 IntKind.u64.bits) - 1) = 18446744073709551615 := by decide
  have hsh0 : IntKind.u64.wrap 64 = 64 := by decide
  generalize digN 0 s = v at *
  simp [c125, List.replicate, hne, hsh, hsh0, bytesSV_length, hl]

noncomputable def F125 : List SV → Option AV
  | [.str s, .int .i64 b, .int .i64 z] => onlyIf (b = 10 ∧ z = 0 ∧ s.length < 1000000000000 ∧ s ≠ [] ∧ (∀ c ∈ s, digC c = true) ∧ digN 0 s < 18446744073709551616) (some (.sv (.tup [.int .u64 (digN 0 s : Nat), .nilI])))
  | _ => none

end Go.Ev

set_option linter.unusedSimpArgs false
set_option linter.unusedVariables false
namespace Go.Ev
open Go.Proofs

open Classical in
/-- A whole number of 64 bits, perhaps with a minus ahead: its first sign, and what comes behind. -/
noncomputable def atoiC (c : UInt8) (t : List UInt8) : Option Int := if c.toNat = 45 then (if t ≠ [] ∧ (∀ d ∈ t, digC d = true) ∧ digN 0 t ≤ 9223372036854775808 then some (-(digN 0 t : Nat)) else none)
    else if (∀ d ∈ c :: t, digC d = true) ∧ digN 0 (c :: t) < 9223372036854775808 then some (digN 0 (c :: t) : Nat) else none

/-- A whole number of 64 bits, perhaps with a minus ahead. -/
noncomputable def atoiV (s : List UInt8) : Option Int := match s with
  | [] => none
  | c :: t => atoiC c t

theorem atoiV_cons (c : UInt8) (t : List UInt8) : atoiV (c :: t) = atoiC c t := rfl

theorem atoiV_cases {s : List UInt8} {v : Int} (h : atoiV s = some v) :
    (∃ t, s = 45 :: t ∧ t ≠ [] ∧ (∀ d ∈ t, digC d = true) ∧ digN 0 t ≤ 9223372036854775808 ∧ v = -(digN 0 t : Nat)) ∨
    (s ≠ [] ∧ (∀ d ∈ s, digC d = true) ∧ digN 0 s < 9223372036854775808 ∧ v = (digN 0 s : Nat)) := by
  cases s with
  | nil => simp [atoiV] at h
  | cons c t =>
    rw [atoiV_cons] at h
    unfold atoiC at h
    split at h
    · rename_i hc
      split at h <;> simp only [Option.some.injEq, reduceCtorEq] at h
      rename_i hh
      have : c = 45 := UInt8.toNat_inj.1 (by rw [hc]; rfl)
      subst this
      exact .inl ⟨t, rfl, hh.1, hh.2.1, hh.2.2, h.symm⟩
    · split at h <;> simp only [Option.some.injEq, reduceCtorEq] at h
      rename_i hh
      exact .inr ⟨by simp, hh.1, hh.2, h.symm⟩

theorem atoiV_sdec {n : Int} (h1 : -9223372036854775808 ≤ n) (h2 : n < 9223372036854775808) : atoiV (sdecS n) = some n := by
  unfold sdecS
  by_cases hn : n < 0
  · rw [if_pos hn]
    obtain ⟨e1, e2, e3⟩ := decS_dig (-n).toNat
    rw [atoiV_cons]
    unfold atoiC
    rw [if_pos (show (45 : UInt8).toNat = 45 from rfl), if_pos ⟨e3, e2, by rw [e1]; omega⟩, e1]
    congr 1; omega
  · rw [if_neg hn]
    obtain ⟨e1, e2, e3⟩ := decS_dig n.toNat
    cases hs : decS n.toNat with
    | nil => exact absurd hs e3
    | cons c t =>
      rw [hs] at e1 e2
      rw [atoiV_cons]
      unfold atoiC
      have hc := digC_iff.1 (e2 c (by simp))
      rw [if_neg (by omega), if_pos ⟨e2, by rw [e1]; omega⟩, e1]
      congr 1; omega

theorem F125_eq {s : List UInt8} (hs : s.length < 1000000000000) (hne : s ≠ []) (hd : ∀ c ∈ s, digC c = true) (hv : digN 0 s < 18446744073709551616) : F125 [.str s, .int .i64 10, .int .i64 0] = some (.sv (.tup [.int .u64 (digN 0 s : Nat), .nilI])) := onlyIf_pos ⟨rfl, rfl, hs, hne, hd, hv⟩

set_option maxRecDepth 100000 in
theorem ev154 (E : Env) (h : E.code 154 = some c154) (h125 : E.pure 125 = some F125) (s : List UInt8) (v : Int) (hv : atoiV s = some v) (hs : s.length < 1000000000000) (n : Nat) :
    evP E n 154 [.str s, .int .i64 10, .int .i64 0] = some (.sv (.tup [.int .i64 v, .nilI])) := by
  unfold evP
  simp only [h]
  have hsh : IntKind.u64.wrap (2 ^ min 63 IntKind.u64.bits) = 9223372036854775808 := by decide
  have hw63 : IntKind.i64.wrap 63 = 63 := by decide
  have hw63u : IntKind.u64.wrap 63 = 63 := by decide
  rcases atoiV_cases hv with ⟨t, rfl, h1, h2, h3, rfl⟩ | ⟨h1, h2, h3, rfl⟩
  · have hF := F125_eq (s := t) (by simp at hs; omega) h1 h2 (by omega)
    have b1 : (0 : Int) ≤ (t.length : Int) + 1 := by omega
    have b2 : (1 : Int) ≤ ((t.length + 1 : Nat) : Int) := by omega
    have b3 : (1 : Int) ≤ (t.length : Int) + 1 := by omega
    have ht1 : List.take t.length t = t := List.take_length
    generalize digN 0 t = d at *
    have q1 : ¬ (9223372036854775808 : Int) < (d : Int) := by omega
    have w1 : IntKind.i64.wrap (0 - IntKind.i64.wrap (d : Int)) = -(d : Int) := by rw [IntKind.wrap_i64, IntKind.wrap_i64]; omega
    simp only [Int.zero_sub] at w1
    simp [c154, List.replicate, h125, hF, b1, b2, b3, ht1, hsh, hw63, hw63u, q1, w1]
  · have hF := F125_eq hs h1 h2 (by omega)
    cases s with
    | nil => exact absurd rfl h1
    | cons c t =>
      have hc := digC_iff.1 (h2 c (by simp))
      have e1 : ((c.toNat : Int) == 43) = false := by rw [Bool.eq_false_iff]; simp; omega
      have e2 : ((c.toNat : Int) == 45) = false := by rw [Bool.eq_false_iff]; simp; omega
      have b3 : (0 : Int) < (t.length : Int) + 1 := by omega
      have b4 : (0 : Int) ≤ (t.length : Int) + 1 := by omega
      generalize digN 0 (c :: t) = d at *
      have q1 : ¬ (9223372036854775808 : Int) ≤ (d : Int) := by omega
      have w1 : IntKind.i64.wrap (d : Int) = (d : Int) := by rw [IntKind.wrap_i64]; omega
      simp [c154, List.replicate, h125, hF, e1, e2, b3, b4, hsh, hw63, hw63u, q1, w1]

noncomputable def F154 : List SV → Option AV
  | [.str s, .int .i64 b, .int .i64 z] => match atoiV s with
    | some v => onlyIf (b = 10 ∧ z = 0 ∧ s.length < 1000000000000) (some (.sv (.tup [.int .i64 v, .nilI])))
    | none => none
  | _ => none

theorem F154_eq {s : List UInt8} {v : Int} (hv : atoiV s = some v) (hs : s.length < 1000000000000) : F154 [.str s, .int .i64 10, .int .i64 0] = some (.sv (.tup [.int .i64 v, .nilI])) := by
  unfold F154
  simp only [hv]
  exact onlyIf_pos ⟨trivial, trivial, hs⟩

theorem ev149s (E : Env) (h : E.code 149 = some c149) (h154 : E.pure 154 = some F154) (s : List UInt8) (v : Int) (hv : atoiV s = some v) (hs : s.length < 1000000000000) (n : Nat) (hn : s.length < n) :
    evP E n 149 [.str s] = some (.sv (.tup [.int .i64 v, .nilI])) := by
  have hF := F154_eq hv hs
  unfold evP
  simp only [h]
  by_cases hl : s.length < 19
  · rcases atoiV_cases hv with ⟨t, rfl, h1, h2, h3, rfl⟩ | ⟨h1, h2, h3, rfl⟩
    · simp only [List.length_cons] at hl hn
      have hl1 := loop149 E (evF E n) (45 :: t) t (by omega) n t [] 0 n rfl h2 (by simp) (by omega)
      have b1 : (0 : Int) ≤ (t.length : Int) + 1 := by omega
      have b2 : (1 : Int) ≤ ((t.length + 1 : Nat) : Int) := by omega
      have b3 : (1 : Int) ≤ (t.length : Int) + 1 := by omega
      have b4 : (0 : Int) < (t.length : Int) + 1 := by omega
      have b5 : (t.length : Int) + 1 < 19 := by omega
      have b6 : ¬ (t.length : Int) < 1 := by
        cases t with
        | nil => exact absurd rfl h1
        | cons _ _ => simp; omega
      have ht1 : List.take t.length t = t := List.take_length
      simp only [List.replicate, List.cons_append, List.nil_append, List.length_nil, Int.ofNat_zero, Int.natCast_zero] at hl1
      generalize digN 0 t = d at *
      have w1 : IntKind.i64.wrap (0 - (d : Int)) = -(d : Int) := by rw [IntKind.wrap_i64]; omega
      simp only [Int.zero_sub] at w1
      by_cases h10 : (t.length : Int) + 1 < 10
      · simp [c149, List.replicate, b1, b2, b3, b4, b5, b6, h10, ht1, bytesSV_length, hl1, w1]
      · simp [c149, List.replicate, b1, b2, b3, b4, b5, b6, h10, ht1, bytesSV_length, hl1, w1]
    · have := ev149 E h s hl h1 h2 n hn
      unfold evP at this
      simp only [h] at this
      exact this
  · have b5 : ¬ (s.length : Int) < 19 := by omega
    have b6 : ¬ (s.length : Int) < 10 := by omega
    have b7 : (0 : Int) < (s.length : Int) := by omega
    have b8 : 0 < s.length := by omega
    simp [c149, List.replicate, b5, b6, b7, b8, h154, hF]

noncomputable def F149s : List SV → Option AV
  | [.str s] => match atoiV s with
    | some v => onlyIf (s.length < 1000000000000) (some (.sv (.tup [.int .i64 v, .nilI])))
    | none => none
  | _ => none

theorem F149s_eq {s : List UInt8} {v : Int} (hv : atoiV s = some v) (hs : s.length < 1000000000000) : F149s [.str s] = some (.sv (.tup [.int .i64 v, .nilI])) := by
  unfold F149s
  simp only [hv]
  exact onlyIf_pos hs

theorem ev143s (E : Env) (h : E.code 143 = some c143) (h149 : E.pure 149 = some F149s) (s : List UInt8) (v : Int) (hv : atoiV s = some v) (hs : s.length < 1000000000000) (n : Nat) :
    evP E n 143 [.str s] = some (.sv (.tup [.int .i64 v, .nilI])) := by
  unfold evP
  simp only [h]
  have hF := F149s_eq hv hs
  simp [c143, List.replicate, h149, hF]

end Go.Ev
