/- The reading of swaps: meant, where blanks do not count. -/
/- The reading of swaps, whole; their tree. -/
/- The plain law of swaps: what the reference reads the program can read. -/
/- The rows of swaps, read by the program. -/
/- The door of swaps. -/
/- What is written of swaps is read again; the law's frame: normal. -/
/- Reading of counters with names: numbers, sameness of names. -/
/- Counters of transformations: what is fine, what a text says. -/
/- Counters of transformations: the reference's reading. -/
/- Counters of transformations: the tree and the text. -/
/- Counters of transformations: their text. -/
/- Counters of transformations: the program's reading, whole. -/
/- Counters of transformations: what is written is read, and the laws. -/
/- Rows of an argument: what fits. -/
/- What is written is read as its tree: the law. -/
/- The table of functions, entry by entry: numbers, texts, lists. -/
/- The table of functions, entry by entry: swaps. -/
/- Entries of the counters of transformations. -/
import Derived.Test.YtcjebcenbimcgaaGreatDoorEaq
import Derived.Test.YtcjebcenbimcgaaGreatDoorEan
set_option linter.unusedSimpArgs false
set_option linter.unusedVariables false
namespace Go.Ev
open Go.Proofs

theorem swLines_len (l : List RowD) (hl : l.length ≤ 40000) (hf : ∀ r ∈ l, r.fits2) (hn : ∀ r ∈ l, r.name.length ≤ 40000 ∧ ∀ s ∈ r.S, s.length ≤ 40000) (ho : l.all swOk = true) : (swHead ++ (l.map swLine).flatten).length < 100000000000 := by
  have key : ∀ (l : List RowD), (∀ r ∈ l, r.fits2) → (∀ r ∈ l, r.name.length ≤ 40000 ∧ ∀ s ∈ r.S, s.length ≤ 40000) → (∀ r ∈ l, swOk r = true) → (l.map swLine).flatten.length ≤ l.length * 80300 := by
    intro l
    induction l with
    | nil => simp
    | cons r l ih =>
      intro h1 h2 h3
      have i1 := ih (fun q hq => h1 q (by simp [hq])) (fun q hq => h2 q (by simp [hq])) (fun q hq => h3 q (by simp [hq]))
      have i2 : (swLine r).length ≤ 80300 := by
        obtain ⟨a, b, c, s, e1, e2, _⟩ := swOk_spec (h3 r (by simp))
        obtain ⟨g1, g2⟩ := h2 r (by simp)
        obtain ⟨_, _, g3, _, _⟩ := h1 r (by simp)
        obtain ⟨name, N, S⟩ := r
        simp only at e1 e2
        subst e1; subst e2
        have l1 := leftS_len name 39
        have l2 := leftS_len s 15
        have l3 := decS_len20 (g3 a (by simp))
        have l4 := decS_len20 (g3 b (by simp))
        obtain ⟨r1, r2⟩ := i64_range c
        have l5 := sdecS_len r1 r2
        have g1' : name.length ≤ 40000 := g1
        have g5' : s.length ≤ 40000 := g2 s (by simp)
        simp only [swLine, List.length_append, List.length_cons, List.length_nil]
        omega
      simp only [List.map_cons, List.flatten_cons, List.length_append, List.length_cons, Nat.add_mul]
      omega
  have := key l hf hn (List.all_eq_true.1 ho)
  have h2 : l.length * 80300 ≤ 40000 * 80300 := Nat.mul_le_mul_right _ hl
  simp only [List.length_append, swHead, List.length_cons, List.length_nil]
  omega

/-- A table of five fields: two words and three whole numbers. -/
def swTab : List (List UInt8) → Option (List RowD)
  | [] => some []
  | s :: l => match fieldsL s with
    | [a, b, x, y, z] => match wholesV [x, y, z] with
      | some n => match swTab l with
        | some rs => some (⟨a, n, [b]⟩ :: rs)
        | none => none
      | none => none
    | _ => none

theorem wholeV_lt {s : List UInt8} {m : Nat} (h : wholeV s = some m) : m < 18446744073709551616 := by
  unfold wholeV at h
  split at h
  · cases h
  · split at h
    · split at h <;> simp only [Option.some.injEq, reduceCtorEq] at h
      rw [← h]; unfold twoC; omega
    · exact numV_lt (by omega) _ 0 m (by omega) h

theorem wholesV_fit : ∀ {l : List (List UInt8)} {ms : List Nat}, wholesV l = some ms → ms.length = l.length ∧ ∀ m ∈ ms, m < 18446744073709551616
  | [], ms, h => by simp only [wholesV, Option.some.injEq] at h; subst h; simp
  | s :: l, ms, h => by
    simp only [wholesV] at h
    split at h <;> try (simp at h; done)
    rename_i v hv
    split at h <;> simp only [Option.some.injEq, reduceCtorEq] at h
    rename_i vs hvs
    subst h
    obtain ⟨h1, h2⟩ := wholesV_fit hvs
    exact ⟨by simp [h1], fun m hm => by
      rcases List.mem_cons.1 hm with rfl | hm
      · exact wholeV_lt hv
      · exact h2 m hm⟩

theorem swTab_fit {B : Nat} (hB : B < 1000000000) : ∀ {l : List (List UInt8)} {rs : List RowD}, swTab l = some rs → (∀ s ∈ l, s.length ≤ B) → rs.length = l.length ∧ (∀ r ∈ rs, r.fits2) ∧ ∀ r ∈ rs, r.name.length ≤ B ∧ ∀ s ∈ r.S, s.length ≤ B
  | [], rs, h, _ => by simp only [swTab, Option.some.injEq] at h; subst h; simp
  | s :: l, rs, h, hl => by
    simp only [swTab] at h
    split at h <;> try (simp at h; done)
    rename_i a b x y z hf
    split at h <;> try (simp at h; done)
    rename_i n hn
    split at h <;> simp only [Option.some.injEq, reduceCtorEq] at h
    rename_i rs' hrs
    subst h
    obtain ⟨h1, h2, h3⟩ := swTab_fit hB hrs (fun x hx => hl x (by simp [hx]))
    obtain ⟨_, k1, k2⟩ := fieldsV_shape s
    rw [hf] at k2
    have hs := hl s (by simp)
    have ha := k2 a (by simp)
    have hb := k2 b (by simp)
    obtain ⟨d1, d2⟩ := wholesV_fit hn
    simp only [List.length_cons, List.length_nil] at d1
    refine ⟨by simp [h1], fun r hr => ?_, fun r hr => ?_⟩
    · rcases List.mem_cons.1 hr with rfl | hr
      · refine ⟨by simp only; omega, by simp only; omega, d2, by simp, fun q hq => ?_⟩
        obtain rfl := List.mem_singleton.1 hq
        omega
      · exact h2 r hr
    · rcases List.mem_cons.1 hr with rfl | hr
      · refine ⟨by simp only; omega, fun q hq => ?_⟩
        obtain rfl := List.mem_singleton.1 hq
        omega
      · exact h3 r hr

end Go.Ev

set_option linter.unusedSimpArgs false
set_option linter.unusedVariables false
namespace Go.Ev
open Go.Proofs

def swText (rs : List RowD) : List UInt8 := swHead ++ (rs.map swLine).flatten

open Classical in
/-- What the reference reads of a text of swaps. -/
noncomputable def swRead (text : List UInt8) : Option (List RowD) :=
  match linesL text with
  | [] => none
  | _ :: ls => match swTab ls with
    | some rs => if text.all plainC = true ∧ rs.all swOk = true ∧ (swText rs = text ∨ (looseV (swText rs) text = true ∧ leadsV text = true)) then some rs else none
    | none => none

def swFit (l : List RowD) : Prop := l.length ≤ 40000 ∧ (∀ r ∈ l, r.fits2) ∧ ∀ r ∈ l, r.name.length ≤ 40000 ∧ ∀ s ∈ r.S, s.length ≤ 40000

theorem swFit.two {l : List RowD} (h : swFit l) : rowsFit2 l := ⟨by have := h.1; omega, h.2.1⟩

theorem ite_dec {α : Type} {p : Prop} (d1 d2 : Decidable p) (a b : α) : @ite α p d1 a b = @ite α p d2 a b := by
  by_cases h : p
  · rw [if_pos h, if_pos h]
  · rw [if_neg h, if_neg h]

noncomputable def F18 : List SV → Option AV
  | [.str s] => onlyIf (s.length ≤ 40000) (some (.sv (.tup (match swRead s with | some rs => [.sl (rowsSV rs), .bool true, .int .i64 1] | none => [.sl [], .bool false, .int .i64 2]))))
  | _ => none

/-! ### The tree -/

def swNode (r : RowD) : SV := match r.N, r.S with
  | [a, b, c], [s] => nodeV [] 8 false 0 0 0 [] [nodeV [70, 105, 108, 101, 110, 97, 109, 101] 5 false 0 0 0 r.name [], nodeV [84, 121, 112, 101] 5 false 0 0 0 s [], nodeV [83, 105, 122, 101] 2 false (i64 a) 0 0 [] [], nodeV [85, 115, 101, 100] 2 false (i64 b) 0 0 [] [], nodeV [80, 114, 105, 111, 114, 105, 116, 121] 2 false (i64 c) 0 0 [] []]
  | _, _ => .undef

def swTree (rs : List RowD) : SV := nodeV [] 6 false 0 0 0 [] (rs.map swNode)

noncomputable def F21 : List SV → Option AV
  | [.sl l] => onlyIf (l = rowsSV (l.map unrow) ∧ rowsFit2 (l.map unrow) ∧ (l.map unrow).all swOk = true) (some (.sv (.tup [swTree (l.map unrow), .int .i64 1])))
  | _ => none

theorem F21_eq (l : List RowD) (h : rowsFit2 l) (ho : l.all swOk = true) : F21 [.sl (rowsSV l)] = some (.sv (.tup [swTree l, .int .i64 1])) := by
  unfold F21
  simp only [unrows]
  exact onlyIf_pos ⟨trivial, h, ho⟩

end Go.Ev

set_option linter.unusedSimpArgs false
set_option linter.unusedVariables false
namespace Go.Ev
open Go.Proofs

inductive All2 {α β : Type} (R : α → β → Prop) : List α → List β → Prop
  | nil : All2 R [] []
  | cons {a : α} {b : β} {l : List α} {m : List β} (h : R a b) (t : All2 R l m) : All2 R (a :: l) (b :: m)

theorem fieldG_noblank : ∀ (s cur : List UInt8), (∀ c ∈ cur, blankC c = false) → ∀ f ∈ fieldG cur s, ∀ c ∈ f, blankC c = false
  | [], cur, h, f, hf => by
    simp only [fieldG] at hf
    split at hf
    · simp at hf
    · obtain rfl := List.mem_singleton.1 hf; exact h
  | c :: s, cur, h, f, hf => by
    simp only [fieldG] at hf
    split at hf
    · split at hf
      · exact fieldG_noblank s [] (by simp) f hf
      · rcases List.mem_cons.1 hf with rfl | hf
        · exact h
        · exact fieldG_noblank s [] (by simp) f hf
    · rename_i hb
      refine fieldG_noblank s (cur ++ [c]) (fun d hd => ?_) f hf
      rcases List.mem_append.1 hd with hd | hd
      · exact h d hd
      · obtain rfl := List.mem_singleton.1 hd; simpa using hb

theorem fieldG_skip : ∀ (k : Nat) (rest : List UInt8), fieldG [] (List.replicate k 32 ++ rest) = fieldG [] rest
  | 0, rest => rfl
  | k + 1, rest => by
    rw [List.replicate_succ, List.cons_append]
    simp only [fieldG]
    rw [if_pos (show blankC 32 = true by decide)]
    simp only [if_true]
    exact fieldG_skip k rest

theorem fieldG_word : ∀ (w cur rest : List UInt8), (∀ c ∈ w, blankC c = false) → fieldG cur (w ++ rest) = fieldG (cur ++ w) rest
  | [], cur, rest, _ => by simp
  | c :: w, cur, rest, h => by
    have h1 := h c (by simp)
    simp only [List.cons_append, fieldG, h1, Bool.false_eq_true, if_false]
    rw [fieldG_word w (cur ++ [c]) rest (fun x hx => h x (by simp [hx]))]
    simp

theorem fieldG_sep {w rest : List UInt8} {c : UInt8} (hw : w ≠ []) (h : ∀ c ∈ w, blankC c = false) (hc : blankC c = true) : fieldG [] (w ++ c :: rest) = w :: fieldG [] rest := by
  rw [fieldG_word w [] _ h]
  simp [fieldG, hc, hw]

theorem fieldG_last {w : List UInt8} (hw : w ≠ []) (h : ∀ c ∈ w, blankC c = false) : fieldG [] w = [w] := by
  have := fieldG_word w [] [] h
  simp only [List.append_nil, List.nil_append] at this
  rw [this]; simp [fieldG, hw]

theorem fieldG_left {w rest : List UInt8} {n : Nat} (hw : w ≠ []) (h : ∀ c ∈ w, blankC c = false) : fieldG [] (leftS w n ++ 32 :: rest) = w :: fieldG [] rest := by
  unfold leftS
  rw [List.append_assoc]
  cases hk : n - w.length with
  | zero => exact fieldG_sep hw h (by decide)
  | succ k =>
    rw [List.replicate_succ, List.cons_append, fieldG_sep hw h (by decide)]
    have := fieldG_skip (k + 1) rest
    rw [show List.replicate k 32 ++ 32 :: rest = List.replicate (k + 1) 32 ++ rest from by rw [List.replicate_succ']; simp, this]

theorem isWord_spec {s : List UInt8} (h : isWord s = true) : s ≠ [] ∧ ∀ c ∈ s, wordC c = true := by
  unfold isWord at h
  simp only [Bool.and_eq_true, Bool.not_eq_true', beq_eq_false_iff_ne, List.all_eq_true] at h
  exact ⟨h.2, h.1⟩

theorem wordC_blank {c : UInt8} (h : wordC c = true) : blankC c = false ∧ c.toNat ≠ 10 := by
  simp only [wordC, Bool.and_eq_true, decide_eq_true_eq] at h
  refine ⟨?_, by omega⟩
  simp [blankC]; omega

theorem digC_blank {c : UInt8} (h : digC c = true) : blankC c = false ∧ c.toNat ≠ 10 := by
  have := digC_iff.1 h
  refine ⟨?_, by omega⟩
  simp [blankC]; omega

theorem sdecS_sign {n : Int} : sdecS n ≠ [] ∧ ∀ c ∈ sdecS n, blankC c = false ∧ c.toNat ≠ 10 := by
  unfold sdecS
  split
  · obtain ⟨_, h2, _⟩ := decS_dig (-n).toNat
    refine ⟨by simp, fun c hc => ?_⟩
    rcases List.mem_cons.1 hc with rfl | hc
    · decide
    · exact digC_blank (h2 c hc)
  · obtain ⟨_, h2, h3⟩ := decS_dig n.toNat
    exact ⟨h3, fun c hc => digC_blank (h2 c hc)⟩

def swBody (r : RowD) : List UInt8 := match r.N, r.S with
  | [a, b, c], [s] => leftS r.name 39 ++ 32 :: (leftS s 15 ++ 32 :: (decS a ++ 9 :: (decS b ++ 9 :: sdecS (i64 c))))
  | _, _ => []

theorem leftS_mem {s : List UInt8} {n : Nat} {c : UInt8} (h : c ∈ leftS s n) : c ∈ s ∨ c = 32 := by
  unfold leftS at h
  rcases List.mem_append.1 h with h | h
  · exact .inl h
  · exact .inr (List.mem_replicate.1 h).2

theorem swBody_spec {r : RowD} (h : swOk r = true) : swLine r = swBody r ++ [10] ∧ (∀ c ∈ swBody r, c.toNat ≠ 10) ∧ ∃ a b c s, r.N = [a, b, c] ∧ r.S = [s] ∧ fieldsL (swBody r) = [r.name, s, decS a, decS b, sdecS (i64 c)] := by
  obtain ⟨a, b, c, s, e1, e2, w1, w2, _⟩ := swOk_spec h
  obtain ⟨name, N, S⟩ := r
  simp only at e1 e2
  subst e1; subst e2
  obtain ⟨n1, n2⟩ := isWord_spec w1
  obtain ⟨s1, s2⟩ := isWord_spec w2
  obtain ⟨_, a2, a3⟩ := decS_dig a
  obtain ⟨_, b2, b3⟩ := decS_dig b
  obtain ⟨c1, c2⟩ := sdecS_sign (n := i64 c)
  have hb : swBody ⟨name, [a, b, c], [s]⟩ = leftS name 39 ++ 32 :: (leftS s 15 ++ 32 :: (decS a ++ 9 :: (decS b ++ 9 :: sdecS (i64 c)))) := rfl
  refine ⟨by rw [hb]; simp [swLine], fun d hd => ?_, a, b, c, s, rfl, rfl, ?_⟩
  · rw [hb] at hd
    simp only [List.mem_append, List.mem_cons] at hd
    rcases hd with hd | rfl | hd | rfl | hd | rfl | hd | rfl | hd
    · rcases leftS_mem hd with hd | rfl
      · exact (wordC_blank (n2 d hd)).2
      · decide
    · decide
    · rcases leftS_mem hd with hd | rfl
      · exact (wordC_blank (s2 d hd)).2
      · decide
    · decide
    · exact (digC_blank (a2 d hd)).2
    · decide
    · exact (digC_blank (b2 d hd)).2
    · decide
    · exact (c2 d hd).2
  · rw [fieldsL_eq, hb, fieldG_left n1 (fun c hc => (wordC_blank (n2 c hc)).1), fieldG_left s1 (fun c hc => (wordC_blank (s2 c hc)).1), fieldG_sep a3 (fun c hc => (digC_blank (a2 c hc)).1) (by decide), fieldG_sep b3 (fun c hc => (digC_blank (b2 c hc)).1) (by decide), fieldG_last c1 (fun d hd => (c2 d hd).1)]

theorem lineG_lines : ∀ (ls : List (List UInt8)), (∀ l ∈ ls, ∀ c ∈ l, c.toNat ≠ 10) → lineG [] (ls.map fun l => l ++ [10]).flatten = ls
  | [], _ => rfl
  | l :: ls, h => by
    simp only [List.map_cons, List.flatten_cons, List.append_assoc, List.cons_append, List.nil_append]
    rw [lineG_no (cur := []) l _ (h l (by simp))]
    simp only [lineG, List.nil_append]
    rw [if_pos (by rfl), lineG_lines ls (fun x hx => h x (by simp [hx]))]

def swHeadL : List UInt8 := [70, 105, 108, 101, 110, 97, 109, 101, 9, 9, 9, 9, 84, 121, 112, 101, 9, 9, 83, 105, 122, 101, 9, 85, 115, 101, 100, 9, 80, 114, 105, 111, 114, 105, 116, 121]

theorem swText_lines {rs : List RowD} (h : ∀ r ∈ rs, swOk r = true) : linesL (swText rs) = swHeadL :: rs.map swBody := by
  rw [linesL_eq]
  have e : swText rs = ((swHeadL :: rs.map swBody).map fun l => l ++ [10]).flatten := by
    have : rs.map swLine = (rs.map swBody).map fun l => l ++ [10] := by
      rw [List.map_map]
      exact List.map_congr_left fun r hr => (swBody_spec (h r hr)).1
    simp only [swText, this, List.map_cons, List.flatten_cons]
    rfl
  rw [e]
  refine lineG_lines _ fun l hl c hc => ?_
  rcases List.mem_cons.1 hl with rfl | hl
  · exact (show ∀ c ∈ swHeadL, c.toNat ≠ 10 by decide) c hc
  · obtain ⟨r, hr, rfl⟩ := List.mem_map.1 hl
    exact (swBody_spec (h r hr)).2.1 c hc

theorem cut32 : ∀ {x x' t t' : List UInt8}, (∀ c ∈ x, blankC c = false) → (∀ c ∈ x', blankC c = false) → x ++ 32 :: t = x' ++ 32 :: t' → x = x' ∧ t = t'
  | [], [], t, t', _, _, h => by simpa using h
  | [], c :: x', t, t', _, h2, h => by
    simp only [List.nil_append, List.cons_append, List.cons.injEq] at h
    have := h2 c (by simp)
    rw [← h.1] at this
    exact absurd this (by decide)
  | c :: x, [], t, t', h1, _, h => by
    simp only [List.nil_append, List.cons_append, List.cons.injEq] at h
    have := h1 c (by simp)
    rw [h.1] at this
    exact absurd this (by decide)
  | c :: x, c' :: x', t, t', h1, h2, h => by
    simp only [List.cons_append, List.cons.injEq] at h
    obtain ⟨h3, h4⟩ := cut32 (fun d hd => h1 d (by simp [hd])) (fun d hd => h2 d (by simp [hd])) h.2
    exact ⟨by rw [h.1, h3], h4⟩

theorem norm5 {n s x y z x' y' z' : List UInt8} (hx : ∀ c ∈ x, blankC c = false) (hy : ∀ c ∈ y, blankC c = false) (hx' : ∀ c ∈ x', blankC c = false) (hy' : ∀ c ∈ y', blankC c = false) (h : joinS [32] [n, s, x, y, z] = joinS [32] [n, s, x', y', z']) : x = x' ∧ y = y' ∧ z = z' := by
  simp only [joinS, List.map_cons, List.map_nil, List.flatten_cons, List.flatten_nil, List.append_nil, List.append_assoc, List.cons_append, List.nil_append, List.append_cancel_left_eq, List.cons.injEq, true_and] at h
  obtain ⟨h1, h2⟩ := cut32 hx hx' h
  obtain ⟨h3, h4⟩ := cut32 hy hy' h2
  exact ⟨h1, h3, h4⟩

/-- What a row of swaps is in the program. -/
def swVal (r : RowD) : List SV := match r.N, r.S with
  | [a, b, c], [s] => [.str r.name, .str s, .int .i64 (i64 a), .int .i64 (i64 b), .int .i64 (i64 c)]
  | _, _ => []

/-- What is known of a line and its row. -/
def swPair (l : List UInt8) (r : RowD) : Prop := swOk r = true ∧ ∃ a b c s x y z, r.N = [a, b, c] ∧ r.S = [s] ∧ fieldsL l = [r.name, s, x, y, z] ∧ atoiV x = some (i64 a) ∧ atoiV y = some (i64 b) ∧ atoiV z = some (i64 c)

theorem i64_small {n : Nat} (h : n < 9223372036854775808) : i64 n = (n : Int) := by unfold i64; rw [IntKind.wrap_i64]; omega

theorem swTab_pairs : ∀ {ls : List (List UInt8)} {rs : List RowD}, swTab ls = some rs → (∀ r ∈ rs, swOk r = true) → (rs.map swBody).map normL = ls.map normL → All2 swPair ls rs
  | [], rs, h, _, _ => by simp only [swTab, Option.some.injEq] at h; subst h; exact .nil
  | l :: ls, rs, h, ho, hn => by
    simp only [swTab] at h
    split at h <;> try (simp at h; done)
    rename_i a b x y z hf
    split at h <;> try (simp at h; done)
    rename_i N hN
    split at h <;> simp only [Option.some.injEq, reduceCtorEq] at h
    rename_i rs' hrs
    subst h
    simp only [List.map_cons, List.cons.injEq] at hn
    have ho1 := ho ⟨a, N, [b]⟩ (by simp)
    refine .cons ?_ (swTab_pairs hrs (fun r hr => ho r (by simp [hr])) hn.2)
    obtain ⟨_, _, p, q, c, s, e1, e2, e3⟩ := swBody_spec ho1
    obtain ⟨_, _, _, _, e1', e2', _, _, lp, lq⟩ := swOk_spec ho1
    simp only at e1 e2 e1' e2'
    rw [e1] at e1'
    simp only [List.cons.injEq, and_true] at e1'
    obtain ⟨rfl, rfl, rfl⟩ := e1'
    simp only [List.cons.injEq, and_true] at e2
    subst e2
    have hn1 := hn.1
    unfold normL at hn1
    rw [e3, hf] at hn1
    simp only at hn1
    have hfb : ∀ f ∈ fieldsL l, ∀ c ∈ f, blankC c = false := by rw [fieldsL_eq]; exact fieldG_noblank l [] (by simp)
    rw [hf] at hfb
    obtain ⟨_, p2, _⟩ := decS_dig p
    obtain ⟨_, q2, _⟩ := decS_dig q
    obtain ⟨g1, g2, g3⟩ := norm5 (fun c hc => (digC_blank (p2 c hc)).1) (fun c hc => (digC_blank (q2 c hc)).1) (hfb x (by simp)) (hfb y (by simp)) hn1
    subst g1; subst g2; subst g3
    obtain ⟨r1, r2⟩ := i64_range c
    have hdec : ∀ n : Nat, n < 4611686018427387904 → atoiV (decS n) = some (i64 n) := by
      intro n hn
      have := atoiV_sdec (n := (n : Int)) (by omega) (by omega)
      unfold sdecS at this
      rw [if_neg (by omega)] at this
      rw [i64_small (by omega)]
      simpa using this
    exact ⟨ho1, p, q, c, b, _, _, _, e1, rfl, hf, hdec p lp, hdec q lq, atoiV_sdec r1 r2⟩

theorem swRead_spec {s : List UInt8} {rs : List RowD} (h : swRead s = some rs) : ∃ hd ls, linesL s = hd :: ls ∧ swTab ls = some rs ∧ (∀ r ∈ rs, swOk r = true) ∧ (∀ c ∈ s, plainC c = true) ∧ All2 swPair ls rs := by
  unfold swRead at h
  split at h
  · cases h
  · rename_i hd ls hl
    split at h
    · rename_i rs' htab
      split at h <;> simp only [Option.some.injEq, reduceCtorEq] at h
      rename_i hc
      subst h
      have ho := List.all_eq_true.1 hc.2.1
      refine ⟨hd, ls, hl, htab, ho, List.all_eq_true.1 hc.1, swTab_pairs htab ho ?_⟩
      have hloose : (linesL (swText rs')).map normL = (linesL s).map normL := by
        rcases hc.2.2 with e | ⟨e, _⟩
        · rw [e]
        · unfold looseV at e
          split at e
          · assumption
          · cases e
      rw [swText_lines ho, hl] at hloose
      simp only [List.map_cons, List.cons.injEq] at hloose
      exact hloose.2
    · cases h

end Go.Ev

set_option linter.unusedSimpArgs false
set_option linter.unusedVariables false
namespace Go.Ev
open Go.Proofs

noncomputable def F143s : List SV → Option AV
  | [.str s] => match atoiV s with
    | some v => onlyIf (s.length < 1000000000000) (some (.sv (.tup [.int .i64 v, .nilI])))
    | none => none
  | _ => none

theorem F143s_eq {s : List UInt8} {v : Int} (hv : atoiV s = some v) (hs : s.length < 1000000000000) : F143s [.str s] = some (.sv (.tup [.int .i64 v, .nilI])) := by
  unfold F143s
  simp only [hv]
  exact onlyIf_pos hs

noncomputable def F129 : List SV → Option AV
  | [.str s] => match wordsG [] s with
    | [w, t, x, y, z] => match atoiV x, atoiV y, atoiV z with
      | some a, some b, some c => onlyIf (s.length < 100000000000 ∧ (∀ c ∈ s, c.toNat < 128) ∧ x.length < 1000000000000 ∧ y.length < 1000000000000 ∧ z.length < 1000000000000) (some (.sv (.tup [.ref [.str w, .str t, .int .i64 a, .int .i64 b, .int .i64 c], .nilI])))
      | _, _, _ => none
    | _ => none
  | _ => none

theorem plain_lt {c : UInt8} (h : plainC c = true) : c.toNat < 128 ∧ c.toNat ≠ 13 := by
  simp only [plainC, Bool.and_eq_true, Bool.or_eq_true, decide_eq_true_eq, beq_iff_eq] at h
  omega

theorem F129_eq {l : List UInt8} {r : RowD} (h : swPair l r) (hp : ∀ c ∈ l, plainC c = true ∧ c.toNat ≠ 10) (hl : l.length < 100000000000) : F129 [.str l] = some (.sv (.tup [.ref (swVal r), .nilI])) := by
  obtain ⟨_, a, b, c, s, x, y, z, e1, e2, e3, e4, e5, e6⟩ := h
  obtain ⟨_, _, k2⟩ := fieldsV_shape l
  rw [e3] at k2
  unfold F129
  simp only [words_fields hp, e3, e4, e5, e6]
  rw [onlyIf_pos ⟨hl, fun c hc => (plain_lt (hp c hc).1).1, by have := k2 x (by simp); omega, by have := k2 y (by simp); omega, by have := k2 z (by simp); omega⟩]
  obtain ⟨name, N, S⟩ := r
  simp only at e1 e2
  subst e1; subst e2
  rfl

theorem lineG_plain {s : List UInt8} : ∀ l ∈ lineG [] s, (∀ c ∈ l, c.toNat ≠ 10) ∧ (∀ c ∈ l, c ∈ s) ∧ l.length ≤ s.length := by
  have key : ∀ (n : Nat) (s : List UInt8), s.length ≤ n → ∀ l ∈ lineG [] s, (∀ c ∈ l, c.toNat ≠ 10) ∧ (∀ c ∈ l, c ∈ s) ∧ l.length ≤ s.length := by
    intro n
    induction n with
    | zero =>
      intro s hs l hl
      obtain rfl : s = [] := List.eq_nil_of_length_eq_zero (by omega)
      simp [lineG] at hl
    | succ n ih =>
      intro s hs l hl
      rcases line_cases s with rfl | ⟨line, rest, h1, h2, h3⟩
      · simp [lineG] at hl
      · rw [h2] at hl
        rcases h3 with h3 | ⟨h3, h4, _⟩
        · rcases List.mem_cons.1 hl with rfl | hl
          · exact ⟨h1, fun c hc => by rw [h3]; simp [hc], by rw [h3]; simp⟩
          · have hrl : rest.length ≤ n := by rw [h3] at hs; simp at hs; omega
            obtain ⟨g1, g2, g3⟩ := ih rest hrl l hl
            exact ⟨g1, fun c hc => by rw [h3]; simp [g2 c hc], by rw [h3]; simp; omega⟩
        · subst h4
          simp only [lineG, if_true, List.mem_cons, List.not_mem_nil, or_false] at hl
          subst hl
          exact ⟨h1, fun c hc => by rw [h3]; exact hc, by rw [h3]; exact Nat.le_refl _⟩
  exact key s.length s (Nat.le_refl _)

/-- A scanner's step, whatever the text. -/
theorem scanG (E : Env) (h : E.code 117 = some c88) (s t line rest : List UInt8) (h1 : ∀ c ∈ line, c.toNat ≠ 10) (h3 : (s = line ++ 10 :: rest) ∨ (s = line ∧ rest = [] ∧ line ≠ [])) (hl : s.length < 65536) (hr : ∀ c ∈ s, c.toNat ≠ 13) (n : Nat) (hn : s.length < n) :
    evF E (n + 1) 117 [.ptr 0 0] [scanBox s t] = some (.sv (.bool true), [scanBox rest line]) := by
  rcases h3 with h3 | ⟨h3, h4, h5⟩
  · subst h3
    simp only [List.length_append, List.length_cons] at hl hn
    exact scan88 E h 0 [scanBox (line ++ 10 :: rest) t] line rest t rfl (by omega) (by omega) (fun c hc => ⟨h1 c hc, hr c (by simp [hc])⟩) n (by omega)
  · subst h4
    rw [h3]
    rw [h3] at hl hr hn
    exact scan88n E h 0 [scanBox line t] line t rfl h5 hl (fun c hc => ⟨h1 c hc, hr c hc⟩) n hn

def swRows (rs : List RowD) : List SV := rs.map fun r => .ref (swVal r)

theorem swRead_len {s : List UInt8} {rs : List RowD} (h : swRead s = some rs) (hs : s.length ≤ 40000) : rs.length ≤ 40000 ∧ swFit rs := by
  obtain ⟨hd, ls, h1, h2, h3, h4, h5⟩ := swRead_spec h
  obtain ⟨_, k1, k2⟩ := linesV_shape s
  rw [h1] at k1 k2
  obtain ⟨q1, q2, q3⟩ := swTab_fit (B := 40000) (by omega) h2 (fun x hx => by have := k2 x (by simp [hx]); omega)
  simp only [List.length_cons] at k1
  exact ⟨by omega, by omega, q2, q3⟩

noncomputable def F114 : List SV → Option AV
  | [.sl bs] => match svBytes bs with
    | some s => match swRead s with
      | some rs => onlyIf (s.length ≤ 40000 ∧ bs = bytesSV s) (some (.sv (.tup [.sl (swRows rs), .nilI])))
      | none => none
    | none => none
  | _ => none

theorem F114_eq {s : List UInt8} {rs : List RowD} (hr : swRead s = some rs) (hs : s.length ≤ 40000) : F114 [.sl (bytesSV s)] = some (.sv (.tup [.sl (swRows rs), .nilI])) := by
  unfold F114
  simp only [svBytes_bytes, hr]
  exact onlyIf_pos ⟨hs, trivial⟩

noncomputable def F60 : List SV → Option AV
  | [.agg [.str s]] => match swRead s with
    | some rs => onlyIf (s.length ≤ 40000) (some (.sv (.tup [.sl (swRows rs), .nilI])))
    | none => none
  | _ => none

end Go.Ev

set_option linter.unusedSimpArgs false
set_option linter.unusedVariables false
namespace Go.Ev
open Go.Proofs

def swOne (n w t : List UInt8) (a b c : Int) : SV := nodeV n 8 false 0 0 0 [] [nodeV [70, 105, 108, 101, 110, 97, 109, 101] 5 false 0 0 0 w [], nodeV [84, 121, 112, 101] 5 false 0 0 0 t [], nodeV [83, 105, 122, 101] 2 false a 0 0 [] [], nodeV [85, 115, 101, 100] 2 false b 0 0 [] [], nodeV [80, 114, 105, 111, 114, 105, 116, 121] 2 false c 0 0 [] []]

def F65 : List SV → Option AV
  | [.str n, .agg [.str w, .str t, .int .i64 a, .int .i64 b, .int .i64 c]] => some (.sv (swOne n w t a b c))
  | _ => none

def F63 : List SV → Option AV
  | [.ref [.str w, .str t, .int .i64 a, .int .i64 b, .int .i64 c]] => some (.sv (swOne [] w t a b c))
  | _ => none

theorem swOk_val {r : RowD} (h : swOk r = true) : F63 [.ref (swVal r)] = some (.sv (swNode r)) ∧ ∃ k1 k2, swNode r = nodeV [] 8 false 0 0 0 [] (k1 :: k2) := by
  obtain ⟨a, b, c, s, e1, e2, _⟩ := swOk_spec h
  obtain ⟨name, N, S⟩ := r
  simp only at e1 e2
  subst e1; subst e2
  exact ⟨rfl, _, _, rfl⟩

def unsw : SV → RowD
  | .ref [.str w, .str t, .int _ a, .int _ b, .int _ c] => ⟨w, [twoN a, twoN b, twoN c], [t]⟩
  | _ => ⟨[], [], []⟩
where twoN (n : Int) : Nat := (IntKind.u64.wrap n).toNat

theorem unsws : ∀ {rs : List RowD}, (∀ r ∈ rs, swOk r = true ∧ r.fits2) → (swRows rs).map unsw = rs
  | [], _ => rfl
  | r :: rs, h => by
    have ih := unsws (rs := rs) (fun q hq => h q (by simp [hq]))
    simp only [swRows, List.map_cons] at ih ⊢
    rw [ih]
    obtain ⟨h1, h2⟩ := h r (by simp)
    obtain ⟨a, b, c, s, e1, e2, _⟩ := swOk_spec h1
    obtain ⟨name, N, S⟩ := r
    simp only at e1 e2
    subst e1; subst e2
    have hN : ∀ n ∈ [a, b, c], n < 18446744073709551616 := h2.2.2.1
    have tw : ∀ n : Nat, n < 18446744073709551616 → unsw.twoN (i64 n) = n := by
      intro n hn
      unfold unsw.twoN i64
      rw [IntKind.wrap_u64, IntKind.wrap_i64]; omega
    simp only [swVal, unsw, tw a (hN a (by simp)), tw b (hN b (by simp)), tw c (hN c (by simp))]

noncomputable def F61 : List SV → Option AV
  | [.sl l] => onlyIf (l = swRows (l.map unsw) ∧ (∀ r ∈ l.map unsw, swOk r = true) ∧ l.length < 1000000000) (some (.sv (swTree (l.map unsw))))
  | _ => none

theorem F61_eq {rs : List RowD} (h : ∀ r ∈ rs, swOk r = true ∧ r.fits2) (hl : rs.length < 1000000000) : F61 [.sl (swRows rs)] = some (.sv (swTree rs)) := by
  unfold F61
  simp only [unsws h]
  exact onlyIf_pos ⟨trivial, fun r hr => (h r hr).1, by simpa [swRows] using hl⟩

theorem F60_eq {s : List UInt8} {rs : List RowD} (hr : swRead s = some rs) (hs : s.length ≤ 40000) : F60 [.agg [.str s]] = some (.sv (.tup [.sl (swRows rs), .nilI])) := by
  unfold F60
  simp only [hr]
  exact onlyIf_pos hs

theorem swRead_rows {s : List UInt8} {rs : List RowD} (hr : swRead s = some rs) (hs : s.length ≤ 40000) : ∀ r ∈ rs, swOk r = true ∧ r.fits2 := by
  obtain ⟨_, _, _, _, q3, _, _⟩ := swRead_spec hr
  obtain ⟨_, _, l2, _⟩ := swRead_len hr hs
  exact fun r h => ⟨q3 r h, l2 r h⟩

noncomputable def F20 : List SV → Option AV
  | [.str s] => match swRead s with
    | some rs => onlyIf (s.length ≤ 40000) (some (.sv (.tup [swTree rs, .int .i64 0])))
    | none => none
  | _ => none

theorem F20_eq {s : List UInt8} {rs : List RowD} (hr : swRead s = some rs) (hs : s.length ≤ 40000) : F20 [.str s] = some (.sv (.tup [swTree rs, .int .i64 0])) := by
  unfold F20
  simp only [hr]
  exact onlyIf_pos hs

end Go.Ev

set_option linter.unusedSimpArgs false
set_option linter.unusedVariables false
namespace Go.Ev
open Go.Proofs

theorem digitV_dig {c : UInt8} (h : digC c = true) : digitV c.toNat = dgt c ∧ dgt c ≤ 9 := by
  have := digC_iff.1 h
  unfold digitV dgt
  rw [if_pos this]; omega

theorem numV_dig : ∀ (s : List UInt8) (a : Nat), (∀ c ∈ s, digC c = true) → digN a s < 18446744073709551616 → numV 10 a s = some (digN a s)
  | [], a, _, _ => by rw [digN_nil]; rfl
  | c :: s, a, h, hb => by
    obtain ⟨h1, h2⟩ := digitV_dig (h c (by simp))
    rw [digN_cons] at hb ⊢
    have hge := digN_ge s (a * 10 + dgt c)
    simp only [numV, h1]
    generalize dgt c = d at *
    rw [if_neg (by omega)]
    exact numV_dig s (a * 10 + d) (fun x hx => h x (by simp [hx])) hb

theorem numV_dec {n : Nat} (h : n < 18446744073709551616) : numV 10 0 (decS n) = some n := by
  obtain ⟨e1, e2, _⟩ := decS_dig n
  have := numV_dig (decS n) 0 e2 (by rw [e1]; exact h)
  rw [this, e1]

theorem wholeV_dec {n : Nat} (h : n < 18446744073709551616) : wholeV (decS n) = some n := by
  obtain ⟨e1, e2, e3⟩ := decS_dig n
  have hn := numV_dec h
  cases hs : decS n with
  | nil => exact absurd hs e3
  | cons c t =>
    rw [hs] at e2 hn
    have := digC_iff.1 (e2 c (by simp))
    unfold wholeV
    simp only
    rw [if_neg (by omega)]
    exact hn

theorem wholeV_sdec {n : Nat} (h : n < 18446744073709551616) : wholeV (sdecS (i64 n)) = some n := by
  unfold sdecS
  by_cases hn : i64 n < 0
  · rw [if_pos hn]
    have hi : i64 n = (n : Int) - 18446744073709551616 := by
      unfold i64 at hn ⊢
      rw [IntKind.wrap_i64] at hn ⊢; omega
    have hle : (-(i64 n)).toNat ≤ 9223372036854775808 := by have := i64_range n; omega
    have hm := numV_dec (n := (-(i64 n)).toNat) (by omega)
    obtain ⟨_, _, e3⟩ := decS_dig (-(i64 n)).toNat
    have hneg : negV (decS (-(i64 n)).toNat) = some (-(i64 n)).toNat := by
      unfold negV
      rw [hm]
      simp only
      rw [if_neg (fun hh => by rcases hh with hh | hh; omega; exact e3 hh)]
    unfold wholeV
    simp only
    rw [if_pos (show (45 : UInt8).toNat = 45 from rfl), hneg]
    simp only [Option.some.injEq]
    unfold twoC
    omega
  · rw [if_neg hn]
    have hi : i64 n = (n : Int) := by
      unfold i64 at hn ⊢
      rw [IntKind.wrap_i64] at hn ⊢; omega
    rw [hi, Int.toNat_natCast]
    exact wholeV_dec h

theorem swTab_bodies : ∀ {rs : List RowD}, (∀ r ∈ rs, swOk r = true ∧ r.fits2) → swTab (rs.map swBody) = some rs
  | [], _ => rfl
  | r :: rs, h => by
    obtain ⟨h1, h2⟩ := h r (by simp)
    obtain ⟨_, _, a, b, c, s, e1, e2, e3⟩ := swBody_spec h1
    have hN := h2.2.2.1
    simp only [List.map_cons, swTab, e3]
    rw [e1] at hN
    have hw : wholesV [decS a, decS b, sdecS (i64 c)] = some [a, b, c] := by
      simp only [wholesV, wholeV_dec (hN a (by simp)), wholeV_dec (hN b (by simp)), wholeV_sdec (hN c (by simp))]
    rw [hw, swTab_bodies (fun q hq => h q (by simp [hq]))]
    obtain ⟨name, N, S⟩ := r
    simp only at e1 e2
    subst e1; subst e2
    rfl

theorem wordC_plain {c : UInt8} (h : wordC c = true) : plainC c = true := by
  simp only [wordC, Bool.and_eq_true, decide_eq_true_eq] at h
  simp [plainC]; omega

theorem digC_plain {c : UInt8} (h : digC c = true) : plainC c = true := by
  have := digC_iff.1 h
  simp [plainC]; omega

theorem sdecS_plain {n : Int} : ∀ c ∈ sdecS n, plainC c = true := by
  unfold sdecS
  split
  · obtain ⟨_, h2, _⟩ := decS_dig (-n).toNat
    intro c hc
    rcases List.mem_cons.1 hc with rfl | hc
    · decide
    · exact digC_plain (h2 c hc)
  · obtain ⟨_, h2, _⟩ := decS_dig n.toNat
    exact fun c hc => digC_plain (h2 c hc)

theorem swText_plain {rs : List RowD} (h : ∀ r ∈ rs, swOk r = true) : ∀ c ∈ swText rs, plainC c = true := by
  intro c hc
  unfold swText at hc
  rcases List.mem_append.1 hc with hc | hc
  · exact (show ∀ c ∈ swHead, plainC c = true by decide) c hc
  · obtain ⟨l, hl, hc⟩ := List.mem_flatten.1 hc
    obtain ⟨r, hr, rfl⟩ := List.mem_map.1 hl
    obtain ⟨a, b, k, s, e1, e2, w1, w2, _⟩ := swOk_spec (h r hr)
    obtain ⟨n1, n2⟩ := isWord_spec w1
    obtain ⟨s1, s2⟩ := isWord_spec w2
    obtain ⟨_, a2, _⟩ := decS_dig a
    obtain ⟨_, b2, _⟩ := decS_dig b
    obtain ⟨name, N, S⟩ := r
    simp only at e1 e2
    subst e1; subst e2
    simp only [swLine, List.mem_append, List.mem_cons, List.not_mem_nil, or_false] at hc
    rcases hc with (((((((((hc | rfl) | hc) | rfl) | hc) | rfl) | hc) | rfl) | hc) | rfl)
    · rcases leftS_mem hc with hc | rfl
      · exact wordC_plain (n2 c hc)
      · decide
    · decide
    · rcases leftS_mem hc with hc | rfl
      · exact wordC_plain (s2 c hc)
      · decide
    · decide
    · exact digC_plain (a2 c hc)
    · decide
    · exact digC_plain (b2 c hc)
    · decide
    · exact sdecS_plain c hc
    · decide

/-- What is written of rows is read as these rows. -/
theorem swRead_text {rs : List RowD} (h : ∀ r ∈ rs, swOk r = true ∧ r.fits2) : swRead (swText rs) = some rs := by
  have ho : ∀ r ∈ rs, swOk r = true := fun r hr => (h r hr).1
  unfold swRead
  rw [swText_lines ho]
  simp only [swTab_bodies h]
  rw [if_pos ⟨List.all_eq_true.2 (swText_plain ho), List.all_eq_true.2 ho, .inl trivial⟩]

/-! ### normal -/

theorem ev13_long (E : Env) (h : E.code 19 = some c13) (w p d : Nat) (s : List UInt8) (hs : 40000 < s.length) (n : Nat) : evP E n 19 [.str s, .fn w [] [], .fn p [] [], .fn d [] []] = some (.sv (.bool true)) := by
  unfold evP
  simp only [h]
  have e : (40000 : Int) < (s.length : Int) := by omega
  simp [c13, List.replicate, e]

theorem ev13_open (E : Env) (h : E.code 19 = some c13) (w p d : Nat) (Fw : List SV → Option AV) (hw : E.pure w = some Fw) (h25 : E.pure 38 = some F25) (s : List UInt8) (hs : s.length ≤ 40000)
    (hF : Fw [.str s] = some (.sv (.tup [.sl [], .bool false, .int .i64 2]))) (n : Nat) : evP E n 19 [.str s, .fn w [] [], .fn p [] [], .fn d [] []] = some (.sv (.bool true)) := by
  unfold evP
  simp only [h]
  have e : ¬ (40000 : Int) < (s.length : Int) := by omega
  simp [c13, List.replicate, e, hw, hF, h25, F25]

set_option maxHeartbeats 1000000 in
theorem ev13_yes (E : Env) (h : E.code 19 = some c13) (w p d : Nat) (Fw Fp Fd : List SV → Option AV) (hw : E.pure w = some Fw) (hp : E.pure p = some Fp) (hd : E.pure d = some Fd) (h25 : E.pure 38 = some F25) (h26 : E.pure 39 = some F26) (h27 : E.pure 40 = some F27) (s o : List UInt8) (hs : s.length ≤ 40000) (rows : List SV) (T : SV) (hT : IsNode T)
    (hFw : Fw [.str s] = some (.sv (.tup [.sl rows, .bool true, .int .i64 1]))) (hFp : Fp [.sl rows] = some (.sv (.tup [.str o, .int .i64 1]))) (hFd : Fd [.str s] = some (.sv (.tup [T, .int .i64 0]))) (hFo : o.length ≤ 40000 → Fd [.str o] = some (.sv (.tup [T, .int .i64 0]))) (n : Nat) :
    evP E n 19 [.str s, .fn w [] [], .fn p [] [], .fn d [] []] = some (.sv (.bool true)) := by
  unfold evP
  simp only [h]
  have e : ¬ (40000 : Int) < (s.length : Int) := by omega
  have hF27 : F27 [T] = some (.sv T) := onlyIf_pos hT
  have hF26 : F26 [T, T] = some (.sv (.bool true)) := onlyIf_pos ⟨hT, rfl⟩
  cases hT with
  | mk name kind b i u f s0 kids hl hk =>
    simp only [nodeV] at hFd hFo hF27 hF26
    by_cases ho : o.length ≤ 40000
    · have eo : ¬ (40000 : Int) < (o.length : Int) := by omega
      have hFo := hFo ho
      simp [c13, List.replicate, e, hw, hFw, hp, hFp, eo, hd, hFd, hFo, h27, hF27, h26, hF26, h25, F25]
    · have eo : (40000 : Int) < (o.length : Int) := by omega
      simp [c13, List.replicate, e, hw, hFw, hp, hFp, eo, h25, F25]

theorem swTree_node {rs : List RowD} (h : ∀ r ∈ rs, swOk r = true) (hl : rs.length < 1000000000) : IsNode (swTree rs) := by
  refine .mk _ _ _ _ _ _ _ _ (by simpa using hl) fun k hk => ?_
  obtain ⟨r, hr, rfl⟩ := List.mem_map.1 hk
  obtain ⟨a, b, c, s, e1, e2, _⟩ := swOk_spec (h r hr)
  obtain ⟨name, N, S⟩ := r
  simp only at e1 e2
  subst e1; subst e2
  refine .mk _ _ _ _ _ _ _ _ (by simp) fun k hk => ?_
  simp only [List.mem_cons, List.not_mem_nil, or_false] at hk
  rcases hk with rfl | rfl | rfl | rfl | rfl <;> exact .mk _ _ _ _ _ _ _ _ (by simp) (by simp)

theorem F18_eq (s : List UInt8) (hs : s.length ≤ 40000) : F18 [.str s] = some (.sv (.tup (match swRead s with | some rs => [.sl (rowsSV rs), .bool true, .int .i64 1] | none => [.sl [], .bool false, .int .i64 2]))) := onlyIf_pos hs

end Go.Ev

set_option linter.unusedSimpArgs false
set_option linter.unusedVariables false
namespace Go.Ev
open Go.Proofs

/-- Rows as an argument may hold them. -/
def RowD.fits3 (r : RowD) : Prop := r.name.length < 2147483648 ∧ r.N.length < 100000000000 ∧ (∀ n ∈ r.N, n < 18446744073709551616) ∧ r.S.length < 2147483648 ∧ ∀ s ∈ r.S, s.length < 2147483648

def rowsFit3 (l : List RowD) : Prop := l.length < 100000000 ∧ ∀ r ∈ l, r.fits3

def distP (pre : List (List UInt8)) : List (List UInt8) → Bool
  | [] => true
  | c :: rest => pre.all (fun p => !(c == p)) && distP (pre ++ [c]) rest

noncomputable def F1084 : List SV → Option AV
  | [.sl l] => onlyIf (l = rowsSV (l.map unrow) ∧ l.length < 1000000000) (some (.sv (.bool (distP [] ((l.map unrow).map RowD.name)))))
  | _ => none

theorem F1084_eq (l : List RowD) (h : l.length < 1000000000) : F1084 [.sl (rowsSV l)] = some (.sv (.bool (distP [] (l.map RowD.name)))) := by
  unfold F1084
  simp only [unrows]
  exact onlyIf_pos ⟨trivial, by simpa [rowsSV] using h⟩

/-! ### So many numbers of so many bits -/

def cnt31 (r : RowD) : Bool := r.N.all (fun n => decide (n < 2147483648)) && decide (r.N.length = 1) && decide (r.S.length = 0)

end Go.Ev

set_option linter.unusedSimpArgs false
set_option linter.unusedVariables false
namespace Go.Ev
open Go.Proofs

def xfNames : List (List UInt8) := [[88, 102, 114, 109, 73, 110, 69, 114, 114, 111, 114], [88, 102, 114, 109, 73, 110, 66, 117, 102, 102, 101, 114, 69, 114, 114, 111, 114], [88, 102, 114, 109, 73, 110, 72, 100, 114, 69, 114, 114, 111, 114], [88, 102, 114, 109, 73, 110, 78, 111, 83, 116, 97, 116, 101, 115], [88, 102, 114, 109, 73, 110, 83, 116, 97, 116, 101, 80, 114, 111, 116, 111, 69, 114, 114, 111, 114], [88, 102, 114, 109, 73, 110, 83, 116, 97, 116, 101, 77, 111, 100, 101, 69, 114, 114, 111, 114], [88, 102, 114, 109, 73, 110, 83, 116, 97, 116, 101, 83, 101, 113, 69, 114, 114, 111, 114], [88, 102, 114, 109, 73, 110, 83, 116, 97, 116, 101, 69, 120, 112, 105, 114, 101, 100], [88, 102, 114, 109, 73, 110, 83, 116, 97, 116, 101, 77, 105, 115, 109, 97, 116, 99, 104], [88, 102, 114, 109, 73, 110, 83, 116, 97, 116, 101, 73, 110, 118, 97, 108, 105, 100], [88, 102, 114, 109, 73, 110, 84, 109, 112, 108, 77, 105, 115, 109, 97, 116, 99, 104], [88, 102, 114, 109, 73, 110, 78, 111, 80, 111, 108, 115], [88, 102, 114, 109, 73, 110, 80, 111, 108, 66, 108, 111, 99, 107], [88, 102, 114, 109, 73, 110, 80, 111, 108, 69, 114, 114, 111, 114], [88, 102, 114, 109, 79, 117, 116, 69, 114, 114, 111, 114], [88, 102, 114, 109, 79, 117, 116, 66, 117, 110, 100, 108, 101, 71, 101, 110, 69, 114, 114, 111, 114], [88, 102, 114, 109, 79, 117, 116, 66, 117, 110, 100, 108, 101, 67, 104, 101, 99, 107, 69, 114, 114, 111, 114], [88, 102, 114, 109, 79, 117, 116, 78, 111, 83, 116, 97, 116, 101, 115], [88, 102, 114, 109, 79, 117, 116, 83, 116, 97, 116, 101, 80, 114, 111, 116, 111, 69, 114, 114, 111, 114], [88, 102, 114, 109, 79, 117, 116, 83, 116, 97, 116, 101, 77, 111, 100, 101, 69, 114, 114, 111, 114], [88, 102, 114, 109, 79, 117, 116, 83, 116, 97, 116, 101, 83, 101, 113, 69, 114, 114, 111, 114], [88, 102, 114, 109, 79, 117, 116, 83, 116, 97, 116, 101, 69, 120, 112, 105, 114, 101, 100], [88, 102, 114, 109, 79, 117, 116, 80, 111, 108, 66, 108, 111, 99, 107], [88, 102, 114, 109, 79, 117, 116, 80, 111, 108, 68, 101, 97, 100], [88, 102, 114, 109, 79, 117, 116, 80, 111, 108, 69, 114, 114, 111, 114], [88, 102, 114, 109, 70, 119, 100, 72, 100, 114, 69, 114, 114, 111, 114], [88, 102, 114, 109, 79, 117, 116, 83, 116, 97, 116, 101, 73, 110, 118, 97, 108, 105, 100], [88, 102, 114, 109, 65, 99, 113, 117, 105, 114, 101, 69, 114, 114, 111, 114]]

def F1041 : List SV → Option AV
  | [] => some (.sv (.sl (strs xfNames)))
  | _ => none

noncomputable def F1083 : List SV → Option AV
  | [.agg [.str s, .sl ns, .sl ss], .int .i64 a, .int .i64 b, .int .i64 c] => onlyIf (a = 1 ∧ b = 31 ∧ c = 0 ∧ SV.agg [.str s, .sl ns, .sl ss] = (unrow (.agg [.str s, .sl ns, .sl ss])).sv ∧ (unrow (.agg [.str s, .sl ns, .sl ss])).fits3) (some (.sv (.bool (cnt31 (unrow (.agg [.str s, .sl ns, .sl ss]))))))
  | _ => none

theorem F1083_eq (r : RowD) (h : r.fits3) : F1083 [.agg [.str r.name, .sl (u64s r.N), .sl (strs r.S)], .int .i64 1, .int .i64 31, .int .i64 0] = some (.sv (.bool (cnt31 r))) := by
  have hu : unrow (.agg [.str r.name, .sl (u64s r.N), .sl (strs r.S)]) = r := unrow_sv r
  unfold F1083
  simp only [hu]
  exact onlyIf_pos ⟨trivial, trivial, trivial, rfl, h⟩

def xfOk (r : RowD) : Bool := xfNames.any (fun s => s == r.name) && cnt31 r
def xfFine (l : List RowD) : Bool := l.all xfOk && distP [] (l.map RowD.name)

noncomputable def F1039 : List SV → Option AV
  | [.sl l] => onlyIf (l = rowsSV (l.map unrow) ∧ rowsFit3 (l.map unrow)) (some (.sv (.bool (xfFine (l.map unrow)))))
  | _ => none

theorem F1039_eq (l : List RowD) (h : rowsFit3 l) : F1039 [.sl (rowsSV l)] = some (.sv (.bool (xfFine l))) := by
  unfold F1039
  simp only [unrows]
  exact onlyIf_pos ⟨trivial, h⟩

theorem ev1050 (E : Env) (h : E.code 83 = some c1050) (b : Bool) (n : Nat) : evP E n 83 [.bool b] = some (.sv (.int .i64 (if b then 1 else 2))) := by
  unfold evP
  simp only [h]
  cases b <;> simp [c1050, List.replicate]

def F1050 : List SV → Option AV
  | [.bool b] => some (.sv (.int .i64 (if b then 1 else 2)))
  | _ => none

end Go.Ev

set_option linter.unusedSimpArgs false
set_option linter.unusedVariables false
namespace Go.Ev
open Go.Proofs

/-- Names with numbers. -/
def namedV : List (List UInt8) → Option (List RowD)
  | [] => some []
  | s :: l => match fieldsL s with
    | [a, b] => match decV b with
      | some n => match namedV l with
        | some rs => some (⟨a, [n], []⟩ :: rs)
        | none => none
      | none => none
    | _ => none

noncomputable def F1049 : List SV → Option AV
  | [.str s] => onlyIf (s.length ≤ 40000) (some (.sv (.tup (match namedV (linesL s) with | some rs => [.sl (rowsSV rs), .bool (s.all plainC)] | none => [.sl [], .bool false]))))
  | _ => none

theorem namedV_fit {B : Nat} : ∀ {l : List (List UInt8)} {rs : List RowD}, namedV l = some rs → (∀ s ∈ l, s.length ≤ B) → rs.length = l.length ∧ ∀ r ∈ rs, r.name.length ≤ B ∧ (∃ n, r.N = [n] ∧ n < 18446744073709551616) ∧ r.S = []
  | [], rs, h, _ => by simp only [namedV, Option.some.injEq] at h; subst h; simp
  | s :: l, rs, h, hB => by
    simp only [namedV] at h
    obtain ⟨_, _, hsh⟩ := fieldsV_shape s
    rcases hfl : fieldsL s with _ | ⟨a, _ | ⟨b, _ | ⟨d, t⟩⟩⟩ <;> rw [hfl] at h hsh <;> simp only [reduceCtorEq] at h
    cases hd : decV b with
    | none => rw [hd] at h; simp only [reduceCtorEq] at h
    | some v =>
      rw [hd] at h
      cases hn : namedV l with
      | none => rw [hn] at h; simp only [reduceCtorEq] at h
      | some rs' =>
        rw [hn] at h
        simp only [Option.some.injEq] at h
        subst h
        obtain ⟨h1, h2⟩ := namedV_fit hn (fun x hx => hB x (by simp [hx]))
        refine ⟨by simp [h1], fun r hr => ?_⟩
        rcases List.mem_cons.1 hr with rfl | hr
        · refine ⟨?_, ⟨v, rfl, decV_lt hd⟩, rfl⟩
          have := hsh a (by simp); have := hB s (by simp); simp only; omega
        · exact h2 r hr

theorem namedV_rows {s : List UInt8} (hs : s.length ≤ 40000) {rs : List RowD} (h : namedV (linesL s) = some rs) : rowsFit3 rs := by
  obtain ⟨_, k1, k2⟩ := linesV_shape s
  obtain ⟨h1, h2⟩ := namedV_fit h (fun x hx => k2 x hx)
  refine ⟨by omega, fun r hr => ?_⟩
  obtain ⟨g1, ⟨n, g2, g3⟩, g4⟩ := h2 r hr
  exact ⟨by omega, by rw [g2]; simp, by rw [g2]; simpa using g3, by rw [g4]; simp, by rw [g4]; simp⟩

def xfRes (s : List UInt8) : List SV := match namedV (linesL s) with
  | some rs => [.sl (rowsSV rs), .bool (s.all plainC), .int .i64 (if (s.all plainC && xfFine rs) = true then 1 else 2)]
  | none => [.sl [], .bool false, .int .i64 2]

noncomputable def F1021 : List SV → Option AV
  | [.str s] => onlyIf (s.length ≤ 40000) (some (.sv (.tup (xfRes s))))
  | _ => none

/-- What the reference reads, where it tells. -/
def xfRead (s : List UInt8) : Option (List RowD) := match namedV (linesL s) with
  | some rs => if (s.all plainC && xfFine rs) = true then some rs else none
  | none => none

theorem F1021_yes {s : List UInt8} {rs : List RowD} (hs : s.length ≤ 40000) (h : xfRead s = some rs) : F1021 [.str s] = some (.sv (.tup [.sl (rowsSV rs), .bool true, .int .i64 1])) := by
  have e : F1021 [.str s] = some (.sv (.tup (xfRes s))) := onlyIf_pos hs
  rw [e]
  unfold xfRead at h
  unfold xfRes
  cases hv : namedV (linesL s) with
  | none => rw [hv] at h; simp at h
  | some q =>
    rw [hv] at h
    simp only at h
    split at h
    · rename_i hc
      simp only [Option.some.injEq] at h; subst h
      simp only [hc, if_true]
      rw [Bool.and_eq_true] at hc
      rw [hc.1]
    · simp at h

theorem F1021_no {s : List UInt8} (hs : s.length ≤ 40000) (h : xfRead s = none) : ∃ l b, F1021 [.str s] = some (.sv (.tup [.sl l, .bool b, .int .i64 2])) := by
  have e : F1021 [.str s] = some (.sv (.tup (xfRes s))) := onlyIf_pos hs
  rw [e]
  unfold xfRead at h
  unfold xfRes
  cases hv : namedV (linesL s) with
  | none => exact ⟨[], false, rfl⟩
  | some q =>
    rw [hv] at h
    simp only at h
    split at h
    · simp at h
    · rename_i hc
      simp only [hc, if_false]
      exact ⟨_, _, rfl⟩

end Go.Ev

set_option linter.unusedSimpArgs false
set_option linter.unusedVariables false
namespace Go.Ev
open Go.Proofs

def valOf (rs : List RowD) (s : List UInt8) (v : Int) : Int := rs.foldl (fun v r => if r.name = s then ((r.N.headD 0 : Nat) : Int) else v) v

theorem cnt31_spec {r : RowD} (h : cnt31 r = true) : ∃ n, r.N = [n] ∧ n < 2147483648 ∧ r.S = [] := by
  obtain ⟨name, N, S⟩ := r
  unfold cnt31 at h
  simp only [Bool.and_eq_true, decide_eq_true_eq] at h
  obtain ⟨⟨h1, h2⟩, h3⟩ := h
  match N, h2 with
  | [n], _ => exact ⟨n, rfl, by simpa using h1, List.eq_nil_of_length_eq_zero h3⟩

def xfKid (l : List RowD) (s : List UInt8) : SV := nodeV s 2 false (valOf l s 0) 0 0 [] []

def xfTree (l : List RowD) : SV := nodeV [] 8 false 0 0 0 [] (xfNames.map (xfKid l))

theorem xfFine_ok {l : List RowD} (h : xfFine l = true) : ∀ r ∈ l, ∃ n, r.N = [n] ∧ n < 2147483648 := by
  intro r hr
  unfold xfFine at h
  rw [Bool.and_eq_true, List.all_eq_true] at h
  have h1 := h.1 r hr
  unfold xfOk at h1
  rw [Bool.and_eq_true] at h1
  obtain ⟨n, h2, h3, _⟩ := cnt31_spec h1.2
  exact ⟨n, h2, h3⟩

noncomputable def F1018 : List SV → Option AV
  | [.sl l] => onlyIf (l = rowsSV (l.map unrow) ∧ rowsFit3 (l.map unrow) ∧ xfFine (l.map unrow) = true) (some (.sv (.tup [xfTree (l.map unrow), .int .i64 1])))
  | _ => none

theorem F1018_eq (l : List RowD) (h : rowsFit3 l) (ho : xfFine l = true) : F1018 [.sl (rowsSV l)] = some (.sv (.tup [xfTree l, .int .i64 1])) := by
  unfold F1018
  simp only [unrows]
  exact onlyIf_pos ⟨trivial, h, ho⟩

/-! ### The text -/

def xfLine (r : RowD) : List UInt8 := leftS r.name 24 ++ [9] ++ decS (r.N.headD 0) ++ [10]

theorem xfLine_len (r : RowD) (hr : r.fits3) (ho : ∃ n, r.N = [n] ∧ n < 2147483648) : (xfLine r).length ≤ 2147483800 := by
  obtain ⟨n, hN, hn⟩ := ho
  have l1 := leftS_len r.name 24
  have l2 := decS_len20 (show n < 18446744073709551616 by omega)
  have := hr.1
  simp only [xfLine, hN, List.length_append, List.length_cons, List.length_nil, List.headD_cons]
  omega

end Go.Ev

set_option linter.unusedSimpArgs false
set_option linter.unusedVariables false
namespace Go.Ev
open Go.Proofs

def xfText (l : List RowD) : List UInt8 := (l.map xfLine).flatten

noncomputable def F1040 : List SV → Option AV
  | [.sl l, .int .i64 w] => onlyIf (w = 24 ∧ l = rowsSV (l.map unrow) ∧ rowsFit3 (l.map unrow) ∧ ∀ r ∈ l.map unrow, ∃ n, r.N = [n] ∧ n < 2147483648) (some (.sv (.str (xfText (l.map unrow)))))
  | _ => none

theorem F1040_eq (l : List RowD) (h : rowsFit3 l) (ho : ∀ r ∈ l, ∃ n, r.N = [n] ∧ n < 2147483648) : F1040 [.sl (rowsSV l), .int .i64 24] = some (.sv (.str (xfText l))) := by
  unfold F1040
  simp only [unrows]
  exact onlyIf_pos ⟨trivial, trivial, h, ho⟩

noncomputable def F1017 : List SV → Option AV
  | [.sl l] => onlyIf (l = rowsSV (l.map unrow) ∧ rowsFit3 (l.map unrow)) (some (.sv (.tup (if xfFine (l.map unrow) = true then [.str (xfText (l.map unrow)), .int .i64 1] else [.str [], .int .i64 2]))))
  | _ => none

theorem F1017_eq (l : List RowD) (h : rowsFit3 l) (ho : xfFine l = true) : F1017 [.sl (rowsSV l)] = some (.sv (.tup [.str (xfText l), .int .i64 1])) := by
  unfold F1017
  simp only [unrows, ho, if_true]
  exact onlyIf_pos ⟨trivial, h⟩

end Go.Ev

set_option linter.unusedSimpArgs false
set_option linter.unusedVariables false
namespace Go.Ev
open Go.Proofs

theorem xfNames_nodup : xfNames.Nodup := by decide

theorem map_set_at {α β : Type} [DecidableEq α] {f : α → β} {v : β} {s : α} : ∀ {L : List α} (_ : L.Nodup) {i : Nat} (_ : L[i]? = some s), (L.map f).set i v = L.map (fun x => if s = x then v else f x)
  | [], _, i, hi => by simp at hi
  | a :: L, hnd, i, hi => by
    obtain ⟨h1, h2⟩ := List.nodup_cons.1 hnd
    cases i with
    | zero =>
      simp only [List.getElem?_cons_zero, Option.some.injEq] at hi
      subst hi
      simp only [List.map_cons, List.set_cons_zero, if_true, List.cons.injEq, true_and]
      apply List.map_congr_left
      intro x hx
      rw [if_neg]
      rintro rfl; exact h1 hx
    | succ i =>
      simp only [List.getElem?_cons_succ] at hi
      have hne : s ≠ a := by rintro rfl; exact h1 (List.mem_of_getElem? hi)
      simp only [List.map_cons, List.set_cons_succ, if_neg hne]
      rw [map_set_at h2 hi]

theorem valOf_snoc (done : List RowD) (r : RowD) (n : Nat) (hN : r.N = [n]) (x : List UInt8) : valOf (done ++ [r]) x 0 = if r.name = x then (n : Int) else valOf done x 0 := by
  simp [valOf, List.foldl_append, hN]

theorem vals_snoc (done : List RowD) (r : RowD) (n : Nat) (hN : r.N = [n]) (i : Nat) (hi : xfNames[i]? = some r.name) :
    (xfNames.map fun x => valOf done x 0).set i (n : Int) = xfNames.map fun x => valOf (done ++ [r]) x 0 := by
  rw [map_set_at xfNames_nodup hi]
  exact List.map_congr_left fun x _ => (valOf_snoc done r n hN x).symm

theorem named_cons {s : List UInt8} {rs : List RowD} (h : namedV (lineG [] s) = some rs) : (s = [] ∧ rs = []) ∨ ∃ line rest a b n rs', (∀ c ∈ line, c.toNat ≠ 10) ∧ ((s = line ++ 10 :: rest) ∨ (s = line ∧ rest = [] ∧ line ≠ [])) ∧ fieldsL line = [a, b] ∧ decV b = some n ∧ rs = ⟨a, [n], []⟩ :: rs' ∧ namedV (lineG [] rest) = some rs' := by
  rcases line_cases s with rfl | ⟨line, rest, h1, h2, h3⟩
  · left
    simp only [lineG, if_true, namedV, Option.some.injEq] at h
    exact ⟨rfl, h.symm⟩
  · right
    rw [h2] at h
    simp only [namedV] at h
    rcases hfl : fieldsL line with _ | ⟨a, _ | ⟨b, _ | ⟨d, t⟩⟩⟩ <;> rw [hfl] at h <;> simp only [reduceCtorEq] at h
    cases hd : decV b with
    | none => rw [hd] at h; simp only [reduceCtorEq] at h
    | some n =>
      rw [hd] at h
      cases hn : namedV (lineG [] rest) with
      | none => rw [hn] at h; simp only [reduceCtorEq] at h
      | some rs' =>
        rw [hn] at h
        simp only [Option.some.injEq] at h
        exact ⟨line, rest, a, b, n, rs', h1, h3, hfl, hd, h.symm, hn⟩

theorem decV_dec {b : List UInt8} {n : Nat} (h : decV b = some n) : decS n = b := by
  unfold decV at h
  split at h
  · split at h <;> simp only [Option.some.injEq, reduceCtorEq] at h
    subst h; rename_i hc; exact hc.2
  · simp at h

theorem plain13 {c : UInt8} (h : plainC c = true) : c.toNat < 128 ∧ c.toNat ≠ 13 := by
  unfold plainC at h
  simp only [Bool.and_eq_true, Bool.or_eq_true, decide_eq_true_eq, beq_iff_eq] at h
  omega

theorem named_len : ∀ {l : List (List UInt8)} {rs : List RowD}, namedV l = some rs → rs.length = l.length := fun {l rs} h => (namedV_fit (B := l.foldr (fun s b => max s.length b) 0) h (by
  clear h
  intro s hs
  induction l with
  | nil => cases hs
  | cons a l ih =>
    rcases List.mem_cons.1 hs with rfl | hs
    · simp only [List.foldr_cons]; omega
    · have := ih hs; simp only [List.foldr_cons]; omega)).1

theorem xfRead_spec {s : List UInt8} {rs : List RowD} (h : xfRead s = some rs) : namedV (linesL s) = some rs ∧ (∀ c ∈ s, plainC c = true) ∧ xfFine rs = true := by
  unfold xfRead at h
  split at h
  · rename_i q hq
    split at h <;> simp only [Option.some.injEq, reduceCtorEq] at h
    subst h
    rename_i hc
    rw [Bool.and_eq_true, List.all_eq_true] at hc
    exact ⟨hq, hc.1, hc.2⟩
  · simp at h

def F84 : List SV → Option AV
  | [.str s] => some (.sv (.tup [.str s, .nilI]))
  | _ => none

def xfVals (rs : List RowD) : List Int := xfNames.map fun x => valOf rs x 0

end Go.Ev

set_option linter.unusedSimpArgs false
set_option linter.unusedVariables false
namespace Go.Ev
open Go.Proofs

def xfBody (r : RowD) : List UInt8 := leftS r.name 24 ++ 9 :: decS (r.N.headD 0)

theorem xfLine_body (r : RowD) : xfLine r = xfBody r ++ [10] := by simp [xfLine, xfBody]

theorem xfNames_words : ∀ s ∈ xfNames, s ≠ [] ∧ ∀ c ∈ s, wordC c = true := by decide

theorem fieldG_left9 {w rest : List UInt8} {n : Nat} (hw : w ≠ []) (h : ∀ c ∈ w, blankC c = false) : fieldG [] (leftS w n ++ 9 :: rest) = w :: fieldG [] rest := by
  unfold leftS
  rw [List.append_assoc]
  cases hk : n - w.length with
  | zero => exact fieldG_sep hw h (by decide)
  | succ k =>
    rw [List.replicate_succ, List.cons_append, fieldG_sep hw h (by decide), fieldG_skip k (9 :: rest)]
    rw [show fieldG [] (9 :: rest) = fieldG [] rest from by
      simp only [fieldG]
      rw [if_pos (show blankC 9 = true by decide)]
      simp]

theorem xfOk_name {r : RowD} (h : xfOk r = true) : r.name ≠ [] ∧ ∀ c ∈ r.name, wordC c = true := by
  unfold xfOk at h
  rw [Bool.and_eq_true] at h
  obtain ⟨q, hq1, hq2⟩ := List.any_eq_true.1 h.1
  simp only [beq_iff_eq] at hq2
  rw [← hq2]
  exact xfNames_words q hq1

theorem decV_decS {n : Nat} (h : n < 18446744073709551616) : decV (decS n) = some n := by
  unfold decV
  rw [numV_dec h]
  obtain ⟨_, _, h3⟩ := decS_dig n
  simp [h3]

theorem xfBody_fields {r : RowD} (h : xfOk r = true) : fieldsL (xfBody r) = [r.name, decS (r.N.headD 0)] := by
  obtain ⟨h1, h2⟩ := xfOk_name h
  obtain ⟨_, g2, g3⟩ := decS_dig (r.N.headD 0)
  rw [fieldsL_eq]
  unfold xfBody
  rw [fieldG_left9 h1 (fun c hc => (wordC_blank (h2 c hc)).1), fieldG_last g3 (fun c hc => (digC_blank (g2 c hc)).1)]

theorem xfBody_chars {r : RowD} (h : xfOk r = true) : ∀ c ∈ xfBody r, c.toNat ≠ 10 ∧ plainC c = true := by
  obtain ⟨h1, h2⟩ := xfOk_name h
  obtain ⟨_, g2, g3⟩ := decS_dig (r.N.headD 0)
  intro c hc
  unfold xfBody at hc
  rcases List.mem_append.1 hc with hc | hc
  · rcases leftS_mem hc with hc | rfl
    · have := h2 c hc
      refine ⟨(wordC_blank this).2, ?_⟩
      simp only [wordC, Bool.and_eq_true, decide_eq_true_eq] at this
      simp only [plainC, Bool.and_eq_true, Bool.or_eq_true, decide_eq_true_eq, beq_iff_eq]
      omega
    · decide
  · rcases List.mem_cons.1 hc with rfl | hc
    · decide
    · have := g2 c hc
      refine ⟨(digC_blank this).2, ?_⟩
      have := digC_iff.1 this
      simp only [plainC, Bool.and_eq_true, Bool.or_eq_true, decide_eq_true_eq, beq_iff_eq]
      omega

theorem xfText_lines {rs : List RowD} (h : ∀ r ∈ rs, xfOk r = true) : linesL (xfText rs) = rs.map xfBody := by
  rw [linesL_eq]
  have e : xfText rs = ((rs.map xfBody).map fun l => l ++ [10]).flatten := by
    unfold xfText
    rw [List.map_map]
    congr 1
    exact List.map_congr_left fun r _ => xfLine_body r
  rw [e]
  exact lineG_lines _ (fun l hl c hc => by
    obtain ⟨r, hr, rfl⟩ := List.mem_map.1 hl
    exact (xfBody_chars (h r hr) c hc).1)

theorem named_bodies : ∀ {rs : List RowD}, (∀ r ∈ rs, xfOk r = true) → namedV (rs.map xfBody) = some rs
  | [], _ => rfl
  | r :: rs, h => by
    have h0 := h r (by simp)
    have h1 := named_bodies (rs := rs) (fun q hq => h q (List.mem_cons_of_mem _ hq))
    simp only [List.map_cons, namedV, xfBody_fields h0, h1]
    have hc := h0
    unfold xfOk at hc
    rw [Bool.and_eq_true] at hc
    obtain ⟨n, e1, e2, e3⟩ := cnt31_spec hc.2
    obtain ⟨name, N, S⟩ := r
    simp only at e1 e3
    subst e1; subst e3
    simp only [List.headD_cons, decV_decS (show n < 18446744073709551616 by omega)]

theorem xfFine_all {rs : List RowD} (h : xfFine rs = true) : ∀ r ∈ rs, xfOk r = true := by
  unfold xfFine at h
  rw [Bool.and_eq_true, List.all_eq_true] at h
  exact h.1

theorem xfRead_text {rs : List RowD} (h : xfFine rs = true) : xfRead (xfText rs) = some rs := by
  have ho := xfFine_all h
  unfold xfRead
  rw [xfText_lines ho, named_bodies ho]
  have hp : (xfText rs).all plainC = true := by
    rw [List.all_eq_true]
    intro c hc
    unfold xfText at hc
    obtain ⟨l, hl, hcl⟩ := List.mem_flatten.1 hc
    obtain ⟨r, hr, rfl⟩ := List.mem_map.1 hl
    rw [xfLine_body] at hcl
    rcases List.mem_append.1 hcl with hcl | hcl
    · exact (xfBody_chars (ho r hr) c hcl).2
    · obtain rfl := List.mem_singleton.1 hcl; decide
  simp only [hp, h, Bool.and_self, if_true]

theorem xfTree_node (rs : List RowD) : IsNode (xfTree rs) := by
  refine .mk _ _ _ _ _ _ _ _ (by simp [xfNames]) fun k hk => ?_
  obtain ⟨r, hr, rfl⟩ := List.mem_map.1 hk
  exact .mk _ _ _ _ _ _ _ _ (by simp) (by simp)

theorem ev9_opn (E : Env) (h : E.code 15 = some c9) (w t d : Nat) (Fw : List SV → Option AV) (hw : E.pure w = some Fw) (h25 : E.pure 38 = some F25) (s : List UInt8) (hs : s.length ≤ 40000) (l : List SV) (b : Bool)
    (hF : Fw [.str s] = some (.sv (.tup [.sl l, .bool b, .int .i64 2]))) (n : Nat) : evP E n 15 [.str s, .fn w [] [], .fn t [] [], .fn d [] []] = some (.sv (.bool true)) := by
  unfold evP
  simp only [h]
  have e : ¬ (40000 : Int) < (s.length : Int) := by omega
  simp [c9, List.replicate, e, hw, hF, h25, F25]

theorem ev13_opn (E : Env) (h : E.code 19 = some c13) (w p d : Nat) (Fw : List SV → Option AV) (hw : E.pure w = some Fw) (h25 : E.pure 38 = some F25) (s : List UInt8) (hs : s.length ≤ 40000) (l : List SV) (b : Bool)
    (hF : Fw [.str s] = some (.sv (.tup [.sl l, .bool b, .int .i64 2]))) (n : Nat) : evP E n 19 [.str s, .fn w [] [], .fn p [] [], .fn d [] []] = some (.sv (.bool true)) := by
  unfold evP
  simp only [h]
  have e : ¬ (40000 : Int) < (s.length : Int) := by omega
  cases b <;> simp [c13, List.replicate, e, hw, hF, h25, F25]

end Go.Ev

set_option linter.unusedSimpArgs false
set_option linter.unusedVariables false
namespace Go.Ev
open Go.Proofs

def zzS (S : List (List UInt8)) : Bool := decide (S.length ≤ 2147483647) && S.all fun s => decide (s.length ≤ 2147483647)
def zzRow (r : RowD) : Bool := decide (r.name.length ≤ 2147483647) && decide (r.N.length ≤ 2147483647) && zzS r.S
def zzRows (l : List RowD) : Bool := decide (l.length ≤ 2147483647) && l.all zzRow

theorem loop1080 (E : Env) (cf : CallF) (xs : List SV) (hs : xs.length < 1000000000000) (m : Nat) :
    ∀ (rest : List (List UInt8)) (pre : List SV) (k : Nat), xs = pre ++ strs rest → rest.length < k →
      rounds (evC E cf m b1080_0) k { tm := List.replicate 8 (.sv .undef) ++ [.sv (.sl xs), .sv (.int .i64 xs.length), .sv (.int .i64 pre.length)] ++ List.replicate 7 (.sv .undef), lz := none, bx := [], df := [] } =
        if rest.all (fun s => decide (s.length ≤ 2147483647)) = true then some (.exit 0, { tm := List.replicate 18 (.sv .undef), lz := none, bx := [], df := [] })
        else some (.ret, { tm := [.sv .undef, .sv .undef, .sv (.bool false)] ++ List.replicate 15 (.sv .undef), lz := none, bx := [], df := [] }) := by
  intro rest
  induction rest with
  | nil =>
    intro pre k hsp hk
    obtain ⟨k, rfl⟩ : ∃ k', k = k' + 1 := ⟨k - 1, by omega⟩
    have hlt : ¬ (pre.length < xs.length) := by rw [hsp]; simp [strs]
    refine rounds_out ?_ (by simp)
    simp [b1080_0, List.replicate, hlt]
  | cons c rest ih =>
    intro pre k hsp hk
    obtain ⟨k, rfl⟩ : ∃ k', k = k' + 1 := ⟨k - 1, by omega⟩
    have hlt : pre.length < xs.length := by rw [hsp]; simp [strs]
    have hc : ∀ h : pre.length < xs.length, xs[pre.length]'h = .str c := by subst hsp; simp [strs]
    have hw2 : IntKind.i64.wrap ((pre.length : Int) + 1) = ((pre ++ [SV.str c]).length : Int) := by rw [IntKind.wrap_i64]; simp; omega
    by_cases h1 : c.length ≤ 2147483647
    · have e : ¬ (2147483647 : Int) < (c.length : Int) := by omega
      have := ih (pre ++ [.str c]) k (by rw [hsp]; simp [strs]) (by simp at hk; omega)
      rw [show (c :: rest).all (fun s => decide (s.length ≤ 2147483647)) = rest.all (fun s => decide (s.length ≤ 2147483647)) from by simp [h1], ← this]
      refine rounds_step ?_
      simp [b1080_0, List.replicate, hlt, hc, e, hw2]
    · have e : (2147483647 : Int) < (c.length : Int) := by omega
      rw [if_neg (by simp [h1])]
      refine rounds_out ?_ (by simp)
      simp [b1080_0, List.replicate, hlt, hc, e]

theorem ev1080 (E : Env) (h : E.code 141 = some c1080) (S : List (List UInt8)) (n : Nat) (hn : S.length < n ∨ 2147483647 < S.length) : evP E n 141 [.sl (strs S)] = some (.sv (.bool (zzS S))) := by
  unfold evP
  simp only [h]
  have hst : (strs S).length = S.length := strs_length S
  unfold zzS
  by_cases h1 : S.length ≤ 2147483647
  · have e : ¬ (2147483647 : Int) < (S.length : Int) := by omega
    have hl := loop1080 E (evF E n) (strs S) (by omega) n S [] n rfl (by omega)
    simp only [List.replicate, List.cons_append, List.nil_append, List.length_nil, Int.ofNat_zero, Int.natCast_zero, hst] at hl
    cases hv : S.all (fun s => decide (s.length ≤ 2147483647)) with
    | false => simp only [hv, Bool.false_eq_true, if_false] at hl; simp [c1080, List.replicate, hl, hst, e, h1]
    | true => simp only [hv, if_true] at hl; simp [c1080, List.replicate, hl, hst, e, h1]
  · have e : (2147483647 : Int) < (S.length : Int) := by omega
    simp [c1080, List.replicate, hst, e, h1]

noncomputable def F1080 : List SV → Option AV
  | [.sl l] => onlyIf (l = strs (l.map unstr)) (some (.sv (.bool (zzS (l.map unstr)))))
  | _ => none

theorem ev1035 (E : Env) (h : E.code 65 = some c1035) (h80 : E.pure 141 = some F1080) (r : RowD) (n : Nat) : evP E n 65 [.agg [.str r.name, .sl (u64s r.N), .sl (strs r.S)]] = some (.sv (.bool (zzRow r))) := by
  unfold evP
  simp only [h]
  have hsl : (u64s r.N).length = r.N.length := u64s_length r.N
  have hF : F1080 [.sl (strs r.S)] = some (.sv (.bool (zzS r.S))) := by
    unfold F1080
    simp only [unstrs]
    exact onlyIf_pos trivial
  unfold zzRow
  by_cases h1 : r.name.length ≤ 2147483647
  · have e : ¬ (2147483647 : Int) < (r.name.length : Int) := by omega
    by_cases h2 : r.N.length ≤ 2147483647
    · have e2 : ¬ (2147483647 : Int) < (r.N.length : Int) := by omega
      cases hz : zzS r.S <;> rw [hz] at hF <;> simp [c1035, List.replicate, e, e2, h1, h2, hsl, h80, hF]
    · have e2 : (2147483647 : Int) < (r.N.length : Int) := by omega
      simp [c1035, List.replicate, e, e2, h1, h2, hsl]
  · have e : (2147483647 : Int) < (r.name.length : Int) := by omega
    simp [c1035, List.replicate, e, h1]

noncomputable def F1035 : List SV → Option AV
  | [.agg [.str s, .sl ns, .sl ss]] => onlyIf (SV.agg [.str s, .sl ns, .sl ss] = (unrow (.agg [.str s, .sl ns, .sl ss])).sv) (some (.sv (.bool (zzRow (unrow (.agg [.str s, .sl ns, .sl ss]))))))
  | _ => none

theorem F1035_eq (r : RowD) : F1035 [.agg [.str r.name, .sl (u64s r.N), .sl (strs r.S)]] = some (.sv (.bool (zzRow r))) := by
  have hu : unrow (.agg [.str r.name, .sl (u64s r.N), .sl (strs r.S)]) = r := unrow_sv r
  unfold F1035
  simp only [hu]
  exact onlyIf_pos rfl

theorem loop1015 (E : Env) (cf : CallF) (h35 : E.pure 65 = some F1035) (xs : List SV) (hs : xs.length < 1000000000000) (m : Nat) :
    ∀ (rest : List RowD) (pre : List SV) (bx : List Box) (k : Nat), xs = pre ++ rowsSV rest → rest.length < k →
      ∃ bx', rounds (evC E cf m b1015_0) k { tm := List.replicate 8 (.sv .undef) ++ [.sv (.sl xs), .sv (.int .i64 xs.length), .sv (.int .i64 pre.length)] ++ List.replicate 7 (.sv .undef), lz := none, bx := bx, df := [] } =
        if rest.all zzRow = true then some (.exit 0, { tm := List.replicate 18 (.sv .undef), lz := none, bx := bx', df := [] })
        else some (.ret, { tm := [.sv .undef, .sv .undef, .sv (.bool false)] ++ List.replicate 15 (.sv .undef), lz := none, bx := bx', df := [] }) := by
  intro rest
  induction rest with
  | nil =>
    intro pre bx k hsp hk
    obtain ⟨k, rfl⟩ : ∃ k', k = k' + 1 := ⟨k - 1, by omega⟩
    have hlt : ¬ (pre.length < xs.length) := by rw [hsp]; simp [rowsSV]
    refine ⟨bx, rounds_out ?_ (by simp)⟩
    simp [b1015_0, List.replicate, hlt]
  | cons r rest ih =>
    intro pre bx k hsp hk
    obtain ⟨k, rfl⟩ : ∃ k', k = k' + 1 := ⟨k - 1, by omega⟩
    have hlt : pre.length < xs.length := by rw [hsp]; simp [rowsSV]
    have hc : ∀ h : pre.length < xs.length, xs[pre.length]'h = .agg [.str r.name, .sl (u64s r.N), .sl (strs r.S)] := by subst hsp; simp [rowsSV, RowD.sv]
    have hw2 : IntKind.i64.wrap ((pre.length : Int) + 1) = ((pre ++ [r.sv]).length : Int) := by rw [IntKind.wrap_i64]; simp; omega
    have hF := F1035_eq r
    obtain ⟨bx', he⟩ := ih (pre ++ [r.sv]) (bx ++ [rowBox r]) k (by rw [hsp]; simp [rowsSV]) (by simp at hk; omega)
    cases hz : zzRow r with
    | false =>
      rw [hz] at hF
      refine ⟨bx ++ [rowBox r], ?_⟩
      rw [if_neg (by simp [hz])]
      refine rounds_out ?_ (by simp)
      simp [b1015_0, List.replicate, hlt, hc, h35, hF, rowBox]
    | true =>
      rw [hz] at hF
      refine ⟨bx', ?_⟩
      rw [show (r :: rest).all zzRow = rest.all zzRow from by simp [hz], ← he]
      refine rounds_step ?_
      simp [b1015_0, List.replicate, hlt, hc, h35, hF, rowBox, hw2]

theorem ev1015 (E : Env) (h : E.code 24 = some c1015) (h35 : E.pure 65 = some F1035) (l : List RowD) (n : Nat) (hn : l.length < n ∨ 2147483647 < l.length) : evP E n 24 [.sl (rowsSV l)] = some (.sv (.bool (zzRows l))) := by
  unfold evP
  simp only [h]
  have hst : (rowsSV l).length = l.length := by simp [rowsSV]
  unfold zzRows
  by_cases h1 : l.length ≤ 2147483647
  · have e : ¬ (2147483647 : Int) < (l.length : Int) := by omega
    obtain ⟨bx', hl⟩ := loop1015 E (evF E n) h35 (rowsSV l) (by omega) n l [] [] n rfl (by omega)
    simp only [List.replicate, List.cons_append, List.nil_append, List.length_nil, Int.ofNat_zero, Int.natCast_zero, hst] at hl
    cases hv : l.all zzRow with
    | false => simp only [hv, Bool.false_eq_true, if_false] at hl; simp [c1015, List.replicate, hl, hst, e, h1]
    | true => simp only [hv, if_true] at hl; simp [c1015, List.replicate, hl, hst, e, h1]
  · have e : (2147483647 : Int) < (l.length : Int) := by omega
    simp [c1015, List.replicate, hst, e, h1]

noncomputable def F1015 : List SV → Option AV
  | [.sl l] => onlyIf (l = rowsSV (l.map unrow)) (some (.sv (.bool (zzRows (l.map unrow)))))
  | _ => none

theorem F1015_eq (l : List RowD) : F1015 [.sl (rowsSV l)] = some (.sv (.bool (zzRows l))) := by
  unfold F1015
  simp only [unrows]
  exact onlyIf_pos trivial

end Go.Ev

set_option linter.unusedSimpArgs false
set_option linter.unusedVariables false
namespace Go.Ev
open Go.Proofs

theorem zzRows_fit {l : List RowD} (h : zzRows l = true) (hn : ∀ r ∈ l, ∀ n ∈ r.N, n < 18446744073709551616) (hl : l.length ≤ 1000) : rowsFit3 l := by
  unfold zzRows at h
  rw [Bool.and_eq_true, List.all_eq_true] at h
  refine ⟨by omega, fun r hr => ?_⟩
  have h1 := h.2 r hr
  unfold zzRow zzS at h1
  simp only [Bool.and_eq_true, decide_eq_true_eq, List.all_eq_true] at h1
  obtain ⟨⟨h2, h3⟩, h4, h5⟩ := h1
  exact ⟨by omega, by omega, hn r hr, by omega, fun s hs => by have := h5 s hs; omega⟩

set_option maxHeartbeats 1000000 in
theorem ev1016_long (E : Env) (h : E.code 25 = some c1016) (p t d : Nat) (l : List SV) (hl : 1000 < l.length) (n : Nat) : evP E n 25 [.sl l, .fn p [] [], .fn t [] [], .fn d [] []] = some (.sv (.bool true)) := by
  unfold evP
  simp only [h]
  have e : (1000 : Int) < (l.length : Int) := by omega
  simp [c1016, List.replicate, e]

set_option maxHeartbeats 1000000 in
theorem ev1016_open (E : Env) (h : E.code 25 = some c1016) (p t d : Nat) (Fp : List SV → Option AV) (hp : E.pure p = some Fp) (h25 : E.pure 38 = some F25) (l : List SV) (hl : l.length ≤ 1000) (o : List UInt8) (told : Int)
    (hF : Fp [.sl l] = some (.sv (.tup [.str o, .int .i64 told]))) (ht : told ≠ 1 ∨ 40000 < o.length) (n : Nat) : evP E n 25 [.sl l, .fn p [] [], .fn t [] [], .fn d [] []] = some (.sv (.bool true)) := by
  unfold evP
  simp only [h]
  have e : ¬ (1000 : Int) < (l.length : Int) := by omega
  by_cases h1 : told = 1
  · have e2 : (40000 : Int) < (o.length : Int) := by omega
    simp [c1016, List.replicate, e, hp, hF, h1, e2, h25, F25]
  · have h2 : (told == 1) = false := by simpa using h1
    have h3 : (told != 1) = true := by simp [bne, h2]
    simp [c1016, List.replicate, e, hp, hF, h1, h2, h3, h25, F25]

set_option maxHeartbeats 1000000 in
theorem ev1016_yes (E : Env) (h : E.code 25 = some c1016) (p t d : Nat) (Fp Ft Fd : List SV → Option AV) (hp : E.pure p = some Fp) (ht : E.pure t = some Ft) (hd : E.pure d = some Fd) (h25 : E.pure 38 = some F25) (h26 : E.pure 39 = some F26) (h27 : E.pure 40 = some F27) (l : List SV) (hl : l.length ≤ 1000) (o : List UInt8) (ho : o.length ≤ 40000) (T : SV) (hT : IsNode T)
    (hFp : Fp [.sl l] = some (.sv (.tup [.str o, .int .i64 1]))) (hFt : Ft [.sl l] = some (.sv (.tup [T, .int .i64 1]))) (hFd : Fd [.str o] = some (.sv (.tup [T, .int .i64 0]))) (n : Nat) :
    evP E n 25 [.sl l, .fn p [] [], .fn t [] [], .fn d [] []] = some (.sv (.bool true)) := by
  unfold evP
  simp only [h]
  have e : ¬ (1000 : Int) < (l.length : Int) := by omega
  have e2 : ¬ (40000 : Int) < (o.length : Int) := by omega
  have hF27 : F27 [T] = some (.sv T) := onlyIf_pos hT
  have hF26 : F26 [T, T] = some (.sv (.bool true)) := onlyIf_pos ⟨hT, rfl⟩
  cases hT with
  | mk name kind b i u f s0 kids hl hk =>
    simp only [nodeV] at hFt hFd hF27 hF26
    simp [c1016, List.replicate, e, e2, hp, hFp, hd, hFd, ht, hFt, h27, hF27, h26, hF26, h25, F25]

noncomputable def F1003 : List SV → Option AV
  | [.sl l] => onlyIf (l = rowsSV (l.map unrow) ∧ ∀ r ∈ l.map unrow, ∀ n ∈ r.N, n < 18446744073709551616) (some (.sv (.bool true)))
  | _ => none

end Go.Ev

set_option linter.unusedSimpArgs false
set_option linter.unusedVariables false
namespace Go.Ev
open Go.Proofs

/-- What every entry rests on. -/
structure Base (P : Program) (E : Env) : Prop where
  m : P.follows .mixedOrders = true
  T : CodeT P E
  Q : QuietOK P E
  P : PureOK P E

variable {P : Program} {E : Env}

theorem p134 (B : Base P E) (h : E.code 146 = some c134) : PureFn P E 146 F134 := by
  refine PureFn.of B.m B.T B.Q B.P fun vs r hF => ?_
  unfold F134 at hF
  split at hF
  · obtain ⟨⟨h0, h1⟩, hr⟩ := onlyIf_some hF
    rename_i c
    obtain ⟨k, rfl⟩ := Int.eq_ofNat_of_zero_le h0
    simp only [Option.some.injEq, Int.toNat_natCast] at hr; subst hr
    exact ⟨1, _, ev134 E h 1 k (by omega), .inl rfl⟩
  · cases hF

theorem p123 (B : Base P E) (h : E.code 81 = some c123) (h134 : E.pure 146 = some F134) : PureFn P E 81 F123 := by
  refine PureFn.of B.m B.T B.Q B.P fun vs r hF => ?_
  unfold F123 at hF
  split at hF
  · obtain ⟨⟨h0, rfl⟩, hr⟩ := onlyIf_some hF
    rename_i s
    simp only [Option.some.injEq] at hr; subst hr
    exact ⟨s.length + 1, _, ev123 E h h134 s h0 _ (by omega), .inl rfl⟩
  · cases hF

theorem p81 (B : Base P E) (h : E.code 109 = some c81) (h123 : E.pure 81 = some F123) : PureFn P E 109 F81 := by
  refine PureFn.of B.m B.T B.Q B.P fun vs r hF => ?_
  unfold F81 at hF
  split at hF
  · obtain ⟨h0, hr⟩ := onlyIf_some hF
    rename_i s
    simp only [Option.some.injEq] at hr; subst hr
    exact ⟨1, _, ev81 E h h123 s h0 _, .inl rfl⟩
  · cases hF

theorem p97 (B : Base P E) (h : E.code 126 = some c97) : PureFn P E 126 F97 := by
  refine PureFn.of_rec size97 B.m B.T B.Q B.P fun m vs r hF hs => ?_
  unfold F97 at hF
  split at hF
  · obtain ⟨⟨h0, h1, rfl⟩, hr⟩ := onlyIf_some hF
    rename_i c
    obtain ⟨k, rfl⟩ := Int.eq_ofNat_of_zero_le h0
    simp only [Option.some.injEq, Int.toNat_natCast] at hr; subst hr
    simp only [size97, Int.toNat_natCast] at hs
    subst hs
    exact ⟨1, _, ev97 E h 1 k (by omega), .inl rfl⟩
  · cases hF

theorem p45 (B : Base P E) (h : E.code 58 = some c45) (h97 : E.pure 126 = some F97) : PureFn P E 58 F45 := by
  refine PureFn.of B.m B.T B.Q B.P fun vs r hF => ?_
  unfold F45 at hF
  split at hF
  · obtain ⟨⟨h0, h1⟩, hr⟩ := onlyIf_some hF
    rename_i c
    obtain ⟨k, rfl⟩ := Int.eq_ofNat_of_zero_le h0
    simp only [Option.some.injEq, Int.toNat_natCast] at hr; subst hr
    exact ⟨1, _, ev45 E h h97 1 k (by omega), .inl rfl⟩
  · cases hF

theorem p78 (B : Base P E) (h : E.code 78 = some c78) : PureFn P E 78 F78 := by
  refine PureFn.of B.m B.T B.Q B.P fun vs r hF => ?_
  unfold F78 at hF
  split at hF
  · obtain ⟨h0, hr⟩ := onlyIf_some hF
    rename_i s
    simp only [Option.some.injEq] at hr; subst hr
    exact ⟨s.length + 1, _, ev78 E h s h0 _ (by omega), .inl rfl⟩
  · cases hF

theorem p76 (B : Base P E) (h : E.code 80 = some c76) : PureFn P E 80 F76 := by
  refine PureFn.of B.m B.T B.Q B.P fun vs r hF => ?_
  unfold F76 at hF
  split at hF
  · obtain ⟨h0, hr⟩ := onlyIf_some hF
    rename_i s w
    simp only [Option.some.injEq] at hr; subst hr
    exact ⟨1, _, ev76 E h s w h0 1, .inl rfl⟩
  · cases hF

theorem p28 (B : Base P E) (h : E.code 41 = some c28) : PureFn P E 41 F28 := by
  refine PureFn.of B.m B.T B.Q B.P fun vs r hF => ?_
  unfold F28 at hF
  split at hF
  · obtain ⟨h0, hr⟩ := onlyIf_some hF
    rename_i s
    simp only [Option.some.injEq] at hr; subst hr
    obtain ⟨r, h1, h2⟩ := ev28 E h s h0 (s.length + 1) (by omega)
    exact ⟨_, r, h1, .inr ⟨_, rfl, h2⟩⟩
  · cases hF

theorem p52 (B : Base P E) (h : E.code 79 = some c52) : PureFn P E 79 F52 := by
  refine PureFn.of B.m B.T B.Q B.P fun vs r hF => ?_
  unfold F52 at hF
  split at hF
  · obtain ⟨h0, hr⟩ := onlyIf_some hF
    rename_i s
    simp only [Option.some.injEq] at hr; subst hr
    obtain ⟨r, h1, h2⟩ := ev52 E h s h0 (s.length + 1) (by omega)
    exact ⟨_, r, h1, .inr ⟨_, rfl, h2⟩⟩
  · cases hF

theorem p33 (B : Base P E) (h : E.code 46 = some c33) : PureFn P E 46 F33 := by
  refine PureFn.of B.m B.T B.Q B.P fun vs r hF => ?_
  unfold F33 at hF
  split at hF
  · rename_i a b
    simp only [Option.some.injEq] at hF; subst hF
    exact ⟨1, _, ev33 E h a b 1, .inl rfl⟩
  · cases hF

theorem p34 (B : Base P E) (h : E.code 47 = some c34) : PureFn P E 47 F34 := by
  refine PureFn.of B.m B.T B.Q B.P fun vs r hF => ?_
  unfold F34 at hF
  split at hF
  · rename_i a b
    simp only [Option.some.injEq] at hF; subst hF
    exact ⟨1, _, ev34 E h a b 1, .inl rfl⟩
  · cases hF

theorem p36 (B : Base P E) (h : E.code 49 = some c36) : PureFn P E 49 F36 := by
  refine PureFn.of B.m B.T B.Q B.P fun vs r hF => ?_
  unfold F36 at hF
  split at hF
  · rename_i a b
    simp only [Option.some.injEq] at hF; subst hF
    exact ⟨1, _, ev36 E h a b 1, .inl rfl⟩
  · cases hF

theorem p66 (B : Base P E) (h : E.code 70 = some c66) : PureFn P E 70 F66 := by
  refine PureFn.of B.m B.T B.Q B.P fun vs r hF => ?_
  unfold F66 at hF
  split at hF
  · rename_i a b
    simp only [Option.some.injEq] at hF; subst hF
    exact ⟨1, _, ev66 E h a b 1, .inl rfl⟩
  · cases hF

theorem p38 (B : Base P E) (h : E.code 51 = some c38) : PureFn P E 51 F38 := by
  refine PureFn.of B.m B.T B.Q B.P fun vs r hF => ?_
  unfold F38 at hF
  split at hF
  · rename_i a
    simp only [Option.some.injEq] at hF; subst hF
    exact ⟨1, _, ev38 E h a 1, .inl rfl⟩
  · cases hF

theorem p85 (B : Base P E) (h : E.code 114 = some c85) : PureFn P E 114 F85 := by
  refine PureFn.of B.m B.T B.Q B.P fun vs r hF => ?_
  unfold F85 at hF
  split at hF
  · rename_i a b
    simp only [Option.some.injEq] at hF; subst hF
    exact ⟨1, _, ev85 E h a b 1, .inl rfl⟩
  · cases hF

theorem p99 (B : Base P E) (h : E.code 128 = some c99) : PureFn P E 128 F99 := by
  refine PureFn.of B.m B.T B.Q B.P fun vs r hF => ?_
  unfold F99 at hF
  split at hF
  · obtain ⟨h0, hr⟩ := onlyIf_some hF
    rename_i s
    simp only [Option.some.injEq] at hr; subst hr
    exact ⟨1, _, ev99 E h s h0 1, .inl rfl⟩
  · cases hF

theorem p127 (B : Base P E) (h : E.code 152 = some c127) (hT : SpT E) : PureFn P E 152 F127 := by
  refine PureFn.of B.m B.T B.Q B.P fun vs r hF => ?_
  unfold F127 at hF
  split at hF
  · obtain ⟨⟨h0, h1⟩, hr⟩ := onlyIf_some hF
    rename_i s
    simp only [Option.some.injEq] at hr; subst hr
    exact ⟨s.length + 1, _, ev127 E h hT s h0 h1 _ (by omega), .inl rfl⟩
  · cases hF

theorem p149 (B : Base P E) (h : E.code 210 = some c149) : PureFn P E 210 F149 := by
  refine PureFn.of B.m B.T B.Q B.P fun vs r hF => ?_
  unfold F149 at hF
  split at hF
  · obtain ⟨⟨h0, h1, h2⟩, hr⟩ := onlyIf_some hF
    rename_i s
    simp only [Option.some.injEq] at hr; subst hr
    exact ⟨s.length + 1, _, ev149 E h s h0 h1 h2 _ (by omega), .inl rfl⟩
  · cases hF

theorem p143 (B : Base P E) (h : E.code 194 = some c143) (h149 : E.pure 210 = some F149) : PureFn P E 194 F143 := by
  refine PureFn.of B.m B.T B.Q B.P fun vs r hF => ?_
  unfold F143 at hF
  split at hF
  · obtain ⟨⟨h0, h1, h2⟩, hr⟩ := onlyIf_some hF
    rename_i s
    simp only [Option.some.injEq] at hr; subst hr
    exact ⟨1, _, ev143 E h h149 s h0 h1 h2 _, .inl rfl⟩
  · cases hF

end Go.Ev


set_option linter.unusedSimpArgs false
set_option linter.unusedVariables false
namespace Go.Ev
open Go.Proofs
variable {P : Program} {E : Env}

theorem p58 (B : Base P E) (h : E.code 68 = some c58) (h45 : E.pure 58 = some F45) : PureFn P E 68 F58 := by
  refine PureFn.of B.m B.T B.Q B.P fun vs r hF => ?_
  unfold F58 at hF
  split at hF
  · obtain ⟨⟨h0, h1⟩, hr⟩ := onlyIf_some hF
    rename_i n
    simp only [Option.some.injEq] at hr; subst hr
    exact ⟨1, _, ev58 E h h45 n h0 h1 1, .inl rfl⟩
  · cases hF

theorem p30 (B : Base P E) (h : E.code 43 = some c30) : PureFn P E 43 F30 := by
  refine PureFn.of B.m B.T B.Q B.P fun vs r hF => ?_
  unfold F30 at hF
  split at hF
  · rename_i a b
    simp only [Option.some.injEq] at hF; subst hF
    exact ⟨1, _, ev30 E h 1 a b, .inl rfl⟩
  · cases hF

theorem p112 (B : Base P E) (h : E.code 82 = some c112) (h30 : E.pure 43 = some F30) (h81 : E.pure 109 = some F81) : PureFn P E 82 F112 := by
  refine PureFn.of B.m B.T B.Q B.P fun vs r hF => ?_
  unfold F112 at hF
  split at hF
  · obtain ⟨⟨h0, h1⟩, hr⟩ := onlyIf_some hF
    rename_i c t
    simp only [Option.some.injEq] at hr; subst hr
    refine ⟨1, _, ev112 E h h30 h81 c h0 t h1 1, .inl ?_⟩
    cases negV t with
    | some m => rfl
    | none =>
      simp only
      cases numV 10 0 t with
      | none => rfl
      | some m => simp only; split <;> rfl
  · cases hF

theorem p125 (B : Base P E) (h : E.code 190 = some c125) : PureFn P E 190 F125 := by
  refine PureFn.of B.m B.T B.Q B.P fun vs r hF => ?_
  unfold F125 at hF
  split at hF
  · obtain ⟨⟨rfl, rfl, h1, h2, h3, h4⟩, hr⟩ := onlyIf_some hF
    rename_i s
    simp only [Option.some.injEq] at hr; subst hr
    exact ⟨s.length + 1, _, ev125 E h s h1 h2 h3 h4 _ (by omega), .inl rfl⟩
  · cases hF

theorem p154 (B : Base P E) (h : E.code 219 = some c154) (h125 : E.pure 190 = some F125) : PureFn P E 219 F154 := by
  refine PureFn.of B.m B.T B.Q B.P fun vs r hF => ?_
  unfold F154 at hF
  split at hF
  · rename_i s b z
    split at hF
    · rename_i v hv
      obtain ⟨⟨rfl, rfl, h1⟩, hr⟩ := onlyIf_some hF
      simp only [Option.some.injEq] at hr; subst hr
      exact ⟨1, _, ev154 E h h125 s v hv h1 1, .inl rfl⟩
    · cases hF
  · cases hF

theorem p149s (B : Base P E) (h : E.code 210 = some c149) (h154 : E.pure 219 = some F154) : PureFn P E 210 F149s := by
  refine PureFn.of B.m B.T B.Q B.P fun vs r hF => ?_
  unfold F149s at hF
  split at hF
  · rename_i s
    split at hF
    · rename_i v hv
      obtain ⟨h1, hr⟩ := onlyIf_some hF
      simp only [Option.some.injEq] at hr; subst hr
      exact ⟨s.length + 1, _, ev149s E h h154 s v hv h1 _ (by omega), .inl rfl⟩
    · cases hF
  · cases hF

theorem p143s (B : Base P E) (h : E.code 194 = some c143) (h149 : E.pure 210 = some F149s) : PureFn P E 194 F143s := by
  refine PureFn.of B.m B.T B.Q B.P fun vs r hF => ?_
  unfold F143s at hF
  split at hF
  · rename_i s
    split at hF
    · rename_i v hv
      obtain ⟨h1, hr⟩ := onlyIf_some hF
      simp only [Option.some.injEq] at hr; subst hr
      exact ⟨1, _, ev143s E h h149 s v hv h1 1, .inl rfl⟩
    · cases hF
  · cases hF

end Go.Ev


set_option linter.unusedSimpArgs false
set_option linter.unusedVariables false
namespace Go.Ev
open Go.Proofs
variable {P : Program} {E : Env}

theorem p1050 (B : Base P E) (h : E.code 83 = some c1050) : PureFn P E 83 F1050 := by
  refine PureFn.of B.m B.T B.Q B.P fun vs r hF => ?_
  unfold F1050 at hF
  split at hF
  · simp only [Option.some.injEq] at hF; subst hF
    exact ⟨1, _, ev1050 E h _ 1, .inl rfl⟩
  · cases hF

def F8x : List SV → Option AV
  | [.str s] => some (.sv (.bool true))
  | _ => none

end Go.Ev
