/- Tables of sockets: parts of a text, hexadecimal numbers, padding. -/
import Derived.Test.YtnpkdihdpgfemaaGreatDoorXC
import Derived.Test.YtnpkdihdpgfemaaGreatDoorCodesB
set_option linter.unusedSimpArgs false
set_option linter.unusedVariables false
namespace Go.Ev
open Go.Proofs

/-! ### Parts between a sign -/

def partG (b : Nat) (cur : List UInt8) : List UInt8 → List (List UInt8)
  | [] => [cur]
  | c :: cs => if c.toNat = b then cur :: partG b [] cs else partG b (cur ++ [c]) cs

def partI (b : Nat) (cur : List UInt8) : List UInt8 → List (List UInt8)
  | [] => []
  | c :: cs => if c.toNat = b then cur :: partI b [] cs else partI b (cur ++ [c]) cs

def partE (b : Nat) (cur : List UInt8) : List UInt8 → List UInt8
  | [] => cur
  | c :: cs => if c.toNat = b then partE b [] cs else partE b (cur ++ [c]) cs

theorem partG_eq (b : Nat) : ∀ (s cur : List UInt8), partG b cur s = partI b cur s ++ [partE b cur s]
  | [], cur => rfl
  | c :: s, cur => by
    simp only [partG, partI, partE]
    split
    · rw [partG_eq b s]; rfl
    · rw [partG_eq b s]

theorem partI_len (b : Nat) : ∀ (s cur : List UInt8), (partI b cur s).length ≤ s.length
  | [], cur => by simp [partI]
  | c :: s, cur => by
    simp only [partI]
    split
    · have := partI_len b s []; simp; omega
    · have := partI_len b s (cur ++ [c]); simp; omega

theorem partE_len (b : Nat) : ∀ (s cur : List UInt8), (partE b cur s).length ≤ cur.length + s.length
  | [], cur => by simp [partE]
  | c :: s, cur => by
    simp only [partE]
    split
    · have := partE_len b s []; simp at this ⊢; omega
    · have := partE_len b s (cur ++ [c]); simp at this ⊢; omega

theorem partG_mem (b : Nat) : ∀ (s cur : List UInt8), ∀ x ∈ partG b cur s, x.length ≤ cur.length + s.length
  | [], cur => by simp [partG]
  | c :: s, cur => by
    simp only [partG]
    split
    · intro x hx
      rcases List.mem_cons.1 hx with rfl | hx
      · omega
      · have := partG_mem b s [] x hx; simp at this ⊢; omega
    · intro x hx
      have := partG_mem b s (cur ++ [c]) x hx; simp at this ⊢; omega

theorem partG_no (b : Nat) : ∀ (w cur rest : List UInt8), (∀ c ∈ w, c.toNat ≠ b) → partG b cur (w ++ rest) = partG b (cur ++ w) rest
  | [], cur, rest, _ => by simp
  | c :: w, cur, rest, h => by
    simp only [List.cons_append, partG]
    rw [if_neg (h c (by simp)), partG_no b w (cur ++ [c]) rest (fun x hx => h x (by simp [hx]))]
    simp

theorem partG_two {b : UInt8} {w v : List UInt8} (hw : ∀ c ∈ w, c.toNat ≠ b.toNat) (hv : ∀ c ∈ v, c.toNat ≠ b.toNat) : partG b.toNat [] (w ++ b :: v) = [w, v] := by
  rw [partG_no _ w [] _ hw, List.nil_append]
  simp only [partG, if_true]
  have := partG_no b.toNat v [] [] hv
  rw [List.append_nil, List.nil_append] at this
  rw [this]; rfl

theorem partG_none {b : Nat} {s : List UInt8} (h : ∀ c ∈ s, c.toNat ≠ b) : partG b [] s = [s] := by
  have := partG_no b s [] [] h
  rw [List.append_nil, List.nil_append] at this
  rw [this]; rfl

theorem partG_first {b : UInt8} {w rest : List UInt8} (hw : ∀ c ∈ w, c.toNat ≠ b.toNat) : partG b.toNat [] (w ++ b :: rest) = w :: partG b.toNat [] rest := by
  rw [partG_no _ w [] _ hw, List.nil_append]
  simp only [partG, if_true]

/-! ### Hexadecimal numbers -/

def hexC (d : Nat) : UInt8 := UInt8.ofNat (if d < 10 then 48 + d else 87 + d)

def hexF : Nat → Nat → List UInt8
  | 0, _ => []
  | f + 1, n => if n < 16 then [hexC n] else hexF f (n / 16) ++ [hexC (n % 16)]

def hexS (n : Nat) : List UInt8 := hexF (n + 1) n

theorem hexF_more : ∀ (f g n : Nat), n < f → n < g → hexF f n = hexF g n
  | 0, _, _, h, _ => by omega
  | _ + 1, 0, _, _, h => by omega
  | f + 1, g + 1, n, h1, h2 => by
    simp only [hexF]
    split
    · rfl
    · rw [hexF_more f g (n / 16) (by omega) (by omega)]

theorem hexS_small {n : Nat} (h : n < 16) : hexS n = [hexC n] := by simp [hexS, hexF, h]

theorem hexS_step {n : Nat} (h : ¬ n < 16) : hexS n = hexS (n / 16) ++ [hexC (n % 16)] := by
  unfold hexS
  rw [hexF, if_neg h, hexF_more n (n / 16 + 1) (n / 16) (by omega) (by omega)]

theorem hexS_length (n : Nat) : ∀ k, n < 16 ^ (k + 1) → (hexS n).length ≤ k + 1 := by
  intro k
  induction k generalizing n with
  | zero => intro h; simp at h; rw [hexS_small h]; simp
  | succ k ih =>
    intro h
    by_cases hn : n < 16
    · rw [hexS_small hn]; simp
    · rw [hexS_step hn]
      have := ih (n / 16) (by rw [Nat.pow_succ] at h; omega)
      simp; omega

theorem hexS_len16 {n : Nat} (h : n < 18446744073709551616) : (hexS n).length ≤ 16 := hexS_length n 15 (by omega)

theorem hexC_toNat {d : Nat} (h : d < 16) : (hexC d).toNat = if d < 10 then 48 + d else 87 + d := by
  unfold hexC
  split <;> simp <;> omega

/-- A text with noughts ahead. -/
def padS (s : List UInt8) (k : Nat) : List UInt8 := List.replicate (k - s.length) 48 ++ s

/-- A text with blanks ahead. -/
def rightS (s : List UInt8) (k : Nat) : List UInt8 := List.replicate (k - s.length) 32 ++ s

theorem padS_step {s : List UInt8} {n : Nat} (h : s.length < n) : padS (48 :: s) n = padS s n := by
  unfold padS
  obtain ⟨k, hk⟩ : ∃ k, n - s.length = k + 1 := ⟨n - s.length - 1, by omega⟩
  rw [hk, show n - (48 :: s : List UInt8).length = k from by simp; omega, List.replicate_succ', List.append_assoc]; rfl

theorem padS_done {s : List UInt8} {n : Nat} (h : ¬ s.length < n) : padS s n = s := by
  unfold padS
  rw [show n - s.length = 0 from by omega]; rfl

theorem padS_len (s : List UInt8) (n : Nat) : (padS s n).length ≤ s.length + n := by unfold padS; rw [List.length_append, List.length_replicate]; omega

theorem rightS_step {s : List UInt8} {n : Nat} (h : s.length < n) : rightS (32 :: s) n = rightS s n := by
  unfold rightS
  obtain ⟨k, hk⟩ : ∃ k, n - s.length = k + 1 := ⟨n - s.length - 1, by omega⟩
  rw [hk, show n - (32 :: s : List UInt8).length = k from by simp; omega, List.replicate_succ', List.append_assoc]; rfl

theorem rightS_done {s : List UInt8} {n : Nat} (h : ¬ s.length < n) : rightS s n = s := by
  unfold rightS
  rw [show n - s.length = 0 from by omega]; rfl

theorem rightS_len (s : List UInt8) (n : Nat) : (rightS s n).length ≤ s.length + n := by unfold rightS; rw [List.length_append, List.length_replicate]; omega

def upB (c : UInt8) : UInt8 := if 97 ≤ c.toNat then UInt8.ofNat (c.toNat - 32) else c

/-- A number in large hexadecimal digits, at least so many. -/
def upS (n k : Nat) : List UInt8 := (padS (hexS n) k).map upB

theorem upS_len {n : Nat} (h : n < 18446744073709551616) (k : Nat) : (upS n k).length ≤ 16 + k := by
  unfold upS
  rw [List.length_map]
  have := padS_len (hexS n) k
  have := hexS_len16 h
  omega

/-- A large hexadecimal digit. -/
def addrC (c : UInt8) : Bool := decide (digitV c.toNat ≤ 15) && decide (c.toNat < 97)

theorem addrC_spec {c : UInt8} (h : addrC c = true) : (48 ≤ c.toNat ∧ c.toNat ≤ 57) ∨ (65 ≤ c.toNat ∧ c.toNat ≤ 70) := by
  unfold addrC at h
  simp only [Bool.and_eq_true, decide_eq_true_eq] at h
  obtain ⟨h1, h2⟩ := h
  unfold digitV at h1
  split at h1
  · omega
  · split at h1
    · omega
    · split at h1 <;> omega

theorem addrC_word {c : UInt8} (h : addrC c = true) : wordC c = true ∧ c.toNat ≠ 58 := by
  have := addrC_spec h
  refine ⟨?_, by omega⟩
  unfold wordC
  simp only [Bool.and_eq_true, decide_eq_true_eq]
  omega

theorem upB_hexC {d : Nat} (h : d < 16) : (upB (hexC d)).toNat = (if d < 10 then 48 + d else 55 + d) := by
  unfold upB
  rw [hexC_toNat h]
  by_cases hd : d < 10
  · rw [if_pos hd, if_pos hd, if_neg (by omega), hexC_toNat h, if_pos hd]
  · rw [if_neg hd, if_neg hd, if_pos (by omega)]
    simp; omega

theorem upB_digit {d : Nat} (h : d < 16) : digitV (upB (hexC d)).toNat = d ∧ addrC (upB (hexC d)) = true := by
  have h1 := upB_hexC h
  have h2 : digitV (upB (hexC d)).toNat = d := by
    rw [h1]; unfold digitV
    (repeat' split) <;> omega
  refine ⟨h2, ?_⟩
  unfold addrC
  rw [h2, h1]
  simp only [Bool.and_eq_true, decide_eq_true_eq]
  split <;> omega

def hexN (a : Nat) (s : List UInt8) : Nat := s.foldl (fun a c => a * 16 + digitV c.toNat) a

theorem hexN_nil (a : Nat) : hexN a [] = a := by unfold hexN; rw [List.foldl_nil]
theorem hexN_cons (a : Nat) (c : UInt8) (s : List UInt8) : hexN a (c :: s) = hexN (a * 16 + digitV c.toNat) s := by unfold hexN; rw [List.foldl_cons]
theorem hexN_append (s t : List UInt8) (a : Nat) : hexN a (s ++ t) = hexN (hexN a s) t := by unfold hexN; rw [List.foldl_append]

theorem hexN_ge : ∀ (s : List UInt8) (a : Nat), a ≤ hexN a s
  | [], a => by rw [hexN_nil]; exact Nat.le_refl _
  | c :: s, a => by rw [hexN_cons]; have := hexN_ge s (a * 16 + digitV c.toNat); omega

theorem hexN_noughts : ∀ k : Nat, hexN 0 (List.replicate k 48) = 0
  | 0 => by rw [List.replicate_zero, hexN_nil]
  | k + 1 => by rw [List.replicate_succ, hexN_cons]; exact hexN_noughts k

theorem hexS_hex (n : Nat) : hexN 0 ((hexS n).map upB) = n ∧ (∀ c ∈ (hexS n).map upB, addrC c = true) ∧ hexS n ≠ [] := by
  induction n using Nat.strongRecOn with
  | _ n ih =>
    by_cases h : n < 16
    · rw [hexS_small h]
      obtain ⟨h1, h2⟩ := upB_digit h
      refine ⟨?_, by simpa using h2, by simp⟩
      rw [List.map_cons, List.map_nil, hexN_cons, hexN_nil, h1]; omega
    · rw [hexS_step h]
      obtain ⟨g1, g2, g3⟩ := ih (n / 16) (by omega)
      obtain ⟨h1, h2⟩ := upB_digit (d := n % 16) (by omega)
      refine ⟨?_, ?_, by simp⟩
      · rw [List.map_append, hexN_append, g1, List.map_cons, List.map_nil, hexN_cons, hexN_nil, h1]; omega
      · intro c hc
        rw [List.map_append] at hc
        rcases List.mem_append.1 hc with hc | hc
        · exact g2 c hc
        · simp only [List.map_cons, List.map_nil, List.mem_singleton] at hc
          rw [hc]; exact h2

theorem upS_hex (n k : Nat) : hexN 0 (upS n k) = n ∧ (∀ c ∈ upS n k, addrC c = true) ∧ upS n k ≠ [] := by
  obtain ⟨h1, h2, h3⟩ := hexS_hex n
  have e : upS n k = List.replicate (k - (hexS n).length) 48 ++ (hexS n).map upB := by
    unfold upS padS
    rw [List.map_append, List.map_replicate]; rfl
  rw [e]
  refine ⟨by rw [hexN_append, hexN_noughts, h1], fun c hc => ?_, by simp [h3]⟩
  rcases List.mem_append.1 hc with hc | hc
  · rw [(List.mem_replicate.1 hc).2]; decide
  · exact h2 c hc

theorem numV_hex : ∀ (s : List UInt8) (a : Nat), (∀ c ∈ s, digitV c.toNat < 16) → hexN a s < 18446744073709551616 → numV 16 a s = some (hexN a s)
  | [], a, _, _ => by rw [hexN_nil]; rfl
  | c :: s, a, h, hb => by
    have h1 := h c (by simp)
    rw [hexN_cons] at hb ⊢
    have h2 := hexN_ge s (a * 16 + digitV c.toNat)
    simp only [numV]
    rw [if_neg (by omega)]
    exact numV_hex s _ (fun x hx => h x (by simp [hx])) hb

theorem numV_hexN : ∀ (s : List UInt8) (a m : Nat), numV 16 a s = some m → m = hexN a s ∧ ∀ c ∈ s, digitV c.toNat < 16
  | [], a, m, h => by simp only [numV, Option.some.injEq] at h; rw [hexN_nil]; exact ⟨h.symm, by simp⟩
  | c :: s, a, m, h => by
    simp only [numV] at h
    split at h
    · simp at h
    · rename_i hc
      obtain ⟨h1, h2⟩ := numV_hexN s _ m h
      rw [hexN_cons]
      refine ⟨h1, fun x hx => ?_⟩
      rcases List.mem_cons.1 hx with rfl | hx
      · omega
      · exact h2 x hx

/-- A hexadecimal number. -/
def hexV (s : List UInt8) : Option Nat := match numV 16 0 s with
  | some m => if s = [] then none else some m
  | none => none

theorem hexV_spec {s : List UInt8} {m : Nat} (h : hexV s = some m) : numV 16 0 s = some m ∧ s ≠ [] ∧ m < 18446744073709551616 ∧ m = hexN 0 s ∧ ∀ c ∈ s, digitV c.toNat < 16 := by
  unfold hexV at h
  split at h
  · rename_i v hv
    split at h <;> simp only [Option.some.injEq, reduceCtorEq] at h
    subst h
    rename_i hne
    obtain ⟨g1, g2⟩ := numV_hexN s 0 _ hv
    exact ⟨hv, hne, numV_lt (by omega) s 0 _ (by omega) hv, g1, g2⟩
  · simp at h

theorem hexV_upS {n k : Nat} (h : n < 18446744073709551616) : hexV (upS n k) = some n := by
  obtain ⟨h1, h2, h3⟩ := upS_hex n k
  unfold hexV
  rw [numV_hex (upS n k) 0 (fun c hc => by
    have := h2 c hc
    unfold addrC at this
    simp only [Bool.and_eq_true, decide_eq_true_eq] at this
    omega) (by rw [h1]; exact h), h1]
  simp [h3]

def hexsV : List (List UInt8) → Option (List Nat)
  | [] => some []
  | s :: l => match hexV s with
    | some m => match hexsV l with
      | some ms => some (m :: ms)
      | none => none
    | none => none

end Go.Ev
