/- Tables of sockets: parts of a text, hexadecimal numbers, padding. -/
/- Tables of sockets: what is written, and what the reference reads. -/
import Derived.Test.YtnpkdihdpgfemaaGreatDoorXC
import Derived.Test.YtnpkdihdpgfemaaGreatDoorCodesB
set_option linter.unusedSimpArgs false
set_option linter.unusedVariables false
namespace Go.Ev
open Go.Proofs

/-! ### Parts between a sign -/

def partG (b : Nat) (cur : List UInt8) : List UInt8 → List (List UInt8)
  | [] => [cur]
  | c :: cs => if c.toNat = b then cur :: partG b [] cs else partG b (cur ++ [c]) cs

def partI (b : Nat) (cur : List UInt8) : List UInt8 → List (List UInt8)
  | [] => []
  | c :: cs => if c.toNat = b then cur :: partI b [] cs else partI b (cur ++ [c]) cs

def partE (b : Nat) (cur : List UInt8) : List UInt8 → List UInt8
  | [] => cur
  | c :: cs => if c.toNat = b then partE b [] cs else partE b (cur ++ [c]) cs

theorem partG_eq (b : Nat) : ∀ (s cur : List UInt8), partG b cur s = partI b cur s ++ [partE b cur s]
  | [], cur => rfl
  | c :: s, cur => by
    simp only [partG, partI, partE]
    split
    · rw [partG_eq b s]; rfl
    · rw [partG_eq b s]

theorem partI_len (b : Nat) : ∀ (s cur : List UInt8), (partI b cur s).length ≤ s.length
  | [], cur => by simp [partI]
  | c :: s, cur => by
    simp only [partI]
    split
    · have := partI_len b s []; simp; omega
    · have := partI_len b s (cur ++ [c]); simp; omega

theorem partE_len (b : Nat) : ∀ (s cur : List UInt8), (partE b cur s).length ≤ cur.length + s.length
  | [], cur => by simp [partE]
  | c :: s, cur => by
    simp only [partE]
    split
    · have := partE_len b s []; simp at this ⊢; omega
    · have := partE_len b s (cur ++ [c]); simp at this ⊢; omega

theorem partG_mem (b : Nat) : ∀ (s cur : List UInt8), ∀ x ∈ partG b cur s, x.length ≤ cur.length + s.length
  | [], cur => by simp [partG]
  | c :: s, cur => by
    simp only [partG]
    split
    · intro x hx
      rcases List.mem_cons.1 hx with rfl | hx
      · omega
      · have := partG_mem b s [] x hx; simp at this ⊢; omega
    · intro x hx
      have := partG_mem b s (cur ++ [c]) x hx; simp at this ⊢; omega

theorem partG_no (b : Nat) : ∀ (w cur rest : List UInt8), (∀ c ∈ w, c.toNat ≠ b) → partG b cur (w ++ rest) = partG b (cur ++ w) rest
  | [], cur, rest, _ => by simp
  | c :: w, cur, rest, h => by
    simp only [List.cons_append, partG]
    rw [if_neg (h c (by simp)), partG_no b w (cur ++ [c]) rest (fun x hx => h x (by simp [hx]))]
    simp

theorem partG_two {b : UInt8} {w v : List UInt8} (hw : ∀ c ∈ w, c.toNat ≠ b.toNat) (hv : ∀ c ∈ v, c.toNat ≠ b.toNat) : partG b.toNat [] (w ++ b :: v) = [w, v] := by
  rw [partG_no _ w [] _ hw, List.nil_append]
  simp only [partG, if_true]
  have := partG_no b.toNat v [] [] hv
  rw [List.append_nil, List.nil_append] at this
  rw [this]; rfl

theorem partG_none {b : Nat} {s : List UInt8} (h : ∀ c ∈ s, c.toNat ≠ b) : partG b [] s = [s] := by
  have := partG_no b s [] [] h
  rw [List.append_nil, List.nil_append] at this
  rw [this]; rfl

theorem partG_first {b : UInt8} {w rest : List UInt8} (hw : ∀ c ∈ w, c.toNat ≠ b.toNat) : partG b.toNat [] (w ++ b :: rest) = w :: partG b.toNat [] rest := by
  rw [partG_no _ w [] _ hw, List.nil_append]
  simp only [partG, if_true]

/-! ### Hexadecimal numbers -/

def hexC (d : Nat) : UInt8 := UInt8.ofNat (if d < 10 then 48 + d else 87 + d)

def hexF : Nat → Nat → List UInt8
  | 0, _ => []
  | f + 1, n => if n < 16 then [hexC n] else hexF f (n / 16) ++ [hexC (n % 16)]

def hexS (n : Nat) : List UInt8 := hexF (n + 1) n

theorem hexF_more : ∀ (f g n : Nat), n < f → n < g → hexF f n = hexF g n
  | 0, _, _, h, _ => by omega
  | _ + 1, 0, _, _, h => by omega
  | f + 1, g + 1, n, h1, h2 => by
    simp only [hexF]
    split
    · rfl
    · rw [hexF_more f g (n / 16) (by omega) (by omega)]

theorem hexS_small {n : Nat} (h : n < 16) : hexS n = [hexC n] := by simp [hexS, hexF, h]

theorem hexS_step {n : Nat} (h : ¬ n < 16) : hexS n = hexS (n / 16) ++ [hexC (n % 16)] := by
  unfold hexS
  rw [hexF, if_neg h, hexF_more n (n / 16 + 1) (n / 16) (by omega) (by omega)]

theorem hexS_length (n : Nat) : ∀ k, n < 16 ^ (k + 1) → (hexS n).length ≤ k + 1 := by
  intro k
  induction k generalizing n with
  | zero => intro h; simp at h; rw [hexS_small h]; simp
  | succ k ih =>
    intro h
    by_cases hn : n < 16
    · rw [hexS_small hn]; simp
    · rw [hexS_step hn]
      have := ih (n / 16) (by rw [Nat.pow_succ] at h; omega)
      simp; omega

theorem hexS_len16 {n : Nat} (h : n < 18446744073709551616) : (hexS n).length ≤ 16 := hexS_length n 15 (by omega)

theorem hexC_toNat {d : Nat} (h : d < 16) : (hexC d).toNat = if d < 10 then 48 + d else 87 + d := by
  unfold hexC
  split <;> simp <;> omega

/-- A text with noughts ahead. -/
def padS (s : List UInt8) (k : Nat) : List UInt8 := List.replicate (k - s.length) 48 ++ s

/-- A text with blanks ahead. -/
def rightS (s : List UInt8) (k : Nat) : List UInt8 := List.replicate (k - s.length) 32 ++ s

theorem padS_step {s : List UInt8} {n : Nat} (h : s.length < n) : padS (48 :: s) n = padS s n := by
  unfold padS
  obtain ⟨k, hk⟩ : ∃ k, n - s.length = k + 1 := ⟨n - s.length - 1, by omega⟩
  rw [hk, show n - (48 :: s : List UInt8).length = k from by simp; omega, List.replicate_succ', List.append_assoc]; rfl

theorem padS_done {s : List UInt8} {n : Nat} (h : ¬ s.length < n) : padS s n = s := by
  unfold padS
  rw [show n - s.length = 0 from by omega]; rfl

theorem padS_len (s : List UInt8) (n : Nat) : (padS s n).length ≤ s.length + n := by unfold padS; rw [List.length_append, List.length_replicate]; omega

theorem rightS_step {s : List UInt8} {n : Nat} (h : s.length < n) : rightS (32 :: s) n = rightS s n := by
  unfold rightS
  obtain ⟨k, hk⟩ : ∃ k, n - s.length = k + 1 := ⟨n - s.length - 1, by omega⟩
  rw [hk, show n - (32 :: s : List UInt8).length = k from by simp; omega, List.replicate_succ', List.append_assoc]; rfl

theorem rightS_done {s : List UInt8} {n : Nat} (h : ¬ s.length < n) : rightS s n = s := by
  unfold rightS
  rw [show n - s.length = 0 from by omega]; rfl

theorem rightS_len (s : List UInt8) (n : Nat) : (rightS s n).length ≤ s.length + n := by unfold rightS; rw [List.length_append, List.length_replicate]; omega

def upB (c : UInt8) : UInt8 := if 97 ≤ c.toNat then UInt8.ofNat (c.toNat - 32) else c

/-- A number in large hexadecimal digits, at least so many. -/
def upS (n k : Nat) : List UInt8 := (padS (hexS n) k).map upB

theorem upS_len {n : Nat} (h : n < 18446744073709551616) (k : Nat) : (upS n k).length ≤ 16 + k := by
  unfold upS
  rw [List.length_map]
  have := padS_len (hexS n) k
  have := hexS_len16 h
  omega

/-- A large hexadecimal digit. -/
def addrC (c : UInt8) : Bool := decide (digitV c.toNat ≤ 15) && decide (c.toNat < 97)

theorem addrC_spec {c : UInt8} (h : addrC c = true) : (48 ≤ c.toNat ∧ c.toNat ≤ 57) ∨ (65 ≤ c.toNat ∧ c.toNat ≤ 70) := by
  unfold addrC at h
  simp only [Bool.and_eq_true, decide_eq_true_eq] at h
  obtain ⟨h1, h2⟩ := h
  unfold digitV at h1
  split at h1
  · omega
  · split at h1
    · omega
    · split at h1 <;> omega

theorem addrC_word {c : UInt8} (h : addrC c = true) : wordC c = true ∧ c.toNat ≠ 58 := by
  have := addrC_spec h
  refine ⟨?_, by omega⟩
  unfold wordC
  simp only [Bool.and_eq_true, decide_eq_true_eq]
  omega

theorem upB_hexC {d : Nat} (h : d < 16) : (upB (hexC d)).toNat = (if d < 10 then 48 + d else 55 + d) := by
  unfold upB
  rw [hexC_toNat h]
  by_cases hd : d < 10
  · rw [if_pos hd, if_pos hd, if_neg (by omega), hexC_toNat h, if_pos hd]
  · rw [if_neg hd, if_neg hd, if_pos (by omega)]
    simp; omega

theorem upB_digit {d : Nat} (h : d < 16) : digitV (upB (hexC d)).toNat = d ∧ addrC (upB (hexC d)) = true := by
  have h1 := upB_hexC h
  have h2 : digitV (upB (hexC d)).toNat = d := by
    rw [h1]; unfold digitV
    (repeat' split) <;> omega
  refine ⟨h2, ?_⟩
  unfold addrC
  rw [h2, h1]
  simp only [Bool.and_eq_true, decide_eq_true_eq]
  split <;> omega

def hexN (a : Nat) (s : List UInt8) : Nat := s.foldl (fun a c => a * 16 + digitV c.toNat) a

theorem hexN_nil (a : Nat) : hexN a [] = a := by unfold hexN; rw [List.foldl_nil]
theorem hexN_cons (a : Nat) (c : UInt8) (s : List UInt8) : hexN a (c :: s) = hexN (a * 16 + digitV c.toNat) s := by unfold hexN; rw [List.foldl_cons]
theorem hexN_append (s t : List UInt8) (a : Nat) : hexN a (s ++ t) = hexN (hexN a s) t := by unfold hexN; rw [List.foldl_append]

theorem hexN_ge : ∀ (s : List UInt8) (a : Nat), a ≤ hexN a s
  | [], a => by rw [hexN_nil]; exact Nat.le_refl _
  | c :: s, a => by rw [hexN_cons]; have := hexN_ge s (a * 16 + digitV c.toNat); omega

theorem hexN_noughts : ∀ k : Nat, hexN 0 (List.replicate k 48) = 0
  | 0 => by rw [List.replicate_zero, hexN_nil]
  | k + 1 => by rw [List.replicate_succ, hexN_cons]; exact hexN_noughts k

theorem hexS_hex (n : Nat) : hexN 0 ((hexS n).map upB) = n ∧ (∀ c ∈ (hexS n).map upB, addrC c = true) ∧ hexS n ≠ [] := by
  induction n using Nat.strongRecOn with
  | _ n ih =>
    by_cases h : n < 16
    · rw [hexS_small h]
      obtain ⟨h1, h2⟩ := upB_digit h
      refine ⟨?_, by simpa using h2, by simp⟩
      rw [List.map_cons, List.map_nil, hexN_cons, hexN_nil, h1]; omega
    · rw [hexS_step h]
      obtain ⟨g1, g2, g3⟩ := ih (n / 16) (by omega)
      obtain ⟨h1, h2⟩ := upB_digit (d := n % 16) (by omega)
      refine ⟨?_, ?_, by simp⟩
      · rw [List.map_append, hexN_append, g1, List.map_cons, List.map_nil, hexN_cons, hexN_nil, h1]; omega
      · intro c hc
        rw [List.map_append] at hc
        rcases List.mem_append.1 hc with hc | hc
        · exact g2 c hc
        · simp only [List.map_cons, List.map_nil, List.mem_singleton] at hc
          rw [hc]; exact h2

theorem upS_hex (n k : Nat) : hexN 0 (upS n k) = n ∧ (∀ c ∈ upS n k, addrC c = true) ∧ upS n k ≠ [] := by
  obtain ⟨h1, h2, h3⟩ := hexS_hex n
  have e : upS n k = List.replicate (k - (hexS n).length) 48 ++ (hexS n).map upB := by
    unfold upS padS
    rw [List.map_append, List.map_replicate]; rfl
  rw [e]
  refine ⟨by rw [hexN_append, hexN_noughts, h1], fun c hc => ?_, by simp [h3]⟩
  rcases List.mem_append.1 hc with hc | hc
  · rw [(List.mem_replicate.1 hc).2]; decide
  · exact h2 c hc

theorem numV_hex : ∀ (s : List UInt8) (a : Nat), (∀ c ∈ s, digitV c.toNat < 16) → hexN a s < 18446744073709551616 → numV 16 a s = some (hexN a s)
  | [], a, _, _ => by rw [hexN_nil]; rfl
  | c :: s, a, h, hb => by
    have h1 := h c (by simp)
    rw [hexN_cons] at hb ⊢
    have h2 := hexN_ge s (a * 16 + digitV c.toNat)
    simp only [numV]
    rw [if_neg (by omega)]
    exact numV_hex s _ (fun x hx => h x (by simp [hx])) hb

theorem numV_hexN : ∀ (s : List UInt8) (a m : Nat), numV 16 a s = some m → m = hexN a s ∧ ∀ c ∈ s, digitV c.toNat < 16
  | [], a, m, h => by simp only [numV, Option.some.injEq] at h; rw [hexN_nil]; exact ⟨h.symm, by simp⟩
  | c :: s, a, m, h => by
    simp only [numV] at h
    split at h
    · simp at h
    · rename_i hc
      obtain ⟨h1, h2⟩ := numV_hexN s _ m h
      rw [hexN_cons]
      refine ⟨h1, fun x hx => ?_⟩
      rcases List.mem_cons.1 hx with rfl | hx
      · omega
      · exact h2 x hx

/-- A hexadecimal number. -/
def hexV (s : List UInt8) : Option Nat := match numV 16 0 s with
  | some m => if s = [] then none else some m
  | none => none

theorem hexV_spec {s : List UInt8} {m : Nat} (h : hexV s = some m) : numV 16 0 s = some m ∧ s ≠ [] ∧ m < 18446744073709551616 ∧ m = hexN 0 s ∧ ∀ c ∈ s, digitV c.toNat < 16 := by
  unfold hexV at h
  split at h
  · rename_i v hv
    split at h <;> simp only [Option.some.injEq, reduceCtorEq] at h
    subst h
    rename_i hne
    obtain ⟨g1, g2⟩ := numV_hexN s 0 _ hv
    exact ⟨hv, hne, numV_lt (by omega) s 0 _ (by omega) hv, g1, g2⟩
  · simp at h

theorem hexV_upS {n k : Nat} (h : n < 18446744073709551616) : hexV (upS n k) = some n := by
  obtain ⟨h1, h2, h3⟩ := upS_hex n k
  unfold hexV
  rw [numV_hex (upS n k) 0 (fun c hc => by
    have := h2 c hc
    unfold addrC at this
    simp only [Bool.and_eq_true, decide_eq_true_eq] at this
    omega) (by rw [h1]; exact h), h1]
  simp [h3]

def hexsV : List (List UInt8) → Option (List Nat)
  | [] => some []
  | s :: l => match hexV s with
    | some m => match hexsV l with
      | some ms => some (m :: ms)
      | none => none
    | none => none

end Go.Ev

set_option linter.unusedSimpArgs false
set_option linter.unusedVariables false
namespace Go.Ev
open Go.Proofs

def skHeadL : List UInt8 := [32, 32, 115, 108, 32, 32, 108, 111, 99, 97, 108, 95, 97, 100, 100, 114, 101, 115, 115, 32, 114, 101, 109, 95, 97, 100, 100, 114, 101, 115, 115, 32, 32, 32, 115, 116, 32, 116, 120, 95, 113, 117, 101, 117, 101, 32, 114, 120, 95, 113, 117, 101, 117, 101, 32, 116, 114, 32, 116, 109, 45, 62, 119, 104, 101, 110, 32, 114, 101, 116, 114, 110, 115, 109, 116, 32, 32, 32, 117, 105, 100, 32, 32, 116, 105, 109, 101, 111, 117, 116, 32, 105, 110, 111, 100, 101]

def skHead : List UInt8 := skHeadL ++ [10]

def addrOk (s : List UInt8) (n : Nat) : Bool := (decide (s.length = 8) || decide (s.length = 32)) && decide (s.length = n) && s.all addrC

/-- Is the row a socket? -/
def skOk (drops : Bool) (r : RowD) : Bool := match r.N, r.S with
  | [n0, n1, n2, n3, n4, n5, n6, n7, n8], [a, b] =>
    decide (n0 < 2147483648) && decide (n1 < 65536) && decide (n2 < 65536) && decide (1 ≤ n3) && decide (n3 ≤ 12) && decide (n4 < 4294967296) && decide (n5 < 4294967296) && decide (n6 < 4294967296) &&
      decide (n7 < 9223372036854775808) && decide (n8 < 9223372036854775808) && (drops || decide (n8 = 0)) && (r.name == []) && addrOk a a.length && addrOk b a.length
  | _, _ => false

structure SkR (drops : Bool) (r : RowD) (n0 n1 n2 n3 n4 n5 n6 n7 n8 : Nat) (a b : List UInt8) : Prop where
  hN : r.N = [n0, n1, n2, n3, n4, n5, n6, n7, n8]
  hS : r.S = [a, b]
  hn : r.name = []
  h0 : n0 < 2147483648
  h1 : n1 < 65536
  h2 : n2 < 65536
  h3 : 1 ≤ n3 ∧ n3 ≤ 12
  h4 : n4 < 4294967296
  h5 : n5 < 4294967296
  h6 : n6 < 4294967296
  h7 : n7 < 9223372036854775808
  h8 : n8 < 9223372036854775808
  hd : drops = true ∨ n8 = 0
  ha : a.length = 8 ∨ a.length = 32
  hb : b.length = a.length
  ca : ∀ c ∈ a, addrC c = true
  cb : ∀ c ∈ b, addrC c = true

theorem skOk_spec {drops : Bool} {r : RowD} (h : skOk drops r = true) : ∃ n0 n1 n2 n3 n4 n5 n6 n7 n8 a b, SkR drops r n0 n1 n2 n3 n4 n5 n6 n7 n8 a b := by
  unfold skOk at h
  split at h
  · rename_i n0 n1 n2 n3 n4 n5 n6 n7 n8 a b hN hS
    simp only [addrOk, Bool.and_eq_true, Bool.or_eq_true, decide_eq_true_eq, beq_iff_eq, List.all_eq_true] at h
    obtain ⟨⟨⟨⟨⟨⟨⟨⟨⟨⟨⟨⟨⟨h0, h1⟩, h2⟩, h3⟩, h3'⟩, h4⟩, h5⟩, h6⟩, h7⟩, h8⟩, hd⟩, hn⟩, ⟨ha, _⟩, ca⟩, ⟨_, hb⟩, cb⟩ := h
    exact ⟨n0, n1, n2, n3, n4, n5, n6, n7, n8, a, b, hN, hS, hn, h0, h1, h2, ⟨h3, h3'⟩, h4, h5, h6, h7, h8, hd, ha, hb, ca, cb⟩
  · simp at h

def skLast (drops : Bool) (n8 : Nat) : List UInt8 := if drops then [32, 50, 32, 48, 48, 48, 48, 48, 48, 48, 48, 48, 48, 48, 48, 48, 48, 48, 48, 32] ++ decS n8 else [32, 49, 32, 48, 48, 48, 48, 48, 48, 48, 48, 48, 48, 48, 48, 48, 48, 48, 48, 32, 49, 48, 48, 32, 48, 32, 48, 32, 49, 48, 32, 48]

/-- A socket's line. -/
def skBody (drops : Bool) (r : RowD) : List UInt8 := match r.N, r.S with
  | [n0, n1, n2, n3, n4, n5, n6, n7, n8], [a, b] =>
    rightS (decS n0) 4 ++ ([58, 32] ++ (a ++ ([58] ++ (upS n1 4 ++ ([32] ++ (b ++ ([58] ++ (upS n2 4 ++ ([32] ++ (upS n3 2 ++ ([32] ++ (upS n4 8 ++ ([58] ++ (upS n5 8 ++
      ([32, 48, 48, 58, 48, 48, 48, 48, 48, 48, 48, 48, 32, 48, 48, 48, 48, 48, 48, 48, 48, 32] ++ (rightS (decS n6) 5 ++ ([32, 32, 32, 32, 32, 32, 32, 32, 48, 32] ++ (decS n7 ++ skLast drops n8))))))))))))))))))
  | _, _ => []

def skText (drops : Bool) (rs : List RowD) : List UInt8 := skHead ++ (rs.map fun r => skBody drops r ++ [10]).flatten

/-! ### What the reference reads -/

def endsC (s : List UInt8) : Bool := decide (1 ≤ s.length) && (s.drop (s.length - 1) == [58])

def skV (f0 f1 f2 f3 f4 f7 f9 last : List UInt8) : Option RowD :=
  match partG 58 [] f1, partG 58 [] f2, partG 58 [] f4 with
  | [a0, a1], [b0, b1], [q0, q1] => match decsV [f0.take (f0.length - 1), f7, f9, last] with
    | some [d0, d1, d2, d3] => match hexsV [a1, b1, f3, q0, q1] with
      | some [h0, h1, h2, h3, h4] => some ⟨[], [d0, h0, h1, h2, h3, h4, d1, d2, d3], [a0, b0]⟩
      | _ => none
    | _ => none
  | _, _, _ => none

def skFld (f : List (List UInt8)) (i : Nat) : List UInt8 := f.getD i []

def skLineV (drops : Bool) (f : List (List UInt8)) : Option RowD :=
  if f.length = (if drops then 13 else 17) ∧ endsC (skFld f 0) = true then
    skV (skFld f 0) (skFld f 1) (skFld f 2) (skFld f 3) (skFld f 4) (skFld f 7) (skFld f 9) (if drops then skFld f 12 else [48])
  else none

def skTabV (drops : Bool) : List (List UInt8) → Option (List RowD)
  | [] => some []
  | s :: l => match skLineV drops (fieldsL s) with
    | some r => match skTabV drops l with
      | some rs => some (r :: rs)
      | none => none
    | none => none

/-- What the reference reads, where it tells. -/
def skRead (drops : Bool) (s : List UInt8) : Option (List RowD) :=
  if s.all plainC = true ∧ s.take skHead.length = skHead then match skTabV drops (linesL (s.drop skHead.length)) with
    | some rs => if rs.all (skOk drops) = true then some rs else none
    | none => none
  else none

/-! ### What is written is read -/

theorem fieldG_right {w rest : List UInt8} {n : Nat} : fieldG [] (rightS w n ++ rest) = fieldG [] (w ++ rest) := by
  unfold rightS
  rw [List.append_assoc]
  exact fieldG_skip _ _

theorem decS_word (n : Nat) : decS n ≠ [] ∧ ∀ c ∈ decS n, blankC c = false ∧ c.toNat ≠ 58 ∧ c.toNat ≠ 10 := by
  obtain ⟨_, h1, h2⟩ := decS_dig n
  refine ⟨h2, fun c hc => ?_⟩
  have := digC_iff.1 (h1 c hc)
  refine ⟨(digC_blank (h1 c hc)).1, by omega, by omega⟩

theorem upS_word (n k : Nat) : upS n k ≠ [] ∧ ∀ c ∈ upS n k, blankC c = false ∧ c.toNat ≠ 58 := by
  obtain ⟨_, h1, h2⟩ := upS_hex n k
  refine ⟨h2, fun c hc => ?_⟩
  obtain ⟨g1, g2⟩ := addrC_word (h1 c hc)
  exact ⟨(wordC_blank g1).1, g2⟩

/-- Two words and a colon between. -/
def two (a b : List UInt8) : List UInt8 := a ++ ([58] ++ b)

theorem two_word {a b : List UInt8} (ha : ∀ c ∈ a, blankC c = false) (hb : ∀ c ∈ b, blankC c = false) : two a b ≠ [] ∧ ∀ c ∈ two a b, blankC c = false := by
  refine ⟨by simp [two], fun c hc => ?_⟩
  unfold two at hc
  rcases List.mem_append.1 hc with hc | hc
  · exact ha c hc
  · rcases List.mem_append.1 hc with hc | hc
    · obtain rfl := List.mem_singleton.1 hc; decide
    · exact hb c hc

theorem fieldG_word1 {w rest : List UInt8} (h : w ≠ [] ∧ ∀ c ∈ w, blankC c = false) : fieldG [] (w ++ ([32] ++ rest)) = w :: fieldG [] rest :=
  fieldG_sep h.1 h.2 (by decide)

theorem skLast_fields (drops : Bool) (n7 n8 : Nat) : fieldG [] (decS n7 ++ skLast drops n8) = decS n7 :: (if drops then [[50], List.replicate 16 48, decS n8] else [[49], List.replicate 16 48, [49, 48, 48], [48], [48], [49, 48], [48]]) := by
  have h7 := decS_word n7
  have h8 := decS_word n8
  cases drops with
  | true =>
    simp only [skLast, if_true]
    rw [show ([32, 50, 32, 48, 48, 48, 48, 48, 48, 48, 48, 48, 48, 48, 48, 48, 48, 48, 48, 32] ++ decS n8 : List UInt8) = [32] ++ ([50] ++ ([32] ++ (List.replicate 16 48 ++ ([32] ++ decS n8)))) from rfl]
    rw [fieldG_word1 ⟨h7.1, fun c hc => (h7.2 c hc).1⟩, fieldG_word1 ⟨by decide, by decide⟩, fieldG_word1 ⟨by decide, by decide⟩, fieldG_last h8.1 (fun c hc => (h8.2 c hc).1)]
  | false =>
    simp only [skLast, Bool.false_eq_true, if_false]
    rw [show ([32, 49, 32, 48, 48, 48, 48, 48, 48, 48, 48, 48, 48, 48, 48, 48, 48, 48, 48, 32, 49, 48, 48, 32, 48, 32, 48, 32, 49, 48, 32, 48] : List UInt8) = [32] ++ ([49] ++ ([32] ++ (List.replicate 16 48 ++ ([32] ++ ([49, 48, 48] ++ ([32] ++ ([48] ++ ([32] ++ ([48] ++ ([32] ++ ([49, 48] ++ ([32] ++ [48])))))))))))) from rfl]
    rw [fieldG_word1 ⟨h7.1, fun c hc => (h7.2 c hc).1⟩, fieldG_word1 ⟨by decide, by decide⟩, fieldG_word1 ⟨by decide, by decide⟩, fieldG_word1 ⟨by decide, by decide⟩, fieldG_word1 ⟨by decide, by decide⟩, fieldG_word1 ⟨by decide, by decide⟩, fieldG_word1 ⟨by decide, by decide⟩, fieldG_last (by decide) (by decide)]

theorem skBody_fields {drops : Bool} {r : RowD} {n0 n1 n2 n3 n4 n5 n6 n7 n8 : Nat} {a b : List UInt8} (h : SkR drops r n0 n1 n2 n3 n4 n5 n6 n7 n8 a b) :
    fieldsL (skBody drops r) = (decS n0 ++ [58]) :: two a (upS n1 4) :: two b (upS n2 4) :: upS n3 2 :: two (upS n4 8) (upS n5 8) :: [48, 48, 58, 48, 48, 48, 48, 48, 48, 48, 48] :: [48, 48, 48, 48, 48, 48, 48, 48] :: decS n6 :: [48] :: decS n7 :: (if drops then [[50], List.replicate 16 48, decS n8] else [[49], List.replicate 16 48, [49, 48, 48], [48], [48], [49, 48], [48]]) := by
  rw [fieldsL_eq]
  unfold skBody
  simp only [h.hN, h.hS]
  have bl : ∀ {n : Nat}, ∀ c ∈ decS n, blankC c = false := fun c hc => ((decS_word _).2 c hc).1
  have bu : ∀ {n k : Nat}, ∀ c ∈ upS n k, blankC c = false := fun c hc => ((upS_word _ _).2 c hc).1
  have ba : ∀ c ∈ a, blankC c = false := fun c hc => (wordC_blank (addrC_word (h.ca c hc)).1).1
  have bb : ∀ c ∈ b, blankC c = false := fun c hc => (wordC_blank (addrC_word (h.cb c hc)).1).1
  rw [fieldG_right]
  rw [show ∀ x : List UInt8, decS n0 ++ ([58, 32] ++ x) = (decS n0 ++ [58]) ++ ([32] ++ x) from fun x => by simp]
  rw [fieldG_word1 ⟨by simp, fun c hc => by
    rcases List.mem_append.1 hc with hc | hc
    · exact bl c hc
    · obtain rfl := List.mem_singleton.1 hc; decide⟩]
  rw [show ∀ u v x : List UInt8, u ++ ([58] ++ (v ++ x)) = two u v ++ x from fun u v x => by simp [two]]
  rw [fieldG_word1 (two_word ba bu)]
  rw [show ∀ u v x : List UInt8, u ++ ([58] ++ (v ++ x)) = two u v ++ x from fun u v x => by simp [two]]
  rw [fieldG_word1 (two_word bb bu), fieldG_word1 ⟨(upS_word _ _).1, bu⟩]
  rw [show ∀ u v x : List UInt8, u ++ ([58] ++ (v ++ x)) = two u v ++ x from fun u v x => by simp [two]]
  rw [show ∀ x : List UInt8, ([32, 48, 48, 58, 48, 48, 48, 48, 48, 48, 48, 48, 32, 48, 48, 48, 48, 48, 48, 48, 48, 32] ++ x) = [32] ++ ([48, 48, 58, 48, 48, 48, 48, 48, 48, 48, 48] ++ ([32] ++ ([48, 48, 48, 48, 48, 48, 48, 48] ++ ([32] ++ x)))) from fun x => rfl]
  rw [fieldG_word1 (two_word bu bu), fieldG_word1 ⟨by decide, by decide⟩, fieldG_word1 ⟨by decide, by decide⟩, fieldG_right]
  rw [show ∀ x : List UInt8, ([32, 32, 32, 32, 32, 32, 32, 32, 48, 32] ++ x) = [32] ++ (List.replicate 7 32 ++ ([48] ++ ([32] ++ x))) from fun x => rfl]
  rw [fieldG_word1 ⟨(decS_word _).1, bl⟩, fieldG_skip, fieldG_word1 ⟨by decide, by decide⟩, skLast_fields]

theorem decsV_dec : ∀ {ns : List Nat}, (∀ n ∈ ns, n < 18446744073709551616) → decsV (ns.map decS) = some ns
  | [], _ => rfl
  | n :: ns, h => by
    have ih := decsV_dec (ns := ns) (fun m hm => h m (List.mem_cons_of_mem _ hm))
    simp only [List.map_cons, decsV, decV_decS (h n (by simp)), ih]

theorem two_parts {a b : List UInt8} (ha : ∀ c ∈ a, c.toNat ≠ 58) (hb : ∀ c ∈ b, c.toNat ≠ 58) : partG 58 [] (two a b) = [a, b] :=
  partG_two (b := 58) ha hb

theorem skLine_body {drops : Bool} {r : RowD} (h : skOk drops r = true) : skLineV drops (fieldsL (skBody drops r)) = some r := by
  obtain ⟨n0, n1, n2, n3, n4, n5, n6, n7, n8, a, b, hs⟩ := skOk_spec h
  have e0 : endsC (decS n0 ++ [58]) = true := by
    unfold endsC
    rw [List.length_append, show (decS n0).length + [(58 : UInt8)].length - 1 = (decS n0).length from by simp, List.drop_left]
    simp
  have e1 : (decS n0 ++ [58]).take ((decS n0 ++ [58]).length - 1) = decS n0 := by
    rw [List.length_append, show (decS n0).length + [(58 : UInt8)].length - 1 = (decS n0).length from by simp, List.take_left]
  have cu : ∀ {n k : Nat}, ∀ c ∈ upS n k, c.toNat ≠ 58 := fun c hc => ((upS_word _ _).2 c hc).2
  have ca : ∀ c ∈ a, c.toNat ≠ 58 := fun c hc => (addrC_word (hs.ca c hc)).2
  have cb : ∀ c ∈ b, c.toNat ≠ 58 := fun c hc => (addrC_word (hs.cb c hc)).2
  have hd : ∀ {m : Nat}, m < 18446744073709551616 → decsV [decS n0, decS n6, decS n7, decS m] = some [n0, n6, n7, m] := fun {m} hm => by
    refine decsV_dec (ns := [n0, n6, n7, m]) fun n hn => ?_
    have := hs.h0; have := hs.h6; have := hs.h7
    simp only [List.mem_cons, List.not_mem_nil, or_false] at hn
    rcases hn with rfl | rfl | rfl | rfl <;> omega
  have hx : hexsV [upS n1 4, upS n2 4, upS n3 2, upS n4 8, upS n5 8] = some [n1, n2, n3, n4, n5] := by
    have := hs.h1; have := hs.h2; have := hs.h3; have := hs.h4; have := hs.h5
    simp only [hexsV, hexV_upS (show n1 < 18446744073709551616 by omega), hexV_upS (show n2 < 18446744073709551616 by omega), hexV_upS (show n3 < 18446744073709551616 by omega), hexV_upS (show n4 < 18446744073709551616 by omega), hexV_upS (show n5 < 18446744073709551616 by omega)]
  have h8 := hs.h8
  have key : ∀ m, m < 18446744073709551616 → skV (decS n0 ++ [58]) (two a (upS n1 4)) (two b (upS n2 4)) (upS n3 2) (two (upS n4 8) (upS n5 8)) (decS n6) (decS n7) (decS m) = some ⟨[], [n0, n1, n2, n3, n4, n5, n6, n7, m], [a, b]⟩ := by
    intro m hm
    unfold skV
    simp only [two_parts ca cu, two_parts cb cu, two_parts cu cu, e1, hd hm, hx]
  have hr : r = ⟨[], [n0, n1, n2, n3, n4, n5, n6, n7, n8], [a, b]⟩ := by
    obtain ⟨nm, N, S⟩ := r
    have h1 := hs.hN; have h2 := hs.hS; have h3 := hs.hn
    simp only at h1 h2 h3
    rw [h1, h2, h3]
  unfold skLineV
  rw [skBody_fields hs]
  cases drops with
  | true =>
    simp only [skFld, List.length_cons, List.length_nil, if_true, List.getD_cons_zero, List.getD_cons_succ]
    rw [if_pos ⟨trivial, e0⟩, key n8 (by omega), ← hr]
  | false =>
    have h0 : n8 = 0 := by
      rcases hs.hd with e | e
      · cases e
      · exact e
    simp only [skFld, List.length_cons, List.length_nil, Bool.false_eq_true, if_false, List.getD_cons_zero, List.getD_cons_succ]
    rw [if_pos ⟨trivial, e0⟩]
    have := key 0 (by omega)
    rw [show decS 0 = [48] from by rw [decS_small (by omega)]; rfl] at this
    rw [this, hr, h0]

theorem skTab_bodies {drops : Bool} : ∀ {rs : List RowD}, (∀ r ∈ rs, skOk drops r = true) → skTabV drops (rs.map (skBody drops)) = some rs
  | [], _ => rfl
  | r :: rs, h => by
    simp only [List.map_cons, skTabV, skLine_body (h r (by simp)), skTab_bodies (rs := rs) (fun q hq => h q (by simp [hq]))]

theorem plain_word {c : UInt8} (h : wordC c = true) : c.toNat ≠ 10 ∧ plainC c = true := ⟨(wordC_blank h).2, wordC_plain h⟩

theorem skBody_chars {drops : Bool} {r : RowD} (h : skOk drops r = true) : ∀ c ∈ skBody drops r, c.toNat ≠ 10 ∧ plainC c = true := by
  obtain ⟨n0, n1, n2, n3, n4, n5, n6, n7, n8, a, b, hs⟩ := skOk_spec h
  have bl : ∀ {n : Nat}, ∀ c ∈ decS n, c.toNat ≠ 10 ∧ plainC c = true := fun {n} c hc => by
    obtain ⟨_, g1, _⟩ := decS_dig n
    exact ⟨(digC_blank (g1 c hc)).2, digC_plain (g1 c hc)⟩
  have bu : ∀ {n k : Nat}, ∀ c ∈ upS n k, c.toNat ≠ 10 ∧ plainC c = true := fun {n k} c hc => by
    obtain ⟨_, g1, _⟩ := upS_hex n k
    exact plain_word (addrC_word (g1 c hc)).1
  have ba : ∀ c ∈ a, c.toNat ≠ 10 ∧ plainC c = true := fun c hc => plain_word (addrC_word (hs.ca c hc)).1
  have bb : ∀ c ∈ b, c.toNat ≠ 10 ∧ plainC c = true := fun c hc => plain_word (addrC_word (hs.cb c hc)).1
  have br : ∀ {n k : Nat}, ∀ c ∈ rightS (decS n) k, c.toNat ≠ 10 ∧ plainC c = true := fun {n k} c hc => by
    unfold rightS at hc
    rcases List.mem_append.1 hc with hc | hc
    · rw [(List.mem_replicate.1 hc).2]; decide
    · exact bl c hc
  have lit : ∀ l : List UInt8, l.all (fun c => decide (c.toNat ≠ 10) && plainC c) = true → ∀ c ∈ l, c.toNat ≠ 10 ∧ plainC c = true := fun l hl c hc => by
    have := List.all_eq_true.1 hl c hc
    simpa using this
  have bk : ∀ c ∈ skLast drops n8, c.toNat ≠ 10 ∧ plainC c = true := by
    unfold skLast
    cases drops with
    | true =>
      simp only [if_true]
      intro c hc
      rcases List.mem_append.1 hc with hc | hc
      · exact lit _ (by decide) c hc
      · exact bl c hc
    | false => simp only [Bool.false_eq_true, if_false]; exact lit _ (by decide)
  have app : ∀ {x y : List UInt8}, (∀ c ∈ x, c.toNat ≠ 10 ∧ plainC c = true) → (∀ c ∈ y, c.toNat ≠ 10 ∧ plainC c = true) → ∀ c ∈ x ++ y, c.toNat ≠ 10 ∧ plainC c = true := fun hx hy c hc => by
    rcases List.mem_append.1 hc with hc | hc
    · exact hx c hc
    · exact hy c hc
  unfold skBody
  simp only [hs.hN, hs.hS]
  exact app br (app (lit _ (by decide)) (app ba (app (lit _ (by decide)) (app bu (app (lit _ (by decide)) (app bb (app (lit _ (by decide)) (app bu (app (lit _ (by decide)) (app bu (app (lit _ (by decide)) (app bu (app (lit _ (by decide)) (app bu (app (lit _ (by decide)) (app br (app (lit _ (by decide)) (app bl bk))))))))))))))))))

theorem skText_lines {drops : Bool} {rs : List RowD} (h : ∀ r ∈ rs, skOk drops r = true) : linesL ((rs.map fun r => skBody drops r ++ [10]).flatten) = rs.map (skBody drops) := by
  rw [linesL_eq]
  have e : (rs.map fun r => skBody drops r ++ [10]) = (rs.map (skBody drops)).map fun l => l ++ [10] := by rw [List.map_map]; rfl
  rw [e]
  exact lineG_lines _ (fun l hl c hc => by
    obtain ⟨r, hr, rfl⟩ := List.mem_map.1 hl
    exact (skBody_chars (h r hr) c hc).1)

theorem skRead_text {drops : Bool} {rs : List RowD} (h : ∀ r ∈ rs, skOk drops r = true) : skRead drops (skText drops rs) = some rs := by
  unfold skRead
  have hp : (skText drops rs).all plainC = true := by
    rw [List.all_eq_true]
    intro c hc
    unfold skText at hc
    rcases List.mem_append.1 hc with hc | hc
    · have : skHead.all plainC = true := by decide
      exact List.all_eq_true.1 this c hc
    · obtain ⟨l, hl, hcl⟩ := List.mem_flatten.1 hc
      obtain ⟨r, hr, rfl⟩ := List.mem_map.1 hl
      rcases List.mem_append.1 hcl with hcl | hcl
      · exact (skBody_chars (h r hr) c hcl).2
      · obtain rfl := List.mem_singleton.1 hcl; decide
  have ht : (skText drops rs).take skHead.length = skHead := by unfold skText; rw [List.take_left]
  have hdp : (skText drops rs).drop skHead.length = (rs.map fun r => skBody drops r ++ [10]).flatten := by unfold skText; rw [List.drop_left]
  rw [if_pos ⟨hp, ht⟩, hdp, skText_lines h, skTab_bodies h]
  have : rs.all (skOk drops) = true := List.all_eq_true.2 h
  simp only [this, if_true]

end Go.Ev
