/- A scanner's step. -/
/- A scanner at the end. -/
/- strings.Fields: the words of a text of ASCII. -/
/- strings.Fields, whole. -/
/- strings.Fields of a text of ASCII. -/
/- Atoi of short decimal numbers. -/
/- One line of cgroups. -/
/- The rows of cgroups, read by the program. -/
/- The rows of cgroups, read by the program, whole. -/
/- The door of cgroups: trees of its rows. -/
/- The door of cgroups, whole. -/
/- The law's frame: read. -/
/- Lines and fields of any text, by recursion; a scanner over any text. -/
/- Texts padded, signed numbers, words. -/
/- Whole numbers, perhaps with a sign, as two's complements. -/
/- Atoi of numbers with a sign, of 64 bits. -/
/- Atoi, whole. -/
/- What is written of rows of swaps. -/
/- What is written of rows of swaps, whole; texts alike but for blanks. -/
/- The reading of swaps. -/
/- The reading of swaps: meant, where blanks do not count. -/
/- The reading of swaps, whole; their tree. -/
/- The plain law of swaps: what the reference reads the program can read. -/
/- The rows of swaps, read by the program. -/
/- The door of swaps. -/
/- What is written of swaps is read again; the law's frame: normal. -/
/- Reading of counters with names: numbers, sameness of names. -/
/- Counters of transformations: what is fine, what a text says. -/
/- Counters of transformations: the reference's reading. -/
/- Counters of transformations: the tree and the text. -/
/- Counters of transformations: their text. -/
/- Counters of transformations: the program's reading, whole. -/
/- Counters of transformations: what is written is read, and the laws. -/
/- Rows of an argument: what fits. -/
/- What is written is read as its tree: the law. -/
/- The table of functions, entry by entry: numbers, texts, lists. -/
/- The table of functions, entry by entry: swaps. -/
/- Entries of the counters of transformations. -/
/- The seat's tables; the sanity check by evaluation; what the listed variables hold. -/
/- Environments entry by entry. -/
/- Entries of the counters of transformations: what is written is read. -/
/- Tables of sockets: parts of a text, hexadecimal numbers, padding. -/
/- Tables of sockets: what is written, and what the reference reads. -/
import Derived.Test.YtcjebcenbimcgaaGreatDoorGap
import Derived.Test.YtcjebcenbimcgaaGreatDoorGan
import Derived.Test.YtcjebcenbimcgaaGreatDoorGai
import Derived.Test.YtcjebcenbimcgaaGreatDoorGak
import Derived.Test.YtcjebcenbimcgaaGreatDoorGam
import Derived.Test.YtcjebcenbimcgaaGreatDoorGao
import Derived.Laws.Externs
set_option linter.unusedSimpArgs false
set_option linter.unusedVariables false
namespace Go.Ev
open Go.Proofs
theorem loop88 (E : Env) (cf : CallF) (i : Nat) (bx : List Box) (left after_ : List UInt8) (m : Nat) (hb : bx[i]? = some (scanBox left [])) :
    ∀ (rest pre : List UInt8) (k : Nat), left = pre ++ rest ++ 10 :: after_ → left.length < 9223372036854775807 → (∀ c ∈ rest, c.toNat ≠ 10) → rest.length < k →
      rounds (evC E cf m b88_0) k { tm := [.ptr i 0, .sv .undef, .sv .undef, .sv (.int .i64 pre.length)] ++ List.replicate 104 (.sv .undef), lz := none, bx := bx, df := [] } =
        some (.exit 0, { tm := [.ptr i 0, .sv .undef, .sv .undef, .sv (.int .i64 (pre ++ rest).length)] ++ List.replicate 104 (.sv .undef), lz := none, bx := bx, df := [] }) := by
  simp only [scanBox] at hb
  intro rest
  induction rest with
  | nil =>
    intro pre k hsp hl hr hk
    obtain ⟨k, rfl⟩ : ∃ k', k = k' + 1 := ⟨k - 1, by omega⟩
    have hlt : pre.length < left.length := by rw [hsp]; simp
    have hc : ∀ h : pre.length < left.length, left[pre.length]'h = 10 := by subst hsp; simp
    simp [rounds, b88_0, List.replicate, hb, hlt, hc]
  | cons c rest ih =>
    intro pre k hsp hl hr hk
    obtain ⟨k, rfl⟩ : ∃ k', k = k' + 1 := ⟨k - 1, by omega⟩
    have hlt : pre.length < left.length := by rw [hsp]; simp
    have hc : ∀ h : pre.length < left.length, left[pre.length]'h = c := by subst hsp; simp
    have hne : ¬ (c.toNat : Int) = 10 := by have := hr c (by simp); omega
    have hneb : ((c.toNat : Int) == 10) = false := by simpa using hne
    have hnec : ((c.toNat : Int) != 10) = true := by simpa using hne
    have hw2 : IntKind.i64.wrap ((pre.length : Int) + 1) = ((pre ++ [c]).length : Int) := by rw [IntKind.wrap_i64]; simp; omega
    have := ih (pre ++ [c]) k (by rw [hsp]; simp) hl (fun x hx => hr x (by simp [hx])) (by simp at hk; omega)
    rw [show pre ++ [c] ++ rest = pre ++ c :: rest from by simp] at this
    rw [← this]
    simp [rounds, b88_0, List.replicate, hb, hlt, hc, hne, hneb, hnec, hw2]
theorem scan88 (E : Env) (h : E.code 117 = some c88) (i : Nat) (bx : List Box) (line after_ t : List UInt8) (hb : bx[i]? = some (scanBox (line ++ 10 :: after_) t)) (hl : line.length < 65536) (hal : after_.length < 1000000000) (hr : ∀ c ∈ line, c.toNat ≠ 10 ∧ c.toNat ≠ 13) (n : Nat) (hn : line.length < n) :
    evF E (n + 1) 117 [.ptr i 0] bx = some (.sv (.bool true), bx.set i (scanBox after_ line)) := by
  have hil : i < bx.length := (List.getElem?_eq_some_iff.1 hb).1
  have hb1 : (bx.set i (scanBox (line ++ 10 :: after_) []))[i]? = some (scanBox (line ++ 10 :: after_) []) := by simp [hil]
  have he := loop88 E (evF E n) i (bx.set i (scanBox (line ++ 10 :: after_) [])) (line ++ 10 :: after_) after_ n hb1 line [] n rfl (by simp; omega) (fun c hc => (hr c hc).1) hn
  simp only [scanBox, List.replicate, List.cons_append, List.nil_append, List.length_nil, Int.ofNat_zero, Int.natCast_zero] at he hb
  have hbi : ∀ h : i < bx.length, bx[i]'h = .live [.sv (.str (line ++ 10 :: after_)), .sv (.str t), .sv (.int .i64 65536), .sv .nilI] := fun h => by
    rw [List.getElem?_eq_getElem h] at hb; exact Option.some.inj hb
  have hw : IntKind.i64.wrap ((line.length : Int) + 1) = ((line.length + 1 : Nat) : Int) := by rw [IntKind.wrap_i64]; omega
  have g1 : ¬ (65536 : Int) ≤ (line.length : Int) := by omega
  have g2 : (line.length : Int) ≤ (line.length : Int) + ((after_.length : Int) + 1) := by omega
  have g3 : (line.length : Int) < (line.length : Int) + ((after_.length : Int) + 1) := by omega
  have g4 : (line.length : Int) + 1 ≤ (line.length : Int) + ((after_.length : Int) + 1) := by omega
  have g5 : (0 : Int) ≤ (line.length : Int) + ((after_.length : Int) + 1) := by omega
  have g6 : (0 : Int) ≤ (line.length : Int) + 1 := by omega
  have g7 : (line.length : Int) + 1 ≤ max ((line.length : Int) + ((after_.length : Int) + 1)) 0 := by omega
  have g8 : ((line.length : Int) + ((after_.length : Int) + 1)).toNat = line.length + (after_.length + 1) := by omega
  have ht : List.take line.length (line ++ 10 :: after_) = line := by simp
  have hd : List.drop (line.length + 1) (line ++ 10 :: after_) = after_ := by simp
  have hta : List.take (line.length + (after_.length + 1)) (line ++ 10 :: after_) = line ++ 10 :: after_ := List.take_of_length_le (by simp)
  simp only [evF, h]
  by_cases hl0 : line = []
  · subst hl0
    simp at *
    simp [c88, List.replicate, hbi, hil, he, scanBox, hw, g1, g2, g3, g4, g5, g6, ht, hd, hta]
  · have hpos : 0 < line.length := by
      cases line with
      | nil => exact absurd rfl hl0
      | cons x xs => simp
    have hposI : (0 : Int) < (line.length : Int) := by omega
    have wm : IntKind.i64.wrap ((line.length : Int) - 1) = ((line.length - 1 : Nat) : Int) := by rw [IntKind.wrap_i64]; omega
    have hlt1 : line.length - 1 < line.length := by omega
    have hlast := (hr (line[line.length - 1]'hlt1) (List.getElem_mem hlt1)).2
    have hl13 : ¬ ((line[line.length - 1]'hlt1).toNat : Int) = 13 := by omega
    have hl13b : (((line[line.length - 1]'hlt1).toNat : Int) == 13) = false := by simpa using hl13
    simp [c88, List.replicate, hbi, hil, he, scanBox, hw, g1, g2, g3, g4, g5, g6, ht, hd, hta, hpos, hposI, wm, hlt1, hl13, hl13b, g7, g8]
end Go.Ev

set_option linter.unusedSimpArgs false
set_option linter.unusedVariables false
namespace Go.Ev
open Go.Proofs
theorem scan88e (E : Env) (h : E.code 117 = some c88) (i : Nat) (bx : List Box) (t : List UInt8) (hb : bx[i]? = some (scanBox [] t)) (n : Nat) :
    evF E (n + 1) 117 [.ptr i 0] bx = some (.sv (.bool false), bx.set i (scanBox [] [])) := by
  have hil : i < bx.length := (List.getElem?_eq_some_iff.1 hb).1
  simp only [scanBox] at hb
  have hbi : ∀ h : i < bx.length, bx[i]'h = .live [.sv (.str []), .sv (.str t), .sv (.int .i64 65536), .sv .nilI] := fun h => by
    rw [List.getElem?_eq_getElem h] at hb; exact Option.some.inj hb
  simp only [evF, h]
  simp [c88, List.replicate, hbi, hil, scanBox]
end Go.Ev

set_option linter.unusedSimpArgs false
set_option linter.unusedVariables false
namespace Go.Ev
open Go.Proofs
def spC (c : UInt8) : Bool := (decide (9 ≤ c.toNat) && decide (c.toNat ≤ 13)) || c.toNat == 32
def spV (c : UInt8) : Nat := if spC c then 1 else 0
def SpT (E : Env) : Prop := ∀ c : UInt8, c.toNat < 128 → (E.glob 1).drop c.toNat = .int .u8 (spV c : Nat) :: (E.glob 1).drop (c.toNat + 1)
def wordsG (cur : List UInt8) : List UInt8 → List (List UInt8)
  | [] => if cur = [] then [] else [cur]
  | c :: cs => if spC c then (if cur = [] then wordsG [] cs else cur :: wordsG [] cs) else wordsG (cur ++ [c]) cs
def cntG (was : Bool) : List UInt8 → Nat
  | [] => 0
  | c :: cs => (if was && !spC c then 1 else 0) + cntG (spC c) cs
theorem cntG_len : ∀ (s cur : List UInt8), cntG (cur == []) s + (if cur = [] then 0 else 1) = (wordsG cur s).length
  | [], cur => by simp only [cntG, wordsG]; split <;> simp_all
  | c :: s, cur => by
    simp only [cntG, wordsG]
    cases hc : spC c with
    | true =>
      have := cntG_len s []
      by_cases h : cur = []
      · subst h; simp at this ⊢; omega
      · simp [h] at this ⊢; omega
    | false =>
      have := cntG_len s (cur ++ [c])
      have hb2 : (cur ++ [c] == []) = false := by simp
      have hb3 : ¬ (cur ++ [c] = []) := by simp
      rw [hb2, if_neg hb3] at this
      by_cases h : cur = []
      · subst h; simp at this ⊢; omega
      · have hb : (cur == []) = false := by simpa using h
        simp [h, hb] at this ⊢; omega
theorem spV_cases (c : UInt8) : (spC c = true ∧ spV c = 1) ∨ (spC c = false ∧ spV c = 0) := by
  unfold spV; cases spC c <;> simp
theorem loop127c (E : Env) (cf : CallF) (hT : SpT E) (s : List UInt8) (hs : s.length < 1000000000000) (m : Nat) :
    ∀ (rest pre : List UInt8) (n : Nat) (was : Bool) (bits : Nat) (k : Nat), s = pre ++ rest → (∀ c ∈ rest, c.toNat < 128) → n ≤ pre.length → bits < 128 → rest.length < k →
      ∃ bits' : Nat, bits' < 128 ∧ rounds (evC E cf m b127_3) k { tm := [.sv (.str s), .sv .undef, .sv .undef, .sv (.int .i64 n), .sv (.int .i64 (if was then 1 else 0)), .sv (.int .u8 bits), .sv (.int .i64 pre.length)] ++ List.replicate 99 (.sv .undef), lz := none, bx := [], df := [] } =
        some (.exit 0, { tm := [.sv (.str s), .sv .undef, .sv .undef, .sv (.int .i64 (n + cntG was rest : Nat)), .sv .undef, .sv (.int .u8 bits')] ++ List.replicate 100 (.sv .undef), lz := none, bx := [], df := [] }) := by
  intro rest
  induction rest with
  | nil =>
    intro pre n was bits k hsp hr hn hb hk
    obtain ⟨k, rfl⟩ : ∃ k', k = k' + 1 := ⟨k - 1, by omega⟩
    have hlt : ¬ (pre.length < s.length) := by rw [hsp]; simp
    exact ⟨bits, hb, by simp [rounds, b127_3, List.replicate, hlt, cntG]⟩
  | cons c rest ih =>
    intro pre n was bits k hsp hr hn hb hk
    obtain ⟨k, rfl⟩ : ∃ k', k = k' + 1 := ⟨k - 1, by omega⟩
    have hlt : pre.length < s.length := by rw [hsp]; simp
    have hc : ∀ h : pre.length < s.length, s[pre.length]'h = c := by subst hsp; simp
    have hw2 : IntKind.i64.wrap ((pre.length : Int) + 1) = ((pre ++ [c]).length : Int) := by rw [IntKind.wrap_i64]; simp; omega
    have hc8 := hr c (by simp)
    have hsp1 := hT c hc8
    have hor : IntKind.u8.wrap ((bits % 2 ^ IntKind.u8.bits ||| c.toNat % 2 ^ IntKind.u8.bits : Nat) : Int) = ((bits ||| c.toNat : Nat) : Int) := by
      have := Nat.or_lt_two_pow (n := 7) hb hc8
      rw [show IntKind.u8.bits = 8 from rfl, Nat.mod_eq_of_lt (by omega), Nat.mod_eq_of_lt (by omega), IntKind.wrap_u8]; omega
    have k0 : ∀ x : Int, x = 0 → IntKind.i64.wrap ((n : Int) + x) = n := by intro x hx; subst hx; rw [IntKind.wrap_i64]; omega
    have k1 : ∀ x : Int, x = 1 → IntKind.i64.wrap ((n : Int) + x) = (n : Int) + 1 := by intro x hx; subst hx; rw [IntKind.wrap_i64]; omega
    have hc256 : (c.toNat : Int) < 256 := by omega
    have hlo : bits ||| c.toNat < 128 := Nat.or_lt_two_pow (n := 7) hb hc8
    have hn1 : IntKind.i64.wrap ((n : Int) + 1) = ((n + 1 : Nat) : Int) := by rw [IntKind.wrap_i64]; omega
    have hn0 : IntKind.i64.wrap ((n : Int)) = (n : Int) := by rw [IntKind.wrap_i64]; omega
    have hwa1 : IntKind.i64.wrap 1 = 1 := by rw [IntKind.wrap_i64]; omega
    have hwa0 : IntKind.i64.wrap 0 = 0 := by rw [IntKind.wrap_i64]; omega
    rcases spV_cases c with ⟨h1, h2⟩ | ⟨h1, h2⟩
    · rw [h2] at hsp1
      obtain ⟨bits', hb', he⟩ := ih (pre ++ [c]) n true (bits ||| c.toNat) k (by rw [hsp]; simp) (fun x hx => hr x (by simp [hx])) (by simp; omega) hlo (by simp at hk; omega)
      refine ⟨bits', hb', ?_⟩
      have hcn : cntG was (c :: rest) = cntG true rest := by simp [cntG, h1]
      rw [hcn, ← he]
      refine rounds_step ?_
      cases was
      · simp [b127_3, List.replicate, hlt, hc, hc256, hsp1, hor, hw2, hwa1, hwa0, hn0]
      · simp [b127_3, List.replicate, hlt, hc, hc256, hsp1, hor, hw2, hwa1, hwa0, hn0]
        exact k0 _ (by decide)
    · rw [h2] at hsp1
      cases was with
      | true =>
        obtain ⟨bits', hb', he⟩ := ih (pre ++ [c]) (n + 1) false (bits ||| c.toNat) k (by rw [hsp]; simp) (fun x hx => hr x (by simp [hx])) (by simp; omega) hlo (by simp at hk; omega)
        refine ⟨bits', hb', ?_⟩
        have hcn : n + cntG true (c :: rest) = n + 1 + cntG false rest := by simp [cntG, h1]; omega
        rw [hcn, ← he]
        refine rounds_step ?_
        simp [b127_3, List.replicate, hlt, hc, hc256, hsp1, hor, hw2, hwa1, hwa0]
        exact k1 _ (by decide)
      | false =>
        obtain ⟨bits', hb', he⟩ := ih (pre ++ [c]) n false (bits ||| c.toNat) k (by rw [hsp]; simp) (fun x hx => hr x (by simp [hx])) (by simp; omega) hlo (by simp at hk; omega)
        refine ⟨bits', hb', ?_⟩
        have hcn : cntG false (c :: rest) = cntG false rest := by simp [cntG, h1]
        rw [hcn, ← he]
        refine rounds_step ?_
        simp [b127_3, List.replicate, hlt, hc, hc256, hsp1, hor, hw2, hwa1, hwa0, hn0]
end Go.Ev

set_option linter.unusedSimpArgs false
set_option linter.unusedVariables false
namespace Go.Ev
open Go.Proofs
def rowC (N : Nat) (ws : List (List UInt8)) : List Cell := ws.map (fun w => Cell.sv (.str w)) ++ List.replicate (N - ws.length) (Cell.sv (.str []))
theorem rowC_len {N : Nat} {ws : List (List UInt8)} (h : ws.length ≤ N) : (rowC N ws).length = N := by simp [rowC]; omega
theorem rowC_set {N : Nat} {ws : List (List UInt8)} (w : List UInt8) (h : ws.length < N) : (rowC N ws).set ws.length (.sv (.str w)) = rowC N (ws ++ [w]) := by
  obtain ⟨r, hr⟩ : ∃ r, N - ws.length = r + 1 := ⟨N - ws.length - 1, by omega⟩
  have hr2 : N - (ws ++ [w]).length = r := by simp; omega
  unfold rowC
  rw [hr, hr2, List.replicate_succ]
  simp
theorem loop127s (E : Env) (cf : CallF) (hT : SpT E) (s : List UInt8) (hs : s.length < 1000000000000) (m na N : Nat) (bx : List Box) :
    ∀ (rest pre : List UInt8) (k : Nat), s = pre ++ rest → (∀ c ∈ rest, c.toNat < 128) → rest.length < k →
      rounds (evC E cf m b127_2) k { tm := [.sv (.str s)] ++ List.replicate 8 (.sv .undef) ++ [.mrow 0 N 1, .sv (.int .i64 na), .sv .undef, .sv (.int .i64 pre.length)] ++ List.replicate 93 (.sv .undef), lz := none, bx := bx, df := [] } =
        some (.exit 2, { tm := [.sv (.str s)] ++ List.replicate 8 (.sv .undef) ++ [.mrow 0 N 1, .sv (.int .i64 na), .sv .undef, .sv (.int .i64 (pre ++ rest.takeWhile spC).length)] ++ List.replicate 93 (.sv .undef), lz := none, bx := bx, df := [] }) := by
  intro rest
  induction rest with
  | nil =>
    intro pre k hsp hr hk
    obtain ⟨k, rfl⟩ : ∃ k', k = k' + 1 := ⟨k - 1, by omega⟩
    have hlt : ¬ (pre.length < s.length) := by rw [hsp]; simp
    refine rounds_out ?_ (by simp)
    simp [b127_2, List.replicate, hlt]
  | cons c rest ih =>
    intro pre k hsp hr hk
    obtain ⟨k, rfl⟩ : ∃ k', k = k' + 1 := ⟨k - 1, by omega⟩
    have hlt : pre.length < s.length := by rw [hsp]; simp
    have hc : ∀ h : pre.length < s.length, s[pre.length]'h = c := by subst hsp; simp
    have hw2 : IntKind.i64.wrap ((pre.length : Int) + 1) = ((pre ++ [c]).length : Int) := by rw [IntKind.wrap_i64]; simp; omega
    have hc8 := hr c (by simp)
    have hsp1 := hT c hc8
    have hc256 : (c.toNat : Int) < 256 := by omega
    rcases spV_cases c with ⟨h1, h2⟩ | ⟨h1, h2⟩
    · rw [h2] at hsp1
      have he := ih (pre ++ [c]) k (by rw [hsp]; simp) (fun x hx => hr x (by simp [hx])) (by simp at hk; omega)
      rw [List.takeWhile_cons, h1, if_pos rfl, show pre ++ c :: rest.takeWhile spC = pre ++ [c] ++ rest.takeWhile spC from by simp, ← he]
      refine rounds_step ?_
      simp [b127_2, List.replicate, hlt, hc, hc256, hsp1, hw2]
    · rw [h2] at hsp1
      rw [List.takeWhile_cons, h1, if_neg (by simp)]
      refine rounds_out ?_ (by simp)
      simp [b127_2, List.replicate, hlt, hc, hc256, hsp1, hw2]
theorem loop127t (E : Env) (cf : CallF) (hT : SpT E) (s : List UInt8) (hs : s.length < 1000000000000) (m na N : Nat) (bx : List Box) :
    ∀ (rest pre : List UInt8) (k : Nat), s = pre ++ rest → (∀ c ∈ rest, c.toNat < 128) → rest.length < k →
      rounds (evC E cf m b127_0) k { tm := [.sv (.str s)] ++ List.replicate 8 (.sv .undef) ++ [.mrow 0 N 1, .sv (.int .i64 na), .sv .undef, .sv (.int .i64 pre.length)] ++ List.replicate 93 (.sv .undef), lz := none, bx := bx, df := [] } =
        some (.exit 6, { tm := [.sv (.str s)] ++ List.replicate 8 (.sv .undef) ++ [.mrow 0 N 1, .sv (.int .i64 na), .sv .undef, .sv (.int .i64 (pre ++ rest.takeWhile spC).length)] ++ List.replicate 93 (.sv .undef), lz := none, bx := bx, df := [] }) := by
  intro rest
  induction rest with
  | nil =>
    intro pre k hsp hr hk
    obtain ⟨k, rfl⟩ : ∃ k', k = k' + 1 := ⟨k - 1, by omega⟩
    have hlt : ¬ (pre.length < s.length) := by rw [hsp]; simp
    refine rounds_out ?_ (by simp)
    simp [b127_0, List.replicate, hlt]
  | cons c rest ih =>
    intro pre k hsp hr hk
    obtain ⟨k, rfl⟩ : ∃ k', k = k' + 1 := ⟨k - 1, by omega⟩
    have hlt : pre.length < s.length := by rw [hsp]; simp
    have hc : ∀ h : pre.length < s.length, s[pre.length]'h = c := by subst hsp; simp
    have hw2 : IntKind.i64.wrap ((pre.length : Int) + 1) = ((pre ++ [c]).length : Int) := by rw [IntKind.wrap_i64]; simp; omega
    have hc8 := hr c (by simp)
    have hsp1 := hT c hc8
    have hc256 : (c.toNat : Int) < 256 := by omega
    rcases spV_cases c with ⟨h1, h2⟩ | ⟨h1, h2⟩
    · rw [h2] at hsp1
      have he := ih (pre ++ [c]) k (by rw [hsp]; simp) (fun x hx => hr x (by simp [hx])) (by simp at hk; omega)
      rw [List.takeWhile_cons, h1, if_pos rfl, show pre ++ c :: rest.takeWhile spC = pre ++ [c] ++ rest.takeWhile spC from by simp, ← he]
      refine rounds_step ?_
      simp [b127_0, List.replicate, hlt, hc, hc256, hsp1, hw2]
    · rw [h2] at hsp1
      rw [List.takeWhile_cons, h1, if_neg (by simp)]
      refine rounds_out ?_ (by simp)
      simp [b127_0, List.replicate, hlt, hc, hc256, hsp1, hw2]
theorem wordsG_skip : ∀ (rest : List UInt8), wordsG [] rest = wordsG [] (rest.dropWhile spC)
  | [] => rfl
  | c :: rest => by
    rw [List.dropWhile_cons]
    cases h : spC c with
    | true => simp [wordsG, h]; exact wordsG_skip rest
    | false => simp
theorem drop_head (rest : List UInt8) : ∀ c cs, rest.dropWhile spC = c :: cs → spC c = false := by
  intro c cs h
  have := List.head?_dropWhile_not spC rest
  rw [h] at this
  simpa using this
theorem loop127w (E : Env) (cf : CallF) (hT : SpT E) (s : List UInt8) (hs : s.length < 1000000000000) (h8 : ∀ c ∈ s, c.toNat < 128) (m N : Nat) (hm : s.length < m) (hN0 : N < 1000000000000) :
    ∀ (n : Nat) (rest pre cur : List UInt8) (ws : List (List UInt8)) (k : Nat), rest.length ≤ n → s = pre ++ cur ++ rest → (cur = [] → ∀ c cs, rest = c :: cs → spC c = false) → ws.length + (wordsG cur rest).length ≤ N → rest.length < k →
      ∃ pre1 cur1 ws1, s = pre1 ++ cur1 ∧ ws1 ++ (if cur1 = [] then [] else [cur1]) = ws ++ wordsG cur rest ∧
      rounds (evC E cf m b127_1) k { tm := [.sv (.str s)] ++ List.replicate 8 (.sv .undef) ++ [.mrow 0 N 1, .sv (.int .i64 ws.length), .sv (.int .i64 pre.length), .sv (.int .i64 (pre ++ cur).length)] ++ List.replicate 93 (.sv .undef), lz := none, bx := [.live (rowC N ws)], df := [] } =
        some (.exit 4, { tm := [.sv (.str s)] ++ List.replicate 8 (.sv .undef) ++ [.mrow 0 N 1, .sv (.int .i64 ws1.length), .sv (.int .i64 pre1.length), .sv .undef] ++ List.replicate 93 (.sv .undef), lz := none, bx := [.live (rowC N ws1)], df := [] }) := by
  intro n
  induction n with
  | zero =>
    intro rest pre cur ws k hn hsp hcur hN hk
    obtain ⟨k, rfl⟩ : ∃ k', k = k' + 1 := ⟨k - 1, by omega⟩
    obtain rfl : rest = [] := List.eq_nil_of_length_eq_zero (by omega)
    refine ⟨pre, cur, ws, by simpa using hsp, by simp [wordsG], ?_⟩
    have hlt : ¬ ((pre ++ cur).length < s.length) := by rw [hsp]; simp
    refine rounds_out ?_ (by simp)
    generalize (pre ++ cur).length = pl at hlt
    simp [b127_1, List.replicate, hlt]
  | succ n ih =>
    intro rest pre cur ws k hn hsp hcur hN hk
    obtain ⟨k, rfl⟩ : ∃ k', k = k' + 1 := ⟨k - 1, by omega⟩
    cases rest with
    | nil => exact ih [] pre cur ws (k + 1) (by simp) hsp hcur hN hk
    | cons c rest =>
      have hlt : (pre ++ cur).length < s.length := by rw [hsp]; simp
      have hsl := congrArg List.length hsp
      simp only [List.length_append, List.length_cons] at hsl
      have hc : ∀ h : (pre ++ cur).length < s.length, s[(pre ++ cur).length]'h = c := by subst hsp; simp
      have hw2 : IntKind.i64.wrap (((pre ++ cur).length : Int) + 1) = ((pre ++ (cur ++ [c])).length : Int) := by rw [IntKind.wrap_i64]; simp only [List.length_append, List.length_cons, List.length_nil]; omega
      have hc8 := h8 c (by rw [hsp]; simp)
      have hsp1 := hT c hc8
      have hc256 : (c.toNat : Int) < 256 := by omega
      rcases spV_cases c with ⟨h1, h2⟩ | ⟨h1, h2⟩
      · rw [h2] at hsp1
        have hcn : cur ≠ [] := fun h => by have := hcur h c rest rfl; rw [h1] at this; cases this
        have hwg : wordsG cur (c :: rest) = cur :: wordsG [] rest := by simp [wordsG, h1, hcn]
        rw [hwg] at hN
        simp only [List.length_cons] at hN
        have hskip := loop127t E cf hT s hs m (ws ++ [cur]).length N [.live (rowC N (ws ++ [cur]))] rest (pre ++ cur ++ [c]) m (by rw [hsp]; simp) (fun x hx => h8 x (by rw [hsp]; simp [hx])) (by rw [hsp] at hm; simp at hm; omega)
        have hdl : (rest.dropWhile spC).length ≤ rest.length := (List.dropWhile_sublist _).length_le
        obtain ⟨pre1, cur1, ws1, g1, g2, g3⟩ := ih (rest.dropWhile spC) (pre ++ cur ++ [c] ++ rest.takeWhile spC) [] (ws ++ [cur]) k (by simp at hn; omega)
          (by rw [hsp]; simp [List.takeWhile_append_dropWhile]) (fun _ => drop_head rest) (by rw [← wordsG_skip]; simp; omega) (by simp at hk; omega)
        refine ⟨pre1, cur1, ws1, g1, ?_, ?_⟩
        · rw [g2, hwg, ← wordsG_skip]; simp
        · rw [← g3]
          refine rounds_step ?_
          have hwl : ws.length < N := by omega
          have hset := rowC_set cur hwl
          have hrl := rowC_len (N := N) (ws := ws) (by omega)
          have hwn : IntKind.i64.wrap ((ws.length : Int) + 1) = ((ws ++ [cur]).length : Int) := by rw [IntKind.wrap_i64]; simp only [List.length_append, List.length_cons, List.length_nil]; omega
          have hsub : (s.take (pre ++ cur).length).drop pre.length = cur := by rw [hsp, List.take_left, List.drop_left]
          generalize hC : rowC N ws = C at hset hrl
          have q1 : pre.length ≤ (pre ++ cur).length := by simp
          have q2 : (pre ++ cur).length ≤ s.length := by omega
          have hw3 : IntKind.i64.wrap (((pre ++ cur).length : Int) + 1) = ((pre ++ cur ++ [c]).length : Int) := by rw [hw2]; simp
          have hwlI : (ws.length : Int) < (N : Int) := by omega
          simp only [List.replicate, List.cons_append, List.nil_append] at hskip
          have hNl : ws.length < C.length := by omega
          have e1 : (pre ++ cur ++ [c] ++ rest.takeWhile spC ++ []).length = (pre ++ cur ++ [c] ++ rest.takeWhile spC).length := by simp
          rw [e1]
          generalize hP2 : (pre ++ cur ++ [c]).length = P2 at hskip hw3
          generalize hP3 : (pre ++ cur ++ [c] ++ rest.takeWhile spC).length = P3 at hskip
          generalize hN2 : (ws ++ [cur]).length = N2 at hskip hwn
          generalize hPL : (pre ++ cur).length = pl at hlt hc hw2 hsub q1 q2 hw3
          simp [b127_1, List.replicate, hlt, hc, hc256, hsp1, hw3, hwl, hwlI, q1, q2, hsub, hNl, hset, hwn, hskip]
      · rw [h2] at hsp1
        have hwg : wordsG cur (c :: rest) = wordsG (cur ++ [c]) rest := by simp [wordsG, h1]
        obtain ⟨pre1, cur1, ws1, g1, g2, g3⟩ := ih rest pre (cur ++ [c]) ws k (by simp at hn; omega) (by rw [hsp]; simp) (fun h => by simp at h) (by rw [← hwg]; exact hN) (by simp at hk; omega)
        refine ⟨pre1, cur1, ws1, g1, by rw [g2, hwg], ?_⟩
        rw [← g3]
        refine rounds_step ?_
        generalize (pre ++ cur).length = pl at hlt hc hw2
        generalize (pre ++ (cur ++ [c])).length = pl2 at hw2
        simp [b127_1, List.replicate, hlt, hc, hc256, hsp1, hw2]
end Go.Ev

set_option linter.unusedSimpArgs false
set_option linter.unusedVariables false
namespace Go.Ev
open Go.Proofs
theorem cntG_le : ∀ (s : List UInt8) (was : Bool), cntG was s ≤ s.length
  | [], _ => by simp [cntG]
  | c :: s, was => by
    have := cntG_le s (spC c)
    simp only [cntG, List.length_cons]
    split <;> omega
theorem rowC_plain {N : Nat} {ws : List (List UInt8)} (h : ws.length = N) : (rowC N ws).map Cell.plain = strs ws := by
  unfold rowC
  rw [show N - ws.length = 0 from by omega]
  simp [strs, Cell.plain]
theorem ev127 (E : Env) (h : E.code 152 = some c127) (hT : SpT E) (s : List UInt8) (hs : s.length < 1000000000000) (h8 : ∀ c ∈ s, c.toNat < 128) (n : Nat) (hn : s.length < n) :
    evP E n 152 [.str s] = some (.sv (.sl (strs (wordsG [] s)))) := by
  unfold evP
  simp only [h]
  obtain ⟨bits, hb, h1⟩ := loop127c E (evF E n) hT s hs n s [] 0 true 0 n rfl h8 (by simp) (by omega) hn
  have hcl := cntG_len s []
  simp only [if_true, Nat.add_zero, beq_self_eq_true] at hcl
  have hcle := cntG_le s true
  rw [hcl] at h1 hcle
  generalize hN : (wordsG [] s).length = N at h1 hcle
  have h2 := loop127s E (evF E n) hT s hs n 0 N [.live (rowC N [])] s [] n rfl h8 hn
  obtain ⟨pre1, cur1, ws1, g1, g2, h3⟩ := loop127w E (evF E n) hT s hs h8 n N hn (by omega) (s.dropWhile spC).length (s.dropWhile spC) (s.takeWhile spC) [] [] n (Nat.le_refl _) (by simp [List.takeWhile_append_dropWhile]) (fun _ => drop_head s)
    (by rw [← wordsG_skip]; simp; omega) (by have := (List.dropWhile_sublist (p := spC) (l := s)).length_le; omega)
  simp only [List.append_nil, List.nil_append, List.length_nil, ← wordsG_skip] at h2 h3 g2
  generalize (s.takeWhile spC).length = p1 at h2 h3
  have hbI : ¬ (128 : Int) ≤ (bits : Int) := by omega
  have hrow : rowC N [] = List.replicate N (Cell.sv (SV.str [])) := by simp [rowC]
  rw [hrow] at h2 h3
  simp only [List.replicate, List.cons_append, List.nil_append, Int.ofNat_zero, Int.natCast_zero, if_true, List.length_nil, Nat.zero_add] at h1 h2 h3
  have q1 : (N : Int) * 16 ≤ 70368744177664 := by omega
  have q2 : (N : Int) ≤ 70368744177664 := by omega
  by_cases hcur : cur1 = []
  · subst hcur
    simp at g1 g2
    subst g1
    subst g2
    have hpl := rowC_plain hN
    have hpl2 := rowC_len (N := N) (ws := wordsG [] s) (by omega)
    simp [c127, List.replicate, h1, hbI, q1, q2, h2, h3, hpl2, hpl, strs_length, hN]
  · rw [if_neg hcur] at g2
    have hw1 : ws1.length < N := by rw [← hN, ← g2]; simp
    have hlt : (pre1.length : Int) < (s.length : Int) := by
      rw [g1]; cases cur1 with
      | nil => exact absurd rfl hcur
      | cons _ _ => simp; omega
    have hle : pre1.length ≤ s.length := by omega
    have hlt' : pre1.length < s.length := by omega
    have hd : List.drop pre1.length s = cur1 := by rw [g1]; simp
    have hset := rowC_set cur1 hw1
    have hpl := rowC_plain (N := N) (ws := ws1 ++ [cur1]) (by rw [g2]; exact hN)
    have hpl2 := rowC_len (N := N) (ws := ws1 ++ [cur1]) (by simp; omega)
    have hpl3 := rowC_len (N := N) (ws := ws1) (by omega)
    have hw1I : (ws1.length : Int) < (N : Int) := by omega
    rw [g2] at hset hpl hpl2
    generalize rowC N ws1 = C1 at h3 hset hpl3
    have hw1C : ws1.length < C1.length := by omega
    have htk : List.take s.length s = s := List.take_length
    simp [c127, List.replicate, h1, hbI, q1, q2, h2, h3, hlt', hle, hd, hw1, hw1C, hset, hpl2, hpl, htk, strs_length, hN]
noncomputable def F127 : List SV → Option AV
  | [.str s] => onlyIf (s.length < 1000000000000 ∧ ∀ c ∈ s, c.toNat < 128) (some (.sv (.sl (strs (wordsG [] s)))))
  | _ => none
theorem F127_eq (s : List UInt8) (h1 : s.length < 1000000000000) (h2 : ∀ c ∈ s, c.toNat < 128) : F127 [.str s] = some (.sv (.sl (strs (wordsG [] s)))) := onlyIf_pos ⟨h1, h2⟩
end Go.Ev

set_option linter.unusedSimpArgs false
set_option linter.unusedVariables false
namespace Go.Ev
open Go.Proofs
def dgt (c : UInt8) : Nat := c.toNat - 48
def digN (a : Nat) (s : List UInt8) : Nat := s.foldl (fun a c => a * 10 + dgt c) a
theorem digN_nil (a : Nat) : digN a [] = a := by unfold digN; rw [List.foldl_nil]
theorem digN_cons (a : Nat) (c : UInt8) (s : List UInt8) : digN a (c :: s) = digN (a * 10 + dgt c) s := by unfold digN; rw [List.foldl_cons]
def digC (c : UInt8) : Bool := decide (48 ≤ c.toNat) && decide (c.toNat ≤ 57)
theorem digC_iff {c : UInt8} : digC c = true ↔ 48 ≤ c.toNat ∧ c.toNat ≤ 57 := by simp [digC]
theorem digN_append (s t : List UInt8) (a : Nat) : digN a (s ++ t) = digN (digN a s) t := by unfold digN; rw [List.foldl_append]
theorem dig_toNat {d : Nat} (h : d < 10) : (UInt8.ofNat (48 + d)).toNat = 48 + d := by
  rw [UInt8.toNat_ofNat']; omega
theorem decS_dig (n : Nat) : digN 0 (decS n) = n ∧ (∀ c ∈ decS n, digC c = true) ∧ decS n ≠ [] := by
  induction n using Nat.strongRecOn with
  | ind n ih =>
    by_cases h : n < 10
    · rw [decS_small h]
      have := dig_toNat h
      refine ⟨by rw [digN_cons, digN_nil, dgt, this]; omega, fun c hc => ?_, by simp⟩
      obtain rfl := List.mem_singleton.1 hc
      rw [digC_iff, this]; omega
    · rw [decS_step h]
      obtain ⟨h1, h2, h3⟩ := ih (n / 10) (by omega)
      have hd : n % 10 < 10 := Nat.mod_lt _ (by omega)
      have := dig_toNat hd
      refine ⟨by rw [digN_append, h1, digN_cons, digN_nil, dgt, this]; omega, fun c hc => ?_, by simp⟩
      rcases List.mem_append.1 hc with hc | hc
      · exact h2 c hc
      · obtain rfl := List.mem_singleton.1 hc
        rw [digC_iff, this]; omega
theorem bytesSV_length (s : List UInt8) : (bytesSV s).length = s.length := by simp [bytesSV]
end Go.Ev

set_option linter.unusedSimpArgs false
set_option linter.unusedVariables false
namespace Go.Ev
open Go.Proofs
end Go.Ev

set_option linter.unusedSimpArgs false
set_option linter.unusedVariables false
namespace Go.Ev
open Go.Proofs
end Go.Ev

set_option linter.unusedSimpArgs false
set_option linter.unusedVariables false
namespace Go.Ev
open Go.Proofs
end Go.Ev

set_option linter.unusedSimpArgs false
set_option linter.unusedVariables false
namespace Go.Ev
open Go.Proofs
end Go.Ev

set_option linter.unusedSimpArgs false
set_option linter.unusedVariables false
namespace Go.Ev
open Go.Proofs
end Go.Ev

set_option linter.unusedSimpArgs false
set_option linter.unusedVariables false
namespace Go.Ev
open Go.Proofs
noncomputable def F27 : List SV → Option AV
  | [v] => onlyIf (IsNode v) (some (.sv v))
  | _ => none
noncomputable def F26 : List SV → Option AV
  | [v, w] => onlyIf (IsNode v ∧ v = w) (some (.sv (.bool true)))
  | _ => none
def F25 : List SV → Option AV
  | [] => some (.sv (.bool true))
  | _ => none
theorem size_kid {kids : List SV} {v : SV} (h : v ∈ kids) (name : List UInt8) (kind : Int) (b : Bool) (i u : Int) (f : Nat) (s : List UInt8) : SizeOf.sizeOf v < SizeOf.sizeOf (nodeV name kind b i u f s kids) := by
  have := List.sizeOf_lt_of_mem h
  simp [nodeV]
  omega
noncomputable def size27 : List SV → Nat
  | v :: _ => SizeOf.sizeOf v
  | [] => 0
theorem pure27 {P : Program} {E : Env} (hm : P.follows .mixedOrders = true) (hT : CodeT P E) (hQ : QuietOK P E) (hP : PureOK P E) (h : E.code 40 = some c27) : PureFn P E 40 F27 := by
  refine PureFn.of_rec size27 hm hT hQ hP fun m vs r hF hs => ?_
  match vs, hF with
  | [v], hF =>
    obtain ⟨hn, hr⟩ := onlyIf_some hF
    simp only [Option.some.injEq] at hr
    subst hr
    cases hn with
    | mk name kind b i u f s kids hl hk =>
      refine ⟨kids.length + 1, _, ev27 (E.add 40 (fun us => if size27 us < m then F27 us else none)) h (fun us => if size27 us < m then F27 us else none) (by simp [Env.add]) name kind b i u f s kids hl (fun v hv => ⟨hk v hv, ?_⟩) _ (by omega), .inl rfl⟩
      have := size_kid hv name kind b i u f s
      have h3 : size27 [v] < m := by simp only [size27] at hs ⊢; omega
      show (if size27 [v] < m then F27 [v] else none) = _
      rw [if_pos h3]
      exact onlyIf_pos (hk v hv)
theorem pure26 {P : Program} {E : Env} (hm : P.follows .mixedOrders = true) (hT : CodeT P E) (hQ : QuietOK P E) (hP : PureOK P E) (h : E.code 39 = some c26) (h75 : E.pure 105 = some F75) : PureFn P E 39 F26 := by
  refine PureFn.of_rec size27 hm hT hQ hP fun m vs r hF hs => ?_
  match vs, hF with
  | [v, w], hF =>
    obtain ⟨⟨hn, rfl⟩, hr⟩ := onlyIf_some hF
    simp only [Option.some.injEq] at hr
    subst hr
    cases hn with
    | mk name kind b i u f s kids hl hk =>
      refine ⟨kids.length + 1, _, ev26 (E.add 39 (fun us => if size27 us < m then F26 us else none)) h (fun us => if size27 us < m then F26 us else none) (by simp [Env.add]) (by simp [Env.add, h75]) name kind b i u f s kids hl (fun v hv => ⟨hk v hv, ?_⟩) _ (by omega), .inl rfl⟩
      have := size_kid hv name kind b i u f s
      have h3 : size27 [v, v] < m := by simp only [size27] at hs ⊢; omega
      show (if size27 [v, v] < m then F26 [v, v] else none) = _
      rw [if_pos h3]
      exact onlyIf_pos ⟨hk v hv, rfl⟩
theorem ev9_long (E : Env) (h : E.code 15 = some c9) (w t d : Nat) (s : List UInt8) (hs : 40000 < s.length) (n : Nat) : evP E n 15 [.str s, .fn w [] [], .fn t [] [], .fn d [] []] = some (.sv (.bool true)) := by
  unfold evP
  simp only [h]
  have e : (40000 : Int) < (s.length : Int) := by omega
  simp [c9, List.replicate, e]
set_option maxHeartbeats 1000000 in
theorem ev9_yes (E : Env) (h : E.code 15 = some c9) (w t d : Nat) (Fw Ft Fd : List SV → Option AV) (hw : E.pure w = some Fw) (ht : E.pure t = some Ft) (hd : E.pure d = some Fd) (h25 : E.pure 38 = some F25) (h26 : E.pure 39 = some F26) (h27 : E.pure 40 = some F27) (s : List UInt8) (hs : s.length ≤ 40000) (rows : List SV) (T : SV) (hT : IsNode T)
    (hFw : Fw [.str s] = some (.sv (.tup [.sl rows, .bool true, .int .i64 1]))) (hFt : Ft [.sl rows] = some (.sv (.tup [T, .int .i64 1]))) (hFd : Fd [.str s] = some (.sv (.tup [T, .int .i64 0]))) (n : Nat) :
    evP E n 15 [.str s, .fn w [] [], .fn t [] [], .fn d [] []] = some (.sv (.bool true)) := by
  unfold evP
  simp only [h]
  have e : ¬ (40000 : Int) < (s.length : Int) := by omega
  have hF27 : F27 [T] = some (.sv T) := onlyIf_pos hT
  have hF26 : F26 [T, T] = some (.sv (.bool true)) := onlyIf_pos ⟨hT, rfl⟩
  cases hT with
  | mk name kind b i u f s0 kids hl hk =>
    simp only [nodeV] at hFt hFd hF27 hF26
    simp [c9, List.replicate, e, hw, hFw, hd, hFd, ht, hFt, h27, hF27, h26, hF26, h25, F25]
def F8 : List SV → Option AV
  | [.str s] => some (.sv (.bool true))
  | _ => none
end Go.Ev

set_option linter.unusedSimpArgs false
set_option linter.unusedVariables false
namespace Go.Ev
open Go.Proofs
def fieldG (cur : List UInt8) : List UInt8 → List (List UInt8)
  | [] => if cur = [] then [] else [cur]
  | c :: cs => if blankC c then (if cur = [] then fieldG [] cs else cur :: fieldG [] cs) else fieldG (cur ++ [c]) cs
def fieldEnd (s : List UInt8) (p : Option Nat × List SV) : List SV := match p.1 with
  | some f => p.2 ++ [.str (s.drop f)]
  | none => p.2
theorem fieldK_eq (s : List UInt8) : ∀ (rest pre cur : List UInt8) (acc : List SV), s = pre ++ cur ++ rest →
    fieldEnd s (fieldK s (pre ++ cur).length rest (if cur = [] then none else some pre.length, acc)) = acc ++ strs (fieldG cur rest)
  | [], pre, cur, acc, h => by
    simp only [List.append_nil] at h
    simp only [fieldK, fieldG, fieldEnd]
    by_cases hc : cur = []
    · subst hc
      simp [strs]
    · simp only [if_neg hc]
      rw [h, List.drop_left]; simp [strs]
  | c :: rest, pre, cur, acc, h => by
    have hpl : (pre ++ cur ++ [c]).length = (pre ++ cur).length + 1 := by simp; omega
    have hpl2 : (pre ++ (cur ++ [c])).length = (pre ++ cur).length + 1 := by simp; omega
    simp only [fieldK, fieldG]
    cases hb : blankC c with
    | true =>
      by_cases hc : cur = []
      · subst hc
        have := fieldK_eq s rest (pre ++ [] ++ [c]) [] acc (by rw [h]; simp)
        simp only [if_true, List.append_nil] at this
        simp only [if_true, List.append_nil]
        rw [show (pre ++ [c]).length = pre.length + 1 from by simp] at this
        exact this
      · simp only [if_neg hc, if_true]
        have hsub : (s.take (pre ++ cur).length).drop pre.length = cur := by rw [h, List.take_left, List.drop_left]
        rw [hsub]
        have := fieldK_eq s rest (pre ++ cur ++ [c]) [] (acc ++ [.str cur]) (by rw [h]; simp)
        simp only [if_true, List.append_nil] at this
        rw [hpl] at this
        rw [this]; simp [strs]
    | false =>
      by_cases hc : cur = []
      · subst hc
        have := fieldK_eq s rest pre [c] acc (by rw [h]; simp)
        simp only [List.append_nil, if_true, Bool.false_eq_true, if_false, List.nil_append]
        rw [if_neg (by simp), show (pre ++ [c]).length = pre.length + 1 from by simp] at this
        exact this
      · have := fieldK_eq s rest pre (cur ++ [c]) acc (by rw [h]; simp)
        simp only [if_neg hc, Bool.false_eq_true, if_false]
        rw [if_neg (by simp), hpl2] at this
        exact this
theorem fieldsL_eq (s : List UInt8) : fieldsL s = fieldG [] s := by
  have h := fieldK_eq s s [] [] [] rfl
  simp only [List.nil_append, List.length_nil, if_true] at h
  have e : fieldsV s = fieldEnd s (fieldK s 0 s (none, [])) := rfl
  unfold fieldsL
  rw [e, h, unstrs]
theorem fieldG_words : ∀ (s cur : List UInt8), (∀ c ∈ s, plainC c = true ∧ c.toNat ≠ 10) → fieldG cur s = wordsG cur s
  | [], cur, _ => rfl
  | c :: s, cur, h => by
    obtain ⟨h1, h2⟩ := h c (by simp)
    have hb : blankC c = spC c := by
      simp only [plainC, Bool.and_eq_true, Bool.or_eq_true, decide_eq_true_eq, beq_iff_eq] at h1
      rw [Bool.eq_iff_iff]
      simp [blankC, spC]; omega
    have ih := fun cur => fieldG_words s cur (fun x hx => h x (by simp [hx]))
    simp only [fieldG, wordsG, hb, ih]
theorem words_fields {s : List UInt8} (h : ∀ c ∈ s, plainC c = true ∧ c.toNat ≠ 10) : wordsG [] s = fieldsL s := by
  rw [fieldsL_eq, fieldG_words s [] h]
end Go.Ev

set_option linter.unusedSimpArgs false
set_option linter.unusedVariables false
namespace Go.Ev
open Go.Proofs
theorem F45_eq (m : Nat) (hm : m < 18446744073709551616) : F45 [.int .u64 (m : Int)] = some (.sv (.str (decS m))) := by
  show onlyIf _ (some (AV.sv (.str (decS (m : Int).toNat)))) = _
  rw [onlyIf_pos ⟨by omega, by omega⟩]; simp
theorem ev30 (E : Env) (h : E.code 43 = some c30) (n : Nat) (s w : List UInt8) : evP E n 43 [.str s, .str w] = some (.sv (.bool (decide (w.length ≤ s.length) && (s.take w.length == w)))) := by
  unfold evP
  simp only [h]
  by_cases h1 : w.length ≤ s.length
  · simp [c30, h1, List.replicate]
  · simp [c30, h1, List.replicate]
def F30 : List SV → Option AV
  | [.str s, .str w] => some (.sv (.bool (decide (w.length ≤ s.length) && (s.take w.length == w))))
  | _ => none
end Go.Ev

set_option linter.unusedSimpArgs false
set_option linter.unusedVariables false
namespace Go.Ev
open Go.Proofs
end Go.Ev

set_option linter.unusedSimpArgs false
set_option linter.unusedVariables false
namespace Go.Ev
open Go.Proofs
theorem digN_ge : ∀ (s : List UInt8) (a : Nat), a ≤ digN a s
  | [], a => by rw [digN_nil]; exact Nat.le_refl _
  | c :: s, a => by
    rw [digN_cons]
    have := digN_ge s (a * 10 + dgt c)
    omega
end Go.Ev

set_option linter.unusedSimpArgs false
set_option linter.unusedVariables false
namespace Go.Ev
open Go.Proofs
end Go.Ev

set_option linter.unusedSimpArgs false
set_option linter.unusedVariables false
namespace Go.Ev
open Go.Proofs
def i64 (n : Nat) : Int := IntKind.i64.wrap (n : Int)
end Go.Ev

set_option linter.unusedSimpArgs false
set_option linter.unusedVariables false
namespace Go.Ev
open Go.Proofs
def RowD.fits2 (r : RowD) : Prop := r.name.length < 1000000000 ∧ r.N.length < 100000000000 ∧ (∀ n ∈ r.N, n < 18446744073709551616) ∧ r.S.length < 1000000000 ∧ ∀ s ∈ r.S, s.length < 1000000000
def rowsFit2 (l : List RowD) : Prop := l.length < 100000000 ∧ ∀ r ∈ l, r.fits2
end Go.Ev

set_option linter.unusedSimpArgs false
set_option linter.unusedVariables false
namespace Go.Ev
open Go.Proofs
end Go.Ev

set_option linter.unusedSimpArgs false
set_option linter.unusedVariables false
namespace Go.Ev
open Go.Proofs
end Go.Ev

set_option linter.unusedSimpArgs false
set_option linter.unusedVariables false
namespace Go.Ev
open Go.Proofs
def swFit (l : List RowD) : Prop := l.length ≤ 40000 ∧ (∀ r ∈ l, r.fits2) ∧ ∀ r ∈ l, r.name.length ≤ 40000 ∧ ∀ s ∈ r.S, s.length ≤ 40000
theorem swFit.two {l : List RowD} (h : swFit l) : rowsFit2 l := ⟨by have := h.1; omega, h.2.1⟩
end Go.Ev

set_option linter.unusedSimpArgs false
set_option linter.unusedVariables false
namespace Go.Ev
open Go.Proofs
theorem fieldG_word : ∀ (w cur rest : List UInt8), (∀ c ∈ w, blankC c = false) → fieldG cur (w ++ rest) = fieldG (cur ++ w) rest
  | [], cur, rest, _ => by simp
  | c :: w, cur, rest, h => by
    have h1 := h c (by simp)
    simp only [List.cons_append, fieldG, h1, Bool.false_eq_true, if_false]
    rw [fieldG_word w (cur ++ [c]) rest (fun x hx => h x (by simp [hx]))]
    simp
theorem fieldG_sep {w rest : List UInt8} {c : UInt8} (hw : w ≠ []) (h : ∀ c ∈ w, blankC c = false) (hc : blankC c = true) : fieldG [] (w ++ c :: rest) = w :: fieldG [] rest := by
  rw [fieldG_word w [] _ h]
  simp [fieldG, hc, hw]
theorem fieldG_last {w : List UInt8} (hw : w ≠ []) (h : ∀ c ∈ w, blankC c = false) : fieldG [] w = [w] := by
  have := fieldG_word w [] [] h
  simp only [List.append_nil, List.nil_append] at this
  rw [this]; simp [fieldG, hw]
theorem wordC_blank {c : UInt8} (h : wordC c = true) : blankC c = false ∧ c.toNat ≠ 10 := by
  simp only [wordC, Bool.and_eq_true, decide_eq_true_eq] at h
  refine ⟨?_, by omega⟩
  simp [blankC]; omega
end Go.Ev

set_option linter.unusedSimpArgs false
set_option linter.unusedVariables false
namespace Go.Ev
open Go.Proofs
theorem plain_lt {c : UInt8} (h : plainC c = true) : c.toNat < 128 ∧ c.toNat ≠ 13 := by
  simp only [plainC, Bool.and_eq_true, Bool.or_eq_true, decide_eq_true_eq, beq_iff_eq] at h
  omega
end Go.Ev

set_option linter.unusedSimpArgs false
set_option linter.unusedVariables false
namespace Go.Ev
open Go.Proofs
end Go.Ev

set_option linter.unusedSimpArgs false
set_option linter.unusedVariables false
namespace Go.Ev
open Go.Proofs
theorem wordC_plain {c : UInt8} (h : wordC c = true) : plainC c = true := by
  simp only [wordC, Bool.and_eq_true, decide_eq_true_eq] at h
  simp [plainC]; omega
theorem ev13_long (E : Env) (h : E.code 19 = some c13) (w p d : Nat) (s : List UInt8) (hs : 40000 < s.length) (n : Nat) : evP E n 19 [.str s, .fn w [] [], .fn p [] [], .fn d [] []] = some (.sv (.bool true)) := by
  unfold evP
  simp only [h]
  have e : (40000 : Int) < (s.length : Int) := by omega
  simp [c13, List.replicate, e]
set_option maxHeartbeats 1000000 in
theorem ev13_yes (E : Env) (h : E.code 19 = some c13) (w p d : Nat) (Fw Fp Fd : List SV → Option AV) (hw : E.pure w = some Fw) (hp : E.pure p = some Fp) (hd : E.pure d = some Fd) (h25 : E.pure 38 = some F25) (h26 : E.pure 39 = some F26) (h27 : E.pure 40 = some F27) (s o : List UInt8) (hs : s.length ≤ 40000) (rows : List SV) (T : SV) (hT : IsNode T)
    (hFw : Fw [.str s] = some (.sv (.tup [.sl rows, .bool true, .int .i64 1]))) (hFp : Fp [.sl rows] = some (.sv (.tup [.str o, .int .i64 1]))) (hFd : Fd [.str s] = some (.sv (.tup [T, .int .i64 0]))) (hFo : o.length ≤ 40000 → Fd [.str o] = some (.sv (.tup [T, .int .i64 0]))) (n : Nat) :
    evP E n 19 [.str s, .fn w [] [], .fn p [] [], .fn d [] []] = some (.sv (.bool true)) := by
  unfold evP
  simp only [h]
  have e : ¬ (40000 : Int) < (s.length : Int) := by omega
  have hF27 : F27 [T] = some (.sv T) := onlyIf_pos hT
  have hF26 : F26 [T, T] = some (.sv (.bool true)) := onlyIf_pos ⟨hT, rfl⟩
  cases hT with
  | mk name kind b i u f s0 kids hl hk =>
    simp only [nodeV] at hFd hFo hF27 hF26
    by_cases ho : o.length ≤ 40000
    · have eo : ¬ (40000 : Int) < (o.length : Int) := by omega
      have hFo := hFo ho
      simp [c13, List.replicate, e, hw, hFw, hp, hFp, eo, hd, hFd, hFo, h27, hF27, h26, hF26, h25, F25]
    · have eo : (40000 : Int) < (o.length : Int) := by omega
      simp [c13, List.replicate, e, hw, hFw, hp, hFp, eo, h25, F25]
end Go.Ev

set_option linter.unusedSimpArgs false
set_option linter.unusedVariables false
namespace Go.Ev
open Go.Proofs
def RowD.fits3 (r : RowD) : Prop := r.name.length < 2147483648 ∧ r.N.length < 100000000000 ∧ (∀ n ∈ r.N, n < 18446744073709551616) ∧ r.S.length < 2147483648 ∧ ∀ s ∈ r.S, s.length < 2147483648
def rowsFit3 (l : List RowD) : Prop := l.length < 100000000 ∧ ∀ r ∈ l, r.fits3
def distP (pre : List (List UInt8)) : List (List UInt8) → Bool
  | [] => true
  | c :: rest => pre.all (fun p => !(c == p)) && distP (pre ++ [c]) rest
theorem loop1084_0 (E : Env) (cf : CallF) (l : List RowD) (hs : l.length < 1000000000) (m i : Nat) (r : RowD) (hi : l[i]? = some r) :
    ∀ (rest pre : List RowD) (k : Nat), l.take i = pre ++ rest → rest.length < k →
      rounds (evC E cf m b1084_0) k { tm := [.sv (.sl (rowsSV l)), .sv .undef, .sv .undef, .sv (.int .i64 i), .sv .undef, .sv .undef, .sv (.int .i64 l.length), .sv (.int .i64 i), .sv .undef, .sv .undef, .sv (.int .i64 i), .sv (.int .i64 pre.length)] ++ List.replicate 15 (.sv .undef), lz := none, bx := [], df := [] } =
        if rest.all (fun p => !(r.name == p.name)) = true then some (.exit 2, { tm := [.sv (.sl (rowsSV l)), .sv .undef, .sv .undef, .sv .undef, .sv .undef, .sv .undef, .sv (.int .i64 l.length), .sv (.int .i64 i)] ++ List.replicate 19 (.sv .undef), lz := none, bx := [], df := [] })
        else some (.ret, { tm := [.sv .undef, .sv .undef, .sv (.bool false)] ++ List.replicate 24 (.sv .undef), lz := none, bx := [], df := [] }) := by
  have hil : i < l.length := (List.getElem?_eq_some_iff.1 hi).1
  have hri : l[i]'hil = r := (List.getElem?_eq_some_iff.1 hi).2
  intro rest
  induction rest with
  | nil =>
    intro pre k hsp hk
    obtain ⟨k, rfl⟩ : ∃ k', k = k' + 1 := ⟨k - 1, by omega⟩
    have hlt : ¬ (pre.length < i) := by have := congrArg List.length hsp; simp at this; omega
    refine rounds_out ?_ (by simp)
    simp [b1084_0, List.replicate, hlt]
  | cons p rest ih =>
    intro pre k hsp hk
    obtain ⟨k, rfl⟩ : ∃ k', k = k' + 1 := ⟨k - 1, by omega⟩
    have hlen : i = pre.length + (rest.length + 1) := by have := congrArg List.length hsp; simp at this; omega
    have hlt : pre.length < i := by omega
    have hpl : pre.length < l.length := by omega
    have hp : l[pre.length]? = some p := by
      have := congrArg (fun q => q[pre.length]?) hsp
      simpa [List.getElem?_take, hlt] using this
    have hpe : l[pre.length]'hpl = p := (List.getElem?_eq_some_iff.1 hp).2
    have hsl : (rowsSV l).length = l.length := by simp [rowsSV]
    have c1 : ∀ h : i < (rowsSV l).length, (rowsSV l)[i]'h = .agg [.str r.name, .sl (u64s r.N), .sl (strs r.S)] := fun h => by simp [rowsSV, hri, RowD.sv]
    have c2 : ∀ h : pre.length < (rowsSV l).length, (rowsSV l)[pre.length]'h = .agg [.str p.name, .sl (u64s p.N), .sl (strs p.S)] := fun h => by simp [rowsSV, hpe, RowD.sv]
    have hw2 : IntKind.i64.wrap ((pre.length : Int) + 1) = ((pre ++ [p]).length : Int) := by rw [IntKind.wrap_i64]; simp; omega
    by_cases he : r.name = p.name
    · have e1 : (r.name == p.name) = true := by simpa using he
      rw [if_neg (by simp [e1])]
      refine rounds_out ?_ (by simp)
      simp [b1084_0, List.replicate, hlt, hil, hpl, hsl, c1, c2, he]
    · have e1 : (r.name == p.name) = false := by simpa using he
      have := ih (pre ++ [p]) k (by rw [hsp]; simp) (by simp at hk; omega)
      rw [show (p :: rest).all (fun p => !(r.name == p.name)) = rest.all (fun p => !(r.name == p.name)) from by simp [e1], ← this]
      refine rounds_step ?_
      simp [b1084_0, List.replicate, hlt, hil, hpl, hsl, c1, c2, he, e1, hw2]
theorem loop1084_1 (E : Env) (cf : CallF) (l : List RowD) (hs : l.length < 1000000000) (m : Nat) (hm : l.length < m) :
    ∀ (rest pre : List RowD) (k : Nat), l = pre ++ rest → rest.length < k →
      rounds (evC E cf m b1084_1) k { tm := [.sv (.sl (rowsSV l)), .sv .undef, .sv .undef, .sv .undef, .sv .undef, .sv .undef, .sv (.int .i64 l.length), .sv (.int .i64 pre.length)] ++ List.replicate 19 (.sv .undef), lz := none, bx := [], df := [] } =
        if distP (pre.map RowD.name) (rest.map RowD.name) = true then some (.exit 0, { tm := List.replicate 27 (.sv .undef), lz := none, bx := [], df := [] })
        else some (.ret, { tm := [.sv .undef, .sv .undef, .sv (.bool false)] ++ List.replicate 24 (.sv .undef), lz := none, bx := [], df := [] }) := by
  intro rest
  induction rest with
  | nil =>
    intro pre k hsp hk
    obtain ⟨k, rfl⟩ : ∃ k', k = k' + 1 := ⟨k - 1, by omega⟩
    have hlt : ¬ (pre.length < l.length) := by rw [hsp]; simp
    refine rounds_out ?_ (by simp)
    simp [b1084_1, List.replicate, hlt, distP]
  | cons r rest ih =>
    intro pre k hsp hk
    obtain ⟨k, rfl⟩ : ∃ k', k = k' + 1 := ⟨k - 1, by omega⟩
    have hlt : pre.length < l.length := by rw [hsp]; simp
    have hi : l[pre.length]? = some r := by rw [hsp]; simp
    have hin := loop1084_0 E cf l hs m pre.length r hi pre [] m (by rw [hsp]; simp) (by omega)
    simp only [List.replicate, List.cons_append, List.nil_append, List.length_nil, Int.ofNat_zero, Int.natCast_zero] at hin
    have hw2 : IntKind.i64.wrap ((pre.length : Int) + 1) = ((pre ++ [r]).length : Int) := by rw [IntKind.wrap_i64]; simp; omega
    have hmap : (pre.map RowD.name).all (fun p => !(r.name == p)) = pre.all (fun p => !(r.name == p.name)) := by simp [List.all_map, Function.comp_def]
    cases hc : pre.all (fun p => !(r.name == p.name)) with
    | false =>
      rw [hc, if_neg (by simp)] at hin
      rw [if_neg (by simp only [List.map_cons, distP, hmap, hc]; simp)]
      refine rounds_out ?_ (by simp)
      simp [b1084_1, List.replicate, hlt, hin]
    | true =>
      rw [hc, if_pos rfl] at hin
      have := ih (pre ++ [r]) k (by rw [hsp]; simp) (by simp at hk; omega)
      rw [show distP (pre.map RowD.name) ((r :: rest).map RowD.name) = distP ((pre ++ [r]).map RowD.name) (rest.map RowD.name) from by simp [distP, hmap, hc], ← this]
      refine rounds_step ?_
      simp [b1084_1, List.replicate, hlt, hin, hw2]
theorem ev1084 (E : Env) (h : E.code 148 = some c1084) (l : List RowD) (hs : l.length < 1000000000) (n : Nat) (hn : l.length < n) :
    evP E n 148 [.sl (rowsSV l)] = some (.sv (.bool (distP [] (l.map RowD.name)))) := by
  unfold evP
  simp only [h]
  have hsl : (rowsSV l).length = l.length := by simp [rowsSV]
  have hl := loop1084_1 E (evF E n) l hs n hn l [] n rfl hn
  simp only [List.replicate, List.cons_append, List.nil_append, List.length_nil, Int.ofNat_zero, Int.natCast_zero, List.map_nil] at hl
  cases hv : distP [] (l.map RowD.name) with
  | true => simp only [hv, if_true] at hl; simp [c1084, List.replicate, hl, hsl]
  | false => simp only [hv, Bool.false_eq_true, if_false] at hl; simp [c1084, List.replicate, hl, hsl]
noncomputable def F1084 : List SV → Option AV
  | [.sl l] => onlyIf (l = rowsSV (l.map unrow) ∧ l.length < 1000000000) (some (.sv (.bool (distP [] ((l.map unrow).map RowD.name)))))
  | _ => none
theorem F1084_eq (l : List RowD) (h : l.length < 1000000000) : F1084 [.sl (rowsSV l)] = some (.sv (.bool (distP [] (l.map RowD.name)))) := by
  unfold F1084
  simp only [unrows]
  exact onlyIf_pos ⟨trivial, by simpa [rowsSV] using h⟩
end Go.Ev

set_option linter.unusedSimpArgs false
set_option linter.unusedVariables false
namespace Go.Ev
open Go.Proofs
end Go.Ev

set_option linter.unusedSimpArgs false
set_option linter.unusedVariables false
namespace Go.Ev
open Go.Proofs
end Go.Ev

set_option linter.unusedSimpArgs false
set_option linter.unusedVariables false
namespace Go.Ev
open Go.Proofs
end Go.Ev

set_option linter.unusedSimpArgs false
set_option linter.unusedVariables false
namespace Go.Ev
open Go.Proofs
end Go.Ev

set_option linter.unusedSimpArgs false
set_option linter.unusedVariables false
namespace Go.Ev
open Go.Proofs
end Go.Ev

set_option linter.unusedSimpArgs false
set_option linter.unusedVariables false
namespace Go.Ev
open Go.Proofs
theorem ev9_opn (E : Env) (h : E.code 15 = some c9) (w t d : Nat) (Fw : List SV → Option AV) (hw : E.pure w = some Fw) (h25 : E.pure 38 = some F25) (s : List UInt8) (hs : s.length ≤ 40000) (l : List SV) (b : Bool)
    (hF : Fw [.str s] = some (.sv (.tup [.sl l, .bool b, .int .i64 2]))) (n : Nat) : evP E n 15 [.str s, .fn w [] [], .fn t [] [], .fn d [] []] = some (.sv (.bool true)) := by
  unfold evP
  simp only [h]
  have e : ¬ (40000 : Int) < (s.length : Int) := by omega
  simp [c9, List.replicate, e, hw, hF, h25, F25]
theorem ev13_opn (E : Env) (h : E.code 19 = some c13) (w p d : Nat) (Fw : List SV → Option AV) (hw : E.pure w = some Fw) (h25 : E.pure 38 = some F25) (s : List UInt8) (hs : s.length ≤ 40000) (l : List SV) (b : Bool)
    (hF : Fw [.str s] = some (.sv (.tup [.sl l, .bool b, .int .i64 2]))) (n : Nat) : evP E n 19 [.str s, .fn w [] [], .fn p [] [], .fn d [] []] = some (.sv (.bool true)) := by
  unfold evP
  simp only [h]
  have e : ¬ (40000 : Int) < (s.length : Int) := by omega
  cases b <;> simp [c13, List.replicate, e, hw, hF, h25, F25]
end Go.Ev

set_option linter.unusedSimpArgs false
set_option linter.unusedVariables false
namespace Go.Ev
open Go.Proofs
def zzS (S : List (List UInt8)) : Bool := decide (S.length ≤ 2147483647) && S.all fun s => decide (s.length ≤ 2147483647)
def zzRow (r : RowD) : Bool := decide (r.name.length ≤ 2147483647) && decide (r.N.length ≤ 2147483647) && zzS r.S
def zzRows (l : List RowD) : Bool := decide (l.length ≤ 2147483647) && l.all zzRow
theorem loop1080 (E : Env) (cf : CallF) (xs : List SV) (hs : xs.length < 1000000000000) (m : Nat) :
    ∀ (rest : List (List UInt8)) (pre : List SV) (k : Nat), xs = pre ++ strs rest → rest.length < k →
      rounds (evC E cf m b1080_0) k { tm := List.replicate 8 (.sv .undef) ++ [.sv (.sl xs), .sv (.int .i64 xs.length), .sv (.int .i64 pre.length)] ++ List.replicate 7 (.sv .undef), lz := none, bx := [], df := [] } =
        if rest.all (fun s => decide (s.length ≤ 2147483647)) = true then some (.exit 0, { tm := List.replicate 18 (.sv .undef), lz := none, bx := [], df := [] })
        else some (.ret, { tm := [.sv .undef, .sv .undef, .sv (.bool false)] ++ List.replicate 15 (.sv .undef), lz := none, bx := [], df := [] }) := by
  intro rest
  induction rest with
  | nil =>
    intro pre k hsp hk
    obtain ⟨k, rfl⟩ : ∃ k', k = k' + 1 := ⟨k - 1, by omega⟩
    have hlt : ¬ (pre.length < xs.length) := by rw [hsp]; simp [strs]
    refine rounds_out ?_ (by simp)
    simp [b1080_0, List.replicate, hlt]
  | cons c rest ih =>
    intro pre k hsp hk
    obtain ⟨k, rfl⟩ : ∃ k', k = k' + 1 := ⟨k - 1, by omega⟩
    have hlt : pre.length < xs.length := by rw [hsp]; simp [strs]
    have hc : ∀ h : pre.length < xs.length, xs[pre.length]'h = .str c := by subst hsp; simp [strs]
    have hw2 : IntKind.i64.wrap ((pre.length : Int) + 1) = ((pre ++ [SV.str c]).length : Int) := by rw [IntKind.wrap_i64]; simp; omega
    by_cases h1 : c.length ≤ 2147483647
    · have e : ¬ (2147483647 : Int) < (c.length : Int) := by omega
      have := ih (pre ++ [.str c]) k (by rw [hsp]; simp [strs]) (by simp at hk; omega)
      rw [show (c :: rest).all (fun s => decide (s.length ≤ 2147483647)) = rest.all (fun s => decide (s.length ≤ 2147483647)) from by simp [h1], ← this]
      refine rounds_step ?_
      simp [b1080_0, List.replicate, hlt, hc, e, hw2]
    · have e : (2147483647 : Int) < (c.length : Int) := by omega
      rw [if_neg (by simp [h1])]
      refine rounds_out ?_ (by simp)
      simp [b1080_0, List.replicate, hlt, hc, e]
theorem ev1080 (E : Env) (h : E.code 141 = some c1080) (S : List (List UInt8)) (n : Nat) (hn : S.length < n ∨ 2147483647 < S.length) : evP E n 141 [.sl (strs S)] = some (.sv (.bool (zzS S))) := by
  unfold evP
  simp only [h]
  have hst : (strs S).length = S.length := strs_length S
  unfold zzS
  by_cases h1 : S.length ≤ 2147483647
  · have e : ¬ (2147483647 : Int) < (S.length : Int) := by omega
    have hl := loop1080 E (evF E n) (strs S) (by omega) n S [] n rfl (by omega)
    simp only [List.replicate, List.cons_append, List.nil_append, List.length_nil, Int.ofNat_zero, Int.natCast_zero, hst] at hl
    cases hv : S.all (fun s => decide (s.length ≤ 2147483647)) with
    | false => simp only [hv, Bool.false_eq_true, if_false] at hl; simp [c1080, List.replicate, hl, hst, e, h1]
    | true => simp only [hv, if_true] at hl; simp [c1080, List.replicate, hl, hst, e, h1]
  · have e : (2147483647 : Int) < (S.length : Int) := by omega
    simp [c1080, List.replicate, hst, e, h1]
noncomputable def F1080 : List SV → Option AV
  | [.sl l] => onlyIf (l = strs (l.map unstr)) (some (.sv (.bool (zzS (l.map unstr)))))
  | _ => none
theorem ev1035 (E : Env) (h : E.code 65 = some c1035) (h80 : E.pure 141 = some F1080) (r : RowD) (n : Nat) : evP E n 65 [.agg [.str r.name, .sl (u64s r.N), .sl (strs r.S)]] = some (.sv (.bool (zzRow r))) := by
  unfold evP
  simp only [h]
  have hsl : (u64s r.N).length = r.N.length := u64s_length r.N
  have hF : F1080 [.sl (strs r.S)] = some (.sv (.bool (zzS r.S))) := by
    unfold F1080
    simp only [unstrs]
    exact onlyIf_pos trivial
  unfold zzRow
  by_cases h1 : r.name.length ≤ 2147483647
  · have e : ¬ (2147483647 : Int) < (r.name.length : Int) := by omega
    by_cases h2 : r.N.length ≤ 2147483647
    · have e2 : ¬ (2147483647 : Int) < (r.N.length : Int) := by omega
      cases hz : zzS r.S <;> rw [hz] at hF <;> simp [c1035, List.replicate, e, e2, h1, h2, hsl, h80, hF]
    · have e2 : (2147483647 : Int) < (r.N.length : Int) := by omega
      simp [c1035, List.replicate, e, e2, h1, h2, hsl]
  · have e : (2147483647 : Int) < (r.name.length : Int) := by omega
    simp [c1035, List.replicate, e, h1]
noncomputable def F1035 : List SV → Option AV
  | [.agg [.str s, .sl ns, .sl ss]] => onlyIf (SV.agg [.str s, .sl ns, .sl ss] = (unrow (.agg [.str s, .sl ns, .sl ss])).sv) (some (.sv (.bool (zzRow (unrow (.agg [.str s, .sl ns, .sl ss]))))))
  | _ => none
theorem F1035_eq (r : RowD) : F1035 [.agg [.str r.name, .sl (u64s r.N), .sl (strs r.S)]] = some (.sv (.bool (zzRow r))) := by
  have hu : unrow (.agg [.str r.name, .sl (u64s r.N), .sl (strs r.S)]) = r := unrow_sv r
  unfold F1035
  simp only [hu]
  exact onlyIf_pos rfl
theorem loop1015 (E : Env) (cf : CallF) (h35 : E.pure 65 = some F1035) (xs : List SV) (hs : xs.length < 1000000000000) (m : Nat) :
    ∀ (rest : List RowD) (pre : List SV) (bx : List Box) (k : Nat), xs = pre ++ rowsSV rest → rest.length < k →
      ∃ bx', rounds (evC E cf m b1015_0) k { tm := List.replicate 8 (.sv .undef) ++ [.sv (.sl xs), .sv (.int .i64 xs.length), .sv (.int .i64 pre.length)] ++ List.replicate 7 (.sv .undef), lz := none, bx := bx, df := [] } =
        if rest.all zzRow = true then some (.exit 0, { tm := List.replicate 18 (.sv .undef), lz := none, bx := bx', df := [] })
        else some (.ret, { tm := [.sv .undef, .sv .undef, .sv (.bool false)] ++ List.replicate 15 (.sv .undef), lz := none, bx := bx', df := [] }) := by
  intro rest
  induction rest with
  | nil =>
    intro pre bx k hsp hk
    obtain ⟨k, rfl⟩ : ∃ k', k = k' + 1 := ⟨k - 1, by omega⟩
    have hlt : ¬ (pre.length < xs.length) := by rw [hsp]; simp [rowsSV]
    refine ⟨bx, rounds_out ?_ (by simp)⟩
    simp [b1015_0, List.replicate, hlt]
  | cons r rest ih =>
    intro pre bx k hsp hk
    obtain ⟨k, rfl⟩ : ∃ k', k = k' + 1 := ⟨k - 1, by omega⟩
    have hlt : pre.length < xs.length := by rw [hsp]; simp [rowsSV]
    have hc : ∀ h : pre.length < xs.length, xs[pre.length]'h = .agg [.str r.name, .sl (u64s r.N), .sl (strs r.S)] := by subst hsp; simp [rowsSV, RowD.sv]
    have hw2 : IntKind.i64.wrap ((pre.length : Int) + 1) = ((pre ++ [r.sv]).length : Int) := by rw [IntKind.wrap_i64]; simp; omega
    have hF := F1035_eq r
    obtain ⟨bx', he⟩ := ih (pre ++ [r.sv]) (bx ++ [rowBox r]) k (by rw [hsp]; simp [rowsSV]) (by simp at hk; omega)
    cases hz : zzRow r with
    | false =>
      rw [hz] at hF
      refine ⟨bx ++ [rowBox r], ?_⟩
      rw [if_neg (by simp [hz])]
      refine rounds_out ?_ (by simp)
      simp [b1015_0, List.replicate, hlt, hc, h35, hF, rowBox]
    | true =>
      rw [hz] at hF
      refine ⟨bx', ?_⟩
      rw [show (r :: rest).all zzRow = rest.all zzRow from by simp [hz], ← he]
      refine rounds_step ?_
      simp [b1015_0, List.replicate, hlt, hc, h35, hF, rowBox, hw2]
theorem ev1015 (E : Env) (h : E.code 24 = some c1015) (h35 : E.pure 65 = some F1035) (l : List RowD) (n : Nat) (hn : l.length < n ∨ 2147483647 < l.length) : evP E n 24 [.sl (rowsSV l)] = some (.sv (.bool (zzRows l))) := by
  unfold evP
  simp only [h]
  have hst : (rowsSV l).length = l.length := by simp [rowsSV]
  unfold zzRows
  by_cases h1 : l.length ≤ 2147483647
  · have e : ¬ (2147483647 : Int) < (l.length : Int) := by omega
    obtain ⟨bx', hl⟩ := loop1015 E (evF E n) h35 (rowsSV l) (by omega) n l [] [] n rfl (by omega)
    simp only [List.replicate, List.cons_append, List.nil_append, List.length_nil, Int.ofNat_zero, Int.natCast_zero, hst] at hl
    cases hv : l.all zzRow with
    | false => simp only [hv, Bool.false_eq_true, if_false] at hl; simp [c1015, List.replicate, hl, hst, e, h1]
    | true => simp only [hv, if_true] at hl; simp [c1015, List.replicate, hl, hst, e, h1]
  · have e : (2147483647 : Int) < (l.length : Int) := by omega
    simp [c1015, List.replicate, hst, e, h1]
noncomputable def F1015 : List SV → Option AV
  | [.sl l] => onlyIf (l = rowsSV (l.map unrow)) (some (.sv (.bool (zzRows (l.map unrow)))))
  | _ => none
theorem F1015_eq (l : List RowD) : F1015 [.sl (rowsSV l)] = some (.sv (.bool (zzRows l))) := by
  unfold F1015
  simp only [unrows]
  exact onlyIf_pos trivial
end Go.Ev

set_option linter.unusedSimpArgs false
set_option linter.unusedVariables false
namespace Go.Ev
open Go.Proofs
theorem zzRows_fit {l : List RowD} (h : zzRows l = true) (hn : ∀ r ∈ l, ∀ n ∈ r.N, n < 18446744073709551616) (hl : l.length ≤ 1000) : rowsFit3 l := by
  unfold zzRows at h
  rw [Bool.and_eq_true, List.all_eq_true] at h
  refine ⟨by omega, fun r hr => ?_⟩
  have h1 := h.2 r hr
  unfold zzRow zzS at h1
  simp only [Bool.and_eq_true, decide_eq_true_eq, List.all_eq_true] at h1
  obtain ⟨⟨h2, h3⟩, h4, h5⟩ := h1
  exact ⟨by omega, by omega, hn r hr, by omega, fun s hs => by have := h5 s hs; omega⟩
set_option maxHeartbeats 1000000 in
theorem ev1016_long (E : Env) (h : E.code 25 = some c1016) (p t d : Nat) (l : List SV) (hl : 1000 < l.length) (n : Nat) : evP E n 25 [.sl l, .fn p [] [], .fn t [] [], .fn d [] []] = some (.sv (.bool true)) := by
  unfold evP
  simp only [h]
  have e : (1000 : Int) < (l.length : Int) := by omega
  simp [c1016, List.replicate, e]
set_option maxHeartbeats 1000000 in
theorem ev1016_open (E : Env) (h : E.code 25 = some c1016) (p t d : Nat) (Fp : List SV → Option AV) (hp : E.pure p = some Fp) (h25 : E.pure 38 = some F25) (l : List SV) (hl : l.length ≤ 1000) (o : List UInt8) (told : Int)
    (hF : Fp [.sl l] = some (.sv (.tup [.str o, .int .i64 told]))) (ht : told ≠ 1 ∨ 40000 < o.length) (n : Nat) : evP E n 25 [.sl l, .fn p [] [], .fn t [] [], .fn d [] []] = some (.sv (.bool true)) := by
  unfold evP
  simp only [h]
  have e : ¬ (1000 : Int) < (l.length : Int) := by omega
  by_cases h1 : told = 1
  · have e2 : (40000 : Int) < (o.length : Int) := by omega
    simp [c1016, List.replicate, e, hp, hF, h1, e2, h25, F25]
  · have h2 : (told == 1) = false := by simpa using h1
    have h3 : (told != 1) = true := by simp [bne, h2]
    simp [c1016, List.replicate, e, hp, hF, h1, h2, h3, h25, F25]
set_option maxHeartbeats 1000000 in
theorem ev1016_yes (E : Env) (h : E.code 25 = some c1016) (p t d : Nat) (Fp Ft Fd : List SV → Option AV) (hp : E.pure p = some Fp) (ht : E.pure t = some Ft) (hd : E.pure d = some Fd) (h25 : E.pure 38 = some F25) (h26 : E.pure 39 = some F26) (h27 : E.pure 40 = some F27) (l : List SV) (hl : l.length ≤ 1000) (o : List UInt8) (ho : o.length ≤ 40000) (T : SV) (hT : IsNode T)
    (hFp : Fp [.sl l] = some (.sv (.tup [.str o, .int .i64 1]))) (hFt : Ft [.sl l] = some (.sv (.tup [T, .int .i64 1]))) (hFd : Fd [.str o] = some (.sv (.tup [T, .int .i64 0]))) (n : Nat) :
    evP E n 25 [.sl l, .fn p [] [], .fn t [] [], .fn d [] []] = some (.sv (.bool true)) := by
  unfold evP
  simp only [h]
  have e : ¬ (1000 : Int) < (l.length : Int) := by omega
  have e2 : ¬ (40000 : Int) < (o.length : Int) := by omega
  have hF27 : F27 [T] = some (.sv T) := onlyIf_pos hT
  have hF26 : F26 [T, T] = some (.sv (.bool true)) := onlyIf_pos ⟨hT, rfl⟩
  cases hT with
  | mk name kind b i u f s0 kids hl hk =>
    simp only [nodeV] at hFt hFd hF27 hF26
    simp [c1016, List.replicate, e, e2, hp, hFp, hd, hFd, ht, hFt, h27, hF27, h26, hF26, h25, F25]
noncomputable def F1003 : List SV → Option AV
  | [.sl l] => onlyIf (l = rowsSV (l.map unrow) ∧ ∀ r ∈ l.map unrow, ∀ n ∈ r.N, n < 18446744073709551616) (some (.sv (.bool true)))
  | _ => none
end Go.Ev

set_option linter.unusedSimpArgs false
set_option linter.unusedVariables false
namespace Go.Ev
open Go.Proofs
structure Base (P : Program) (E : Env) : Prop where
  m : P.follows .mixedOrders = true
  T : CodeT P E
  Q : QuietOK P E
  P : PureOK P E
variable {P : Program} {E : Env}
theorem p134 (B : Base P E) (h : E.code 146 = some c134) : PureFn P E 146 F134 := by
  refine PureFn.of B.m B.T B.Q B.P fun vs r hF => ?_
  unfold F134 at hF
  split at hF
  · obtain ⟨⟨h0, h1⟩, hr⟩ := onlyIf_some hF
    rename_i c
    obtain ⟨k, rfl⟩ := Int.eq_ofNat_of_zero_le h0
    simp only [Option.some.injEq, Int.toNat_natCast] at hr; subst hr
    exact ⟨1, _, ev134 E h 1 k (by omega), .inl rfl⟩
  · cases hF
theorem p123 (B : Base P E) (h : E.code 81 = some c123) (h134 : E.pure 146 = some F134) : PureFn P E 81 F123 := by
  refine PureFn.of B.m B.T B.Q B.P fun vs r hF => ?_
  unfold F123 at hF
  split at hF
  · obtain ⟨⟨h0, rfl⟩, hr⟩ := onlyIf_some hF
    rename_i s
    simp only [Option.some.injEq] at hr; subst hr
    exact ⟨s.length + 1, _, ev123 E h h134 s h0 _ (by omega), .inl rfl⟩
  · cases hF
theorem p81 (B : Base P E) (h : E.code 109 = some c81) (h123 : E.pure 81 = some F123) : PureFn P E 109 F81 := by
  refine PureFn.of B.m B.T B.Q B.P fun vs r hF => ?_
  unfold F81 at hF
  split at hF
  · obtain ⟨h0, hr⟩ := onlyIf_some hF
    rename_i s
    simp only [Option.some.injEq] at hr; subst hr
    exact ⟨1, _, ev81 E h h123 s h0 _, .inl rfl⟩
  · cases hF
theorem p97 (B : Base P E) (h : E.code 126 = some c97) : PureFn P E 126 F97 := by
  refine PureFn.of_rec size97 B.m B.T B.Q B.P fun m vs r hF hs => ?_
  unfold F97 at hF
  split at hF
  · obtain ⟨⟨h0, h1, rfl⟩, hr⟩ := onlyIf_some hF
    rename_i c
    obtain ⟨k, rfl⟩ := Int.eq_ofNat_of_zero_le h0
    simp only [Option.some.injEq, Int.toNat_natCast] at hr; subst hr
    simp only [size97, Int.toNat_natCast] at hs
    subst hs
    exact ⟨1, _, ev97 E h 1 k (by omega), .inl rfl⟩
  · cases hF
theorem p45 (B : Base P E) (h : E.code 58 = some c45) (h97 : E.pure 126 = some F97) : PureFn P E 58 F45 := by
  refine PureFn.of B.m B.T B.Q B.P fun vs r hF => ?_
  unfold F45 at hF
  split at hF
  · obtain ⟨⟨h0, h1⟩, hr⟩ := onlyIf_some hF
    rename_i c
    obtain ⟨k, rfl⟩ := Int.eq_ofNat_of_zero_le h0
    simp only [Option.some.injEq, Int.toNat_natCast] at hr; subst hr
    exact ⟨1, _, ev45 E h h97 1 k (by omega), .inl rfl⟩
  · cases hF
theorem p78 (B : Base P E) (h : E.code 78 = some c78) : PureFn P E 78 F78 := by
  refine PureFn.of B.m B.T B.Q B.P fun vs r hF => ?_
  unfold F78 at hF
  split at hF
  · obtain ⟨h0, hr⟩ := onlyIf_some hF
    rename_i s
    simp only [Option.some.injEq] at hr; subst hr
    exact ⟨s.length + 1, _, ev78 E h s h0 _ (by omega), .inl rfl⟩
  · cases hF
theorem p55 (B : Base P E) (h : E.code 110 = some c55) : PureFn P E 110 F55 := by
  refine PureFn.of B.m B.T B.Q B.P fun vs r hF => ?_
  unfold F55 at hF
  split at hF
  · rename_i s ns ss a b
    simp only [Option.some.injEq] at hF; subst hF
    exact ⟨1, _, ev55 E h s ns ss a b 1, .inl rfl⟩
  · cases hF
theorem p122 (B : Base P E) (h : E.code 189 = some c122) : PureFn P E 189 F122 := by
  refine PureFn.of B.m B.T B.Q B.P fun vs r hF => ?_
  unfold F122 at hF
  split at hF
  · obtain ⟨⟨h0, h1, h2⟩, hr⟩ := onlyIf_some hF
    rename_i l b
    simp only [Option.some.injEq] at hr; subst hr
    have := ev122 E h b (l.map unstr) (by simpa using h1) h2 (l.length + 2) (by simp)
    rw [← h0] at this
    exact ⟨_, _, this, .inl rfl⟩
  · cases hF
theorem p82 (B : Base P E) (h : E.code 111 = some c82) (h45 : E.pure 58 = some F45) (h122 : E.pure 189 = some F122) : PureFn P E 111 F82 := by
  refine PureFn.of B.m B.T B.Q B.P fun vs r hF => ?_
  unfold F82 at hF
  split at hF
  · obtain ⟨⟨h0, h1, h2, h3⟩, hr⟩ := onlyIf_some hF
    rename_i l b
    simp only [Option.some.injEq] at hr; subst hr
    have := ev82 E h h45 h122 b (l.map unint) (by simpa using h1) h2 h3 (l.length + 1) (by simp)
    rw [← h0] at this
    exact ⟨_, _, this, .inl rfl⟩
  · cases hF
theorem p77 (B : Base P E) (h : E.code 106 = some c77) (h81 : E.pure 109 = some F81) (h45 : E.pure 58 = some F45) : PureFn P E 106 F77 := by
  refine PureFn.of B.m B.T B.Q B.P fun vs r hF => ?_
  unfold F77 at hF
  split at hF
  · obtain ⟨⟨h0, h1, h2⟩, hr⟩ := onlyIf_some hF
    rename_i l
    simp only [Option.some.injEq] at hr; subst hr
    have := ev77 E h h81 h45 (l.map unstr) (by simpa using h1) h2 (l.length + 1) (by simp)
    rw [← h0] at this
    exact ⟨_, _, this, .inl rfl⟩
  · cases hF
theorem p28 (B : Base P E) (h : E.code 41 = some c28) : PureFn P E 41 F28 := by
  refine PureFn.of B.m B.T B.Q B.P fun vs r hF => ?_
  unfold F28 at hF
  split at hF
  · obtain ⟨h0, hr⟩ := onlyIf_some hF
    rename_i s
    simp only [Option.some.injEq] at hr; subst hr
    obtain ⟨r, h1, h2⟩ := ev28 E h s h0 (s.length + 1) (by omega)
    exact ⟨_, r, h1, .inr ⟨_, rfl, h2⟩⟩
  · cases hF
theorem p52 (B : Base P E) (h : E.code 79 = some c52) : PureFn P E 79 F52 := by
  refine PureFn.of B.m B.T B.Q B.P fun vs r hF => ?_
  unfold F52 at hF
  split at hF
  · obtain ⟨h0, hr⟩ := onlyIf_some hF
    rename_i s
    simp only [Option.some.injEq] at hr; subst hr
    obtain ⟨r, h1, h2⟩ := ev52 E h s h0 (s.length + 1) (by omega)
    exact ⟨_, r, h1, .inr ⟨_, rfl, h2⟩⟩
  · cases hF
theorem p33 (B : Base P E) (h : E.code 46 = some c33) : PureFn P E 46 F33 := by
  refine PureFn.of B.m B.T B.Q B.P fun vs r hF => ?_
  unfold F33 at hF
  split at hF
  · rename_i a b
    simp only [Option.some.injEq] at hF; subst hF
    exact ⟨1, _, ev33 E h a b 1, .inl rfl⟩
  · cases hF
theorem p36 (B : Base P E) (h : E.code 49 = some c36) : PureFn P E 49 F36 := by
  refine PureFn.of B.m B.T B.Q B.P fun vs r hF => ?_
  unfold F36 at hF
  split at hF
  · rename_i a b
    simp only [Option.some.injEq] at hF; subst hF
    exact ⟨1, _, ev36 E h a b 1, .inl rfl⟩
  · cases hF
theorem p38 (B : Base P E) (h : E.code 51 = some c38) : PureFn P E 51 F38 := by
  refine PureFn.of B.m B.T B.Q B.P fun vs r hF => ?_
  unfold F38 at hF
  split at hF
  · rename_i a
    simp only [Option.some.injEq] at hF; subst hF
    exact ⟨1, _, ev38 E h a 1, .inl rfl⟩
  · cases hF
theorem p85 (B : Base P E) (h : E.code 114 = some c85) : PureFn P E 114 F85 := by
  refine PureFn.of B.m B.T B.Q B.P fun vs r hF => ?_
  unfold F85 at hF
  split at hF
  · rename_i a b
    simp only [Option.some.injEq] at hF; subst hF
    exact ⟨1, _, ev85 E h a b 1, .inl rfl⟩
  · cases hF
theorem p99 (B : Base P E) (h : E.code 128 = some c99) : PureFn P E 128 F99 := by
  refine PureFn.of B.m B.T B.Q B.P fun vs r hF => ?_
  unfold F99 at hF
  split at hF
  · obtain ⟨h0, hr⟩ := onlyIf_some hF
    rename_i s
    simp only [Option.some.injEq] at hr; subst hr
    exact ⟨1, _, ev99 E h s h0 1, .inl rfl⟩
  · cases hF
theorem p127 (B : Base P E) (h : E.code 152 = some c127) (hT : SpT E) : PureFn P E 152 F127 := by
  refine PureFn.of B.m B.T B.Q B.P fun vs r hF => ?_
  unfold F127 at hF
  split at hF
  · obtain ⟨⟨h0, h1⟩, hr⟩ := onlyIf_some hF
    rename_i s
    simp only [Option.some.injEq] at hr; subst hr
    exact ⟨s.length + 1, _, ev127 E h hT s h0 h1 _ (by omega), .inl rfl⟩
  · cases hF
end Go.Ev

set_option linter.unusedSimpArgs false
set_option linter.unusedVariables false
namespace Go.Ev
open Go.Proofs
variable {P : Program} {E : Env}
theorem p30 (B : Base P E) (h : E.code 43 = some c30) : PureFn P E 43 F30 := by
  refine PureFn.of B.m B.T B.Q B.P fun vs r hF => ?_
  unfold F30 at hF
  split at hF
  · rename_i a b
    simp only [Option.some.injEq] at hF; subst hF
    exact ⟨1, _, ev30 E h 1 a b, .inl rfl⟩
  · cases hF
end Go.Ev

set_option linter.unusedSimpArgs false
set_option linter.unusedVariables false
namespace Go.Ev
open Go.Proofs
variable {P : Program} {E : Env}
theorem p1084 (B : Base P E) (h : E.code 148 = some c1084) : PureFn P E 148 F1084 := by
  refine PureFn.of B.m B.T B.Q B.P fun vs r hF => ?_
  unfold F1084 at hF
  split at hF
  · rename_i l
    obtain ⟨⟨h1, h2⟩, hr⟩ := onlyIf_some hF
    simp only [Option.some.injEq] at hr; subst hr
    refine ⟨l.length + 1, _, ?_, .inl rfl⟩
    have := ev1084 E h (l.map unrow) (by simpa using h2) (l.length + 1) (by simp)
    rw [← h1] at this
    exact this
  · cases hF
def F8x : List SV → Option AV
  | [.str s] => some (.sv (.bool true))
  | _ => none
end Go.Ev

set_option linter.unusedSimpArgs false
set_option linter.unusedVariables false
namespace Go.Ev
open Go.Proofs
def codeTab : List (Nat × AFn) := [(15, c9), (19, c13), (38, c25), (39, c26), (40, c27), (41, c28), (43, c30), (46, c33), (49, c36), (51, c38), (58, c45), (79, c52), (110, c55), (104, c74), (106, c77), (78, c78), (109, c81), (111, c82), (114, c85), (116, c87), (117, c88), (119, c90), (126, c97), (128, c99), (184, c117), (185, c118), (186, c119), (187, c120), (188, c121), (189, c122), (81, c123), (190, c125), (152, c127), (159, c128), (200, c133), (146, c134), (201, c135), (213, c145), (223, c150), (228, c155), (232, c158), (237, c163), (238, c164), (246, c172), (248, c174), (24, c1015), (25, c1016), (65, c1035), (141, c1080), (48, c35), (44, c31), (107, c79), (108, c80), (120, c91), (148, c1084), (64, c51), (130, c101), (12, c3012), (13, c3013), (14, c3014), (34, c3034), (35, c3035), (36, c3036), (37, c3037), (84, c3084), (86, c3086), (87, c3087), (88, c3088), (95, c3095), (96, c3096), (97, c3097), (98, c3098), (99, c3099), (100, c3100), (101, c3101), (102, c3102), (103, c3103), (147, c3147), (149, c3149), (150, c3150), (153, c3153), (154, c3154), (156, c3156), (157, c3157), (161, c3161), (163, c3163), (164, c3164), (166, c3166), (167, c3167), (168, c3168), (169, c3169), (170, c3170), (171, c3171), (172, c3172), (173, c3173), (174, c3174), (176, c3176), (177, c3177), (178, c3178), (179, c3179), (180, c3180), (181, c3181), (182, c3182), (183, c3183), (198, c3198)]
theorem codeTab_ok : ∀ p ∈ codeTab, codeOf Tryz.prog p.1 = some p.2 := by
  intro p hp
  simp only [codeTab, List.mem_cons, List.not_mem_nil, or_false] at hp
  rcases hp with rfl | rfl | rfl | rfl | rfl | rfl | rfl | rfl | rfl | rfl | rfl | rfl | rfl | rfl | rfl | rfl | rfl | rfl | rfl | rfl | rfl | rfl | rfl | rfl | rfl | rfl | rfl | rfl | rfl | rfl | rfl | rfl | rfl | rfl | rfl | rfl | rfl | rfl | rfl | rfl | rfl | rfl | rfl | rfl | rfl | rfl | rfl | rfl | rfl | rfl | rfl | rfl | rfl | rfl | rfl | rfl | rfl | rfl | rfl | rfl | rfl | rfl | rfl | rfl | rfl | rfl | rfl | rfl | rfl | rfl | rfl | rfl | rfl | rfl | rfl | rfl | rfl | rfl | rfl | rfl | rfl | rfl | rfl | rfl | rfl | rfl | rfl | rfl | rfl | rfl | rfl | rfl | rfl | rfl | rfl | rfl | rfl | rfl | rfl | rfl | rfl | rfl | rfl | rfl | rfl
  · exact code9
  · exact code13
  · exact code25
  · exact code26
  · exact code27
  · exact code28
  · exact code30
  · exact code33
  · exact code36
  · exact code38
  · exact code45
  · exact code52
  · exact code55
  · exact code74
  · exact code77
  · exact code78
  · exact code81
  · exact code82
  · exact code85
  · exact code87
  · exact code88
  · exact code90
  · exact code97
  · exact code99
  · exact code117
  · exact code118
  · exact code119
  · exact code120
  · exact code121
  · exact code122
  · exact code123
  · exact code125
  · exact code127
  · exact code128
  · exact code133
  · exact code134
  · exact code135
  · exact code145
  · exact code150
  · exact code155
  · exact code158
  · exact code163
  · exact code164
  · exact code172
  · exact code174
  · exact code1015
  · exact code1016
  · exact code1035
  · exact code1080
  · exact code35
  · exact code31
  · exact code79
  · exact code80
  · exact code91
  · exact code1084
  · exact code51
  · exact code101
  · exact code3012
  · exact code3013
  · exact code3014
  · exact code3034
  · exact code3035
  · exact code3036
  · exact code3037
  · exact code3084
  · exact code3086
  · exact code3087
  · exact code3088
  · exact code3095
  · exact code3096
  · exact code3097
  · exact code3098
  · exact code3099
  · exact code3100
  · exact code3101
  · exact code3102
  · exact code3103
  · exact code3147
  · exact code3149
  · exact code3150
  · exact code3153
  · exact code3154
  · exact code3156
  · exact code3157
  · exact code3161
  · exact code3163
  · exact code3164
  · exact code3166
  · exact code3167
  · exact code3168
  · exact code3169
  · exact code3170
  · exact code3171
  · exact code3172
  · exact code3173
  · exact code3174
  · exact code3176
  · exact code3177
  · exact code3178
  · exact code3179
  · exact code3180
  · exact code3181
  · exact code3182
  · exact code3183
  · exact code3198
def codeFn (f : Nat) : Option AFn := codeTab.lookup f
theorem codeFn_ok (f : Nat) (fn : AFn) (h : codeFn f = some fn) : codeOf Tryz.prog f = some fn := by
  unfold codeFn at h
  have key : ∀ (l : List (Nat × AFn)), l.lookup f = some fn → (f, fn) ∈ l := by
    intro l
    induction l with
    | nil => intro h; simp at h
    | cons p l ih =>
      obtain ⟨g, x⟩ := p
      intro h
      simp only [List.lookup] at h
      split at h
      · rename_i e
        have e' : f = g := by simpa using e
        simp only [Option.some.injEq] at h
        subst h; subst e'
        simp
      · simp [ih h]
  exact codeTab_ok (f, fn) (key _ h)
def lvl (E : Env) (L : List Nat) (N : Nat) : Nat → Env
  | 0 => E
  | k + 1 => { E with pure := fun f => if L.contains f then some (fun vs => evP (lvl E L N k) N f vs) else E.pure f }
theorem lvl_same (E : Env) (L : List Nat) (N : Nat) : ∀ k, (lvl E L N k).glob = E.glob ∧ (lvl E L N k).code = E.code ∧ (lvl E L N k).quiet = E.quiet
  | 0 => ⟨rfl, rfl, rfl⟩
  | _ + 1 => ⟨rfl, rfl, rfl⟩
theorem lvl_ok {P : Program} {E : Env} (hm : P.follows .mixedOrders = true) (hT : CodeT P E) (hQ : QuietOK P E) (hP : PureOK P E) (L : List Nat) (N : Nat) : ∀ k, PureOK P (lvl E L N k)
  | 0 => hP
  | k + 1 => by
    obtain ⟨h1, h2, h3⟩ := lvl_same E L N k
    refine ⟨fun f F hf => ?_, fun f k hf => ?_⟩
    rotate_left
    · exact hP.2 f _ hf
    simp only [lvl] at hf
    split at hf
    · simp only [Option.some.injEq] at hf
      subst hf
      have hT' : CodeT P (lvl E L N k) := by intro g fn hg; rw [h2] at hg; exact hT g fn hg
      have hQ' : QuietOK P (lvl E L N k) := by intro g hg; rw [h3] at hg; exact hQ g hg
      exact (evP_ok hm hT' hQ' (lvl_ok hm hT hQ hP L N k) N f).glob h1.symm
    · exact (hP.1 f F hf).glob rfl
def unlit : DataW Unit → Lit
  | .lit l => l
  | _ => .nil
def lits : DataW Unit → List Lit
  | .agg l => l.map unlit
  | .slice l _ => l.map unlit
  | d => [unlit d]
def svD (d : DataW Unit) : List SV := match d with
  | .slice _ _ => [.sl ((lits d).map litS)]
  | d => (lits d).map litS
def globT (f : Nat) : List SV := match f with
  | 1 => svD YtcjebcenbimcgaaGreatDoor.Rows.laid_strings_asciiSpace
  | 7 => svD YtcjebcenbimcgaaGreatDoor.Rows.laid_internal_strconv_float32info
  | 8 => svD YtcjebcenbimcgaaGreatDoor.Rows.laid_internal_strconv_optimize
  | 9 => svD YtcjebcenbimcgaaGreatDoor.Rows.laid_internal_strconv_float64info
  | 10 => svD YtcjebcenbimcgaaGreatDoor.Rows.laid_internal_strconv_uint64pow10
  | 13 => svD YtcjebcenbimcgaaGreatDoor.Rows.laid_internal_strconv_float64pow10
  | _ => []
def E0 : Env := { glob := globT, pure := fun _ => none, code := codeFn, quiet := quietT, look := fun f => if f = 159 then some 3 else none }
def livesL : List Nat := [51, 114, 128, 200, 152, 213, 223, 228, 232, 237, 238, 201, 246, 248, 187, 188, 186, 185]
set_option maxRecDepth 100000 in
theorem lives_ev : evP (lvl E0 livesL 200 12) 200 38 [] = some (.sv (.bool true)) := by kernel_rfl
theorem follows : Tryz.prog.follows .mixedOrders = true := by kernel_rfl
theorem look0 : LookOK Tryz.prog E0 := by
  intro f k h b w u hu us hs h0
  have h' : (if f = 159 then some 3 else none) = some k := h
  split at h' <;> simp only [Option.some.injEq, reduceCtorEq] at h'
  rename_i e
  subst e; subst h'
  exact .inr ⟨159, us, by simp [callFunc, Tryz.func159, show (Tryz.f159.name == "runtime.NumGoroutine") = false by kernel_rfl, show Tryz.f159.name ≠ "runtime.NumGoroutine" from of_decide_eq_true (by kernel_rfl), Tryz.f159], (lookErr b w u hu us hs h0).mono fun e w' h => h⟩
theorem b0 : Base Tryz.prog E0 := ⟨follows, codeT_of codeFn_ok, quiet_ok E0 rfl, And.intro (fun f F h => by cases h) look0⟩
theorem p25 (E : Env) (hE : E.glob = globT) : PureFn Tryz.prog E 38 F25 := by
  have h : PureFn Tryz.prog (lvl E0 livesL 200 12) 38 (evP (lvl E0 livesL 200 12) 200 38) := by
    obtain ⟨h1, h2, h3⟩ := lvl_same E0 livesL 200 12
    exact evP_ok follows (fun g fn hg => b0.T g fn (by rw [h2] at hg; exact hg)) (fun g hg => b0.Q g (by rw [h3] at hg; exact hg)) (lvl_ok follows b0.T b0.Q b0.P livesL 200 12) 200 38
  refine (h.glob (E' := E) (by rw [hE, (lvl_same E0 livesL 200 12).1]; rfl)).mono fun vs r hr => ?_
  unfold F25 at hr
  split at hr
  · rw [lives_ev]; exact hr
  · cases hr
theorem p75 (E : Env) : PureFn Tryz.prog E 105 F75 := by
  intro vs r hF F0 w us hG hw hs hr
  unfold F75 at hF
  split at hF
  · rename_i b
    simp only [Option.some.injEq] at hF; subst hF
    have h0 := hr 0 (.flt .f64 b) rfl
    have hsz : us.size = 1 := by simpa using hs
    obtain ⟨l⟩ := us
    match l, hsz with
    | [u], _ =>
      have hu : u = .float .f64 b := by
        have : RepS F0 (.flt .f64 b) u := by simpa using h0
        cases this; rfl
      subst hu
      refine .inl ⟨.int .u64 b, w, ?_, ⟨F0, [], fun _ => none⟩, ⟨rfl, rfl, rfl, Nat.le_refl _, fun _ _ => rfl, fun _ _ _ h => h, fun _ _ _ _ h => h, hw, rfl, fun _ _ => rfl, fun _ _ _ h => by cases h⟩, .sv _ _ _ (.int _ _)⟩
      rw [run_callFunc_extern Tryz.func105 (by kernel_rfl) (by kernel_rfl) (by kernel_rfl) (e := Extern.MathFloatBits.float64bits) (by kernel_rfl)]
      rfl
  · cases hF
def spCheck (l : List SV) : Bool := (List.range 128).all fun k => match l[k]? with
  | some (.int .u8 n) => n == ((if (decide (9 ≤ k) && decide (k ≤ 13)) || k == 32 then 1 else 0 : Nat) : Int)
  | _ => false
theorem spCheck_ok : spCheck (globT 1) = true := by kernel_rfl
theorem spT0 : SpT E0 := by
  intro c hc
  have h := List.all_eq_true.1 spCheck_ok c.toNat (List.mem_range.2 hc)
  show (globT 1).drop c.toNat = _
  have hl : c.toNat < (globT 1).length := by
    refine Decidable.byContradiction fun hn => ?_
    rw [List.getElem?_eq_none (by omega)] at h
    cases h
  rw [List.drop_eq_getElem_cons hl]
  congr 1
  rw [List.getElem?_eq_getElem hl] at h
  split at h
  · rename_i n hx
    simp only [Option.some.injEq] at hx
    rw [hx]
    have : n = (spV c : Nat) := by
      simp only [beq_iff_eq] at h
      rw [h]; unfold spV spC; rfl
    rw [this]
  · cases h
end Go.Ev

set_option linter.unusedSimpArgs false
set_option linter.unusedVariables false
namespace Go.Ev
open Go.Proofs
theorem Base.add {P : Program} {E : Env} (B : Base P E) {f : Nat} {F : List SV → Option AV} (hF : PureFn P E f F) : Base P (E.add f F) := ⟨B.m, fun g fn h => B.T g fn h, fun g h => B.Q g h, B.P.add hF⟩
theorem p27 {P : Program} {E : Env} (B : Base P E) (h : E.code 40 = some c27) : PureFn P E 40 F27 := pure27 B.m B.T B.Q B.P h
theorem p26 {P : Program} {E : Env} (B : Base P E) (h : E.code 39 = some c26) (h75 : E.pure 105 = some F75) : PureFn P E 39 F26 := pure26 B.m B.T B.Q B.P h h75
end Go.Ev

set_option linter.unusedSimpArgs false
set_option linter.unusedVariables false
namespace Go.Ev
open Go.Proofs
variable {P : Program} {E : Env}
theorem p1080 (B : Base P E) (h : E.code 141 = some c1080) : PureFn P E 141 F1080 := by
  refine PureFn.of B.m B.T B.Q B.P fun vs r hF => ?_
  unfold F1080 at hF
  split at hF
  · rename_i l
    obtain ⟨h1, hr⟩ := onlyIf_some hF
    simp only [Option.some.injEq] at hr; subst hr
    refine ⟨l.length + 1, _, ?_, .inl rfl⟩
    have := ev1080 E h (l.map unstr) (l.length + 1) (.inl (by simp))
    rw [← h1] at this
    exact this
  · cases hF
theorem p1035 (B : Base P E) (h : E.code 65 = some c1035) (h80 : E.pure 141 = some F1080) : PureFn P E 65 F1035 := by
  refine PureFn.of B.m B.T B.Q B.P fun vs r hF => ?_
  unfold F1035 at hF
  split at hF
  · rename_i s ns ss
    obtain ⟨h1, hr⟩ := onlyIf_some hF
    simp only [Option.some.injEq] at hr; subst hr
    refine ⟨1, _, ?_, .inl rfl⟩
    have := ev1035 E h h80 (unrow (.agg [.str s, .sl ns, .sl ss])) 1
    rw [show SV.agg [.str (unrow (.agg [.str s, .sl ns, .sl ss])).name, .sl (u64s (unrow (.agg [.str s, .sl ns, .sl ss])).N), .sl (strs (unrow (.agg [.str s, .sl ns, .sl ss])).S)] = (unrow (.agg [.str s, .sl ns, .sl ss])).sv from rfl, ← h1] at this
    exact this
  · cases hF
theorem p1015 (B : Base P E) (h : E.code 24 = some c1015) (h35 : E.pure 65 = some F1035) : PureFn P E 24 F1015 := by
  refine PureFn.of B.m B.T B.Q B.P fun vs r hF => ?_
  unfold F1015 at hF
  split at hF
  · rename_i l
    obtain ⟨h1, hr⟩ := onlyIf_some hF
    simp only [Option.some.injEq] at hr; subst hr
    refine ⟨l.length + 1, _, ?_, .inl rfl⟩
    have := ev1015 E h h35 (l.map unrow) (l.length + 1) (.inl (by simp))
    rw [← h1] at this
    exact this
  · cases hF
end Go.Ev

set_option linter.unusedSimpArgs false
set_option linter.unusedVariables false
namespace Go.Ev
open Go.Proofs
def hexN (a : Nat) (s : List UInt8) : Nat := s.foldl (fun a c => a * 16 + digitV c.toNat) a
theorem hexN_nil (a : Nat) : hexN a [] = a := by unfold hexN; rw [List.foldl_nil]
theorem hexN_cons (a : Nat) (c : UInt8) (s : List UInt8) : hexN a (c :: s) = hexN (a * 16 + digitV c.toNat) s := by unfold hexN; rw [List.foldl_cons]
theorem hexN_ge : ∀ (s : List UInt8) (a : Nat), a ≤ hexN a s
  | [], a => by rw [hexN_nil]; exact Nat.le_refl _
  | c :: s, a => by rw [hexN_cons]; have := hexN_ge s (a * 16 + digitV c.toNat); omega
end Go.Ev

set_option linter.unusedSimpArgs false
set_option linter.unusedVariables false
namespace Go.Ev
open Go.Proofs
def two (a b : List UInt8) : List UInt8 := a ++ ([58] ++ b)
theorem fieldG_word1 {w rest : List UInt8} (h : w ≠ [] ∧ ∀ c ∈ w, blankC c = false) : fieldG [] (w ++ ([32] ++ rest)) = w :: fieldG [] rest :=
  fieldG_sep h.1 h.2 (by decide)
theorem plain_word {c : UInt8} (h : wordC c = true) : c.toNat ≠ 10 ∧ plainC c = true := ⟨(wordC_blank h).2, wordC_plain h⟩
end Go.Ev
