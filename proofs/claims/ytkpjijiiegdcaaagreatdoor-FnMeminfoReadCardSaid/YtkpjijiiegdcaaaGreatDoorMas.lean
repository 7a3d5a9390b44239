/- A scanner's step. -/
/- A scanner at the end. -/
/- strings.Fields: the words of a text of ASCII. -/
/- strings.Fields, whole. -/
/- strings.Fields of a text of ASCII. -/
/- Atoi of short decimal numbers. -/
/- One line of cgroups. -/
/- The rows of cgroups, read by the program. -/
/- The rows of cgroups, read by the program, whole. -/
/- The door of cgroups: trees of its rows. -/
/- The door of cgroups, whole. -/
/- The law's frame: read. -/
/- Lines and fields of any text, by recursion; a scanner over any text. -/
/- Texts padded, signed numbers, words. -/
/- Whole numbers, perhaps with a sign, as two's complements. -/
/- Atoi of numbers with a sign, of 64 bits. -/
/- Atoi, whole. -/
/- What is written of rows of swaps. -/
/- What is written of rows of swaps, whole; texts alike but for blanks. -/
/- The reading of swaps. -/
/- The reading of swaps: meant, where blanks do not count. -/
import Derived.Test.YtkpjijiiegdcaaaGreatDoorMaq
set_option linter.unusedSimpArgs false
set_option linter.unusedVariables false
namespace Go.Ev
open Go.Proofs

theorem loop88 (E : Env) (cf : CallF) (i : Nat) (bx : List Box) (left after_ : List UInt8) (m : Nat) (hb : bx[i]? = some (scanBox left [])) :
    ∀ (rest pre : List UInt8) (k : Nat), left = pre ++ rest ++ 10 :: after_ → left.length < 9223372036854775807 → (∀ c ∈ rest, c.toNat ≠ 10) → rest.length < k →
      rounds (evC E cf m b88_0) k { tm := [.ptr i 0, .sv .undef, .sv .undef, .sv (.int .i64 pre.length)] ++ List.replicate 104 (.sv .undef), lz := none, bx := bx, df := [] } =
        some (.exit 0, { tm := [.ptr i 0, .sv .undef, .sv .undef, .sv (.int .i64 (pre ++ rest).length)] ++ List.replicate 104 (.sv .undef), lz := none, bx := bx, df := [] }) := by
  simp only [scanBox] at hb
  intro rest
  induction rest with
  | nil =>
    intro pre k hsp hl hr hk
    obtain ⟨k, rfl⟩ : ∃ k', k = k' + 1 := ⟨k - 1, by omega⟩
    have hlt : pre.length < left.length := by rw [hsp]; simp
    have hc : ∀ h : pre.length < left.length, left[pre.length]'h = 10 := by subst hsp; simp
    simp [rounds, b88_0, List.replicate, hb, hlt, hc]
  | cons c rest ih =>
    intro pre k hsp hl hr hk
    obtain ⟨k, rfl⟩ : ∃ k', k = k' + 1 := ⟨k - 1, by omega⟩
    have hlt : pre.length < left.length := by rw [hsp]; simp
    have hc : ∀ h : pre.length < left.length, left[pre.length]'h = c := by subst hsp; simp
    have hne : ¬ (c.toNat : Int) = 10 := by have := hr c (by simp); omega
    have hneb : ((c.toNat : Int) == 10) = false := by simpa using hne
    have hnec : ((c.toNat : Int) != 10) = true := by simpa using hne
    have hw2 : IntKind.i64.wrap ((pre.length : Int) + 1) = ((pre ++ [c]).length : Int) := by rw [IntKind.wrap_i64]; simp; omega
    have := ih (pre ++ [c]) k (by rw [hsp]; simp) hl (fun x hx => hr x (by simp [hx])) (by simp at hk; omega)
    rw [show pre ++ [c] ++ rest = pre ++ c :: rest from by simp] at this
    rw [← this]
    simp [rounds, b88_0, List.replicate, hb, hlt, hc, hne, hneb, hnec, hw2]

/-- The next line. -/
theorem scan88 (E : Env) (h : E.code 182 = some c88) (i : Nat) (bx : List Box) (line after_ t : List UInt8) (hb : bx[i]? = some (scanBox (line ++ 10 :: after_) t)) (hl : line.length < 65536) (hal : after_.length < 1000000000) (hr : ∀ c ∈ line, c.toNat ≠ 10 ∧ c.toNat ≠ 13) (n : Nat) (hn : line.length < n) :
    evF E (n + 1) 182 [.ptr i 0] bx = some (.sv (.bool true), bx.set i (scanBox after_ line)) := by
  have hil : i < bx.length := (List.getElem?_eq_some_iff.1 hb).1
  have hb1 : (bx.set i (scanBox (line ++ 10 :: after_) []))[i]? = some (scanBox (line ++ 10 :: after_) []) := by simp [hil]
  have he := loop88 E (evF E n) i (bx.set i (scanBox (line ++ 10 :: after_) [])) (line ++ 10 :: after_) after_ n hb1 line [] n rfl (by simp; omega) (fun c hc => (hr c hc).1) hn
  simp only [scanBox, List.replicate, List.cons_append, List.nil_append, List.length_nil, Int.ofNat_zero, Int.natCast_zero] at he hb
  have hbi : ∀ h : i < bx.length, bx[i]'h = .live [.sv (.str (line ++ 10 :: after_)), .sv (.str t), .sv (.int .i64 65536), .sv .nilI] := fun h => by
    rw [List.getElem?_eq_getElem h] at hb; exact Option.some.inj hb
  have hw : IntKind.i64.wrap ((line.length : Int) + 1) = ((line.length + 1 : Nat) : Int) := by rw [IntKind.wrap_i64]; omega
  have g1 : ¬ (65536 : Int) ≤ (line.length : Int) := by omega
  have g2 : (line.length : Int) ≤ (line.length : Int) + ((after_.length : Int) + 1) := by omega
  have g3 : (line.length : Int) < (line.length : Int) + ((after_.length : Int) + 1) := by omega
  have g4 : (line.length : Int) + 1 ≤ (line.length : Int) + ((after_.length : Int) + 1) := by omega
  have g5 : (0 : Int) ≤ (line.length : Int) + ((after_.length : Int) + 1) := by omega
  have g6 : (0 : Int) ≤ (line.length : Int) + 1 := by omega
  have g7 : (line.length : Int) + 1 ≤ max ((line.length : Int) + ((after_.length : Int) + 1)) 0 := by omega
  have g8 : ((line.length : Int) + ((after_.length : Int) + 1)).toNat = line.length + (after_.length + 1) := by omega
  have ht : List.take line.length (line ++ 10 :: after_) = line := by simp
  have hd : List.drop (line.length + 1) (line ++ 10 :: after_) = after_ := by simp
  have hta : List.take (line.length + (after_.length + 1)) (line ++ 10 :: after_) = line ++ 10 :: after_ := List.take_of_length_le (by simp)
  simp only [evF, h]
  by_cases hl0 : line = []
  · subst hl0
    simp at *
    simp [c88, List.replicate, hbi, hil, he, scanBox, hw, g1, g2, g3, g4, g5, g6, ht, hd, hta]
  · have hpos : 0 < line.length := by
      cases line with
      | nil => exact absurd rfl hl0
      | cons x xs => simp
    have hposI : (0 : Int) < (line.length : Int) := by omega
    have wm : IntKind.i64.wrap ((line.length : Int) - 1) = ((line.length - 1 : Nat) : Int) := by rw [IntKind.wrap_i64]; omega
    have hlt1 : line.length - 1 < line.length := by omega
    have hlast := (hr (line[line.length - 1]'hlt1) (List.getElem_mem hlt1)).2
    have hl13 : ¬ ((line[line.length - 1]'hlt1).toNat : Int) = 13 := by omega
    have hl13b : (((line[line.length - 1]'hlt1).toNat : Int) == 13) = false := by simpa using hl13
    simp [c88, List.replicate, hbi, hil, he, scanBox, hw, g1, g2, g3, g4, g5, g6, ht, hd, hta, hpos, hposI, wm, hlt1, hl13, hl13b, g7, g8]

end Go.Ev

set_option linter.unusedSimpArgs false
set_option linter.unusedVariables false
namespace Go.Ev
open Go.Proofs

theorem scan88e (E : Env) (h : E.code 182 = some c88) (i : Nat) (bx : List Box) (t : List UInt8) (hb : bx[i]? = some (scanBox [] t)) (n : Nat) :
    evF E (n + 1) 182 [.ptr i 0] bx = some (.sv (.bool false), bx.set i (scanBox [] [])) := by
  have hil : i < bx.length := (List.getElem?_eq_some_iff.1 hb).1
  simp only [scanBox] at hb
  have hbi : ∀ h : i < bx.length, bx[i]'h = .live [.sv (.str []), .sv (.str t), .sv (.int .i64 65536), .sv .nilI] := fun h => by
    rw [List.getElem?_eq_getElem h] at hb; exact Option.some.inj hb
  simp only [evF, h]
  simp [c88, List.replicate, hbi, hil, scanBox]

end Go.Ev

set_option linter.unusedSimpArgs false
set_option linter.unusedVariables false
namespace Go.Ev
open Go.Proofs

def spC (c : UInt8) : Bool := (decide (9 ≤ c.toNat) && decide (c.toNat ≤ 13)) || c.toNat == 32

def spV (c : UInt8) : Nat := if spC c then 1 else 0

/-- The table of blanks. -/
def SpT (E : Env) : Prop := ∀ c : UInt8, c.toNat < 128 → (E.glob 1).drop c.toNat = .int .u8 (spV c : Nat) :: (E.glob 1).drop (c.toNat + 1)

/-- The words of a text; cur: what of a word came before. -/
def wordsG (cur : List UInt8) : List UInt8 → List (List UInt8)
  | [] => if cur = [] then [] else [cur]
  | c :: cs => if spC c then (if cur = [] then wordsG [] cs else cur :: wordsG [] cs) else wordsG (cur ++ [c]) cs

/-- How many words begin, where what was before was a blank or not. -/
def cntG (was : Bool) : List UInt8 → Nat
  | [] => 0
  | c :: cs => (if was && !spC c then 1 else 0) + cntG (spC c) cs

theorem cntG_len : ∀ (s cur : List UInt8), cntG (cur == []) s + (if cur = [] then 0 else 1) = (wordsG cur s).length
  | [], cur => by simp only [cntG, wordsG]; split <;> simp_all
  | c :: s, cur => by
    simp only [cntG, wordsG]
    cases hc : spC c with
    | true =>
      have := cntG_len s []
      by_cases h : cur = []
      · subst h; simp at this ⊢; omega
      · simp [h] at this ⊢; omega
    | false =>
      have := cntG_len s (cur ++ [c])
      have hb2 : (cur ++ [c] == []) = false := by simp
      have hb3 : ¬ (cur ++ [c] = []) := by simp
      rw [hb2, if_neg hb3] at this
      by_cases h : cur = []
      · subst h; simp at this ⊢; omega
      · have hb : (cur == []) = false := by simpa using h
        simp [h, hb] at this ⊢; omega

theorem spV_cases (c : UInt8) : (spC c = true ∧ spV c = 1) ∨ (spC c = false ∧ spV c = 0) := by
  unfold spV; cases spC c <;> simp

theorem loop127c (E : Env) (cf : CallF) (hT : SpT E) (s : List UInt8) (hs : s.length < 1000000000000) (m : Nat) :
    ∀ (rest pre : List UInt8) (n : Nat) (was : Bool) (bits : Nat) (k : Nat), s = pre ++ rest → (∀ c ∈ rest, c.toNat < 128) → n ≤ pre.length → bits < 128 → rest.length < k →
      ∃ bits' : Nat, bits' < 128 ∧ rounds (evC E cf m b127_3) k { tm := [.sv (.str s), .sv .undef, .sv .undef, .sv (.int .i64 n), .sv (.int .i64 (if was then 1 else 0)), .sv (.int .u8 bits), .sv (.int .i64 pre.length)] ++ List.replicate 99 (.sv .undef), lz := none, bx := [], df := [] } =
        some (.exit 0, { tm := [.sv (.str s), .sv .undef, .sv .undef, .sv (.int .i64 (n + cntG was rest : Nat)), .sv .undef, .sv (.int .u8 bits')] ++ List.replicate 100 (.sv .undef), lz := none, bx := [], df := [] }) := by
  intro rest
  induction rest with
  | nil =>
    intro pre n was bits k hsp hr hn hb hk
    obtain ⟨k, rfl⟩ : ∃ k', k = k' + 1 := ⟨k - 1, by omega⟩
    have hlt : ¬ (pre.length < s.length) := by rw [hsp]; simp
    exact ⟨bits, hb, by simp [rounds, b127_3, List.replicate, hlt, cntG]⟩
  | cons c rest ih =>
    intro pre n was bits k hsp hr hn hb hk
    obtain ⟨k, rfl⟩ : ∃ k', k = k' + 1 := ⟨k - 1, by omega⟩
    have hlt : pre.length < s.length := by rw [hsp]; simp
    have hc : ∀ h : pre.length < s.length, s[pre.length]'h = c := by subst hsp; simp
    have hw2 : IntKind.i64.wrap ((pre.length : Int) + 1) = ((pre ++ [c]).length : Int) := by rw [IntKind.wrap_i64]; simp; omega
    have hc8 := hr c (by simp)
    have hsp1 := hT c hc8
    have hor : IntKind.u8.wrap ((bits % 2 ^ IntKind.u8.bits ||| c.toNat % 2 ^ IntKind.u8.bits : Nat) : Int) = ((bits ||| c.toNat : Nat) : Int) := by
      have := Nat.or_lt_two_pow (n := 7) hb hc8
      rw [show IntKind.u8.bits = 8 from rfl, Nat.mod_eq_of_lt (by omega), Nat.mod_eq_of_lt (by omega), IntKind.wrap_u8]; omega
    have k0 : ∀ x : Int, x = 0 → IntKind.i64.wrap ((n : Int) + x) = n := by intro x hx; subst hx; rw [IntKind.wrap_i64]; omega
    have k1 : ∀ x : Int, x = 1 → IntKind.i64.wrap ((n : Int) + x) = (n : Int) + 1 := by intro x hx; subst hx; rw [IntKind.wrap_i64]; omega
    have hc256 : (c.toNat : Int) < 256 := by omega
    have hlo : bits ||| c.toNat < 128 := Nat.or_lt_two_pow (n := 7) hb hc8
    have hn1 : IntKind.i64.wrap ((n : Int) + 1) = ((n + 1 : Nat) : Int) := by rw [IntKind.wrap_i64]; omega
    have hn0 : IntKind.i64.wrap ((n : Int)) = (n : Int) := by rw [IntKind.wrap_i64]; omega
    have hwa1 : IntKind.i64.wrap 1 = 1 := by rw [IntKind.wrap_i64]; omega
    have hwa0 : IntKind.i64.wrap 0 = 0 := by rw [IntKind.wrap_i64]; omega
    rcases spV_cases c with ⟨h1, h2⟩ | ⟨h1, h2⟩
    · rw [h2] at hsp1
      obtain ⟨bits', hb', he⟩ := ih (pre ++ [c]) n true (bits ||| c.toNat) k (by rw [hsp]; simp) (fun x hx => hr x (by simp [hx])) (by simp; omega) hlo (by simp at hk; omega)
      refine ⟨bits', hb', ?_⟩
      have hcn : cntG was (c :: rest) = cntG true rest := by simp [cntG, h1]
      rw [hcn, ← he]
      refine rounds_step ?_
      cases was
      · simp [b127_3, List.replicate, hlt, hc, hc256, hsp1, hor, hw2, hwa1, hwa0, hn0]
      · simp [b127_3, List.replicate, hlt, hc, hc256, hsp1, hor, hw2, hwa1, hwa0, hn0]
        exact k0 _ (by decide)
    · rw [h2] at hsp1
      cases was with
      | true =>
        obtain ⟨bits', hb', he⟩ := ih (pre ++ [c]) (n + 1) false (bits ||| c.toNat) k (by rw [hsp]; simp) (fun x hx => hr x (by simp [hx])) (by simp; omega) hlo (by simp at hk; omega)
        refine ⟨bits', hb', ?_⟩
        have hcn : n + cntG true (c :: rest) = n + 1 + cntG false rest := by simp [cntG, h1]; omega
        rw [hcn, ← he]
        refine rounds_step ?_
        simp [b127_3, List.replicate, hlt, hc, hc256, hsp1, hor, hw2, hwa1, hwa0]
        exact k1 _ (by decide)
      | false =>
        obtain ⟨bits', hb', he⟩ := ih (pre ++ [c]) n false (bits ||| c.toNat) k (by rw [hsp]; simp) (fun x hx => hr x (by simp [hx])) (by simp; omega) hlo (by simp at hk; omega)
        refine ⟨bits', hb', ?_⟩
        have hcn : cntG false (c :: rest) = cntG false rest := by simp [cntG, h1]
        rw [hcn, ← he]
        refine rounds_step ?_
        simp [b127_3, List.replicate, hlt, hc, hc256, hsp1, hor, hw2, hwa1, hwa0, hn0]

end Go.Ev

set_option linter.unusedSimpArgs false
set_option linter.unusedVariables false
namespace Go.Ev
open Go.Proofs

def rowC (N : Nat) (ws : List (List UInt8)) : List Cell := ws.map (fun w => Cell.sv (.str w)) ++ List.replicate (N - ws.length) (Cell.sv (.str []))

theorem rowC_len {N : Nat} {ws : List (List UInt8)} (h : ws.length ≤ N) : (rowC N ws).length = N := by simp [rowC]; omega

theorem rowC_set {N : Nat} {ws : List (List UInt8)} (w : List UInt8) (h : ws.length < N) : (rowC N ws).set ws.length (.sv (.str w)) = rowC N (ws ++ [w]) := by
  obtain ⟨r, hr⟩ : ∃ r, N - ws.length = r + 1 := ⟨N - ws.length - 1, by omega⟩
  have hr2 : N - (ws ++ [w]).length = r := by simp; omega
  unfold rowC
  rw [hr, hr2, List.replicate_succ]
  simp

theorem loop127s (E : Env) (cf : CallF) (hT : SpT E) (s : List UInt8) (hs : s.length < 1000000000000) (m na N : Nat) (bx : List Box) :
    ∀ (rest pre : List UInt8) (k : Nat), s = pre ++ rest → (∀ c ∈ rest, c.toNat < 128) → rest.length < k →
      rounds (evC E cf m b127_2) k { tm := [.sv (.str s)] ++ List.replicate 8 (.sv .undef) ++ [.mrow 0 N 1, .sv (.int .i64 na), .sv .undef, .sv (.int .i64 pre.length)] ++ List.replicate 93 (.sv .undef), lz := none, bx := bx, df := [] } =
        some (.exit 2, { tm := [.sv (.str s)] ++ List.replicate 8 (.sv .undef) ++ [.mrow 0 N 1, .sv (.int .i64 na), .sv .undef, .sv (.int .i64 (pre ++ rest.takeWhile spC).length)] ++ List.replicate 93 (.sv .undef), lz := none, bx := bx, df := [] }) := by
  intro rest
  induction rest with
  | nil =>
    intro pre k hsp hr hk
    obtain ⟨k, rfl⟩ : ∃ k', k = k' + 1 := ⟨k - 1, by omega⟩
    have hlt : ¬ (pre.length < s.length) := by rw [hsp]; simp
    refine rounds_out ?_ (by simp)
    simp [b127_2, List.replicate, hlt]
  | cons c rest ih =>
    intro pre k hsp hr hk
    obtain ⟨k, rfl⟩ : ∃ k', k = k' + 1 := ⟨k - 1, by omega⟩
    have hlt : pre.length < s.length := by rw [hsp]; simp
    have hc : ∀ h : pre.length < s.length, s[pre.length]'h = c := by subst hsp; simp
    have hw2 : IntKind.i64.wrap ((pre.length : Int) + 1) = ((pre ++ [c]).length : Int) := by rw [IntKind.wrap_i64]; simp; omega
    have hc8 := hr c (by simp)
    have hsp1 := hT c hc8
    have hc256 : (c.toNat : Int) < 256 := by omega
    rcases spV_cases c with ⟨h1, h2⟩ | ⟨h1, h2⟩
    · rw [h2] at hsp1
      have he := ih (pre ++ [c]) k (by rw [hsp]; simp) (fun x hx => hr x (by simp [hx])) (by simp at hk; omega)
      rw [List.takeWhile_cons, h1, if_pos rfl, show pre ++ c :: rest.takeWhile spC = pre ++ [c] ++ rest.takeWhile spC from by simp, ← he]
      refine rounds_step ?_
      simp [b127_2, List.replicate, hlt, hc, hc256, hsp1, hw2]
    · rw [h2] at hsp1
      rw [List.takeWhile_cons, h1, if_neg (by simp)]
      refine rounds_out ?_ (by simp)
      simp [b127_2, List.replicate, hlt, hc, hc256, hsp1, hw2]

theorem loop127t (E : Env) (cf : CallF) (hT : SpT E) (s : List UInt8) (hs : s.length < 1000000000000) (m na N : Nat) (bx : List Box) :
    ∀ (rest pre : List UInt8) (k : Nat), s = pre ++ rest → (∀ c ∈ rest, c.toNat < 128) → rest.length < k →
      rounds (evC E cf m b127_0) k { tm := [.sv (.str s)] ++ List.replicate 8 (.sv .undef) ++ [.mrow 0 N 1, .sv (.int .i64 na), .sv .undef, .sv (.int .i64 pre.length)] ++ List.replicate 93 (.sv .undef), lz := none, bx := bx, df := [] } =
        some (.exit 6, { tm := [.sv (.str s)] ++ List.replicate 8 (.sv .undef) ++ [.mrow 0 N 1, .sv (.int .i64 na), .sv .undef, .sv (.int .i64 (pre ++ rest.takeWhile spC).length)] ++ List.replicate 93 (.sv .undef), lz := none, bx := bx, df := [] }) := by
  intro rest
  induction rest with
  | nil =>
    intro pre k hsp hr hk
    obtain ⟨k, rfl⟩ : ∃ k', k = k' + 1 := ⟨k - 1, by omega⟩
    have hlt : ¬ (pre.length < s.length) := by rw [hsp]; simp
    refine rounds_out ?_ (by simp)
    simp [b127_0, List.replicate, hlt]
  | cons c rest ih =>
    intro pre k hsp hr hk
    obtain ⟨k, rfl⟩ : ∃ k', k = k' + 1 := ⟨k - 1, by omega⟩
    have hlt : pre.length < s.length := by rw [hsp]; simp
    have hc : ∀ h : pre.length < s.length, s[pre.length]'h = c := by subst hsp; simp
    have hw2 : IntKind.i64.wrap ((pre.length : Int) + 1) = ((pre ++ [c]).length : Int) := by rw [IntKind.wrap_i64]; simp; omega
    have hc8 := hr c (by simp)
    have hsp1 := hT c hc8
    have hc256 : (c.toNat : Int) < 256 := by omega
    rcases spV_cases c with ⟨h1, h2⟩ | ⟨h1, h2⟩
    · rw [h2] at hsp1
      have he := ih (pre ++ [c]) k (by rw [hsp]; simp) (fun x hx => hr x (by simp [hx])) (by simp at hk; omega)
      rw [List.takeWhile_cons, h1, if_pos rfl, show pre ++ c :: rest.takeWhile spC = pre ++ [c] ++ rest.takeWhile spC from by simp, ← he]
      refine rounds_step ?_
      simp [b127_0, List.replicate, hlt, hc, hc256, hsp1, hw2]
    · rw [h2] at hsp1
      rw [List.takeWhile_cons, h1, if_neg (by simp)]
      refine rounds_out ?_ (by simp)
      simp [b127_0, List.replicate, hlt, hc, hc256, hsp1, hw2]

theorem wordsG_skip : ∀ (rest : List UInt8), wordsG [] rest = wordsG [] (rest.dropWhile spC)
  | [] => rfl
  | c :: rest => by
    rw [List.dropWhile_cons]
    cases h : spC c with
    | true => simp [wordsG, h]; exact wordsG_skip rest
    | false => simp

theorem drop_head (rest : List UInt8) : ∀ c cs, rest.dropWhile spC = c :: cs → spC c = false := by
  intro c cs h
  have := List.head?_dropWhile_not spC rest
  rw [h] at this
  simpa using this

theorem loop127w (E : Env) (cf : CallF) (hT : SpT E) (s : List UInt8) (hs : s.length < 1000000000000) (h8 : ∀ c ∈ s, c.toNat < 128) (m N : Nat) (hm : s.length < m) (hN0 : N < 1000000000000) :
    ∀ (n : Nat) (rest pre cur : List UInt8) (ws : List (List UInt8)) (k : Nat), rest.length ≤ n → s = pre ++ cur ++ rest → (cur = [] → ∀ c cs, rest = c :: cs → spC c = false) → ws.length + (wordsG cur rest).length ≤ N → rest.length < k →
      ∃ pre1 cur1 ws1, s = pre1 ++ cur1 ∧ ws1 ++ (if cur1 = [] then [] else [cur1]) = ws ++ wordsG cur rest ∧
      rounds (evC E cf m b127_1) k { tm := [.sv (.str s)] ++ List.replicate 8 (.sv .undef) ++ [.mrow 0 N 1, .sv (.int .i64 ws.length), .sv (.int .i64 pre.length), .sv (.int .i64 (pre ++ cur).length)] ++ List.replicate 93 (.sv .undef), lz := none, bx := [.live (rowC N ws)], df := [] } =
        some (.exit 4, { tm := [.sv (.str s)] ++ List.replicate 8 (.sv .undef) ++ [.mrow 0 N 1, .sv (.int .i64 ws1.length), .sv (.int .i64 pre1.length), .sv .undef] ++ List.replicate 93 (.sv .undef), lz := none, bx := [.live (rowC N ws1)], df := [] }) := by
  intro n
  induction n with
  | zero =>
    intro rest pre cur ws k hn hsp hcur hN hk
    obtain ⟨k, rfl⟩ : ∃ k', k = k' + 1 := ⟨k - 1, by omega⟩
    obtain rfl : rest = [] := List.eq_nil_of_length_eq_zero (by omega)
    refine ⟨pre, cur, ws, by simpa using hsp, by simp [wordsG], ?_⟩
    have hlt : ¬ ((pre ++ cur).length < s.length) := by rw [hsp]; simp
    refine rounds_out ?_ (by simp)
    generalize (pre ++ cur).length = pl at hlt
    simp [b127_1, List.replicate, hlt]
  | succ n ih =>
    intro rest pre cur ws k hn hsp hcur hN hk
    obtain ⟨k, rfl⟩ : ∃ k', k = k' + 1 := ⟨k - 1, by omega⟩
    cases rest with
    | nil => exact ih [] pre cur ws (k + 1) (by simp) hsp hcur hN hk
    | cons c rest =>
      have hlt : (pre ++ cur).length < s.length := by rw [hsp]; simp
      have hsl := congrArg List.length hsp
      simp only [List.length_append, List.length_cons] at hsl
      have hc : ∀ h : (pre ++ cur).length < s.length, s[(pre ++ cur).length]'h = c := by subst hsp; simp
      have hw2 : IntKind.i64.wrap (((pre ++ cur).length : Int) + 1) = ((pre ++ (cur ++ [c])).length : Int) := by rw [IntKind.wrap_i64]; simp only [List.length_append, List.length_cons, List.length_nil]; omega
      have hc8 := h8 c (by rw [hsp]; simp)
      have hsp1 := hT c hc8
      have hc256 : (c.toNat : Int) < 256 := by omega
      rcases spV_cases c with ⟨h1, h2⟩ | ⟨h1, h2⟩
      · rw [h2] at hsp1
        have hcn : cur ≠ [] := fun h => by have := hcur h c rest rfl; rw [h1] at this; cases this
        have hwg : wordsG cur (c :: rest) = cur :: wordsG [] rest := by simp [wordsG, h1, hcn]
        rw [hwg] at hN
        simp only [List.length_cons] at hN
        have hskip := loop127t E cf hT s hs m (ws ++ [cur]).length N [.live (rowC N (ws ++ [cur]))] rest (pre ++ cur ++ [c]) m (by rw [hsp]; simp) (fun x hx => h8 x (by rw [hsp]; simp [hx])) (by rw [hsp] at hm; simp at hm; omega)
        have hdl : (rest.dropWhile spC).length ≤ rest.length := (List.dropWhile_sublist _).length_le
        obtain ⟨pre1, cur1, ws1, g1, g2, g3⟩ := ih (rest.dropWhile spC) (pre ++ cur ++ [c] ++ rest.takeWhile spC) [] (ws ++ [cur]) k (by simp at hn; omega)
          (by rw [hsp]; simp [List.takeWhile_append_dropWhile]) (fun _ => drop_head rest) (by rw [← wordsG_skip]; simp; omega) (by simp at hk; omega)
        refine ⟨pre1, cur1, ws1, g1, ?_, ?_⟩
        · rw [g2, hwg, ← wordsG_skip]; simp
        · rw [← g3]
          refine rounds_step ?_
          have hwl : ws.length < N := by omega
          have hset := rowC_set cur hwl
          have hrl := rowC_len (N := N) (ws := ws) (by omega)
          have hwn : IntKind.i64.wrap ((ws.length : Int) + 1) = ((ws ++ [cur]).length : Int) := by rw [IntKind.wrap_i64]; simp only [List.length_append, List.length_cons, List.length_nil]; omega
          have hsub : (s.take (pre ++ cur).length).drop pre.length = cur := by rw [hsp, List.take_left, List.drop_left]
          generalize hC : rowC N ws = C at hset hrl
          have q1 : pre.length ≤ (pre ++ cur).length := by simp
          have q2 : (pre ++ cur).length ≤ s.length := by omega
          have hw3 : IntKind.i64.wrap (((pre ++ cur).length : Int) + 1) = ((pre ++ cur ++ [c]).length : Int) := by rw [hw2]; simp
          have hwlI : (ws.length : Int) < (N : Int) := by omega
          simp only [List.replicate, List.cons_append, List.nil_append] at hskip
          have hNl : ws.length < C.length := by omega
          have e1 : (pre ++ cur ++ [c] ++ rest.takeWhile spC ++ []).length = (pre ++ cur ++ [c] ++ rest.takeWhile spC).length := by simp
          rw [e1]
          generalize hP2 : (pre ++ cur ++ [c]).length = P2 at hskip hw3
          generalize hP3 : (pre ++ cur ++ [c] ++ rest.takeWhile spC).length = P3 at hskip
          generalize hN2 : (ws ++ [cur]).length = N2 at hskip hwn
          generalize hPL : (pre ++ cur).length = pl at hlt hc hw2 hsub q1 q2 hw3
          simp [b127_1, List.replicate, hlt, hc, hc256, hsp1, hw3, hwl, hwlI, q1, q2, hsub, hNl, hset, hwn, hskip]
      · rw [h2] at hsp1
        have hwg : wordsG cur (c :: rest) = wordsG (cur ++ [c]) rest := by simp [wordsG, h1]
        obtain ⟨pre1, cur1, ws1, g1, g2, g3⟩ := ih rest pre (cur ++ [c]) ws k (by simp at hn; omega) (by rw [hsp]; simp) (fun h => by simp at h) (by rw [← hwg]; exact hN) (by simp at hk; omega)
        refine ⟨pre1, cur1, ws1, g1, by rw [g2, hwg], ?_⟩
        rw [← g3]
        refine rounds_step ?_
        generalize (pre ++ cur).length = pl at hlt hc hw2
        generalize (pre ++ (cur ++ [c])).length = pl2 at hw2
        simp [b127_1, List.replicate, hlt, hc, hc256, hsp1, hw2]

end Go.Ev

set_option linter.unusedSimpArgs false
set_option linter.unusedVariables false
namespace Go.Ev
open Go.Proofs

theorem cntG_le : ∀ (s : List UInt8) (was : Bool), cntG was s ≤ s.length
  | [], _ => by simp [cntG]
  | c :: s, was => by
    have := cntG_le s (spC c)
    simp only [cntG, List.length_cons]
    split <;> omega

theorem rowC_plain {N : Nat} {ws : List (List UInt8)} (h : ws.length = N) : (rowC N ws).map Cell.plain = strs ws := by
  unfold rowC
  rw [show N - ws.length = 0 from by omega]
  simp [strs, Cell.plain]

theorem ev127 (E : Env) (h : E.code 194 = some c127) (hT : SpT E) (s : List UInt8) (hs : s.length < 1000000000000) (h8 : ∀ c ∈ s, c.toNat < 128) (n : Nat) (hn : s.length < n) :
    evP E n 194 [.str s] = some (.sv (.sl (strs (wordsG [] s)))) := by
  unfold evP
  simp only [h]
  obtain ⟨bits, hb, h1⟩ := loop127c E (evF E n) hT s hs n s [] 0 true 0 n rfl h8 (by simp) (by omega) hn
  have hcl := cntG_len s []
  simp only [if_true, Nat.add_zero, beq_self_eq_true] at hcl
  have hcle := cntG_le s true
  rw [hcl] at h1 hcle
  generalize hN : (wordsG [] s).length = N at h1 hcle
  have h2 := loop127s E (evF E n) hT s hs n 0 N [.live (rowC N [])] s [] n rfl h8 hn
  obtain ⟨pre1, cur1, ws1, g1, g2, h3⟩ := loop127w E (evF E n) hT s hs h8 n N hn (by omega) (s.dropWhile spC).length (s.dropWhile spC) (s.takeWhile spC) [] [] n (Nat.le_refl _) (by simp [List.takeWhile_append_dropWhile]) (fun _ => drop_head s)
    (by rw [← wordsG_skip]; simp; omega) (by have := (List.dropWhile_sublist (p := spC) (l := s)).length_le; omega)
  simp only [List.append_nil, List.nil_append, List.length_nil, ← wordsG_skip] at h2 h3 g2
  generalize (s.takeWhile spC).length = p1 at h2 h3
  have hbI : ¬ (128 : Int) ≤ (bits : Int) := by omega
  have hrow : rowC N [] = List.replicate N (Cell.sv (SV.str [])) := by simp [rowC]
  rw [hrow] at h2 h3
  simp only [List.replicate, List.cons_append, List.nil_append, Int.ofNat_zero, Int.natCast_zero, if_true, List.length_nil, Nat.zero_add] at h1 h2 h3
  have q1 : (N : Int) * 16 ≤ 70368744177664 := by omega
  have q2 : (N : Int) ≤ 70368744177664 := by omega
  by_cases hcur : cur1 = []
  · subst hcur
    simp at g1 g2
    subst g1
    subst g2
    have hpl := rowC_plain hN
    have hpl2 := rowC_len (N := N) (ws := wordsG [] s) (by omega)
    simp [c127, List.replicate, h1, hbI, q1, q2, h2, h3, hpl2, hpl, strs_length, hN]
  · rw [if_neg hcur] at g2
    have hw1 : ws1.length < N := by rw [← hN, ← g2]; simp
    have hlt : (pre1.length : Int) < (s.length : Int) := by
      rw [g1]; cases cur1 with
      | nil => exact absurd rfl hcur
      | cons _ _ => simp; omega
    have hle : pre1.length ≤ s.length := by omega
    have hlt' : pre1.length < s.length := by omega
    have hd : List.drop pre1.length s = cur1 := by rw [g1]; simp
    have hset := rowC_set cur1 hw1
    have hpl := rowC_plain (N := N) (ws := ws1 ++ [cur1]) (by rw [g2]; exact hN)
    have hpl2 := rowC_len (N := N) (ws := ws1 ++ [cur1]) (by simp; omega)
    have hpl3 := rowC_len (N := N) (ws := ws1) (by omega)
    have hw1I : (ws1.length : Int) < (N : Int) := by omega
    rw [g2] at hset hpl hpl2
    generalize rowC N ws1 = C1 at h3 hset hpl3
    have hw1C : ws1.length < C1.length := by omega
    have htk : List.take s.length s = s := List.take_length
    simp [c127, List.replicate, h1, hbI, q1, q2, h2, h3, hlt', hle, hd, hw1, hw1C, hset, hpl2, hpl, htk, strs_length, hN]

noncomputable def F127 : List SV → Option AV
  | [.str s] => onlyIf (s.length < 1000000000000 ∧ ∀ c ∈ s, c.toNat < 128) (some (.sv (.sl (strs (wordsG [] s)))))
  | _ => none

theorem F127_eq (s : List UInt8) (h1 : s.length < 1000000000000) (h2 : ∀ c ∈ s, c.toNat < 128) : F127 [.str s] = some (.sv (.sl (strs (wordsG [] s)))) := onlyIf_pos ⟨h1, h2⟩

/-! ### The words of a line -/

end Go.Ev

set_option linter.unusedSimpArgs false
set_option linter.unusedVariables false
namespace Go.Ev
open Go.Proofs

def dgt (c : UInt8) : Nat := c.toNat - 48

def digN (a : Nat) (s : List UInt8) : Nat := s.foldl (fun a c => a * 10 + dgt c) a

theorem digN_nil (a : Nat) : digN a [] = a := by unfold digN; rw [List.foldl_nil]
theorem digN_cons (a : Nat) (c : UInt8) (s : List UInt8) : digN a (c :: s) = digN (a * 10 + dgt c) s := by unfold digN; rw [List.foldl_cons]

def digC (c : UInt8) : Bool := decide (48 ≤ c.toNat) && decide (c.toNat ≤ 57)

theorem digC_iff {c : UInt8} : digC c = true ↔ 48 ≤ c.toNat ∧ c.toNat ≤ 57 := by simp [digC]

theorem digN_append (s t : List UInt8) (a : Nat) : digN a (s ++ t) = digN (digN a s) t := by unfold digN; rw [List.foldl_append]

theorem dig_toNat {d : Nat} (h : d < 10) : (UInt8.ofNat (48 + d)).toNat = 48 + d := by
  rw [UInt8.toNat_ofNat']; omega

theorem decS_dig (n : Nat) : digN 0 (decS n) = n ∧ (∀ c ∈ decS n, digC c = true) ∧ decS n ≠ [] := by
  induction n using Nat.strongRecOn with
  | ind n ih =>
    by_cases h : n < 10
    · rw [decS_small h]
      have := dig_toNat h
      refine ⟨by rw [digN_cons, digN_nil, dgt, this]; omega, fun c hc => ?_, by simp⟩
      obtain rfl := List.mem_singleton.1 hc
      rw [digC_iff, this]; omega
    · rw [decS_step h]
      obtain ⟨h1, h2, h3⟩ := ih (n / 10) (by omega)
      have hd : n % 10 < 10 := Nat.mod_lt _ (by omega)
      have := dig_toNat hd
      refine ⟨by rw [digN_append, h1, digN_cons, digN_nil, dgt, this]; omega, fun c hc => ?_, by simp⟩
      rcases List.mem_append.1 hc with hc | hc
      · exact h2 c hc
      · obtain rfl := List.mem_singleton.1 hc
        rw [digC_iff, this]; omega

theorem bytesSV_length (s : List UInt8) : (bytesSV s).length = s.length := by simp [bytesSV]

end Go.Ev

set_option linter.unusedSimpArgs false
set_option linter.unusedVariables false
namespace Go.Ev
open Go.Proofs

end Go.Ev

set_option linter.unusedSimpArgs false
set_option linter.unusedVariables false
namespace Go.Ev
open Go.Proofs

end Go.Ev

set_option linter.unusedSimpArgs false
set_option linter.unusedVariables false
namespace Go.Ev
open Go.Proofs

theorem svBytes_bytes : ∀ (s : List UInt8), svBytes (bytesSV s) = some s
  | [] => rfl
  | c :: s => by
    have ih := svBytes_bytes s
    simp only [bytesSV] at ih ⊢
    simp only [List.map_cons, svBytes, ih, Int.toNat_natCast]
    simp

end Go.Ev

set_option linter.unusedSimpArgs false
set_option linter.unusedVariables false
namespace Go.Ev
open Go.Proofs

end Go.Ev

set_option linter.unusedSimpArgs false
set_option linter.unusedVariables false
namespace Go.Ev
open Go.Proofs

end Go.Ev

set_option linter.unusedSimpArgs false
set_option linter.unusedVariables false
namespace Go.Ev
open Go.Proofs

noncomputable def F27 : List SV → Option AV
  | [v] => onlyIf (IsNode v) (some (.sv v))
  | _ => none

noncomputable def F26 : List SV → Option AV
  | [v, w] => onlyIf (IsNode v ∧ v = w) (some (.sv (.bool true)))
  | _ => none

def F25 : List SV → Option AV
  | [] => some (.sv (.bool true))
  | _ => none

theorem size_kid {kids : List SV} {v : SV} (h : v ∈ kids) (name : List UInt8) (kind : Int) (b : Bool) (i u : Int) (f : Nat) (s : List UInt8) : SizeOf.sizeOf v < SizeOf.sizeOf (nodeV name kind b i u f s kids) := by
  have := List.sizeOf_lt_of_mem h
  simp [nodeV]
  omega

noncomputable def size27 : List SV → Nat
  | v :: _ => SizeOf.sizeOf v
  | [] => 0

theorem pure27 {P : Program} {E : Env} (hm : P.follows .mixedOrders = true) (hT : CodeT P E) (hQ : QuietOK P E) (hP : PureOK P E) (h : E.code 24 = some c27) : PureFn P E 24 F27 := by
  refine PureFn.of_rec size27 hm hT hQ hP fun m vs r hF hs => ?_
  match vs, hF with
  | [v], hF =>
    obtain ⟨hn, hr⟩ := onlyIf_some hF
    simp only [Option.some.injEq] at hr
    subst hr
    cases hn with
    | mk name kind b i u f s kids hl hk =>
      refine ⟨kids.length + 1, _, ev27 (E.add 24 (fun us => if size27 us < m then F27 us else none)) h (fun us => if size27 us < m then F27 us else none) (by simp [Env.add]) name kind b i u f s kids hl (fun v hv => ⟨hk v hv, ?_⟩) _ (by omega), .inl rfl⟩
      have := size_kid hv name kind b i u f s
      have h3 : size27 [v] < m := by simp only [size27] at hs ⊢; omega
      show (if size27 [v] < m then F27 [v] else none) = _
      rw [if_pos h3]
      exact onlyIf_pos (hk v hv)

theorem pure26 {P : Program} {E : Env} (hm : P.follows .mixedOrders = true) (hT : CodeT P E) (hQ : QuietOK P E) (hP : PureOK P E) (h : E.code 23 = some c26) (h75 : E.pure 57 = some F75) : PureFn P E 23 F26 := by
  refine PureFn.of_rec size27 hm hT hQ hP fun m vs r hF hs => ?_
  match vs, hF with
  | [v, w], hF =>
    obtain ⟨⟨hn, rfl⟩, hr⟩ := onlyIf_some hF
    simp only [Option.some.injEq] at hr
    subst hr
    cases hn with
    | mk name kind b i u f s kids hl hk =>
      refine ⟨kids.length + 1, _, ev26 (E.add 23 (fun us => if size27 us < m then F26 us else none)) h (fun us => if size27 us < m then F26 us else none) (by simp [Env.add]) (by simp [Env.add, h75]) name kind b i u f s kids hl (fun v hv => ⟨hk v hv, ?_⟩) _ (by omega), .inl rfl⟩
      have := size_kid hv name kind b i u f s
      have h3 : size27 [v, v] < m := by simp only [size27] at hs ⊢; omega
      show (if size27 [v, v] < m then F26 [v, v] else none) = _
      rw [if_pos h3]
      exact onlyIf_pos ⟨hk v hv, rfl⟩

theorem ev9_long (E : Env) (h : E.code 16 = some c9) (w t d : Nat) (s : List UInt8) (hs : 40000 < s.length) (n : Nat) : evP E n 16 [.str s, .fn w [] [], .fn t [] [], .fn d [] []] = some (.sv (.bool true)) := by
  unfold evP
  simp only [h]
  have e : (40000 : Int) < (s.length : Int) := by omega
  simp [c9, List.replicate, e]

set_option maxHeartbeats 1000000 in
theorem ev9_yes (E : Env) (h : E.code 16 = some c9) (w t d : Nat) (Fw Ft Fd : List SV → Option AV) (hw : E.pure w = some Fw) (ht : E.pure t = some Ft) (hd : E.pure d = some Fd) (h25 : E.pure 22 = some F25) (h26 : E.pure 23 = some F26) (h27 : E.pure 24 = some F27) (s : List UInt8) (hs : s.length ≤ 40000) (rows : List SV) (T : SV) (hT : IsNode T)
    (hFw : Fw [.str s] = some (.sv (.tup [.sl rows, .bool true, .int .i64 1]))) (hFt : Ft [.sl rows] = some (.sv (.tup [T, .int .i64 1]))) (hFd : Fd [.str s] = some (.sv (.tup [T, .int .i64 0]))) (n : Nat) :
    evP E n 16 [.str s, .fn w [] [], .fn t [] [], .fn d [] []] = some (.sv (.bool true)) := by
  unfold evP
  simp only [h]
  have e : ¬ (40000 : Int) < (s.length : Int) := by omega
  have hF27 : F27 [T] = some (.sv T) := onlyIf_pos hT
  have hF26 : F26 [T, T] = some (.sv (.bool true)) := onlyIf_pos ⟨hT, rfl⟩
  cases hT with
  | mk name kind b i u f s0 kids hl hk =>
    simp only [nodeV] at hFt hFd hF27 hF26
    simp [c9, List.replicate, e, hw, hFw, hd, hFd, ht, hFt, h27, hF27, h26, hF26, h25, F25]

end Go.Ev

set_option linter.unusedSimpArgs false
set_option linter.unusedVariables false
namespace Go.Ev
open Go.Proofs

/-- A text's lines; cur: what of a line came before. -/
def lineG (cur : List UInt8) : List UInt8 → List (List UInt8)
  | [] => if cur = [] then [] else [cur]
  | c :: cs => if c.toNat = 10 then cur :: lineG [] cs else lineG (cur ++ [c]) cs

def lineEnd (s : List UInt8) (p : Nat × List SV) : List SV := if p.1 < s.length then p.2 ++ [.str (s.drop p.1)] else p.2

theorem lineEnd_pos {s : List UInt8} {p : Nat} {acc : List SV} (h : p < s.length) : lineEnd s (p, acc) = acc ++ [.str (s.drop p)] := if_pos h
theorem lineEnd_neg {s : List UInt8} {p : Nat} {acc : List SV} (h : ¬ p < s.length) : lineEnd s (p, acc) = acc := if_neg h

theorem lineK_eq (s : List UInt8) : ∀ (rest pre cur : List UInt8) (acc : List SV), s = pre ++ cur ++ rest →
    lineEnd s (lineK s (pre ++ cur).length rest (pre.length, acc)) = acc ++ strs (lineG cur rest)
  | [], pre, cur, acc, h => by
    simp only [List.append_nil] at h
    simp only [lineK, lineG]
    by_cases hc : cur = []
    · subst hc
      rw [lineEnd_neg (by rw [h]; simp)]; simp [strs]
    · have hl : pre.length < s.length := by
        rw [h]; cases cur with
        | nil => exact absurd rfl hc
        | cons _ _ => simp
      rw [lineEnd_pos hl, if_neg hc, h, List.drop_left]; simp [strs]
  | c :: rest, pre, cur, acc, h => by
    simp only [lineK, lineG]
    by_cases h10 : c.toNat = 10
    · rw [if_pos h10, if_pos h10]
      have hsub : (s.take (pre ++ cur).length).drop pre.length = cur := by rw [h, List.take_left, List.drop_left]
      rw [hsub]
      have := lineK_eq s rest (pre ++ cur ++ [c]) [] (acc ++ [.str cur]) (by rw [h]; simp)
      simp only [List.append_nil] at this
      rw [show (pre ++ cur ++ [c]).length = (pre ++ cur).length + 1 from by simp; omega] at this
      rw [this]; simp [strs]
    · rw [if_neg h10, if_neg h10]
      have := lineK_eq s rest pre (cur ++ [c]) acc (by rw [h]; simp)
      rw [show (pre ++ (cur ++ [c])).length = (pre ++ cur).length + 1 from by simp; omega] at this
      exact this

theorem linesL_eq (s : List UInt8) : linesL s = lineG [] s := by
  have h := lineK_eq s s [] [] [] rfl
  simp only [List.nil_append, List.length_nil] at h
  have e : linesV s = lineEnd s (lineK s 0 s (0, [])) := rfl
  unfold linesL
  rw [e, h, unstrs]

/-- A line's fields; cur: what of a field came before. -/
def fieldG (cur : List UInt8) : List UInt8 → List (List UInt8)
  | [] => if cur = [] then [] else [cur]
  | c :: cs => if blankC c then (if cur = [] then fieldG [] cs else cur :: fieldG [] cs) else fieldG (cur ++ [c]) cs

def fieldEnd (s : List UInt8) (p : Option Nat × List SV) : List SV := match p.1 with
  | some f => p.2 ++ [.str (s.drop f)]
  | none => p.2

theorem fieldK_eq (s : List UInt8) : ∀ (rest pre cur : List UInt8) (acc : List SV), s = pre ++ cur ++ rest →
    fieldEnd s (fieldK s (pre ++ cur).length rest (if cur = [] then none else some pre.length, acc)) = acc ++ strs (fieldG cur rest)
  | [], pre, cur, acc, h => by
    simp only [List.append_nil] at h
    simp only [fieldK, fieldG, fieldEnd]
    by_cases hc : cur = []
    · subst hc
      simp [strs]
    · simp only [if_neg hc]
      rw [h, List.drop_left]; simp [strs]
  | c :: rest, pre, cur, acc, h => by
    have hpl : (pre ++ cur ++ [c]).length = (pre ++ cur).length + 1 := by simp; omega
    have hpl2 : (pre ++ (cur ++ [c])).length = (pre ++ cur).length + 1 := by simp; omega
    simp only [fieldK, fieldG]
    cases hb : blankC c with
    | true =>
      by_cases hc : cur = []
      · subst hc
        have := fieldK_eq s rest (pre ++ [] ++ [c]) [] acc (by rw [h]; simp)
        simp only [if_true, List.append_nil] at this
        simp only [if_true, List.append_nil]
        rw [show (pre ++ [c]).length = pre.length + 1 from by simp] at this
        exact this
      · simp only [if_neg hc, if_true]
        have hsub : (s.take (pre ++ cur).length).drop pre.length = cur := by rw [h, List.take_left, List.drop_left]
        rw [hsub]
        have := fieldK_eq s rest (pre ++ cur ++ [c]) [] (acc ++ [.str cur]) (by rw [h]; simp)
        simp only [if_true, List.append_nil] at this
        rw [hpl] at this
        rw [this]; simp [strs]
    | false =>
      by_cases hc : cur = []
      · subst hc
        have := fieldK_eq s rest pre [c] acc (by rw [h]; simp)
        simp only [List.append_nil, if_true, Bool.false_eq_true, if_false, List.nil_append]
        rw [if_neg (by simp), show (pre ++ [c]).length = pre.length + 1 from by simp] at this
        exact this
      · have := fieldK_eq s rest pre (cur ++ [c]) acc (by rw [h]; simp)
        simp only [if_neg hc, Bool.false_eq_true, if_false]
        rw [if_neg (by simp), hpl2] at this
        exact this

theorem fieldsL_eq (s : List UInt8) : fieldsL s = fieldG [] s := by
  have h := fieldK_eq s s [] [] [] rfl
  simp only [List.nil_append, List.length_nil, if_true] at h
  have e : fieldsV s = fieldEnd s (fieldK s 0 s (none, [])) := rfl
  unfold fieldsL
  rw [e, h, unstrs]

theorem fieldG_words : ∀ (s cur : List UInt8), (∀ c ∈ s, plainC c = true ∧ c.toNat ≠ 10) → fieldG cur s = wordsG cur s
  | [], cur, _ => rfl
  | c :: s, cur, h => by
    obtain ⟨h1, h2⟩ := h c (by simp)
    have hb : blankC c = spC c := by
      simp only [plainC, Bool.and_eq_true, Bool.or_eq_true, decide_eq_true_eq, beq_iff_eq] at h1
      rw [Bool.eq_iff_iff]
      simp [blankC, spC]; omega
    have ih := fun cur => fieldG_words s cur (fun x hx => h x (by simp [hx]))
    simp only [fieldG, wordsG, hb, ih]

/-- The words that the library finds in a plain line are the reference's fields. -/
theorem words_fields {s : List UInt8} (h : ∀ c ∈ s, plainC c = true ∧ c.toNat ≠ 10) : wordsG [] s = fieldsL s := by
  rw [fieldsL_eq, fieldG_words s [] h]

theorem lineG_no {cur : List UInt8} : ∀ (line rest : List UInt8), (∀ c ∈ line, c.toNat ≠ 10) → ∀ cur, lineG cur (line ++ rest) = lineG (cur ++ line) rest
  | [], rest, _, cur => by simp
  | c :: line, rest, h, cur => by
    simp only [List.cons_append, lineG]
    rw [if_neg (h c (by simp)), lineG_no (cur := cur) line rest (fun x hx => h x (by simp [hx]))]
    simp

/-- A text that is not empty: its first line, and what comes behind. -/
theorem line_cases (s : List UInt8) : s = [] ∨ ∃ line rest, (∀ c ∈ line, c.toNat ≠ 10) ∧ lineG [] s = line :: lineG [] rest ∧ ((s = line ++ 10 :: rest) ∨ (s = line ∧ rest = [] ∧ line ≠ [])) := by
  have key : ∀ (s cur : List UInt8), (∃ line rest, (∀ c ∈ line, c.toNat ≠ 10) ∧ s = line ++ 10 :: rest) ∨ ∀ c ∈ s, c.toNat ≠ 10 := by
    intro s cur
    induction s with
    | nil => exact .inr (by simp)
    | cons c s ih =>
      by_cases h : c.toNat = 10
      · refine .inl ⟨[], s, by simp, ?_⟩
        have : c = 10 := UInt8.toNat_inj.1 (by rw [h]; rfl)
        rw [this]; rfl
      · rcases ih with ⟨line, rest, h1, h2⟩ | h1
        · refine .inl ⟨c :: line, rest, fun x hx => ?_, by rw [h2]; rfl⟩
          rcases List.mem_cons.1 hx with rfl | hx
          · exact h
          · exact h1 x hx
        · refine .inr fun x hx => ?_
          rcases List.mem_cons.1 hx with rfl | hx
          · exact h
          · exact h1 x hx
  by_cases hs : s = []
  · exact .inl hs
  · right
    rcases key s [] with ⟨line, rest, h1, h2⟩ | h1
    · refine ⟨line, rest, h1, ?_, .inl h2⟩
      rw [h2, lineG_no (cur := []) line _ h1]
      simp [lineG]
    · refine ⟨s, [], h1, ?_, .inr ⟨rfl, rfl, hs⟩⟩
      have := lineG_no (cur := []) s [] h1 []
      simp only [List.append_nil, List.nil_append] at this
      rw [this]; simp [lineG, hs]

/-- A scanner's step at a last line without a line feed. -/
theorem loop88n (E : Env) (cf : CallF) (i : Nat) (bx : List Box) (left : List UInt8) (m : Nat) (hb : bx[i]? = some (scanBox left [])) :
    ∀ (rest pre : List UInt8) (k : Nat), left = pre ++ rest → left.length < 9223372036854775807 → (∀ c ∈ rest, c.toNat ≠ 10) → rest.length < k →
      rounds (evC E cf m b88_0) k { tm := [.ptr i 0, .sv .undef, .sv .undef, .sv (.int .i64 pre.length)] ++ List.replicate 104 (.sv .undef), lz := none, bx := bx, df := [] } =
        some (.exit 0, { tm := [.ptr i 0, .sv .undef, .sv .undef, .sv (.int .i64 (pre ++ rest).length)] ++ List.replicate 104 (.sv .undef), lz := none, bx := bx, df := [] }) := by
  simp only [scanBox] at hb
  intro rest
  induction rest with
  | nil =>
    intro pre k hsp hl hr hk
    obtain ⟨k, rfl⟩ : ∃ k', k = k' + 1 := ⟨k - 1, by omega⟩
    have hlt : ¬ pre.length < left.length := by rw [hsp]; simp
    refine rounds_out ?_ (by simp)
    simp [b88_0, List.replicate, hb, hlt]
  | cons c rest ih =>
    intro pre k hsp hl hr hk
    obtain ⟨k, rfl⟩ : ∃ k', k = k' + 1 := ⟨k - 1, by omega⟩
    have hlt : pre.length < left.length := by rw [hsp]; simp
    have hc : ∀ h : pre.length < left.length, left[pre.length]'h = c := by subst hsp; simp
    have hne : ¬ (c.toNat : Int) = 10 := by have := hr c (by simp); omega
    have hneb : ((c.toNat : Int) == 10) = false := by simpa using hne
    have hnec : ((c.toNat : Int) != 10) = true := by simpa using hne
    have hw2 : IntKind.i64.wrap ((pre.length : Int) + 1) = ((pre ++ [c]).length : Int) := by rw [IntKind.wrap_i64]; simp; omega
    have := ih (pre ++ [c]) k (by rw [hsp]; simp) hl (fun x hx => hr x (by simp [hx])) (by simp at hk; omega)
    rw [show pre ++ [c] ++ rest = pre ++ c :: rest from by simp] at this
    rw [← this]
    refine rounds_step ?_
    simp [b88_0, List.replicate, hb, hlt, hc, hne, hneb, hnec, hw2]

theorem scan88n (E : Env) (h : E.code 182 = some c88) (i : Nat) (bx : List Box) (line t : List UInt8) (hb : bx[i]? = some (scanBox line t)) (hne : line ≠ []) (hl : line.length < 65536) (hr : ∀ c ∈ line, c.toNat ≠ 10 ∧ c.toNat ≠ 13) (n : Nat) (hn : line.length < n) :
    evF E (n + 1) 182 [.ptr i 0] bx = some (.sv (.bool true), bx.set i (scanBox [] line)) := by
  have hil : i < bx.length := (List.getElem?_eq_some_iff.1 hb).1
  have hb1 : (bx.set i (scanBox line []))[i]? = some (scanBox line []) := by simp [hil]
  have he := loop88n E (evF E n) i (bx.set i (scanBox line [])) line n hb1 line [] n rfl (by omega) (fun c hc => (hr c hc).1) hn
  simp only [scanBox, List.replicate, List.cons_append, List.nil_append, List.length_nil, Int.ofNat_zero, Int.natCast_zero] at he hb
  have hbi : ∀ h : i < bx.length, bx[i]'h = .live [.sv (.str line), .sv (.str t), .sv (.int .i64 65536), .sv .nilI] := fun h => by
    rw [List.getElem?_eq_getElem h] at hb; exact Option.some.inj hb
  have g1 : ¬ (65536 : Int) ≤ (line.length : Int) := by omega
  have ht : List.take line.length line = line := List.take_length
  have hd : List.drop line.length line = [] := List.drop_length
  simp only [evF, h]
  have hpos : 0 < line.length := by
    cases line with
    | nil => exact absurd rfl hne
    | cons x xs => simp
  have hposI : (0 : Int) < (line.length : Int) := by omega
  have wm : IntKind.i64.wrap ((line.length : Int) - 1) = ((line.length - 1 : Nat) : Int) := by rw [IntKind.wrap_i64]; omega
  have hlt1 : line.length - 1 < line.length := by omega
  have hlast := (hr (line[line.length - 1]'hlt1) (List.getElem_mem hlt1)).2
  have hl13 : ¬ ((line[line.length - 1]'hlt1).toNat : Int) = 13 := by omega
  have hl13b : (((line[line.length - 1]'hlt1).toNat : Int) == 13) = false := by simpa using hl13
  simp [c88, List.replicate, hbi, hil, he, scanBox, g1, ht, hd, hpos, hposI, wm, hlt1, hl13, hl13b, hne]

end Go.Ev

set_option linter.unusedSimpArgs false
set_option linter.unusedVariables false
namespace Go.Ev
open Go.Proofs

/-- A text with blanks behind. -/
def leftS (s : List UInt8) (n : Nat) : List UInt8 := s ++ List.replicate (n - s.length) 32

theorem leftS_step {s : List UInt8} {n : Nat} (h : s.length < n) : leftS (s ++ [32]) n = leftS s n := by
  obtain ⟨d, hd⟩ : ∃ d, n - s.length = d + 1 := ⟨n - s.length - 1, by omega⟩
  have : n - (s ++ [32]).length = d := by simp; omega
  unfold leftS
  rw [this, hd, List.replicate_succ]; simp

theorem leftS_done {s : List UInt8} {n : Nat} (h : ¬ s.length < n) : leftS s n = s := by
  unfold leftS
  rw [show n - s.length = 0 from by omega]; simp

theorem leftS_len (s : List UInt8) (n : Nat) : (leftS s n).length ≤ s.length + n := by unfold leftS; rw [List.length_append, List.length_replicate]; omega

theorem loop44 (E : Env) (cf : CallF) (m : Nat) (n : Nat) (hn : n < 1000000) :
    ∀ (d : Nat) (s : List UInt8) (k : Nat), n - s.length ≤ d → s.length < 1000000000000 → d < k →
      rounds (evC E cf m b44_0) k { tm := [.sv (.str s), .sv (.int .i64 n)] ++ List.replicate 10 (.sv .undef), lz := none, bx := [], df := [] } =
        some (.exit 0, { tm := [.sv (.str (leftS s n))] ++ List.replicate 11 (.sv .undef), lz := none, bx := [], df := [] }) := by
  intro d
  induction d with
  | zero =>
    intro s k hd hs hk
    obtain ⟨k, rfl⟩ : ∃ k', k = k' + 1 := ⟨k - 1, by omega⟩
    have hlt : ¬ (s.length < n) := by omega
    refine rounds_out ?_ (by simp)
    rw [leftS_done hlt]
    have hltI : ¬ (s.length : Int) < (n : Int) := by omega
    simp [b44_0, List.replicate, hlt, hltI]
  | succ d ih =>
    intro s k hd hs hk
    obtain ⟨k, rfl⟩ : ∃ k', k = k' + 1 := ⟨k - 1, by omega⟩
    by_cases hlt : s.length < n
    · have he := ih (s ++ [32]) k (by simp; omega) (by simp; omega) (by omega)
      rw [leftS_step hlt] at he
      rw [← he]
      refine rounds_step ?_
      have hltI : (s.length : Int) < (n : Int) := by omega
      have hb : s.length + 1 < 4611686018427387904 := by omega
      simp [b44_0, List.replicate, hlt, hltI, hb]
    · refine rounds_out ?_ (by simp)
      rw [leftS_done hlt]
      have hltI : ¬ (s.length : Int) < (n : Int) := by omega
      simp [b44_0, List.replicate, hlt, hltI]

theorem ev44 (E : Env) (h : E.code 26 = some c44) (s : List UInt8) (n : Nat) (hn : n < 1000000) (hs : s.length < 100000000000) (k : Nat) (hk : n < k) : evP E k 26 [.str s, .int .i64 n] = some (.sv (.str (leftS s n))) := by
  unfold evP
  simp only [h]
  have hl := loop44 E (evF E k) k n hn n s k (by omega) (by omega) hk
  simp only [List.replicate, List.cons_append, List.nil_append] at hl
  simp [c44, List.replicate, hl]

noncomputable def F44 : List SV → Option AV
  | [.str s, .int .i64 n] => onlyIf (0 ≤ n ∧ n < 1000000 ∧ s.length < 100000000000) (some (.sv (.str (leftS s n.toNat))))
  | _ => none

theorem F44_eq (s : List UInt8) (n : Nat) (hn : n < 1000000) (hs : s.length < 100000000000) : F44 [.str s, .int .i64 n] = some (.sv (.str (leftS s n))) := by
  show onlyIf _ (some (AV.sv (.str (leftS s (n : Int).toNat)))) = _
  rw [onlyIf_pos ⟨by omega, by omega, hs⟩]; simp

theorem F45_eq (m : Nat) (hm : m < 18446744073709551616) : F45 [.int .u64 (m : Int)] = some (.sv (.str (decS m))) := by
  show onlyIf _ (some (AV.sv (.str (decS (m : Int).toNat)))) = _
  rw [onlyIf_pos ⟨by omega, by omega⟩]; simp

theorem ev30 (E : Env) (h : E.code 61 = some c30) (n : Nat) (s w : List UInt8) : evP E n 61 [.str s, .str w] = some (.sv (.bool (decide (w.length ≤ s.length) && (s.take w.length == w)))) := by
  unfold evP
  simp only [h]
  by_cases h1 : w.length ≤ s.length
  · simp [c30, h1, List.replicate]
  · simp [c30, h1, List.replicate]

def F30 : List SV → Option AV
  | [.str s, .str w] => some (.sv (.bool (decide (w.length ≤ s.length) && (s.take w.length == w))))
  | _ => none

end Go.Ev

set_option linter.unusedSimpArgs false
set_option linter.unusedVariables false
namespace Go.Ev
open Go.Proofs

end Go.Ev


set_option linter.unusedSimpArgs false
set_option linter.unusedVariables false
namespace Go.Ev
open Go.Proofs

theorem digN_ge : ∀ (s : List UInt8) (a : Nat), a ≤ digN a s
  | [], a => by rw [digN_nil]; exact Nat.le_refl _
  | c :: s, a => by
    rw [digN_cons]
    have := digN_ge s (a * 10 + dgt c)
    omega

end Go.Ev

set_option linter.unusedSimpArgs false
set_option linter.unusedVariables false
namespace Go.Ev
open Go.Proofs

end Go.Ev

set_option linter.unusedSimpArgs false
set_option linter.unusedVariables false
namespace Go.Ev
open Go.Proofs

def i64 (n : Nat) : Int := IntKind.i64.wrap (n : Int)

end Go.Ev

set_option linter.unusedSimpArgs false
set_option linter.unusedVariables false
namespace Go.Ev
open Go.Proofs

/-- Rows as a program can hold them, their words too. -/
def RowD.fits2 (r : RowD) : Prop := r.name.length < 1000000000 ∧ r.N.length < 100000000000 ∧ (∀ n ∈ r.N, n < 18446744073709551616) ∧ r.S.length < 1000000000 ∧ ∀ s ∈ r.S, s.length < 1000000000

def rowsFit2 (l : List RowD) : Prop := l.length < 100000000 ∧ ∀ r ∈ l, r.fits2

/-! ### Texts alike but for blanks -/

theorem joinS_len {b : List UInt8} (l : List (List UInt8)) : (joinS b l).length ≤ (l.map List.length).sum + l.length * b.length := by
  have h1 : ∀ (l : List (List UInt8)), (l.map fun y => b ++ y).flatten.length = (l.map List.length).sum + l.length * b.length := by
    intro l
    induction l with
    | nil => simp
    | cons y l ih => simp only [List.map_cons, List.flatten_cons, List.length_append, List.length_cons, List.sum_cons, Nat.add_mul, ih]; omega
  cases l with
  | nil => simp [joinS]
  | cons x l =>
    simp only [joinS, List.length_append, List.map_cons, List.sum_cons, List.length_cons, Nat.add_mul, h1]
    omega

theorem fieldG_sum : ∀ (s cur : List UInt8), ((fieldG cur s).map List.length).sum ≤ cur.length + s.length
  | [], cur => by simp only [fieldG]; split <;> simp
  | c :: s, cur => by
    have h1 := fieldG_sum s []
    have h2 := fieldG_sum s (cur ++ [c])
    simp only [List.length_append, List.length_cons, List.length_nil] at h1 h2
    simp only [fieldG, List.length_cons]
    split
    · split
      · omega
      · simp only [List.map_cons, List.sum_cons]; omega
    · omega

/-- A line's fields with single blanks between. -/
def normL (s : List UInt8) : List UInt8 := joinS [32] (fieldsL s)

theorem F122_fields (s : List UInt8) (hs : s.length < 100000000000) : F122 [.sl (strs (fieldsL s)), .str [32]] = some (.sv (.str (normL s))) := by
  obtain ⟨_, k1, k2⟩ := fieldsV_shape s
  refine F122_eq (fieldsL s) [32] (by omega) ?_
  have h1 := joinS_len (b := [32]) (fieldsL s)
  have h2 := fieldG_sum s []
  rw [← fieldsL_eq] at h2
  simp only [List.length_cons, List.length_nil] at h1 h2
  omega

theorem loop79 (E : Env) (cf : CallF) (h52 : E.pure 42 = some F52) (h122 : E.pure 196 = some F122) (m : Nat) (xs ys : List SV) (hx : xs.length < 1000000000000) :
    ∀ (ra rb : List (List UInt8)) (pa pb : List SV) (k : Nat), xs = pa ++ strs ra → ys = pb ++ strs rb → ra.length = rb.length → pa.length = pb.length → (∀ s ∈ ra, s.length < 100000000000) → (∀ s ∈ rb, s.length < 100000000000) → ra.length < k →
      rounds (evC E cf m b79_0) k { tm := List.replicate 5 (.sv .undef) ++ [.sv (.sl xs), .sv (.sl ys)] ++ List.replicate 11 (.sv .undef) ++ [.sv (.int .i64 xs.length), .sv (.int .i64 pa.length)] ++ List.replicate 16 (.sv .undef), lz := none, bx := [], df := [] } =
        if ra.map normL = rb.map normL then some (.exit 0, { tm := List.replicate 36 (.sv .undef), lz := none, bx := [], df := [] })
        else some (.ret, { tm := List.replicate 4 (.sv .undef) ++ [.sv (.bool false)] ++ List.replicate 31 (.sv .undef), lz := none, bx := [], df := [] }) := by
  intro ra
  induction ra with
  | nil =>
    intro rb pa pb k h1 h2 h3 h4 _ _ hk
    obtain ⟨k, rfl⟩ : ∃ k', k = k' + 1 := ⟨k - 1, by omega⟩
    obtain rfl : rb = [] := List.eq_nil_of_length_eq_zero (by simpa using h3.symm)
    have hlt : ¬ (pa.length < xs.length) := by rw [h1]; simp [strs]
    simp only [List.map_nil, if_true]
    refine rounds_out ?_ (by simp)
    simp [b79_0, List.replicate, hlt]
  | cons a ra ih =>
    intro rb pa pb k h1 h2 h3 h4 ha hb hk
    obtain ⟨k, rfl⟩ : ∃ k', k = k' + 1 := ⟨k - 1, by omega⟩
    cases rb with
    | nil => simp at h3
    | cons b rb =>
      have hlt : pa.length < xs.length := by rw [h1]; simp [strs]
      have hlt2 : pa.length < ys.length := by rw [h2, h4]; simp [strs]
      have hc : ∀ h : pa.length < xs.length, xs[pa.length]'h = .str a := by subst h1; simp [strs]
      have hc2 : ∀ h : pa.length < ys.length, ys[pa.length]'h = .str b := by
        intro h
        have : ys[pa.length]? = some (.str b) := by rw [h2, h4]; simp [strs]
        rw [List.getElem?_eq_getElem h] at this
        exact Option.some.inj this
      have hw2 : IntKind.i64.wrap ((pa.length : Int) + 1) = ((pa ++ [SV.str a]).length : Int) := by rw [IntKind.wrap_i64]; simp; omega
      have f1 := F52_eq a (by have := ha a (by simp); omega)
      have f2 := F52_eq b (by have := hb b (by simp); omega)
      have f3 := F122_fields a (ha a (by simp))
      have f4 := F122_fields b (hb b (by simp))
      have he := ih rb (pa ++ [.str a]) (pb ++ [.str b]) k (by rw [h1]; simp [strs]) (by rw [h2]; simp [strs]) (by simpa using h3) (by simp [h4]) (fun s hs => ha s (by simp [hs])) (fun s hs => hb s (by simp [hs])) (by simp at hk; omega)
      by_cases hn : normL a = normL b
      · have hcond : ((a :: ra).map normL = (b :: rb).map normL) = (ra.map normL = rb.map normL) := by simp [hn]
        simp only [hcond]
        rw [← he]
        refine rounds_step ?_
        rw [hn] at f3
        simp [b79_0, List.replicate, hlt, hlt2, hc, hc2, hw2, h52, f1, f2, h122, f3, f4]
      · have hcond : ¬ ((a :: ra).map normL = (b :: rb).map normL) := by simp [hn]
        rw [if_neg hcond]
        have hnb : (normL a == normL b) = false := by simpa using hn
        have hnc : (normL a != normL b) = true := by simpa using hn
        refine rounds_out ?_ (by simp)
        simp [b79_0, List.replicate, hlt, hlt2, hc, hc2, hw2, h52, f1, f2, h122, f3, f4, hn, hnb, hnc]

open Classical in
noncomputable def looseV (a b : List UInt8) : Bool := if (linesL a).map normL = (linesL b).map normL then true else false

theorem ev79 (E : Env) (h : E.code 175 = some c79) (h28 : E.pure 41 = some F28) (h52 : E.pure 42 = some F52) (h122 : E.pure 196 = some F122) (a b : List UInt8) (ha : a.length < 100000000000) (hb : b.length < 100000000000) (n : Nat) (hn : a.length + 1 < n) :
    evP E n 175 [.str a, .str b] = some (.sv (.bool (looseV a b))) := by
  unfold evP
  simp only [h]
  have f1 := F28_eq a (by omega)
  have f2 := F28_eq b (by omega)
  obtain ⟨_, a1, a2⟩ := linesV_shape a
  obtain ⟨_, b1, b2⟩ := linesV_shape b
  by_cases hl : (linesL a).length = (linesL b).length
  · have he := loop79 E (evF E n) h52 h122 n (strs (linesL a)) (strs (linesL b)) (by rw [strs_length]; omega) (linesL a) (linesL b) [] [] n rfl rfl hl rfl (fun s hs => by have := a2 s hs; omega) (fun s hs => by have := b2 s hs; omega) (by omega)
    simp only [List.replicate, List.cons_append, List.nil_append, List.length_nil, Int.ofNat_zero, Int.natCast_zero] at he
    have hle : ((strs (linesL a)).length : Int) = ((strs (linesL b)).length : Int) := by rw [strs_length, strs_length, hl]
    unfold looseV
    by_cases hc : (linesL a).map normL = (linesL b).map normL
    · rw [if_pos hc] at he ⊢
      simp [c79, List.replicate, h28, f1, f2, hle] at he ⊢
      simp [he]
    · rw [if_neg hc] at he ⊢
      simp [c79, List.replicate, h28, f1, f2, hle] at he ⊢
      simp [he]
  · have hc : ¬ ((linesL a).map normL = (linesL b).map normL) := fun e => hl (by have := congrArg List.length e; simpa using this)
    have hle : (((strs (linesL a)).length : Int) == ((strs (linesL b)).length : Int)) = false := by rw [strs_length, strs_length, Bool.eq_false_iff]; simp; omega
    have hle2 : (((strs (linesL a)).length : Int) != ((strs (linesL b)).length : Int)) = true := by rw [bne, hle]; rfl
    unfold looseV
    rw [if_neg hc]
    simp [c79, List.replicate, h28, f1, f2, hle2]

end Go.Ev

set_option linter.unusedSimpArgs false
set_option linter.unusedVariables false
namespace Go.Ev
open Go.Proofs

def lastB (s : List UInt8) : Nat := (s.getLastD 0).toNat

def badL (s : List UInt8) : Bool := s == [] || lastB s == 32 || lastB s == 9

theorem last_get {s : List UInt8} (h : s ≠ []) (h1 : s.length - 1 < s.length) : (s[s.length - 1]'h1).toNat = lastB s := by
  unfold lastB
  cases s with
  | nil => exact absurd rfl h
  | cons c t =>
    have : (c :: t).getLastD 0 = (c :: t).getLast (by simp) := by simp [List.getLastD, List.getLast?_eq_some_getLast]
    rw [this, List.getLast_eq_getElem]

theorem loop80 (E : Env) (cf : CallF) (text : List UInt8) (xs : List SV) (hs : xs.length < 1000000000000) (m : Nat) :
    ∀ (rest : List (List UInt8)) (pre : List SV) (k : Nat), xs = pre ++ strs rest → (∀ s ∈ rest, s.length < 100000000000) → rest.length < k →
      rounds (evC E cf m b80_0) k { tm := [.sv (.str text)] ++ List.replicate 5 (.sv .undef) ++ [.sv (.sl xs), .sv (.int .i64 xs.length), .sv (.int .i64 pre.length)] ++ List.replicate 32 (.sv .undef), lz := none, bx := [], df := [] } =
        if rest.all (fun s => !badL s) = true then some (.exit 0, { tm := [.sv (.str text)] ++ List.replicate 40 (.sv .undef), lz := none, bx := [], df := [] })
        else some (.ret, { tm := [.sv .undef, .sv .undef, .sv (.bool false)] ++ List.replicate 38 (.sv .undef), lz := none, bx := [], df := [] }) := by
  intro rest
  induction rest with
  | nil =>
    intro pre k hsp _ hk
    obtain ⟨k, rfl⟩ : ∃ k', k = k' + 1 := ⟨k - 1, by omega⟩
    have hlt : ¬ (pre.length < xs.length) := by rw [hsp]; simp [strs]
    simp only [List.all_nil, if_true]
    refine rounds_out ?_ (by simp)
    simp [b80_0, List.replicate, hlt]
  | cons s rest ih =>
    intro pre k hsp hr hk
    obtain ⟨k, rfl⟩ : ∃ k', k = k' + 1 := ⟨k - 1, by omega⟩
    have hlt : pre.length < xs.length := by rw [hsp]; simp [strs]
    have hc : ∀ h : pre.length < xs.length, xs[pre.length]'h = .str s := by subst hsp; simp [strs]
    have hw2 : IntKind.i64.wrap ((pre.length : Int) + 1) = ((pre ++ [SV.str s]).length : Int) := by rw [IntKind.wrap_i64]; simp; omega
    have he := ih (pre ++ [.str s]) k (by rw [hsp]; simp [strs]) (fun s hs => hr s (by simp [hs])) (by simp at hk; omega)
    have hsl := hr s (by simp)
    by_cases hne : s = []
    · subst hne
      have hb : badL [] = true := rfl
      simp only [List.all_cons, hb, Bool.not_true, Bool.false_and, Bool.false_eq_true, if_false]
      refine rounds_out ?_ (by simp)
      simp [b80_0, List.replicate, hlt, hc]
    · have hneb : (s == []) = false := by simpa using hne
      have hie : s.isEmpty = false := by simpa using hne
      have hpos : 0 < s.length := by
        cases s with
        | nil => exact absurd rfl hne
        | cons _ _ => simp
      have hl1 : s.length - 1 < s.length := by omega
      have hlast := last_get hne hl1
      have hw3 : IntKind.i64.wrap ((s.length : Int) - 1) = ((s.length - 1 : Nat) : Int) := by rw [IntKind.wrap_i64]; omega
      have hbad : badL s = (lastB s == 32 || lastB s == 9) := by unfold badL; rw [hneb]; rfl
      by_cases h32 : lastB s = 32
      · have hb : badL s = true := by rw [hbad, h32]; rfl
        simp only [List.all_cons, hb, Bool.not_true, Bool.false_and, Bool.false_eq_true, if_false]
        refine rounds_out ?_ (by simp)
        rw [h32] at hlast
        simp [b80_0, List.replicate, hlt, hc, hie, hw3, hl1, hlast]
      · have e32 : ((lastB s : Int) == 32) = false := by rw [Bool.eq_false_iff]; simp; omega
        by_cases h9 : lastB s = 9
        · have hb : badL s = true := by rw [hbad, h9]; rfl
          simp only [List.all_cons, hb, Bool.not_true, Bool.false_and, Bool.false_eq_true, if_false]
          refine rounds_out ?_ (by simp)
          rw [h9] at hlast
          simp [b80_0, List.replicate, hlt, hc, hie, hw3, hl1, hlast]
        · have e9 : ((lastB s : Int) == 9) = false := by rw [Bool.eq_false_iff]; simp; omega
          have hb : badL s = false := by rw [hbad]; simp [h32, h9]
          simp only [List.all_cons, hb, Bool.not_false, Bool.true_and]
          rw [← he]
          refine rounds_step ?_
          simp [b80_0, List.replicate, hlt, hc, hie, hw3, hl1, hlast, e32, e9, hw2]

def leadsV (text : List UInt8) : Bool := (linesL text).all (fun s => !badL s) && (text == [] || lastB text == 10)

theorem ev80 (E : Env) (h : E.code 176 = some c80) (h28 : E.pure 41 = some F28) (a : List UInt8) (ha : a.length < 100000000000) (n : Nat) (hn : a.length + 1 < n) :
    evP E n 176 [.str a] = some (.sv (.bool (leadsV a))) := by
  unfold evP
  simp only [h]
  have f1 := F28_eq a (by omega)
  obtain ⟨_, a1, a2⟩ := linesV_shape a
  have he := loop80 E (evF E n) a (strs (linesL a)) (by rw [strs_length]; omega) n (linesL a) [] n rfl (fun s hs => by have := a2 s hs; omega) (by omega)
  simp only [List.replicate, List.cons_append, List.nil_append, List.length_nil, Int.ofNat_zero, Int.natCast_zero] at he
  unfold leadsV
  cases hv : (linesL a).all (fun s => !badL s) with
  | false =>
    simp only [hv, Bool.false_eq_true, if_false] at he
    simp [c80, List.replicate, h28, f1, he]
  | true =>
    simp only [hv, if_true] at he
    by_cases hne : a = []
    · subst hne
      simp [c80, List.replicate, h28, f1, he]
    · have hneb : (a == []) = false := by simpa using hne
      have hie : a.isEmpty = false := by simpa using hne
      have hpos : 0 < a.length := by
        cases a with
        | nil => exact absurd rfl hne
        | cons _ _ => simp
      have hl1 : a.length - 1 < a.length := by omega
      have hlast := last_get hne hl1
      have hw3 : IntKind.i64.wrap ((a.length : Int) - 1) = ((a.length - 1 : Nat) : Int) := by rw [IntKind.wrap_i64]; omega
      have e10 : ((lastB a : Int) == 10) = (lastB a == 10) := by rw [Bool.eq_iff_iff]; simp; omega
      simp [c80, List.replicate, h28, f1, he, hie, hw3, hl1, hlast, e10]

noncomputable def F79 : List SV → Option AV
  | [.str a, .str b] => onlyIf (a.length < 100000000000 ∧ b.length < 100000000000) (some (.sv (.bool (looseV a b))))
  | _ => none

noncomputable def F80 : List SV → Option AV
  | [.str a] => onlyIf (a.length < 100000000000) (some (.sv (.bool (leadsV a))))
  | _ => none

end Go.Ev

set_option linter.unusedSimpArgs false
set_option linter.unusedVariables false
namespace Go.Ev
open Go.Proofs

/-- meant, where blanks only part fields. -/
theorem ev31b (E : Env) (h : E.code 45 = some c31) (h78 : E.pure 174 = some F78) (h79 : E.pure 175 = some F79) (h80 : E.pure 176 = some F80) (P : Nat) (F : List SV → Option AV) (hP : E.pure P = some F) (text : List UInt8) (hs : text.length < 1000000) (rows : List SV) (ok : Bool) (out : List UInt8) (told : Int) (ho : told = 1 → out.length < 100000000000)
    (hF : F [.sl rows] = some (.sv (.tup [.str out, .int .i64 told]))) (n : Nat) :
    evP E n 45 [.str text, .sl rows, .bool ok, .fn P [] [], .bool true] = some (.sv (.tup (if ok = true ∧ text.all plainC = true ∧ told = 1 ∧ (out = text ∨ (looseV out text = true ∧ leadsV text = true)) then [.sl rows, .bool true, .int .i64 1] else [.sl [], .bool false, .int .i64 2]))) := by
  unfold evP
  simp only [h]
  have hF78 := F78_eq text (by omega)
  cases ok with
  | false => simp [c31, List.replicate]
  | true =>
    cases hp : text.all plainC with
    | false => rw [hp] at hF78; simp [c31, List.replicate, h78, hF78]
    | true =>
      rw [hp] at hF78
      by_cases h1 : told = 1
      · subst h1
        have hF79 : F79 [.str out, .str text] = some (.sv (.bool (looseV out text))) := onlyIf_pos ⟨ho rfl, by omega⟩
        have hF80 : F80 [.str text] = some (.sv (.bool (leadsV text))) := onlyIf_pos (by omega)
        by_cases h2 : out = text
        · subst h2
          simp [c31, List.replicate, h78, hF78, hP, hF]
        · have h2b : (out != text) = true := by simpa using h2
          have h2c : (out == text) = false := by simpa using h2
          cases hl : looseV out text with
          | false => rw [hl] at hF79; simp [c31, List.replicate, h78, hF78, hP, hF, h2, h2b, h2c, h79, hF79]
          | true =>
            rw [hl] at hF79
            cases hd : leadsV text with
            | false => rw [hd] at hF80; simp [c31, List.replicate, h78, hF78, hP, hF, h2, h2b, h2c, h79, hF79, h80, hF80]
            | true => rw [hd] at hF80; simp [c31, List.replicate, h78, hF78, hP, hF, h2, h2b, h2c, h79, hF79, h80, hF80]
      · have h1b : (told != 1) = true := by simpa using h1
        simp [c31, List.replicate, h78, hF78, hP, hF, h1, h1b]

end Go.Ev
