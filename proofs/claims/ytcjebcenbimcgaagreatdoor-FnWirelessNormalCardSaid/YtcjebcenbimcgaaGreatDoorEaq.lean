/- strings.Fields: the words of a text of ASCII. -/
/- strings.Fields, whole. -/
/- strings.Fields of a text of ASCII. -/
/- Atoi of short decimal numbers. -/
/- One line of cgroups. -/
/- The rows of cgroups, read by the program. -/
/- The rows of cgroups, read by the program, whole. -/
/- The door of cgroups: trees of its rows. -/
/- The door of cgroups, whole. -/
/- The law's frame: read. -/
/- Lines and fields of any text, by recursion; a scanner over any text. -/
/- Texts padded, signed numbers, words. -/
/- Whole numbers, perhaps with a sign, as two's complements. -/
/- Atoi of numbers with a sign, of 64 bits. -/
/- Atoi, whole. -/
/- What is written of rows of swaps. -/
/- What is written of rows of swaps, whole; texts alike but for blanks. -/
/- The reading of swaps. -/
import Derived.Test.YtcjebcenbimcgaaGreatDoorEap
set_option linter.unusedSimpArgs false
set_option linter.unusedVariables false
namespace Go.Ev
open Go.Proofs

def spC (c : UInt8) : Bool := (decide (9 ≤ c.toNat) && decide (c.toNat ≤ 13)) || c.toNat == 32

def spV (c : UInt8) : Nat := if spC c then 1 else 0

/-- The table of blanks. -/
def SpT (E : Env) : Prop := ∀ c : UInt8, c.toNat < 128 → (E.glob 1).drop c.toNat = .int .u8 (spV c : Nat) :: (E.glob 1).drop (c.toNat + 1)

/-- The words of a text; cur: what of a word came before. -/
def wordsG (cur : List UInt8) : List UInt8 → List (List UInt8)
  | [] => if cur = [] then [] else [cur]
  | c :: cs => if spC c then (if cur = [] then wordsG [] cs else cur :: wordsG [] cs) else wordsG (cur ++ [c]) cs

/-- How many words begin, where what was before was a blank or not. -/
def cntG (was : Bool) : List UInt8 → Nat
  | [] => 0
  | c :: cs => (if was && !spC c then 1 else 0) + cntG (spC c) cs

theorem cntG_len : ∀ (s cur : List UInt8), cntG (cur == []) s + (if cur = [] then 0 else 1) = (wordsG cur s).length
  | [], cur => by simp only [cntG, wordsG]; split <;> simp_all
  | c :: s, cur => by
    simp only [cntG, wordsG]
    cases hc : spC c with
    | true =>
      have := cntG_len s []
      by_cases h : cur = []
      · subst h; simp at this ⊢; omega
      · simp [h] at this ⊢; omega
    | false =>
      have := cntG_len s (cur ++ [c])
      have hb2 : (cur ++ [c] == []) = false := by simp
      have hb3 : ¬ (cur ++ [c] = []) := by simp
      rw [hb2, if_neg hb3] at this
      by_cases h : cur = []
      · subst h; simp at this ⊢; omega
      · have hb : (cur == []) = false := by simpa using h
        simp [h, hb] at this ⊢; omega

theorem and_bits (was is_ : Bool) : IntKind.i64.wrap (((BitVec.ofInt 64 (if was then 1 else 0) &&& BitVec.ofInt 64 (IntKind.i64.wrap ((BitVec.ofInt 64 (-1) ^^^ BitVec.ofInt 64 (if is_ then 1 else 0)).toNat : Int)))).toNat : Int) = if was && !is_ then 1 else 0 := by
  cases was <;> cases is_ <;> decide

theorem or_bits (a b : Nat) (ha : a < 128) (hb : b < 128) : IntKind.u8.wrap (((BitVec.ofInt 8 (a : Int) ||| BitVec.ofInt 8 (b : Int))).toNat : Int) = ((a ||| b : Nat) : Int) := by
  have h : a ||| b < 128 := Nat.or_lt_two_pow (n := 7) ha hb
  simp only [BitVec.toNat_or, BitVec.toNat_ofInt]
  rw [IntKind.wrap_u8]
  have e1 : ((a : Int) % (2 ^ 8 : Nat)).toNat = a := by omega
  have e2 : ((b : Int) % (2 ^ 8 : Nat)).toNat = b := by omega
  rw [e1, e2]
  omega


theorem spV_cases (c : UInt8) : (spC c = true ∧ spV c = 1) ∨ (spC c = false ∧ spV c = 0) := by
  unfold spV; cases spC c <;> simp

theorem loop127c (E : Env) (cf : CallF) (hT : SpT E) (s : List UInt8) (hs : s.length < 1000000000000) (m : Nat) :
    ∀ (rest pre : List UInt8) (n : Nat) (was : Bool) (bits : Nat) (k : Nat), s = pre ++ rest → (∀ c ∈ rest, c.toNat < 128) → n ≤ pre.length → bits < 128 → rest.length < k →
      ∃ bits' : Nat, bits' < 128 ∧ rounds (evC E cf m b127_3) k { tm := [.sv (.str s), .sv .undef, .sv .undef, .sv (.int .i64 n), .sv (.int .i64 (if was then 1 else 0)), .sv (.int .u8 bits), .sv (.int .i64 pre.length)] ++ List.replicate 99 (.sv .undef), lz := none, bx := [], df := [] } =
        some (.exit 0, { tm := [.sv (.str s), .sv .undef, .sv .undef, .sv (.int .i64 (n + cntG was rest : Nat)), .sv .undef, .sv (.int .u8 bits')] ++ List.replicate 100 (.sv .undef), lz := none, bx := [], df := [] }) := by
  intro rest
  induction rest with
  | nil =>
    intro pre n was bits k hsp hr hn hb hk
    obtain ⟨k, rfl⟩ : ∃ k', k = k' + 1 := ⟨k - 1, by omega⟩
    have hlt : ¬ (pre.length < s.length) := by rw [hsp]; simp
    exact ⟨bits, hb, by simp [rounds, b127_3, List.replicate, hlt, cntG]⟩
  | cons c rest ih =>
    intro pre n was bits k hsp hr hn hb hk
    obtain ⟨k, rfl⟩ : ∃ k', k = k' + 1 := ⟨k - 1, by omega⟩
    have hlt : pre.length < s.length := by rw [hsp]; simp
    have hc : ∀ h : pre.length < s.length, s[pre.length]'h = c := by subst hsp; simp
    have hw2 : IntKind.i64.wrap ((pre.length : Int) + 1) = ((pre ++ [c]).length : Int) := by rw [IntKind.wrap_i64]; simp; omega
    have hc8 := hr c (by simp)
    have hsp1 := hT c hc8
    have hor : IntKind.u8.wrap ((bits % 2 ^ IntKind.u8.bits ||| c.toNat % 2 ^ IntKind.u8.bits : Nat) : Int) = ((bits ||| c.toNat : Nat) : Int) := by
      have := Nat.or_lt_two_pow (n := 7) hb hc8
      rw [show IntKind.u8.bits = 8 from rfl, Nat.mod_eq_of_lt (by omega), Nat.mod_eq_of_lt (by omega), IntKind.wrap_u8]; omega
    have k0 : ∀ x : Int, x = 0 → IntKind.i64.wrap ((n : Int) + x) = n := by intro x hx; subst hx; rw [IntKind.wrap_i64]; omega
    have k1 : ∀ x : Int, x = 1 → IntKind.i64.wrap ((n : Int) + x) = (n : Int) + 1 := by intro x hx; subst hx; rw [IntKind.wrap_i64]; omega
    have hc256 : (c.toNat : Int) < 256 := by omega
    have hlo : bits ||| c.toNat < 128 := Nat.or_lt_two_pow (n := 7) hb hc8
    have hn1 : IntKind.i64.wrap ((n : Int) + 1) = ((n + 1 : Nat) : Int) := by rw [IntKind.wrap_i64]; omega
    have hn0 : IntKind.i64.wrap ((n : Int)) = (n : Int) := by rw [IntKind.wrap_i64]; omega
    have hwa1 : IntKind.i64.wrap 1 = 1 := by rw [IntKind.wrap_i64]; omega
    have hwa0 : IntKind.i64.wrap 0 = 0 := by rw [IntKind.wrap_i64]; omega
    rcases spV_cases c with ⟨h1, h2⟩ | ⟨h1, h2⟩
    · rw [h2] at hsp1
      obtain ⟨bits', hb', he⟩ := ih (pre ++ [c]) n true (bits ||| c.toNat) k (by rw [hsp]; simp) (fun x hx => hr x (by simp [hx])) (by simp; omega) hlo (by simp at hk; omega)
      refine ⟨bits', hb', ?_⟩
      have hcn : cntG was (c :: rest) = cntG true rest := by simp [cntG, h1]
      rw [hcn, ← he]
      refine rounds_step ?_
      cases was
      · simp [b127_3, List.replicate, hlt, hc, hc256, hsp1, hor, hw2, hwa1, hwa0, hn0]
      · simp [b127_3, List.replicate, hlt, hc, hc256, hsp1, hor, hw2, hwa1, hwa0, hn0]
        exact k0 _ (by decide)
    · rw [h2] at hsp1
      cases was with
      | true =>
        obtain ⟨bits', hb', he⟩ := ih (pre ++ [c]) (n + 1) false (bits ||| c.toNat) k (by rw [hsp]; simp) (fun x hx => hr x (by simp [hx])) (by simp; omega) hlo (by simp at hk; omega)
        refine ⟨bits', hb', ?_⟩
        have hcn : n + cntG true (c :: rest) = n + 1 + cntG false rest := by simp [cntG, h1]; omega
        rw [hcn, ← he]
        refine rounds_step ?_
        simp [b127_3, List.replicate, hlt, hc, hc256, hsp1, hor, hw2, hwa1, hwa0]
        exact k1 _ (by decide)
      | false =>
        obtain ⟨bits', hb', he⟩ := ih (pre ++ [c]) n false (bits ||| c.toNat) k (by rw [hsp]; simp) (fun x hx => hr x (by simp [hx])) (by simp; omega) hlo (by simp at hk; omega)
        refine ⟨bits', hb', ?_⟩
        have hcn : cntG false (c :: rest) = cntG false rest := by simp [cntG, h1]
        rw [hcn, ← he]
        refine rounds_step ?_
        simp [b127_3, List.replicate, hlt, hc, hc256, hsp1, hor, hw2, hwa1, hwa0, hn0]

end Go.Ev

set_option linter.unusedSimpArgs false
set_option linter.unusedVariables false
namespace Go.Ev
open Go.Proofs

def rowC (N : Nat) (ws : List (List UInt8)) : List Cell := ws.map (fun w => Cell.sv (.str w)) ++ List.replicate (N - ws.length) (Cell.sv (.str []))

theorem rowC_len {N : Nat} {ws : List (List UInt8)} (h : ws.length ≤ N) : (rowC N ws).length = N := by simp [rowC]; omega

theorem rowC_set {N : Nat} {ws : List (List UInt8)} (w : List UInt8) (h : ws.length < N) : (rowC N ws).set ws.length (.sv (.str w)) = rowC N (ws ++ [w]) := by
  obtain ⟨r, hr⟩ : ∃ r, N - ws.length = r + 1 := ⟨N - ws.length - 1, by omega⟩
  have hr2 : N - (ws ++ [w]).length = r := by simp; omega
  unfold rowC
  rw [hr, hr2, List.replicate_succ]
  simp

theorem loop127s (E : Env) (cf : CallF) (hT : SpT E) (s : List UInt8) (hs : s.length < 1000000000000) (m na N : Nat) (bx : List Box) :
    ∀ (rest pre : List UInt8) (k : Nat), s = pre ++ rest → (∀ c ∈ rest, c.toNat < 128) → rest.length < k →
      rounds (evC E cf m b127_2) k { tm := [.sv (.str s)] ++ List.replicate 8 (.sv .undef) ++ [.mrow 0 N 1, .sv (.int .i64 na), .sv .undef, .sv (.int .i64 pre.length)] ++ List.replicate 93 (.sv .undef), lz := none, bx := bx, df := [] } =
        some (.exit 2, { tm := [.sv (.str s)] ++ List.replicate 8 (.sv .undef) ++ [.mrow 0 N 1, .sv (.int .i64 na), .sv .undef, .sv (.int .i64 (pre ++ rest.takeWhile spC).length)] ++ List.replicate 93 (.sv .undef), lz := none, bx := bx, df := [] }) := by
  intro rest
  induction rest with
  | nil =>
    intro pre k hsp hr hk
    obtain ⟨k, rfl⟩ : ∃ k', k = k' + 1 := ⟨k - 1, by omega⟩
    have hlt : ¬ (pre.length < s.length) := by rw [hsp]; simp
    refine rounds_out ?_ (by simp)
    simp [b127_2, List.replicate, hlt]
  | cons c rest ih =>
    intro pre k hsp hr hk
    obtain ⟨k, rfl⟩ : ∃ k', k = k' + 1 := ⟨k - 1, by omega⟩
    have hlt : pre.length < s.length := by rw [hsp]; simp
    have hc : ∀ h : pre.length < s.length, s[pre.length]'h = c := by subst hsp; simp
    have hw2 : IntKind.i64.wrap ((pre.length : Int) + 1) = ((pre ++ [c]).length : Int) := by rw [IntKind.wrap_i64]; simp; omega
    have hc8 := hr c (by simp)
    have hsp1 := hT c hc8
    have hc256 : (c.toNat : Int) < 256 := by omega
    rcases spV_cases c with ⟨h1, h2⟩ | ⟨h1, h2⟩
    · rw [h2] at hsp1
      have he := ih (pre ++ [c]) k (by rw [hsp]; simp) (fun x hx => hr x (by simp [hx])) (by simp at hk; omega)
      rw [List.takeWhile_cons, h1, if_pos rfl, show pre ++ c :: rest.takeWhile spC = pre ++ [c] ++ rest.takeWhile spC from by simp, ← he]
      refine rounds_step ?_
      simp [b127_2, List.replicate, hlt, hc, hc256, hsp1, hw2]
    · rw [h2] at hsp1
      rw [List.takeWhile_cons, h1, if_neg (by simp)]
      refine rounds_out ?_ (by simp)
      simp [b127_2, List.replicate, hlt, hc, hc256, hsp1, hw2]

theorem loop127t (E : Env) (cf : CallF) (hT : SpT E) (s : List UInt8) (hs : s.length < 1000000000000) (m na N : Nat) (bx : List Box) :
    ∀ (rest pre : List UInt8) (k : Nat), s = pre ++ rest → (∀ c ∈ rest, c.toNat < 128) → rest.length < k →
      rounds (evC E cf m b127_0) k { tm := [.sv (.str s)] ++ List.replicate 8 (.sv .undef) ++ [.mrow 0 N 1, .sv (.int .i64 na), .sv .undef, .sv (.int .i64 pre.length)] ++ List.replicate 93 (.sv .undef), lz := none, bx := bx, df := [] } =
        some (.exit 6, { tm := [.sv (.str s)] ++ List.replicate 8 (.sv .undef) ++ [.mrow 0 N 1, .sv (.int .i64 na), .sv .undef, .sv (.int .i64 (pre ++ rest.takeWhile spC).length)] ++ List.replicate 93 (.sv .undef), lz := none, bx := bx, df := [] }) := by
  intro rest
  induction rest with
  | nil =>
    intro pre k hsp hr hk
    obtain ⟨k, rfl⟩ : ∃ k', k = k' + 1 := ⟨k - 1, by omega⟩
    have hlt : ¬ (pre.length < s.length) := by rw [hsp]; simp
    refine rounds_out ?_ (by simp)
    simp [b127_0, List.replicate, hlt]
  | cons c rest ih =>
    intro pre k hsp hr hk
    obtain ⟨k, rfl⟩ : ∃ k', k = k' + 1 := ⟨k - 1, by omega⟩
    have hlt : pre.length < s.length := by rw [hsp]; simp
    have hc : ∀ h : pre.length < s.length, s[pre.length]'h = c := by subst hsp; simp
    have hw2 : IntKind.i64.wrap ((pre.length : Int) + 1) = ((pre ++ [c]).length : Int) := by rw [IntKind.wrap_i64]; simp; omega
    have hc8 := hr c (by simp)
    have hsp1 := hT c hc8
    have hc256 : (c.toNat : Int) < 256 := by omega
    rcases spV_cases c with ⟨h1, h2⟩ | ⟨h1, h2⟩
    · rw [h2] at hsp1
      have he := ih (pre ++ [c]) k (by rw [hsp]; simp) (fun x hx => hr x (by simp [hx])) (by simp at hk; omega)
      rw [List.takeWhile_cons, h1, if_pos rfl, show pre ++ c :: rest.takeWhile spC = pre ++ [c] ++ rest.takeWhile spC from by simp, ← he]
      refine rounds_step ?_
      simp [b127_0, List.replicate, hlt, hc, hc256, hsp1, hw2]
    · rw [h2] at hsp1
      rw [List.takeWhile_cons, h1, if_neg (by simp)]
      refine rounds_out ?_ (by simp)
      simp [b127_0, List.replicate, hlt, hc, hc256, hsp1, hw2]

theorem wordsG_skip : ∀ (rest : List UInt8), wordsG [] rest = wordsG [] (rest.dropWhile spC)
  | [] => rfl
  | c :: rest => by
    rw [List.dropWhile_cons]
    cases h : spC c with
    | true => simp [wordsG, h]; exact wordsG_skip rest
    | false => simp

theorem drop_head (rest : List UInt8) : ∀ c cs, rest.dropWhile spC = c :: cs → spC c = false := by
  intro c cs h
  have := List.head?_dropWhile_not spC rest
  rw [h] at this
  simpa using this

theorem loop127w (E : Env) (cf : CallF) (hT : SpT E) (s : List UInt8) (hs : s.length < 1000000000000) (h8 : ∀ c ∈ s, c.toNat < 128) (m N : Nat) (hm : s.length < m) (hN0 : N < 1000000000000) :
    ∀ (n : Nat) (rest pre cur : List UInt8) (ws : List (List UInt8)) (k : Nat), rest.length ≤ n → s = pre ++ cur ++ rest → (cur = [] → ∀ c cs, rest = c :: cs → spC c = false) → ws.length + (wordsG cur rest).length ≤ N → rest.length < k →
      ∃ pre1 cur1 ws1, s = pre1 ++ cur1 ∧ ws1 ++ (if cur1 = [] then [] else [cur1]) = ws ++ wordsG cur rest ∧
      rounds (evC E cf m b127_1) k { tm := [.sv (.str s)] ++ List.replicate 8 (.sv .undef) ++ [.mrow 0 N 1, .sv (.int .i64 ws.length), .sv (.int .i64 pre.length), .sv (.int .i64 (pre ++ cur).length)] ++ List.replicate 93 (.sv .undef), lz := none, bx := [.live (rowC N ws)], df := [] } =
        some (.exit 4, { tm := [.sv (.str s)] ++ List.replicate 8 (.sv .undef) ++ [.mrow 0 N 1, .sv (.int .i64 ws1.length), .sv (.int .i64 pre1.length), .sv .undef] ++ List.replicate 93 (.sv .undef), lz := none, bx := [.live (rowC N ws1)], df := [] }) := by
  intro n
  induction n with
  | zero =>
    intro rest pre cur ws k hn hsp hcur hN hk
    obtain ⟨k, rfl⟩ : ∃ k', k = k' + 1 := ⟨k - 1, by omega⟩
    obtain rfl : rest = [] := List.eq_nil_of_length_eq_zero (by omega)
    refine ⟨pre, cur, ws, by simpa using hsp, by simp [wordsG], ?_⟩
    have hlt : ¬ ((pre ++ cur).length < s.length) := by rw [hsp]; simp
    refine rounds_out ?_ (by simp)
    generalize (pre ++ cur).length = pl at hlt
    simp [b127_1, List.replicate, hlt]
  | succ n ih =>
    intro rest pre cur ws k hn hsp hcur hN hk
    obtain ⟨k, rfl⟩ : ∃ k', k = k' + 1 := ⟨k - 1, by omega⟩
    cases rest with
    | nil => exact ih [] pre cur ws (k + 1) (by simp) hsp hcur hN hk
    | cons c rest =>
      have hlt : (pre ++ cur).length < s.length := by rw [hsp]; simp
      have hsl := congrArg List.length hsp
      simp only [List.length_append, List.length_cons] at hsl
      have hc : ∀ h : (pre ++ cur).length < s.length, s[(pre ++ cur).length]'h = c := by subst hsp; simp
      have hw2 : IntKind.i64.wrap (((pre ++ cur).length : Int) + 1) = ((pre ++ (cur ++ [c])).length : Int) := by rw [IntKind.wrap_i64]; simp only [List.length_append, List.length_cons, List.length_nil]; omega
      have hc8 := h8 c (by rw [hsp]; simp)
      have hsp1 := hT c hc8
      have hc256 : (c.toNat : Int) < 256 := by omega
      rcases spV_cases c with ⟨h1, h2⟩ | ⟨h1, h2⟩
      · rw [h2] at hsp1
        have hcn : cur ≠ [] := fun h => by have := hcur h c rest rfl; rw [h1] at this; cases this
        have hwg : wordsG cur (c :: rest) = cur :: wordsG [] rest := by simp [wordsG, h1, hcn]
        rw [hwg] at hN
        simp only [List.length_cons] at hN
        have hskip := loop127t E cf hT s hs m (ws ++ [cur]).length N [.live (rowC N (ws ++ [cur]))] rest (pre ++ cur ++ [c]) m (by rw [hsp]; simp) (fun x hx => h8 x (by rw [hsp]; simp [hx])) (by rw [hsp] at hm; simp at hm; omega)
        have hdl : (rest.dropWhile spC).length ≤ rest.length := (List.dropWhile_sublist _).length_le
        obtain ⟨pre1, cur1, ws1, g1, g2, g3⟩ := ih (rest.dropWhile spC) (pre ++ cur ++ [c] ++ rest.takeWhile spC) [] (ws ++ [cur]) k (by simp at hn; omega)
          (by rw [hsp]; simp [List.takeWhile_append_dropWhile]) (fun _ => drop_head rest) (by rw [← wordsG_skip]; simp; omega) (by simp at hk; omega)
        refine ⟨pre1, cur1, ws1, g1, ?_, ?_⟩
        · rw [g2, hwg, ← wordsG_skip]; simp
        · rw [← g3]
          refine rounds_step ?_
          have hwl : ws.length < N := by omega
          have hset := rowC_set cur hwl
          have hrl := rowC_len (N := N) (ws := ws) (by omega)
          have hwn : IntKind.i64.wrap ((ws.length : Int) + 1) = ((ws ++ [cur]).length : Int) := by rw [IntKind.wrap_i64]; simp only [List.length_append, List.length_cons, List.length_nil]; omega
          have hsub : (s.take (pre ++ cur).length).drop pre.length = cur := by rw [hsp, List.take_left, List.drop_left]
          generalize hC : rowC N ws = C at hset hrl
          have q1 : pre.length ≤ (pre ++ cur).length := by simp
          have q2 : (pre ++ cur).length ≤ s.length := by omega
          have hw3 : IntKind.i64.wrap (((pre ++ cur).length : Int) + 1) = ((pre ++ cur ++ [c]).length : Int) := by rw [hw2]; simp
          have hwlI : (ws.length : Int) < (N : Int) := by omega
          simp only [List.replicate, List.cons_append, List.nil_append] at hskip
          have hNl : ws.length < C.length := by omega
          have e1 : (pre ++ cur ++ [c] ++ rest.takeWhile spC ++ []).length = (pre ++ cur ++ [c] ++ rest.takeWhile spC).length := by simp
          rw [e1]
          generalize hP2 : (pre ++ cur ++ [c]).length = P2 at hskip hw3
          generalize hP3 : (pre ++ cur ++ [c] ++ rest.takeWhile spC).length = P3 at hskip
          generalize hN2 : (ws ++ [cur]).length = N2 at hskip hwn
          generalize hPL : (pre ++ cur).length = pl at hlt hc hw2 hsub q1 q2 hw3
          simp [b127_1, List.replicate, hlt, hc, hc256, hsp1, hw3, hwl, hwlI, q1, q2, hsub, hNl, hset, hwn, hskip]
      · rw [h2] at hsp1
        have hwg : wordsG cur (c :: rest) = wordsG (cur ++ [c]) rest := by simp [wordsG, h1]
        obtain ⟨pre1, cur1, ws1, g1, g2, g3⟩ := ih rest pre (cur ++ [c]) ws k (by simp at hn; omega) (by rw [hsp]; simp) (fun h => by simp at h) (by rw [← hwg]; exact hN) (by simp at hk; omega)
        refine ⟨pre1, cur1, ws1, g1, by rw [g2, hwg], ?_⟩
        rw [← g3]
        refine rounds_step ?_
        generalize (pre ++ cur).length = pl at hlt hc hw2
        generalize (pre ++ (cur ++ [c])).length = pl2 at hw2
        simp [b127_1, List.replicate, hlt, hc, hc256, hsp1, hw2]

end Go.Ev

set_option linter.unusedSimpArgs false
set_option linter.unusedVariables false
namespace Go.Ev
open Go.Proofs

theorem cntG_le : ∀ (s : List UInt8) (was : Bool), cntG was s ≤ s.length
  | [], _ => by simp [cntG]
  | c :: s, was => by
    have := cntG_le s (spC c)
    simp only [cntG, List.length_cons]
    split <;> omega

theorem rowC_plain {N : Nat} {ws : List (List UInt8)} (h : ws.length = N) : (rowC N ws).map Cell.plain = strs ws := by
  unfold rowC
  rw [show N - ws.length = 0 from by omega]
  simp [strs, Cell.plain]

theorem ev127 (E : Env) (h : E.code 152 = some c127) (hT : SpT E) (s : List UInt8) (hs : s.length < 1000000000000) (h8 : ∀ c ∈ s, c.toNat < 128) (n : Nat) (hn : s.length < n) :
    evP E n 152 [.str s] = some (.sv (.sl (strs (wordsG [] s)))) := by
  unfold evP
  simp only [h]
  obtain ⟨bits, hb, h1⟩ := loop127c E (evF E n) hT s hs n s [] 0 true 0 n rfl h8 (by simp) (by omega) hn
  have hcl := cntG_len s []
  simp only [if_true, Nat.add_zero, beq_self_eq_true] at hcl
  have hcle := cntG_le s true
  rw [hcl] at h1 hcle
  generalize hN : (wordsG [] s).length = N at h1 hcle
  have h2 := loop127s E (evF E n) hT s hs n 0 N [.live (rowC N [])] s [] n rfl h8 hn
  obtain ⟨pre1, cur1, ws1, g1, g2, h3⟩ := loop127w E (evF E n) hT s hs h8 n N hn (by omega) (s.dropWhile spC).length (s.dropWhile spC) (s.takeWhile spC) [] [] n (Nat.le_refl _) (by simp [List.takeWhile_append_dropWhile]) (fun _ => drop_head s)
    (by rw [← wordsG_skip]; simp; omega) (by have := (List.dropWhile_sublist (p := spC) (l := s)).length_le; omega)
  simp only [List.append_nil, List.nil_append, List.length_nil, ← wordsG_skip] at h2 h3 g2
  generalize (s.takeWhile spC).length = p1 at h2 h3
  have hbI : ¬ (128 : Int) ≤ (bits : Int) := by omega
  have hrow : rowC N [] = List.replicate N (Cell.sv (SV.str [])) := by simp [rowC]
  rw [hrow] at h2 h3
  simp only [List.replicate, List.cons_append, List.nil_append, Int.ofNat_zero, Int.natCast_zero, if_true, List.length_nil, Nat.zero_add] at h1 h2 h3
  have q1 : (N : Int) * 16 ≤ 70368744177664 := by omega
  have q2 : (N : Int) ≤ 70368744177664 := by omega
  by_cases hcur : cur1 = []
  · subst hcur
    simp at g1 g2
    subst g1
    subst g2
    have hpl := rowC_plain hN
    have hpl2 := rowC_len (N := N) (ws := wordsG [] s) (by omega)
    simp [c127, List.replicate, h1, hbI, q1, q2, h2, h3, hpl2, hpl, strs_length, hN]
  · rw [if_neg hcur] at g2
    have hw1 : ws1.length < N := by rw [← hN, ← g2]; simp
    have hlt : (pre1.length : Int) < (s.length : Int) := by
      rw [g1]; cases cur1 with
      | nil => exact absurd rfl hcur
      | cons _ _ => simp; omega
    have hle : pre1.length ≤ s.length := by omega
    have hlt' : pre1.length < s.length := by omega
    have hd : List.drop pre1.length s = cur1 := by rw [g1]; simp
    have hset := rowC_set cur1 hw1
    have hpl := rowC_plain (N := N) (ws := ws1 ++ [cur1]) (by rw [g2]; exact hN)
    have hpl2 := rowC_len (N := N) (ws := ws1 ++ [cur1]) (by simp; omega)
    have hpl3 := rowC_len (N := N) (ws := ws1) (by omega)
    have hw1I : (ws1.length : Int) < (N : Int) := by omega
    rw [g2] at hset hpl hpl2
    generalize rowC N ws1 = C1 at h3 hset hpl3
    have hw1C : ws1.length < C1.length := by omega
    have htk : List.take s.length s = s := List.take_length
    simp [c127, List.replicate, h1, hbI, q1, q2, h2, h3, hlt', hle, hd, hw1, hw1C, hset, hpl2, hpl, htk, strs_length, hN]

noncomputable def F127 : List SV → Option AV
  | [.str s] => onlyIf (s.length < 1000000000000 ∧ ∀ c ∈ s, c.toNat < 128) (some (.sv (.sl (strs (wordsG [] s)))))
  | _ => none

theorem F127_eq (s : List UInt8) (h1 : s.length < 1000000000000) (h2 : ∀ c ∈ s, c.toNat < 128) : F127 [.str s] = some (.sv (.sl (strs (wordsG [] s)))) := onlyIf_pos ⟨h1, h2⟩

/-! ### The words of a line -/

theorem wordsG_word : ∀ (w cur rest : List UInt8), (∀ c ∈ w, spC c = false) → wordsG cur (w ++ rest) = wordsG (cur ++ w) rest
  | [], cur, rest, _ => by simp
  | c :: w, cur, rest, h => by
    have h1 := h c (by simp)
    simp only [List.cons_append, wordsG, h1]
    simp only [Bool.false_eq_true, if_false]
    rw [wordsG_word w (cur ++ [c]) rest (fun x hx => h x (by simp [hx]))]
    simp

theorem wordsG_sep {w rest : List UInt8} {c : UInt8} (hw : w ≠ []) (h : ∀ c ∈ w, spC c = false) (hc : spC c = true) : wordsG [] (w ++ c :: rest) = w :: wordsG [] rest := by
  rw [wordsG_word w [] _ h]
  simp [wordsG, hc, hw]

theorem wordsG_last {w : List UInt8} (hw : w ≠ []) (h : ∀ c ∈ w, spC c = false) : wordsG [] w = [w] := by
  have := wordsG_word w [] [] h
  simp only [List.append_nil, List.nil_append] at this
  rw [this]; simp [wordsG, hw]

theorem wordsG_blank {rest : List UInt8} {c : UInt8} (hc : spC c = true) : wordsG [] (c :: rest) = wordsG [] rest := by simp [wordsG, hc]

end Go.Ev

set_option linter.unusedSimpArgs false
set_option linter.unusedVariables false
namespace Go.Ev
open Go.Proofs

def dgt (c : UInt8) : Nat := c.toNat - 48

def digN (a : Nat) (s : List UInt8) : Nat := s.foldl (fun a c => a * 10 + dgt c) a

theorem digN_nil (a : Nat) : digN a [] = a := by unfold digN; rw [List.foldl_nil]
theorem digN_cons (a : Nat) (c : UInt8) (s : List UInt8) : digN a (c :: s) = digN (a * 10 + dgt c) s := by unfold digN; rw [List.foldl_cons]

def digC (c : UInt8) : Bool := decide (48 ≤ c.toNat) && decide (c.toNat ≤ 57)

theorem digC_iff {c : UInt8} : digC c = true ↔ 48 ≤ c.toNat ∧ c.toNat ≤ 57 := by simp [digC]

theorem digN_append (s t : List UInt8) (a : Nat) : digN a (s ++ t) = digN (digN a s) t := by unfold digN; rw [List.foldl_append]

theorem dig_toNat {d : Nat} (h : d < 10) : (UInt8.ofNat (48 + d)).toNat = 48 + d := by
  rw [UInt8.toNat_ofNat']; omega

theorem decS_dig (n : Nat) : digN 0 (decS n) = n ∧ (∀ c ∈ decS n, digC c = true) ∧ decS n ≠ [] := by
  induction n using Nat.strongRecOn with
  | ind n ih =>
    by_cases h : n < 10
    · rw [decS_small h]
      have := dig_toNat h
      refine ⟨by rw [digN_cons, digN_nil, dgt, this]; omega, fun c hc => ?_, by simp⟩
      obtain rfl := List.mem_singleton.1 hc
      rw [digC_iff, this]; omega
    · rw [decS_step h]
      obtain ⟨h1, h2, h3⟩ := ih (n / 10) (by omega)
      have hd : n % 10 < 10 := Nat.mod_lt _ (by omega)
      have := dig_toNat hd
      refine ⟨by rw [digN_append, h1, digN_cons, digN_nil, dgt, this]; omega, fun c hc => ?_, by simp⟩
      rcases List.mem_append.1 hc with hc | hc
      · exact h2 c hc
      · obtain rfl := List.mem_singleton.1 hc
        rw [digC_iff, this]; omega

theorem digN_lt : ∀ (s : List UInt8) (a : Nat), (∀ c ∈ s, digC c = true) → digN a s < (a + 1) * 10 ^ s.length
  | [], a, _ => by rw [digN_nil, List.length_nil, Nat.pow_zero, Nat.mul_one]; omega
  | c :: s, a, h => by
    have hc := digC_iff.1 (h c (by simp))
    have hd : dgt c ≤ 9 := by unfold dgt; omega
    have := digN_lt s (a * 10 + dgt c) (fun x hx => h x (by simp [hx]))
    rw [digN_cons, List.length_cons]
    generalize dgt c = d at *
    refine Nat.lt_of_lt_of_le this ?_
    rw [Nat.pow_succ, Nat.mul_comm (10 ^ s.length) 10, ← Nat.mul_assoc]
    exact Nat.mul_le_mul_right _ (by omega)

theorem bytesSV_length (s : List UInt8) : (bytesSV s).length = s.length := by simp [bytesSV]

theorem pow10_le {a b : Nat} (h : a ≤ b) : 10 ^ a ≤ 10 ^ b := Nat.pow_le_pow_right (by omega) h

theorem loop149 (E : Env) (cf : CallF) (s0 s : List UInt8) (hs : s.length < 19) (m : Nat) :
    ∀ (rest pre : List UInt8) (a k : Nat), s = pre ++ rest → (∀ c ∈ rest, digC c = true) → a < 10 ^ pre.length → rest.length < k →
      rounds (evC E cf m b149_0) k { tm := List.replicate 5 (.sv .undef) ++ [.sv (.str s0), .sv (.int .i64 a)] ++ List.replicate 40 (.sv .undef) ++ [.sv (.sl (bytesSV s)), .sv (.int .i64 s.length), .sv (.int .i64 pre.length)] ++ List.replicate 27 (.sv .undef), lz := none, bx := [], df := [] } =
        some (.exit 0, { tm := List.replicate 5 (.sv .undef) ++ [.sv (.str s0), .sv (.int .i64 (digN a rest : Nat))] ++ List.replicate 70 (.sv .undef), lz := none, bx := [], df := [] }) := by
  intro rest
  induction rest with
  | nil =>
    intro pre a k hsp hr ha hk
    obtain ⟨k, rfl⟩ : ∃ k', k = k' + 1 := ⟨k - 1, by omega⟩
    have hlt : ¬ (pre.length < s.length) := by rw [hsp]; simp
    refine rounds_out ?_ (by simp)
    simp [b149_0, List.replicate, hlt, digN_nil]
  | cons c rest ih =>
    intro pre a k hsp hr ha hk
    obtain ⟨k, rfl⟩ : ∃ k', k = k' + 1 := ⟨k - 1, by omega⟩
    have hlt : pre.length < s.length := by rw [hsp]; simp
    have hsl := congrArg List.length hsp
    simp only [List.length_append, List.length_cons] at hsl
    have hc : ∀ h : pre.length < (bytesSV s).length, (bytesSV s)[pre.length]'h = .int .u8 (c.toNat : Int) := by subst hsp; simp [bytesSV]
    have hw2 : IntKind.i64.wrap ((pre.length : Int) + 1) = ((pre ++ [c]).length : Int) := by rw [IntKind.wrap_i64]; simp; omega
    obtain ⟨d1, d2⟩ := digC_iff.1 (hr c (by simp))
    have hs8 : IntKind.u8.wrap ((c.toNat : Int) - 48) = ((dgt c : Nat) : Int) := by rw [IntKind.wrap_u8]; unfold dgt; omega
    have hd9 : dgt c ≤ 9 := by unfold dgt; omega
    rw [digN_cons]
    generalize dgt c = d at *
    have h9 : ¬ (9 : Int) < (d : Int) := by omega
    have hp : 10 ^ pre.length ≤ 10 ^ 17 := pow10_le (by omega)
    have hw3 : IntKind.i64.wrap (d : Int) = (d : Int) := by rw [IntKind.wrap_i64]; omega
    have hw4 : IntKind.i64.wrap ((a : Int) * 10) = ((a * 10 : Nat) : Int) := by rw [IntKind.wrap_i64]; omega
    have hw5 : IntKind.i64.wrap (((a * 10 : Nat) : Int) + (d : Int)) = ((a * 10 + d : Nat) : Int) := by rw [IntKind.wrap_i64]; omega
    have he := ih (pre ++ [c]) (a * 10 + d) k (by rw [hsp]; simp) (fun x hx => hr x (by simp [hx])) (by simp only [List.length_append, List.length_cons, List.length_nil, Nat.pow_succ]; omega) (by simp at hk; omega)
    rw [← he]
    refine rounds_step ?_
    generalize (a * 10 + d) = a2 at *
    generalize (a * 10) = a1 at *
    simp [b149_0, List.replicate, hlt, bytesSV_length, hc, hs8, h9, hw2, hw3, hw4, hw5]

theorem ev149 (E : Env) (h : E.code 210 = some c149) (s : List UInt8) (hs : s.length < 19) (hne : s ≠ []) (hd : ∀ c ∈ s, digC c = true) (n : Nat) (hn : s.length < n) :
    evP E n 210 [.str s] = some (.sv (.tup [.int .i64 (digN 0 s : Nat), .nilI])) := by
  unfold evP
  simp only [h]
  have hl := loop149 E (evF E n) s s hs n s [] 0 n rfl hd (by simp) hn
  cases s with
  | nil => exact absurd rfl hne
  | cons c cs =>
    obtain ⟨d1, d2⟩ := digC_iff.1 (hd c (by simp))
    have e1 : ((c.toNat : Int) == 45) = false := by rw [Bool.eq_false_iff]; simp; omega
    have e2 : ((c.toNat : Int) == 43) = false := by rw [Bool.eq_false_iff]; simp; omega
    have e3 : (0 : Int) < (cs.length : Int) + 1 := by omega
    have e4 : (cs.length : Int) + 1 < 19 := by simp only [List.length_cons] at hs; omega
    have e5 : (0 : Int) ≤ (cs.length : Int) + 1 := by omega
    simp only [List.length_cons, List.replicate, List.cons_append, List.nil_append, List.length_nil, Int.ofNat_zero, Int.natCast_zero, Int.natCast_add, Int.natCast_one, Int.cast_ofNat_Int] at hl
    by_cases h10 : (cs.length : Int) + 1 < 10
    · simp [c149, List.replicate, e1, e2, e3, e4, e5, h10, bytesSV_length, hl]
    · simp [c149, List.replicate, e1, e2, e3, e4, e5, h10, bytesSV_length, hl]

noncomputable def F149 : List SV → Option AV
  | [.str s] => onlyIf (s.length < 19 ∧ s ≠ [] ∧ ∀ c ∈ s, digC c = true) (some (.sv (.tup [.int .i64 (digN 0 s : Nat), .nilI])))
  | _ => none

theorem ev143 (E : Env) (h : E.code 194 = some c143) (h149 : E.pure 210 = some F149) (s : List UInt8) (hs : s.length < 19) (hne : s ≠ []) (hd : ∀ c ∈ s, digC c = true) (n : Nat) :
    evP E n 194 [.str s] = some (.sv (.tup [.int .i64 (digN 0 s : Nat), .nilI])) := by
  unfold evP
  simp only [h]
  have hF : F149 [.str s] = some (.sv (.tup [.int .i64 (digN 0 s : Nat), .nilI])) := onlyIf_pos ⟨hs, hne, hd⟩
  simp [c143, List.replicate, h149, hF]

noncomputable def F143 : List SV → Option AV
  | [.str s] => onlyIf (s.length < 19 ∧ s ≠ [] ∧ ∀ c ∈ s, digC c = true) (some (.sv (.tup [.int .i64 (digN 0 s : Nat), .nilI])))
  | _ => none

theorem F143_dec (n : Nat) (hn : n < 1000000000000000000) : F143 [.str (decS n)] = some (.sv (.tup [.int .i64 (n : Int), .nilI])) := by
  obtain ⟨h1, h2, h3⟩ := decS_dig n
  have := decS_length n 17 (by omega)
  have e : F143 [.str (decS n)] = some (.sv (.tup [.int .i64 (digN 0 (decS n) : Nat), .nilI])) := onlyIf_pos ⟨by omega, h3, h2⟩
  rw [e, h1]

end Go.Ev

set_option linter.unusedSimpArgs false
set_option linter.unusedVariables false
namespace Go.Ev
open Go.Proofs

def okNum (x : List UInt8) : Prop := x.length < 19 ∧ x ≠ [] ∧ ∀ c ∈ x, digC c = true

theorem okNum_dec {n : Nat} (hn : n < 1000000000000000000) : okNum (decS n) := by
  obtain ⟨h1, h2, h3⟩ := decS_dig n
  have := decS_length n 17 (by omega)
  exact ⟨by omega, h3, h2⟩

theorem F143_eq {x : List UInt8} (h : okNum x) : F143 [.str x] = some (.sv (.tup [.int .i64 (digN 0 x : Nat), .nilI])) := onlyIf_pos h

noncomputable def F131 : List SV → Option AV
  | [.str s] => match wordsG [] s with
    | [w, x, y, z] => onlyIf (s.length < 1000000000000 ∧ (∀ c ∈ s, c.toNat < 128) ∧ okNum x ∧ okNum y ∧ okNum z) (some (.sv (.tup [.ref [.str w, .int .i64 (digN 0 x : Nat), .int .i64 (digN 0 y : Nat), .int .i64 (digN 0 z : Nat)], .nilI])))
    | _ => none
  | _ => none

/-- A line of a row. -/
def cgBody (r : RowD) : List UInt8 := r.name ++ [9] ++ joinS [9] (r.N.map decS)

theorem wordC_sp {c : UInt8} (h : wordC c = true) : spC c = false ∧ c.toNat < 128 ∧ c.toNat ≠ 10 ∧ c.toNat ≠ 13 := by
  simp only [wordC, Bool.and_eq_true, decide_eq_true_eq] at h
  refine ⟨?_, by omega, by omega, by omega⟩
  simp [spC]; omega

theorem digC_sp {c : UInt8} (h : digC c = true) : spC c = false ∧ c.toNat < 128 ∧ c.toNat ≠ 10 ∧ c.toNat ≠ 13 := by
  have := digC_iff.1 h
  refine ⟨?_, by omega, by omega, by omega⟩
  simp [spC]; omega

theorem tab_sp : spC 9 = true := by decide

def cgVal (r : RowD) : List SV := .str r.name :: r.N.map fun (n : Nat) => .int .i64 (n : Int)

/-- What is known of a row that the form can say. -/
theorem cgOk_spec {r : RowD} (h : cgOk r = true) : ∃ c cs x y z, r.name = c :: cs ∧ c.toNat ≠ 35 ∧ (∀ c ∈ r.name, wordC c = true) ∧ r.N = [x, y, z] ∧ r.S = [] ∧ x < 2147483648 ∧ y < 2147483648 ∧ z < 2147483648 := by
  obtain ⟨name, N, S⟩ := r
  unfold cgOk at h
  simp only [Bool.and_eq_true, decide_eq_true_eq, Bool.not_eq_true', beq_eq_false_iff_ne, List.all_eq_true] at h
  obtain ⟨⟨⟨⟨⟨h1, h2⟩, h3⟩, h4⟩, h5⟩, h6⟩ := h
  try simp only at h1 h2 h3 h4 h5 h6
  cases name with
  | nil => exact absurd rfl h2
  | cons c cs =>
    match N, h4 with
    | [x, y, z], _ =>
      refine ⟨c, cs, x, y, z, rfl, fun e => ?_, h1, rfl, List.eq_nil_of_length_eq_zero h5, h6 x (by simp), h6 y (by simp), h6 z (by simp)⟩
      apply h3
      have : c = 35 := UInt8.toNat_inj.1 (by rw [e]; rfl)
      simp [this]

theorem cgBody_spec {r : RowD} (h : cgOk r = true) : (∀ c ∈ cgBody r, c.toNat < 128 ∧ c.toNat ≠ 10 ∧ c.toNat ≠ 13) ∧ (cgBody r).take 1 ≠ [35] ∧ ∃ x y z, r.N = [x, y, z] ∧ wordsG [] (cgBody r) = [r.name, decS x, decS y, decS z] ∧ okNum (decS x) ∧ okNum (decS y) ∧ okNum (decS z) := by
  obtain ⟨c, cs, x, y, z, e1, e2, e3, e4, e5, hx, hy, hz⟩ := cgOk_spec h
  obtain ⟨name, N, S⟩ := r
  simp only at e1 e2 e3 e4 e5
  subst e4
  obtain ⟨x1, x2, x3⟩ := decS_dig x
  obtain ⟨y1, y2, y3⟩ := decS_dig y
  obtain ⟨z1, z2, z3⟩ := decS_dig z
  have hb : cgBody ⟨name, [x, y, z], S⟩ = name ++ 9 :: (decS x ++ 9 :: (decS y ++ 9 :: decS z)) := by simp [cgBody, joinS]
  refine ⟨fun d hd => ?_, ?_, x, y, z, rfl, ?_, okNum_dec (by omega), okNum_dec (by omega), okNum_dec (by omega)⟩
  · rw [hb] at hd
    simp only [List.mem_append, List.mem_cons] at hd
    rcases hd with hd | rfl | hd | rfl | hd | rfl | hd
    · exact (wordC_sp (e3 d hd)).2
    · decide
    · exact (digC_sp (x2 d hd)).2
    · decide
    · exact (digC_sp (y2 d hd)).2
    · decide
    · exact (digC_sp (z2 d hd)).2
  · rw [hb, e1]
    simp only [List.cons_append, List.take_succ_cons, List.take_zero, ne_eq, List.cons.injEq, and_true]
    intro e
    apply e2
    rw [e]; rfl
  · rw [hb, wordsG_sep (by rw [e1]; simp) (fun c hc => (wordC_sp (e3 c hc)).1) tab_sp, wordsG_sep x3 (fun c hc => (digC_sp (x2 c hc)).1) tab_sp, wordsG_sep y3 (fun c hc => (digC_sp (y2 c hc)).1) tab_sp, wordsG_last z3 (fun c hc => (digC_sp (z2 c hc)).1)]

theorem F131_eq {r : RowD} (h : cgOk r = true) (hl : (cgBody r).length < 1000000000000) : F131 [.str (cgBody r)] = some (.sv (.tup [.ref (cgVal r), .nilI])) := by
  obtain ⟨k1, k2, x, y, z, k3, k4, k5, k6, k7⟩ := cgBody_spec h
  unfold F131
  simp only [k4]
  rw [onlyIf_pos ⟨hl, fun c hc => (k1 c hc).1, k5, k6, k7⟩, (decS_dig x).1, (decS_dig y).1, (decS_dig z).1]
  simp [cgVal, k3]

end Go.Ev

set_option linter.unusedSimpArgs false
set_option linter.unusedVariables false
namespace Go.Ev
open Go.Proofs

theorem ev130' (s w : List UInt8) : F144 [.str s, .str w] = some (.sv (.bool (decide (w.length ≤ s.length) && (s.take w.length == w)))) := rfl

def F130 : List SV → Option AV
  | [.str s, .str w] => some (.sv (.bool (decide (w.length ≤ s.length) && (s.take w.length == w))))
  | _ => none

theorem cgLine_eq (r : RowD) : cgLine r = cgBody r ++ [10] := by simp [cgLine, cgBody]

end Go.Ev

set_option linter.unusedSimpArgs false
set_option linter.unusedVariables false
namespace Go.Ev
open Go.Proofs

theorem svBytes_bytes : ∀ (s : List UInt8), svBytes (bytesSV s) = some s
  | [] => rfl
  | c :: s => by
    have ih := svBytes_bytes s
    simp only [bytesSV] at ih ⊢
    simp only [List.map_cons, svBytes, ih, Int.toNat_natCast]
    simp

def cgHeadL : List UInt8 := [35, 115, 117, 98, 115, 121, 115, 95, 110, 97, 109, 101, 9, 104, 105, 101, 114, 97, 114, 99, 104, 121, 9, 110, 117, 109, 95, 99, 103, 114, 111, 117, 112, 115, 9, 101, 110, 97, 98, 108, 101, 100]

theorem cgHead_eq : cgHead = cgHeadL ++ [10] := rfl

theorem cgRead_spec {s : List UInt8} {rs : List RowD} (h : cgRead s = some rs) : (∀ r ∈ rs, cgOk r = true) ∧ cgHead ++ (rs.map cgLine).flatten = s ∧ ∀ c ∈ s, plainC c = true := by
  unfold cgRead at h
  split at h
  · simp at h
  · split at h
    · split at h <;> simp only [Option.some.injEq, reduceCtorEq] at h
      rename_i hc
      subst h
      exact ⟨fun r hr => List.all_eq_true.1 hc.2.1 r hr, hc.2.2, fun c hcs => List.all_eq_true.1 hc.1 c hcs⟩
    · simp at h

theorem mem_flat_len {l : List (List UInt8)} {x : List UInt8} (h : x ∈ l) : x.length ≤ l.flatten.length := by
  induction l with
  | nil => simp at h
  | cons y l ih =>
    simp only [List.flatten_cons, List.length_append]
    rcases List.mem_cons.1 h with rfl | h
    · omega
    · have := ih h; omega

theorem cgRead_len {s : List UInt8} {rs : List RowD} (h : cgRead s = some rs) : rs.length ≤ s.length ∧ (rs.map cgLine).flatten.length ≤ s.length ∧ ∀ r ∈ rs, (cgBody r).length < s.length := by
  obtain ⟨h1, h2, h3⟩ := cgRead_spec h
  have hl := congrArg List.length h2
  simp only [List.length_append] at hl
  refine ⟨?_, by omega, fun r hr => ?_⟩
  · have : ∀ (l : List RowD), l.length ≤ (l.map cgLine).flatten.length := by
      intro l
      induction l with
      | nil => simp
      | cons r l ih => simp only [List.map_cons, List.flatten_cons, List.length_append, List.length_cons, cgLine_eq, List.length_nil]; omega
    have := this rs
    omega
  · have := mem_flat_len (List.mem_map_of_mem (f := cgLine) hr)
    rw [cgLine_eq] at this
    simp only [List.length_append, List.length_cons, List.length_nil] at this
    omega

def cgRows (rs : List RowD) : List SV := rs.map fun r => .agg (cgVal r)

noncomputable def F116 : List SV → Option AV
  | [.sl bs] => match svBytes bs with
    | some s => match cgRead s with
      | some rs => onlyIf (s.length ≤ 40000 ∧ bs = bytesSV s) (some (.sv (.tup [.sl (cgRows rs), .nilI])))
      | none => none
    | none => none
  | _ => none

theorem F116_eq {s : List UInt8} {rs : List RowD} (hr : cgRead s = some rs) (hs : s.length ≤ 40000) : F116 [.sl (bytesSV s)] = some (.sv (.tup [.sl (cgRows rs), .nilI])) := by
  unfold F116
  simp only [svBytes_bytes, hr]
  exact onlyIf_pos ⟨hs, trivial⟩

noncomputable def F69 : List SV → Option AV
  | [.agg [.str s]] => match cgRead s with
    | some rs => onlyIf (s.length ≤ 40000) (some (.sv (.tup [.sl (cgRows rs), .nilI])))
    | none => none
  | _ => none

end Go.Ev

set_option linter.unusedSimpArgs false
set_option linter.unusedVariables false
namespace Go.Ev
open Go.Proofs

def cgSum (n w : List UInt8) (a b c : Int) : SV := nodeV n 8 false 0 0 0 [] [nodeV [83, 117, 98, 115, 121, 115, 78, 97, 109, 101] 5 false 0 0 0 w [], nodeV [72, 105, 101, 114, 97, 114, 99, 104, 121] 2 false a 0 0 [] [], nodeV [67, 103, 114, 111, 117, 112, 115] 2 false b 0 0 [] [], nodeV [69, 110, 97, 98, 108, 101, 100] 2 false c 0 0 [] []]

def F73 : List SV → Option AV
  | [.str n, .agg [.str w, .int .i64 a, .int .i64 b, .int .i64 c]] => some (.sv (cgSum n w a b c))
  | _ => none

def F72 : List SV → Option AV
  | [.agg [.str w, .int .i64 a, .int .i64 b, .int .i64 c]] => some (.sv (cgSum [] w a b c))
  | _ => none

theorem cgOk_val {r : RowD} (h : cgOk r = true) : F72 [.agg (cgVal r)] = some (.sv (cgNode r)) ∧ ∃ a b c d, cgVal r = [a, b, c, d] := by
  obtain ⟨c, cs, x, y, z, e1, e2, e3, e4, e5, hx, hy, hz⟩ := cgOk_spec h
  obtain ⟨name, N, S⟩ := r
  simp only at e4
  subst e4
  exact ⟨rfl, _, _, _, _, rfl⟩

end Go.Ev

set_option linter.unusedSimpArgs false
set_option linter.unusedVariables false
namespace Go.Ev
open Go.Proofs

def uncg : SV → RowD
  | .agg (.str w :: ns) => ⟨w, ns.map unint, []⟩
  | _ => ⟨[], [], []⟩

theorem uncgs : ∀ {rs : List RowD}, (∀ r ∈ rs, cgOk r = true) → (cgRows rs).map uncg = rs
  | [], _ => rfl
  | r :: rs, h => by
    have ih := uncgs (rs := rs) (fun q hq => h q (by simp [hq]))
    simp only [cgRows, List.map_cons] at ih ⊢
    rw [ih]
    obtain ⟨_, _, x, y, z, _, _, _, e4, e5, _⟩ := cgOk_spec (h r (by simp))
    obtain ⟨name, N, S⟩ := r
    simp only at e4 e5
    subst e4; subst e5
    simp [cgVal, uncg, unint]

noncomputable def F70 : List SV → Option AV
  | [.sl l] => onlyIf (l = cgRows (l.map uncg) ∧ (∀ r ∈ l.map uncg, cgOk r = true) ∧ l.length < 1000000000) (some (.sv (cgTree (l.map uncg))))
  | _ => none

theorem F70_eq {rs : List RowD} (h : ∀ r ∈ rs, cgOk r = true) (hl : rs.length < 1000000000) : F70 [.sl (cgRows rs)] = some (.sv (cgTree rs)) := by
  unfold F70
  simp only [uncgs h]
  exact onlyIf_pos ⟨trivial, h, by simpa [cgRows] using hl⟩

theorem F69_eq {s : List UInt8} {rs : List RowD} (hr : cgRead s = some rs) (hs : s.length ≤ 40000) : F69 [.agg [.str s]] = some (.sv (.tup [.sl (cgRows rs), .nilI])) := by
  unfold F69
  simp only [hr]
  exact onlyIf_pos hs

noncomputable def F24 : List SV → Option AV
  | [.str s] => match cgRead s with
    | some rs => onlyIf (s.length ≤ 40000) (some (.sv (.tup [cgTree rs, .int .i64 0])))
    | none => none
  | _ => none

theorem F24_eq {s : List UInt8} {rs : List RowD} (hr : cgRead s = some rs) (hs : s.length ≤ 40000) : F24 [.str s] = some (.sv (.tup [cgTree rs, .int .i64 0])) := by
  unfold F24
  simp only [hr]
  exact onlyIf_pos hs

theorem cgRead_fit {s : List UInt8} {rs : List RowD} (hr : cgRead s = some rs) (hs : s.length ≤ 40000) : rowsFit rs ∧ rs.length ≤ 40000 := by
  obtain ⟨l1, l2, l3⟩ := cgRead_len hr
  unfold cgRead at hr
  split at hr
  · simp at hr
  · rename_i f ls hl
    split at hr
    · rename_i rs' htab
      split at hr <;> simp only [Option.some.injEq, reduceCtorEq] at hr
      subst hr
      obtain ⟨_, k1, k2⟩ := linesV_shape s
      rw [hl] at k1 k2
      obtain ⟨q1, q2, q3⟩ := tabV_fit (B := 40000) (by omega) htab (fun x hx => by have := k2 x (by simp [hx]); omega)
      refine ⟨⟨by omega, q2, ?_⟩, by omega⟩
      have : rs'.length * (40000 + 64) ≤ 40000 * 40064 := Nat.mul_le_mul (by omega) (by omega)
      omega
    · simp at hr

end Go.Ev

set_option linter.unusedSimpArgs false
set_option linter.unusedVariables false
namespace Go.Ev
open Go.Proofs

noncomputable def F27 : List SV → Option AV
  | [v] => onlyIf (IsNode v) (some (.sv v))
  | _ => none

noncomputable def F26 : List SV → Option AV
  | [v, w] => onlyIf (IsNode v ∧ v = w) (some (.sv (.bool true)))
  | _ => none

def F25 : List SV → Option AV
  | [] => some (.sv (.bool true))
  | _ => none

theorem size_kid {kids : List SV} {v : SV} (h : v ∈ kids) (name : List UInt8) (kind : Int) (b : Bool) (i u : Int) (f : Nat) (s : List UInt8) : SizeOf.sizeOf v < SizeOf.sizeOf (nodeV name kind b i u f s kids) := by
  have := List.sizeOf_lt_of_mem h
  simp [nodeV]
  omega

noncomputable def size27 : List SV → Nat
  | v :: _ => SizeOf.sizeOf v
  | [] => 0

theorem pure27 {P : Program} {E : Env} (hm : P.follows .mixedOrders = true) (hT : CodeT P E) (hQ : QuietOK P E) (hP : PureOK P E) (h : E.code 40 = some c27) : PureFn P E 40 F27 := by
  refine PureFn.of_rec size27 hm hT hQ hP fun m vs r hF hs => ?_
  match vs, hF with
  | [v], hF =>
    obtain ⟨hn, hr⟩ := onlyIf_some hF
    simp only [Option.some.injEq] at hr
    subst hr
    cases hn with
    | mk name kind b i u f s kids hl hk =>
      refine ⟨kids.length + 1, _, ev27 (E.add 40 (fun us => if size27 us < m then F27 us else none)) h (fun us => if size27 us < m then F27 us else none) (by simp [Env.add]) name kind b i u f s kids hl (fun v hv => ⟨hk v hv, ?_⟩) _ (by omega), .inl rfl⟩
      have := size_kid hv name kind b i u f s
      have h3 : size27 [v] < m := by simp only [size27] at hs ⊢; omega
      show (if size27 [v] < m then F27 [v] else none) = _
      rw [if_pos h3]
      exact onlyIf_pos (hk v hv)

theorem pure26 {P : Program} {E : Env} (hm : P.follows .mixedOrders = true) (hT : CodeT P E) (hQ : QuietOK P E) (hP : PureOK P E) (h : E.code 39 = some c26) (h75 : E.pure 105 = some F75) : PureFn P E 39 F26 := by
  refine PureFn.of_rec size27 hm hT hQ hP fun m vs r hF hs => ?_
  match vs, hF with
  | [v, w], hF =>
    obtain ⟨⟨hn, rfl⟩, hr⟩ := onlyIf_some hF
    simp only [Option.some.injEq] at hr
    subst hr
    cases hn with
    | mk name kind b i u f s kids hl hk =>
      refine ⟨kids.length + 1, _, ev26 (E.add 39 (fun us => if size27 us < m then F26 us else none)) h (fun us => if size27 us < m then F26 us else none) (by simp [Env.add]) (by simp [Env.add, h75]) name kind b i u f s kids hl (fun v hv => ⟨hk v hv, ?_⟩) _ (by omega), .inl rfl⟩
      have := size_kid hv name kind b i u f s
      have h3 : size27 [v, v] < m := by simp only [size27] at hs ⊢; omega
      show (if size27 [v, v] < m then F26 [v, v] else none) = _
      rw [if_pos h3]
      exact onlyIf_pos ⟨hk v hv, rfl⟩

theorem ev9_long (E : Env) (h : E.code 15 = some c9) (w t d : Nat) (s : List UInt8) (hs : 40000 < s.length) (n : Nat) : evP E n 15 [.str s, .fn w [] [], .fn t [] [], .fn d [] []] = some (.sv (.bool true)) := by
  unfold evP
  simp only [h]
  have e : (40000 : Int) < (s.length : Int) := by omega
  simp [c9, List.replicate, e]

theorem ev9_open (E : Env) (h : E.code 15 = some c9) (w t d : Nat) (Fw : List SV → Option AV) (hw : E.pure w = some Fw) (h25 : E.pure 38 = some F25) (s : List UInt8) (hs : s.length ≤ 40000)
    (hF : Fw [.str s] = some (.sv (.tup [.sl [], .bool false, .int .i64 2]))) (n : Nat) : evP E n 15 [.str s, .fn w [] [], .fn t [] [], .fn d [] []] = some (.sv (.bool true)) := by
  unfold evP
  simp only [h]
  have e : ¬ (40000 : Int) < (s.length : Int) := by omega
  simp [c9, List.replicate, e, hw, hF, h25, F25]

set_option maxHeartbeats 1000000 in
theorem ev9_yes (E : Env) (h : E.code 15 = some c9) (w t d : Nat) (Fw Ft Fd : List SV → Option AV) (hw : E.pure w = some Fw) (ht : E.pure t = some Ft) (hd : E.pure d = some Fd) (h25 : E.pure 38 = some F25) (h26 : E.pure 39 = some F26) (h27 : E.pure 40 = some F27) (s : List UInt8) (hs : s.length ≤ 40000) (rows : List SV) (T : SV) (hT : IsNode T)
    (hFw : Fw [.str s] = some (.sv (.tup [.sl rows, .bool true, .int .i64 1]))) (hFt : Ft [.sl rows] = some (.sv (.tup [T, .int .i64 1]))) (hFd : Fd [.str s] = some (.sv (.tup [T, .int .i64 0]))) (n : Nat) :
    evP E n 15 [.str s, .fn w [] [], .fn t [] [], .fn d [] []] = some (.sv (.bool true)) := by
  unfold evP
  simp only [h]
  have e : ¬ (40000 : Int) < (s.length : Int) := by omega
  have hF27 : F27 [T] = some (.sv T) := onlyIf_pos hT
  have hF26 : F26 [T, T] = some (.sv (.bool true)) := onlyIf_pos ⟨hT, rfl⟩
  cases hT with
  | mk name kind b i u f s0 kids hl hk =>
    simp only [nodeV] at hFt hFd hF27 hF26
    simp [c9, List.replicate, e, hw, hFw, hd, hFd, ht, hFt, h27, hF27, h26, hF26, h25, F25]

theorem cgTree_node {rs : List RowD} (h : ∀ r ∈ rs, cgOk r = true) (hl : rs.length < 1000000000) : IsNode (cgTree rs) := by
  refine .mk _ _ _ _ _ _ _ _ (by simpa using hl) fun k hk => ?_
  obtain ⟨r, hr, rfl⟩ := List.mem_map.1 hk
  obtain ⟨_, _, x, y, z, _, _, _, e4, _⟩ := cgOk_spec (h r hr)
  obtain ⟨name, N, S⟩ := r
  simp only at e4
  subst e4
  refine .mk _ _ _ _ _ _ _ _ (by simp) fun k hk => ?_
  simp only [List.mem_cons, List.not_mem_nil, or_false] at hk
  rcases hk with rfl | rfl | rfl | rfl <;> exact .mk _ _ _ _ _ _ _ _ (by simp) (by simp)

noncomputable def F23 : List SV → Option AV
  | [.sl l] => onlyIf (l = rowsSV (l.map unrow) ∧ rowsFit (l.map unrow) ∧ l.length < 1000000000 ∧ (l.map unrow).all cgOk = true) (some (.sv (.tup [cgTree (l.map unrow), .int .i64 1])))
  | _ => none

theorem F23_eq (l : List RowD) (h : rowsFit l) (hl : l.length < 1000000000) (ho : l.all cgOk = true) : F23 [.sl (rowsSV l)] = some (.sv (.tup [cgTree l, .int .i64 1])) := by
  unfold F23
  simp only [unrows]
  exact onlyIf_pos ⟨trivial, h, by simpa [rowsSV] using hl, ho⟩

theorem F22_eq (s : List UInt8) (hs : s.length ≤ 40000) : F22 [.str s] = some (.sv (.tup (match cgRead s with | some rs => [.sl (rowsSV rs), .bool true, .int .i64 1] | none => [.sl [], .bool false, .int .i64 2]))) := onlyIf_pos hs

def F8 : List SV → Option AV
  | [.str s] => some (.sv (.bool true))
  | _ => none

end Go.Ev

set_option linter.unusedSimpArgs false
set_option linter.unusedVariables false
namespace Go.Ev
open Go.Proofs

/-- A text's lines; cur: what of a line came before. -/
def lineG (cur : List UInt8) : List UInt8 → List (List UInt8)
  | [] => if cur = [] then [] else [cur]
  | c :: cs => if c.toNat = 10 then cur :: lineG [] cs else lineG (cur ++ [c]) cs

def lineEnd (s : List UInt8) (p : Nat × List SV) : List SV := if p.1 < s.length then p.2 ++ [.str (s.drop p.1)] else p.2

theorem lineEnd_pos {s : List UInt8} {p : Nat} {acc : List SV} (h : p < s.length) : lineEnd s (p, acc) = acc ++ [.str (s.drop p)] := if_pos h
theorem lineEnd_neg {s : List UInt8} {p : Nat} {acc : List SV} (h : ¬ p < s.length) : lineEnd s (p, acc) = acc := if_neg h

theorem lineK_eq (s : List UInt8) : ∀ (rest pre cur : List UInt8) (acc : List SV), s = pre ++ cur ++ rest →
    lineEnd s (lineK s (pre ++ cur).length rest (pre.length, acc)) = acc ++ strs (lineG cur rest)
  | [], pre, cur, acc, h => by
    simp only [List.append_nil] at h
    simp only [lineK, lineG]
    by_cases hc : cur = []
    · subst hc
      rw [lineEnd_neg (by rw [h]; simp)]; simp [strs]
    · have hl : pre.length < s.length := by
        rw [h]; cases cur with
        | nil => exact absurd rfl hc
        | cons _ _ => simp
      rw [lineEnd_pos hl, if_neg hc, h, List.drop_left]; simp [strs]
  | c :: rest, pre, cur, acc, h => by
    simp only [lineK, lineG]
    by_cases h10 : c.toNat = 10
    · rw [if_pos h10, if_pos h10]
      have hsub : (s.take (pre ++ cur).length).drop pre.length = cur := by rw [h, List.take_left, List.drop_left]
      rw [hsub]
      have := lineK_eq s rest (pre ++ cur ++ [c]) [] (acc ++ [.str cur]) (by rw [h]; simp)
      simp only [List.append_nil] at this
      rw [show (pre ++ cur ++ [c]).length = (pre ++ cur).length + 1 from by simp; omega] at this
      rw [this]; simp [strs]
    · rw [if_neg h10, if_neg h10]
      have := lineK_eq s rest pre (cur ++ [c]) acc (by rw [h]; simp)
      rw [show (pre ++ (cur ++ [c])).length = (pre ++ cur).length + 1 from by simp; omega] at this
      exact this

theorem linesL_eq (s : List UInt8) : linesL s = lineG [] s := by
  have h := lineK_eq s s [] [] [] rfl
  simp only [List.nil_append, List.length_nil] at h
  have e : linesV s = lineEnd s (lineK s 0 s (0, [])) := rfl
  unfold linesL
  rw [e, h, unstrs]

/-- A line's fields; cur: what of a field came before. -/
def fieldG (cur : List UInt8) : List UInt8 → List (List UInt8)
  | [] => if cur = [] then [] else [cur]
  | c :: cs => if blankC c then (if cur = [] then fieldG [] cs else cur :: fieldG [] cs) else fieldG (cur ++ [c]) cs

def fieldEnd (s : List UInt8) (p : Option Nat × List SV) : List SV := match p.1 with
  | some f => p.2 ++ [.str (s.drop f)]
  | none => p.2

theorem fieldK_eq (s : List UInt8) : ∀ (rest pre cur : List UInt8) (acc : List SV), s = pre ++ cur ++ rest →
    fieldEnd s (fieldK s (pre ++ cur).length rest (if cur = [] then none else some pre.length, acc)) = acc ++ strs (fieldG cur rest)
  | [], pre, cur, acc, h => by
    simp only [List.append_nil] at h
    simp only [fieldK, fieldG, fieldEnd]
    by_cases hc : cur = []
    · subst hc
      simp [strs]
    · simp only [if_neg hc]
      rw [h, List.drop_left]; simp [strs]
  | c :: rest, pre, cur, acc, h => by
    have hpl : (pre ++ cur ++ [c]).length = (pre ++ cur).length + 1 := by simp; omega
    have hpl2 : (pre ++ (cur ++ [c])).length = (pre ++ cur).length + 1 := by simp; omega
    simp only [fieldK, fieldG]
    cases hb : blankC c with
    | true =>
      by_cases hc : cur = []
      · subst hc
        have := fieldK_eq s rest (pre ++ [] ++ [c]) [] acc (by rw [h]; simp)
        simp only [if_true, List.append_nil] at this
        simp only [if_true, List.append_nil]
        rw [show (pre ++ [c]).length = pre.length + 1 from by simp] at this
        exact this
      · simp only [if_neg hc, if_true]
        have hsub : (s.take (pre ++ cur).length).drop pre.length = cur := by rw [h, List.take_left, List.drop_left]
        rw [hsub]
        have := fieldK_eq s rest (pre ++ cur ++ [c]) [] (acc ++ [.str cur]) (by rw [h]; simp)
        simp only [if_true, List.append_nil] at this
        rw [hpl] at this
        rw [this]; simp [strs]
    | false =>
      by_cases hc : cur = []
      · subst hc
        have := fieldK_eq s rest pre [c] acc (by rw [h]; simp)
        simp only [List.append_nil, if_true, Bool.false_eq_true, if_false, List.nil_append]
        rw [if_neg (by simp), show (pre ++ [c]).length = pre.length + 1 from by simp] at this
        exact this
      · have := fieldK_eq s rest pre (cur ++ [c]) acc (by rw [h]; simp)
        simp only [if_neg hc, Bool.false_eq_true, if_false]
        rw [if_neg (by simp), hpl2] at this
        exact this

theorem fieldsL_eq (s : List UInt8) : fieldsL s = fieldG [] s := by
  have h := fieldK_eq s s [] [] [] rfl
  simp only [List.nil_append, List.length_nil, if_true] at h
  have e : fieldsV s = fieldEnd s (fieldK s 0 s (none, [])) := rfl
  unfold fieldsL
  rw [e, h, unstrs]

theorem fieldG_words : ∀ (s cur : List UInt8), (∀ c ∈ s, plainC c = true ∧ c.toNat ≠ 10) → fieldG cur s = wordsG cur s
  | [], cur, _ => rfl
  | c :: s, cur, h => by
    obtain ⟨h1, h2⟩ := h c (by simp)
    have hb : blankC c = spC c := by
      simp only [plainC, Bool.and_eq_true, Bool.or_eq_true, decide_eq_true_eq, beq_iff_eq] at h1
      rw [Bool.eq_iff_iff]
      simp [blankC, spC]; omega
    have ih := fun cur => fieldG_words s cur (fun x hx => h x (by simp [hx]))
    simp only [fieldG, wordsG, hb, ih]

/-- The words that the library finds in a plain line are the reference's fields. -/
theorem words_fields {s : List UInt8} (h : ∀ c ∈ s, plainC c = true ∧ c.toNat ≠ 10) : wordsG [] s = fieldsL s := by
  rw [fieldsL_eq, fieldG_words s [] h]

theorem lineG_no {cur : List UInt8} : ∀ (line rest : List UInt8), (∀ c ∈ line, c.toNat ≠ 10) → ∀ cur, lineG cur (line ++ rest) = lineG (cur ++ line) rest
  | [], rest, _, cur => by simp
  | c :: line, rest, h, cur => by
    simp only [List.cons_append, lineG]
    rw [if_neg (h c (by simp)), lineG_no (cur := cur) line rest (fun x hx => h x (by simp [hx]))]
    simp

/-- A text that is not empty: its first line, and what comes behind. -/
theorem line_cases (s : List UInt8) : s = [] ∨ ∃ line rest, (∀ c ∈ line, c.toNat ≠ 10) ∧ lineG [] s = line :: lineG [] rest ∧ ((s = line ++ 10 :: rest) ∨ (s = line ∧ rest = [] ∧ line ≠ [])) := by
  have key : ∀ (s cur : List UInt8), (∃ line rest, (∀ c ∈ line, c.toNat ≠ 10) ∧ s = line ++ 10 :: rest) ∨ ∀ c ∈ s, c.toNat ≠ 10 := by
    intro s cur
    induction s with
    | nil => exact .inr (by simp)
    | cons c s ih =>
      by_cases h : c.toNat = 10
      · refine .inl ⟨[], s, by simp, ?_⟩
        have : c = 10 := UInt8.toNat_inj.1 (by rw [h]; rfl)
        rw [this]; rfl
      · rcases ih with ⟨line, rest, h1, h2⟩ | h1
        · refine .inl ⟨c :: line, rest, fun x hx => ?_, by rw [h2]; rfl⟩
          rcases List.mem_cons.1 hx with rfl | hx
          · exact h
          · exact h1 x hx
        · refine .inr fun x hx => ?_
          rcases List.mem_cons.1 hx with rfl | hx
          · exact h
          · exact h1 x hx
  by_cases hs : s = []
  · exact .inl hs
  · right
    rcases key s [] with ⟨line, rest, h1, h2⟩ | h1
    · refine ⟨line, rest, h1, ?_, .inl h2⟩
      rw [h2, lineG_no (cur := []) line _ h1]
      simp [lineG]
    · refine ⟨s, [], h1, ?_, .inr ⟨rfl, rfl, hs⟩⟩
      have := lineG_no (cur := []) s [] h1 []
      simp only [List.append_nil, List.nil_append] at this
      rw [this]; simp [lineG, hs]

/-- A scanner's step at a last line without a line feed. -/
theorem loop88n (E : Env) (cf : CallF) (i : Nat) (bx : List Box) (left : List UInt8) (m : Nat) (hb : bx[i]? = some (scanBox left [])) :
    ∀ (rest pre : List UInt8) (k : Nat), left = pre ++ rest → left.length < 9223372036854775807 → (∀ c ∈ rest, c.toNat ≠ 10) → rest.length < k →
      rounds (evC E cf m b88_0) k { tm := [.ptr i 0, .sv .undef, .sv .undef, .sv (.int .i64 pre.length)] ++ List.replicate 104 (.sv .undef), lz := none, bx := bx, df := [] } =
        some (.exit 0, { tm := [.ptr i 0, .sv .undef, .sv .undef, .sv (.int .i64 (pre ++ rest).length)] ++ List.replicate 104 (.sv .undef), lz := none, bx := bx, df := [] }) := by
  simp only [scanBox] at hb
  intro rest
  induction rest with
  | nil =>
    intro pre k hsp hl hr hk
    obtain ⟨k, rfl⟩ : ∃ k', k = k' + 1 := ⟨k - 1, by omega⟩
    have hlt : ¬ pre.length < left.length := by rw [hsp]; simp
    refine rounds_out ?_ (by simp)
    simp [b88_0, List.replicate, hb, hlt]
  | cons c rest ih =>
    intro pre k hsp hl hr hk
    obtain ⟨k, rfl⟩ : ∃ k', k = k' + 1 := ⟨k - 1, by omega⟩
    have hlt : pre.length < left.length := by rw [hsp]; simp
    have hc : ∀ h : pre.length < left.length, left[pre.length]'h = c := by subst hsp; simp
    have hne : ¬ (c.toNat : Int) = 10 := by have := hr c (by simp); omega
    have hneb : ((c.toNat : Int) == 10) = false := by simpa using hne
    have hnec : ((c.toNat : Int) != 10) = true := by simpa using hne
    have hw2 : IntKind.i64.wrap ((pre.length : Int) + 1) = ((pre ++ [c]).length : Int) := by rw [IntKind.wrap_i64]; simp; omega
    have := ih (pre ++ [c]) k (by rw [hsp]; simp) hl (fun x hx => hr x (by simp [hx])) (by simp at hk; omega)
    rw [show pre ++ [c] ++ rest = pre ++ c :: rest from by simp] at this
    rw [← this]
    refine rounds_step ?_
    simp [b88_0, List.replicate, hb, hlt, hc, hne, hneb, hnec, hw2]

theorem scan88n (E : Env) (h : E.code 117 = some c88) (i : Nat) (bx : List Box) (line t : List UInt8) (hb : bx[i]? = some (scanBox line t)) (hne : line ≠ []) (hl : line.length < 65536) (hr : ∀ c ∈ line, c.toNat ≠ 10 ∧ c.toNat ≠ 13) (n : Nat) (hn : line.length < n) :
    evF E (n + 1) 117 [.ptr i 0] bx = some (.sv (.bool true), bx.set i (scanBox [] line)) := by
  have hil : i < bx.length := (List.getElem?_eq_some_iff.1 hb).1
  have hb1 : (bx.set i (scanBox line []))[i]? = some (scanBox line []) := by simp [hil]
  have he := loop88n E (evF E n) i (bx.set i (scanBox line [])) line n hb1 line [] n rfl (by omega) (fun c hc => (hr c hc).1) hn
  simp only [scanBox, List.replicate, List.cons_append, List.nil_append, List.length_nil, Int.ofNat_zero, Int.natCast_zero] at he hb
  have hbi : ∀ h : i < bx.length, bx[i]'h = .live [.sv (.str line), .sv (.str t), .sv (.int .i64 65536), .sv .nilI] := fun h => by
    rw [List.getElem?_eq_getElem h] at hb; exact Option.some.inj hb
  have g1 : ¬ (65536 : Int) ≤ (line.length : Int) := by omega
  have ht : List.take line.length line = line := List.take_length
  have hd : List.drop line.length line = [] := List.drop_length
  simp only [evF, h]
  have hpos : 0 < line.length := by
    cases line with
    | nil => exact absurd rfl hne
    | cons x xs => simp
  have hposI : (0 : Int) < (line.length : Int) := by omega
  have wm : IntKind.i64.wrap ((line.length : Int) - 1) = ((line.length - 1 : Nat) : Int) := by rw [IntKind.wrap_i64]; omega
  have hlt1 : line.length - 1 < line.length := by omega
  have hlast := (hr (line[line.length - 1]'hlt1) (List.getElem_mem hlt1)).2
  have hl13 : ¬ ((line[line.length - 1]'hlt1).toNat : Int) = 13 := by omega
  have hl13b : (((line[line.length - 1]'hlt1).toNat : Int) == 13) = false := by simpa using hl13
  simp [c88, List.replicate, hbi, hil, he, scanBox, g1, ht, hd, hpos, hposI, wm, hlt1, hl13, hl13b, hne]

end Go.Ev

set_option linter.unusedSimpArgs false
set_option linter.unusedVariables false
namespace Go.Ev
open Go.Proofs

/-- A text with blanks behind. -/
def leftS (s : List UInt8) (n : Nat) : List UInt8 := s ++ List.replicate (n - s.length) 32

theorem leftS_step {s : List UInt8} {n : Nat} (h : s.length < n) : leftS (s ++ [32]) n = leftS s n := by
  obtain ⟨d, hd⟩ : ∃ d, n - s.length = d + 1 := ⟨n - s.length - 1, by omega⟩
  have : n - (s ++ [32]).length = d := by simp; omega
  unfold leftS
  rw [this, hd, List.replicate_succ]; simp

theorem leftS_done {s : List UInt8} {n : Nat} (h : ¬ s.length < n) : leftS s n = s := by
  unfold leftS
  rw [show n - s.length = 0 from by omega]; simp

theorem leftS_len (s : List UInt8) (n : Nat) : (leftS s n).length ≤ s.length + n := by unfold leftS; rw [List.length_append, List.length_replicate]; omega

noncomputable def F44 : List SV → Option AV
  | [.str s, .int .i64 n] => onlyIf (0 ≤ n ∧ n < 1000000 ∧ s.length < 100000000000) (some (.sv (.str (leftS s n.toNat))))
  | _ => none

theorem F44_eq (s : List UInt8) (n : Nat) (hn : n < 1000000) (hs : s.length < 100000000000) : F44 [.str s, .int .i64 n] = some (.sv (.str (leftS s n))) := by
  show onlyIf _ (some (AV.sv (.str (leftS s (n : Int).toNat)))) = _
  rw [onlyIf_pos ⟨by omega, by omega, hs⟩]; simp

theorem F45_eq (m : Nat) (hm : m < 18446744073709551616) : F45 [.int .u64 (m : Int)] = some (.sv (.str (decS m))) := by
  show onlyIf _ (some (AV.sv (.str (decS (m : Int).toNat)))) = _
  rw [onlyIf_pos ⟨by omega, by omega⟩]; simp

/-- A number with a sign, as it is written. -/
def sdecS (n : Int) : List UInt8 := if n < 0 then 45 :: decS (-n).toNat else decS n.toNat

theorem sdecS_len {n : Int} (h1 : -9223372036854775808 ≤ n) (h2 : n < 9223372036854775808) : (sdecS n).length ≤ 21 := by
  unfold sdecS
  split
  · have := decS_len20 (n := (-n).toNat) (by omega)
    simp; omega
  · have := decS_len20 (n := n.toNat) (by omega)
    omega

theorem ev58 (E : Env) (h : E.code 68 = some c58) (h45 : E.pure 58 = some F45) (n : Int) (h1 : -9223372036854775808 ≤ n) (h2 : n < 9223372036854775808) (k : Nat) : evP E k 68 [.int .i64 n] = some (.sv (.str (sdecS n))) := by
  unfold evP
  simp only [h]
  by_cases hn : n < 0
  · obtain ⟨m, hm⟩ : ∃ m : Nat, (-n).toNat = m := ⟨_, rfl⟩
    have hm1 : n = -(m : Int) := by omega
    have w1 : IntKind.i64.wrap (n + 1) = n + 1 := by rw [IntKind.wrap_i64]; omega
    have w2 : IntKind.i64.wrap (0 - (n + 1)) = -(n + 1) := by rw [IntKind.wrap_i64]; omega
    have w3 : IntKind.u64.wrap (-(n + 1)) = -(n + 1) := by rw [IntKind.wrap_u64]; omega
    have w4 : IntKind.u64.wrap (-(n + 1) + 1) = (m : Int) := by rw [IntKind.wrap_u64]; omega
    have hF := F45_eq m (by omega)
    have hl := decS_len20 (n := m) (by omega)
    have hl2 : 1 + (decS m).length < 4611686018427387904 := by omega
    have hl3 : (decS m).length + 1 < 4611686018427387904 := by omega
    have hs : sdecS n = 45 :: decS m := by unfold sdecS; rw [if_pos hn, hm]
    rw [hs]
    simp only [Int.zero_sub] at w2
    simp [c58, List.replicate, hn, w1, w2, w3, w4, h45, hF, hl2, hl3]
  · obtain ⟨m, rfl⟩ := Int.eq_ofNat_of_zero_le (show 0 ≤ n by omega)
    have w3 : IntKind.u64.wrap (m : Int) = (m : Int) := by rw [IntKind.wrap_u64]; omega
    have hF := F45_eq m (by omega)
    have hs : sdecS (m : Int) = decS m := by unfold sdecS; rw [if_neg hn]; simp
    rw [hs]
    simp [c58, List.replicate, hn, w3, h45, hF]

noncomputable def F58 : List SV → Option AV
  | [.int .i64 n] => onlyIf (-9223372036854775808 ≤ n ∧ n < 9223372036854775808) (some (.sv (.str (sdecS n))))
  | _ => none

theorem ev30 (E : Env) (h : E.code 43 = some c30) (n : Nat) (s w : List UInt8) : evP E n 43 [.str s, .str w] = some (.sv (.bool (decide (w.length ≤ s.length) && (s.take w.length == w)))) := by
  unfold evP
  simp only [h]
  by_cases h1 : w.length ≤ s.length
  · simp [c30, h1, List.replicate]
  · simp [c30, h1, List.replicate]

def F30 : List SV → Option AV
  | [.str s, .str w] => some (.sv (.bool (decide (w.length ≤ s.length) && (s.take w.length == w))))
  | _ => none

def isWord (s : List UInt8) : Bool := s.all wordC && !(s == [])

noncomputable def F56 : List SV → Option AV
  | [.sl l] => onlyIf (l = strs (l.map unstr) ∧ l.length < 1000000000000 ∧ ∀ s ∈ l.map unstr, s.length < 100000000000) (some (.sv (.bool ((l.map unstr).all isWord))))
  | _ => none

theorem F56_eq (l : List (List UInt8)) (hl : l.length < 1000000000000) (hs : ∀ s ∈ l, s.length < 100000000000) : F56 [.sl (strs l)] = some (.sv (.bool (l.all isWord))) := by
  unfold F56
  simp only [unstrs]
  exact onlyIf_pos ⟨trivial, by rw [strs_length]; exact hl, hs⟩

end Go.Ev

set_option linter.unusedSimpArgs false
set_option linter.unusedVariables false
namespace Go.Ev
open Go.Proofs

/-- What the reference reads of a text with a minus ahead: how much below nought. -/
def negV (t : List UInt8) : Option Nat := match numV 10 0 t with
  | some m => if m > 9223372036854775808 ∨ t = [] then none else some m
  | none => none

def twoC (m : Nat) : Nat := (18446744073709551616 - m) % 18446744073709551616

def wholeV (s : List UInt8) : Option Nat := match s with
  | [] => none
  | c :: t => if c.toNat = 45 then (match negV t with
      | some m => some (twoC m)
      | none => none) else numV 10 0 (c :: t)

def wholesV : List (List UInt8) → Option (List Nat)
  | [] => some []
  | s :: l => match wholeV s with
    | some m => match wholesV l with
      | some ms => some (m :: ms)
      | none => none
    | none => none

theorem F81_eq (s : List UInt8) (hs : s.length < 9223372036854775807) : F81 [.str s] = some (.sv (.tup (match numV 10 0 s with | some m => [.int .u64 m, .bool (!(s == []))] | none => [.int .u64 0, .bool false]))) := onlyIf_pos hs

theorem ev112 (E : Env) (h : E.code 82 = some c112) (h30 : E.pure 43 = some F30) (h81 : E.pure 109 = some F81) (c : UInt8) (hc : c.toNat = 45) (t : List UInt8) (ht : t.length < 100000000000) (k : Nat) :
    evP E k 82 [.str (c :: t)] = some (.sv (.tup (match negV t with | some m => [.int .i64 (-(m : Int)), .bool true] | none => match numV 10 0 t with | some m => if m > 9223372036854775808 then [.int .i64 0, .bool false] else [.int .i64 0, .bool false] | none => [.int .i64 0, .bool false]))) := by
  have hF81 := F81_eq t (by omega)
  have hc8 : c = 45 := UInt8.toNat_inj.1 (by rw [hc]; rfl)
  subst hc8
  have hF30 : F30 [.str (45 :: t), .str [45]] = some (.sv (.bool true)) := by simp [F30]
  have ht1 : List.take t.length t = t := List.take_length
  have b1 : (0 : Int) ≤ (t.length : Int) + 1 := by omega
  have b2 : (1 : Int) ≤ ((t.length + 1 : Nat) : Int) := by omega
  have b3 : (1 : Int) ≤ (t.length : Int) + 1 := by omega
  unfold evP
  simp only [h]
  unfold negV
  cases hn : numV 10 0 t with
  | none =>
    rw [hn] at hF81
    have w1 : IntKind.i64.wrap 0 = 0 := by rw [IntKind.wrap_i64]; omega
    simp [c112, List.replicate, h30, hF30, h81, hF81, ht1, b1, b2, b3, w1]
  | some m =>
    rw [hn] at hF81
    have hm := numV_lt (by omega) t 0 m (by omega) hn
    by_cases hgt : m > 9223372036854775808
    · have hgtI : (9223372036854775808 : Int) < (m : Int) := by omega
      have hgt' : 9223372036854775808 < m := hgt
      simp [c112, List.replicate, h30, hF30, h81, hF81, ht1, b1, b2, b3, hgtI, hgt']
    · have hgtI : ¬ (9223372036854775808 : Int) < (m : Int) := by omega
      have hgt' : ¬ 9223372036854775808 < m := hgt
      have w1 : IntKind.i64.wrap (0 - IntKind.i64.wrap (m : Int)) = -(m : Int) := by rw [IntKind.wrap_i64, IntKind.wrap_i64]; omega
      simp only [Int.zero_sub] at w1
      by_cases hte : t = []
      · subst hte
        simp [numV] at hn
        subst hn
        have w0 : IntKind.i64.wrap 0 = 0 := by rw [IntKind.wrap_i64]; omega
        simp [c112, List.replicate, h30, hF30, h81, hF81, ht1, b1, b2, b3, w0]
      · have hteb : (t == []) = false := by simpa using hte
        simp [c112, List.replicate, h30, hF30, h81, hF81, ht1, b1, b2, b3, hgtI, hgt', w1, hte, hteb]

noncomputable def F112 : List SV → Option AV
  | [.str (c :: t)] => onlyIf (c.toNat = 45 ∧ t.length < 100000000000) (some (.sv (.tup (match negV t with | some m => [.int .i64 (-(m : Int)), .bool true] | none => [.int .i64 0, .bool false]))))
  | _ => none

theorem negV_le {t : List UInt8} {m : Nat} (h : negV t = some m) : m ≤ 9223372036854775808 := by
  unfold negV at h
  split at h <;> try (simp at h; done)
  split at h <;> simp only [Option.some.injEq, reduceCtorEq] at h
  omega

noncomputable def F53 : List SV → Option AV
  | [.sl l] => onlyIf (l = strs (l.map unstr) ∧ l.length < 1000000000000 ∧ ∀ s ∈ l.map unstr, s.length < 100000000000) (some (.sv (.tup (match wholesV (l.map unstr) with | some ms => [.sl (u64s ms), .bool true] | none => [.sl [], .bool false]))))
  | _ => none

theorem F53_eq (l : List (List UInt8)) (hs : l.length < 1000000000000) (hr : ∀ s ∈ l, s.length < 100000000000) : F53 [.sl (strs l)] = some (.sv (.tup (match wholesV l with | some ms => [.sl (u64s ms), .bool true] | none => [.sl [], .bool false]))) := by
  unfold F53
  simp only [unstrs]
  exact onlyIf_pos ⟨trivial, by rw [strs_length]; exact hs, hr⟩

end Go.Ev


set_option linter.unusedSimpArgs false
set_option linter.unusedVariables false
namespace Go.Ev
open Go.Proofs

theorem digN_ge : ∀ (s : List UInt8) (a : Nat), a ≤ digN a s
  | [], a => by rw [digN_nil]; exact Nat.le_refl _
  | c :: s, a => by
    rw [digN_cons]
    have := digN_ge s (a * 10 + dgt c)
    omega

set_option maxRecDepth 100000 in
theorem loop125 (E : Env) (cf : CallF) (s0 s : List UInt8) (hs : s.length < 1000000000000) (m : Nat) :
    ∀ (rest pre : List UInt8) (a k : Nat), s = pre ++ rest → (∀ c ∈ rest, digC c = true) → digN a rest < 18446744073709551616 → rest.length < k →
      rounds (evC E cf m b125_0) k { tm := [.sv .undef, .sv (.int .i64 10)] ++ List.replicate 6 (.sv .undef) ++ [.sv (.bool false), .sv (.str s0), .sv (.int .u64 1844674407370955162), .sv (.int .u64 18446744073709551615), .sv (.bool false), .sv (.int .u64 a)] ++ List.replicate 85 (.sv .undef) ++ [.sv (.sl (bytesSV s)), .sv (.int .i64 s.length), .sv (.int .i64 pre.length)] ++ List.replicate 70 (.sv .undef), lz := none, bx := [], df := [] } =
        some (.exit 3, { tm := List.replicate 9 (.sv .undef) ++ [.sv (.str s0), .sv .undef, .sv .undef, .sv (.bool false), .sv (.int .u64 (digN a rest : Nat))] ++ List.replicate 158 (.sv .undef), lz := none, bx := [], df := [] }) := by
  intro rest
  induction rest with
  | nil =>
    intro pre a k hsp hr ha hk
    obtain ⟨k, rfl⟩ : ∃ k', k = k' + 1 := ⟨k - 1, by omega⟩
    have hlt : ¬ (pre.length < s.length) := by rw [hsp]; simp
    refine rounds_out ?_ (by simp)
    simp [b125_0, List.replicate, hlt, digN_nil]
  | cons c rest ih =>
    intro pre a k hsp hr ha hk
    obtain ⟨k, rfl⟩ : ∃ k', k = k' + 1 := ⟨k - 1, by omega⟩
    have hlt : pre.length < s.length := by rw [hsp]; simp
    have hsl := congrArg List.length hsp
    simp only [List.length_append, List.length_cons] at hsl
    have hc : ∀ h : pre.length < (bytesSV s).length, (bytesSV s)[pre.length]'h = .int .u8 (c.toNat : Int) := by subst hsp; simp [bytesSV]
    have hw2 : IntKind.i64.wrap ((pre.length : Int) + 1) = ((pre ++ [c]).length : Int) := by rw [IntKind.wrap_i64]; simp; omega
    obtain ⟨d1, d2⟩ := digC_iff.1 (hr c (by simp))
    have hs8 : IntKind.u8.wrap ((c.toNat : Int) - 48) = ((dgt c : Nat) : Int) := by rw [IntKind.wrap_u8]; unfold dgt; omega
    have hd9 : dgt c ≤ 9 := by unfold dgt; omega
    have c1 : ((c.toNat : Int) == 95) = false := by rw [Bool.eq_false_iff]; simp; omega
    have c2 : (48 : Int) ≤ (c.toNat : Int) := by omega
    have c3 : (c.toNat : Int) ≤ 57 := by omega
    rw [digN_cons] at ha ⊢
    have hge := digN_ge rest (a * 10 + dgt c)
    generalize dgt c = d at *
    have h10 : ¬ (10 : Int) ≤ (d : Int) := by omega
    have hcut : ¬ (1844674407370955162 : Int) ≤ (a : Int) := by omega
    have hw8 : IntKind.u8.wrap 10 = 10 := by rw [IntKind.wrap_u8]; omega
    have hw64 : IntKind.u64.wrap 10 = 10 := by rw [IntKind.wrap_u64]; omega
    have hw3 : IntKind.u64.wrap (d : Int) = (d : Int) := by rw [IntKind.wrap_u64]; omega
    have hw4 : IntKind.u64.wrap ((a : Int) * 10) = ((a * 10 : Nat) : Int) := by rw [IntKind.wrap_u64]; omega
    have hw5 : IntKind.u64.wrap (((a * 10 : Nat) : Int) + (d : Int)) = ((a * 10 + d : Nat) : Int) := by rw [IntKind.wrap_u64]; omega
    have q1 : ¬ (((a * 10 + d : Nat) : Int) < ((a * 10 : Nat) : Int)) := by omega
    have q2 : ¬ ((18446744073709551615 : Int) < ((a * 10 + d : Nat) : Int)) := by omega
    have he := ih (pre ++ [c]) (a * 10 + d) k (by rw [hsp]; simp) (fun x hx => hr x (by simp [hx])) ha (by simp at hk; omega)
    rw [← he]
    refine rounds_step ?_
    generalize (a * 10 + d) = a2 at *
    generalize (a * 10) = a1 at *
    simp [b125_0, List.replicate, hlt, bytesSV_length, hc, hs8, c1, c2, c3, h10, hcut, hw8, hw64, hw2, hw3, hw4, hw5, q1, q2]

set_option maxRecDepth 100000 in
theorem ev125 (E : Env) (h : E.code 190 = some c125) (s : List UInt8) (hs : s.length < 1000000000000) (hne : s ≠ []) (hd : ∀ c ∈ s, digC c = true) (hv : digN 0 s < 18446744073709551616) (n : Nat) (hn : s.length < n) :
    evP E n 190 [.str s, .int .i64 10, .int .i64 0] = some (.sv (.tup [.int .u64 (digN 0 s : Nat), .nilI])) := by
  unfold evP
  simp only [h]
  have hl := loop125 E (evF E n) s s hs n s [] 0 n rfl hd hv hn
  simp only [List.replicate, List.cons_append, List.nil_append, List.length_nil, Int.ofNat_zero, Int.natCast_zero] at hl
  have hsh : IntKind.u64.wrap (IntKind.u64.wrap (2 ^ min 64 IntKind.u64.bits) - 1) = 18446744073709551615 := by decide
  have hsh0 : IntKind.u64.wrap 64 = 64 := by decide
  generalize digN 0 s = v at *
  simp [c125, List.replicate, hne, hsh, hsh0, bytesSV_length, hl]

noncomputable def F125 : List SV → Option AV
  | [.str s, .int .i64 b, .int .i64 z] => onlyIf (b = 10 ∧ z = 0 ∧ s.length < 1000000000000 ∧ s ≠ [] ∧ (∀ c ∈ s, digC c = true) ∧ digN 0 s < 18446744073709551616) (some (.sv (.tup [.int .u64 (digN 0 s : Nat), .nilI])))
  | _ => none

end Go.Ev

set_option linter.unusedSimpArgs false
set_option linter.unusedVariables false
namespace Go.Ev
open Go.Proofs

open Classical in
/-- A whole number of 64 bits, perhaps with a minus ahead: its first sign, and what comes behind. -/
noncomputable def atoiC (c : UInt8) (t : List UInt8) : Option Int := if c.toNat = 45 then (if t ≠ [] ∧ (∀ d ∈ t, digC d = true) ∧ digN 0 t ≤ 9223372036854775808 then some (-(digN 0 t : Nat)) else none)
    else if (∀ d ∈ c :: t, digC d = true) ∧ digN 0 (c :: t) < 9223372036854775808 then some (digN 0 (c :: t) : Nat) else none

/-- A whole number of 64 bits, perhaps with a minus ahead. -/
noncomputable def atoiV (s : List UInt8) : Option Int := match s with
  | [] => none
  | c :: t => atoiC c t

theorem atoiV_cons (c : UInt8) (t : List UInt8) : atoiV (c :: t) = atoiC c t := rfl

theorem atoiV_cases {s : List UInt8} {v : Int} (h : atoiV s = some v) :
    (∃ t, s = 45 :: t ∧ t ≠ [] ∧ (∀ d ∈ t, digC d = true) ∧ digN 0 t ≤ 9223372036854775808 ∧ v = -(digN 0 t : Nat)) ∨
    (s ≠ [] ∧ (∀ d ∈ s, digC d = true) ∧ digN 0 s < 9223372036854775808 ∧ v = (digN 0 s : Nat)) := by
  cases s with
  | nil => simp [atoiV] at h
  | cons c t =>
    rw [atoiV_cons] at h
    unfold atoiC at h
    split at h
    · rename_i hc
      split at h <;> simp only [Option.some.injEq, reduceCtorEq] at h
      rename_i hh
      have : c = 45 := UInt8.toNat_inj.1 (by rw [hc]; rfl)
      subst this
      exact .inl ⟨t, rfl, hh.1, hh.2.1, hh.2.2, h.symm⟩
    · split at h <;> simp only [Option.some.injEq, reduceCtorEq] at h
      rename_i hh
      exact .inr ⟨by simp, hh.1, hh.2, h.symm⟩

theorem atoiV_sdec {n : Int} (h1 : -9223372036854775808 ≤ n) (h2 : n < 9223372036854775808) : atoiV (sdecS n) = some n := by
  unfold sdecS
  by_cases hn : n < 0
  · rw [if_pos hn]
    obtain ⟨e1, e2, e3⟩ := decS_dig (-n).toNat
    rw [atoiV_cons]
    unfold atoiC
    rw [if_pos (show (45 : UInt8).toNat = 45 from rfl), if_pos ⟨e3, e2, by rw [e1]; omega⟩, e1]
    congr 1; omega
  · rw [if_neg hn]
    obtain ⟨e1, e2, e3⟩ := decS_dig n.toNat
    cases hs : decS n.toNat with
    | nil => exact absurd hs e3
    | cons c t =>
      rw [hs] at e1 e2
      rw [atoiV_cons]
      unfold atoiC
      have hc := digC_iff.1 (e2 c (by simp))
      rw [if_neg (by omega), if_pos ⟨e2, by rw [e1]; omega⟩, e1]
      congr 1; omega

theorem F125_eq {s : List UInt8} (hs : s.length < 1000000000000) (hne : s ≠ []) (hd : ∀ c ∈ s, digC c = true) (hv : digN 0 s < 18446744073709551616) : F125 [.str s, .int .i64 10, .int .i64 0] = some (.sv (.tup [.int .u64 (digN 0 s : Nat), .nilI])) := onlyIf_pos ⟨rfl, rfl, hs, hne, hd, hv⟩

set_option maxRecDepth 100000 in
theorem ev154 (E : Env) (h : E.code 219 = some c154) (h125 : E.pure 190 = some F125) (s : List UInt8) (v : Int) (hv : atoiV s = some v) (hs : s.length < 1000000000000) (n : Nat) :
    evP E n 219 [.str s, .int .i64 10, .int .i64 0] = some (.sv (.tup [.int .i64 v, .nilI])) := by
  unfold evP
  simp only [h]
  have hsh : IntKind.u64.wrap (2 ^ min 63 IntKind.u64.bits) = 9223372036854775808 := by decide
  have hw63 : IntKind.i64.wrap 63 = 63 := by decide
  have hw63u : IntKind.u64.wrap 63 = 63 := by decide
  rcases atoiV_cases hv with ⟨t, rfl, h1, h2, h3, rfl⟩ | ⟨h1, h2, h3, rfl⟩
  · have hF := F125_eq (s := t) (by simp at hs; omega) h1 h2 (by omega)
    have b1 : (0 : Int) ≤ (t.length : Int) + 1 := by omega
    have b2 : (1 : Int) ≤ ((t.length + 1 : Nat) : Int) := by omega
    have b3 : (1 : Int) ≤ (t.length : Int) + 1 := by omega
    have ht1 : List.take t.length t = t := List.take_length
    generalize digN 0 t = d at *
    have q1 : ¬ (9223372036854775808 : Int) < (d : Int) := by omega
    have w1 : IntKind.i64.wrap (0 - IntKind.i64.wrap (d : Int)) = -(d : Int) := by rw [IntKind.wrap_i64, IntKind.wrap_i64]; omega
    simp only [Int.zero_sub] at w1
    simp [c154, List.replicate, h125, hF, b1, b2, b3, ht1, hsh, hw63, hw63u, q1, w1]
  · have hF := F125_eq hs h1 h2 (by omega)
    cases s with
    | nil => exact absurd rfl h1
    | cons c t =>
      have hc := digC_iff.1 (h2 c (by simp))
      have e1 : ((c.toNat : Int) == 43) = false := by rw [Bool.eq_false_iff]; simp; omega
      have e2 : ((c.toNat : Int) == 45) = false := by rw [Bool.eq_false_iff]; simp; omega
      have b3 : (0 : Int) < (t.length : Int) + 1 := by omega
      have b4 : (0 : Int) ≤ (t.length : Int) + 1 := by omega
      generalize digN 0 (c :: t) = d at *
      have q1 : ¬ (9223372036854775808 : Int) ≤ (d : Int) := by omega
      have w1 : IntKind.i64.wrap (d : Int) = (d : Int) := by rw [IntKind.wrap_i64]; omega
      simp [c154, List.replicate, h125, hF, e1, e2, b3, b4, hsh, hw63, hw63u, q1, w1]

noncomputable def F154 : List SV → Option AV
  | [.str s, .int .i64 b, .int .i64 z] => match atoiV s with
    | some v => onlyIf (b = 10 ∧ z = 0 ∧ s.length < 1000000000000) (some (.sv (.tup [.int .i64 v, .nilI])))
    | none => none
  | _ => none

theorem F154_eq {s : List UInt8} {v : Int} (hv : atoiV s = some v) (hs : s.length < 1000000000000) : F154 [.str s, .int .i64 10, .int .i64 0] = some (.sv (.tup [.int .i64 v, .nilI])) := by
  unfold F154
  simp only [hv]
  exact onlyIf_pos ⟨trivial, trivial, hs⟩

theorem ev149s (E : Env) (h : E.code 210 = some c149) (h154 : E.pure 219 = some F154) (s : List UInt8) (v : Int) (hv : atoiV s = some v) (hs : s.length < 1000000000000) (n : Nat) (hn : s.length < n) :
    evP E n 210 [.str s] = some (.sv (.tup [.int .i64 v, .nilI])) := by
  have hF := F154_eq hv hs
  unfold evP
  simp only [h]
  by_cases hl : s.length < 19
  · rcases atoiV_cases hv with ⟨t, rfl, h1, h2, h3, rfl⟩ | ⟨h1, h2, h3, rfl⟩
    · simp only [List.length_cons] at hl hn
      have hl1 := loop149 E (evF E n) (45 :: t) t (by omega) n t [] 0 n rfl h2 (by simp) (by omega)
      have b1 : (0 : Int) ≤ (t.length : Int) + 1 := by omega
      have b2 : (1 : Int) ≤ ((t.length + 1 : Nat) : Int) := by omega
      have b3 : (1 : Int) ≤ (t.length : Int) + 1 := by omega
      have b4 : (0 : Int) < (t.length : Int) + 1 := by omega
      have b5 : (t.length : Int) + 1 < 19 := by omega
      have b6 : ¬ (t.length : Int) < 1 := by
        cases t with
        | nil => exact absurd rfl h1
        | cons _ _ => simp; omega
      have ht1 : List.take t.length t = t := List.take_length
      simp only [List.replicate, List.cons_append, List.nil_append, List.length_nil, Int.ofNat_zero, Int.natCast_zero] at hl1
      generalize digN 0 t = d at *
      have w1 : IntKind.i64.wrap (0 - (d : Int)) = -(d : Int) := by rw [IntKind.wrap_i64]; omega
      simp only [Int.zero_sub] at w1
      by_cases h10 : (t.length : Int) + 1 < 10
      · simp [c149, List.replicate, b1, b2, b3, b4, b5, b6, h10, ht1, bytesSV_length, hl1, w1]
      · simp [c149, List.replicate, b1, b2, b3, b4, b5, b6, h10, ht1, bytesSV_length, hl1, w1]
    · have := ev149 E h s hl h1 h2 n hn
      unfold evP at this
      simp only [h] at this
      exact this
  · have b5 : ¬ (s.length : Int) < 19 := by omega
    have b6 : ¬ (s.length : Int) < 10 := by omega
    have b7 : (0 : Int) < (s.length : Int) := by omega
    have b8 : 0 < s.length := by omega
    simp [c149, List.replicate, b5, b6, b7, b8, h154, hF]

noncomputable def F149s : List SV → Option AV
  | [.str s] => match atoiV s with
    | some v => onlyIf (s.length < 1000000000000) (some (.sv (.tup [.int .i64 v, .nilI])))
    | none => none
  | _ => none

theorem F149s_eq {s : List UInt8} {v : Int} (hv : atoiV s = some v) (hs : s.length < 1000000000000) : F149s [.str s] = some (.sv (.tup [.int .i64 v, .nilI])) := by
  unfold F149s
  simp only [hv]
  exact onlyIf_pos hs

theorem ev143s (E : Env) (h : E.code 194 = some c143) (h149 : E.pure 210 = some F149s) (s : List UInt8) (v : Int) (hv : atoiV s = some v) (hs : s.length < 1000000000000) (n : Nat) :
    evP E n 194 [.str s] = some (.sv (.tup [.int .i64 v, .nilI])) := by
  unfold evP
  simp only [h]
  have hF := F149s_eq hv hs
  simp [c143, List.replicate, h149, hF]

end Go.Ev

set_option linter.unusedSimpArgs false
set_option linter.unusedVariables false
namespace Go.Ev
open Go.Proofs

/-- What the form can say of one row of swaps. -/
def swOk (r : RowD) : Bool := match r.N, r.S with
  | [a, b, _], [s] => isWord r.name && isWord s && (decide (a < 4611686018427387904) && decide (b < 4611686018427387904))
  | _, _ => false

def i64 (n : Nat) : Int := IntKind.i64.wrap (n : Int)

theorem i64_range (n : Nat) : -9223372036854775808 ≤ i64 n ∧ i64 n < 9223372036854775808 := by unfold i64; rw [IntKind.wrap_i64]; omega

def swLine (r : RowD) : List UInt8 := match r.N, r.S with
  | [a, b, c], [s] => leftS r.name 39 ++ [32] ++ leftS s 15 ++ [32] ++ decS a ++ [9] ++ decS b ++ [9] ++ sdecS (i64 c) ++ [10]
  | _, _ => []

def swHead : List UInt8 := [70, 105, 108, 101, 110, 97, 109, 101, 9, 9, 9, 9, 84, 121, 112, 101, 9, 9, 83, 105, 122, 101, 9, 85, 115, 101, 100, 9, 80, 114, 105, 111, 114, 105, 116, 121, 10]

theorem swOk_spec {r : RowD} (h : swOk r = true) : ∃ a b c s, r.N = [a, b, c] ∧ r.S = [s] ∧ isWord r.name = true ∧ isWord s = true ∧ a < 4611686018427387904 ∧ b < 4611686018427387904 := by
  obtain ⟨name, N, S⟩ := r
  unfold swOk at h
  split at h
  · rename_i a b c s hN hS
    simp only [Bool.and_eq_true, decide_eq_true_eq] at h
    exact ⟨a, b, c, s, hN, hS, h.1.1, h.1.2, h.2.1, h.2.2⟩
  · cases h

end Go.Ev

set_option linter.unusedSimpArgs false
set_option linter.unusedVariables false
namespace Go.Ev
open Go.Proofs

/-- Rows as a program can hold them, their words too. -/
def RowD.fits2 (r : RowD) : Prop := r.name.length < 1000000000 ∧ r.N.length < 100000000000 ∧ (∀ n ∈ r.N, n < 18446744073709551616) ∧ r.S.length < 1000000000 ∧ ∀ s ∈ r.S, s.length < 1000000000

theorem swLine_len (r : RowD) (hr : r.fits2) (h : swOk r = true) : (swLine r).length ≤ 2000000200 := by
  obtain ⟨a, b, c, s, e1, e2, _⟩ := swOk_spec h
  obtain ⟨name, N, S⟩ := r
  simp only at e1 e2
  subst e1; subst e2
  obtain ⟨g1, _, g3, _, g5⟩ := hr
  have l1 := leftS_len name 39
  have l2 := leftS_len s 15
  have l3 := decS_len20 (g3 a (by simp))
  have l4 := decS_len20 (g3 b (by simp))
  obtain ⟨r1, r2⟩ := i64_range c
  have l5 := sdecS_len r1 r2
  have g1' : name.length < 1000000000 := g1
  have g5' : s.length < 1000000000 := g5 s (by simp)
  simp only [swLine, List.length_append, List.length_cons, List.length_nil]
  omega

def rowsFit2 (l : List RowD) : Prop := l.length < 100000000 ∧ ∀ r ∈ l, r.fits2

noncomputable def F19 : List SV → Option AV
  | [.sl l] => onlyIf (l = rowsSV (l.map unrow) ∧ rowsFit2 (l.map unrow)) (some (.sv (.tup (if (l.map unrow).all swOk = true then [.str (swHead ++ ((l.map unrow).map swLine).flatten), .int .i64 1] else [.str [], .int .i64 2]))))
  | _ => none

theorem F19_eq (l : List RowD) (h : rowsFit2 l) : F19 [.sl (rowsSV l)] = some (.sv (.tup (if l.all swOk = true then [.str (swHead ++ (l.map swLine).flatten), .int .i64 1] else [.str [], .int .i64 2]))) := by
  unfold F19
  simp only [unrows]
  exact onlyIf_pos ⟨trivial, h⟩

/-! ### Texts alike but for blanks -/

theorem joinS_len {b : List UInt8} (l : List (List UInt8)) : (joinS b l).length ≤ (l.map List.length).sum + l.length * b.length := by
  have h1 : ∀ (l : List (List UInt8)), (l.map fun y => b ++ y).flatten.length = (l.map List.length).sum + l.length * b.length := by
    intro l
    induction l with
    | nil => simp
    | cons y l ih => simp only [List.map_cons, List.flatten_cons, List.length_append, List.length_cons, List.sum_cons, Nat.add_mul, ih]; omega
  cases l with
  | nil => simp [joinS]
  | cons x l =>
    simp only [joinS, List.length_append, List.map_cons, List.sum_cons, List.length_cons, Nat.add_mul, h1]
    omega

theorem fieldG_sum : ∀ (s cur : List UInt8), ((fieldG cur s).map List.length).sum ≤ cur.length + s.length
  | [], cur => by simp only [fieldG]; split <;> simp
  | c :: s, cur => by
    have h1 := fieldG_sum s []
    have h2 := fieldG_sum s (cur ++ [c])
    simp only [List.length_append, List.length_cons, List.length_nil] at h1 h2
    simp only [fieldG, List.length_cons]
    split
    · split
      · omega
      · simp only [List.map_cons, List.sum_cons]; omega
    · omega

/-- A line's fields with single blanks between. -/
def normL (s : List UInt8) : List UInt8 := joinS [32] (fieldsL s)

theorem F122_fields (s : List UInt8) (hs : s.length < 100000000000) : F122 [.sl (strs (fieldsL s)), .str [32]] = some (.sv (.str (normL s))) := by
  obtain ⟨_, k1, k2⟩ := fieldsV_shape s
  refine F122_eq (fieldsL s) [32] (by omega) ?_
  have h1 := joinS_len (b := [32]) (fieldsL s)
  have h2 := fieldG_sum s []
  rw [← fieldsL_eq] at h2
  simp only [List.length_cons, List.length_nil] at h1 h2
  omega

open Classical in
noncomputable def looseV (a b : List UInt8) : Bool := if (linesL a).map normL = (linesL b).map normL then true else false

end Go.Ev

set_option linter.unusedSimpArgs false
set_option linter.unusedVariables false
namespace Go.Ev
open Go.Proofs

def lastB (s : List UInt8) : Nat := (s.getLastD 0).toNat

def badL (s : List UInt8) : Bool := s == [] || lastB s == 32 || lastB s == 9

theorem last_get {s : List UInt8} (h : s ≠ []) (h1 : s.length - 1 < s.length) : (s[s.length - 1]'h1).toNat = lastB s := by
  unfold lastB
  cases s with
  | nil => exact absurd rfl h
  | cons c t =>
    have : (c :: t).getLastD 0 = (c :: t).getLast (by simp) := by simp [List.getLastD, List.getLast?_eq_some_getLast]
    rw [this, List.getLast_eq_getElem]

def leadsV (text : List UInt8) : Bool := (linesL text).all (fun s => !badL s) && (text == [] || lastB text == 10)

noncomputable def F79 : List SV → Option AV
  | [.str a, .str b] => onlyIf (a.length < 100000000000 ∧ b.length < 100000000000) (some (.sv (.bool (looseV a b))))
  | _ => none

noncomputable def F80 : List SV → Option AV
  | [.str a] => onlyIf (a.length < 100000000000) (some (.sv (.bool (leadsV a))))
  | _ => none

end Go.Ev
