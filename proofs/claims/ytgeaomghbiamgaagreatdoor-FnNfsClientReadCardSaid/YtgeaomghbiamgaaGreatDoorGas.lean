/- A scanner at the end. -/
/- strings.Fields: the words of a text of ASCII. -/
/- strings.Fields, whole. -/
/- strings.Fields of a text of ASCII. -/
/- Atoi of short decimal numbers. -/
/- One line of cgroups. -/
/- The rows of cgroups, read by the program. -/
/- The rows of cgroups, read by the program, whole. -/
/- The door of cgroups: trees of its rows. -/
/- The door of cgroups, whole. -/
/- The law's frame: read. -/
/- Lines and fields of any text, by recursion; a scanner over any text. -/
/- Texts padded, signed numbers, words. -/
/- Whole numbers, perhaps with a sign, as two's complements. -/
/- Atoi of numbers with a sign, of 64 bits. -/
/- Atoi, whole. -/
/- What is written of rows of swaps. -/
/- What is written of rows of swaps, whole; texts alike but for blanks. -/
/- The reading of swaps. -/
/- The reading of swaps: meant, where blanks do not count. -/
/- The reading of swaps, whole; their tree. -/
/- The plain law of swaps: what the reference reads the program can read. -/
/- The rows of swaps, read by the program. -/
/- The door of swaps. -/
/- What is written of swaps is read again; the law's frame: normal. -/
/- Reading of counters with names: numbers, sameness of names. -/
/- Counters of transformations: what is fine, what a text says. -/
/- Counters of transformations: the reference's reading. -/
/- Counters of transformations: the tree and the text. -/
/- Counters of transformations: their text. -/
/- Counters of transformations: the program's reading, whole. -/
/- Counters of transformations: what is written is read, and the laws. -/
/- Rows of an argument: what fits. -/
/- What is written is read as its tree: the law. -/
/- The table of functions, entry by entry: numbers, texts, lists. -/
/- The table of functions, entry by entry: swaps. -/
/- Entries of the counters of transformations. -/
/- The seat's tables; the sanity check by evaluation; what the listed variables hold. -/
/- Environments entry by entry. -/
/- Entries of the counters of transformations: what is written is read. -/
/- Tables of sockets: parts of a text, hexadecimal numbers, padding. -/
/- Tables of sockets: what is written, and what the reference reads. -/
import Derived.Test.YtgeaomghbiamgaaGreatDoorGar
import Derived.Test.YtgeaomghbiamgaaGreatDoorGap
import Derived.Test.YtgeaomghbiamgaaGreatDoorGak
import Derived.Test.YtgeaomghbiamgaaGreatDoorGam
import Derived.Test.YtgeaomghbiamgaaGreatDoorGao
import Derived.Test.YtgeaomghbiamgaaGreatDoorGaq
import Derived.Laws.Externs
set_option linter.unusedSimpArgs false
set_option linter.unusedVariables false
namespace Go.Ev
open Go.Proofs

theorem scan88e (E : Env) (h : E.code 75 = some c88) (i : Nat) (bx : List Box) (t : List UInt8) (hb : bx[i]? = some (scanBox [] t)) (n : Nat) :
    evF E (n + 1) 75 [.ptr i 0] bx = some (.sv (.bool false), bx.set i (scanBox [] [])) := by
  have hil : i < bx.length := (List.getElem?_eq_some_iff.1 hb).1
  simp only [scanBox] at hb
  have hbi : ∀ h : i < bx.length, bx[i]'h = .live [.sv (.str []), .sv (.str t), .sv (.int .i64 65536), .sv .nilI] := fun h => by
    rw [List.getElem?_eq_getElem h] at hb; exact Option.some.inj hb
  simp only [evF, h]
  simp [c88, List.replicate, hbi, hil, scanBox]

end Go.Ev

set_option linter.unusedSimpArgs false
set_option linter.unusedVariables false
namespace Go.Ev
open Go.Proofs

def spC (c : UInt8) : Bool := (decide (9 ≤ c.toNat) && decide (c.toNat ≤ 13)) || c.toNat == 32

def spV (c : UInt8) : Nat := if spC c then 1 else 0

/-- The table of blanks. -/
def SpT (E : Env) : Prop := ∀ c : UInt8, c.toNat < 128 → (E.glob 1).drop c.toNat = .int .u8 (spV c : Nat) :: (E.glob 1).drop (c.toNat + 1)

/-- The words of a text; cur: what of a word came before. -/
def wordsG (cur : List UInt8) : List UInt8 → List (List UInt8)
  | [] => if cur = [] then [] else [cur]
  | c :: cs => if spC c then (if cur = [] then wordsG [] cs else cur :: wordsG [] cs) else wordsG (cur ++ [c]) cs

/-- How many words begin, where what was before was a blank or not. -/
def cntG (was : Bool) : List UInt8 → Nat
  | [] => 0
  | c :: cs => (if was && !spC c then 1 else 0) + cntG (spC c) cs

theorem cntG_len : ∀ (s cur : List UInt8), cntG (cur == []) s + (if cur = [] then 0 else 1) = (wordsG cur s).length
  | [], cur => by simp only [cntG, wordsG]; split <;> simp_all
  | c :: s, cur => by
    simp only [cntG, wordsG]
    cases hc : spC c with
    | true =>
      have := cntG_len s []
      by_cases h : cur = []
      · subst h; simp at this ⊢; omega
      · simp [h] at this ⊢; omega
    | false =>
      have := cntG_len s (cur ++ [c])
      have hb2 : (cur ++ [c] == []) = false := by simp
      have hb3 : ¬ (cur ++ [c] = []) := by simp
      rw [hb2, if_neg hb3] at this
      by_cases h : cur = []
      · subst h; simp at this ⊢; omega
      · have hb : (cur == []) = false := by simpa using h
        simp [h, hb] at this ⊢; omega

theorem spV_cases (c : UInt8) : (spC c = true ∧ spV c = 1) ∨ (spC c = false ∧ spV c = 0) := by
  unfold spV; cases spC c <;> simp

theorem loop127c (E : Env) (cf : CallF) (hT : SpT E) (s : List UInt8) (hs : s.length < 1000000000000) (m : Nat) :
    ∀ (rest pre : List UInt8) (n : Nat) (was : Bool) (bits : Nat) (k : Nat), s = pre ++ rest → (∀ c ∈ rest, c.toNat < 128) → n ≤ pre.length → bits < 128 → rest.length < k →
      ∃ bits' : Nat, bits' < 128 ∧ rounds (evC E cf m b127_3) k { tm := [.sv (.str s), .sv .undef, .sv .undef, .sv (.int .i64 n), .sv (.int .i64 (if was then 1 else 0)), .sv (.int .u8 bits), .sv (.int .i64 pre.length)] ++ List.replicate 99 (.sv .undef), lz := none, bx := [], df := [] } =
        some (.exit 0, { tm := [.sv (.str s), .sv .undef, .sv .undef, .sv (.int .i64 (n + cntG was rest : Nat)), .sv .undef, .sv (.int .u8 bits')] ++ List.replicate 100 (.sv .undef), lz := none, bx := [], df := [] }) := by
  intro rest
  induction rest with
  | nil =>
    intro pre n was bits k hsp hr hn hb hk
    obtain ⟨k, rfl⟩ : ∃ k', k = k' + 1 := ⟨k - 1, by omega⟩
    have hlt : ¬ (pre.length < s.length) := by rw [hsp]; simp
    exact ⟨bits, hb, by simp [rounds, b127_3, List.replicate, hlt, cntG]⟩
  | cons c rest ih =>
    intro pre n was bits k hsp hr hn hb hk
    obtain ⟨k, rfl⟩ : ∃ k', k = k' + 1 := ⟨k - 1, by omega⟩
    have hlt : pre.length < s.length := by rw [hsp]; simp
    have hc : ∀ h : pre.length < s.length, s[pre.length]'h = c := by subst hsp; simp
    have hw2 : IntKind.i64.wrap ((pre.length : Int) + 1) = ((pre ++ [c]).length : Int) := by rw [IntKind.wrap_i64]; simp; omega
    have hc8 := hr c (by simp)
    have hsp1 := hT c hc8
    have hor : IntKind.u8.wrap ((bits % 2 ^ IntKind.u8.bits ||| c.toNat % 2 ^ IntKind.u8.bits : Nat) : Int) = ((bits ||| c.toNat : Nat) : Int) := by
      have := Nat.or_lt_two_pow (n := 7) hb hc8
      rw [show IntKind.u8.bits = 8 from rfl, Nat.mod_eq_of_lt (by omega), Nat.mod_eq_of_lt (by omega), IntKind.wrap_u8]; omega
    have k0 : ∀ x : Int, x = 0 → IntKind.i64.wrap ((n : Int) + x) = n := by intro x hx; subst hx; rw [IntKind.wrap_i64]; omega
    have k1 : ∀ x : Int, x = 1 → IntKind.i64.wrap ((n : Int) + x) = (n : Int) + 1 := by intro x hx; subst hx; rw [IntKind.wrap_i64]; omega
    have hc256 : (c.toNat : Int) < 256 := by omega
    have hlo : bits ||| c.toNat < 128 := Nat.or_lt_two_pow (n := 7) hb hc8
    have hn1 : IntKind.i64.wrap ((n : Int) + 1) = ((n + 1 : Nat) : Int) := by rw [IntKind.wrap_i64]; omega
    have hn0 : IntKind.i64.wrap ((n : Int)) = (n : Int) := by rw [IntKind.wrap_i64]; omega
    have hwa1 : IntKind.i64.wrap 1 = 1 := by rw [IntKind.wrap_i64]; omega
    have hwa0 : IntKind.i64.wrap 0 = 0 := by rw [IntKind.wrap_i64]; omega
    rcases spV_cases c with ⟨h1, h2⟩ | ⟨h1, h2⟩
    · rw [h2] at hsp1
      obtain ⟨bits', hb', he⟩ := ih (pre ++ [c]) n true (bits ||| c.toNat) k (by rw [hsp]; simp) (fun x hx => hr x (by simp [hx])) (by simp; omega) hlo (by simp at hk; omega)
      refine ⟨bits', hb', ?_⟩
      have hcn : cntG was (c :: rest) = cntG true rest := by simp [cntG, h1]
      rw [hcn, ← he]
      refine rounds_step ?_
      cases was
      · simp [b127_3, List.replicate, hlt, hc, hc256, hsp1, hor, hw2, hwa1, hwa0, hn0]
      · simp [b127_3, List.replicate, hlt, hc, hc256, hsp1, hor, hw2, hwa1, hwa0, hn0]
        exact k0 _ (by decide)
    · rw [h2] at hsp1
      cases was with
      | true =>
        obtain ⟨bits', hb', he⟩ := ih (pre ++ [c]) (n + 1) false (bits ||| c.toNat) k (by rw [hsp]; simp) (fun x hx => hr x (by simp [hx])) (by simp; omega) hlo (by simp at hk; omega)
        refine ⟨bits', hb', ?_⟩
        have hcn : n + cntG true (c :: rest) = n + 1 + cntG false rest := by simp [cntG, h1]; omega
        rw [hcn, ← he]
        refine rounds_step ?_
        simp [b127_3, List.replicate, hlt, hc, hc256, hsp1, hor, hw2, hwa1, hwa0]
        exact k1 _ (by decide)
      | false =>
        obtain ⟨bits', hb', he⟩ := ih (pre ++ [c]) n false (bits ||| c.toNat) k (by rw [hsp]; simp) (fun x hx => hr x (by simp [hx])) (by simp; omega) hlo (by simp at hk; omega)
        refine ⟨bits', hb', ?_⟩
        have hcn : cntG false (c :: rest) = cntG false rest := by simp [cntG, h1]
        rw [hcn, ← he]
        refine rounds_step ?_
        simp [b127_3, List.replicate, hlt, hc, hc256, hsp1, hor, hw2, hwa1, hwa0, hn0]

end Go.Ev

set_option linter.unusedSimpArgs false
set_option linter.unusedVariables false
namespace Go.Ev
open Go.Proofs

def rowC (N : Nat) (ws : List (List UInt8)) : List Cell := ws.map (fun w => Cell.sv (.str w)) ++ List.replicate (N - ws.length) (Cell.sv (.str []))

theorem rowC_len {N : Nat} {ws : List (List UInt8)} (h : ws.length ≤ N) : (rowC N ws).length = N := by simp [rowC]; omega

theorem rowC_set {N : Nat} {ws : List (List UInt8)} (w : List UInt8) (h : ws.length < N) : (rowC N ws).set ws.length (.sv (.str w)) = rowC N (ws ++ [w]) := by
  obtain ⟨r, hr⟩ : ∃ r, N - ws.length = r + 1 := ⟨N - ws.length - 1, by omega⟩
  have hr2 : N - (ws ++ [w]).length = r := by simp; omega
  unfold rowC
  rw [hr, hr2, List.replicate_succ]
  simp

theorem loop127s (E : Env) (cf : CallF) (hT : SpT E) (s : List UInt8) (hs : s.length < 1000000000000) (m na N : Nat) (bx : List Box) :
    ∀ (rest pre : List UInt8) (k : Nat), s = pre ++ rest → (∀ c ∈ rest, c.toNat < 128) → rest.length < k →
      rounds (evC E cf m b127_2) k { tm := [.sv (.str s)] ++ List.replicate 8 (.sv .undef) ++ [.mrow 0 N 1, .sv (.int .i64 na), .sv .undef, .sv (.int .i64 pre.length)] ++ List.replicate 93 (.sv .undef), lz := none, bx := bx, df := [] } =
        some (.exit 2, { tm := [.sv (.str s)] ++ List.replicate 8 (.sv .undef) ++ [.mrow 0 N 1, .sv (.int .i64 na), .sv .undef, .sv (.int .i64 (pre ++ rest.takeWhile spC).length)] ++ List.replicate 93 (.sv .undef), lz := none, bx := bx, df := [] }) := by
  intro rest
  induction rest with
  | nil =>
    intro pre k hsp hr hk
    obtain ⟨k, rfl⟩ : ∃ k', k = k' + 1 := ⟨k - 1, by omega⟩
    have hlt : ¬ (pre.length < s.length) := by rw [hsp]; simp
    refine rounds_out ?_ (by simp)
    simp [b127_2, List.replicate, hlt]
  | cons c rest ih =>
    intro pre k hsp hr hk
    obtain ⟨k, rfl⟩ : ∃ k', k = k' + 1 := ⟨k - 1, by omega⟩
    have hlt : pre.length < s.length := by rw [hsp]; simp
    have hc : ∀ h : pre.length < s.length, s[pre.length]'h = c := by subst hsp; simp
    have hw2 : IntKind.i64.wrap ((pre.length : Int) + 1) = ((pre ++ [c]).length : Int) := by rw [IntKind.wrap_i64]; simp; omega
    have hc8 := hr c (by simp)
    have hsp1 := hT c hc8
    have hc256 : (c.toNat : Int) < 256 := by omega
    rcases spV_cases c with ⟨h1, h2⟩ | ⟨h1, h2⟩
    · rw [h2] at hsp1
      have he := ih (pre ++ [c]) k (by rw [hsp]; simp) (fun x hx => hr x (by simp [hx])) (by simp at hk; omega)
      rw [List.takeWhile_cons, h1, if_pos rfl, show pre ++ c :: rest.takeWhile spC = pre ++ [c] ++ rest.takeWhile spC from by simp, ← he]
      refine rounds_step ?_
      simp [b127_2, List.replicate, hlt, hc, hc256, hsp1, hw2]
    · rw [h2] at hsp1
      rw [List.takeWhile_cons, h1, if_neg (by simp)]
      refine rounds_out ?_ (by simp)
      simp [b127_2, List.replicate, hlt, hc, hc256, hsp1, hw2]

theorem loop127t (E : Env) (cf : CallF) (hT : SpT E) (s : List UInt8) (hs : s.length < 1000000000000) (m na N : Nat) (bx : List Box) :
    ∀ (rest pre : List UInt8) (k : Nat), s = pre ++ rest → (∀ c ∈ rest, c.toNat < 128) → rest.length < k →
      rounds (evC E cf m b127_0) k { tm := [.sv (.str s)] ++ List.replicate 8 (.sv .undef) ++ [.mrow 0 N 1, .sv (.int .i64 na), .sv .undef, .sv (.int .i64 pre.length)] ++ List.replicate 93 (.sv .undef), lz := none, bx := bx, df := [] } =
        some (.exit 6, { tm := [.sv (.str s)] ++ List.replicate 8 (.sv .undef) ++ [.mrow 0 N 1, .sv (.int .i64 na), .sv .undef, .sv (.int .i64 (pre ++ rest.takeWhile spC).length)] ++ List.replicate 93 (.sv .undef), lz := none, bx := bx, df := [] }) := by
  intro rest
  induction rest with
  | nil =>
    intro pre k hsp hr hk
    obtain ⟨k, rfl⟩ : ∃ k', k = k' + 1 := ⟨k - 1, by omega⟩
    have hlt : ¬ (pre.length < s.length) := by rw [hsp]; simp
    refine rounds_out ?_ (by simp)
    simp [b127_0, List.replicate, hlt]
  | cons c rest ih =>
    intro pre k hsp hr hk
    obtain ⟨k, rfl⟩ : ∃ k', k = k' + 1 := ⟨k - 1, by omega⟩
    have hlt : pre.length < s.length := by rw [hsp]; simp
    have hc : ∀ h : pre.length < s.length, s[pre.length]'h = c := by subst hsp; simp
    have hw2 : IntKind.i64.wrap ((pre.length : Int) + 1) = ((pre ++ [c]).length : Int) := by rw [IntKind.wrap_i64]; simp; omega
    have hc8 := hr c (by simp)
    have hsp1 := hT c hc8
    have hc256 : (c.toNat : Int) < 256 := by omega
    rcases spV_cases c with ⟨h1, h2⟩ | ⟨h1, h2⟩
    · rw [h2] at hsp1
      have he := ih (pre ++ [c]) k (by rw [hsp]; simp) (fun x hx => hr x (by simp [hx])) (by simp at hk; omega)
      rw [List.takeWhile_cons, h1, if_pos rfl, show pre ++ c :: rest.takeWhile spC = pre ++ [c] ++ rest.takeWhile spC from by simp, ← he]
      refine rounds_step ?_
      simp [b127_0, List.replicate, hlt, hc, hc256, hsp1, hw2]
    · rw [h2] at hsp1
      rw [List.takeWhile_cons, h1, if_neg (by simp)]
      refine rounds_out ?_ (by simp)
      simp [b127_0, List.replicate, hlt, hc, hc256, hsp1, hw2]

theorem wordsG_skip : ∀ (rest : List UInt8), wordsG [] rest = wordsG [] (rest.dropWhile spC)
  | [] => rfl
  | c :: rest => by
    rw [List.dropWhile_cons]
    cases h : spC c with
    | true => simp [wordsG, h]; exact wordsG_skip rest
    | false => simp

theorem drop_head (rest : List UInt8) : ∀ c cs, rest.dropWhile spC = c :: cs → spC c = false := by
  intro c cs h
  have := List.head?_dropWhile_not spC rest
  rw [h] at this
  simpa using this

theorem loop127w (E : Env) (cf : CallF) (hT : SpT E) (s : List UInt8) (hs : s.length < 1000000000000) (h8 : ∀ c ∈ s, c.toNat < 128) (m N : Nat) (hm : s.length < m) (hN0 : N < 1000000000000) :
    ∀ (n : Nat) (rest pre cur : List UInt8) (ws : List (List UInt8)) (k : Nat), rest.length ≤ n → s = pre ++ cur ++ rest → (cur = [] → ∀ c cs, rest = c :: cs → spC c = false) → ws.length + (wordsG cur rest).length ≤ N → rest.length < k →
      ∃ pre1 cur1 ws1, s = pre1 ++ cur1 ∧ ws1 ++ (if cur1 = [] then [] else [cur1]) = ws ++ wordsG cur rest ∧
      rounds (evC E cf m b127_1) k { tm := [.sv (.str s)] ++ List.replicate 8 (.sv .undef) ++ [.mrow 0 N 1, .sv (.int .i64 ws.length), .sv (.int .i64 pre.length), .sv (.int .i64 (pre ++ cur).length)] ++ List.replicate 93 (.sv .undef), lz := none, bx := [.live (rowC N ws)], df := [] } =
        some (.exit 4, { tm := [.sv (.str s)] ++ List.replicate 8 (.sv .undef) ++ [.mrow 0 N 1, .sv (.int .i64 ws1.length), .sv (.int .i64 pre1.length), .sv .undef] ++ List.replicate 93 (.sv .undef), lz := none, bx := [.live (rowC N ws1)], df := [] }) := by
  intro n
  induction n with
  | zero =>
    intro rest pre cur ws k hn hsp hcur hN hk
    obtain ⟨k, rfl⟩ : ∃ k', k = k' + 1 := ⟨k - 1, by omega⟩
    obtain rfl : rest = [] := List.eq_nil_of_length_eq_zero (by omega)
    refine ⟨pre, cur, ws, by simpa using hsp, by simp [wordsG], ?_⟩
    have hlt : ¬ ((pre ++ cur).length < s.length) := by rw [hsp]; simp
    refine rounds_out ?_ (by simp)
    generalize (pre ++ cur).length = pl at hlt
    simp [b127_1, List.replicate, hlt]
  | succ n ih =>
    intro rest pre cur ws k hn hsp hcur hN hk
    obtain ⟨k, rfl⟩ : ∃ k', k = k' + 1 := ⟨k - 1, by omega⟩
    cases rest with
    | nil => exact ih [] pre cur ws (k + 1) (by simp) hsp hcur hN hk
    | cons c rest =>
      have hlt : (pre ++ cur).length < s.length := by rw [hsp]; simp
      have hsl := congrArg List.length hsp
      simp only [List.length_append, List.length_cons] at hsl
      have hc : ∀ h : (pre ++ cur).length < s.length, s[(pre ++ cur).length]'h = c := by subst hsp; simp
      have hw2 : IntKind.i64.wrap (((pre ++ cur).length : Int) + 1) = ((pre ++ (cur ++ [c])).length : Int) := by rw [IntKind.wrap_i64]; simp only [List.length_append, List.length_cons, List.length_nil]; omega
      have hc8 := h8 c (by rw [hsp]; simp)
      have hsp1 := hT c hc8
      have hc256 : (c.toNat : Int) < 256 := by omega
      rcases spV_cases c with ⟨h1, h2⟩ | ⟨h1, h2⟩
      · rw [h2] at hsp1
        have hcn : cur ≠ [] := fun h => by have := hcur h c rest rfl; rw [h1] at this; cases this
        have hwg : wordsG cur (c :: rest) = cur :: wordsG [] rest := by simp [wordsG, h1, hcn]
        rw [hwg] at hN
        simp only [List.length_cons] at hN
        have hskip := loop127t E cf hT s hs m (ws ++ [cur]).length N [.live (rowC N (ws ++ [cur]))] rest (pre ++ cur ++ [c]) m (by rw [hsp]; simp) (fun x hx => h8 x (by rw [hsp]; simp [hx])) (by rw [hsp] at hm; simp at hm; omega)
        have hdl : (rest.dropWhile spC).length ≤ rest.length := (List.dropWhile_sublist _).length_le
        obtain ⟨pre1, cur1, ws1, g1, g2, g3⟩ := ih (rest.dropWhile spC) (pre ++ cur ++ [c] ++ rest.takeWhile spC) [] (ws ++ [cur]) k (by simp at hn; omega)
          (by rw [hsp]; simp [List.takeWhile_append_dropWhile]) (fun _ => drop_head rest) (by rw [← wordsG_skip]; simp; omega) (by simp at hk; omega)
        refine ⟨pre1, cur1, ws1, g1, ?_, ?_⟩
        · rw [g2, hwg, ← wordsG_skip]; simp
        · rw [← g3]
          refine rounds_step ?_
          have hwl : ws.length < N := by omega
          have hset := rowC_set cur hwl
          have hrl := rowC_len (N := N) (ws := ws) (by omega)
          have hwn : IntKind.i64.wrap ((ws.length : Int) + 1) = ((ws ++ [cur]).length : Int) := by rw [IntKind.wrap_i64]; simp only [List.length_append, List.length_cons, List.length_nil]; omega
          have hsub : (s.take (pre ++ cur).length).drop pre.length = cur := by rw [hsp, List.take_left, List.drop_left]
          generalize hC : rowC N ws = C at hset hrl
          have q1 : pre.length ≤ (pre ++ cur).length := by simp
          have q2 : (pre ++ cur).length ≤ s.length := by omega
          have hw3 : IntKind.i64.wrap (((pre ++ cur).length : Int) + 1) = ((pre ++ cur ++ [c]).length : Int) := by rw [hw2]; simp
          have hwlI : (ws.length : Int) < (N : Int) := by omega
          simp only [List.replicate, List.cons_append, List.nil_append] at hskip
          have hNl : ws.length < C.length := by omega
          have e1 : (pre ++ cur ++ [c] ++ rest.takeWhile spC ++ []).length = (pre ++ cur ++ [c] ++ rest.takeWhile spC).length := by simp
          rw [e1]
          generalize hP2 : (pre ++ cur ++ [c]).length = P2 at hskip hw3
          generalize hP3 : (pre ++ cur ++ [c] ++ rest.takeWhile spC).length = P3 at hskip
          generalize hN2 : (ws ++ [cur]).length = N2 at hskip hwn
          generalize hPL : (pre ++ cur).length = pl at hlt hc hw2 hsub q1 q2 hw3
          simp [b127_1, List.replicate, hlt, hc, hc256, hsp1, hw3, hwl, hwlI, q1, q2, hsub, hNl, hset, hwn, hskip]
      · rw [h2] at hsp1
        have hwg : wordsG cur (c :: rest) = wordsG (cur ++ [c]) rest := by simp [wordsG, h1]
        obtain ⟨pre1, cur1, ws1, g1, g2, g3⟩ := ih rest pre (cur ++ [c]) ws k (by simp at hn; omega) (by rw [hsp]; simp) (fun h => by simp at h) (by rw [← hwg]; exact hN) (by simp at hk; omega)
        refine ⟨pre1, cur1, ws1, g1, by rw [g2, hwg], ?_⟩
        rw [← g3]
        refine rounds_step ?_
        generalize (pre ++ cur).length = pl at hlt hc hw2
        generalize (pre ++ (cur ++ [c])).length = pl2 at hw2
        simp [b127_1, List.replicate, hlt, hc, hc256, hsp1, hw2]

end Go.Ev

set_option linter.unusedSimpArgs false
set_option linter.unusedVariables false
namespace Go.Ev
open Go.Proofs

theorem cntG_le : ∀ (s : List UInt8) (was : Bool), cntG was s ≤ s.length
  | [], _ => by simp [cntG]
  | c :: s, was => by
    have := cntG_le s (spC c)
    simp only [cntG, List.length_cons]
    split <;> omega

theorem rowC_plain {N : Nat} {ws : List (List UInt8)} (h : ws.length = N) : (rowC N ws).map Cell.plain = strs ws := by
  unfold rowC
  rw [show N - ws.length = 0 from by omega]
  simp [strs, Cell.plain]

theorem ev127 (E : Env) (h : E.code 76 = some c127) (hT : SpT E) (s : List UInt8) (hs : s.length < 1000000000000) (h8 : ∀ c ∈ s, c.toNat < 128) (n : Nat) (hn : s.length < n) :
    evP E n 76 [.str s] = some (.sv (.sl (strs (wordsG [] s)))) := by
  unfold evP
  simp only [h]
  obtain ⟨bits, hb, h1⟩ := loop127c E (evF E n) hT s hs n s [] 0 true 0 n rfl h8 (by simp) (by omega) hn
  have hcl := cntG_len s []
  simp only [if_true, Nat.add_zero, beq_self_eq_true] at hcl
  have hcle := cntG_le s true
  rw [hcl] at h1 hcle
  generalize hN : (wordsG [] s).length = N at h1 hcle
  have h2 := loop127s E (evF E n) hT s hs n 0 N [.live (rowC N [])] s [] n rfl h8 hn
  obtain ⟨pre1, cur1, ws1, g1, g2, h3⟩ := loop127w E (evF E n) hT s hs h8 n N hn (by omega) (s.dropWhile spC).length (s.dropWhile spC) (s.takeWhile spC) [] [] n (Nat.le_refl _) (by simp [List.takeWhile_append_dropWhile]) (fun _ => drop_head s)
    (by rw [← wordsG_skip]; simp; omega) (by have := (List.dropWhile_sublist (p := spC) (l := s)).length_le; omega)
  simp only [List.append_nil, List.nil_append, List.length_nil, ← wordsG_skip] at h2 h3 g2
  generalize (s.takeWhile spC).length = p1 at h2 h3
  have hbI : ¬ (128 : Int) ≤ (bits : Int) := by omega
  have hrow : rowC N [] = List.replicate N (Cell.sv (SV.str [])) := by simp [rowC]
  rw [hrow] at h2 h3
  simp only [List.replicate, List.cons_append, List.nil_append, Int.ofNat_zero, Int.natCast_zero, if_true, List.length_nil, Nat.zero_add] at h1 h2 h3
  have q1 : (N : Int) * 16 ≤ 70368744177664 := by omega
  have q2 : (N : Int) ≤ 70368744177664 := by omega
  by_cases hcur : cur1 = []
  · subst hcur
    simp at g1 g2
    subst g1
    subst g2
    have hpl := rowC_plain hN
    have hpl2 := rowC_len (N := N) (ws := wordsG [] s) (by omega)
    simp [c127, List.replicate, h1, hbI, q1, q2, h2, h3, hpl2, hpl, strs_length, hN]
  · rw [if_neg hcur] at g2
    have hw1 : ws1.length < N := by rw [← hN, ← g2]; simp
    have hlt : (pre1.length : Int) < (s.length : Int) := by
      rw [g1]; cases cur1 with
      | nil => exact absurd rfl hcur
      | cons _ _ => simp; omega
    have hle : pre1.length ≤ s.length := by omega
    have hlt' : pre1.length < s.length := by omega
    have hd : List.drop pre1.length s = cur1 := by rw [g1]; simp
    have hset := rowC_set cur1 hw1
    have hpl := rowC_plain (N := N) (ws := ws1 ++ [cur1]) (by rw [g2]; exact hN)
    have hpl2 := rowC_len (N := N) (ws := ws1 ++ [cur1]) (by simp; omega)
    have hpl3 := rowC_len (N := N) (ws := ws1) (by omega)
    have hw1I : (ws1.length : Int) < (N : Int) := by omega
    rw [g2] at hset hpl hpl2
    generalize rowC N ws1 = C1 at h3 hset hpl3
    have hw1C : ws1.length < C1.length := by omega
    have htk : List.take s.length s = s := List.take_length
    simp [c127, List.replicate, h1, hbI, q1, q2, h2, h3, hlt', hle, hd, hw1, hw1C, hset, hpl2, hpl, htk, strs_length, hN]

noncomputable def F127 : List SV → Option AV
  | [.str s] => onlyIf (s.length < 1000000000000 ∧ ∀ c ∈ s, c.toNat < 128) (some (.sv (.sl (strs (wordsG [] s)))))
  | _ => none

theorem F127_eq (s : List UInt8) (h1 : s.length < 1000000000000) (h2 : ∀ c ∈ s, c.toNat < 128) : F127 [.str s] = some (.sv (.sl (strs (wordsG [] s)))) := onlyIf_pos ⟨h1, h2⟩

/-! ### The words of a line -/

end Go.Ev

set_option linter.unusedSimpArgs false
set_option linter.unusedVariables false
namespace Go.Ev
open Go.Proofs

def dgt (c : UInt8) : Nat := c.toNat - 48

def digN (a : Nat) (s : List UInt8) : Nat := s.foldl (fun a c => a * 10 + dgt c) a

theorem digN_nil (a : Nat) : digN a [] = a := by unfold digN; rw [List.foldl_nil]
theorem digN_cons (a : Nat) (c : UInt8) (s : List UInt8) : digN a (c :: s) = digN (a * 10 + dgt c) s := by unfold digN; rw [List.foldl_cons]

def digC (c : UInt8) : Bool := decide (48 ≤ c.toNat) && decide (c.toNat ≤ 57)

theorem digC_iff {c : UInt8} : digC c = true ↔ 48 ≤ c.toNat ∧ c.toNat ≤ 57 := by simp [digC]

theorem digN_append (s t : List UInt8) (a : Nat) : digN a (s ++ t) = digN (digN a s) t := by unfold digN; rw [List.foldl_append]

theorem dig_toNat {d : Nat} (h : d < 10) : (UInt8.ofNat (48 + d)).toNat = 48 + d := by
  rw [UInt8.toNat_ofNat']; omega

theorem decS_dig (n : Nat) : digN 0 (decS n) = n ∧ (∀ c ∈ decS n, digC c = true) ∧ decS n ≠ [] := by
  induction n using Nat.strongRecOn with
  | ind n ih =>
    by_cases h : n < 10
    · rw [decS_small h]
      have := dig_toNat h
      refine ⟨by rw [digN_cons, digN_nil, dgt, this]; omega, fun c hc => ?_, by simp⟩
      obtain rfl := List.mem_singleton.1 hc
      rw [digC_iff, this]; omega
    · rw [decS_step h]
      obtain ⟨h1, h2, h3⟩ := ih (n / 10) (by omega)
      have hd : n % 10 < 10 := Nat.mod_lt _ (by omega)
      have := dig_toNat hd
      refine ⟨by rw [digN_append, h1, digN_cons, digN_nil, dgt, this]; omega, fun c hc => ?_, by simp⟩
      rcases List.mem_append.1 hc with hc | hc
      · exact h2 c hc
      · obtain rfl := List.mem_singleton.1 hc
        rw [digC_iff, this]; omega

theorem bytesSV_length (s : List UInt8) : (bytesSV s).length = s.length := by simp [bytesSV]

end Go.Ev

set_option linter.unusedSimpArgs false
set_option linter.unusedVariables false
namespace Go.Ev
open Go.Proofs

end Go.Ev

set_option linter.unusedSimpArgs false
set_option linter.unusedVariables false
namespace Go.Ev
open Go.Proofs

end Go.Ev

set_option linter.unusedSimpArgs false
set_option linter.unusedVariables false
namespace Go.Ev
open Go.Proofs

end Go.Ev

set_option linter.unusedSimpArgs false
set_option linter.unusedVariables false
namespace Go.Ev
open Go.Proofs

end Go.Ev

set_option linter.unusedSimpArgs false
set_option linter.unusedVariables false
namespace Go.Ev
open Go.Proofs

end Go.Ev

set_option linter.unusedSimpArgs false
set_option linter.unusedVariables false
namespace Go.Ev
open Go.Proofs

noncomputable def F27 : List SV → Option AV
  | [v] => onlyIf (IsNode v) (some (.sv v))
  | _ => none

noncomputable def F26 : List SV → Option AV
  | [v, w] => onlyIf (IsNode v ∧ v = w) (some (.sv (.bool true)))
  | _ => none

def F25 : List SV → Option AV
  | [] => some (.sv (.bool true))
  | _ => none

theorem size_kid {kids : List SV} {v : SV} (h : v ∈ kids) (name : List UInt8) (kind : Int) (b : Bool) (i u : Int) (f : Nat) (s : List UInt8) : SizeOf.sizeOf v < SizeOf.sizeOf (nodeV name kind b i u f s kids) := by
  have := List.sizeOf_lt_of_mem h
  simp [nodeV]
  omega

noncomputable def size27 : List SV → Nat
  | v :: _ => SizeOf.sizeOf v
  | [] => 0

theorem pure27 {P : Program} {E : Env} (hm : P.follows .mixedOrders = true) (hT : CodeT P E) (hQ : QuietOK P E) (hP : PureOK P E) (h : E.code 24 = some c27) : PureFn P E 24 F27 := by
  refine PureFn.of_rec size27 hm hT hQ hP fun m vs r hF hs => ?_
  match vs, hF with
  | [v], hF =>
    obtain ⟨hn, hr⟩ := onlyIf_some hF
    simp only [Option.some.injEq] at hr
    subst hr
    cases hn with
    | mk name kind b i u f s kids hl hk =>
      refine ⟨kids.length + 1, _, ev27 (E.add 24 (fun us => if size27 us < m then F27 us else none)) h (fun us => if size27 us < m then F27 us else none) (by simp [Env.add]) name kind b i u f s kids hl (fun v hv => ⟨hk v hv, ?_⟩) _ (by omega), .inl rfl⟩
      have := size_kid hv name kind b i u f s
      have h3 : size27 [v] < m := by simp only [size27] at hs ⊢; omega
      show (if size27 [v] < m then F27 [v] else none) = _
      rw [if_pos h3]
      exact onlyIf_pos (hk v hv)

theorem pure26 {P : Program} {E : Env} (hm : P.follows .mixedOrders = true) (hT : CodeT P E) (hQ : QuietOK P E) (hP : PureOK P E) (h : E.code 23 = some c26) (h75 : E.pure 64 = some F75) : PureFn P E 23 F26 := by
  refine PureFn.of_rec size27 hm hT hQ hP fun m vs r hF hs => ?_
  match vs, hF with
  | [v, w], hF =>
    obtain ⟨⟨hn, rfl⟩, hr⟩ := onlyIf_some hF
    simp only [Option.some.injEq] at hr
    subst hr
    cases hn with
    | mk name kind b i u f s kids hl hk =>
      refine ⟨kids.length + 1, _, ev26 (E.add 23 (fun us => if size27 us < m then F26 us else none)) h (fun us => if size27 us < m then F26 us else none) (by simp [Env.add]) (by simp [Env.add, h75]) name kind b i u f s kids hl (fun v hv => ⟨hk v hv, ?_⟩) _ (by omega), .inl rfl⟩
      have := size_kid hv name kind b i u f s
      have h3 : size27 [v, v] < m := by simp only [size27] at hs ⊢; omega
      show (if size27 [v, v] < m then F26 [v, v] else none) = _
      rw [if_pos h3]
      exact onlyIf_pos ⟨hk v hv, rfl⟩

theorem ev9_long (E : Env) (h : E.code 16 = some c9) (w t d : Nat) (s : List UInt8) (hs : 40000 < s.length) (n : Nat) : evP E n 16 [.str s, .fn w [] [], .fn t [] [], .fn d [] []] = some (.sv (.bool true)) := by
  unfold evP
  simp only [h]
  have e : (40000 : Int) < (s.length : Int) := by omega
  simp [c9, List.replicate, e]

set_option maxHeartbeats 1000000 in
theorem ev9_yes (E : Env) (h : E.code 16 = some c9) (w t d : Nat) (Fw Ft Fd : List SV → Option AV) (hw : E.pure w = some Fw) (ht : E.pure t = some Ft) (hd : E.pure d = some Fd) (h25 : E.pure 22 = some F25) (h26 : E.pure 23 = some F26) (h27 : E.pure 24 = some F27) (s : List UInt8) (hs : s.length ≤ 40000) (rows : List SV) (T : SV) (hT : IsNode T)
    (hFw : Fw [.str s] = some (.sv (.tup [.sl rows, .bool true, .int .i64 1]))) (hFt : Ft [.sl rows] = some (.sv (.tup [T, .int .i64 1]))) (hFd : Fd [.str s] = some (.sv (.tup [T, .int .i64 0]))) (n : Nat) :
    evP E n 16 [.str s, .fn w [] [], .fn t [] [], .fn d [] []] = some (.sv (.bool true)) := by
  unfold evP
  simp only [h]
  have e : ¬ (40000 : Int) < (s.length : Int) := by omega
  have hF27 : F27 [T] = some (.sv T) := onlyIf_pos hT
  have hF26 : F26 [T, T] = some (.sv (.bool true)) := onlyIf_pos ⟨hT, rfl⟩
  cases hT with
  | mk name kind b i u f s0 kids hl hk =>
    simp only [nodeV] at hFt hFd hF27 hF26
    simp [c9, List.replicate, e, hw, hFw, hd, hFd, ht, hFt, h27, hF27, h26, hF26, h25, F25]

def F8 : List SV → Option AV
  | [.str s] => some (.sv (.bool true))
  | _ => none

end Go.Ev

set_option linter.unusedSimpArgs false
set_option linter.unusedVariables false
namespace Go.Ev
open Go.Proofs

/-- A line's fields; cur: what of a field came before. -/
def fieldG (cur : List UInt8) : List UInt8 → List (List UInt8)
  | [] => if cur = [] then [] else [cur]
  | c :: cs => if blankC c then (if cur = [] then fieldG [] cs else cur :: fieldG [] cs) else fieldG (cur ++ [c]) cs

def fieldEnd (s : List UInt8) (p : Option Nat × List SV) : List SV := match p.1 with
  | some f => p.2 ++ [.str (s.drop f)]
  | none => p.2

theorem fieldK_eq (s : List UInt8) : ∀ (rest pre cur : List UInt8) (acc : List SV), s = pre ++ cur ++ rest →
    fieldEnd s (fieldK s (pre ++ cur).length rest (if cur = [] then none else some pre.length, acc)) = acc ++ strs (fieldG cur rest)
  | [], pre, cur, acc, h => by
    simp only [List.append_nil] at h
    simp only [fieldK, fieldG, fieldEnd]
    by_cases hc : cur = []
    · subst hc
      simp [strs]
    · simp only [if_neg hc]
      rw [h, List.drop_left]; simp [strs]
  | c :: rest, pre, cur, acc, h => by
    have hpl : (pre ++ cur ++ [c]).length = (pre ++ cur).length + 1 := by simp; omega
    have hpl2 : (pre ++ (cur ++ [c])).length = (pre ++ cur).length + 1 := by simp; omega
    simp only [fieldK, fieldG]
    cases hb : blankC c with
    | true =>
      by_cases hc : cur = []
      · subst hc
        have := fieldK_eq s rest (pre ++ [] ++ [c]) [] acc (by rw [h]; simp)
        simp only [if_true, List.append_nil] at this
        simp only [if_true, List.append_nil]
        rw [show (pre ++ [c]).length = pre.length + 1 from by simp] at this
        exact this
      · simp only [if_neg hc, if_true]
        have hsub : (s.take (pre ++ cur).length).drop pre.length = cur := by rw [h, List.take_left, List.drop_left]
        rw [hsub]
        have := fieldK_eq s rest (pre ++ cur ++ [c]) [] (acc ++ [.str cur]) (by rw [h]; simp)
        simp only [if_true, List.append_nil] at this
        rw [hpl] at this
        rw [this]; simp [strs]
    | false =>
      by_cases hc : cur = []
      · subst hc
        have := fieldK_eq s rest pre [c] acc (by rw [h]; simp)
        simp only [List.append_nil, if_true, Bool.false_eq_true, if_false, List.nil_append]
        rw [if_neg (by simp), show (pre ++ [c]).length = pre.length + 1 from by simp] at this
        exact this
      · have := fieldK_eq s rest pre (cur ++ [c]) acc (by rw [h]; simp)
        simp only [if_neg hc, Bool.false_eq_true, if_false]
        rw [if_neg (by simp), hpl2] at this
        exact this

theorem fieldsL_eq (s : List UInt8) : fieldsL s = fieldG [] s := by
  have h := fieldK_eq s s [] [] [] rfl
  simp only [List.nil_append, List.length_nil, if_true] at h
  have e : fieldsV s = fieldEnd s (fieldK s 0 s (none, [])) := rfl
  unfold fieldsL
  rw [e, h, unstrs]

theorem fieldG_words : ∀ (s cur : List UInt8), (∀ c ∈ s, plainC c = true ∧ c.toNat ≠ 10) → fieldG cur s = wordsG cur s
  | [], cur, _ => rfl
  | c :: s, cur, h => by
    obtain ⟨h1, h2⟩ := h c (by simp)
    have hb : blankC c = spC c := by
      simp only [plainC, Bool.and_eq_true, Bool.or_eq_true, decide_eq_true_eq, beq_iff_eq] at h1
      rw [Bool.eq_iff_iff]
      simp [blankC, spC]; omega
    have ih := fun cur => fieldG_words s cur (fun x hx => h x (by simp [hx]))
    simp only [fieldG, wordsG, hb, ih]

/-- The words that the library finds in a plain line are the reference's fields. -/
theorem words_fields {s : List UInt8} (h : ∀ c ∈ s, plainC c = true ∧ c.toNat ≠ 10) : wordsG [] s = fieldsL s := by
  rw [fieldsL_eq, fieldG_words s [] h]

end Go.Ev

set_option linter.unusedSimpArgs false
set_option linter.unusedVariables false
namespace Go.Ev
open Go.Proofs

theorem F45_eq (m : Nat) (hm : m < 18446744073709551616) : F45 [.int .u64 (m : Int)] = some (.sv (.str (decS m))) := by
  show onlyIf _ (some (AV.sv (.str (decS (m : Int).toNat)))) = _
  rw [onlyIf_pos ⟨by omega, by omega⟩]; simp

theorem ev30 (E : Env) (h : E.code 71 = some c30) (n : Nat) (s w : List UInt8) : evP E n 71 [.str s, .str w] = some (.sv (.bool (decide (w.length ≤ s.length) && (s.take w.length == w)))) := by
  unfold evP
  simp only [h]
  by_cases h1 : w.length ≤ s.length
  · simp [c30, h1, List.replicate]
  · simp [c30, h1, List.replicate]

def F30 : List SV → Option AV
  | [.str s, .str w] => some (.sv (.bool (decide (w.length ≤ s.length) && (s.take w.length == w))))
  | _ => none

end Go.Ev

set_option linter.unusedSimpArgs false
set_option linter.unusedVariables false
namespace Go.Ev
open Go.Proofs

end Go.Ev


set_option linter.unusedSimpArgs false
set_option linter.unusedVariables false
namespace Go.Ev
open Go.Proofs

theorem digN_ge : ∀ (s : List UInt8) (a : Nat), a ≤ digN a s
  | [], a => by rw [digN_nil]; exact Nat.le_refl _
  | c :: s, a => by
    rw [digN_cons]
    have := digN_ge s (a * 10 + dgt c)
    omega

end Go.Ev

set_option linter.unusedSimpArgs false
set_option linter.unusedVariables false
namespace Go.Ev
open Go.Proofs

end Go.Ev

set_option linter.unusedSimpArgs false
set_option linter.unusedVariables false
namespace Go.Ev
open Go.Proofs

def i64 (n : Nat) : Int := IntKind.i64.wrap (n : Int)

end Go.Ev

set_option linter.unusedSimpArgs false
set_option linter.unusedVariables false
namespace Go.Ev
open Go.Proofs

/-- Rows as a program can hold them, their words too. -/
def RowD.fits2 (r : RowD) : Prop := r.name.length < 1000000000 ∧ r.N.length < 100000000000 ∧ (∀ n ∈ r.N, n < 18446744073709551616) ∧ r.S.length < 1000000000 ∧ ∀ s ∈ r.S, s.length < 1000000000

def rowsFit2 (l : List RowD) : Prop := l.length < 100000000 ∧ ∀ r ∈ l, r.fits2

/-! ### Texts alike but for blanks -/

end Go.Ev

set_option linter.unusedSimpArgs false
set_option linter.unusedVariables false
namespace Go.Ev
open Go.Proofs

end Go.Ev

set_option linter.unusedSimpArgs false
set_option linter.unusedVariables false
namespace Go.Ev
open Go.Proofs

end Go.Ev

set_option linter.unusedSimpArgs false
set_option linter.unusedVariables false
namespace Go.Ev
open Go.Proofs

def swFit (l : List RowD) : Prop := l.length ≤ 40000 ∧ (∀ r ∈ l, r.fits2) ∧ ∀ r ∈ l, r.name.length ≤ 40000 ∧ ∀ s ∈ r.S, s.length ≤ 40000

theorem swFit.two {l : List RowD} (h : swFit l) : rowsFit2 l := ⟨by have := h.1; omega, h.2.1⟩

/-! ### The tree -/

end Go.Ev

set_option linter.unusedSimpArgs false
set_option linter.unusedVariables false
namespace Go.Ev
open Go.Proofs

theorem fieldG_word : ∀ (w cur rest : List UInt8), (∀ c ∈ w, blankC c = false) → fieldG cur (w ++ rest) = fieldG (cur ++ w) rest
  | [], cur, rest, _ => by simp
  | c :: w, cur, rest, h => by
    have h1 := h c (by simp)
    simp only [List.cons_append, fieldG, h1, Bool.false_eq_true, if_false]
    rw [fieldG_word w (cur ++ [c]) rest (fun x hx => h x (by simp [hx]))]
    simp

theorem fieldG_sep {w rest : List UInt8} {c : UInt8} (hw : w ≠ []) (h : ∀ c ∈ w, blankC c = false) (hc : blankC c = true) : fieldG [] (w ++ c :: rest) = w :: fieldG [] rest := by
  rw [fieldG_word w [] _ h]
  simp [fieldG, hc, hw]

theorem fieldG_last {w : List UInt8} (hw : w ≠ []) (h : ∀ c ∈ w, blankC c = false) : fieldG [] w = [w] := by
  have := fieldG_word w [] [] h
  simp only [List.append_nil, List.nil_append] at this
  rw [this]; simp [fieldG, hw]

theorem wordC_blank {c : UInt8} (h : wordC c = true) : blankC c = false ∧ c.toNat ≠ 10 := by
  simp only [wordC, Bool.and_eq_true, decide_eq_true_eq] at h
  refine ⟨?_, by omega⟩
  simp [blankC]; omega

end Go.Ev

set_option linter.unusedSimpArgs false
set_option linter.unusedVariables false
namespace Go.Ev
open Go.Proofs

theorem plain_lt {c : UInt8} (h : plainC c = true) : c.toNat < 128 ∧ c.toNat ≠ 13 := by
  simp only [plainC, Bool.and_eq_true, Bool.or_eq_true, decide_eq_true_eq, beq_iff_eq] at h
  omega

end Go.Ev

set_option linter.unusedSimpArgs false
set_option linter.unusedVariables false
namespace Go.Ev
open Go.Proofs

end Go.Ev

set_option linter.unusedSimpArgs false
set_option linter.unusedVariables false
namespace Go.Ev
open Go.Proofs

theorem wordC_plain {c : UInt8} (h : wordC c = true) : plainC c = true := by
  simp only [wordC, Bool.and_eq_true, decide_eq_true_eq] at h
  simp [plainC]; omega

/-! ### normal -/

theorem ev13_long (E : Env) (h : E.code 14 = some c13) (w p d : Nat) (s : List UInt8) (hs : 40000 < s.length) (n : Nat) : evP E n 14 [.str s, .fn w [] [], .fn p [] [], .fn d [] []] = some (.sv (.bool true)) := by
  unfold evP
  simp only [h]
  have e : (40000 : Int) < (s.length : Int) := by omega
  simp [c13, List.replicate, e]

set_option maxHeartbeats 1000000 in
theorem ev13_yes (E : Env) (h : E.code 14 = some c13) (w p d : Nat) (Fw Fp Fd : List SV → Option AV) (hw : E.pure w = some Fw) (hp : E.pure p = some Fp) (hd : E.pure d = some Fd) (h25 : E.pure 22 = some F25) (h26 : E.pure 23 = some F26) (h27 : E.pure 24 = some F27) (s o : List UInt8) (hs : s.length ≤ 40000) (rows : List SV) (T : SV) (hT : IsNode T)
    (hFw : Fw [.str s] = some (.sv (.tup [.sl rows, .bool true, .int .i64 1]))) (hFp : Fp [.sl rows] = some (.sv (.tup [.str o, .int .i64 1]))) (hFd : Fd [.str s] = some (.sv (.tup [T, .int .i64 0]))) (hFo : o.length ≤ 40000 → Fd [.str o] = some (.sv (.tup [T, .int .i64 0]))) (n : Nat) :
    evP E n 14 [.str s, .fn w [] [], .fn p [] [], .fn d [] []] = some (.sv (.bool true)) := by
  unfold evP
  simp only [h]
  have e : ¬ (40000 : Int) < (s.length : Int) := by omega
  have hF27 : F27 [T] = some (.sv T) := onlyIf_pos hT
  have hF26 : F26 [T, T] = some (.sv (.bool true)) := onlyIf_pos ⟨hT, rfl⟩
  cases hT with
  | mk name kind b i u f s0 kids hl hk =>
    simp only [nodeV] at hFd hFo hF27 hF26
    by_cases ho : o.length ≤ 40000
    · have eo : ¬ (40000 : Int) < (o.length : Int) := by omega
      have hFo := hFo ho
      simp [c13, List.replicate, e, hw, hFw, hp, hFp, eo, hd, hFd, hFo, h27, hF27, h26, hF26, h25, F25]
    · have eo : (40000 : Int) < (o.length : Int) := by omega
      simp [c13, List.replicate, e, hw, hFw, hp, hFp, eo, h25, F25]

end Go.Ev

set_option linter.unusedSimpArgs false
set_option linter.unusedVariables false
namespace Go.Ev
open Go.Proofs

/-- Rows as an argument may hold them. -/
def RowD.fits3 (r : RowD) : Prop := r.name.length < 2147483648 ∧ r.N.length < 100000000000 ∧ (∀ n ∈ r.N, n < 18446744073709551616) ∧ r.S.length < 2147483648 ∧ ∀ s ∈ r.S, s.length < 2147483648

def rowsFit3 (l : List RowD) : Prop := l.length < 100000000 ∧ ∀ r ∈ l, r.fits3

def distP (pre : List (List UInt8)) : List (List UInt8) → Bool
  | [] => true
  | c :: rest => pre.all (fun p => !(c == p)) && distP (pre ++ [c]) rest

theorem loop1084_0 (E : Env) (cf : CallF) (l : List RowD) (hs : l.length < 1000000000) (m i : Nat) (r : RowD) (hi : l[i]? = some r) :
    ∀ (rest pre : List RowD) (k : Nat), l.take i = pre ++ rest → rest.length < k →
      rounds (evC E cf m b1084_0) k { tm := [.sv (.sl (rowsSV l)), .sv .undef, .sv .undef, .sv (.int .i64 i), .sv .undef, .sv .undef, .sv (.int .i64 l.length), .sv (.int .i64 i), .sv .undef, .sv .undef, .sv (.int .i64 i), .sv (.int .i64 pre.length)] ++ List.replicate 15 (.sv .undef), lz := none, bx := [], df := [] } =
        if rest.all (fun p => !(r.name == p.name)) = true then some (.exit 2, { tm := [.sv (.sl (rowsSV l)), .sv .undef, .sv .undef, .sv .undef, .sv .undef, .sv .undef, .sv (.int .i64 l.length), .sv (.int .i64 i)] ++ List.replicate 19 (.sv .undef), lz := none, bx := [], df := [] })
        else some (.ret, { tm := [.sv .undef, .sv .undef, .sv (.bool false)] ++ List.replicate 24 (.sv .undef), lz := none, bx := [], df := [] }) := by
  have hil : i < l.length := (List.getElem?_eq_some_iff.1 hi).1
  have hri : l[i]'hil = r := (List.getElem?_eq_some_iff.1 hi).2
  intro rest
  induction rest with
  | nil =>
    intro pre k hsp hk
    obtain ⟨k, rfl⟩ : ∃ k', k = k' + 1 := ⟨k - 1, by omega⟩
    have hlt : ¬ (pre.length < i) := by have := congrArg List.length hsp; simp at this; omega
    refine rounds_out ?_ (by simp)
    simp [b1084_0, List.replicate, hlt]
  | cons p rest ih =>
    intro pre k hsp hk
    obtain ⟨k, rfl⟩ : ∃ k', k = k' + 1 := ⟨k - 1, by omega⟩
    have hlen : i = pre.length + (rest.length + 1) := by have := congrArg List.length hsp; simp at this; omega
    have hlt : pre.length < i := by omega
    have hpl : pre.length < l.length := by omega
    have hp : l[pre.length]? = some p := by
      have := congrArg (fun q => q[pre.length]?) hsp
      simpa [List.getElem?_take, hlt] using this
    have hpe : l[pre.length]'hpl = p := (List.getElem?_eq_some_iff.1 hp).2
    have hsl : (rowsSV l).length = l.length := by simp [rowsSV]
    have c1 : ∀ h : i < (rowsSV l).length, (rowsSV l)[i]'h = .agg [.str r.name, .sl (u64s r.N), .sl (strs r.S)] := fun h => by simp [rowsSV, hri, RowD.sv]
    have c2 : ∀ h : pre.length < (rowsSV l).length, (rowsSV l)[pre.length]'h = .agg [.str p.name, .sl (u64s p.N), .sl (strs p.S)] := fun h => by simp [rowsSV, hpe, RowD.sv]
    have hw2 : IntKind.i64.wrap ((pre.length : Int) + 1) = ((pre ++ [p]).length : Int) := by rw [IntKind.wrap_i64]; simp; omega
    by_cases he : r.name = p.name
    · have e1 : (r.name == p.name) = true := by simpa using he
      rw [if_neg (by simp [e1])]
      refine rounds_out ?_ (by simp)
      simp [b1084_0, List.replicate, hlt, hil, hpl, hsl, c1, c2, he]
    · have e1 : (r.name == p.name) = false := by simpa using he
      have := ih (pre ++ [p]) k (by rw [hsp]; simp) (by simp at hk; omega)
      rw [show (p :: rest).all (fun p => !(r.name == p.name)) = rest.all (fun p => !(r.name == p.name)) from by simp [e1], ← this]
      refine rounds_step ?_
      simp [b1084_0, List.replicate, hlt, hil, hpl, hsl, c1, c2, he, e1, hw2]

theorem loop1084_1 (E : Env) (cf : CallF) (l : List RowD) (hs : l.length < 1000000000) (m : Nat) (hm : l.length < m) :
    ∀ (rest pre : List RowD) (k : Nat), l = pre ++ rest → rest.length < k →
      rounds (evC E cf m b1084_1) k { tm := [.sv (.sl (rowsSV l)), .sv .undef, .sv .undef, .sv .undef, .sv .undef, .sv .undef, .sv (.int .i64 l.length), .sv (.int .i64 pre.length)] ++ List.replicate 19 (.sv .undef), lz := none, bx := [], df := [] } =
        if distP (pre.map RowD.name) (rest.map RowD.name) = true then some (.exit 0, { tm := List.replicate 27 (.sv .undef), lz := none, bx := [], df := [] })
        else some (.ret, { tm := [.sv .undef, .sv .undef, .sv (.bool false)] ++ List.replicate 24 (.sv .undef), lz := none, bx := [], df := [] }) := by
  intro rest
  induction rest with
  | nil =>
    intro pre k hsp hk
    obtain ⟨k, rfl⟩ : ∃ k', k = k' + 1 := ⟨k - 1, by omega⟩
    have hlt : ¬ (pre.length < l.length) := by rw [hsp]; simp
    refine rounds_out ?_ (by simp)
    simp [b1084_1, List.replicate, hlt, distP]
  | cons r rest ih =>
    intro pre k hsp hk
    obtain ⟨k, rfl⟩ : ∃ k', k = k' + 1 := ⟨k - 1, by omega⟩
    have hlt : pre.length < l.length := by rw [hsp]; simp
    have hi : l[pre.length]? = some r := by rw [hsp]; simp
    have hin := loop1084_0 E cf l hs m pre.length r hi pre [] m (by rw [hsp]; simp) (by omega)
    simp only [List.replicate, List.cons_append, List.nil_append, List.length_nil, Int.ofNat_zero, Int.natCast_zero] at hin
    have hw2 : IntKind.i64.wrap ((pre.length : Int) + 1) = ((pre ++ [r]).length : Int) := by rw [IntKind.wrap_i64]; simp; omega
    have hmap : (pre.map RowD.name).all (fun p => !(r.name == p)) = pre.all (fun p => !(r.name == p.name)) := by simp [List.all_map, Function.comp_def]
    cases hc : pre.all (fun p => !(r.name == p.name)) with
    | false =>
      rw [hc, if_neg (by simp)] at hin
      rw [if_neg (by simp only [List.map_cons, distP, hmap, hc]; simp)]
      refine rounds_out ?_ (by simp)
      simp [b1084_1, List.replicate, hlt, hin]
    | true =>
      rw [hc, if_pos rfl] at hin
      have := ih (pre ++ [r]) k (by rw [hsp]; simp) (by simp at hk; omega)
      rw [show distP (pre.map RowD.name) ((r :: rest).map RowD.name) = distP ((pre ++ [r]).map RowD.name) (rest.map RowD.name) from by simp [distP, hmap, hc], ← this]
      refine rounds_step ?_
      simp [b1084_1, List.replicate, hlt, hin, hw2]

theorem ev1084 (E : Env) (h : E.code 67 = some c1084) (l : List RowD) (hs : l.length < 1000000000) (n : Nat) (hn : l.length < n) :
    evP E n 67 [.sl (rowsSV l)] = some (.sv (.bool (distP [] (l.map RowD.name)))) := by
  unfold evP
  simp only [h]
  have hsl : (rowsSV l).length = l.length := by simp [rowsSV]
  have hl := loop1084_1 E (evF E n) l hs n hn l [] n rfl hn
  simp only [List.replicate, List.cons_append, List.nil_append, List.length_nil, Int.ofNat_zero, Int.natCast_zero, List.map_nil] at hl
  cases hv : distP [] (l.map RowD.name) with
  | true => simp only [hv, if_true] at hl; simp [c1084, List.replicate, hl, hsl]
  | false => simp only [hv, Bool.false_eq_true, if_false] at hl; simp [c1084, List.replicate, hl, hsl]

noncomputable def F1084 : List SV → Option AV
  | [.sl l] => onlyIf (l = rowsSV (l.map unrow) ∧ l.length < 1000000000) (some (.sv (.bool (distP [] ((l.map unrow).map RowD.name)))))
  | _ => none

theorem F1084_eq (l : List RowD) (h : l.length < 1000000000) : F1084 [.sl (rowsSV l)] = some (.sv (.bool (distP [] (l.map RowD.name)))) := by
  unfold F1084
  simp only [unrows]
  exact onlyIf_pos ⟨trivial, by simpa [rowsSV] using h⟩

/-! ### So many numbers of so many bits -/

end Go.Ev

set_option linter.unusedSimpArgs false
set_option linter.unusedVariables false
namespace Go.Ev
open Go.Proofs

end Go.Ev

set_option linter.unusedSimpArgs false
set_option linter.unusedVariables false
namespace Go.Ev
open Go.Proofs

end Go.Ev

set_option linter.unusedSimpArgs false
set_option linter.unusedVariables false
namespace Go.Ev
open Go.Proofs

/-! ### The text -/

end Go.Ev

set_option linter.unusedSimpArgs false
set_option linter.unusedVariables false
namespace Go.Ev
open Go.Proofs

end Go.Ev

set_option linter.unusedSimpArgs false
set_option linter.unusedVariables false
namespace Go.Ev
open Go.Proofs

end Go.Ev

set_option linter.unusedSimpArgs false
set_option linter.unusedVariables false
namespace Go.Ev
open Go.Proofs

theorem ev9_opn (E : Env) (h : E.code 16 = some c9) (w t d : Nat) (Fw : List SV → Option AV) (hw : E.pure w = some Fw) (h25 : E.pure 22 = some F25) (s : List UInt8) (hs : s.length ≤ 40000) (l : List SV) (b : Bool)
    (hF : Fw [.str s] = some (.sv (.tup [.sl l, .bool b, .int .i64 2]))) (n : Nat) : evP E n 16 [.str s, .fn w [] [], .fn t [] [], .fn d [] []] = some (.sv (.bool true)) := by
  unfold evP
  simp only [h]
  have e : ¬ (40000 : Int) < (s.length : Int) := by omega
  simp [c9, List.replicate, e, hw, hF, h25, F25]

theorem ev13_opn (E : Env) (h : E.code 14 = some c13) (w p d : Nat) (Fw : List SV → Option AV) (hw : E.pure w = some Fw) (h25 : E.pure 22 = some F25) (s : List UInt8) (hs : s.length ≤ 40000) (l : List SV) (b : Bool)
    (hF : Fw [.str s] = some (.sv (.tup [.sl l, .bool b, .int .i64 2]))) (n : Nat) : evP E n 14 [.str s, .fn w [] [], .fn p [] [], .fn d [] []] = some (.sv (.bool true)) := by
  unfold evP
  simp only [h]
  have e : ¬ (40000 : Int) < (s.length : Int) := by omega
  cases b <;> simp [c13, List.replicate, e, hw, hF, h25, F25]

end Go.Ev

set_option linter.unusedSimpArgs false
set_option linter.unusedVariables false
namespace Go.Ev
open Go.Proofs

def zzS (S : List (List UInt8)) : Bool := decide (S.length ≤ 2147483647) && S.all fun s => decide (s.length ≤ 2147483647)
def zzRow (r : RowD) : Bool := decide (r.name.length ≤ 2147483647) && decide (r.N.length ≤ 2147483647) && zzS r.S
def zzRows (l : List RowD) : Bool := decide (l.length ≤ 2147483647) && l.all zzRow

theorem loop1080 (E : Env) (cf : CallF) (xs : List SV) (hs : xs.length < 1000000000000) (m : Nat) :
    ∀ (rest : List (List UInt8)) (pre : List SV) (k : Nat), xs = pre ++ strs rest → rest.length < k →
      rounds (evC E cf m b1080_0) k { tm := List.replicate 8 (.sv .undef) ++ [.sv (.sl xs), .sv (.int .i64 xs.length), .sv (.int .i64 pre.length)] ++ List.replicate 7 (.sv .undef), lz := none, bx := [], df := [] } =
        if rest.all (fun s => decide (s.length ≤ 2147483647)) = true then some (.exit 0, { tm := List.replicate 18 (.sv .undef), lz := none, bx := [], df := [] })
        else some (.ret, { tm := [.sv .undef, .sv .undef, .sv (.bool false)] ++ List.replicate 15 (.sv .undef), lz := none, bx := [], df := [] }) := by
  intro rest
  induction rest with
  | nil =>
    intro pre k hsp hk
    obtain ⟨k, rfl⟩ : ∃ k', k = k' + 1 := ⟨k - 1, by omega⟩
    have hlt : ¬ (pre.length < xs.length) := by rw [hsp]; simp [strs]
    refine rounds_out ?_ (by simp)
    simp [b1080_0, List.replicate, hlt]
  | cons c rest ih =>
    intro pre k hsp hk
    obtain ⟨k, rfl⟩ : ∃ k', k = k' + 1 := ⟨k - 1, by omega⟩
    have hlt : pre.length < xs.length := by rw [hsp]; simp [strs]
    have hc : ∀ h : pre.length < xs.length, xs[pre.length]'h = .str c := by subst hsp; simp [strs]
    have hw2 : IntKind.i64.wrap ((pre.length : Int) + 1) = ((pre ++ [SV.str c]).length : Int) := by rw [IntKind.wrap_i64]; simp; omega
    by_cases h1 : c.length ≤ 2147483647
    · have e : ¬ (2147483647 : Int) < (c.length : Int) := by omega
      have := ih (pre ++ [.str c]) k (by rw [hsp]; simp [strs]) (by simp at hk; omega)
      rw [show (c :: rest).all (fun s => decide (s.length ≤ 2147483647)) = rest.all (fun s => decide (s.length ≤ 2147483647)) from by simp [h1], ← this]
      refine rounds_step ?_
      simp [b1080_0, List.replicate, hlt, hc, e, hw2]
    · have e : (2147483647 : Int) < (c.length : Int) := by omega
      rw [if_neg (by simp [h1])]
      refine rounds_out ?_ (by simp)
      simp [b1080_0, List.replicate, hlt, hc, e]

theorem ev1080 (E : Env) (h : E.code 62 = some c1080) (S : List (List UInt8)) (n : Nat) (hn : S.length < n ∨ 2147483647 < S.length) : evP E n 62 [.sl (strs S)] = some (.sv (.bool (zzS S))) := by
  unfold evP
  simp only [h]
  have hst : (strs S).length = S.length := strs_length S
  unfold zzS
  by_cases h1 : S.length ≤ 2147483647
  · have e : ¬ (2147483647 : Int) < (S.length : Int) := by omega
    have hl := loop1080 E (evF E n) (strs S) (by omega) n S [] n rfl (by omega)
    simp only [List.replicate, List.cons_append, List.nil_append, List.length_nil, Int.ofNat_zero, Int.natCast_zero, hst] at hl
    cases hv : S.all (fun s => decide (s.length ≤ 2147483647)) with
    | false => simp only [hv, Bool.false_eq_true, if_false] at hl; simp [c1080, List.replicate, hl, hst, e, h1]
    | true => simp only [hv, if_true] at hl; simp [c1080, List.replicate, hl, hst, e, h1]
  · have e : (2147483647 : Int) < (S.length : Int) := by omega
    simp [c1080, List.replicate, hst, e, h1]

noncomputable def F1080 : List SV → Option AV
  | [.sl l] => onlyIf (l = strs (l.map unstr)) (some (.sv (.bool (zzS (l.map unstr)))))
  | _ => none

theorem ev1035 (E : Env) (h : E.code 21 = some c1035) (h80 : E.pure 62 = some F1080) (r : RowD) (n : Nat) : evP E n 21 [.agg [.str r.name, .sl (u64s r.N), .sl (strs r.S)]] = some (.sv (.bool (zzRow r))) := by
  unfold evP
  simp only [h]
  have hsl : (u64s r.N).length = r.N.length := u64s_length r.N
  have hF : F1080 [.sl (strs r.S)] = some (.sv (.bool (zzS r.S))) := by
    unfold F1080
    simp only [unstrs]
    exact onlyIf_pos trivial
  unfold zzRow
  by_cases h1 : r.name.length ≤ 2147483647
  · have e : ¬ (2147483647 : Int) < (r.name.length : Int) := by omega
    by_cases h2 : r.N.length ≤ 2147483647
    · have e2 : ¬ (2147483647 : Int) < (r.N.length : Int) := by omega
      cases hz : zzS r.S <;> rw [hz] at hF <;> simp [c1035, List.replicate, e, e2, h1, h2, hsl, h80, hF]
    · have e2 : (2147483647 : Int) < (r.N.length : Int) := by omega
      simp [c1035, List.replicate, e, e2, h1, h2, hsl]
  · have e : (2147483647 : Int) < (r.name.length : Int) := by omega
    simp [c1035, List.replicate, e, h1]

noncomputable def F1035 : List SV → Option AV
  | [.agg [.str s, .sl ns, .sl ss]] => onlyIf (SV.agg [.str s, .sl ns, .sl ss] = (unrow (.agg [.str s, .sl ns, .sl ss])).sv) (some (.sv (.bool (zzRow (unrow (.agg [.str s, .sl ns, .sl ss]))))))
  | _ => none

theorem F1035_eq (r : RowD) : F1035 [.agg [.str r.name, .sl (u64s r.N), .sl (strs r.S)]] = some (.sv (.bool (zzRow r))) := by
  have hu : unrow (.agg [.str r.name, .sl (u64s r.N), .sl (strs r.S)]) = r := unrow_sv r
  unfold F1035
  simp only [hu]
  exact onlyIf_pos rfl

theorem loop1015 (E : Env) (cf : CallF) (h35 : E.pure 21 = some F1035) (xs : List SV) (hs : xs.length < 1000000000000) (m : Nat) :
    ∀ (rest : List RowD) (pre : List SV) (bx : List Box) (k : Nat), xs = pre ++ rowsSV rest → rest.length < k →
      ∃ bx', rounds (evC E cf m b1015_0) k { tm := List.replicate 8 (.sv .undef) ++ [.sv (.sl xs), .sv (.int .i64 xs.length), .sv (.int .i64 pre.length)] ++ List.replicate 7 (.sv .undef), lz := none, bx := bx, df := [] } =
        if rest.all zzRow = true then some (.exit 0, { tm := List.replicate 18 (.sv .undef), lz := none, bx := bx', df := [] })
        else some (.ret, { tm := [.sv .undef, .sv .undef, .sv (.bool false)] ++ List.replicate 15 (.sv .undef), lz := none, bx := bx', df := [] }) := by
  intro rest
  induction rest with
  | nil =>
    intro pre bx k hsp hk
    obtain ⟨k, rfl⟩ : ∃ k', k = k' + 1 := ⟨k - 1, by omega⟩
    have hlt : ¬ (pre.length < xs.length) := by rw [hsp]; simp [rowsSV]
    refine ⟨bx, rounds_out ?_ (by simp)⟩
    simp [b1015_0, List.replicate, hlt]
  | cons r rest ih =>
    intro pre bx k hsp hk
    obtain ⟨k, rfl⟩ : ∃ k', k = k' + 1 := ⟨k - 1, by omega⟩
    have hlt : pre.length < xs.length := by rw [hsp]; simp [rowsSV]
    have hc : ∀ h : pre.length < xs.length, xs[pre.length]'h = .agg [.str r.name, .sl (u64s r.N), .sl (strs r.S)] := by subst hsp; simp [rowsSV, RowD.sv]
    have hw2 : IntKind.i64.wrap ((pre.length : Int) + 1) = ((pre ++ [r.sv]).length : Int) := by rw [IntKind.wrap_i64]; simp; omega
    have hF := F1035_eq r
    obtain ⟨bx', he⟩ := ih (pre ++ [r.sv]) (bx ++ [rowBox r]) k (by rw [hsp]; simp [rowsSV]) (by simp at hk; omega)
    cases hz : zzRow r with
    | false =>
      rw [hz] at hF
      refine ⟨bx ++ [rowBox r], ?_⟩
      rw [if_neg (by simp [hz])]
      refine rounds_out ?_ (by simp)
      simp [b1015_0, List.replicate, hlt, hc, h35, hF, rowBox]
    | true =>
      rw [hz] at hF
      refine ⟨bx', ?_⟩
      rw [show (r :: rest).all zzRow = rest.all zzRow from by simp [hz], ← he]
      refine rounds_step ?_
      simp [b1015_0, List.replicate, hlt, hc, h35, hF, rowBox, hw2]

theorem ev1015 (E : Env) (h : E.code 9 = some c1015) (h35 : E.pure 21 = some F1035) (l : List RowD) (n : Nat) (hn : l.length < n ∨ 2147483647 < l.length) : evP E n 9 [.sl (rowsSV l)] = some (.sv (.bool (zzRows l))) := by
  unfold evP
  simp only [h]
  have hst : (rowsSV l).length = l.length := by simp [rowsSV]
  unfold zzRows
  by_cases h1 : l.length ≤ 2147483647
  · have e : ¬ (2147483647 : Int) < (l.length : Int) := by omega
    obtain ⟨bx', hl⟩ := loop1015 E (evF E n) h35 (rowsSV l) (by omega) n l [] [] n rfl (by omega)
    simp only [List.replicate, List.cons_append, List.nil_append, List.length_nil, Int.ofNat_zero, Int.natCast_zero, hst] at hl
    cases hv : l.all zzRow with
    | false => simp only [hv, Bool.false_eq_true, if_false] at hl; simp [c1015, List.replicate, hl, hst, e, h1]
    | true => simp only [hv, if_true] at hl; simp [c1015, List.replicate, hl, hst, e, h1]
  · have e : (2147483647 : Int) < (l.length : Int) := by omega
    simp [c1015, List.replicate, hst, e, h1]

noncomputable def F1015 : List SV → Option AV
  | [.sl l] => onlyIf (l = rowsSV (l.map unrow)) (some (.sv (.bool (zzRows (l.map unrow)))))
  | _ => none

theorem F1015_eq (l : List RowD) : F1015 [.sl (rowsSV l)] = some (.sv (.bool (zzRows l))) := by
  unfold F1015
  simp only [unrows]
  exact onlyIf_pos trivial

end Go.Ev

set_option linter.unusedSimpArgs false
set_option linter.unusedVariables false
namespace Go.Ev
open Go.Proofs

theorem zzRows_fit {l : List RowD} (h : zzRows l = true) (hn : ∀ r ∈ l, ∀ n ∈ r.N, n < 18446744073709551616) (hl : l.length ≤ 1000) : rowsFit3 l := by
  unfold zzRows at h
  rw [Bool.and_eq_true, List.all_eq_true] at h
  refine ⟨by omega, fun r hr => ?_⟩
  have h1 := h.2 r hr
  unfold zzRow zzS at h1
  simp only [Bool.and_eq_true, decide_eq_true_eq, List.all_eq_true] at h1
  obtain ⟨⟨h2, h3⟩, h4, h5⟩ := h1
  exact ⟨by omega, by omega, hn r hr, by omega, fun s hs => by have := h5 s hs; omega⟩

set_option maxHeartbeats 1000000 in
theorem ev1016_long (E : Env) (h : E.code 10 = some c1016) (p t d : Nat) (l : List SV) (hl : 1000 < l.length) (n : Nat) : evP E n 10 [.sl l, .fn p [] [], .fn t [] [], .fn d [] []] = some (.sv (.bool true)) := by
  unfold evP
  simp only [h]
  have e : (1000 : Int) < (l.length : Int) := by omega
  simp [c1016, List.replicate, e]

set_option maxHeartbeats 1000000 in
theorem ev1016_open (E : Env) (h : E.code 10 = some c1016) (p t d : Nat) (Fp : List SV → Option AV) (hp : E.pure p = some Fp) (h25 : E.pure 22 = some F25) (l : List SV) (hl : l.length ≤ 1000) (o : List UInt8) (told : Int)
    (hF : Fp [.sl l] = some (.sv (.tup [.str o, .int .i64 told]))) (ht : told ≠ 1 ∨ 40000 < o.length) (n : Nat) : evP E n 10 [.sl l, .fn p [] [], .fn t [] [], .fn d [] []] = some (.sv (.bool true)) := by
  unfold evP
  simp only [h]
  have e : ¬ (1000 : Int) < (l.length : Int) := by omega
  by_cases h1 : told = 1
  · have e2 : (40000 : Int) < (o.length : Int) := by omega
    simp [c1016, List.replicate, e, hp, hF, h1, e2, h25, F25]
  · have h2 : (told == 1) = false := by simpa using h1
    have h3 : (told != 1) = true := by simp [bne, h2]
    simp [c1016, List.replicate, e, hp, hF, h1, h2, h3, h25, F25]

set_option maxHeartbeats 1000000 in
theorem ev1016_yes (E : Env) (h : E.code 10 = some c1016) (p t d : Nat) (Fp Ft Fd : List SV → Option AV) (hp : E.pure p = some Fp) (ht : E.pure t = some Ft) (hd : E.pure d = some Fd) (h25 : E.pure 22 = some F25) (h26 : E.pure 23 = some F26) (h27 : E.pure 24 = some F27) (l : List SV) (hl : l.length ≤ 1000) (o : List UInt8) (ho : o.length ≤ 40000) (T : SV) (hT : IsNode T)
    (hFp : Fp [.sl l] = some (.sv (.tup [.str o, .int .i64 1]))) (hFt : Ft [.sl l] = some (.sv (.tup [T, .int .i64 1]))) (hFd : Fd [.str o] = some (.sv (.tup [T, .int .i64 0]))) (n : Nat) :
    evP E n 10 [.sl l, .fn p [] [], .fn t [] [], .fn d [] []] = some (.sv (.bool true)) := by
  unfold evP
  simp only [h]
  have e : ¬ (1000 : Int) < (l.length : Int) := by omega
  have e2 : ¬ (40000 : Int) < (o.length : Int) := by omega
  have hF27 : F27 [T] = some (.sv T) := onlyIf_pos hT
  have hF26 : F26 [T, T] = some (.sv (.bool true)) := onlyIf_pos ⟨hT, rfl⟩
  cases hT with
  | mk name kind b i u f s0 kids hl hk =>
    simp only [nodeV] at hFt hFd hF27 hF26
    simp [c1016, List.replicate, e, e2, hp, hFp, hd, hFd, ht, hFt, h27, hF27, h26, hF26, h25, F25]

noncomputable def F1003 : List SV → Option AV
  | [.sl l] => onlyIf (l = rowsSV (l.map unrow) ∧ ∀ r ∈ l.map unrow, ∀ n ∈ r.N, n < 18446744073709551616) (some (.sv (.bool true)))
  | _ => none

end Go.Ev

set_option linter.unusedSimpArgs false
set_option linter.unusedVariables false
namespace Go.Ev
open Go.Proofs

/-- What every entry rests on. -/
structure Base (P : Program) (E : Env) : Prop where
  m : P.follows .mixedOrders = true
  T : CodeT P E
  Q : QuietOK P E
  P : PureOK P E

variable {P : Program} {E : Env}

theorem p134 (B : Base P E) (h : E.code 125 = some c134) : PureFn P E 125 F134 := by
  refine PureFn.of B.m B.T B.Q B.P fun vs r hF => ?_
  unfold F134 at hF
  split at hF
  · obtain ⟨⟨h0, h1⟩, hr⟩ := onlyIf_some hF
    rename_i c
    obtain ⟨k, rfl⟩ := Int.eq_ofNat_of_zero_le h0
    simp only [Option.some.injEq, Int.toNat_natCast] at hr; subst hr
    exact ⟨1, _, ev134 E h 1 k (by omega), .inl rfl⟩
  · cases hF

theorem p123 (B : Base P E) (h : E.code 96 = some c123) (h134 : E.pure 125 = some F134) : PureFn P E 96 F123 := by
  refine PureFn.of B.m B.T B.Q B.P fun vs r hF => ?_
  unfold F123 at hF
  split at hF
  · obtain ⟨⟨h0, rfl⟩, hr⟩ := onlyIf_some hF
    rename_i s
    simp only [Option.some.injEq] at hr; subst hr
    exact ⟨s.length + 1, _, ev123 E h h134 s h0 _ (by omega), .inl rfl⟩
  · cases hF

theorem p81 (B : Base P E) (h : E.code 45 = some c81) (h123 : E.pure 96 = some F123) : PureFn P E 45 F81 := by
  refine PureFn.of B.m B.T B.Q B.P fun vs r hF => ?_
  unfold F81 at hF
  split at hF
  · obtain ⟨h0, hr⟩ := onlyIf_some hF
    rename_i s
    simp only [Option.some.injEq] at hr; subst hr
    exact ⟨1, _, ev81 E h h123 s h0 _, .inl rfl⟩
  · cases hF

theorem p97 (B : Base P E) (h : E.code 121 = some c97) : PureFn P E 121 F97 := by
  refine PureFn.of_rec size97 B.m B.T B.Q B.P fun m vs r hF hs => ?_
  unfold F97 at hF
  split at hF
  · obtain ⟨⟨h0, h1, rfl⟩, hr⟩ := onlyIf_some hF
    rename_i c
    obtain ⟨k, rfl⟩ := Int.eq_ofNat_of_zero_le h0
    simp only [Option.some.injEq, Int.toNat_natCast] at hr; subst hr
    simp only [size97, Int.toNat_natCast] at hs
    subst hs
    exact ⟨1, _, ev97 E h 1 k (by omega), .inl rfl⟩
  · cases hF

theorem p45 (B : Base P E) (h : E.code 72 = some c45) (h97 : E.pure 121 = some F97) : PureFn P E 72 F45 := by
  refine PureFn.of B.m B.T B.Q B.P fun vs r hF => ?_
  unfold F45 at hF
  split at hF
  · obtain ⟨⟨h0, h1⟩, hr⟩ := onlyIf_some hF
    rename_i c
    obtain ⟨k, rfl⟩ := Int.eq_ofNat_of_zero_le h0
    simp only [Option.some.injEq, Int.toNat_natCast] at hr; subst hr
    exact ⟨1, _, ev45 E h h97 1 k (by omega), .inl rfl⟩
  · cases hF

theorem p78 (B : Base P E) (h : E.code 93 = some c78) : PureFn P E 93 F78 := by
  refine PureFn.of B.m B.T B.Q B.P fun vs r hF => ?_
  unfold F78 at hF
  split at hF
  · obtain ⟨h0, hr⟩ := onlyIf_some hF
    rename_i s
    simp only [Option.some.injEq] at hr; subst hr
    exact ⟨s.length + 1, _, ev78 E h s h0 _ (by omega), .inl rfl⟩
  · cases hF

theorem p55 (B : Base P E) (h : E.code 66 = some c55) : PureFn P E 66 F55 := by
  refine PureFn.of B.m B.T B.Q B.P fun vs r hF => ?_
  unfold F55 at hF
  split at hF
  · rename_i s ns ss a b
    simp only [Option.some.injEq] at hF; subst hF
    exact ⟨1, _, ev55 E h s ns ss a b 1, .inl rfl⟩
  · cases hF

theorem p122 (B : Base P E) (h : E.code 60 = some c122) : PureFn P E 60 F122 := by
  refine PureFn.of B.m B.T B.Q B.P fun vs r hF => ?_
  unfold F122 at hF
  split at hF
  · obtain ⟨⟨h0, h1, h2⟩, hr⟩ := onlyIf_some hF
    rename_i l b
    simp only [Option.some.injEq] at hr; subst hr
    have := ev122 E h b (l.map unstr) (by simpa using h1) h2 (l.length + 2) (by simp)
    rw [← h0] at this
    exact ⟨_, _, this, .inl rfl⟩
  · cases hF

theorem p82 (B : Base P E) (h : E.code 73 = some c82) (h45 : E.pure 72 = some F45) (h122 : E.pure 60 = some F122) : PureFn P E 73 F82 := by
  refine PureFn.of B.m B.T B.Q B.P fun vs r hF => ?_
  unfold F82 at hF
  split at hF
  · obtain ⟨⟨h0, h1, h2, h3⟩, hr⟩ := onlyIf_some hF
    rename_i l b
    simp only [Option.some.injEq] at hr; subst hr
    have := ev82 E h h45 h122 b (l.map unint) (by simpa using h1) h2 h3 (l.length + 1) (by simp)
    rw [← h0] at this
    exact ⟨_, _, this, .inl rfl⟩
  · cases hF

theorem p77 (B : Base P E) (h : E.code 92 = some c77) (h81 : E.pure 45 = some F81) (h45 : E.pure 72 = some F45) : PureFn P E 92 F77 := by
  refine PureFn.of B.m B.T B.Q B.P fun vs r hF => ?_
  unfold F77 at hF
  split at hF
  · obtain ⟨⟨h0, h1, h2⟩, hr⟩ := onlyIf_some hF
    rename_i l
    simp only [Option.some.injEq] at hr; subst hr
    have := ev77 E h h81 h45 (l.map unstr) (by simpa using h1) h2 (l.length + 1) (by simp)
    rw [← h0] at this
    exact ⟨_, _, this, .inl rfl⟩
  · cases hF

theorem p28 (B : Base P E) (h : E.code 59 = some c28) : PureFn P E 59 F28 := by
  refine PureFn.of B.m B.T B.Q B.P fun vs r hF => ?_
  unfold F28 at hF
  split at hF
  · obtain ⟨h0, hr⟩ := onlyIf_some hF
    rename_i s
    simp only [Option.some.injEq] at hr; subst hr
    obtain ⟨r, h1, h2⟩ := ev28 E h s h0 (s.length + 1) (by omega)
    exact ⟨_, r, h1, .inr ⟨_, rfl, h2⟩⟩
  · cases hF

theorem p52 (B : Base P E) (h : E.code 61 = some c52) : PureFn P E 61 F52 := by
  refine PureFn.of B.m B.T B.Q B.P fun vs r hF => ?_
  unfold F52 at hF
  split at hF
  · obtain ⟨h0, hr⟩ := onlyIf_some hF
    rename_i s
    simp only [Option.some.injEq] at hr; subst hr
    obtain ⟨r, h1, h2⟩ := ev52 E h s h0 (s.length + 1) (by omega)
    exact ⟨_, r, h1, .inr ⟨_, rfl, h2⟩⟩
  · cases hF

theorem p33 (B : Base P E) (h : E.code 30 = some c33) : PureFn P E 30 F33 := by
  refine PureFn.of B.m B.T B.Q B.P fun vs r hF => ?_
  unfold F33 at hF
  split at hF
  · rename_i a b
    simp only [Option.some.injEq] at hF; subst hF
    exact ⟨1, _, ev33 E h a b 1, .inl rfl⟩
  · cases hF

theorem p36 (B : Base P E) (h : E.code 51 = some c36) : PureFn P E 51 F36 := by
  refine PureFn.of B.m B.T B.Q B.P fun vs r hF => ?_
  unfold F36 at hF
  split at hF
  · rename_i a b
    simp only [Option.some.injEq] at hF; subst hF
    exact ⟨1, _, ev36 E h a b 1, .inl rfl⟩
  · cases hF

theorem p38 (B : Base P E) (h : E.code 53 = some c38) : PureFn P E 53 F38 := by
  refine PureFn.of B.m B.T B.Q B.P fun vs r hF => ?_
  unfold F38 at hF
  split at hF
  · rename_i a
    simp only [Option.some.injEq] at hF; subst hF
    exact ⟨1, _, ev38 E h a 1, .inl rfl⟩
  · cases hF

theorem p85 (B : Base P E) (h : E.code 98 = some c85) : PureFn P E 98 F85 := by
  refine PureFn.of B.m B.T B.Q B.P fun vs r hF => ?_
  unfold F85 at hF
  split at hF
  · rename_i a b
    simp only [Option.some.injEq] at hF; subst hF
    exact ⟨1, _, ev85 E h a b 1, .inl rfl⟩
  · cases hF

theorem p99 (B : Base P E) (h : E.code 99 = some c99) : PureFn P E 99 F99 := by
  refine PureFn.of B.m B.T B.Q B.P fun vs r hF => ?_
  unfold F99 at hF
  split at hF
  · obtain ⟨h0, hr⟩ := onlyIf_some hF
    rename_i s
    simp only [Option.some.injEq] at hr; subst hr
    exact ⟨1, _, ev99 E h s h0 1, .inl rfl⟩
  · cases hF

theorem p127 (B : Base P E) (h : E.code 76 = some c127) (hT : SpT E) : PureFn P E 76 F127 := by
  refine PureFn.of B.m B.T B.Q B.P fun vs r hF => ?_
  unfold F127 at hF
  split at hF
  · obtain ⟨⟨h0, h1⟩, hr⟩ := onlyIf_some hF
    rename_i s
    simp only [Option.some.injEq] at hr; subst hr
    exact ⟨s.length + 1, _, ev127 E h hT s h0 h1 _ (by omega), .inl rfl⟩
  · cases hF

end Go.Ev


set_option linter.unusedSimpArgs false
set_option linter.unusedVariables false
namespace Go.Ev
open Go.Proofs
variable {P : Program} {E : Env}

theorem p30 (B : Base P E) (h : E.code 71 = some c30) : PureFn P E 71 F30 := by
  refine PureFn.of B.m B.T B.Q B.P fun vs r hF => ?_
  unfold F30 at hF
  split at hF
  · rename_i a b
    simp only [Option.some.injEq] at hF; subst hF
    exact ⟨1, _, ev30 E h 1 a b, .inl rfl⟩
  · cases hF

end Go.Ev


set_option linter.unusedSimpArgs false
set_option linter.unusedVariables false
namespace Go.Ev
open Go.Proofs
variable {P : Program} {E : Env}

theorem p1084 (B : Base P E) (h : E.code 67 = some c1084) : PureFn P E 67 F1084 := by
  refine PureFn.of B.m B.T B.Q B.P fun vs r hF => ?_
  unfold F1084 at hF
  split at hF
  · rename_i l
    obtain ⟨⟨h1, h2⟩, hr⟩ := onlyIf_some hF
    simp only [Option.some.injEq] at hr; subst hr
    refine ⟨l.length + 1, _, ?_, .inl rfl⟩
    have := ev1084 E h (l.map unrow) (by simpa using h2) (l.length + 1) (by simp)
    rw [← h1] at this
    exact this
  · cases hF

def F8x : List SV → Option AV
  | [.str s] => some (.sv (.bool true))
  | _ => none

end Go.Ev

set_option linter.unusedSimpArgs false
set_option linter.unusedVariables false
namespace Go.Ev
open Go.Proofs

def codeTab : List (Nat × AFn) := [(16, c9), (14, c13), (22, c25), (23, c26), (24, c27), (59, c28), (71, c30), (30, c33), (51, c36), (53, c38), (72, c45), (61, c52), (66, c55), (63, c74), (92, c77), (93, c78), (45, c81), (73, c82), (98, c85), (74, c87), (75, c88), (77, c90), (121, c97), (99, c99), (116, c117), (117, c118), (118, c119), (119, c120), (120, c121), (60, c122), (96, c123), (133, c125), (76, c127), (85, c128), (131, c133), (125, c134), (146, c135), (143, c145), (156, c150), (163, c155), (168, c158), (170, c163), (171, c164), (179, c172), (181, c174), (9, c1015), (10, c1016), (21, c1035), (62, c1080), (50, c35), (38, c31), (94, c79), (95, c80), (124, c91), (67, c1084), (25, c3084), (27, c3086), (28, c3087), (29, c3088), (37, c3095), (65, c3147), (68, c3149), (69, c3150), (79, c3153), (80, c3154), (82, c3156), (83, c3157), (87, c3161), (89, c3163), (90, c3164), (3, c3009), (4, c3010), (5, c3011), (11, c3030), (12, c3031), (13, c3032), (15, c3033), (26, c3085), (31, c3089), (32, c3090), (33, c3091), (34, c3092), (35, c3093), (36, c3094), (70, c3151), (81, c3155), (84, c3158), (88, c3162), (91, c3165)]

theorem tabC {k : Nat} {c : AFn} {l : List (Nat × AFn)} (h : codeOf Tryz.prog k = some c) (t : ∀ p ∈ l, codeOf Tryz.prog p.1 = some p.2) : ∀ p ∈ (k, c) :: l, codeOf Tryz.prog p.1 = some p.2 := by
  intro p hp
  rcases List.mem_cons.1 hp with rfl | hp
  · exact h
  · exact t p hp

set_option maxRecDepth 100000 in
theorem codeTab_ok : ∀ p ∈ codeTab, codeOf Tryz.prog p.1 = some p.2 := by
  unfold codeTab
  refine tabC code9 ?_
  refine tabC code13 ?_
  refine tabC code25 ?_
  refine tabC code26 ?_
  refine tabC code27 ?_
  refine tabC code28 ?_
  refine tabC code30 ?_
  refine tabC code33 ?_
  refine tabC code36 ?_
  refine tabC code38 ?_
  refine tabC code45 ?_
  refine tabC code52 ?_
  refine tabC code55 ?_
  refine tabC code74 ?_
  refine tabC code77 ?_
  refine tabC code78 ?_
  refine tabC code81 ?_
  refine tabC code82 ?_
  refine tabC code85 ?_
  refine tabC code87 ?_
  refine tabC code88 ?_
  refine tabC code90 ?_
  refine tabC code97 ?_
  refine tabC code99 ?_
  refine tabC code117 ?_
  refine tabC code118 ?_
  refine tabC code119 ?_
  refine tabC code120 ?_
  refine tabC code121 ?_
  refine tabC code122 ?_
  refine tabC code123 ?_
  refine tabC code125 ?_
  refine tabC code127 ?_
  refine tabC code128 ?_
  refine tabC code133 ?_
  refine tabC code134 ?_
  refine tabC code135 ?_
  refine tabC code145 ?_
  refine tabC code150 ?_
  refine tabC code155 ?_
  refine tabC code158 ?_
  refine tabC code163 ?_
  refine tabC code164 ?_
  refine tabC code172 ?_
  refine tabC code174 ?_
  refine tabC code1015 ?_
  refine tabC code1016 ?_
  refine tabC code1035 ?_
  refine tabC code1080 ?_
  refine tabC code35 ?_
  refine tabC code31 ?_
  refine tabC code79 ?_
  refine tabC code80 ?_
  refine tabC code91 ?_
  refine tabC code1084 ?_
  refine tabC code3084 ?_
  refine tabC code3086 ?_
  refine tabC code3087 ?_
  refine tabC code3088 ?_
  refine tabC code3095 ?_
  refine tabC code3147 ?_
  refine tabC code3149 ?_
  refine tabC code3150 ?_
  refine tabC code3153 ?_
  refine tabC code3154 ?_
  refine tabC code3156 ?_
  refine tabC code3157 ?_
  refine tabC code3161 ?_
  refine tabC code3163 ?_
  refine tabC code3164 ?_
  refine tabC code3009 ?_
  refine tabC code3010 ?_
  refine tabC code3011 ?_
  refine tabC code3030 ?_
  refine tabC code3031 ?_
  refine tabC code3032 ?_
  refine tabC code3033 ?_
  refine tabC code3085 ?_
  refine tabC code3089 ?_
  refine tabC code3090 ?_
  refine tabC code3091 ?_
  refine tabC code3092 ?_
  refine tabC code3093 ?_
  refine tabC code3094 ?_
  refine tabC code3151 ?_
  refine tabC code3155 ?_
  refine tabC code3158 ?_
  refine tabC code3162 ?_
  refine tabC code3165 ?_
  intro p hp
  cases hp

def codeFn (f : Nat) : Option AFn := codeTab.lookup f

theorem codeFn_ok (f : Nat) (fn : AFn) (h : codeFn f = some fn) : codeOf Tryz.prog f = some fn := by
  unfold codeFn at h
  have key : ∀ (l : List (Nat × AFn)), l.lookup f = some fn → (f, fn) ∈ l := by
    intro l
    induction l with
    | nil => intro h; simp at h
    | cons p l ih =>
      obtain ⟨g, x⟩ := p
      intro h
      simp only [List.lookup] at h
      split at h
      · rename_i e
        have e' : f = g := by simpa using e
        simp only [Option.some.injEq] at h
        subst h; subst e'
        simp
      · simp [ih h]
  exact codeTab_ok (f, fn) (key _ h)

def lvl (E : Env) (L : List Nat) (N : Nat) : Nat → Env
  | 0 => E
  | k + 1 => { E with pure := fun f => if L.contains f then some (fun vs => evP (lvl E L N k) N f vs) else E.pure f }

theorem lvl_same (E : Env) (L : List Nat) (N : Nat) : ∀ k, (lvl E L N k).glob = E.glob ∧ (lvl E L N k).code = E.code ∧ (lvl E L N k).quiet = E.quiet
  | 0 => ⟨rfl, rfl, rfl⟩
  | _ + 1 => ⟨rfl, rfl, rfl⟩

theorem lvl_ok {P : Program} {E : Env} (hm : P.follows .mixedOrders = true) (hT : CodeT P E) (hQ : QuietOK P E) (hP : PureOK P E) (L : List Nat) (N : Nat) : ∀ k, PureOK P (lvl E L N k)
  | 0 => hP
  | k + 1 => by
    obtain ⟨h1, h2, h3⟩ := lvl_same E L N k
    refine ⟨fun f F hf => ?_, fun f k hf => ?_⟩
    rotate_left
    · exact hP.2 f _ hf
    simp only [lvl] at hf
    split at hf
    · simp only [Option.some.injEq] at hf
      subst hf
      have hT' : CodeT P (lvl E L N k) := by intro g fn hg; rw [h2] at hg; exact hT g fn hg
      have hQ' : QuietOK P (lvl E L N k) := by intro g hg; rw [h3] at hg; exact hQ g hg
      exact (evP_ok hm hT' hQ' (lvl_ok hm hT hQ hP L N k) N f).glob h1.symm
    · exact (hP.1 f F hf).glob rfl

def unlit : DataW Unit → Lit
  | .lit l => l
  | _ => .nil

/-- A laid datum's plain values. -/
def lits : DataW Unit → List Lit
  | .agg l => l.map unlit
  | .slice l _ => l.map unlit
  | d => [unlit d]

/-- The cells of a variable that is laid. -/
def svD (d : DataW Unit) : List SV := match d with
  | .slice _ _ => [.sl ((lits d).map litS)]
  | d => (lits d).map litS

def globT (f : Nat) : List SV := match f with
  | 1 => svD YtgeaomghbiamgaaGreatDoor.Rows.laid_strings_asciiSpace
  | 7 => svD YtgeaomghbiamgaaGreatDoor.Rows.laid_internal_strconv_float32info
  | 8 => svD YtgeaomghbiamgaaGreatDoor.Rows.laid_internal_strconv_optimize
  | 9 => svD YtgeaomghbiamgaaGreatDoor.Rows.laid_internal_strconv_float64info
  | 13 => svD YtgeaomghbiamgaaGreatDoor.Rows.laid_internal_strconv_uint64pow10
  | 12 => svD YtgeaomghbiamgaaGreatDoor.Rows.laid_internal_strconv_float64pow10
  | _ => []

def E0 : Env := { glob := globT, pure := fun _ => none, code := codeFn, quiet := quietT, look := fun f => if f = 85 then some 3 else none }

def livesL : List Nat := [53, 98, 99, 131, 76, 143, 156, 163, 168, 170, 171, 146, 179, 181, 119, 120, 118, 117]

set_option maxRecDepth 100000 in
theorem lives_ev : evP (lvl E0 livesL 200 12) 200 22 [] = some (.sv (.bool true)) := by kernel_rfl

theorem follows : Tryz.prog.follows .mixedOrders = true := by kernel_rfl

theorem look0 : LookOK Tryz.prog E0 := by
  intro f k h b w u hu us hs h0
  have h' : (if f = 85 then some 3 else none) = some k := h
  split at h' <;> simp only [Option.some.injEq, reduceCtorEq] at h'
  rename_i e
  subst e; subst h'
  exact .inr ⟨85, us, by simp [callFunc, Tryz.func85, show (Tryz.f85.name == "runtime.NumGoroutine") = false by kernel_rfl, show Tryz.f85.name ≠ "runtime.NumGoroutine" from of_decide_eq_true (by kernel_rfl), Tryz.f85], (lookErr b w u hu us hs h0).mono fun e w' h => h⟩

theorem b0 : Base Tryz.prog E0 := ⟨follows, codeT_of codeFn_ok, quiet_ok E0 rfl, And.intro (fun f F h => by cases h) look0⟩

theorem p25 (E : Env) (hE : E.glob = globT) : PureFn Tryz.prog E 22 F25 := by
  have h : PureFn Tryz.prog (lvl E0 livesL 200 12) 22 (evP (lvl E0 livesL 200 12) 200 22) := by
    obtain ⟨h1, h2, h3⟩ := lvl_same E0 livesL 200 12
    exact evP_ok follows (fun g fn hg => b0.T g fn (by rw [h2] at hg; exact hg)) (fun g hg => b0.Q g (by rw [h3] at hg; exact hg)) (lvl_ok follows b0.T b0.Q b0.P livesL 200 12) 200 22
  refine (h.glob (E' := E) (by rw [hE, (lvl_same E0 livesL 200 12).1]; rfl)).mono fun vs r hr => ?_
  unfold F25 at hr
  split at hr
  · rw [lives_ev]; exact hr
  · cases hr

theorem p75 (E : Env) : PureFn Tryz.prog E 64 F75 := by
  intro vs r hF F0 w us hG hw hs hr
  unfold F75 at hF
  split at hF
  · rename_i b
    simp only [Option.some.injEq] at hF; subst hF
    have h0 := hr 0 (.flt .f64 b) rfl
    have hsz : us.size = 1 := by simpa using hs
    obtain ⟨l⟩ := us
    match l, hsz with
    | [u], _ =>
      have hu : u = .float .f64 b := by
        have : RepS F0 (.flt .f64 b) u := by simpa using h0
        cases this; rfl
      subst hu
      refine .inl ⟨.int .u64 b, w, ?_, ⟨F0, [], fun _ => none, fun _ => none⟩, ⟨rfl, rfl, rfl, Nat.le_refl _, fun _ _ => rfl, fun _ _ _ h => h, fun _ _ _ _ h => h, hw, rfl, rfl, fun _ _ => rfl, fun _ _ _ h => by cases h⟩, .sv _ _ _ (.int _ _)⟩
      rw [run_callFunc_extern Tryz.func64 (by kernel_rfl) (by kernel_rfl) (by kernel_rfl) (e := Extern.MathFloatBits.float64bits) (by kernel_rfl)]
      rfl
  · cases hF

def spCheck (l : List SV) : Bool := (List.range 128).all fun k => match l[k]? with
  | some (.int .u8 n) => n == ((if (decide (9 ≤ k) && decide (k ≤ 13)) || k == 32 then 1 else 0 : Nat) : Int)
  | _ => false

theorem spCheck_ok : spCheck (globT 1) = true := by kernel_rfl

theorem spT0 : SpT E0 := by
  intro c hc
  have h := List.all_eq_true.1 spCheck_ok c.toNat (List.mem_range.2 hc)
  show (globT 1).drop c.toNat = _
  have hl : c.toNat < (globT 1).length := by
    refine Decidable.byContradiction fun hn => ?_
    rw [List.getElem?_eq_none (by omega)] at h
    cases h
  rw [List.drop_eq_getElem_cons hl]
  congr 1
  rw [List.getElem?_eq_getElem hl] at h
  split at h
  · rename_i n hx
    simp only [Option.some.injEq] at hx
    rw [hx]
    have : n = (spV c : Nat) := by
      simp only [beq_iff_eq] at h
      rw [h]; unfold spV spC; rfl
    rw [this]
  · cases h

end Go.Ev

set_option linter.unusedSimpArgs false
set_option linter.unusedVariables false
namespace Go.Ev
open Go.Proofs

theorem Base.add {P : Program} {E : Env} (B : Base P E) {f : Nat} {F : List SV → Option AV} (hF : PureFn P E f F) : Base P (E.add f F) := ⟨B.m, fun g fn h => B.T g fn h, fun g h => B.Q g h, B.P.add hF⟩

theorem p27 {P : Program} {E : Env} (B : Base P E) (h : E.code 24 = some c27) : PureFn P E 24 F27 := pure27 B.m B.T B.Q B.P h
theorem p26 {P : Program} {E : Env} (B : Base P E) (h : E.code 23 = some c26) (h75 : E.pure 64 = some F75) : PureFn P E 23 F26 := pure26 B.m B.T B.Q B.P h h75

end Go.Ev


set_option linter.unusedSimpArgs false
set_option linter.unusedVariables false
namespace Go.Ev
open Go.Proofs
variable {P : Program} {E : Env}

theorem p1080 (B : Base P E) (h : E.code 62 = some c1080) : PureFn P E 62 F1080 := by
  refine PureFn.of B.m B.T B.Q B.P fun vs r hF => ?_
  unfold F1080 at hF
  split at hF
  · rename_i l
    obtain ⟨h1, hr⟩ := onlyIf_some hF
    simp only [Option.some.injEq] at hr; subst hr
    refine ⟨l.length + 1, _, ?_, .inl rfl⟩
    have := ev1080 E h (l.map unstr) (l.length + 1) (.inl (by simp))
    rw [← h1] at this
    exact this
  · cases hF

theorem p1035 (B : Base P E) (h : E.code 21 = some c1035) (h80 : E.pure 62 = some F1080) : PureFn P E 21 F1035 := by
  refine PureFn.of B.m B.T B.Q B.P fun vs r hF => ?_
  unfold F1035 at hF
  split at hF
  · rename_i s ns ss
    obtain ⟨h1, hr⟩ := onlyIf_some hF
    simp only [Option.some.injEq] at hr; subst hr
    refine ⟨1, _, ?_, .inl rfl⟩
    have := ev1035 E h h80 (unrow (.agg [.str s, .sl ns, .sl ss])) 1
    rw [show SV.agg [.str (unrow (.agg [.str s, .sl ns, .sl ss])).name, .sl (u64s (unrow (.agg [.str s, .sl ns, .sl ss])).N), .sl (strs (unrow (.agg [.str s, .sl ns, .sl ss])).S)] = (unrow (.agg [.str s, .sl ns, .sl ss])).sv from rfl, ← h1] at this
    exact this
  · cases hF

theorem p1015 (B : Base P E) (h : E.code 9 = some c1015) (h35 : E.pure 21 = some F1035) : PureFn P E 9 F1015 := by
  refine PureFn.of B.m B.T B.Q B.P fun vs r hF => ?_
  unfold F1015 at hF
  split at hF
  · rename_i l
    obtain ⟨h1, hr⟩ := onlyIf_some hF
    simp only [Option.some.injEq] at hr; subst hr
    refine ⟨l.length + 1, _, ?_, .inl rfl⟩
    have := ev1015 E h h35 (l.map unrow) (l.length + 1) (.inl (by simp))
    rw [← h1] at this
    exact this
  · cases hF

end Go.Ev

set_option linter.unusedSimpArgs false
set_option linter.unusedVariables false
namespace Go.Ev
open Go.Proofs

/-! ### Parts between a sign -/

/-! ### Hexadecimal numbers -/

def hexN (a : Nat) (s : List UInt8) : Nat := s.foldl (fun a c => a * 16 + digitV c.toNat) a

theorem hexN_nil (a : Nat) : hexN a [] = a := by unfold hexN; rw [List.foldl_nil]
theorem hexN_cons (a : Nat) (c : UInt8) (s : List UInt8) : hexN a (c :: s) = hexN (a * 16 + digitV c.toNat) s := by unfold hexN; rw [List.foldl_cons]
theorem hexN_ge : ∀ (s : List UInt8) (a : Nat), a ≤ hexN a s
  | [], a => by rw [hexN_nil]; exact Nat.le_refl _
  | c :: s, a => by rw [hexN_cons]; have := hexN_ge s (a * 16 + digitV c.toNat); omega

end Go.Ev

set_option linter.unusedSimpArgs false
set_option linter.unusedVariables false
namespace Go.Ev
open Go.Proofs

/-! ### What the reference reads -/

/-! ### What is written is read -/

/-- Two words and a colon between. -/
def two (a b : List UInt8) : List UInt8 := a ++ ([58] ++ b)

theorem fieldG_word1 {w rest : List UInt8} (h : w ≠ [] ∧ ∀ c ∈ w, blankC c = false) : fieldG [] (w ++ ([32] ++ rest)) = w :: fieldG [] rest :=
  fieldG_sep h.1 h.2 (by decide)

theorem plain_word {c : UInt8} (h : wordC c = true) : c.toNat ≠ 10 ∧ plainC c = true := ⟨(wordC_blank h).2, wordC_plain h⟩

end Go.Ev
