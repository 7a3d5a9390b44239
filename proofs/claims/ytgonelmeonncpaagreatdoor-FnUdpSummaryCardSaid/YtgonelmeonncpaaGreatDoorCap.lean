/- Tables of sockets: what is written, and what the reference reads. -/
/- Parts of a text, padding, hexadecimal numbers: the reference's functions. -/
/- Entries: digits, laws of rows. -/
/- Numbers of base 16, and of any base by their writing; texts split: the program's functions. -/
/- Texts split at a sign, addresses: the program's functions. -/
/- A socket's line: the program's reading. -/
/- Tables of sockets: the tree, and what the program holds of a socket. -/
/- Sockets: the program's trees of them. -/
import Derived.Test.YtgonelmeonncpaaGreatDoorCao
import Derived.Test.YtgonelmeonncpaaGreatDoorCaf
set_option linter.unusedSimpArgs false
set_option linter.unusedVariables false
namespace Go.Ev
open Go.Proofs

def skHeadL : List UInt8 := [32, 32, 115, 108, 32, 32, 108, 111, 99, 97, 108, 95, 97, 100, 100, 114, 101, 115, 115, 32, 114, 101, 109, 95, 97, 100, 100, 114, 101, 115, 115, 32, 32, 32, 115, 116, 32, 116, 120, 95, 113, 117, 101, 117, 101, 32, 114, 120, 95, 113, 117, 101, 117, 101, 32, 116, 114, 32, 116, 109, 45, 62, 119, 104, 101, 110, 32, 114, 101, 116, 114, 110, 115, 109, 116, 32, 32, 32, 117, 105, 100, 32, 32, 116, 105, 109, 101, 111, 117, 116, 32, 105, 110, 111, 100, 101]

def skHead : List UInt8 := skHeadL ++ [10]

def addrOk (s : List UInt8) (n : Nat) : Bool := (decide (s.length = 8) || decide (s.length = 32)) && decide (s.length = n) && s.all addrC

/-- Is the row a socket? -/
def skOk (drops : Bool) (r : RowD) : Bool := match r.N, r.S with
  | [n0, n1, n2, n3, n4, n5, n6, n7, n8], [a, b] =>
    decide (n0 < 2147483648) && decide (n1 < 65536) && decide (n2 < 65536) && decide (1 ≤ n3) && decide (n3 ≤ 12) && decide (n4 < 4294967296) && decide (n5 < 4294967296) && decide (n6 < 4294967296) &&
      decide (n7 < 9223372036854775808) && decide (n8 < 9223372036854775808) && (drops || decide (n8 = 0)) && (r.name == []) && addrOk a a.length && addrOk b a.length
  | _, _ => false

structure SkR (drops : Bool) (r : RowD) (n0 n1 n2 n3 n4 n5 n6 n7 n8 : Nat) (a b : List UInt8) : Prop where
  hN : r.N = [n0, n1, n2, n3, n4, n5, n6, n7, n8]
  hS : r.S = [a, b]
  hn : r.name = []
  h0 : n0 < 2147483648
  h1 : n1 < 65536
  h2 : n2 < 65536
  h3 : 1 ≤ n3 ∧ n3 ≤ 12
  h4 : n4 < 4294967296
  h5 : n5 < 4294967296
  h6 : n6 < 4294967296
  h7 : n7 < 9223372036854775808
  h8 : n8 < 9223372036854775808
  hd : drops = true ∨ n8 = 0
  ha : a.length = 8 ∨ a.length = 32
  hb : b.length = a.length
  ca : ∀ c ∈ a, addrC c = true
  cb : ∀ c ∈ b, addrC c = true

theorem skOk_spec {drops : Bool} {r : RowD} (h : skOk drops r = true) : ∃ n0 n1 n2 n3 n4 n5 n6 n7 n8 a b, SkR drops r n0 n1 n2 n3 n4 n5 n6 n7 n8 a b := by
  unfold skOk at h
  split at h
  · rename_i n0 n1 n2 n3 n4 n5 n6 n7 n8 a b hN hS
    simp only [addrOk, Bool.and_eq_true, Bool.or_eq_true, decide_eq_true_eq, beq_iff_eq, List.all_eq_true] at h
    obtain ⟨⟨⟨⟨⟨⟨⟨⟨⟨⟨⟨⟨⟨h0, h1⟩, h2⟩, h3⟩, h3'⟩, h4⟩, h5⟩, h6⟩, h7⟩, h8⟩, hd⟩, hn⟩, ⟨ha, _⟩, ca⟩, ⟨_, hb⟩, cb⟩ := h
    exact ⟨n0, n1, n2, n3, n4, n5, n6, n7, n8, a, b, hN, hS, hn, h0, h1, h2, ⟨h3, h3'⟩, h4, h5, h6, h7, h8, hd, ha, hb, ca, cb⟩
  · simp at h

def skLast (drops : Bool) (n8 : Nat) : List UInt8 := if drops then [32, 50, 32, 48, 48, 48, 48, 48, 48, 48, 48, 48, 48, 48, 48, 48, 48, 48, 48, 32] ++ decS n8 else [32, 49, 32, 48, 48, 48, 48, 48, 48, 48, 48, 48, 48, 48, 48, 48, 48, 48, 48, 32, 49, 48, 48, 32, 48, 32, 48, 32, 49, 48, 32, 48]

/-- A socket's line. -/
def skBody (drops : Bool) (r : RowD) : List UInt8 := match r.N, r.S with
  | [n0, n1, n2, n3, n4, n5, n6, n7, n8], [a, b] =>
    rightS (decS n0) 4 ++ ([58, 32] ++ (a ++ ([58] ++ (upS n1 4 ++ ([32] ++ (b ++ ([58] ++ (upS n2 4 ++ ([32] ++ (upS n3 2 ++ ([32] ++ (upS n4 8 ++ ([58] ++ (upS n5 8 ++
      ([32, 48, 48, 58, 48, 48, 48, 48, 48, 48, 48, 48, 32, 48, 48, 48, 48, 48, 48, 48, 48, 32] ++ (rightS (decS n6) 5 ++ ([32, 32, 32, 32, 32, 32, 32, 32, 48, 32] ++ (decS n7 ++ skLast drops n8))))))))))))))))))
  | _, _ => []

def skText (drops : Bool) (rs : List RowD) : List UInt8 := skHead ++ (rs.map fun r => skBody drops r ++ [10]).flatten

/-! ### What the reference reads -/

def endsC (s : List UInt8) : Bool := decide (1 ≤ s.length) && (s.drop (s.length - 1) == [58])

def skV (f0 f1 f2 f3 f4 f7 f9 last : List UInt8) : Option RowD :=
  match partG 58 [] f1, partG 58 [] f2, partG 58 [] f4 with
  | [a0, a1], [b0, b1], [q0, q1] => match decsV [f0.take (f0.length - 1), f7, f9, last] with
    | some [d0, d1, d2, d3] => match hexsV [a1, b1, f3, q0, q1] with
      | some [h0, h1, h2, h3, h4] => some ⟨[], [d0, h0, h1, h2, h3, h4, d1, d2, d3], [a0, b0]⟩
      | _ => none
    | _ => none
  | _, _, _ => none

def skFld (f : List (List UInt8)) (i : Nat) : List UInt8 := f.getD i []

def skLineV (drops : Bool) (f : List (List UInt8)) : Option RowD :=
  if f.length = (if drops then 13 else 17) ∧ endsC (skFld f 0) = true then
    skV (skFld f 0) (skFld f 1) (skFld f 2) (skFld f 3) (skFld f 4) (skFld f 7) (skFld f 9) (if drops then skFld f 12 else [48])
  else none

def skTabV (drops : Bool) : List (List UInt8) → Option (List RowD)
  | [] => some []
  | s :: l => match skLineV drops (fieldsL s) with
    | some r => match skTabV drops l with
      | some rs => some (r :: rs)
      | none => none
    | none => none

/-- What the reference reads, where it tells. -/
def skRead (drops : Bool) (s : List UInt8) : Option (List RowD) :=
  if s.all plainC = true ∧ s.take skHead.length = skHead then match skTabV drops (linesL (s.drop skHead.length)) with
    | some rs => if rs.all (skOk drops) = true then some rs else none
    | none => none
  else none

/-! ### What is written is read -/

theorem fieldG_right {w rest : List UInt8} {n : Nat} : fieldG [] (rightS w n ++ rest) = fieldG [] (w ++ rest) := by
  unfold rightS
  rw [List.append_assoc]
  exact fieldG_skip _ _

theorem decS_word (n : Nat) : decS n ≠ [] ∧ ∀ c ∈ decS n, blankC c = false ∧ c.toNat ≠ 58 ∧ c.toNat ≠ 10 := by
  obtain ⟨_, h1, h2⟩ := decS_dig n
  refine ⟨h2, fun c hc => ?_⟩
  have := digC_iff.1 (h1 c hc)
  refine ⟨(digC_blank (h1 c hc)).1, by omega, by omega⟩

theorem upS_word (n k : Nat) : upS n k ≠ [] ∧ ∀ c ∈ upS n k, blankC c = false ∧ c.toNat ≠ 58 := by
  obtain ⟨_, h1, h2⟩ := upS_hex n k
  refine ⟨h2, fun c hc => ?_⟩
  obtain ⟨g1, g2⟩ := addrC_word (h1 c hc)
  exact ⟨(wordC_blank g1).1, g2⟩

/-- Two words and a colon between. -/
def two (a b : List UInt8) : List UInt8 := a ++ ([58] ++ b)

theorem two_word {a b : List UInt8} (ha : ∀ c ∈ a, blankC c = false) (hb : ∀ c ∈ b, blankC c = false) : two a b ≠ [] ∧ ∀ c ∈ two a b, blankC c = false := by
  refine ⟨by simp [two], fun c hc => ?_⟩
  unfold two at hc
  rcases List.mem_append.1 hc with hc | hc
  · exact ha c hc
  · rcases List.mem_append.1 hc with hc | hc
    · obtain rfl := List.mem_singleton.1 hc; decide
    · exact hb c hc

theorem fieldG_word1 {w rest : List UInt8} (h : w ≠ [] ∧ ∀ c ∈ w, blankC c = false) : fieldG [] (w ++ ([32] ++ rest)) = w :: fieldG [] rest :=
  fieldG_sep h.1 h.2 (by decide)

theorem skLast_fields (drops : Bool) (n7 n8 : Nat) : fieldG [] (decS n7 ++ skLast drops n8) = decS n7 :: (if drops then [[50], List.replicate 16 48, decS n8] else [[49], List.replicate 16 48, [49, 48, 48], [48], [48], [49, 48], [48]]) := by
  have h7 := decS_word n7
  have h8 := decS_word n8
  cases drops with
  | true =>
    simp only [skLast, if_true]
    rw [show ([32, 50, 32, 48, 48, 48, 48, 48, 48, 48, 48, 48, 48, 48, 48, 48, 48, 48, 48, 32] ++ decS n8 : List UInt8) = [32] ++ ([50] ++ ([32] ++ (List.replicate 16 48 ++ ([32] ++ decS n8)))) from rfl]
    rw [fieldG_word1 ⟨h7.1, fun c hc => (h7.2 c hc).1⟩, fieldG_word1 ⟨by decide, by decide⟩, fieldG_word1 ⟨by decide, by decide⟩, fieldG_last h8.1 (fun c hc => (h8.2 c hc).1)]
  | false =>
    simp only [skLast, Bool.false_eq_true, if_false]
    rw [show ([32, 49, 32, 48, 48, 48, 48, 48, 48, 48, 48, 48, 48, 48, 48, 48, 48, 48, 48, 32, 49, 48, 48, 32, 48, 32, 48, 32, 49, 48, 32, 48] : List UInt8) = [32] ++ ([49] ++ ([32] ++ (List.replicate 16 48 ++ ([32] ++ ([49, 48, 48] ++ ([32] ++ ([48] ++ ([32] ++ ([48] ++ ([32] ++ ([49, 48] ++ ([32] ++ [48])))))))))))) from rfl]
    rw [fieldG_word1 ⟨h7.1, fun c hc => (h7.2 c hc).1⟩, fieldG_word1 ⟨by decide, by decide⟩, fieldG_word1 ⟨by decide, by decide⟩, fieldG_word1 ⟨by decide, by decide⟩, fieldG_word1 ⟨by decide, by decide⟩, fieldG_word1 ⟨by decide, by decide⟩, fieldG_word1 ⟨by decide, by decide⟩, fieldG_last (by decide) (by decide)]

theorem skBody_fields {drops : Bool} {r : RowD} {n0 n1 n2 n3 n4 n5 n6 n7 n8 : Nat} {a b : List UInt8} (h : SkR drops r n0 n1 n2 n3 n4 n5 n6 n7 n8 a b) :
    fieldsL (skBody drops r) = (decS n0 ++ [58]) :: two a (upS n1 4) :: two b (upS n2 4) :: upS n3 2 :: two (upS n4 8) (upS n5 8) :: [48, 48, 58, 48, 48, 48, 48, 48, 48, 48, 48] :: [48, 48, 48, 48, 48, 48, 48, 48] :: decS n6 :: [48] :: decS n7 :: (if drops then [[50], List.replicate 16 48, decS n8] else [[49], List.replicate 16 48, [49, 48, 48], [48], [48], [49, 48], [48]]) := by
  rw [fieldsL_eq]
  unfold skBody
  simp only [h.hN, h.hS]
  have bl : ∀ {n : Nat}, ∀ c ∈ decS n, blankC c = false := fun c hc => ((decS_word _).2 c hc).1
  have bu : ∀ {n k : Nat}, ∀ c ∈ upS n k, blankC c = false := fun c hc => ((upS_word _ _).2 c hc).1
  have ba : ∀ c ∈ a, blankC c = false := fun c hc => (wordC_blank (addrC_word (h.ca c hc)).1).1
  have bb : ∀ c ∈ b, blankC c = false := fun c hc => (wordC_blank (addrC_word (h.cb c hc)).1).1
  rw [fieldG_right]
  rw [show ∀ x : List UInt8, decS n0 ++ ([58, 32] ++ x) = (decS n0 ++ [58]) ++ ([32] ++ x) from fun x => by simp]
  rw [fieldG_word1 ⟨by simp, fun c hc => by
    rcases List.mem_append.1 hc with hc | hc
    · exact bl c hc
    · obtain rfl := List.mem_singleton.1 hc; decide⟩]
  rw [show ∀ u v x : List UInt8, u ++ ([58] ++ (v ++ x)) = two u v ++ x from fun u v x => by simp [two]]
  rw [fieldG_word1 (two_word ba bu)]
  rw [show ∀ u v x : List UInt8, u ++ ([58] ++ (v ++ x)) = two u v ++ x from fun u v x => by simp [two]]
  rw [fieldG_word1 (two_word bb bu), fieldG_word1 ⟨(upS_word _ _).1, bu⟩]
  rw [show ∀ u v x : List UInt8, u ++ ([58] ++ (v ++ x)) = two u v ++ x from fun u v x => by simp [two]]
  rw [show ∀ x : List UInt8, ([32, 48, 48, 58, 48, 48, 48, 48, 48, 48, 48, 48, 32, 48, 48, 48, 48, 48, 48, 48, 48, 32] ++ x) = [32] ++ ([48, 48, 58, 48, 48, 48, 48, 48, 48, 48, 48] ++ ([32] ++ ([48, 48, 48, 48, 48, 48, 48, 48] ++ ([32] ++ x)))) from fun x => rfl]
  rw [fieldG_word1 (two_word bu bu), fieldG_word1 ⟨by decide, by decide⟩, fieldG_word1 ⟨by decide, by decide⟩, fieldG_right]
  rw [show ∀ x : List UInt8, ([32, 32, 32, 32, 32, 32, 32, 32, 48, 32] ++ x) = [32] ++ (List.replicate 7 32 ++ ([48] ++ ([32] ++ x))) from fun x => rfl]
  rw [fieldG_word1 ⟨(decS_word _).1, bl⟩, fieldG_skip, fieldG_word1 ⟨by decide, by decide⟩, skLast_fields]

theorem decsV_dec : ∀ {ns : List Nat}, (∀ n ∈ ns, n < 18446744073709551616) → decsV (ns.map decS) = some ns
  | [], _ => rfl
  | n :: ns, h => by
    have ih := decsV_dec (ns := ns) (fun m hm => h m (List.mem_cons_of_mem _ hm))
    simp only [List.map_cons, decsV, decV_decS (h n (by simp)), ih]

theorem two_parts {a b : List UInt8} (ha : ∀ c ∈ a, c.toNat ≠ 58) (hb : ∀ c ∈ b, c.toNat ≠ 58) : partG 58 [] (two a b) = [a, b] :=
  partG_two (b := 58) ha hb

theorem skLine_body {drops : Bool} {r : RowD} (h : skOk drops r = true) : skLineV drops (fieldsL (skBody drops r)) = some r := by
  obtain ⟨n0, n1, n2, n3, n4, n5, n6, n7, n8, a, b, hs⟩ := skOk_spec h
  have e0 : endsC (decS n0 ++ [58]) = true := by
    unfold endsC
    rw [List.length_append, show (decS n0).length + [(58 : UInt8)].length - 1 = (decS n0).length from by simp, List.drop_left]
    simp
  have e1 : (decS n0 ++ [58]).take ((decS n0 ++ [58]).length - 1) = decS n0 := by
    rw [List.length_append, show (decS n0).length + [(58 : UInt8)].length - 1 = (decS n0).length from by simp, List.take_left]
  have cu : ∀ {n k : Nat}, ∀ c ∈ upS n k, c.toNat ≠ 58 := fun c hc => ((upS_word _ _).2 c hc).2
  have ca : ∀ c ∈ a, c.toNat ≠ 58 := fun c hc => (addrC_word (hs.ca c hc)).2
  have cb : ∀ c ∈ b, c.toNat ≠ 58 := fun c hc => (addrC_word (hs.cb c hc)).2
  have hd : ∀ {m : Nat}, m < 18446744073709551616 → decsV [decS n0, decS n6, decS n7, decS m] = some [n0, n6, n7, m] := fun {m} hm => by
    refine decsV_dec (ns := [n0, n6, n7, m]) fun n hn => ?_
    have := hs.h0; have := hs.h6; have := hs.h7
    simp only [List.mem_cons, List.not_mem_nil, or_false] at hn
    rcases hn with rfl | rfl | rfl | rfl <;> omega
  have hx : hexsV [upS n1 4, upS n2 4, upS n3 2, upS n4 8, upS n5 8] = some [n1, n2, n3, n4, n5] := by
    have := hs.h1; have := hs.h2; have := hs.h3; have := hs.h4; have := hs.h5
    simp only [hexsV, hexV_upS (show n1 < 18446744073709551616 by omega), hexV_upS (show n2 < 18446744073709551616 by omega), hexV_upS (show n3 < 18446744073709551616 by omega), hexV_upS (show n4 < 18446744073709551616 by omega), hexV_upS (show n5 < 18446744073709551616 by omega)]
  have h8 := hs.h8
  have key : ∀ m, m < 18446744073709551616 → skV (decS n0 ++ [58]) (two a (upS n1 4)) (two b (upS n2 4)) (upS n3 2) (two (upS n4 8) (upS n5 8)) (decS n6) (decS n7) (decS m) = some ⟨[], [n0, n1, n2, n3, n4, n5, n6, n7, m], [a, b]⟩ := by
    intro m hm
    unfold skV
    simp only [two_parts ca cu, two_parts cb cu, two_parts cu cu, e1, hd hm, hx]
  have hr : r = ⟨[], [n0, n1, n2, n3, n4, n5, n6, n7, n8], [a, b]⟩ := by
    obtain ⟨nm, N, S⟩ := r
    have h1 := hs.hN; have h2 := hs.hS; have h3 := hs.hn
    simp only at h1 h2 h3
    rw [h1, h2, h3]
  unfold skLineV
  rw [skBody_fields hs]
  cases drops with
  | true =>
    simp only [skFld, List.length_cons, List.length_nil, if_true, List.getD_cons_zero, List.getD_cons_succ]
    rw [if_pos ⟨trivial, e0⟩, key n8 (by omega), ← hr]
  | false =>
    have h0 : n8 = 0 := by
      rcases hs.hd with e | e
      · cases e
      · exact e
    simp only [skFld, List.length_cons, List.length_nil, Bool.false_eq_true, if_false, List.getD_cons_zero, List.getD_cons_succ]
    rw [if_pos ⟨trivial, e0⟩]
    have := key 0 (by omega)
    rw [show decS 0 = [48] from by rw [decS_small (by omega)]; rfl] at this
    rw [this, hr, h0]

theorem skTab_bodies {drops : Bool} : ∀ {rs : List RowD}, (∀ r ∈ rs, skOk drops r = true) → skTabV drops (rs.map (skBody drops)) = some rs
  | [], _ => rfl
  | r :: rs, h => by
    simp only [List.map_cons, skTabV, skLine_body (h r (by simp)), skTab_bodies (rs := rs) (fun q hq => h q (by simp [hq]))]

theorem plain_word {c : UInt8} (h : wordC c = true) : c.toNat ≠ 10 ∧ plainC c = true := ⟨(wordC_blank h).2, wordC_plain h⟩

theorem skBody_chars {drops : Bool} {r : RowD} (h : skOk drops r = true) : ∀ c ∈ skBody drops r, c.toNat ≠ 10 ∧ plainC c = true := by
  obtain ⟨n0, n1, n2, n3, n4, n5, n6, n7, n8, a, b, hs⟩ := skOk_spec h
  have bl : ∀ {n : Nat}, ∀ c ∈ decS n, c.toNat ≠ 10 ∧ plainC c = true := fun {n} c hc => by
    obtain ⟨_, g1, _⟩ := decS_dig n
    exact ⟨(digC_blank (g1 c hc)).2, digC_plain (g1 c hc)⟩
  have bu : ∀ {n k : Nat}, ∀ c ∈ upS n k, c.toNat ≠ 10 ∧ plainC c = true := fun {n k} c hc => by
    obtain ⟨_, g1, _⟩ := upS_hex n k
    exact plain_word (addrC_word (g1 c hc)).1
  have ba : ∀ c ∈ a, c.toNat ≠ 10 ∧ plainC c = true := fun c hc => plain_word (addrC_word (hs.ca c hc)).1
  have bb : ∀ c ∈ b, c.toNat ≠ 10 ∧ plainC c = true := fun c hc => plain_word (addrC_word (hs.cb c hc)).1
  have br : ∀ {n k : Nat}, ∀ c ∈ rightS (decS n) k, c.toNat ≠ 10 ∧ plainC c = true := fun {n k} c hc => by
    unfold rightS at hc
    rcases List.mem_append.1 hc with hc | hc
    · rw [(List.mem_replicate.1 hc).2]; decide
    · exact bl c hc
  have lit : ∀ l : List UInt8, l.all (fun c => decide (c.toNat ≠ 10) && plainC c) = true → ∀ c ∈ l, c.toNat ≠ 10 ∧ plainC c = true := fun l hl c hc => by
    have := List.all_eq_true.1 hl c hc
    simpa using this
  have bk : ∀ c ∈ skLast drops n8, c.toNat ≠ 10 ∧ plainC c = true := by
    unfold skLast
    cases drops with
    | true =>
      simp only [if_true]
      intro c hc
      rcases List.mem_append.1 hc with hc | hc
      · exact lit _ (by decide) c hc
      · exact bl c hc
    | false => simp only [Bool.false_eq_true, if_false]; exact lit _ (by decide)
  have app : ∀ {x y : List UInt8}, (∀ c ∈ x, c.toNat ≠ 10 ∧ plainC c = true) → (∀ c ∈ y, c.toNat ≠ 10 ∧ plainC c = true) → ∀ c ∈ x ++ y, c.toNat ≠ 10 ∧ plainC c = true := fun hx hy c hc => by
    rcases List.mem_append.1 hc with hc | hc
    · exact hx c hc
    · exact hy c hc
  unfold skBody
  simp only [hs.hN, hs.hS]
  exact app br (app (lit _ (by decide)) (app ba (app (lit _ (by decide)) (app bu (app (lit _ (by decide)) (app bb (app (lit _ (by decide)) (app bu (app (lit _ (by decide)) (app bu (app (lit _ (by decide)) (app bu (app (lit _ (by decide)) (app bu (app (lit _ (by decide)) (app br (app (lit _ (by decide)) (app bl bk))))))))))))))))))

theorem skText_lines {drops : Bool} {rs : List RowD} (h : ∀ r ∈ rs, skOk drops r = true) : linesL ((rs.map fun r => skBody drops r ++ [10]).flatten) = rs.map (skBody drops) := by
  rw [linesL_eq]
  have e : (rs.map fun r => skBody drops r ++ [10]) = (rs.map (skBody drops)).map fun l => l ++ [10] := by rw [List.map_map]; rfl
  rw [e]
  exact lineG_lines _ (fun l hl c hc => by
    obtain ⟨r, hr, rfl⟩ := List.mem_map.1 hl
    exact (skBody_chars (h r hr) c hc).1)

theorem skRead_text {drops : Bool} {rs : List RowD} (h : ∀ r ∈ rs, skOk drops r = true) : skRead drops (skText drops rs) = some rs := by
  unfold skRead
  have hp : (skText drops rs).all plainC = true := by
    rw [List.all_eq_true]
    intro c hc
    unfold skText at hc
    rcases List.mem_append.1 hc with hc | hc
    · have : skHead.all plainC = true := by decide
      exact List.all_eq_true.1 this c hc
    · obtain ⟨l, hl, hcl⟩ := List.mem_flatten.1 hc
      obtain ⟨r, hr, rfl⟩ := List.mem_map.1 hl
      rcases List.mem_append.1 hcl with hcl | hcl
      · exact (skBody_chars (h r hr) c hcl).2
      · obtain rfl := List.mem_singleton.1 hcl; decide
  have ht : (skText drops rs).take skHead.length = skHead := by unfold skText; rw [List.take_left]
  have hdp : (skText drops rs).drop skHead.length = (rs.map fun r => skBody drops r ++ [10]).flatten := by unfold skText; rw [List.drop_left]
  rw [if_pos ⟨hp, ht⟩, hdp, skText_lines h, skTab_bodies h]
  have : rs.all (skOk drops) = true := List.all_eq_true.2 h
  simp only [this, if_true]

end Go.Ev

set_option linter.unusedSimpArgs false
set_option linter.unusedVariables false
namespace Go.Ev
open Go.Proofs

/-! ### Parts -/

def S1125 (F : List SV → Option AV) : Prop := ∀ (s : List UInt8) (b : UInt8), s.length < 1000000000000 → F [.str s, .int .u8 (b.toNat : Int)] = some (.sv (.sl (strs (partG b.toNat [] s))))

def S46 (F : List SV → Option AV) : Prop := ∀ (s : List UInt8) (n : Nat), n < 1000000 → s.length < 100000000000 → F [.str s, .int .i64 (n : Int)] = some (.sv (.str (rightS s n)))

theorem loop46r (E : Env) (cf : CallF) (m : Nat) (n : Nat) (hn : n < 1000000) :
    ∀ (d : Nat) (s : List UInt8) (k : Nat), n - s.length ≤ d → s.length < 1000000000000 → d < k →
      rounds (evC E cf m b46_0) k { tm := [.sv (.str s), .sv (.int .i64 n)] ++ List.replicate 10 (.sv .undef), lz := none, bx := [], df := [] } =
        some (.exit 0, { tm := [.sv (.str (rightS s n))] ++ List.replicate 11 (.sv .undef), lz := none, bx := [], df := [] }) := by
  intro d
  induction d with
  | zero =>
    intro s k hd hs hk
    obtain ⟨k, rfl⟩ : ∃ k', k = k' + 1 := ⟨k - 1, by omega⟩
    have hlt : ¬ (s.length < n) := by omega
    refine rounds_out ?_ (by simp)
    rw [rightS_done hlt]
    have hltI : ¬ (s.length : Int) < (n : Int) := by omega
    simp [b46_0, List.replicate, hlt, hltI]
  | succ d ih =>
    intro s k hd hs hk
    obtain ⟨k, rfl⟩ : ∃ k', k = k' + 1 := ⟨k - 1, by omega⟩
    by_cases hlt : s.length < n
    · have he := ih (32 :: s) k (by simp; omega) (by simp; omega) (by omega)
      rw [rightS_step hlt] at he
      rw [← he]
      refine rounds_step ?_
      have hltI : (s.length : Int) < (n : Int) := by omega
      have hb : 1 + s.length < 4611686018427387904 := by omega
      simp [b46_0, List.replicate, hlt, hltI, hb]
    · refine rounds_out ?_ (by simp)
      rw [rightS_done hlt]
      have hltI : ¬ (s.length : Int) < (n : Int) := by omega
      simp [b46_0, List.replicate, hlt, hltI]

theorem ev46 (E : Env) (h : E.code 63 = some c46) : S46 (autoF E 63) := by
  intro s n hn hs
  have hl := loop46r E (evF E (n + 1)) (n + 1) n hn n s (n + 1) (by omega) (by omega) (by omega)
  refine autoF_sv (n := n + 1) ?_ rfl
  unfold evP
  simp only [h]
  simp only [List.replicate, List.cons_append, List.nil_append] at hl
  simp [c46, List.replicate, hl]

/-! ### Hexadecimal digits -/

noncomputable def F97h : List SV → Option AV
  | [.int .u64 n, .int .u64 b] => onlyIf (0 ≤ n ∧ n < 18446744073709551616 ∧ b = 16) (some (.sv (.str (hexS n.toNat))))
  | _ => none

theorem F97h_eq (n : Nat) (h : n < 18446744073709551616) : F97h [.int .u64 (n : Int), .int .u64 16] = some (.sv (.str (hexS n))) := by
  show onlyIf _ (some (AV.sv (.str (hexS (n : Int).toNat)))) = _
  rw [onlyIf_pos ⟨by omega, by omega, rfl⟩]; simp

theorem ev97h (E : Env) (h : E.code 142 = some c97) (n k : Nat) (hk : k < 18446744073709551616) :
    evP (E.add 142 (fun us => if size97 us < k then F97h us else none)) n 142 [.int .u64 k, .int .u64 16] = some (.sv (.str (hexS k))) := by
  unfold evP
  have hc : (E.add 142 (fun us => if size97 us < k then F97h us else none)).code 142 = some c97 := h
  simp only [hc]
  have hm : Int.tmod (k : Int) 16 = ((k % 16 : Nat) : Int) := rfl
  have hq : IntKind.u64.wrap ((k : Int) / 16) = ((k / 16 : Nat) : Int) := by rw [IntKind.wrap_u64]; omega
  have hr16 : ∀ r, r < 16 → r = 0 ∨ r = 1 ∨ r = 2 ∨ r = 3 ∨ r = 4 ∨ r = 5 ∨ r = 6 ∨ r = 7 ∨ r = 8 ∨ r = 9 ∨ r = 10 ∨ r = 11 ∨ r = 12 ∨ r = 13 ∨ r = 14 ∨ r = 15 := by intro r hr; omega
  by_cases hlt : k < 16
  · rw [hexS_small hlt]
    rcases hr16 k hlt with rfl | rfl | rfl | rfl | rfl | rfl | rfl | rfl | rfl | rfl | rfl | rfl | rfl | rfl | rfl | rfl <;> simp [c97, svBytes, List.replicate, hexC]
  · have e1 : ¬ (k : Int) < 16 := by omega
    rw [hexS_step hlt]
    have hlen := hexS_len16 (n := k / 16) (by omega)
    have hs : k / 16 < k := by omega
    have hb : ((k / 16 : Nat) : Int) < 18446744073709551616 := by omega
    have hb2 : (hexS (k / 16)).length + 1 < 4611686018427387904 := by omega
    rcases hr16 (k % 16) (by omega) with hr | hr | hr | hr | hr | hr | hr | hr | hr | hr | hr | hr | hr | hr | hr | hr
    · have hm2 : (k : Int) % 16 = 0 := by omega
      simp [c97, svBytes, List.replicate, hm, hm2, hr, e1, hq, F97h, size97, hs, hb, hb2, hexC, -Int.natCast_ediv]
    · have hm2 : (k : Int) % 16 = 1 := by omega
      simp [c97, svBytes, List.replicate, hm, hm2, hr, e1, hq, F97h, size97, hs, hb, hb2, hexC, -Int.natCast_ediv]
    · have hm2 : (k : Int) % 16 = 2 := by omega
      simp [c97, svBytes, List.replicate, hm, hm2, hr, e1, hq, F97h, size97, hs, hb, hb2, hexC, -Int.natCast_ediv]
    · have hm2 : (k : Int) % 16 = 3 := by omega
      simp [c97, svBytes, List.replicate, hm, hm2, hr, e1, hq, F97h, size97, hs, hb, hb2, hexC, -Int.natCast_ediv]
    · have hm2 : (k : Int) % 16 = 4 := by omega
      simp [c97, svBytes, List.replicate, hm, hm2, hr, e1, hq, F97h, size97, hs, hb, hb2, hexC, -Int.natCast_ediv]
    · have hm2 : (k : Int) % 16 = 5 := by omega
      simp [c97, svBytes, List.replicate, hm, hm2, hr, e1, hq, F97h, size97, hs, hb, hb2, hexC, -Int.natCast_ediv]
    · have hm2 : (k : Int) % 16 = 6 := by omega
      simp [c97, svBytes, List.replicate, hm, hm2, hr, e1, hq, F97h, size97, hs, hb, hb2, hexC, -Int.natCast_ediv]
    · have hm2 : (k : Int) % 16 = 7 := by omega
      simp [c97, svBytes, List.replicate, hm, hm2, hr, e1, hq, F97h, size97, hs, hb, hb2, hexC, -Int.natCast_ediv]
    · have hm2 : (k : Int) % 16 = 8 := by omega
      simp [c97, svBytes, List.replicate, hm, hm2, hr, e1, hq, F97h, size97, hs, hb, hb2, hexC, -Int.natCast_ediv]
    · have hm2 : (k : Int) % 16 = 9 := by omega
      simp [c97, svBytes, List.replicate, hm, hm2, hr, e1, hq, F97h, size97, hs, hb, hb2, hexC, -Int.natCast_ediv]
    · have hm2 : (k : Int) % 16 = 10 := by omega
      simp [c97, svBytes, List.replicate, hm, hm2, hr, e1, hq, F97h, size97, hs, hb, hb2, hexC, -Int.natCast_ediv]
    · have hm2 : (k : Int) % 16 = 11 := by omega
      simp [c97, svBytes, List.replicate, hm, hm2, hr, e1, hq, F97h, size97, hs, hb, hb2, hexC, -Int.natCast_ediv]
    · have hm2 : (k : Int) % 16 = 12 := by omega
      simp [c97, svBytes, List.replicate, hm, hm2, hr, e1, hq, F97h, size97, hs, hb, hb2, hexC, -Int.natCast_ediv]
    · have hm2 : (k : Int) % 16 = 13 := by omega
      simp [c97, svBytes, List.replicate, hm, hm2, hr, e1, hq, F97h, size97, hs, hb, hb2, hexC, -Int.natCast_ediv]
    · have hm2 : (k : Int) % 16 = 14 := by omega
      simp [c97, svBytes, List.replicate, hm, hm2, hr, e1, hq, F97h, size97, hs, hb, hb2, hexC, -Int.natCast_ediv]
    · have hm2 : (k : Int) % 16 = 15 := by omega
      simp [c97, svBytes, List.replicate, hm, hm2, hr, e1, hq, F97h, size97, hs, hb, hb2, hexC, -Int.natCast_ediv]

def S1143 (F : List SV → Option AV) : Prop := ∀ n k : Nat, n < 18446744073709551616 → k < 1000000 → F [.int .u64 (n : Int), .int .u64 16, .int .i64 (k : Int)] = some (.sv (.str (padS (hexS n) k)))

theorem loop1143 (E : Env) (cf : CallF) (m : Nat) (n : Nat) (hn : n < 1000000) :
    ∀ (d : Nat) (s : List UInt8) (k : Nat), n - s.length ≤ d → s.length < 1000000000000 → d < k →
      rounds (evC E cf m b1143_0) k { tm := [.sv .undef, .sv .undef, .sv (.int .i64 n), .sv .undef, .sv .undef, .sv .undef, .sv .undef, .sv (.str s)] ++ List.replicate 10 (.sv .undef), lz := none, bx := [], df := [] } =
        some (.exit 0, { tm := [.sv .undef, .sv .undef, .sv .undef, .sv .undef, .sv .undef, .sv .undef, .sv .undef, .sv (.str (padS s n))] ++ List.replicate 10 (.sv .undef), lz := none, bx := [], df := [] }) := by
  intro d
  induction d with
  | zero =>
    intro s k hd hs hk
    obtain ⟨k, rfl⟩ : ∃ k', k = k' + 1 := ⟨k - 1, by omega⟩
    have hlt : ¬ (s.length < n) := by omega
    refine rounds_out ?_ (by simp)
    rw [padS_done hlt]
    have hltI : ¬ (s.length : Int) < (n : Int) := by omega
    simp [b1143_0, List.replicate, hlt, hltI]
  | succ d ih =>
    intro s k hd hs hk
    obtain ⟨k, rfl⟩ : ∃ k', k = k' + 1 := ⟨k - 1, by omega⟩
    by_cases hlt : s.length < n
    · have he := ih (48 :: s) k (by simp; omega) (by simp; omega) (by omega)
      rw [padS_step hlt] at he
      rw [← he]
      refine rounds_step ?_
      have hltI : (s.length : Int) < (n : Int) := by omega
      have hb : 1 + s.length < 4611686018427387904 := by omega
      simp [b1143_0, List.replicate, hlt, hltI, hb]
    · refine rounds_out ?_ (by simp)
      rw [padS_done hlt]
      have hltI : ¬ (s.length : Int) < (n : Int) := by omega
      simp [b1143_0, List.replicate, hlt, hltI]

theorem ev1143 (E : Env) (h : E.code 109 = some c1143) (h97 : E.pure 142 = some F97h) : S1143 (autoF E 109) := by
  intro n k hn hk
  have h16 := hexS_len16 hn
  have hl := loop1143 E (evF E (k + 1)) (k + 1) k hk k (hexS n) (k + 1) (by omega) (by omega) (by omega)
  have hF := F97h_eq n hn
  refine autoF_sv (n := k + 1) ?_ rfl
  unfold evP
  simp only [h]
  simp only [List.replicate, List.cons_append, List.nil_append] at hl
  simp [c1143, List.replicate, h97, hF, hl]

/-! ### Large letters: bytes written in place -/

theorem svBytes_map (l : List UInt8) : svBytes (bytesSV l) = some l := svBytes_bytes l

def S1113 (F : List SV → Option AV) : Prop := ∀ n k : Nat, n < 18446744073709551616 → k < 1000000 → F [.int .u64 (n : Int), .int .i64 (k : Int)] = some (.sv (.str (upS n k)))

def cellsB (l : List UInt8) : List Cell := (bytesSV l).map .sv

theorem cellsB_cons (c : UInt8) (l : List UInt8) : cellsB (c :: l) = .sv (.int .u8 (c.toNat : Int)) :: cellsB l := rfl
theorem cellsB_append (a b : List UInt8) : cellsB (a ++ b) = cellsB a ++ cellsB b := by simp [cellsB, bytesSV]
theorem cellsB_length (a : List UInt8) : (cellsB a).length = a.length := by simp [cellsB, bytesSV]
theorem cellsB_plain (a : List UInt8) : (cellsB a).map Cell.plain = bytesSV a := by
  unfold cellsB bytesSV
  rw [List.map_map, List.map_map]
  rfl

theorem loop1113 (E : Env) (cf : CallF) (m : Nat) (N : Nat) (hN : N < 1000000000) :
    ∀ (rest pre : List UInt8) (cs : List Cell) (i k : Nat), cs = cellsB (pre.map upB ++ rest) → i = pre.length → N = pre.length + rest.length → rest.length < k →
      rounds (evC E cf m b1113_0) k { tm := [.sv .undef, .sv .undef, .sv .undef, .sv .undef, .sv .undef, .mrow 0 N 1, .sv .undef, .sv .undef, .sv .undef, .sv .undef, .sv .undef, .sv .undef, .sv (.int .i64 N), .sv (.int .i64 i)] ++ List.replicate 16 (.sv .undef), lz := none, bx := [.live cs], df := [] } =
        some (.exit 0, { tm := [.sv .undef, .sv .undef, .sv .undef, .sv .undef, .sv .undef, .mrow 0 N 1] ++ List.replicate 24 (.sv .undef), lz := none, bx := [.live (cellsB ((pre ++ rest).map upB))], df := [] }) := by
  intro rest
  induction rest with
  | nil =>
    intro pre cs i k hcs hi hl hk
    obtain ⟨k, rfl⟩ : ∃ k', k = k' + 1 := ⟨k - 1, by omega⟩
    have hlt : ¬ (i < N) := by simp at hl; omega
    refine rounds_out ?_ (by simp)
    rw [List.append_nil] at hcs ⊢
    rw [← hcs]
    simp [b1113_0, List.replicate, hlt]
  | cons c rest ih =>
    intro pre cs i k hcs hi hl hk
    obtain ⟨k, rfl⟩ : ∃ k', k = k' + 1 := ⟨k - 1, by omega⟩
    have hlt : i < N := by simp at hl; omega
    have hw : IntKind.i64.wrap ((i : Int) + 1) = ((i + 1 : Nat) : Int) := by rw [IntKind.wrap_i64]; omega
    have hcl : cs.length = N := by rw [hcs, cellsB_length]; simp at hl ⊢; omega
    have hic : i < cs.length := by omega
    have hd : cs.drop i = .sv (.int .u8 (c.toNat : Int)) :: cellsB rest := by
      rw [hcs, cellsB_append, cellsB_cons]
      have : i = (cellsB (pre.map upB)).length := by rw [cellsB_length, List.length_map]; exact hi
      rw [this, List.drop_left]
    have hset : ∀ x, cs.set i (.sv (.int .u8 ((x : UInt8).toNat : Int))) = cellsB (pre.map upB ++ x :: rest) := by
      intro x
      rw [hcs, cellsB_append, cellsB_append, cellsB_cons, cellsB_cons]
      have : i = (cellsB (pre.map upB)).length := by rw [cellsB_length, List.length_map]; exact hi
      rw [this, List.set_append_right _ _ (Nat.le_refl _), Nat.sub_self]; rfl
    by_cases h97 : 97 ≤ c.toNat
    · have h97' : (97 : Int) ≤ (c.toNat : Int) := by omega
      have hcb := c.toNat_lt
      have hup : upB c = UInt8.ofNat (c.toNat - 32) := by simp [upB, h97]
      have hw8 : IntKind.u8.wrap ((c.toNat : Int) - 32) = ((upB c).toNat : Int) := by
        rw [IntKind.wrap_u8, hup]; simp; omega
      have hs := hset (upB c)
      have he := ih (pre ++ [c]) (cs.set i (.sv (.int .u8 ((upB c).toNat : Int)))) (i + 1) k (by rw [hs]; simp) (by simp [hi]) (by simp at hl ⊢; omega) (by simp at hk; omega)
      rw [show pre ++ c :: rest = pre ++ [c] ++ rest from by simp, ← he]
      refine rounds_step ?_
      simp [b1113_0, List.replicate, hlt, hw, hic, hd, h97', hw8]
    · have h97' : ¬ (97 : Int) ≤ (c.toNat : Int) := by omega
      have hup : upB c = c := by simp [upB, h97]
      have he := ih (pre ++ [c]) cs (i + 1) k (by rw [hcs]; simp [hup]) (by simp [hi]) (by simp at hl ⊢; omega) (by simp at hk; omega)
      rw [show pre ++ c :: rest = pre ++ [c] ++ rest from by simp, ← he]
      refine rounds_step ?_
      simp [b1113_0, List.replicate, hlt, hw, hic, hd, h97']

theorem ev1113 (E : Env) (h : E.code 82 = some c1113) (h43 : Has E 109 S1143) : S1113 (autoF E 82) := by
  intro n k hn hk
  obtain ⟨F, hp, hF⟩ := h43
  have hFn := hF n k hn hk
  have h16 := hexS_len16 hn
  have hpl := padS_len (hexS n) k
  have hne : padS (hexS n) k ≠ [] := by
    obtain ⟨_, _, h3⟩ := hexS_hex n
    unfold padS; simp [h3]
  unfold upS
  generalize padS (hexS n) k = s at hFn hpl hne ⊢
  have hl := loop1113 E (evF E (s.length + 1)) (s.length + 1) s.length (by omega) s [] (cellsB s) 0 (s.length + 1) (by simp) rfl (by simp) (by omega)
  have hcp := cellsB_plain (s.map upB)
  have hcl := cellsB_length (s.map upB)
  rw [List.length_map] at hcl
  have hsv := svBytes_map (s.map upB)
  rw [List.nil_append] at hl
  have e0 : List.map Cell.sv (bytesSV s) = cellsB s := rfl
  generalize cellsB (s.map upB) = cs2 at hl hcp hcl
  generalize cellsB s = cs1 at hl e0
  refine autoF_sv (n := s.length + 1) ?_ rfl
  unfold evP
  simp only [h]
  simp only [List.replicate, List.cons_append, List.nil_append, Int.ofNat_zero, Int.natCast_zero] at hl
  have hbl : (bytesSV (s.map upB)).length = s.length := by simp [bytesSV]
  have hem : s.isEmpty = false := by simpa using hne
  simp [c1113, List.replicate, hp, hFn, hem, hne, e0, hl, hcp, hcl, hsv, hbl]

/-! ### Numbers of base 16 -/

def S123 (F : List SV → Option AV) : Prop := ∀ s : List UInt8, s.length < 9223372036854775807 → F [.str s, .int .u64 16] = some (.sv (.tup (match hexV s with | some m => [.int .u64 m, .bool true] | none => match numV 16 0 s with | some m => [.int .u64 m, .bool false] | none => [.int .u64 0, .bool false])))

end Go.Ev

set_option linter.unusedSimpArgs false
set_option linter.unusedVariables false
namespace Go.Ev
open Go.Proofs
variable {P : Program} {E : Env}

theorem p97h (B : Base P E) (h : E.code 142 = some c97) : PureFn P E 142 F97h := by
  refine PureFn.of_rec size97 B.m B.T B.Q B.P fun m vs r hF hs => ?_
  unfold F97h at hF
  split at hF
  · obtain ⟨⟨h0, h1, rfl⟩, hr⟩ := onlyIf_some hF
    rename_i c
    obtain ⟨k, rfl⟩ := Int.eq_ofNat_of_zero_le h0
    simp only [Option.some.injEq, Int.toNat_natCast] at hr; subst hr
    simp only [size97, Int.toNat_natCast] at hs
    subst hs
    exact ⟨1, _, ev97h E h 1 k (by omega), .inl rfl⟩
  · cases hF

/-- A law of rows. -/
theorem pwOf (B : Base P E) {f : Nat} (h : ∀ l : List RowD, (∀ r ∈ l, ∀ n ∈ r.N, n < 18446744073709551616) → ∀ n : Nat, evP E 1000001 f [.sl (rowsSV l)] = some (.sv (.bool true))) : PureFn P E f F1003 := by
  refine PureFn.of B.m B.T B.Q B.P fun vs r hF => ?_
  unfold F1003 at hF
  split at hF
  · rename_i l
    obtain ⟨⟨h1, h2⟩, hr⟩ := onlyIf_some hF
    simp only [Option.some.injEq] at hr; subst hr
    refine ⟨1000001, _, ?_, .inl rfl⟩
    have := h (l.map unrow) h2 1
    rw [← h1] at this
    exact this
  · cases hF

/-- A law of rows. -/
theorem pbOf (B : Base P E) {f : Nat} (h : ∀ l : List RowD, (∀ r ∈ l, ∀ n ∈ r.N, n < 18446744073709551616) → ∀ n, evP E n f [.sl (rowsSV l)] = some (.sv (.bool true))) : PureFn P E f F1003 := by
  refine PureFn.of B.m B.T B.Q B.P fun vs r hF => ?_
  unfold F1003 at hF
  split at hF
  · rename_i l
    obtain ⟨⟨h1, h2⟩, hr⟩ := onlyIf_some hF
    simp only [Option.some.injEq] at hr; subst hr
    refine ⟨1, _, ?_, .inl rfl⟩
    have := h (l.map unrow) h2 1
    rw [← h1] at this
    exact this
  · cases hF

end Go.Ev

set_option linter.unusedSimpArgs false
set_option linter.unusedVariables false
namespace Go.Ev
open Go.Proofs

/-! ### Small letters -/

def S135 (F : List SV → Option AV) : Prop := ∀ c : UInt8, 10 ≤ digitV c.toNat → digitV c.toNat < 16 → F [.int .u8 (c.toNat : Int)] = some (.sv (.int .u8 ((digitV c.toNat + 87 : Nat) : Int)))

theorem hexLetter {c : Nat} (h : 10 ≤ digitV c) (h2 : digitV c < 16) : c = 65 ∨ c = 66 ∨ c = 67 ∨ c = 68 ∨ c = 69 ∨ c = 70 ∨ c = 97 ∨ c = 98 ∨ c = 99 ∨ c = 100 ∨ c = 101 ∨ c = 102 := by
  unfold digitV at h h2
  (repeat' split at h) <;> (repeat' split at h2) <;> omega

theorem ev135 (E : Env) (h : E.code 217 = some c135) : S135 (autoF E 217) := by
  intro c h1 h2
  refine autoF_sv (n := 1) ?_ rfl
  unfold evP
  simp only [h]
  generalize c.toNat = k at h1 h2 ⊢
  rcases hexLetter h1 h2 with rfl | rfl | rfl | rfl | rfl | rfl | rfl | rfl | rfl | rfl | rfl | rfl <;> kernel_rfl

/-! ### Numbers -/

set_option maxRecDepth 100000 in
set_option maxHeartbeats 4000000 in
theorem loop125b (E : Env) (cf : CallF) (b8 : Bool) (s0 s : List UInt8) (hs : s.length < 1000000000000) (m : Nat) :
    ∀ (rest pre : List UInt8) (a k : Nat), s = pre ++ rest → (∀ c ∈ rest, digC c = true) → digN a rest < 18446744073709551616 → rest.length < k →
      rounds (evC E cf m b125_0) k { tm := [.sv .undef, .sv (.int .i64 10)] ++ List.replicate 6 (.sv .undef) ++ [.sv (.bool b8), .sv (.str s0), .sv (.int .u64 1844674407370955162), .sv (.int .u64 18446744073709551615), .sv (.bool false), .sv (.int .u64 a)] ++ List.replicate 85 (.sv .undef) ++ [.sv (.sl (bytesSV s)), .sv (.int .i64 s.length), .sv (.int .i64 pre.length)] ++ List.replicate 70 (.sv .undef), lz := none, bx := [], df := [] } =
        some (.exit 3, { tm := List.replicate 9 (.sv .undef) ++ [.sv (.str s0), .sv .undef, .sv .undef, .sv (.bool false), .sv (.int .u64 (digN a rest : Nat))] ++ List.replicate 158 (.sv .undef), lz := none, bx := [], df := [] }) := by
  intro rest
  induction rest with
  | nil =>
    intro pre a k hsp hr ha hk
    obtain ⟨k, rfl⟩ : ∃ k', k = k' + 1 := ⟨k - 1, by omega⟩
    have hlt : ¬ (pre.length < s.length) := by rw [hsp]; simp
    refine rounds_out ?_ (by simp)
    simp [b125_0, List.replicate, hlt, digN_nil]
  | cons c rest ih =>
    intro pre a k hsp hr ha hk
    obtain ⟨k, rfl⟩ : ∃ k', k = k' + 1 := ⟨k - 1, by omega⟩
    have hlt : pre.length < s.length := by rw [hsp]; simp
    have hsl := congrArg List.length hsp
    simp only [List.length_append, List.length_cons] at hsl
    have hc : ∀ h : pre.length < (bytesSV s).length, (bytesSV s)[pre.length]'h = .int .u8 (c.toNat : Int) := by subst hsp; simp [bytesSV]
    have hw2 : IntKind.i64.wrap ((pre.length : Int) + 1) = ((pre ++ [c]).length : Int) := by rw [IntKind.wrap_i64]; simp; omega
    obtain ⟨d1, d2⟩ := digC_iff.1 (hr c (by simp))
    have hs8 : IntKind.u8.wrap ((c.toNat : Int) - 48) = ((dgt c : Nat) : Int) := by rw [IntKind.wrap_u8]; unfold dgt; omega
    have hd9 : dgt c ≤ 9 := by unfold dgt; omega
    have e95 : ((c.toNat : Int) == 95) = false := by rw [Bool.eq_false_iff]; simp; omega
    have e48 : (48 : Int) ≤ (c.toNat : Int) := by omega
    have e57 : (c.toNat : Int) ≤ 57 := by omega
    rw [digN_cons] at ha ⊢
    have hge := digN_ge rest (a * 10 + dgt c)
    generalize dgt c = d at *
    have h10 : ¬ (10 : Int) ≤ (d : Int) := by omega
    have hcut : ¬ (1844674407370955162 : Int) ≤ (a : Int) := by omega
    have hw8 : IntKind.u8.wrap 10 = 10 := by rw [IntKind.wrap_u8]; omega
    have hw64 : IntKind.u64.wrap 10 = 10 := by rw [IntKind.wrap_u64]; omega
    have hw3 : IntKind.u64.wrap (d : Int) = (d : Int) := by rw [IntKind.wrap_u64]; omega
    have hw4 : IntKind.u64.wrap ((a : Int) * 10) = ((a * 10 : Nat) : Int) := by rw [IntKind.wrap_u64]; omega
    have hw5 : IntKind.u64.wrap (((a * 10 : Nat) : Int) + (d : Int)) = ((a * 10 + d : Nat) : Int) := by rw [IntKind.wrap_u64]; omega
    have q1 : ¬ (((a * 10 + d : Nat) : Int) < ((a * 10 : Nat) : Int)) := by omega
    have q2 : ¬ ((18446744073709551615 : Int) < ((a * 10 + d : Nat) : Int)) := by omega
    have he := ih (pre ++ [c]) (a * 10 + d) k (by rw [hsp]; simp) (fun x hx => hr x (by simp [hx])) ha (by simp at hk; omega)
    rw [← he]
    refine rounds_step ?_
    generalize (a * 10 + d) = a2 at *
    generalize (a * 10) = a1 at *
    simp [b125_0, List.replicate, hlt, bytesSV_length, hc, hs8, e95, e48, e57, h10, hcut, hw8, hw64, hw2, hw3, hw4, hw5, q1, q2]

set_option maxRecDepth 100000 in
set_option maxHeartbeats 4000000 in
theorem loop125h (E : Env) (cf : CallF) (h135 : Has E 217 S135) (s0 s : List UInt8) (hs : s.length < 1000000000000) (m : Nat) :
    ∀ (rest pre : List UInt8) (a k : Nat), s = pre ++ rest → (∀ c ∈ rest, digitV c.toNat < 16) → hexN a rest < 18446744073709551616 → rest.length < k →
      rounds (evC E cf m b125_0) k { tm := [.sv .undef, .sv (.int .i64 16)] ++ List.replicate 6 (.sv .undef) ++ [.sv (.bool false), .sv (.str s0), .sv (.int .u64 1152921504606846976), .sv (.int .u64 18446744073709551615), .sv (.bool false), .sv (.int .u64 a)] ++ List.replicate 85 (.sv .undef) ++ [.sv (.sl (bytesSV s)), .sv (.int .i64 s.length), .sv (.int .i64 pre.length)] ++ List.replicate 70 (.sv .undef), lz := none, bx := [], df := [] } =
        some (.exit 3, { tm := List.replicate 9 (.sv .undef) ++ [.sv (.str s0), .sv .undef, .sv .undef, .sv (.bool false), .sv (.int .u64 (hexN a rest : Nat))] ++ List.replicate 158 (.sv .undef), lz := none, bx := [], df := [] }) := by
  obtain ⟨F, hp, hF⟩ := h135
  intro rest
  induction rest with
  | nil =>
    intro pre a k hsp hr ha hk
    obtain ⟨k, rfl⟩ : ∃ k', k = k' + 1 := ⟨k - 1, by omega⟩
    have hlt : ¬ (pre.length < s.length) := by rw [hsp]; simp
    refine rounds_out ?_ (by simp)
    simp [b125_0, List.replicate, hlt, hexN_nil]
  | cons c rest ih =>
    intro pre a k hsp hr ha hk
    obtain ⟨k, rfl⟩ : ∃ k', k = k' + 1 := ⟨k - 1, by omega⟩
    have hlt : pre.length < s.length := by rw [hsp]; simp
    have hsl := congrArg List.length hsp
    simp only [List.length_append, List.length_cons] at hsl
    have hc : ∀ h : pre.length < (bytesSV s).length, (bytesSV s)[pre.length]'h = .int .u8 (c.toNat : Int) := by subst hsp; simp [bytesSV]
    have hw2 : IntKind.i64.wrap ((pre.length : Int) + 1) = ((pre ++ [c]).length : Int) := by rw [IntKind.wrap_i64]; simp; omega
    have hd16 := hr c (by simp)
    have hFc := hF c
    rw [hexN_cons] at ha ⊢
    have hge := hexN_ge rest (a * 16 + digitV c.toNat)
    have h10 : ¬ (16 : Int) ≤ (digitV c.toNat : Int) := by omega
    have hcut : ¬ (1152921504606846976 : Int) ≤ (a : Int) := by omega
    have hw8 : IntKind.u8.wrap 16 = 16 := by rw [IntKind.wrap_u8]; omega
    have hw64 : IntKind.u64.wrap 16 = 16 := by rw [IntKind.wrap_u64]; omega
    have hw3 : IntKind.u64.wrap (digitV c.toNat : Int) = (digitV c.toNat : Int) := by rw [IntKind.wrap_u64]; omega
    have hw4 : IntKind.u64.wrap ((a : Int) * 16) = ((a * 16 : Nat) : Int) := by rw [IntKind.wrap_u64]; omega
    have hw5 : IntKind.u64.wrap (((a * 16 : Nat) : Int) + (digitV c.toNat : Int)) = ((a * 16 + digitV c.toNat : Nat) : Int) := by rw [IntKind.wrap_u64]; omega
    have q1 : ¬ (((a * 16 + digitV c.toNat : Nat) : Int) < ((a * 16 : Nat) : Int)) := by omega
    have q2 : ¬ ((18446744073709551615 : Int) < ((a * 16 + digitV c.toNat : Nat) : Int)) := by omega
    have he := ih (pre ++ [c]) (a * 16 + digitV c.toNat) k (by rw [hsp]; simp) (fun x hx => hr x (by simp [hx])) ha (by simp at hk; omega)
    rw [← he]
    refine rounds_step ?_
    by_cases hlet : 10 ≤ digitV c.toNat
    · have hFv := hFc hlet hd16
      have hl := hexLetter hlet hd16
      have e95 : ((c.toNat : Int) == 95) = false := by rw [Bool.eq_false_iff]; simp; omega
      have e48 : (48 : Int) ≤ (c.toNat : Int) := by omega
      have e57 : ¬ (c.toNat : Int) ≤ 57 := by omega
      have f1 : (97 : Int) ≤ ((digitV c.toNat + 87 : Nat) : Int) := by omega
      have f2 : ((digitV c.toNat + 87 : Nat) : Int) ≤ 122 := by omega
      have f3 : IntKind.u8.wrap (IntKind.u8.wrap (((digitV c.toNat + 87 : Nat) : Int) - 97) + 10) = (digitV c.toNat : Int) := by rw [IntKind.wrap_u8, IntKind.wrap_u8]; omega
      generalize digitV c.toNat = d at *
      generalize (a * 16 + d) = a2 at *
      generalize (a * 16) = a1 at *
      generalize ((d + 87 : Nat) : Int) = d87 at *
      simp [b125_0, List.replicate, hlt, bytesSV_length, hc, hp, hFv, e95, e48, e57, f1, f2, f3, h10, hcut, hw8, hw64, hw2, hw3, hw4, hw5, q1, q2]
    · have hl : 48 ≤ c.toNat ∧ c.toNat ≤ 57 ∧ digitV c.toNat = c.toNat - 48 := by
        unfold digitV at hlet hd16 ⊢
        (repeat' split at hlet) <;> (repeat' split at hd16) <;> (repeat' split) <;> omega
      have e95 : ((c.toNat : Int) == 95) = false := by rw [Bool.eq_false_iff]; simp; omega
      have e48 : (48 : Int) ≤ (c.toNat : Int) := by omega
      have e57 : (c.toNat : Int) ≤ 57 := by omega
      have hs8 : IntKind.u8.wrap ((c.toNat : Int) - 48) = (digitV c.toNat : Int) := by rw [IntKind.wrap_u8]; omega
      generalize digitV c.toNat = d at *
      generalize (a * 16 + d) = a2 at *
      generalize (a * 16) = a1 at *
      simp [b125_0, List.replicate, hlt, bytesSV_length, hc, hs8, e95, e48, e57, h10, hcut, hw8, hw64, hw2, hw3, hw4, hw5, q1, q2]

def S125u (F : List SV → Option AV) : Prop :=
  (∀ s : List UInt8, s.length < 1000000000000 → s ≠ [] → (∀ c ∈ s, digitV c.toNat < 16) → hexN 0 s < 18446744073709551616 → F [.str s, .int .i64 16, .int .i64 64] = some (.sv (.tup [.int .u64 (hexN 0 s : Nat), .nilI]))) ∧
  (∀ n : Nat, n < 18446744073709551616 → F [.str (decS n), .int .i64 0, .int .i64 64] = some (.sv (.tup [.int .u64 (n : Int), .nilI])))

theorem decS_head : ∀ n : Nat, 0 < n → ∃ c cs, decS n = c :: cs ∧ c.toNat ≠ 48 := by
  intro n
  induction n using Nat.strongRecOn with
  | _ n ih =>
    intro hn
    by_cases h : n < 10
    · refine ⟨UInt8.ofNat (48 + n), [], decS_small h, ?_⟩
      rw [dig_toNat h]; omega
    · obtain ⟨c, cs, h1, h2⟩ := ih (n / 10) (by omega) (by omega)
      exact ⟨c, cs ++ [UInt8.ofNat (48 + n % 10)], by rw [decS_step h, h1]; rfl, h2⟩

set_option maxRecDepth 100000 in
set_option maxHeartbeats 4000000 in
theorem ev125u (E : Env) (h : E.code 199 = some c125) (h135 : Has E 217 S135) : S125u (autoF E 199) := by
  have hsh : IntKind.u64.wrap (IntKind.u64.wrap (2 ^ min 64 IntKind.u64.bits) - 1) = 18446744073709551615 := by decide
  have hsh0 : IntKind.u64.wrap 64 = 64 := by decide
  refine ⟨fun s hs hne hd hv => ?_, fun n hn => ?_⟩
  · have hl := loop125h E (evF E (s.length + 1)) h135 s s hs (s.length + 1) s [] 0 (s.length + 1) rfl hd hv (by omega)
    refine autoF_sv (n := s.length + 1) ?_ rfl
    unfold evP
    simp only [h]
    simp only [List.replicate, List.cons_append, List.nil_append, List.length_nil, Int.ofNat_zero, Int.natCast_zero] at hl
    generalize hexN 0 s = v at *
    simp [c125, List.replicate, hne, hsh, hsh0, bytesSV_length, hl]
  · obtain ⟨g1, g2, g3⟩ := decS_dig n
    have hlen := decS_len20 hn
    by_cases hz : n = 0
    · subst hz
      have hl := loop125b E (evF E 1) true [48] [] (by simp) 1 [] [] 0 1 rfl (by simp) (by rw [digN_nil]; omega) (by simp)
      refine autoF_sv (n := 1) ?_ rfl
      unfold evP
      simp only [h]
      rw [decS_small (by omega)]
      kernel_rfl
    · obtain ⟨c, cs, hcs, h48⟩ := decS_head n (by omega)
      have hl := loop125b E (evF E ((decS n).length + 1)) true (decS n) (decS n) (by omega) ((decS n).length + 1) (decS n) [] 0 ((decS n).length + 1) rfl g2 (by rw [g1]; exact hn) (by omega)
      rw [g1] at hl
      refine autoF_sv (n := (decS n).length + 1) ?_ rfl
      unfold evP
      simp only [h]
      simp only [List.replicate, List.cons_append, List.nil_append, List.length_nil, Int.ofNat_zero, Int.natCast_zero] at hl
      have e48 : ((c.toNat : Int) == 48) = false := by rw [Bool.eq_false_iff]; simp; omega
      rw [hcs] at hl ⊢
      simp [c125, List.replicate, hsh, hsh0, bytesSV_length, e48]
      simp at hl
      simp [hl]

def S91 (F : List SV → Option AV) : Prop := S125u F

theorem ev91 (E : Env) (h : E.code 136 = some c91) (h125 : Has E 199 S125u) : S91 (autoF E 136) := by
  obtain ⟨F, hp, hF1, hF2⟩ := h125
  refine ⟨fun s hs hne hd hv => ?_, fun n hn => ?_⟩
  · have := hF1 s hs hne hd hv
    refine autoF_sv (n := 1) ?_ rfl
    unfold evP
    simp only [h]
    generalize hexN 0 s = v at *
    simp [c91, List.replicate, hp, this]
  · have := hF2 n hn
    refine autoF_sv (n := 1) ?_ rfl
    unfold evP
    simp only [h]
    generalize decS n = v at *
    simp [c91, List.replicate, hp, this]

end Go.Ev

set_option linter.unusedSimpArgs false
set_option linter.unusedVariables false
namespace Go.Ev
open Go.Proofs

/-! ### The first place of a sign -/

def S1166 (F : List SV → Option AV) : Prop := ∀ (b : UInt8) (s : List UInt8), s.length < 1000000000000 →
  ((∀ c ∈ s, c.toNat ≠ b.toNat) → F [.str s, .str [b]] = some (.sv (.int .i64 (-1)))) ∧
  ∀ w rest, s = w ++ b :: rest → (∀ c ∈ w, c.toNat ≠ b.toNat) → F [.str s, .str [b]] = some (.sv (.int .i64 (w.length : Int)))

theorem take_one {s : List UInt8} {i : Nat} {c : UInt8} {rest pre : List UInt8} (h : s = pre ++ c :: rest) (hi : i = pre.length) : (s.take (i + 1)).drop i = [c] := by
  subst h; subst hi
  rw [show pre.length + 1 = (pre ++ [c]).length from by simp, show pre ++ c :: rest = (pre ++ [c]) ++ rest from by simp, List.take_left, List.drop_left]

theorem loop1166 (E : Env) (cf : CallF) (b : UInt8) (s : List UInt8) (hs : s.length < 1000000000000) (m : Nat) :
    ∀ (rest pre : List UInt8) (i k : Nat), s = pre ++ rest → i = pre.length → rest.length < k →
      ((∀ c ∈ rest, c.toNat ≠ b.toNat) → rounds (evC E cf m b1166_0) k { tm := [.sv (.str s), .sv (.str [b]), .sv .undef, .sv .undef, .sv .undef, .sv (.int .i64 i)] ++ List.replicate 19 (.sv .undef), lz := none, bx := [], df := [] } = some (.exit 0, { tm := List.replicate 25 (.sv .undef), lz := none, bx := [], df := [] })) ∧
      ∀ w r2, rest = w ++ b :: r2 → (∀ c ∈ w, c.toNat ≠ b.toNat) → rounds (evC E cf m b1166_0) k { tm := [.sv (.str s), .sv (.str [b]), .sv .undef, .sv .undef, .sv .undef, .sv (.int .i64 i)] ++ List.replicate 19 (.sv .undef), lz := none, bx := [], df := [] } = some (.ret, { tm := List.replicate 4 (.sv .undef) ++ [.sv (.int .i64 ((i + w.length : Nat) : Int))] ++ List.replicate 20 (.sv .undef), lz := none, bx := [], df := [] }) := by
  intro rest
  induction rest with
  | nil =>
    intro pre i k hsp hi hk
    obtain ⟨k, rfl⟩ : ∃ k', k = k' + 1 := ⟨k - 1, by omega⟩
    have hl : s.length = i := by rw [hsp, hi]; simp
    have hw : IntKind.i64.wrap ((i : Int) + 1) = ((i + 1 : Nat) : Int) := by rw [IntKind.wrap_i64]; omega
    have hle : ¬ ((i + 1 : Nat) : Int) ≤ (i : Int) := by omega
    refine ⟨fun _ => ?_, fun w r2 h => by simp at h⟩
    refine rounds_out ?_ (by simp)
    generalize hj : ((i + 1 : Nat) : Int) = j at *
    have hnle : ¬ j ≤ (i : Int) := by omega
    simp [b1166_0, List.replicate, hl, hw, hnle]
  | cons c rest ih =>
    intro pre i k hsp hi hk
    obtain ⟨k, rfl⟩ : ∃ k', k = k' + 1 := ⟨k - 1, by omega⟩
    have hl : s.length = i + rest.length + 1 := by rw [hsp, hi]; simp; omega
    have hw : IntKind.i64.wrap ((i : Int) + 1) = ((i + 1 : Nat) : Int) := by rw [IntKind.wrap_i64]; omega
    have hle : ((i + 1 : Nat) : Int) ≤ (s.length : Int) := by omega
    have hle2 : i + 1 ≤ s.length := by omega
    have hii : i ≤ i + 1 := by omega
    have ht := take_one hsp hi
    obtain ⟨ih1, ih2⟩ := ih (pre ++ [c]) (i + 1) k (by rw [hsp]; simp) (by simp [hi]) (by simp at hk; omega)
    have hcb : ∀ x y : UInt8, ([x] == [y]) = decide (x.toNat = y.toNat) := fun x y => by
      rw [Bool.eq_iff_iff]; simp [UInt8.toNat_inj]
    have step : c.toNat ≠ b.toNat → evC E cf m b1166_0 { tm := [.sv (.str s), .sv (.str [b]), .sv .undef, .sv .undef, .sv .undef, .sv (.int .i64 i)] ++ List.replicate 19 (.sv .undef), lz := none, bx := [], df := [] } = some (.normal, { tm := [.sv (.str s), .sv (.str [b]), .sv .undef, .sv .undef, .sv .undef, .sv (.int .i64 ((i + 1 : Nat) : Int))] ++ List.replicate 19 (.sv .undef), lz := none, bx := [], df := [] }) := by
      intro hne
      have hbe := hcb c b
      rw [decide_eq_false hne] at hbe
      generalize hj : ((i + 1 : Nat) : Int) = j at *
      have hj0 : 0 ≤ j := by omega
      have hjt : j.toNat = i + 1 := by omega
      have hij : (i : Int) ≤ j := by omega
      have hii2 : (i : Int) ≤ (i : Int) + 1 := by omega
      have hcne : ¬ c = b := fun e => hne (by rw [e])
      simp [b1166_0, List.replicate, hw, hle, hle2, hii, ht, hbe, hj0, hjt, hij, hii2, hcne]
    refine ⟨fun h => ?_, fun w r2 h hwn => ?_⟩
    · rw [rounds_step (step (h c (by simp)))]
      exact ih1 (fun x hx => h x (by simp [hx]))
    · cases w with
      | nil =>
        simp only [List.nil_append, List.cons.injEq] at h
        obtain ⟨rfl, rfl⟩ := h
        refine rounds_out ?_ (by simp)
        have hbe := hcb c c
        rw [decide_eq_true rfl] at hbe
        simp only [List.length_nil, Nat.add_zero]
        generalize hj : ((i + 1 : Nat) : Int) = j at *
        have hj0 : 0 ≤ j := by omega
        have hjt : j.toNat = i + 1 := by omega
        have hij : (i : Int) ≤ j := by omega
        have hii2 : (i : Int) ≤ (i : Int) + 1 := by omega
        simp [b1166_0, List.replicate, hw, hle, hle2, hii, ht, hbe, hj0, hjt, hij, hii2]
      | cons d w =>
        simp only [List.cons_append, List.cons.injEq] at h
        obtain ⟨rfl, rfl⟩ := h
        rw [rounds_step (step (hwn c (by simp)))]
        have := ih2 w r2 rfl (fun x hx => hwn x (by simp [hx]))
        rw [this, show i + 1 + w.length = i + (c :: w).length from by simp; omega]

theorem ev1166 (E : Env) (h : E.code 242 = some c1166) : S1166 (autoF E 242) := by
  intro b s hs
  obtain ⟨h1, h2⟩ := loop1166 E (evF E (s.length + 1)) b s hs (s.length + 1) s [] 0 (s.length + 1) rfl rfl (by omega)
  refine ⟨fun hn => ?_, fun w rest hsp hw => ?_⟩
  · have hl := h1 hn
    refine autoF_sv (n := s.length + 1) ?_ rfl
    unfold evP
    simp only [h]
    simp only [List.replicate, List.cons_append, List.nil_append, Int.ofNat_zero, Int.natCast_zero] at hl
    simp [c1166, List.replicate, hl]
  · have hl := h2 w rest hsp hw
    refine autoF_sv (n := s.length + 1) ?_ rfl
    unfold evP
    simp only [h]
    simp only [List.replicate, List.cons_append, List.nil_append, Int.ofNat_zero, Int.natCast_zero, Nat.zero_add] at hl
    simp [c1166, List.replicate, hl]

theorem first_or (b : Nat) : ∀ s : List UInt8, (∀ c ∈ s, c.toNat ≠ b) ∨ ∃ w c rest, s = w ++ c :: rest ∧ c.toNat = b ∧ ∀ x ∈ w, x.toNat ≠ b
  | [] => .inl (by simp)
  | c :: s => by
    by_cases h : c.toNat = b
    · exact .inr ⟨[], c, s, rfl, h, by simp⟩
    · rcases first_or b s with h1 | ⟨w, d, rest, h1, h2, h3⟩
      · exact .inl fun x hx => by
          rcases List.mem_cons.1 hx with rfl | hx
          · exact h
          · exact h1 x hx
      · exact .inr ⟨c :: w, d, rest, by rw [h1]; rfl, h2, fun x hx => by
          rcases List.mem_cons.1 hx with rfl | hx
          · exact h
          · exact h3 x hx⟩

/-! ### A text split -/

def S1157 (F : List SV → Option AV) : Prop := ∀ (b : UInt8) (s : List UInt8), s.length < 100000000000 → F [.str s, .str [b]] = some (.sv (.sl (strs (partG b.toNat [] s))))

theorem loop1157 (E : Env) (cf : CallF) (h66 : Has E 242 S1166) (b : UInt8) (L m : Nat) (hL : L < 100000000000) :
    ∀ (k : Nat) (s : List UInt8) (acc : List SV), s.length < k → s.length + acc.length ≤ L →
      rounds (evC E cf m b1157_0) k { tm := [.sv (.str s), .sv (.str [b]), .sv .undef, .sv .undef, .sv .undef, accA 9 acc] ++ List.replicate 52 (.sv .undef), lz := none, bx := [], df := [] } =
        some (.ret, { tm := List.replicate 4 (.sv .undef) ++ [.own 9 (acc ++ strs (partG b.toNat [] s))] ++ List.replicate 53 (.sv .undef), lz := none, bx := [], df := [] }) := by
  obtain ⟨F, hp, hF⟩ := h66
  intro k
  induction k with
  | zero => intro s acc h; omega
  | succ k ih =>
    intro s acc hk hl
    obtain ⟨g1, g2⟩ := hF b s (by omega)
    have hl1 : (acc.length + 1) * 16 ≤ 140737488355328 := by omega
    have hl2 : acc.length + 1 ≤ 140737488355328 := by omega
    rcases first_or b.toNat s with hn | ⟨w, c, rest, hsp, hcb, hw⟩
    · rw [partG_none hn]
      have hFv := g1 hn
      refine rounds_out ?_ (by simp)
      cases acc with
      | nil => simp [b1157_0, List.replicate, hp, hFv, accA, strs]
      | cons y ys =>
        simp only [List.length_cons] at hl1 hl2
        simp [b1157_0, List.replicate, hp, hFv, accA, strs, hl1, hl2]
    · have : c = b := UInt8.toNat_inj.1 hcb
      subst this
      have hFv := g2 w rest hsp hw
      have hsl : s.length = w.length + rest.length + 1 := by rw [hsp]; simp; omega
      rw [hsp, partG_first hw, ← hsp]
      have he := ih rest (acc ++ [.str w]) (by omega) (by simp; omega)
      rw [show acc ++ strs (w :: partG c.toNat [] rest) = acc ++ [SV.str w] ++ strs (partG c.toNat [] rest) from by simp [strs], ← he]
      refine rounds_step ?_
      have hw1 : IntKind.i64.wrap ((w.length : Int) + 1) = ((w.length + 1 : Nat) : Int) := by rw [IntKind.wrap_i64]; omega
      have ht : s.take w.length = w := by rw [hsp, List.take_left]
      have hd : s.drop (w.length + 1) = rest := by
        rw [hsp, show w.length + 1 = (w ++ [c]).length from by simp, show w ++ c :: rest = (w ++ [c]) ++ rest from by simp, List.drop_left]
      have hle : w.length ≤ s.length := by omega
      have hle2 : ((w.length + 1 : Nat) : Int) ≤ (s.length : Int) := by omega
      have hng : ¬ (w.length : Int) < 0 := by omega
      generalize hj : ((w.length + 1 : Nat) : Int) = j at *
      have hj0 : 0 ≤ j := by omega
      have hjt : j.toNat = w.length + 1 := by omega
      cases acc with
      | nil => simp [b1157_0, List.replicate, hp, hFv, accA, strs, hw1, ht, hd, hle, hle2, hj0, hjt, hng]
      | cons y ys =>
        simp only [List.length_cons] at hl1 hl2
        simp [b1157_0, List.replicate, hp, hFv, accA, strs, hw1, ht, hd, hle, hle2, hl1, hl2, hj0, hjt, hng]

theorem ev1157 (E : Env) (h : E.code 239 = some c1157) (h66 : Has E 242 S1166) : S1157 (autoF E 239) := by
  intro b s hs
  have hl := loop1157 E (evF E (s.length + 1)) h66 b s.length (s.length + 1) hs (s.length + 1) s [] (by omega) (by simp)
  refine autoF_sl (n := s.length + 1) (r := .own 9 (strs (partG b.toNat [] s))) ?_ rfl
  unfold evP
  simp only [h]
  simp only [accA, List.replicate, List.cons_append, List.nil_append] at hl
  generalize strs (partG b.toNat [] s) = z at hl
  simp [c1157, List.replicate, hl]

/-! ### Addresses -/

def byV (hi lo : UInt8) : UInt8 := UInt8.ofNat (digitV hi.toNat * 16 + digitV lo.toNat)

theorem byV_toNat {hi lo : UInt8} (h1 : digitV hi.toNat < 16) (h2 : digitV lo.toNat < 16) : (byV hi lo).toNat = digitV hi.toNat * 16 + digitV lo.toNat := by
  unfold byV; simp; omega

def hexB : List UInt8 → List UInt8
  | a :: b :: r => byV a b :: hexB r
  | _ => []

/-- An address's bytes: each word backwards. -/
def addrV : List UInt8 → List UInt8
  | a :: b :: c :: d :: e :: f :: g :: h :: r => byV g h :: byV e f :: byV c d :: byV a b :: addrV r
  | _ => []

def S1177 (F : List SV → Option AV) : Prop := ∀ c : UInt8, digitV c.toNat < 16 → F [.int .u8 (c.toNat : Int)] = some (.sv (.tup [.int .u8 (digitV c.toNat : Int), .bool true]))

theorem ev1177 (E : Env) (h : E.code 260 = some c1177) : S1177 (autoF E 260) := by
  intro c hc
  refine autoF_sv (n := 1) ?_ rfl
  unfold evP
  simp only [h]
  generalize c.toNat = k at hc ⊢
  have hk : (48 ≤ k ∧ k ≤ 57) ∨ (65 ≤ k ∧ k ≤ 70) ∨ (97 ≤ k ∧ k ≤ 102) := by
    unfold digitV at hc
    (repeat' split at hc) <;> omega
  have : k = 48 ∨ k = 49 ∨ k = 50 ∨ k = 51 ∨ k = 52 ∨ k = 53 ∨ k = 54 ∨ k = 55 ∨ k = 56 ∨ k = 57 ∨ k = 65 ∨ k = 66 ∨ k = 67 ∨ k = 68 ∨ k = 69 ∨ k = 70 ∨ k = 97 ∨ k = 98 ∨ k = 99 ∨ k = 100 ∨ k = 101 ∨ k = 102 := by omega
  rcases this with rfl | rfl | rfl | rfl | rfl | rfl | rfl | rfl | rfl | rfl | rfl | rfl | rfl | rfl | rfl | rfl | rfl | rfl | rfl | rfl | rfl | rfl <;> simp [c1177, List.replicate, digitV] <;> decide

def S1174 (F : List SV → Option AV) : Prop := ∀ (k : Nat) (s : List UInt8), s.length = 2 * k → s.length < 1000000 → (∀ c ∈ s, digitV c.toNat < 16) → F [.str s] = some (.sv (.tup [.sl (bytesSV (hexB s)), .nilI]))

theorem or16 : ∀ a b : Fin 16, (a.val * 16 ||| b.val) = a.val * 16 + b.val := by decide

theorem or16' {a b : Nat} (ha : a < 16) (hb : b < 16) : (a * 16 ||| b) = a * 16 + b := or16 ⟨a, ha⟩ ⟨b, hb⟩

theorem loop1174 (E : Env) (cf : CallF) (h77 : Has E 260 S1177) (s : List UInt8) (hs : s.length < 1000000) (m : Nat) :
    ∀ (q : Nat) (rest pre : List UInt8) (acc : List SV) (i k : Nat), s = pre ++ rest → i = pre.length → rest.length = 2 * q → (∀ c ∈ rest, digitV c.toNat < 16) → acc.length ≤ i → q < k →
      rounds (evC E cf m b1174_0) k { tm := [.sv (.str s), .sv .undef, .sv .undef, .sv .undef, accA 5 acc, .sv (.int .i64 i)] ++ List.replicate 47 (.sv .undef), lz := none, bx := [], df := [] } =
        some (.exit 0, { tm := [.sv .undef, .sv .undef, .sv .undef, .sv .undef, accA 5 (acc ++ bytesSV (hexB rest))] ++ List.replicate 48 (.sv .undef), lz := none, bx := [], df := [] }) := by
  obtain ⟨F, hp, hF⟩ := h77
  intro q
  induction q with
  | zero =>
    intro rest pre acc i k hsp hi hr hd hal hk
    obtain ⟨k, rfl⟩ : ∃ k', k = k' + 1 := ⟨k - 1, by omega⟩
    have : rest = [] := List.eq_nil_of_length_eq_zero (by omega)
    subst this
    have hl : s.length = i := by rw [hsp, hi]; simp
    have hlt : ¬ (i < s.length) := by omega
    refine rounds_out ?_ (by simp)
    simp [b1174_0, List.replicate, hlt, hexB, bytesSV]
  | succ q ih =>
    intro rest pre acc i k hsp hi hr hd hal hk
    obtain ⟨k, rfl⟩ : ∃ k', k = k' + 1 := ⟨k - 1, by omega⟩
    obtain ⟨a, b, rest, rfl⟩ : ∃ a b r, rest = a :: b :: r := by
      match rest, hr with
      | a :: b :: r, _ => exact ⟨a, b, r, rfl⟩
    simp only [List.length_cons] at hr
    have hl : s.length = i + rest.length + 2 := by rw [hsp, hi]; simp; omega
    have hlt : i < s.length := by omega
    have hlt1 : i + 1 < s.length := by omega
    have hga : ∀ h : i < s.length, s[i]'h = a := by subst hi; subst hsp; simp
    have hgb : ∀ h : i + 1 < s.length, s[i + 1]'h = b := by
      intro h
      have : s[i + 1]? = some b := by rw [hsp, List.getElem?_append_right (by omega)]; simp [hi]
      exact (List.getElem?_eq_some_iff.1 this).2
    have ha := hd a (by simp)
    have hb := hd b (by simp)
    have hFa := hF a ha
    have hFb := hF b hb
    have hw1 : IntKind.i64.wrap ((i : Int) + 1) = ((i + 1 : Nat) : Int) := by rw [IntKind.wrap_i64]; omega
    have hw2 : IntKind.i64.wrap ((i : Int) + 2) = ((i + 2 : Nat) : Int) := by rw [IntKind.wrap_i64]; omega
    have hne : ¬ ((i + 1 : Nat) : Int) = (s.length : Int) := by omega
    have hneb : (((i + 1 : Nat) : Int) == (s.length : Int)) = false := by simpa using hne
    have hby := byV_toNat ha hb
    have hl1 : (acc.length + 1) * 1 ≤ 140737488355328 := by omega
    have hl2 : acc.length + 1 ≤ 140737488355328 := by omega
    have he := ih rest (pre ++ [a, b]) (acc ++ [.int .u8 ((byV a b).toNat : Int)]) (i + 2) k (by rw [hsp]; simp) (by simp [hi]) (by omega) (fun c hc => hd c (by simp [hc])) (by simp; omega) (by omega)
    simp only [hexB]
    rw [show acc ++ bytesSV (byV a b :: hexB rest) = acc ++ [SV.int .u8 ((byV a b).toNat : Int)] ++ bytesSV (hexB rest) from by simp [bytesSV], ← he]
    refine rounds_step ?_
    have hw8 : IntKind.u8.wrap ((((IntKind.u8.wrap ((digitV a.toNat : Int) * 16) % 256).toNat ||| digitV b.toNat % 256 : Nat)) : Int) = ((byV a b).toNat : Int) := by
      have e1 : (IntKind.u8.wrap ((digitV a.toNat : Int) * 16) % 256).toNat = digitV a.toNat * 16 := by rw [IntKind.wrap_u8]; omega
      have e2 : digitV b.toNat % 256 = digitV b.toNat := by omega
      rw [e1, e2, or16' ha hb, IntKind.wrap_u8, hby]; omega
    generalize hj : ((i + 1 : Nat) : Int) = j at *
    have hj0 : 0 ≤ j := by omega
    have hjt : j.toNat = i + 1 := by omega
    have hjl : j < (s.length : Int) := by omega
    generalize ((i + 2 : Nat) : Int) = j2 at *
    have hb8 : IntKind.u8.bits = 8 := rfl
    cases acc with
    | nil => simp [b1174_0, List.replicate, hlt, hlt1, hga, hgb, hp, hFa, hFb, hw1, hw2, hne, hneb, hj0, hjt, hjl, hb8, hw8, accA]
    | cons y ys =>
      simp only [List.length_cons] at hl1 hl2
      simp [b1174_0, List.replicate, hlt, hlt1, hga, hgb, hp, hFa, hFb, hw1, hw2, hne, hneb, hj0, hjt, hjl, hb8, hw8, accA, hl2]

theorem ev1174 (E : Env) (h : E.code 254 = some c1174) (h77 : Has E 260 S1177) : S1174 (autoF E 254) := by
  intro k s hk hs hd
  have hl := loop1174 E (evF E (k + 1)) h77 s hs (k + 1) k s [] [] 0 (k + 1) rfl rfl hk hd (by simp) (by omega)
  refine autoF_sv (n := k + 1) ?_ rfl
  unfold evP
  simp only [h]
  rw [List.nil_append] at hl
  simp only [accA, List.replicate, List.cons_append, List.nil_append, Int.ofNat_zero, Int.natCast_zero] at hl
  generalize bytesSV (hexB s) = z at hl
  cases z with
  | nil => simp only [accA] at hl; simp [c1174, List.replicate, hl]
  | cons y ys => simp only [accA] at hl; simp [c1174, List.replicate, hl]

def addrF (s : List UInt8) : Prop := (s.length = 8 ∨ s.length = 32) ∧ ∀ c ∈ s, digitV c.toNat < 16

def S1169 (F : List SV → Option AV) : Prop := ∀ s : List UInt8, addrF s → F [.str s] = some (.sv (.tup [.sl (bytesSV (addrV s)), .nilI]))

theorem ev1169 (E : Env) (h : E.code 240 = some c1169) (h74 : Has E 254 S1174) : S1169 (autoF E 240) := by
  obtain ⟨F, hp, hF⟩ := h74
  rintro s ⟨hl | hl, hd⟩
  · have hFv := hF 4 s (by omega) (by omega) hd
    refine autoF_sv (n := 1) ?_ rfl
    unfold evP
    simp only [h]
    match s, hl with
    | [s0, s1, s2, s3, s4, s5, s6, s7], _ =>
      simp only [hexB, bytesSV, List.map_cons, List.map_nil] at hFv
      simp [c1169, List.replicate, hp, hFv, addrV, bytesSV]
  · have hFv := hF 16 s (by omega) (by omega) hd
    refine autoF_sv (n := 1) ?_ rfl
    unfold evP
    simp only [h]
    match s, hl with
    | [s0, s1, s2, s3, s4, s5, s6, s7, s8, s9, s10, s11, s12, s13, s14, s15, s16, s17, s18, s19, s20, s21, s22, s23, s24, s25, s26, s27, s28, s29, s30, s31], _ =>
      simp only [hexB, bytesSV, List.map_cons, List.map_nil] at hFv
      simp [c1169, List.replicate, hp, hFv, addrV, bytesSV]

end Go.Ev

set_option linter.unusedSimpArgs false
set_option linter.unusedVariables false
namespace Go.Ev
open Go.Proofs

set_option maxRecDepth 100000 in
set_option maxHeartbeats 80000000 in
theorem core1159_false (E : Env) (h : E.code 225 = some c1159) (FS FP FI : List SV → Option AV) (h57 : E.pure 239 = some FS) (h91 : E.pure 136 = some FP) (h69 : E.pure 240 = some FI)
    (f0 f1 f2 f3 f4 f5 f6 f7 f8 f9 f10 f11 f12 f13 f14 f15 f16 d0 x0 a a1 b b1 q0 q1 : List UInt8) (n0 n1 n2 n3 n4 n5 n6 n7 n8 : Nat) (va vb : List SV)
    (s0 : FS [.str f0, .str [58]] = some (.sv (.sl [.str d0, .str x0]))) (s1 : FS [.str f1, .str [58]] = some (.sv (.sl [.str a, .str a1]))) (s2 : FS [.str f2, .str [58]] = some (.sv (.sl [.str b, .str b1]))) (s4 : FS [.str f4, .str [58]] = some (.sv (.sl [.str q0, .str q1])))
    (p0 : FP [.str d0, .int .i64 0, .int .i64 64] = some (.sv (.tup [.int .u64 (n0 : Int), .nilI]))) (p1 : FP [.str a1, .int .i64 16, .int .i64 64] = some (.sv (.tup [.int .u64 (n1 : Int), .nilI]))) (p2 : FP [.str b1, .int .i64 16, .int .i64 64] = some (.sv (.tup [.int .u64 (n2 : Int), .nilI])))
    (p3 : FP [.str f3, .int .i64 16, .int .i64 64] = some (.sv (.tup [.int .u64 (n3 : Int), .nilI]))) (p4 : FP [.str q0, .int .i64 16, .int .i64 64] = some (.sv (.tup [.int .u64 (n4 : Int), .nilI]))) (p5 : FP [.str q1, .int .i64 16, .int .i64 64] = some (.sv (.tup [.int .u64 (n5 : Int), .nilI])))
    (p6 : FP [.str f7, .int .i64 0, .int .i64 64] = some (.sv (.tup [.int .u64 (n6 : Int), .nilI]))) (p7 : FP [.str f9, .int .i64 0, .int .i64 64] = some (.sv (.tup [.int .u64 (n7 : Int), .nilI])))
    (ia : FI [.str a] = some (.sv (.tup [.sl va, .nilI]))) (ib : FI [.str b] = some (.sv (.tup [.sl vb, .nilI]))) (n : Nat) :
    evP E n 225 [.sl [.str f0, .str f1, .str f2, .str f3, .str f4, .str f5, .str f6, .str f7, .str f8, .str f9, .str f10, .str f11, .str f12, .str f13, .str f14, .str f15, .str f16], .bool false] = some (.sv (.tup [.ref [.int .u64 (n0 : Int), .sl va, .int .u64 (n1 : Int), .sl vb, .int .u64 (n2 : Int), .int .u64 (n3 : Int), .int .u64 (n4 : Int), .int .u64 (n5 : Int), .int .u64 (n6 : Int), .int .u64 (n7 : Int), .nilP], .nilI])) := by
  unfold evP
  simp only [h]
  simp (maxSteps := 5000000) [c1159, List.replicate, h57, h91, h69, s0, s1, s2, s4, p0, p1, p2, p3, p4, p5, p6, p7, ia, ib]

set_option maxRecDepth 100000 in
set_option maxHeartbeats 80000000 in
theorem core1159_true (E : Env) (h : E.code 225 = some c1159) (FS FP FI : List SV → Option AV) (h57 : E.pure 239 = some FS) (h91 : E.pure 136 = some FP) (h69 : E.pure 240 = some FI)
    (f0 f1 f2 f3 f4 f5 f6 f7 f8 f9 f10 f11 f12 d0 x0 a a1 b b1 q0 q1 : List UInt8) (n0 n1 n2 n3 n4 n5 n6 n7 n8 : Nat) (va vb : List SV)
    (s0 : FS [.str f0, .str [58]] = some (.sv (.sl [.str d0, .str x0]))) (s1 : FS [.str f1, .str [58]] = some (.sv (.sl [.str a, .str a1]))) (s2 : FS [.str f2, .str [58]] = some (.sv (.sl [.str b, .str b1]))) (s4 : FS [.str f4, .str [58]] = some (.sv (.sl [.str q0, .str q1])))
    (p0 : FP [.str d0, .int .i64 0, .int .i64 64] = some (.sv (.tup [.int .u64 (n0 : Int), .nilI]))) (p1 : FP [.str a1, .int .i64 16, .int .i64 64] = some (.sv (.tup [.int .u64 (n1 : Int), .nilI]))) (p2 : FP [.str b1, .int .i64 16, .int .i64 64] = some (.sv (.tup [.int .u64 (n2 : Int), .nilI])))
    (p3 : FP [.str f3, .int .i64 16, .int .i64 64] = some (.sv (.tup [.int .u64 (n3 : Int), .nilI]))) (p4 : FP [.str q0, .int .i64 16, .int .i64 64] = some (.sv (.tup [.int .u64 (n4 : Int), .nilI]))) (p5 : FP [.str q1, .int .i64 16, .int .i64 64] = some (.sv (.tup [.int .u64 (n5 : Int), .nilI])))
    (p6 : FP [.str f7, .int .i64 0, .int .i64 64] = some (.sv (.tup [.int .u64 (n6 : Int), .nilI]))) (p7 : FP [.str f9, .int .i64 0, .int .i64 64] = some (.sv (.tup [.int .u64 (n7 : Int), .nilI])))
    (p8 : FP [.str f12, .int .i64 0, .int .i64 64] = some (.sv (.tup [.int .u64 (n8 : Int), .nilI])))
    (ia : FI [.str a] = some (.sv (.tup [.sl va, .nilI]))) (ib : FI [.str b] = some (.sv (.tup [.sl vb, .nilI]))) (n : Nat) :
    evP E n 225 [.sl [.str f0, .str f1, .str f2, .str f3, .str f4, .str f5, .str f6, .str f7, .str f8, .str f9, .str f10, .str f11, .str f12], .bool true] = some (.sv (.tup [.ref [.int .u64 (n0 : Int), .sl va, .int .u64 (n1 : Int), .sl vb, .int .u64 (n2 : Int), .int .u64 (n3 : Int), .int .u64 (n4 : Int), .int .u64 (n5 : Int), .int .u64 (n6 : Int), .int .u64 (n7 : Int), .ref [.int .u64 (n8 : Int)]], .nilI])) := by
  unfold evP
  simp only [h]
  simp (maxSteps := 5000000) [c1159, List.replicate, h57, h91, h69, s0, s1, s2, s4, p0, p1, p2, p3, p4, p5, p6, p7, ia, ib, p8]

end Go.Ev

set_option linter.unusedSimpArgs false
set_option linter.unusedVariables false
namespace Go.Ev
open Go.Proofs

/-- A socket as a tree. -/
def skNode (d : Bool) (r : RowD) : SV := match r.N, r.S with
  | [n0, n1, n2, n3, n4, n5, n6, n7, n8], [a, b] => nodeV [] 8 false 0 0 0 [] [nodeV [83, 108] 3 false 0 (n0 : Int) 0 [] [], nodeV [76, 111, 99, 97, 108, 65, 100, 100, 114] 9 false 0 0 0 (addrV a) [], nodeV [76, 111, 99, 97, 108, 80, 111, 114, 116] 3 false 0 (n1 : Int) 0 [] [], nodeV [82, 101, 109, 65, 100, 100, 114] 9 false 0 0 0 (addrV b) [], nodeV [82, 101, 109, 80, 111, 114, 116] 3 false 0 (n2 : Int) 0 [] [], nodeV [83, 116] 3 false 0 (n3 : Int) 0 [] [], nodeV [84, 120, 81, 117, 101, 117, 101] 3 false 0 (n4 : Int) 0 [] [], nodeV [82, 120, 81, 117, 101, 117, 101] 3 false 0 (n5 : Int) 0 [] [], nodeV [85, 73, 68] 3 false 0 (n6 : Int) 0 [] [], nodeV [73, 110, 111, 100, 101] 3 false 0 (n7 : Int) 0 [] [],
      if d then nodeV [68, 114, 111, 112, 115] 3 false 0 (n8 : Int) 0 [] [] else nodeV [68, 114, 111, 112, 115] 0 false 0 0 0 [] []]
  | _, _ => nodeV [] 8 false 0 0 0 [] []

def skTree (d : Bool) (l : List RowD) : SV := nodeV [] 6 false 0 0 0 [] (l.map (skNode d))

theorem skNode_node (d : Bool) (r : RowD) : IsNode (skNode d r) := by
  unfold skNode
  split
  · refine .mk _ _ _ _ _ _ _ _ (by simp) fun k hk => ?_
    simp only [List.mem_cons, List.not_mem_nil, or_false] at hk
    have key : ∀ nm kd u s, IsNode (nodeV nm kd false 0 u 0 s []) := fun nm kd u s => .mk _ _ _ _ _ _ _ _ (by simp) (by simp)
    rcases hk with rfl | rfl | rfl | rfl | rfl | rfl | rfl | rfl | rfl | rfl | rfl
    all_goals first
      | exact key _ _ _ _
      | (cases d <;> exact key _ _ _ _)
  · exact .mk _ _ _ _ _ _ _ _ (by simp) (by simp)

theorem skTree_node (d : Bool) (l : List RowD) (hl : l.length < 100000000) : IsNode (skTree d l) := by
  refine .mk _ _ _ _ _ _ _ _ (by simpa using (by omega : l.length < 1000000000)) fun k hk => ?_
  obtain ⟨r, _, rfl⟩ := List.mem_map.1 hk
  exact skNode_node d r

/-- What the program holds of a socket. -/
def skCells (d : Bool) (r : RowD) : List SV := match r.N, r.S with
  | [n0, n1, n2, n3, n4, n5, n6, n7, n8], [a, b] => [.int .u64 (n0 : Int), .sl (bytesSV (addrV a)), .int .u64 (n1 : Int), .sl (bytesSV (addrV b)), .int .u64 (n2 : Int), .int .u64 (n3 : Int), .int .u64 (n4 : Int), .int .u64 (n5 : Int), .int .u64 (n6 : Int), .int .u64 (n7 : Int), if d then .ref [.int .u64 (n8 : Int)] else .nilP]
  | _, _ => []

def skVals (d : Bool) (rs : List RowD) : List SV := rs.map fun r => .ref (skCells d r)

theorem addrOk_F {drops : Bool} {r : RowD} {n0 n1 n2 n3 n4 n5 n6 n7 n8 : Nat} {a b : List UInt8} (h : SkR drops r n0 n1 n2 n3 n4 n5 n6 n7 n8 a b) : addrF a ∧ addrF b := by
  have key : ∀ c : UInt8, addrC c = true → digitV c.toNat < 16 := fun c hc => by
    unfold addrC at hc
    simp only [Bool.and_eq_true, decide_eq_true_eq] at hc
    omega
  exact ⟨⟨h.ha, fun c hc => key c (h.ca c hc)⟩, ⟨by rw [h.hb]; exact h.ha, fun c hc => key c (h.cb c hc)⟩⟩

end Go.Ev

set_option linter.unusedSimpArgs false
set_option linter.unusedVariables false
namespace Go.Ev
open Go.Proofs

def S1146 (F : List SV → Option AV) : Prop := ∀ (nm : List UInt8) (u : Int), F [.str nm, .int .u64 u] = some (.sv (nodeV nm 3 false 0 u 0 [] []))

theorem ev1146 (E : Env) (h : E.code 204 = some c1146) : S1146 (autoF E 204) := by
  intro nm u
  refine autoA_sv (n := 1) ?_ rfl
  unfold evPA
  simp only [h]
  simp [c1146, nodeV]

def S1145 (F : List SV → Option AV) : Prop := (∀ nm : List UInt8, F [.str nm, .nilP, .fn 204 [] []] = some (.sv (nodeV nm 0 false 0 0 0 [] []))) ∧
  ∀ (nm : List UInt8) (u : Int), F [.str nm, .ref [.int .u64 u], .fn 204 [] []] = some (.sv (nodeV nm 3 false 0 u 0 [] []))

theorem ev1145 (E : Env) (h : E.code 186 = some c1145) (h46 : Has E 204 S1146) : S1145 (autoF E 186) := by
  obtain ⟨F, hp, hF⟩ := h46
  have hF' : ∀ (nm : List UInt8) (u : Int), F [.str nm, .int .u64 u] = some (.sv (.agg [.str nm, .int .i64 3, .bool false, .int .i64 0, .int .u64 u, .flt .f64 0, .str [], .sl []])) := hF
  refine ⟨fun nm => ?_, fun nm u => ?_⟩
  · refine autoA_sv (n := 1) ?_ rfl
    unfold evPA
    simp only [h]
    simp [c1145, nodeV]
  · refine autoA_sv (n := 1) ?_ rfl
    unfold evPA
    simp only [h]
    simp [c1145, nodeV, hp, hF']

def S1123 (F : List SV → Option AV) : Prop := ∀ (d : Bool) (r : RowD), skOk d r = true → F [.str [], .agg (skCells d r)] = some (.sv (skNode d r))

set_option maxHeartbeats 16000000 in
theorem ev1123 (E : Env) (h : E.code 166 = some c1123) (h45 : Has E 186 S1145) : S1123 (autoF E 166) := by
  obtain ⟨F, hp, hF1, hF2⟩ := h45
  have hF1' : ∀ nm : List UInt8, F [.str nm, .nilP, .fn 204 [] []] = some (.sv (.agg [.str nm, .int .i64 0, .bool false, .int .i64 0, .int .u64 0, .flt .f64 0, .str [], .sl []])) := hF1
  have hF2' : ∀ (nm : List UInt8) (u : Int), F [.str nm, .ref [.int .u64 u], .fn 204 [] []] = some (.sv (.agg [.str nm, .int .i64 3, .bool false, .int .i64 0, .int .u64 u, .flt .f64 0, .str [], .sl []])) := hF2
  intro d r hr
  obtain ⟨n0, n1, n2, n3, n4, n5, n6, n7, n8, a, b, hs⟩ := skOk_spec hr
  refine autoA_sv (n := 1) ?_ (by unfold skNode; split <;> rfl)
  unfold evPA
  simp only [h]
  unfold skCells skNode
  simp only [hs.hN, hs.hS]
  have ea := svBytes_bytes (addrV a)
  have eb := svBytes_bytes (addrV b)
  generalize addrV a = va at *
  generalize addrV b = vb at *
  generalize bytesSV va = wa at *
  generalize bytesSV vb = wb at *
  cases d with
  | true => simp [c1123, nodeV, hp, hF2', ea, eb]
  | false => simp [c1123, nodeV, hp, hF1', ea, eb]

theorem skCells_len {d : Bool} {r : RowD} (h : skOk d r = true) : ∃ x0 x1 x2 x3 x4 x5 x6 x7 x8 x9 x10, skCells d r = [x0, x1, x2, x3, x4, x5, x6, x7, x8, x9, x10] ∧ (skCells d r).map SV.can0 = skCells d r := by
  obtain ⟨n0, n1, n2, n3, n4, n5, n6, n7, n8, a, b, hs⟩ := skOk_spec h
  unfold skCells
  simp only [hs.hN, hs.hS]
  refine ⟨_, _, _, _, _, _, _, _, _, _, _, rfl, ?_⟩
  cases d <;> rfl

theorem skNode_agg (d : Bool) (r : RowD) : ∃ k, skNode d r = .agg [.str [], .int .i64 8, .bool false, .int .i64 0, .int .u64 0, .flt .f64 0, .str [], .sl k] := by
  unfold skNode
  split
  · exact ⟨_, rfl⟩
  · exact ⟨_, rfl⟩

def S1122 (F : List SV → Option AV) : Prop := ∀ r : RowD, skOk false r = true → F [.str [], .agg (skCells false r)] = some (.sv (skNode false r))
def S1130 (F : List SV → Option AV) : Prop := ∀ r : RowD, skOk true r = true → F [.str [], .agg (skCells true r)] = some (.sv (skNode true r))

theorem ev1122 (E : Env) (h : E.code 165 = some c1122) (h23 : Has E 166 S1123) : S1122 (autoF E 165) := by
  obtain ⟨F, hp, hF⟩ := h23
  intro r hr
  have hFr := hF false r hr
  obtain ⟨k, hk⟩ := skNode_agg false r
  obtain ⟨n0, n1, n2, n3, n4, n5, n6, n7, n8, a, b, hs⟩ := skOk_spec hr
  rw [hk] at hFr ⊢
  unfold skCells at hFr ⊢
  simp only [hs.hN, hs.hS, if_true, Bool.false_eq_true, if_false] at hFr ⊢
  refine autoA_sv (n := 1) ?_ rfl
  unfold evPA
  simp only [h]
  generalize bytesSV (addrV a) = va at *
  generalize bytesSV (addrV b) = vb at *
  simp [c1122, hp, hFr]

theorem ev1130 (E : Env) (h : E.code 170 = some c1130) (h23 : Has E 166 S1123) : S1130 (autoF E 170) := by
  obtain ⟨F, hp, hF⟩ := h23
  intro r hr
  have hFr := hF true r hr
  obtain ⟨k, hk⟩ := skNode_agg true r
  obtain ⟨n0, n1, n2, n3, n4, n5, n6, n7, n8, a, b, hs⟩ := skOk_spec hr
  rw [hk] at hFr ⊢
  unfold skCells at hFr ⊢
  simp only [hs.hN, hs.hS, if_true, Bool.false_eq_true, if_false] at hFr ⊢
  refine autoA_sv (n := 1) ?_ rfl
  unfold evPA
  simp only [h]
  generalize bytesSV (addrV a) = va at *
  generalize bytesSV (addrV b) = vb at *
  simp [c1130, hp, hFr]

def fnN (d : Bool) : Nat := if d then 170 else 165
def fnL (d : Bool) : Nat := if d then 169 else 163

def S1121 (F : List SV → Option AV) : Prop := ∀ (d : Bool) (r : RowD), skOk d r = true → F [.str [], .ref (skCells d r), .fn (fnN d) [] []] = some (.sv (skNode d r))

theorem ev1121 (E : Env) (h : E.code 164 = some c1121) (h22 : Has E 165 S1122) (h30 : Has E 170 S1130) : S1121 (autoF E 164) := by
  obtain ⟨F, hp, hF⟩ := h22
  obtain ⟨G, hq, hG⟩ := h30
  intro d r hr
  obtain ⟨k, hk⟩ := skNode_agg d r
  obtain ⟨n0, n1, n2, n3, n4, n5, n6, n7, n8, a, b, hs⟩ := skOk_spec hr
  refine autoA_sv (n := 1) ?_ (by rw [hk]; rfl)
  unfold evPA
  simp only [h]
  cases d with
  | true =>
    have hFr := hG r hr
    rw [hk] at hFr ⊢
    unfold skCells at hFr ⊢
    simp only [hs.hN, hs.hS, if_true] at hFr ⊢
    generalize bytesSV (addrV a) = va at *
    generalize bytesSV (addrV b) = vb at *
    simp [c1121, fnN, hq, hFr]
  | false =>
    have hFr := hF r hr
    rw [hk] at hFr ⊢
    unfold skCells at hFr ⊢
    simp only [hs.hN, hs.hS, Bool.false_eq_true, if_false] at hFr ⊢
    generalize bytesSV (addrV a) = va at *
    generalize bytesSV (addrV b) = vb at *
    simp [c1121, fnN, hp, hFr]

def S1120 (F : List SV → Option AV) : Prop := ∀ r : RowD, skOk false r = true → F [.ref (skCells false r)] = some (.sv (skNode false r))

theorem ev1120 (E : Env) (h : E.code 163 = some c1120) (h21 : Has E 164 S1121) : S1120 (autoF E 163) := by
  obtain ⟨F, hp, hF⟩ := h21
  intro r hr
  have hFr := hF false r hr
  obtain ⟨k, hk⟩ := skNode_agg false r
  rw [hk] at hFr ⊢
  refine autoA_sv (n := 1) ?_ rfl
  unfold evPA
  simp only [h]
  generalize skCells false r = cs at *
  simp [fnN] at hFr
  simp [c1120, hp, hFr]

def S1129 (F : List SV → Option AV) : Prop := ∀ r : RowD, skOk true r = true → F [.ref (skCells true r)] = some (.sv (skNode true r))

theorem ev1129 (E : Env) (h : E.code 169 = some c1129) (h21 : Has E 164 S1121) : S1129 (autoF E 169) := by
  obtain ⟨F, hp, hF⟩ := h21
  intro r hr
  have hFr := hF true r hr
  obtain ⟨k, hk⟩ := skNode_agg true r
  rw [hk] at hFr ⊢
  refine autoA_sv (n := 1) ?_ rfl
  unfold evPA
  simp only [h]
  generalize skCells true r = cs at *
  simp [fnN] at hFr
  simp [c1129, hp, hFr]

/-! ### A list of sockets as a tree -/

def accK (xs : List SV) : Cell := match xs with | [] => .sv .nilS | x :: l => .own 36 (x :: l)

def st1119 (d : Bool) (xs acc : List SV) (i : Nat) (z : Box) : SA := { nt := 28, tm := [(14, .sv (.int .i64 i)), (13, .sv (.int .i64 xs.length)), (12, .sv (.sl xs)), (7, .ptr 1 0), (6, .ptr 0 0), (2, .sv (.fn (fnL d) [] []))], lz := none, bx := [z, .live [.sv (.str []), .sv (.int .i64 6), .sv (.bool false), .sv (.int .i64 0), .sv (.int .u64 0), .sv (.flt .f64 0), .sv (.str []), accK acc]], df := [] }

def S1119 (F : List SV → Option AV) : Prop := ∀ (d : Bool) (rs : List RowD), rs.length < 100000000 → (∀ r ∈ rs, skOk d r = true) → F [.str [], .sl (skVals d rs), .fn (fnL d) [] []] = some (.sv (skTree d rs))

set_option maxHeartbeats 4000000 in
theorem step1119 (E : Env) (cf : CallF) (m : Nat) (G : List SV → Option AV) (d : Bool) (hG : E.pure (fnL d) = some G) (xs acc : List SV) (ha : acc.length < 1000000000) (i : Nat) (hlt : i < xs.length) (hxl : xs.length < 100000000) (x : SV) (cs : List SV) (hx : x = .ref cs) (hc : ∀ h : i < xs.length, xs[i]'h = x) (v : SV) (k : List SV) (hv : v = .agg [.str [], .int .i64 8, .bool false, .int .i64 0, .int .u64 0, .flt .f64 0, .str [], .sl k]) (hgx : G [x] = some (.sv v)) (z : Box) :
    evCA E cf m b1119_0 (st1119 d xs acc i z) = some (.normal, st1119 d xs (acc ++ [v]) (i + 1) z) := by
  subst hx; subst hv
  have hw : IntKind.i64.wrap ((i : Int) + 1) = ((i + 1 : Nat) : Int) := by rw [IntKind.wrap_i64]; omega
  have hl1 : (acc.length + 1) * 96 ≤ 140737488355328 := by omega
  have hl2 : acc.length + 1 ≤ 140737488355328 := by omega
  cases acc with
  | nil => simp [st1119, b1119_0, hlt, hc, hG, hgx, hw, accK]
  | cons y ys =>
    simp only [List.length_cons] at hl1 hl2
    simp [st1119, b1119_0, hlt, hc, hG, hgx, hw, accK, hl1, hl2]

theorem loop1119 (E : Env) (cf : CallF) (m : Nat) (d : Bool) (h20 : Has E 163 S1120) (h29 : Has E 169 S1129) (xs : List SV) (hxl : xs.length < 100000000) (z : Box) :
    ∀ (rest : List RowD) (pre acc : List SV) (i : Nat) (k : Nat), xs = pre ++ skVals d rest → i = pre.length → acc.length = i → (∀ r ∈ rest, skOk d r = true) → rest.length < k →
      roundsA (evCA E cf m b1119_0) k (st1119 d xs acc i z) = some (.exit 0, { nt := 28, tm := [(7, .ptr 1 0), (6, .ptr 0 0)], lz := none, bx := [z, .live [.sv (.str []), .sv (.int .i64 6), .sv (.bool false), .sv (.int .i64 0), .sv (.int .u64 0), .sv (.flt .f64 0), .sv (.str []), accK (acc ++ rest.map (skNode d))]], df := [] }) := by
  obtain ⟨G, hG, hg⟩ : ∃ G, E.pure (fnL d) = some G ∧ ∀ r : RowD, skOk d r = true → G [.ref (skCells d r)] = some (.sv (skNode d r)) := by
    obtain ⟨F, hp, hF⟩ := h20
    obtain ⟨G, hq, hG⟩ := h29
    cases d with
    | true => exact ⟨G, by simpa [fnL] using hq, hG⟩
    | false => exact ⟨F, by simpa [fnL] using hp, hF⟩
  intro rest
  induction rest with
  | nil =>
    intro pre acc i k hsp hi ha _ hk
    obtain ⟨k, rfl⟩ : ∃ k', k = k' + 1 := ⟨k - 1, by omega⟩
    have hlt : ¬ (i < xs.length) := by rw [hsp, hi]; simp [skVals]
    refine roundsA_out ?_ (by simp)
    simp [st1119, b1119_0, hlt]
  | cons r rest ih =>
    intro pre acc i k hsp hi ha hr hk
    obtain ⟨k, rfl⟩ : ∃ k', k = k' + 1 := ⟨k - 1, by omega⟩
    have hlt : i < xs.length := by rw [hsp, hi]; simp [skVals]
    obtain ⟨kk, hkk⟩ := skNode_agg d r
    have hc : ∀ h : i < xs.length, xs[i]'h = .ref (skCells d r) := by subst hi; subst hsp; simp [skVals]
    rw [roundsA_step (step1119 E cf m G d hG xs acc (by omega) i hlt hxl _ (skCells d r) rfl hc _ kk hkk (hg r (hr r (by simp))) z)]
    rw [ih (pre ++ [.ref (skCells d r)]) (acc ++ [skNode d r]) (i + 1) k (by rw [hsp]; simp [skVals]) (by simp [hi]) (by simp [ha]) (fun q hq => hr q (by simp [hq])) (by simp at hk; omega)]
    simp

theorem ev1119 (E : Env) (h : E.code 162 = some c1119) (h20 : Has E 163 S1120) (h29 : Has E 169 S1129) : S1119 (autoF E 162) := by
  intro d rs hl hr
  have he := loop1119 E (evF E (rs.length + 1)) (rs.length + 1) d h20 h29 (skVals d rs) (by simpa [skVals] using hl) (.live [.sv (.str []), .sv (.int .i64 0), .sv (.bool false), .sv (.int .i64 0), .sv (.int .u64 0), .sv (.flt .f64 0), .sv (.str []), .sv .nilS]) rs [] [] 0 (rs.length + 1) rfl rfl rfl hr (by omega)
  refine autoA_sv (n := rs.length + 1) ?_ rfl
  unfold evPA
  simp only [h]
  rw [List.nil_append] at he
  unfold skTree
  simp only [st1119, accK, Int.ofNat_zero, Int.natCast_zero] at he
  generalize rs.map (skNode d) = ks at he ⊢
  generalize skVals d rs = xs at he ⊢
  cases ks with
  | nil => simp only [accK] at he; simp [c1119, he, nodeV]
  | cons y ys => simp only [accK] at he; simp [c1119, he, nodeV]

def S1074 (F : List SV → Option AV) : Prop := ∀ rs : List RowD, rs.length < 100000000 → (∀ r ∈ rs, skOk false r = true) → F [.str [], .sl (skVals false rs)] = some (.sv (skTree false rs))

theorem ev1074 (E : Env) (h : E.code 75 = some c1074) (h19 : Has E 162 S1119) : S1074 (autoF E 75) := by
  obtain ⟨F, hp, hF⟩ := h19
  intro rs hl hr
  have hFr := hF false rs hl hr
  refine autoA_sv (n := 1) ?_ rfl
  unfold evPA
  simp only [h]
  unfold skTree nodeV at hFr ⊢
  generalize rs.map (skNode false) = ks at hFr ⊢
  generalize skVals false rs = xs at hFr ⊢
  simp [fnL] at hFr
  simp [c1074, hp, hFr]

def S1073 (F : List SV → Option AV) : Prop := ∀ rs : List RowD, rs.length < 100000000 → (∀ r ∈ rs, skOk false r = true) → F [.sl (skVals false rs)] = some (.sv (skTree false rs))

theorem ev1073 (E : Env) (h : E.code 74 = some c1073) (h74 : Has E 75 S1074) : S1073 (autoF E 74) := by
  obtain ⟨F, hp, hF⟩ := h74
  intro rs hl hr
  have hFr := hF rs hl hr
  refine autoA_sv (n := 1) ?_ rfl
  unfold evPA
  simp only [h]
  unfold skTree nodeV at hFr ⊢
  generalize rs.map (skNode false) = ks at hFr ⊢
  generalize skVals false rs = xs at hFr ⊢
  simp [c1073, hp, hFr]

def S1079 (F : List SV → Option AV) : Prop := ∀ rs : List RowD, rs.length < 100000000 → (∀ r ∈ rs, skOk true r = true) → F [.str [], .sl (skVals true rs)] = some (.sv (skTree true rs))

theorem ev1079 (E : Env) (h : E.code 79 = some c1079) (h19 : Has E 162 S1119) : S1079 (autoF E 79) := by
  obtain ⟨F, hp, hF⟩ := h19
  intro rs hl hr
  have hFr := hF true rs hl hr
  refine autoA_sv (n := 1) ?_ rfl
  unfold evPA
  simp only [h]
  unfold skTree nodeV at hFr ⊢
  generalize rs.map (skNode true) = ks at hFr ⊢
  generalize skVals true rs = xs at hFr ⊢
  simp [fnL] at hFr
  simp [c1079, hp, hFr]

def S1078 (F : List SV → Option AV) : Prop := ∀ rs : List RowD, rs.length < 100000000 → (∀ r ∈ rs, skOk true r = true) → F [.sl (skVals true rs)] = some (.sv (skTree true rs))

theorem ev1078 (E : Env) (h : E.code 78 = some c1078) (h74 : Has E 79 S1079) : S1078 (autoF E 78) := by
  obtain ⟨F, hp, hF⟩ := h74
  intro rs hl hr
  have hFr := hF rs hl hr
  refine autoA_sv (n := 1) ?_ rfl
  unfold evPA
  simp only [h]
  unfold skTree nodeV at hFr ⊢
  generalize rs.map (skNode true) = ks at hFr ⊢
  generalize skVals true rs = xs at hFr ⊢
  simp [c1078, hp, hFr]

end Go.Ev
