/- Limits: what is fine, what is written, what is read (plain; lines printed by a program of this work). -/
/- Tables of sockets: parts of a text, hexadecimal numbers, padding. -/
/- Tables of sockets: what is written, and what the reference reads. -/
/- Parts of a text, padding, hexadecimal numbers: the reference's functions. -/
/- Numbers of base 16, and of any base by their writing; texts split: the program's functions. -/
/- Texts split at a sign, addresses: the program's functions. -/
/- Slabs: the door: numbers, blanks, a word in a text. -/
/- ParseUint of numbers of 8, 16, 32 and 64 bits. -/
/- Limits: runs of signs, numbers, names. -/
/- Limits: a line's groups. -/
import Derived.Test.YtkpjijiiegdcaaaGreatDoorHaq
import Derived.Test.YtkpjijiiegdcaaaGreatDoorHar
import Derived.Test.YtkpjijiiegdcaaaGreatDoorHao
import Derived.Test.YtkpjijiiegdcaaaGreatDoorHak
import Derived.Test.YtkpjijiiegdcaaaGreatDoorHah
set_option linter.unusedSimpArgs false
set_option linter.unusedVariables false
namespace Go.Ev
open Go.Proofs

structure LimF where
  name : List UInt8
  label : List UInt8
  unit : List UInt8

def ln0 : LimF := ⟨[67, 80, 85, 84, 105, 109, 101], [77, 97, 120, 32, 99, 112, 117, 32, 116, 105, 109, 101], [115, 101, 99, 111, 110, 100, 115]⟩
def ln1 : LimF := ⟨[70, 105, 108, 101, 83, 105, 122, 101], [77, 97, 120, 32, 102, 105, 108, 101, 32, 115, 105, 122, 101], [98, 121, 116, 101, 115]⟩
def ln2 : LimF := ⟨[68, 97, 116, 97, 83, 105, 122, 101], [77, 97, 120, 32, 100, 97, 116, 97, 32, 115, 105, 122, 101], [98, 121, 116, 101, 115]⟩
def ln3 : LimF := ⟨[83, 116, 97, 99, 107, 83, 105, 122, 101], [77, 97, 120, 32, 115, 116, 97, 99, 107, 32, 115, 105, 122, 101], [98, 121, 116, 101, 115]⟩
def ln4 : LimF := ⟨[67, 111, 114, 101, 70, 105, 108, 101, 83, 105, 122, 101], [77, 97, 120, 32, 99, 111, 114, 101, 32, 102, 105, 108, 101, 32, 115, 105, 122, 101], [98, 121, 116, 101, 115]⟩
def ln5 : LimF := ⟨[82, 101, 115, 105, 100, 101, 110, 116, 83, 101, 116], [77, 97, 120, 32, 114, 101, 115, 105, 100, 101, 110, 116, 32, 115, 101, 116], [98, 121, 116, 101, 115]⟩
def ln6 : LimF := ⟨[80, 114, 111, 99, 101, 115, 115, 101, 115], [77, 97, 120, 32, 112, 114, 111, 99, 101, 115, 115, 101, 115], [112, 114, 111, 99, 101, 115, 115, 101, 115]⟩
def ln7 : LimF := ⟨[79, 112, 101, 110, 70, 105, 108, 101, 115], [77, 97, 120, 32, 111, 112, 101, 110, 32, 102, 105, 108, 101, 115], [102, 105, 108, 101, 115]⟩
def ln8 : LimF := ⟨[76, 111, 99, 107, 101, 100, 77, 101, 109, 111, 114, 121], [77, 97, 120, 32, 108, 111, 99, 107, 101, 100, 32, 109, 101, 109, 111, 114, 121], [98, 121, 116, 101, 115]⟩
def ln9 : LimF := ⟨[65, 100, 100, 114, 101, 115, 115, 83, 112, 97, 99, 101], [77, 97, 120, 32, 97, 100, 100, 114, 101, 115, 115, 32, 115, 112, 97, 99, 101], [98, 121, 116, 101, 115]⟩
def ln10 : LimF := ⟨[70, 105, 108, 101, 76, 111, 99, 107, 115], [77, 97, 120, 32, 102, 105, 108, 101, 32, 108, 111, 99, 107, 115], [108, 111, 99, 107, 115]⟩
def ln11 : LimF := ⟨[80, 101, 110, 100, 105, 110, 103, 83, 105, 103, 110, 97, 108, 115], [77, 97, 120, 32, 112, 101, 110, 100, 105, 110, 103, 32, 115, 105, 103, 110, 97, 108, 115], [115, 105, 103, 110, 97, 108, 115]⟩
def ln12 : LimF := ⟨[77, 115, 113, 113, 117, 101, 117, 101, 83, 105, 122, 101], [77, 97, 120, 32, 109, 115, 103, 113, 117, 101, 117, 101, 32, 115, 105, 122, 101], [98, 121, 116, 101, 115]⟩
def ln13 : LimF := ⟨[78, 105, 99, 101, 80, 114, 105, 111, 114, 105, 116, 121], [77, 97, 120, 32, 110, 105, 99, 101, 32, 112, 114, 105, 111, 114, 105, 116, 121], []⟩
def ln14 : LimF := ⟨[82, 101, 97, 108, 116, 105, 109, 101, 80, 114, 105, 111, 114, 105, 116, 121], [77, 97, 120, 32, 114, 101, 97, 108, 116, 105, 109, 101, 32, 112, 114, 105, 111, 114, 105, 116, 121], []⟩
def ln15 : LimF := ⟨[82, 101, 97, 108, 116, 105, 109, 101, 84, 105, 109, 101, 111, 117, 116], [77, 97, 120, 32, 114, 101, 97, 108, 116, 105, 109, 101, 32, 116, 105, 109, 101, 111, 117, 116], [117, 115]⟩
def limTab : List LimF := [ln0, ln1, ln2, ln3, ln4, ln5, ln6, ln7, ln8, ln9, ln10, ln11, ln12, ln13, ln14, ln15]
def limHeadL : List UInt8 := [76, 105, 109, 105, 116, 32, 32, 32, 32, 32, 32, 32, 32, 32, 32, 32, 32, 32, 32, 32, 32, 32, 32, 32, 32, 32, 83, 111, 102, 116, 32, 76, 105, 109, 105, 116, 32, 32, 32, 32, 32, 32, 32, 32, 32, 32, 32, 72, 97, 114, 100, 32, 76, 105, 109, 105, 116, 32, 32, 32, 32, 32, 32, 32, 32, 32, 32, 32, 85, 110, 105, 116, 115, 32, 32, 32, 32, 32]
def limMax : Nat := 18446744073709551615
def unlS : List UInt8 := [117, 110, 108, 105, 109, 105, 116, 101, 100]
def limVal (n : Nat) : List UInt8 := if n = limMax then unlS else decS n
def limBody (f : LimF) (a b : Nat) : List UInt8 := leftS f.label 25 ++ (32 :: (leftS (limVal a) 20 ++ (32 :: (leftS (limVal b) 20 ++ (32 :: leftS f.unit 10)))))
def limLine (f : LimF) (a b : Nat) : List UInt8 := limBody f a b ++ [10]
/-- The lines of the limits from number i on. -/
def limLines (N : List Nat) : Nat → List LimF → List UInt8
  | _, [] => []
  | i, f :: l => limLine f (N.getD i 0) (N.getD (16 + i) 0) ++ limLines N (i + 1) l
def limText1 (N : List Nat) : List UInt8 := (limHeadL ++ [10]) ++ limLines N 0 limTab
def limOk (rs : List RowD) : Bool := match rs with
  | [r] => (r.name == []) && (decide (r.N.length = 32) && decide (r.S.length = 0))
  | _ => false
def limText (rs : List RowD) : List UInt8 := match rs with
  | r :: _ => limText1 r.N
  | [] => []
def limRd (s : List UInt8) (rs : List RowD) : Prop := limText rs = s
def limKid (N : List Nat) (i : Nat) (f : LimF) : SV := nodeV f.name 3 false 0 ((N.getD i 0 : Nat) : Int) 0 [] []
def limTree1 (N : List Nat) : SV := nodeV [] 8 false 0 0 0 [] [limKid N 0 ln0, limKid N 1 ln1, limKid N 2 ln2, limKid N 3 ln3, limKid N 4 ln4, limKid N 5 ln5, limKid N 6 ln6, limKid N 7 ln7, limKid N 8 ln8, limKid N 9 ln9, limKid N 10 ln10, limKid N 11 ln11, limKid N 12 ln12, limKid N 13 ln13, limKid N 14 ln14, limKid N 15 ln15]
def limTree (rs : List RowD) : SV := match rs with
  | r :: _ => limTree1 r.N
  | [] => .nilP

theorem limOk_spec {rs : List RowD} (h : limOk rs = true) : ∃ N, rs = [⟨[], N, []⟩] ∧ N.length = 32 := by
  unfold limOk at h
  split at h
  · rename_i r
    simp only [Bool.and_eq_true, decide_eq_true_eq, beq_iff_eq] at h
    obtain ⟨h1, h2, h3⟩ := h
    obtain ⟨nm, N, S⟩ := r
    simp only at h1 h2 h3
    have := List.eq_nil_of_length_eq_zero h3
    subst this; subst h1
    exact ⟨N, rfl, h2⟩
  · cases h

theorem limVal_len {n : Nat} (h : n < 18446744073709551616) : (limVal n).length ≤ 20 := by
  unfold limVal
  split
  · decide
  · exact decS_len20 h

theorem limVal_word (n : Nat) : limVal n ≠ [] ∧ ∀ c ∈ limVal n, (48 ≤ c.toNat ∧ c.toNat ≤ 57) ∨ (97 ≤ c.toNat ∧ c.toNat ≤ 122) := by
  unfold limVal
  split
  · decide
  · obtain ⟨_, g2, g3⟩ := decS_dig n
    exact ⟨g3, fun c hc => .inl (digC_iff.1 (g2 c hc))⟩

theorem limTab_small : ∀ f ∈ limTab, f.label.length ≤ 21 ∧ f.unit.length ≤ 10 := by decide

theorem limBody_len {f : LimF} (hf : f ∈ limTab) {a b : Nat} (ha : a < 18446744073709551616) (hb : b < 18446744073709551616) : (limBody f a b).length = 78 := by
  obtain ⟨h1, h2⟩ := limTab_small f hf
  have h3 := limVal_len ha
  have h4 := limVal_len hb
  simp only [limBody, leftS, List.length_append, List.length_cons, List.length_replicate]
  omega

theorem limText_node (N : List Nat) : IsNode (limTree1 N) := by
  refine .mk _ _ _ _ _ _ _ _ (by simp) fun k hk => ?_
  simp only [List.mem_cons, List.not_mem_nil, or_false] at hk
  rcases hk with rfl | rfl | rfl | rfl | rfl | rfl | rfl | rfl | rfl | rfl | rfl | rfl | rfl | rfl | rfl | rfl <;> exact .mk _ _ _ _ _ _ _ _ (by simp) (by simp)

theorem limLaw_node {rs : List RowD} (h : limOk rs = true) : IsNode (limTree rs) := by
  obtain ⟨N, rfl, _⟩ := limOk_spec h
  exact limText_node N

end Go.Ev

set_option linter.unusedSimpArgs false
set_option linter.unusedVariables false
namespace Go.Ev
open Go.Proofs

/-! ### Parts between a sign -/

/-! ### Hexadecimal numbers -/

def hexN (a : Nat) (s : List UInt8) : Nat := s.foldl (fun a c => a * 16 + digitV c.toNat) a

theorem hexN_nil (a : Nat) : hexN a [] = a := by unfold hexN; rw [List.foldl_nil]
theorem hexN_cons (a : Nat) (c : UInt8) (s : List UInt8) : hexN a (c :: s) = hexN (a * 16 + digitV c.toNat) s := by unfold hexN; rw [List.foldl_cons]
theorem hexN_ge : ∀ (s : List UInt8) (a : Nat), a ≤ hexN a s
  | [], a => by rw [hexN_nil]; exact Nat.le_refl _
  | c :: s, a => by rw [hexN_cons]; have := hexN_ge s (a * 16 + digitV c.toNat); omega

end Go.Ev

set_option linter.unusedSimpArgs false
set_option linter.unusedVariables false
namespace Go.Ev
open Go.Proofs

/-! ### What the reference reads -/

/-! ### What is written is read -/

/-- Two words and a colon between. -/
def two (a b : List UInt8) : List UInt8 := a ++ ([58] ++ b)

end Go.Ev

set_option linter.unusedSimpArgs false
set_option linter.unusedVariables false
namespace Go.Ev
open Go.Proofs

/-! ### Parts -/

end Go.Ev

set_option linter.unusedSimpArgs false
set_option linter.unusedVariables false
namespace Go.Ev
open Go.Proofs

/-! ### Small letters -/

def S135 (F : List SV → Option AV) : Prop := ∀ c : UInt8, 10 ≤ digitV c.toNat → digitV c.toNat < 16 → F [.int .u8 (c.toNat : Int)] = some (.sv (.int .u8 ((digitV c.toNat + 87 : Nat) : Int)))

theorem hexLetter {c : Nat} (h : 10 ≤ digitV c) (h2 : digitV c < 16) : c = 65 ∨ c = 66 ∨ c = 67 ∨ c = 68 ∨ c = 69 ∨ c = 70 ∨ c = 97 ∨ c = 98 ∨ c = 99 ∨ c = 100 ∨ c = 101 ∨ c = 102 := by
  unfold digitV at h h2
  (repeat' split at h) <;> (repeat' split at h2) <;> omega

theorem ev135 (E : Env) (h : E.code 215 = some c135) : S135 (autoF E 215) := by
  intro c h1 h2
  refine autoF_sv (n := 1) ?_ rfl
  unfold evP
  simp only [h]
  generalize c.toNat = k at h1 h2 ⊢
  rcases hexLetter h1 h2 with rfl | rfl | rfl | rfl | rfl | rfl | rfl | rfl | rfl | rfl | rfl | rfl <;> kernel_rfl

/-! ### Numbers -/

set_option maxRecDepth 100000 in
set_option maxHeartbeats 4000000 in
theorem loop125b (E : Env) (cf : CallF) (b8 : Bool) (s0 s : List UInt8) (hs : s.length < 1000000000000) (m : Nat) :
    ∀ (rest pre : List UInt8) (a k : Nat), s = pre ++ rest → (∀ c ∈ rest, digC c = true) → digN a rest < 18446744073709551616 → rest.length < k →
      rounds (evC E cf m b125_0) k { tm := [.sv .undef, .sv (.int .i64 10)] ++ List.replicate 6 (.sv .undef) ++ [.sv (.bool b8), .sv (.str s0), .sv (.int .u64 1844674407370955162), .sv (.int .u64 18446744073709551615), .sv (.bool false), .sv (.int .u64 a)] ++ List.replicate 85 (.sv .undef) ++ [.sv (.sl (bytesSV s)), .sv (.int .i64 s.length), .sv (.int .i64 pre.length)] ++ List.replicate 70 (.sv .undef), lz := none, bx := [], df := [] } =
        some (.exit 3, { tm := List.replicate 9 (.sv .undef) ++ [.sv (.str s0), .sv .undef, .sv .undef, .sv (.bool false), .sv (.int .u64 (digN a rest : Nat))] ++ List.replicate 158 (.sv .undef), lz := none, bx := [], df := [] }) := by
  intro rest
  induction rest with
  | nil =>
    intro pre a k hsp hr ha hk
    obtain ⟨k, rfl⟩ : ∃ k', k = k' + 1 := ⟨k - 1, by omega⟩
    have hlt : ¬ (pre.length < s.length) := by rw [hsp]; simp
    refine rounds_out ?_ (by simp)
    simp [b125_0, List.replicate, hlt, digN_nil]
  | cons c rest ih =>
    intro pre a k hsp hr ha hk
    obtain ⟨k, rfl⟩ : ∃ k', k = k' + 1 := ⟨k - 1, by omega⟩
    have hlt : pre.length < s.length := by rw [hsp]; simp
    have hsl := congrArg List.length hsp
    simp only [List.length_append, List.length_cons] at hsl
    have hc : ∀ h : pre.length < (bytesSV s).length, (bytesSV s)[pre.length]'h = .int .u8 (c.toNat : Int) := by subst hsp; simp [bytesSV]
    have hw2 : IntKind.i64.wrap ((pre.length : Int) + 1) = ((pre ++ [c]).length : Int) := by rw [IntKind.wrap_i64]; simp; omega
    obtain ⟨d1, d2⟩ := digC_iff.1 (hr c (by simp))
    have hs8 : IntKind.u8.wrap ((c.toNat : Int) - 48) = ((dgt c : Nat) : Int) := by rw [IntKind.wrap_u8]; unfold dgt; omega
    have hd9 : dgt c ≤ 9 := by unfold dgt; omega
    have e95 : ((c.toNat : Int) == 95) = false := by rw [Bool.eq_false_iff]; simp; omega
    have e48 : (48 : Int) ≤ (c.toNat : Int) := by omega
    have e57 : (c.toNat : Int) ≤ 57 := by omega
    rw [digN_cons] at ha ⊢
    have hge := digN_ge rest (a * 10 + dgt c)
    generalize dgt c = d at *
    have h10 : ¬ (10 : Int) ≤ (d : Int) := by omega
    have hcut : ¬ (1844674407370955162 : Int) ≤ (a : Int) := by omega
    have hw8 : IntKind.u8.wrap 10 = 10 := by rw [IntKind.wrap_u8]; omega
    have hw64 : IntKind.u64.wrap 10 = 10 := by rw [IntKind.wrap_u64]; omega
    have hw3 : IntKind.u64.wrap (d : Int) = (d : Int) := by rw [IntKind.wrap_u64]; omega
    have hw4 : IntKind.u64.wrap ((a : Int) * 10) = ((a * 10 : Nat) : Int) := by rw [IntKind.wrap_u64]; omega
    have hw5 : IntKind.u64.wrap (((a * 10 : Nat) : Int) + (d : Int)) = ((a * 10 + d : Nat) : Int) := by rw [IntKind.wrap_u64]; omega
    have q1 : ¬ (((a * 10 + d : Nat) : Int) < ((a * 10 : Nat) : Int)) := by omega
    have q2 : ¬ ((18446744073709551615 : Int) < ((a * 10 + d : Nat) : Int)) := by omega
    have he := ih (pre ++ [c]) (a * 10 + d) k (by rw [hsp]; simp) (fun x hx => hr x (by simp [hx])) ha (by simp at hk; omega)
    rw [← he]
    refine rounds_step ?_
    generalize (a * 10 + d) = a2 at *
    generalize (a * 10) = a1 at *
    simp [b125_0, List.replicate, hlt, bytesSV_length, hc, hs8, e95, e48, e57, h10, hcut, hw8, hw64, hw2, hw3, hw4, hw5, q1, q2]

end Go.Ev

set_option linter.unusedSimpArgs false
set_option linter.unusedVariables false
namespace Go.Ev
open Go.Proofs

/-! ### The first place of a sign -/

/-! ### A text split -/

end Go.Ev

set_option linter.unusedSimpArgs false
set_option linter.unusedVariables false
namespace Go.Ev
open Go.Proofs

def zB (c : UInt8) : Bool := decide (c.toNat = 32) || decide (c.toNat = 9) || decide (c.toNat = 10) || decide (c.toNat = 12) || decide (c.toNat = 13)

def S1167 (F : List SV → Option AV) : Prop := ∀ c : UInt8, F [.int .u8 (c.toNat : Int)] = some (.sv (.bool (zB c)))

theorem ev1167 (E : Env) (h : E.code 199 = some c1167) : S1167 (autoF E 199) := by
  intro c
  refine autoA_sv (n := 1) ?_ rfl
  unfold evPA zB
  simp only [h]
  generalize c.toNat = k
  by_cases h1 : k = 32
  · subst h1; simp [c1167]
  have e1 : ((k : Int) == 32) = false := by simp; omega
  by_cases h2 : k = 9
  · subst h2; simp [c1167]
  have e2 : ((k : Int) == 9) = false := by simp; omega
  by_cases h3 : k = 10
  · subst h3; simp [c1167]
  have e3 : ((k : Int) == 10) = false := by simp; omega
  by_cases h4 : k = 12
  · subst h4; simp [c1167]
  have e4 : ((k : Int) == 12) = false := by simp; omega
  by_cases h5 : k = 13
  · subst h5; simp [c1167]
  have e5 : ((k : Int) == 13) = false := by simp; omega
  simp [c1167, e1, e2, e3, e4, e5, h1, h2, h3, h4, h5]

end Go.Ev

set_option linter.unusedSimpArgs false
set_option linter.unusedVariables false
namespace Go.Ev
open Go.Proofs

set_option maxRecDepth 100000 in
set_option maxHeartbeats 4000000 in
theorem loop125m (E : Env) (cf : CallF) (M : Nat) (hM : M < 18446744073709551616) (h135 : Has E 215 S135) (s0 s : List UInt8) (hs : s.length < 1000000000000) (m : Nat) :
    ∀ (rest pre : List UInt8) (a k : Nat), s = pre ++ rest → (∀ c ∈ rest, digitV c.toNat < 16) → hexN a rest ≤ M → rest.length < k →
      rounds (evC E cf m b125_0) k { tm := [.sv .undef, .sv (.int .i64 16)] ++ List.replicate 6 (.sv .undef) ++ [.sv (.bool false), .sv (.str s0), .sv (.int .u64 1152921504606846976), .sv (.int .u64 (M : Int)), .sv (.bool false), .sv (.int .u64 a)] ++ List.replicate 85 (.sv .undef) ++ [.sv (.sl (bytesSV s)), .sv (.int .i64 s.length), .sv (.int .i64 pre.length)] ++ List.replicate 70 (.sv .undef), lz := none, bx := [], df := [] } =
        some (.exit 3, { tm := List.replicate 9 (.sv .undef) ++ [.sv (.str s0), .sv .undef, .sv .undef, .sv (.bool false), .sv (.int .u64 (hexN a rest : Nat))] ++ List.replicate 158 (.sv .undef), lz := none, bx := [], df := [] }) := by
  obtain ⟨F, hp, hF⟩ := h135
  intro rest
  induction rest with
  | nil =>
    intro pre a k hsp hr ha hk
    obtain ⟨k, rfl⟩ : ∃ k', k = k' + 1 := ⟨k - 1, by omega⟩
    have hlt : ¬ (pre.length < s.length) := by rw [hsp]; simp
    refine rounds_out ?_ (by simp)
    simp [b125_0, List.replicate, hlt, hexN_nil]
  | cons c rest ih =>
    intro pre a k hsp hr ha hk
    obtain ⟨k, rfl⟩ : ∃ k', k = k' + 1 := ⟨k - 1, by omega⟩
    have hlt : pre.length < s.length := by rw [hsp]; simp
    have hsl := congrArg List.length hsp
    simp only [List.length_append, List.length_cons] at hsl
    have hc : ∀ h : pre.length < (bytesSV s).length, (bytesSV s)[pre.length]'h = .int .u8 (c.toNat : Int) := by subst hsp; simp [bytesSV]
    have hw2 : IntKind.i64.wrap ((pre.length : Int) + 1) = ((pre ++ [c]).length : Int) := by rw [IntKind.wrap_i64]; simp; omega
    have hd16 := hr c (by simp)
    have hFc := hF c
    rw [hexN_cons] at ha ⊢
    have hge := hexN_ge rest (a * 16 + digitV c.toNat)
    have h10 : ¬ (16 : Int) ≤ (digitV c.toNat : Int) := by omega
    have hcut : ¬ (1152921504606846976 : Int) ≤ (a : Int) := by omega
    have hw8 : IntKind.u8.wrap 16 = 16 := by rw [IntKind.wrap_u8]; omega
    have hw64 : IntKind.u64.wrap 16 = 16 := by rw [IntKind.wrap_u64]; omega
    have hw3 : IntKind.u64.wrap (digitV c.toNat : Int) = (digitV c.toNat : Int) := by rw [IntKind.wrap_u64]; omega
    have hw4 : IntKind.u64.wrap ((a : Int) * 16) = ((a * 16 : Nat) : Int) := by rw [IntKind.wrap_u64]; omega
    have hw5 : IntKind.u64.wrap (((a * 16 : Nat) : Int) + (digitV c.toNat : Int)) = ((a * 16 + digitV c.toNat : Nat) : Int) := by rw [IntKind.wrap_u64]; omega
    have q1 : ¬ (((a * 16 + digitV c.toNat : Nat) : Int) < ((a * 16 : Nat) : Int)) := by omega
    have q2 : ¬ ((M : Int) < ((a * 16 + digitV c.toNat : Nat) : Int)) := by omega
    have he := ih (pre ++ [c]) (a * 16 + digitV c.toNat) k (by rw [hsp]; simp) (fun x hx => hr x (by simp [hx])) ha (by simp at hk; omega)
    rw [← he]
    refine rounds_step ?_
    by_cases hlet : 10 ≤ digitV c.toNat
    · have hFv := hFc hlet hd16
      have hl := hexLetter hlet hd16
      have e95 : ((c.toNat : Int) == 95) = false := by rw [Bool.eq_false_iff]; simp; omega
      have e48 : (48 : Int) ≤ (c.toNat : Int) := by omega
      have e57 : ¬ (c.toNat : Int) ≤ 57 := by omega
      have f1 : (97 : Int) ≤ ((digitV c.toNat + 87 : Nat) : Int) := by omega
      have f2 : ((digitV c.toNat + 87 : Nat) : Int) ≤ 122 := by omega
      have f3 : IntKind.u8.wrap (IntKind.u8.wrap (((digitV c.toNat + 87 : Nat) : Int) - 97) + 10) = (digitV c.toNat : Int) := by rw [IntKind.wrap_u8, IntKind.wrap_u8]; omega
      generalize digitV c.toNat = d at *
      generalize (a * 16 + d) = a2 at *
      generalize (a * 16) = a1 at *
      generalize ((d + 87 : Nat) : Int) = d87 at *
      simp [b125_0, List.replicate, hlt, bytesSV_length, hc, hp, hFv, e95, e48, e57, f1, f2, f3, h10, hcut, hw8, hw64, hw2, hw3, hw4, hw5, q1, q2]
    · have hl : 48 ≤ c.toNat ∧ c.toNat ≤ 57 ∧ digitV c.toNat = c.toNat - 48 := by
        unfold digitV at hlet hd16 ⊢
        (repeat' split at hlet) <;> (repeat' split at hd16) <;> (repeat' split) <;> omega
      have e95 : ((c.toNat : Int) == 95) = false := by rw [Bool.eq_false_iff]; simp; omega
      have e48 : (48 : Int) ≤ (c.toNat : Int) := by omega
      have e57 : (c.toNat : Int) ≤ 57 := by omega
      have hs8 : IntKind.u8.wrap ((c.toNat : Int) - 48) = (digitV c.toNat : Int) := by rw [IntKind.wrap_u8]; omega
      generalize digitV c.toNat = d at *
      generalize (a * 16 + d) = a2 at *
      generalize (a * 16) = a1 at *
      simp [b125_0, List.replicate, hlt, bytesSV_length, hc, hs8, e95, e48, e57, h10, hcut, hw8, hw64, hw2, hw3, hw4, hw5, q1, q2]


def S125v (F : List SV → Option AV) : Prop :=
  (∀ s : List UInt8, s.length < 1000000000000 → s ≠ [] → (∀ c ∈ s, digitV c.toNat < 16) → ∀ (b : Int) (M : Nat), (b = 8 ∧ M = 255) ∨ (b = 16 ∧ M = 65535) ∨ (b = 32 ∧ M = 4294967295) ∨ (b = 64 ∧ M = 18446744073709551615) → hexN 0 s ≤ M → F [.str s, .int .i64 16, .int .i64 b] = some (.sv (.tup [.int .u64 (hexN 0 s : Nat), .nilI]))) ∧
  (∀ n : Nat, n < 18446744073709551616 → F [.str (decS n), .int .i64 10, .int .i64 64] = some (.sv (.tup [.int .u64 (n : Int), .nilI])))

set_option maxRecDepth 100000 in
set_option maxHeartbeats 4000000 in
theorem ev125v (E : Env) (h : E.code 208 = some c125) (h135 : Has E 215 S135) : S125v (autoF E 208) := by
  refine ⟨fun s hs hne hd b M hbM hv => ?_, fun n hn => ?_⟩
  · have hM : M < 18446744073709551616 := by omega
    have hl := loop125m E (evF E (s.length + 1)) M hM h135 s s hs (s.length + 1) s [] 0 (s.length + 1) rfl hd hv (by omega)
    refine autoF_sv (n := s.length + 1) ?_ rfl
    unfold evP
    simp only [h]
    simp only [List.replicate, List.cons_append, List.nil_append, List.length_nil, Int.ofNat_zero, Int.natCast_zero] at hl
    generalize hexN 0 s = v at *
    rcases hbM with ⟨rfl, rfl⟩ | ⟨rfl, rfl⟩ | ⟨rfl, rfl⟩ | ⟨rfl, rfl⟩
    · have hsh : IntKind.u64.wrap (IntKind.u64.wrap (2 ^ min 8 IntKind.u64.bits) - 1) = 255 := by decide
      have hsh0 : IntKind.u64.wrap 8 = 8 := by decide
      rw [show ((255 : Nat) : Int) = 255 from rfl] at hl
      simp [c125, List.replicate, hne, hsh, hsh0, bytesSV_length, hl]
    · have hsh : IntKind.u64.wrap (IntKind.u64.wrap (2 ^ min 16 IntKind.u64.bits) - 1) = 65535 := by decide
      have hsh0 : IntKind.u64.wrap 16 = 16 := by decide
      rw [show ((65535 : Nat) : Int) = 65535 from rfl] at hl
      simp [c125, List.replicate, hne, hsh, hsh0, bytesSV_length, hl]
    · have hsh : IntKind.u64.wrap (IntKind.u64.wrap (2 ^ min 32 IntKind.u64.bits) - 1) = 4294967295 := by decide
      have hsh0 : IntKind.u64.wrap 32 = 32 := by decide
      rw [show ((4294967295 : Nat) : Int) = 4294967295 from rfl] at hl
      simp [c125, List.replicate, hne, hsh, hsh0, bytesSV_length, hl]
    · have hsh : IntKind.u64.wrap (IntKind.u64.wrap (2 ^ min 64 IntKind.u64.bits) - 1) = 18446744073709551615 := by decide
      have hsh0 : IntKind.u64.wrap 64 = 64 := by decide
      rw [show ((18446744073709551615 : Nat) : Int) = 18446744073709551615 from rfl] at hl
      simp [c125, List.replicate, hne, hsh, hsh0, bytesSV_length, hl]
  · have hsh : IntKind.u64.wrap (IntKind.u64.wrap (2 ^ min 64 IntKind.u64.bits) - 1) = 18446744073709551615 := by decide
    have hsh0 : IntKind.u64.wrap 64 = 64 := by decide
    obtain ⟨g1, g2, g3⟩ := decS_dig n
    have hlen := decS_len20 hn
    have hl := loop125b E (evF E ((decS n).length + 1)) false (decS n) (decS n) (by omega) ((decS n).length + 1) (decS n) [] 0 ((decS n).length + 1) rfl g2 (by rw [g1]; exact hn) (by omega)
    rw [g1] at hl
    refine autoF_sv (n := (decS n).length + 1) ?_ rfl
    unfold evP
    simp only [h]
    generalize decS n = s at *
    simp only [List.replicate, List.cons_append, List.nil_append, List.length_nil, Int.ofNat_zero, Int.natCast_zero] at hl
    simp [c125, List.replicate, g3, hsh, hsh0, bytesSV_length, hl]

def S91v (F : List SV → Option AV) : Prop := S125v F

theorem ev91v (E : Env) (h : E.code 195 = some c91) (h125 : Has E 208 S125v) : S91v (autoF E 195) := by
  obtain ⟨F, hp, hF1, hF2⟩ := h125
  refine ⟨fun s hs hne hd b M hbM hv => ?_, fun n hn => ?_⟩
  · have := hF1 s hs hne hd b M hbM hv
    refine autoF_sv (n := 1) ?_ rfl
    unfold evP
    simp only [h]
    generalize hexN 0 s = v at *
    simp [c91, List.replicate, hp, this]
  · have := hF2 n hn
    refine autoF_sv (n := 1) ?_ rfl
    unfold evP
    simp only [h]
    generalize decS n = v at *
    simp [c91, List.replicate, hp, this]

end Go.Ev

set_option linter.unusedSimpArgs false
set_option linter.unusedVariables false
namespace Go.Ev
open Go.Proofs

def wC (c : UInt8) : Bool := decide (c.toNat = 95) || ((decide (48 ≤ c.toNat) && decide (c.toNat ≤ 57)) || ((decide (97 ≤ c.toNat) && decide (c.toNat ≤ 122)) || (decide (65 ≤ c.toNat) && decide (c.toNat ≤ 90))))

def S4198 (F : List SV → Option AV) : Prop := ∀ c : UInt8, F [.int .u8 (c.toNat : Int)] = some (.sv (.bool (wC c)))

set_option maxHeartbeats 1000000 in
theorem ev4198 (E : Env) (h : E.code 198 = some c4198) : S4198 (autoF E 198) := by
  intro c
  refine autoA_sv (n := 1) ?_ rfl
  unfold evPA wC
  simp only [h]
  generalize c.toNat = k
  by_cases h1 : k = 95
  · subst h1; simp [c4198]
  have e1 : ((k : Int) == 95) = false := by simp; omega
  by_cases a1 : 48 ≤ k <;> by_cases a2 : k ≤ 57 <;> by_cases a3 : 97 ≤ k <;> by_cases a4 : k ≤ 122 <;> by_cases a5 : 65 ≤ k <;> by_cases a6 : k ≤ 90 <;> (try omega) <;>
    (have b1 : decide ((k : Int) ≥ 48) = decide (48 ≤ k) := decide_eq_decide.2 (by omega)
     have b2 : decide ((k : Int) ≤ 57) = decide (k ≤ 57) := decide_eq_decide.2 (by omega)
     have b3 : decide ((k : Int) ≥ 97) = decide (97 ≤ k) := decide_eq_decide.2 (by omega)
     have b4 : decide ((k : Int) ≤ 122) = decide (k ≤ 122) := decide_eq_decide.2 (by omega)
     have b5 : decide ((k : Int) ≥ 65) = decide (65 ≤ k) := decide_eq_decide.2 (by omega)
     have b6 : decide ((k : Int) ≤ 90) = decide (k ≤ 90) := decide_eq_decide.2 (by omega)
     simp only [a1, a2, a3, a4, a5, a6, decide_true, decide_false] at b1 b2 b3 b4 b5 b6
     simp only [decide_eq_true_eq, decide_eq_false_iff_not] at b1 b2 b3 b4 b5 b6
     simp [c4198, e1, h1, b1, b2, b3, b4, b5, b6, a1, a2, a3, a4, a5, a6])

/-- How many signs from a place on are of a kind. -/
def runW (p : UInt8 → Bool) (s : List UInt8) (at_ : Nat) : Nat := ((s.drop at_).takeWhile p).length

def st4197 (s : List UInt8) (at_ g n : Nat) : SA := { nt := 26, tm := [(7, .sv (.int .i64 n)), (2, .sv (.fn g [] [])), (1, .sv (.int .i64 at_)), (0, .sv (.str s))], lz := none, bx := [], df := [] }

theorem step4197 (E : Env) (cf : CallF) (m : Nat) (g : Nat) (G : List SV → Option AV) (hp : E.pure g = some G) (s : List UInt8) (hs : s.length < 1000000000) (at_ n : Nat) (c : UInt8) (hc : s[at_ + n]? = some c) (b : Bool) (hG : G [.int .u8 (c.toNat : Int)] = some (.sv (.bool b))) :
    evCA E cf m b4197_0 (st4197 s at_ g n) = if b = true then some (.normal, st4197 s at_ g (n + 1)) else some (.exit 0, { nt := 26, tm := [(7, .sv (.int .i64 n))], lz := none, bx := [], df := [] }) := by
  have hlt : at_ + n < s.length := (List.getElem?_eq_some_iff.1 hc).1
  have hw : IntKind.i64.wrap ((at_ : Int) + (n : Int)) = ((at_ + n : Nat) : Int) := by rw [IntKind.wrap_i64]; omega
  have hw2 : IntKind.i64.wrap ((n : Int) + 1) = ((n + 1 : Nat) : Int) := by rw [IntKind.wrap_i64]; omega
  have hget : s[at_ + n]'hlt = c := by rw [List.getElem?_eq_getElem hlt] at hc; simpa using hc
  generalize hj : at_ + n = j at *
  cases b with
  | true => simp [st4197, b4197_0, hw, hlt, hget, hp, hG, hw2]
  | false => simp [st4197, b4197_0, hw, hlt, hget, hp, hG]

theorem out4197 (E : Env) (cf : CallF) (m : Nat) (g : Nat) (s : List UInt8) (hs : s.length < 1000000000) (at_ n : Nat) (hl : at_ + n = s.length) :
    evCA E cf m b4197_0 (st4197 s at_ g n) = some (.exit 0, { nt := 26, tm := [(7, .sv (.int .i64 n))], lz := none, bx := [], df := [] }) := by
  have hw : IntKind.i64.wrap ((at_ : Int) + (n : Int)) = (s.length : Int) := by rw [IntKind.wrap_i64]; omega
  simp [st4197, b4197_0, hw]

theorem loop4197 (E : Env) (cf : CallF) (m : Nat) (g : Nat) (G : List SV → Option AV) (hp : E.pure g = some G) (p : UInt8 → Bool) (hG : ∀ c : UInt8, G [.int .u8 (c.toNat : Int)] = some (.sv (.bool (p c)))) (s : List UInt8) (hs : s.length < 1000000000) (at_ : Nat) :
    ∀ (rest : List UInt8) (n k : Nat), s.drop (at_ + n) = rest → at_ + n ≤ s.length → rest.length < k →
      roundsA (evCA E cf m b4197_0) k (st4197 s at_ g n) = some (.exit 0, { nt := 26, tm := [(7, .sv (.int .i64 ((n + (rest.takeWhile p).length : Nat) : Int)))], lz := none, bx := [], df := [] }) := by
  intro rest
  induction rest with
  | nil =>
    intro n k hd hl hk
    obtain ⟨k, rfl⟩ : ∃ k', k = k' + 1 := ⟨k - 1, by omega⟩
    have : at_ + n = s.length := by have := congrArg List.length hd; simp at this; omega
    exact roundsA_out (out4197 E cf m g s hs at_ n this) (by simp)
  | cons c rest ih =>
    intro n k hd hl hk
    obtain ⟨k, rfl⟩ : ∃ k', k = k' + 1 := ⟨k - 1, by omega⟩
    have hc : s[at_ + n]? = some c := by
      have : (s.drop (at_ + n))[0]? = some c := by rw [hd]; rfl
      rw [List.getElem?_drop] at this
      simpa using this
    have hlt : at_ + n < s.length := (List.getElem?_eq_some_iff.1 hc).1
    have hst := step4197 E cf m g G hp s hs at_ n c hc (p c) (hG c)
    cases hpc : p c with
    | false =>
      rw [hpc] at hst
      rw [List.takeWhile_cons, hpc]
      exact roundsA_out hst (by simp)
    | true =>
      rw [hpc] at hst
      rw [roundsA_step hst, ih (n + 1) k (by
        have := congrArg (List.drop 1) hd
        rw [List.drop_drop] at this
        simpa [Nat.add_assoc] using this) (by omega) (by simp at hk; omega)]
      rw [List.takeWhile_cons, hpc]
      simp only [if_true, List.length_cons]
      rw [show n + 1 + (rest.takeWhile p).length = n + ((rest.takeWhile p).length + 1) by omega]

theorem run4197 (E : Env) (h : E.code 197 = some c4197) (g : Nat) (G : List SV → Option AV) (hp : E.pure g = some G) (p : UInt8 → Bool) (hG : ∀ c : UInt8, G [.int .u8 (c.toNat : Int)] = some (.sv (.bool (p c)))) (s : List UInt8) (hs : s.length < 1000000000) (at_ : Nat) (hat : at_ ≤ s.length) :
    autoF E 197 [.str s, .int .i64 at_, .fn g [] []] = some (.sv (.int .i64 (runW p s at_ : Nat))) := by
  have hl := loop4197 E (evF E (s.length + 1)) (s.length + 1) g G hp p hG s hs at_ (s.drop at_) 0 (s.length + 1) rfl (by omega) (by rw [List.length_drop]; omega)
  refine autoA_sv (n := s.length + 1) ?_ rfl
  unfold evPA
  simp only [h]
  simp only [Nat.zero_add, st4197, Int.ofNat_zero, Int.natCast_zero] at hl
  simp [c4197, hl, runW]

def S4197 (F : List SV → Option AV) : Prop :=
  (∀ (s : List UInt8) (at_ : Nat), s.length < 1000000000 → at_ ≤ s.length → F [.str s, .int .i64 at_, .fn 198 [] []] = some (.sv (.int .i64 (runW wC s at_ : Nat)))) ∧
  (∀ (s : List UInt8) (at_ : Nat), s.length < 1000000000 → at_ ≤ s.length → F [.str s, .int .i64 at_, .fn 199 [] []] = some (.sv (.int .i64 (runW zB s at_ : Nat))))

theorem ev4197 (E : Env) (h : E.code 197 = some c4197) (h98 : Has E 198 S4198) (h67 : Has E 199 S1167) : S4197 (autoF E 197) := by
  obtain ⟨G, hg, hG⟩ := h98
  obtain ⟨H, hh, hH⟩ := h67
  exact ⟨fun s a hs ha => run4197 E h _ G hg wC hG s hs a ha, fun s a hs ha => run4197 E h _ H hh zB hH s hs a ha⟩

def S4048 (F : List SV → Option AV) : Prop := ∀ n : Nat, n < 18446744073709551616 → F [.int .u64 (n : Int)] = some (.sv (.str (limVal n)))

theorem ev4048 (E : Env) (h : E.code 48 = some c4048) (h45 : E.pure 29 = some F45) : S4048 (autoF E 48) := by
  intro n hn
  have hF := F45_eq n hn
  refine autoA_sv (n := 1) ?_ rfl
  unfold evPA limVal limMax unlS
  simp only [h]
  by_cases e : n = 18446744073709551615
  · subst e; simp [c4048]
  · have e1 : ((n : Int) == 18446744073709551615) = false := by simp; omega
    simp [c4048, e, e1, h45, hF]

def limRow (f : LimF) : SV := .agg [.str f.name, .str f.label, .str f.unit]
def S4047 (F : List SV → Option AV) : Prop := F [] = some (.sv (.sl (limTab.map limRow)))

theorem ev4047 (E : Env) (h : E.code 47 = some c4047) : S4047 (autoF E 47) := by
  refine autoA_sl (n := 1) (r := .own 80 (limTab.map limRow)) ?_ rfl
  unfold evPA
  simp only [h]
  simp [c4047, limTab, limRow, ln0, ln1, ln2, ln3, ln4, ln5, ln6, ln7, ln8, ln9, ln10, ln11, ln12, ln13, ln14, ln15]

def S4186 (F : List SV → Option AV) : Prop := ∀ n : Nat, n < 18446744073709551616 → F [.str (limVal n)] = some (.sv (.tup [.int .u64 (n : Int), .nilI]))

theorem decS_unl (n : Nat) : (decS n == [117, 110, 108, 105, 109, 105, 116, 101, 100]) = false := by
  simp only [beq_eq_false_iff_ne, ne_eq]
  intro e
  have := (decS_dig n).2.1 117 (by rw [e]; simp)
  revert this; decide

theorem ev4186 (E : Env) (h : E.code 186 = some c4186) (h91 : Has E 195 S91v) : S4186 (autoF E 186) := by
  obtain ⟨G, hg, hG⟩ := h91
  intro n hn
  have hF := hG.2 n hn
  refine autoA_sv (n := 1) ?_ rfl
  unfold evPA limVal limMax unlS
  simp only [h]
  by_cases e : n = 18446744073709551615
  · subst e; simp [c4186]
  · have e1 := decS_unl n
    generalize decS n = d at *
    simp [c4186, e, e1, hg, hF]

end Go.Ev

set_option linter.unusedSimpArgs false
set_option linter.unusedVariables false
namespace Go.Ev
open Go.Proofs

theorem runW_at {p : UInt8 → Bool} {A w B : List UInt8} {n : Nat} (hn : n = A.length) (hw : ∀ c ∈ w, p c = true) (hB : B = [] ∨ ∃ c B', B = c :: B' ∧ p c = false) : runW p (A ++ (w ++ B)) n = w.length := by
  subst hn
  unfold runW
  rw [List.drop_left]
  clear A
  induction w with
  | nil =>
    rcases hB with rfl | ⟨c, B', rfl, h⟩
    · rfl
    · simp [h]
  | cons c w ih =>
    rw [List.cons_append, List.takeWhile_cons, hw c (by simp), if_pos rfl, List.length_cons, ih (fun d hd => hw d (by simp [hd])), List.length_cons]

/-! ### zzLimits2: the first try -/

def fin4200 (s : List UInt8) (fr en p3 two p1 p2 : Nat) : SA := { nt := 101, tm := [(6, .own 9 [.str ((s.take p2).drop fr), .str ((s.take en).drop fr), .str ((s.take two).drop p3), .str ((s.take p2).drop p1)])], lz := none, bx := [], df := [] }
def st0_4200 (s : List UInt8) (fr at_ d e en f g two h : Nat) : SA := { nt := 101, tm := [(13, .sv (.int .i64 h)), (12, .sv (.int .i64 two)), (11, .sv (.int .i64 g)), (10, .sv (.int .i64 f)), (9, .sv (.int .i64 en)), (8, .sv (.int .i64 e)), (7, .sv (.int .i64 d)), (2, .sv (.int .i64 at_)), (1, .sv (.int .i64 fr)), (0, .sv (.str s))], lz := none, bx := [], df := [] }

theorem wrap_nat {a b : Nat} (h : a + b < 9223372036854775808) : IntKind.i64.wrap ((a : Int) + (b : Int)) = ((a + b : Nat) : Int) := by rw [IntKind.wrap_i64]; omega

set_option maxRecDepth 100000 in
set_option maxHeartbeats 4000000 in
theorem out0_4200 (E : Env) (cf : CallF) (m : Nat) (H : List SV → Option AV) (hp : E.pure 197 = some H) (s : List UInt8) (hs : s.length < 1000000000) (fr at_ d e en f g two h i p1 p2 p3 : Nat) (h1 : 1 ≤ h) (h2 : 1 ≤ i) (e1 : p1 = two + h) (e2 : p2 = p1 + i) (e3 : p3 = en + f) (hle : p2 ≤ s.length) (h3 : p3 ≤ two) (hfr : fr ≤ en)
    (hr : H [.str s, .int .i64 p1, .fn 198 [] []] = some (.sv (.int .i64 (i : Nat)))) :
    evCA E cf m b4200_0 (st0_4200 s fr at_ d e en f g two h) = some (.ret, fin4200 s fr en p3 two p1 p2) := by
  have w1 : IntKind.i64.wrap ((two : Int) + (h : Int)) = (p1 : Int) := by rw [wrap_nat (by omega), e1]
  have w2 : IntKind.i64.wrap ((p1 : Int) + (i : Int)) = (p2 : Int) := by rw [wrap_nat (by omega), e2]
  have w3 : IntKind.i64.wrap ((en : Int) + (f : Int)) = (p3 : Int) := by rw [wrap_nat (by omega), e3]
  have a1 : (1 : Int) ≤ (h : Int) := by omega
  have a2 : (1 : Int) ≤ (i : Int) := by omega
  have l1 : two ≤ s.length := by omega
  have l2 : en ≤ s.length := by omega
  have l3 : fr ≤ p2 := by omega
  have l4 : p1 ≤ p2 := by omega
  clear e1 e2 e3
  simp [st0_4200, fin4200, b4200_0, w1, w2, w3, a1, a2, l1, l2, l3, l4, h1, h2, hle, h3, hfr, hp, hr]

def st1_4200 (s : List UInt8) (fr at_ d e en f g : Nat) : SA := { nt := 101, tm := [(11, .sv (.int .i64 g)), (10, .sv (.int .i64 f)), (9, .sv (.int .i64 en)), (8, .sv (.int .i64 e)), (7, .sv (.int .i64 d)), (2, .sv (.int .i64 at_)), (1, .sv (.int .i64 fr)), (0, .sv (.str s))], lz := none, bx := [], df := [] }
def st2_4200 (s : List UInt8) (fr at_ d e en f : Nat) : SA := { nt := 101, tm := [(10, .sv (.int .i64 f)), (9, .sv (.int .i64 en)), (8, .sv (.int .i64 e)), (7, .sv (.int .i64 d)), (2, .sv (.int .i64 at_)), (1, .sv (.int .i64 fr)), (0, .sv (.str s))], lz := none, bx := [], df := [] }
def st3_4200 (s : List UInt8) (fr at_ d : Nat) (e : Int) : SA := { nt := 101, tm := [(8, .sv (.int .i64 e)), (7, .sv (.int .i64 d)), (2, .sv (.int .i64 at_)), (1, .sv (.int .i64 fr)), (0, .sv (.str s))], lz := none, bx := [], df := [] }
def st4_4200 (s : List UInt8) (fr at_ : Nat) (d : Int) : SA := { nt := 101, tm := [(7, .sv (.int .i64 d)), (2, .sv (.int .i64 at_)), (1, .sv (.int .i64 fr)), (0, .sv (.str s))], lz := none, bx := [], df := [] }

theorem out1_4200 (E : Env) (cf : CallF) (m : Nat) (H : List SV → Option AV) (hp : E.pure 197 = some H) (s : List UInt8) (hs : s.length < 1000000000) (fr at_ d e en f g two h p3 : Nat) (X : SA) (h0 : roundsA (evCA E cf m b4200_0) m (st0_4200 s fr at_ d e en f g two h) = some (.ret, X)) (h1 : 1 ≤ g) (e3 : p3 = en + f) (e4 : two = p3 + g) (hle : two ≤ s.length)
    (hr : H [.str s, .int .i64 two, .fn 199 [] []] = some (.sv (.int .i64 (h : Nat)))) :
    evCA E cf m b4200_1 (st1_4200 s fr at_ d e en f g) = some (.ret, X) := by
  have w3 : IntKind.i64.wrap ((en : Int) + (f : Int)) = (p3 : Int) := by rw [wrap_nat (by omega), e3]
  have w4 : IntKind.i64.wrap ((p3 : Int) + (g : Int)) = (two : Int) := by rw [wrap_nat (by omega), e4]
  have a1 : (1 : Int) ≤ (g : Int) := by omega
  clear e3 e4
  simp only [st0_4200] at h0
  simp [st1_4200, b4200_1, w3, w4, a1, h1, hp, hr, h0]

theorem out2_4200 (E : Env) (cf : CallF) (m : Nat) (H : List SV → Option AV) (hp : E.pure 197 = some H) (s : List UInt8) (hs : s.length < 1000000000) (fr at_ d e en f g p3 : Nat) (X : SA) (h0 : roundsA (evCA E cf m b4200_1) m (st1_4200 s fr at_ d e en f g) = some (.ret, X)) (h1 : 2 ≤ f) (e3 : p3 = en + f) (hle : p3 ≤ s.length)
    (hr : H [.str s, .int .i64 p3, .fn 198 [] []] = some (.sv (.int .i64 (g : Nat)))) :
    evCA E cf m b4200_2 (st2_4200 s fr at_ d e en f) = some (.ret, X) := by
  have w3 : IntKind.i64.wrap ((en : Int) + (f : Int)) = (p3 : Int) := by rw [wrap_nat (by omega), e3]
  have a1 : (2 : Int) ≤ (f : Int) := by omega
  clear e3
  simp only [st1_4200] at h0
  simp [st2_4200, b4200_2, w3, a1, h1, hp, hr, h0]

theorem out3_4200 (E : Env) (cf : CallF) (m : Nat) (H : List SV → Option AV) (hp : E.pure 197 = some H) (s : List UInt8) (hs : s.length < 1000000000) (fr at_ d e en f q : Nat) (X : SA) (h0 : roundsA (evCA E cf m b4200_2) m (st2_4200 s fr at_ d e en f) = some (.ret, X)) (e1 : q = at_ + d) (e2 : en = q + e) (hle : en ≤ s.length)
    (hr : H [.str s, .int .i64 en, .fn 199 [] []] = some (.sv (.int .i64 (f : Nat)))) :
    evCA E cf m b4200_3 (st3_4200 s fr at_ d e) = some (.ret, X) := by
  have w1 : IntKind.i64.wrap ((at_ : Int) + (d : Int)) = (q : Int) := by rw [wrap_nat (by omega), e1]
  have w2 : IntKind.i64.wrap ((q : Int) + (e : Int)) = (en : Int) := by rw [wrap_nat (by omega), e2]
  clear e1 e2
  simp only [st2_4200] at h0
  simp [st3_4200, b4200_3, w1, w2, hp, hr, h0]

theorem out4_4200 (E : Env) (cf : CallF) (m : Nat) (H : List SV → Option AV) (hp : E.pure 197 = some H) (s : List UInt8) (hs : s.length < 1000000000) (fr at_ d e q : Nat) (X : SA) (h0 : roundsA (evCA E cf m b4200_3) m (st3_4200 s fr at_ d e) = some (.ret, X)) (e1 : q = at_ + d) (hle : q ≤ s.length)
    (hr : H [.str s, .int .i64 q, .fn 198 [] []] = some (.sv (.int .i64 (e : Nat)))) :
    evCA E cf m b4200_4 (st4_4200 s fr at_ d) = some (.ret, X) := by
  have w1 : IntKind.i64.wrap ((at_ : Int) + (d : Int)) = (q : Int) := by rw [wrap_nat (by omega), e1]
  clear e1
  simp only [st3_4200] at h0
  simp [st4_4200, b4200_4, w1, hp, hr, h0]

/-- The first try: a blank, a word (or none), two blanks or more, a word, blanks, a word. -/
theorem first4200 (E : Env) (h : E.code 200 = some c4200) (h97 : Has E 197 S4197) (A e f g b i B : List UInt8) (hA : (A ++ (32 :: (e ++ (f ++ (g ++ (b ++ (i ++ B))))))).length < 1000000000) (fr : Nat) (hfr : fr ≤ A.length)
    (he : ∀ c ∈ e, wC c = true) (hf : ∀ c ∈ f, c = 32) (hf2 : 2 ≤ f.length) (hg : ∀ c ∈ g, wC c = true ∧ zB c = false) (hg1 : g ≠ []) (hb : ∀ c ∈ b, c = 32) (hb1 : b ≠ []) (hi : ∀ c ∈ i, wC c = true ∧ zB c = false) (hi1 : i ≠ []) (hB : B = [] ∨ ∃ B', B = 32 :: B') (he2 : e = [] ∨ ∃ c e', e = c :: e' ∧ zB c = false) (m : Nat) :
    evFA E (m + 1) 200 [.sv (.str (A ++ (32 :: (e ++ (f ++ (g ++ (b ++ (i ++ B)))))))), .sv (.int .i64 (fr : Nat)), .sv (.int .i64 (A.length : Nat))] [] = some (.own 9 [.str ((A ++ (32 :: (e ++ (f ++ (g ++ (b ++ i)))))).drop fr), .str ((A ++ (32 :: e)).drop fr), .str g, .str i], []) := by
  obtain ⟨H, hp, hH1, hH2⟩ := h97
  have hz32 : zB 32 = true := by decide
  have hw32 : wC 32 = false := by decide
  obtain ⟨g0, g', rfl⟩ := List.exists_cons_of_ne_nil hg1
  obtain ⟨i0, i', rfl⟩ := List.exists_cons_of_ne_nil hi1
  obtain ⟨b0, b', rfl⟩ := List.exists_cons_of_ne_nil hb1
  obtain rfl : b0 = 32 := hb b0 (by simp)
  obtain ⟨f0, f', rfl⟩ : ∃ f0 f', f = f0 :: f' := by cases f with | nil => simp at hf2 | cons x y => exact ⟨x, y, rfl⟩
  obtain rfl : f0 = 32 := hf f0 (by simp)
  obtain ⟨s, hsd⟩ : ∃ s, s = A ++ (32 :: (e ++ ((32 :: f') ++ ((g0 :: g') ++ ((32 :: b') ++ ((i0 :: i') ++ B)))))) := ⟨_, rfl⟩
  rw [← hsd] at hA ⊢
  have hBw : B = [] ∨ ∃ c B', B = c :: B' ∧ wC c = false := hB.imp id fun ⟨B', h⟩ => ⟨32, B', h, hw32⟩
  have r5 : runW wC s (A.length + 1 + e.length + (32 :: f').length + (g0 :: g').length + (32 :: b').length) = (i0 :: i').length := by
    rw [show s = (A ++ (32 :: (e ++ ((32 :: f') ++ ((g0 :: g') ++ (32 :: b')))))) ++ ((i0 :: i') ++ B) by rw [hsd]; simp]
    exact runW_at (by simp; omega) (fun c hc => (hi c hc).1) hBw
  have r4 : runW zB s (A.length + 1 + e.length + (32 :: f').length + (g0 :: g').length) = (32 :: b').length := by
    rw [show s = (A ++ (32 :: (e ++ ((32 :: f') ++ (g0 :: g'))))) ++ ((32 :: b') ++ ((i0 :: i') ++ B)) by rw [hsd]; simp]
    exact runW_at (by simp; omega) (fun c hc => by rw [hb c hc]; exact hz32) (.inr ⟨i0, i' ++ B, rfl, (hi i0 (by simp)).2⟩)
  have r3 : runW wC s (A.length + 1 + e.length + (32 :: f').length) = (g0 :: g').length := by
    rw [show s = (A ++ (32 :: (e ++ (32 :: f')))) ++ ((g0 :: g') ++ ((32 :: b') ++ ((i0 :: i') ++ B))) by rw [hsd]; simp]
    exact runW_at (by simp; omega) (fun c hc => (hg c hc).1) (.inr ⟨32, b' ++ ((i0 :: i') ++ B), rfl, hw32⟩)
  have r2 : runW zB s (A.length + 1 + e.length) = (32 :: f').length := by
    rw [show s = (A ++ (32 :: e)) ++ ((32 :: f') ++ ((g0 :: g') ++ ((32 :: b') ++ ((i0 :: i') ++ B)))) by rw [hsd]; simp]
    exact runW_at (by simp; omega) (fun c hc => by rw [hf c hc]; exact hz32) (.inr ⟨g0, g' ++ ((32 :: b') ++ ((i0 :: i') ++ B)), rfl, (hg g0 (by simp)).2⟩)
  have r1 : runW wC s (A.length + 1) = e.length := by
    rw [show s = (A ++ [32]) ++ (e ++ ((32 :: f') ++ ((g0 :: g') ++ ((32 :: b') ++ ((i0 :: i') ++ B))))) by rw [hsd]; simp]
    exact runW_at (by simp) he (.inr ⟨32, f' ++ ((g0 :: g') ++ ((32 :: b') ++ ((i0 :: i') ++ B))), rfl, hw32⟩)
  have r0 : ∃ k, runW zB s A.length = k + 1 := by
    unfold runW
    rw [hsd, List.drop_left, List.takeWhile_cons, hz32]
    exact ⟨_, rfl⟩
  obtain ⟨k, r0⟩ := r0
  have hsl : s.length = A.length + 1 + e.length + (32 :: f').length + (g0 :: g').length + (32 :: b').length + (i0 :: i').length + B.length := by rw [hsd]; simp; omega
  have t1 : (s.take (A.length + 1 + e.length + (32 :: f').length + (g0 :: g').length + (32 :: b').length + (i0 :: i').length)) = A ++ (32 :: (e ++ ((32 :: f') ++ ((g0 :: g') ++ ((32 :: b') ++ (i0 :: i')))))) := by
    rw [show s = (A ++ (32 :: (e ++ ((32 :: f') ++ ((g0 :: g') ++ ((32 :: b') ++ (i0 :: i'))))))) ++ B by rw [hsd]; simp]
    exact List.take_left' (by simp; omega)
  have t2 : s.take (A.length + 1 + e.length) = A ++ (32 :: e) := by
    rw [show s = (A ++ (32 :: e)) ++ ((32 :: f') ++ ((g0 :: g') ++ ((32 :: b') ++ ((i0 :: i') ++ B)))) by rw [hsd]; simp]
    exact List.take_left' (by simp; omega)
  have t3 : (s.take (A.length + 1 + e.length + (32 :: f').length + (g0 :: g').length)).drop (A.length + 1 + e.length + (32 :: f').length) = g0 :: g' := by
    rw [show s = (A ++ (32 :: (e ++ ((32 :: f') ++ (g0 :: g'))))) ++ ((32 :: b') ++ ((i0 :: i') ++ B)) by rw [hsd]; simp, List.take_left' (by simp; omega)]
    rw [show A ++ (32 :: (e ++ ((32 :: f') ++ (g0 :: g')))) = (A ++ (32 :: (e ++ (32 :: f')))) ++ (g0 :: g') by simp]
    exact List.drop_left' (by simp; omega)
  have t4 : (s.take (A.length + 1 + e.length + (32 :: f').length + (g0 :: g').length + (32 :: b').length + (i0 :: i').length)).drop (A.length + 1 + e.length + (32 :: f').length + (g0 :: g').length + (32 :: b').length) = i0 :: i' := by
    rw [t1, show A ++ (32 :: (e ++ ((32 :: f') ++ ((g0 :: g') ++ ((32 :: b') ++ (i0 :: i')))))) = (A ++ (32 :: (e ++ ((32 :: f') ++ ((g0 :: g') ++ (32 :: b')))))) ++ (i0 :: i') by simp]
    exact List.drop_left' (by simp; omega)
  have q0 := hH2 s A.length hA (by omega)
  have q1 := hH1 s (A.length + 1) hA (by omega)
  have q2 := hH2 s (A.length + 1 + e.length) hA (by omega)
  have q3 := hH1 s (A.length + 1 + e.length + (32 :: f').length) hA (by omega)
  have q4 := hH2 s (A.length + 1 + e.length + (32 :: f').length + (g0 :: g').length) hA (by omega)
  have q5 := hH1 s (A.length + 1 + e.length + (32 :: f').length + (g0 :: g').length + (32 :: b').length) hA (by omega)
  rw [r0] at q0
  rw [r1] at q1
  rw [r2] at q2
  rw [r3] at q3
  rw [r4] at q4
  rw [r5] at q5
  have o0 := out0_4200 E (evF E (m + 1)) (m + 1) H hp s hA fr A.length 1 e.length (A.length + 1 + e.length) (32 :: f').length (g0 :: g').length (A.length + 1 + e.length + (32 :: f').length + (g0 :: g').length) (32 :: b').length (i0 :: i').length _ _ _ (by simp) (by simp) rfl rfl rfl (by omega) (by simp) (by omega) q5
  have o1 := out1_4200 E (evF E (m + 1)) (m + 1) H hp s hA fr A.length 1 e.length (A.length + 1 + e.length) (32 :: f').length (g0 :: g').length _ (32 :: b').length _ _ (roundsA_out o0 (by simp)) (by simp) rfl rfl (by omega) q4
  have o2 := out2_4200 E (evF E (m + 1)) (m + 1) H hp s hA fr A.length 1 e.length (A.length + 1 + e.length) (32 :: f').length (g0 :: g').length _ _ (roundsA_out o1 (by simp)) hf2 rfl (by omega) q3
  have o3 := out3_4200 E (evF E (m + 1)) (m + 1) H hp s hA fr A.length 1 e.length (A.length + 1 + e.length) (32 :: f').length (A.length + 1) _ (roundsA_out o2 (by simp)) rfl rfl (by omega) q2
  have o4 := out4_4200 E (evF E (m + 1)) (m + 1) H hp s hA fr A.length 1 e.length (A.length + 1) _ (roundsA_out o3 (by simp)) rfl (by omega) q1
  have o5 := roundsA_out (n := m) o4 (by simp)
  unfold fin4200 at o5
  rw [t4, t3, t2, t1] at o5
  have hk : ¬ ((k : Int) + 1 < 1) := by omega
  unfold evFA
  simp only [h]
  simp only [st4_4200, Int.ofNat_one, Int.natCast_one] at o5
  generalize A ++ 32 :: (e ++ (32 :: f' ++ (g0 :: g' ++ (32 :: b' ++ i0 :: i')))) = Z1 at *
  simp [c4200, hp, q0, hk, o5]

end Go.Ev
