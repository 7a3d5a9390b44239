/- Texts split at a sign, addresses: the program's functions. -/
/- ParseUint of numbers of 8, 16, 32 and 64 bits. -/
/- Wireless interfaces: the door: blanks and points cut off, the parts of a line. -/
/- Wireless interfaces: the reference's tree. -/
/- Slabs: the door: numbers, blanks, a word in a text. -/
/- Wireless interfaces: the door's reading. -/
/- Entries of the wireless interfaces. -/
import Derived.Test.YtcjebcenbimcgaaGreatDoorEat
import Derived.Test.YtcjebcenbimcgaaGreatDoorEag
import Derived.Test.YtcjebcenbimcgaaGreatDoorEal
import Derived.Test.YtcjebcenbimcgaaGreatDoorEap
import Derived.Test.YtcjebcenbimcgaaGreatDoorEar
import Derived.Test.YtcjebcenbimcgaaGreatDoorEas
set_option linter.unusedSimpArgs false
set_option linter.unusedVariables false
namespace Go.Ev
open Go.Proofs

/-! ### The first place of a sign -/

def S1166 (F : List SV → Option AV) : Prop := ∀ (b : UInt8) (s : List UInt8), s.length < 1000000000000 →
  ((∀ c ∈ s, c.toNat ≠ b.toNat) → F [.str s, .str [b]] = some (.sv (.int .i64 (-1)))) ∧
  ∀ w rest, s = w ++ b :: rest → (∀ c ∈ w, c.toNat ≠ b.toNat) → F [.str s, .str [b]] = some (.sv (.int .i64 (w.length : Int)))

theorem take_one {s : List UInt8} {i : Nat} {c : UInt8} {rest pre : List UInt8} (h : s = pre ++ c :: rest) (hi : i = pre.length) : (s.take (i + 1)).drop i = [c] := by
  subst h; subst hi
  rw [show pre.length + 1 = (pre ++ [c]).length from by simp, show pre ++ c :: rest = (pre ++ [c]) ++ rest from by simp, List.take_left, List.drop_left]

theorem loop1166 (E : Env) (cf : CallF) (b : UInt8) (s : List UInt8) (hs : s.length < 1000000000000) (m : Nat) :
    ∀ (rest pre : List UInt8) (i k : Nat), s = pre ++ rest → i = pre.length → rest.length < k →
      ((∀ c ∈ rest, c.toNat ≠ b.toNat) → rounds (evC E cf m b1166_0) k { tm := [.sv (.str s), .sv (.str [b]), .sv .undef, .sv .undef, .sv .undef, .sv (.int .i64 i)] ++ List.replicate 19 (.sv .undef), lz := none, bx := [], df := [] } = some (.exit 0, { tm := List.replicate 25 (.sv .undef), lz := none, bx := [], df := [] })) ∧
      ∀ w r2, rest = w ++ b :: r2 → (∀ c ∈ w, c.toNat ≠ b.toNat) → rounds (evC E cf m b1166_0) k { tm := [.sv (.str s), .sv (.str [b]), .sv .undef, .sv .undef, .sv .undef, .sv (.int .i64 i)] ++ List.replicate 19 (.sv .undef), lz := none, bx := [], df := [] } = some (.ret, { tm := List.replicate 4 (.sv .undef) ++ [.sv (.int .i64 ((i + w.length : Nat) : Int))] ++ List.replicate 20 (.sv .undef), lz := none, bx := [], df := [] }) := by
  intro rest
  induction rest with
  | nil =>
    intro pre i k hsp hi hk
    obtain ⟨k, rfl⟩ : ∃ k', k = k' + 1 := ⟨k - 1, by omega⟩
    have hl : s.length = i := by rw [hsp, hi]; simp
    have hw : IntKind.i64.wrap ((i : Int) + 1) = ((i + 1 : Nat) : Int) := by rw [IntKind.wrap_i64]; omega
    have hle : ¬ ((i + 1 : Nat) : Int) ≤ (i : Int) := by omega
    refine ⟨fun _ => ?_, fun w r2 h => by simp at h⟩
    refine rounds_out ?_ (by simp)
    generalize hj : ((i + 1 : Nat) : Int) = j at *
    have hnle : ¬ j ≤ (i : Int) := by omega
    simp [b1166_0, List.replicate, hl, hw, hnle]
  | cons c rest ih =>
    intro pre i k hsp hi hk
    obtain ⟨k, rfl⟩ : ∃ k', k = k' + 1 := ⟨k - 1, by omega⟩
    have hl : s.length = i + rest.length + 1 := by rw [hsp, hi]; simp; omega
    have hw : IntKind.i64.wrap ((i : Int) + 1) = ((i + 1 : Nat) : Int) := by rw [IntKind.wrap_i64]; omega
    have hle : ((i + 1 : Nat) : Int) ≤ (s.length : Int) := by omega
    have hle2 : i + 1 ≤ s.length := by omega
    have hii : i ≤ i + 1 := by omega
    have ht := take_one hsp hi
    obtain ⟨ih1, ih2⟩ := ih (pre ++ [c]) (i + 1) k (by rw [hsp]; simp) (by simp [hi]) (by simp at hk; omega)
    have hcb : ∀ x y : UInt8, ([x] == [y]) = decide (x.toNat = y.toNat) := fun x y => by
      rw [Bool.eq_iff_iff]; simp [UInt8.toNat_inj]
    have step : c.toNat ≠ b.toNat → evC E cf m b1166_0 { tm := [.sv (.str s), .sv (.str [b]), .sv .undef, .sv .undef, .sv .undef, .sv (.int .i64 i)] ++ List.replicate 19 (.sv .undef), lz := none, bx := [], df := [] } = some (.normal, { tm := [.sv (.str s), .sv (.str [b]), .sv .undef, .sv .undef, .sv .undef, .sv (.int .i64 ((i + 1 : Nat) : Int))] ++ List.replicate 19 (.sv .undef), lz := none, bx := [], df := [] }) := by
      intro hne
      have hbe := hcb c b
      rw [decide_eq_false hne] at hbe
      generalize hj : ((i + 1 : Nat) : Int) = j at *
      have hj0 : 0 ≤ j := by omega
      have hjt : j.toNat = i + 1 := by omega
      have hij : (i : Int) ≤ j := by omega
      have hii2 : (i : Int) ≤ (i : Int) + 1 := by omega
      have hcne : ¬ c = b := fun e => hne (by rw [e])
      simp [b1166_0, List.replicate, hw, hle, hle2, hii, ht, hbe, hj0, hjt, hij, hii2, hcne]
    refine ⟨fun h => ?_, fun w r2 h hwn => ?_⟩
    · rw [rounds_step (step (h c (by simp)))]
      exact ih1 (fun x hx => h x (by simp [hx]))
    · cases w with
      | nil =>
        simp only [List.nil_append, List.cons.injEq] at h
        obtain ⟨rfl, rfl⟩ := h
        refine rounds_out ?_ (by simp)
        have hbe := hcb c c
        rw [decide_eq_true rfl] at hbe
        simp only [List.length_nil, Nat.add_zero]
        generalize hj : ((i + 1 : Nat) : Int) = j at *
        have hj0 : 0 ≤ j := by omega
        have hjt : j.toNat = i + 1 := by omega
        have hij : (i : Int) ≤ j := by omega
        have hii2 : (i : Int) ≤ (i : Int) + 1 := by omega
        simp [b1166_0, List.replicate, hw, hle, hle2, hii, ht, hbe, hj0, hjt, hij, hii2]
      | cons d w =>
        simp only [List.cons_append, List.cons.injEq] at h
        obtain ⟨rfl, rfl⟩ := h
        rw [rounds_step (step (hwn c (by simp)))]
        have := ih2 w r2 rfl (fun x hx => hwn x (by simp [hx]))
        rw [this, show i + 1 + w.length = i + (c :: w).length from by simp; omega]

theorem ev1166 (E : Env) (h : E.code 207 = some c1166) : S1166 (autoF E 207) := by
  intro b s hs
  obtain ⟨h1, h2⟩ := loop1166 E (evF E (s.length + 1)) b s hs (s.length + 1) s [] 0 (s.length + 1) rfl rfl (by omega)
  refine ⟨fun hn => ?_, fun w rest hsp hw => ?_⟩
  · have hl := h1 hn
    refine autoF_sv (n := s.length + 1) ?_ rfl
    unfold evP
    simp only [h]
    simp only [List.replicate, List.cons_append, List.nil_append, Int.ofNat_zero, Int.natCast_zero] at hl
    simp [c1166, List.replicate, hl]
  · have hl := h2 w rest hsp hw
    refine autoF_sv (n := s.length + 1) ?_ rfl
    unfold evP
    simp only [h]
    simp only [List.replicate, List.cons_append, List.nil_append, Int.ofNat_zero, Int.natCast_zero, Nat.zero_add] at hl
    simp [c1166, List.replicate, hl]

theorem first_or (b : Nat) : ∀ s : List UInt8, (∀ c ∈ s, c.toNat ≠ b) ∨ ∃ w c rest, s = w ++ c :: rest ∧ c.toNat = b ∧ ∀ x ∈ w, x.toNat ≠ b
  | [] => .inl (by simp)
  | c :: s => by
    by_cases h : c.toNat = b
    · exact .inr ⟨[], c, s, rfl, h, by simp⟩
    · rcases first_or b s with h1 | ⟨w, d, rest, h1, h2, h3⟩
      · exact .inl fun x hx => by
          rcases List.mem_cons.1 hx with rfl | hx
          · exact h
          · exact h1 x hx
      · exact .inr ⟨c :: w, d, rest, by rw [h1]; rfl, h2, fun x hx => by
          rcases List.mem_cons.1 hx with rfl | hx
          · exact h
          · exact h3 x hx⟩

/-! ### A text split -/

def S1157 (F : List SV → Option AV) : Prop := ∀ (b : UInt8) (s : List UInt8), s.length < 100000000000 → F [.str s, .str [b]] = some (.sv (.sl (strs (partG b.toNat [] s))))

theorem loop1157 (E : Env) (cf : CallF) (h66 : Has E 207 S1166) (b : UInt8) (L m : Nat) (hL : L < 100000000000) :
    ∀ (k : Nat) (s : List UInt8) (acc : List SV), s.length < k → s.length + acc.length ≤ L →
      rounds (evC E cf m b1157_0) k { tm := [.sv (.str s), .sv (.str [b]), .sv .undef, .sv .undef, .sv .undef, accA 9 acc] ++ List.replicate 52 (.sv .undef), lz := none, bx := [], df := [] } =
        some (.ret, { tm := List.replicate 4 (.sv .undef) ++ [.own 9 (acc ++ strs (partG b.toNat [] s))] ++ List.replicate 53 (.sv .undef), lz := none, bx := [], df := [] }) := by
  obtain ⟨F, hp, hF⟩ := h66
  intro k
  induction k with
  | zero => intro s acc h; omega
  | succ k ih =>
    intro s acc hk hl
    obtain ⟨g1, g2⟩ := hF b s (by omega)
    have hl1 : (acc.length + 1) * 16 ≤ 140737488355328 := by omega
    have hl2 : acc.length + 1 ≤ 140737488355328 := by omega
    rcases first_or b.toNat s with hn | ⟨w, c, rest, hsp, hcb, hw⟩
    · rw [partG_none hn]
      have hFv := g1 hn
      refine rounds_out ?_ (by simp)
      cases acc with
      | nil => simp [b1157_0, List.replicate, hp, hFv, accA, strs]
      | cons y ys =>
        simp only [List.length_cons] at hl1 hl2
        simp [b1157_0, List.replicate, hp, hFv, accA, strs, hl1, hl2]
    · have : c = b := UInt8.toNat_inj.1 hcb
      subst this
      have hFv := g2 w rest hsp hw
      have hsl : s.length = w.length + rest.length + 1 := by rw [hsp]; simp; omega
      rw [hsp, partG_first hw, ← hsp]
      have he := ih rest (acc ++ [.str w]) (by omega) (by simp; omega)
      rw [show acc ++ strs (w :: partG c.toNat [] rest) = acc ++ [SV.str w] ++ strs (partG c.toNat [] rest) from by simp [strs], ← he]
      refine rounds_step ?_
      have hw1 : IntKind.i64.wrap ((w.length : Int) + 1) = ((w.length + 1 : Nat) : Int) := by rw [IntKind.wrap_i64]; omega
      have ht : s.take w.length = w := by rw [hsp, List.take_left]
      have hd : s.drop (w.length + 1) = rest := by
        rw [hsp, show w.length + 1 = (w ++ [c]).length from by simp, show w ++ c :: rest = (w ++ [c]) ++ rest from by simp, List.drop_left]
      have hle : w.length ≤ s.length := by omega
      have hle2 : ((w.length + 1 : Nat) : Int) ≤ (s.length : Int) := by omega
      have hng : ¬ (w.length : Int) < 0 := by omega
      generalize hj : ((w.length + 1 : Nat) : Int) = j at *
      have hj0 : 0 ≤ j := by omega
      have hjt : j.toNat = w.length + 1 := by omega
      cases acc with
      | nil => simp [b1157_0, List.replicate, hp, hFv, accA, strs, hw1, ht, hd, hle, hle2, hj0, hjt, hng]
      | cons y ys =>
        simp only [List.length_cons] at hl1 hl2
        simp [b1157_0, List.replicate, hp, hFv, accA, strs, hw1, ht, hd, hle, hle2, hl1, hl2, hj0, hjt, hng]

theorem ev1157 (E : Env) (h : E.code 192 = some c1157) (h66 : Has E 207 S1166) : S1157 (autoF E 192) := by
  intro b s hs
  have hl := loop1157 E (evF E (s.length + 1)) h66 b s.length (s.length + 1) hs (s.length + 1) s [] (by omega) (by simp)
  refine autoF_sl (n := s.length + 1) (r := .own 9 (strs (partG b.toNat [] s))) ?_ rfl
  unfold evP
  simp only [h]
  simp only [accA, List.replicate, List.cons_append, List.nil_append] at hl
  generalize strs (partG b.toNat [] s) = z at hl
  simp [c1157, List.replicate, hl]

/-! ### Addresses -/

def byV (hi lo : UInt8) : UInt8 := UInt8.ofNat (digitV hi.toNat * 16 + digitV lo.toNat)

theorem byV_toNat {hi lo : UInt8} (h1 : digitV hi.toNat < 16) (h2 : digitV lo.toNat < 16) : (byV hi lo).toNat = digitV hi.toNat * 16 + digitV lo.toNat := by
  unfold byV; simp; omega

def hexB : List UInt8 → List UInt8
  | a :: b :: r => byV a b :: hexB r
  | _ => []

/-- An address's bytes: each word backwards. -/
def addrV : List UInt8 → List UInt8
  | a :: b :: c :: d :: e :: f :: g :: h :: r => byV g h :: byV e f :: byV c d :: byV a b :: addrV r
  | _ => []

def S1177 (F : List SV → Option AV) : Prop := ∀ c : UInt8, digitV c.toNat < 16 → F [.int .u8 (c.toNat : Int)] = some (.sv (.tup [.int .u8 (digitV c.toNat : Int), .bool true]))

def S1174 (F : List SV → Option AV) : Prop := ∀ (k : Nat) (s : List UInt8), s.length = 2 * k → s.length < 1000000 → (∀ c ∈ s, digitV c.toNat < 16) → F [.str s] = some (.sv (.tup [.sl (bytesSV (hexB s)), .nilI]))

theorem or16 : ∀ a b : Fin 16, (a.val * 16 ||| b.val) = a.val * 16 + b.val := by decide

theorem or16' {a b : Nat} (ha : a < 16) (hb : b < 16) : (a * 16 ||| b) = a * 16 + b := or16 ⟨a, ha⟩ ⟨b, hb⟩

def addrF (s : List UInt8) : Prop := (s.length = 8 ∨ s.length = 32) ∧ ∀ c ∈ s, digitV c.toNat < 16

def S1169 (F : List SV → Option AV) : Prop := ∀ s : List UInt8, addrF s → F [.str s] = some (.sv (.tup [.sl (bytesSV (addrV s)), .nilI]))

end Go.Ev

set_option linter.unusedSimpArgs false
set_option linter.unusedVariables false
namespace Go.Ev
open Go.Proofs

set_option maxRecDepth 100000 in
set_option maxHeartbeats 4000000 in
theorem loop125m (E : Env) (cf : CallF) (M : Nat) (hM : M < 18446744073709551616) (h135 : Has E 201 S135) (s0 s : List UInt8) (hs : s.length < 1000000000000) (m : Nat) :
    ∀ (rest pre : List UInt8) (a k : Nat), s = pre ++ rest → (∀ c ∈ rest, digitV c.toNat < 16) → hexN a rest ≤ M → rest.length < k →
      rounds (evC E cf m b125_0) k { tm := [.sv .undef, .sv (.int .i64 16)] ++ List.replicate 6 (.sv .undef) ++ [.sv (.bool false), .sv (.str s0), .sv (.int .u64 1152921504606846976), .sv (.int .u64 (M : Int)), .sv (.bool false), .sv (.int .u64 a)] ++ List.replicate 85 (.sv .undef) ++ [.sv (.sl (bytesSV s)), .sv (.int .i64 s.length), .sv (.int .i64 pre.length)] ++ List.replicate 70 (.sv .undef), lz := none, bx := [], df := [] } =
        some (.exit 3, { tm := List.replicate 9 (.sv .undef) ++ [.sv (.str s0), .sv .undef, .sv .undef, .sv (.bool false), .sv (.int .u64 (hexN a rest : Nat))] ++ List.replicate 158 (.sv .undef), lz := none, bx := [], df := [] }) := by
  obtain ⟨F, hp, hF⟩ := h135
  intro rest
  induction rest with
  | nil =>
    intro pre a k hsp hr ha hk
    obtain ⟨k, rfl⟩ : ∃ k', k = k' + 1 := ⟨k - 1, by omega⟩
    have hlt : ¬ (pre.length < s.length) := by rw [hsp]; simp
    refine rounds_out ?_ (by simp)
    simp [b125_0, List.replicate, hlt, hexN_nil]
  | cons c rest ih =>
    intro pre a k hsp hr ha hk
    obtain ⟨k, rfl⟩ : ∃ k', k = k' + 1 := ⟨k - 1, by omega⟩
    have hlt : pre.length < s.length := by rw [hsp]; simp
    have hsl := congrArg List.length hsp
    simp only [List.length_append, List.length_cons] at hsl
    have hc : ∀ h : pre.length < (bytesSV s).length, (bytesSV s)[pre.length]'h = .int .u8 (c.toNat : Int) := by subst hsp; simp [bytesSV]
    have hw2 : IntKind.i64.wrap ((pre.length : Int) + 1) = ((pre ++ [c]).length : Int) := by rw [IntKind.wrap_i64]; simp; omega
    have hd16 := hr c (by simp)
    have hFc := hF c
    rw [hexN_cons] at ha ⊢
    have hge := hexN_ge rest (a * 16 + digitV c.toNat)
    have h10 : ¬ (16 : Int) ≤ (digitV c.toNat : Int) := by omega
    have hcut : ¬ (1152921504606846976 : Int) ≤ (a : Int) := by omega
    have hw8 : IntKind.u8.wrap 16 = 16 := by rw [IntKind.wrap_u8]; omega
    have hw64 : IntKind.u64.wrap 16 = 16 := by rw [IntKind.wrap_u64]; omega
    have hw3 : IntKind.u64.wrap (digitV c.toNat : Int) = (digitV c.toNat : Int) := by rw [IntKind.wrap_u64]; omega
    have hw4 : IntKind.u64.wrap ((a : Int) * 16) = ((a * 16 : Nat) : Int) := by rw [IntKind.wrap_u64]; omega
    have hw5 : IntKind.u64.wrap (((a * 16 : Nat) : Int) + (digitV c.toNat : Int)) = ((a * 16 + digitV c.toNat : Nat) : Int) := by rw [IntKind.wrap_u64]; omega
    have q1 : ¬ (((a * 16 + digitV c.toNat : Nat) : Int) < ((a * 16 : Nat) : Int)) := by omega
    have q2 : ¬ ((M : Int) < ((a * 16 + digitV c.toNat : Nat) : Int)) := by omega
    have he := ih (pre ++ [c]) (a * 16 + digitV c.toNat) k (by rw [hsp]; simp) (fun x hx => hr x (by simp [hx])) ha (by simp at hk; omega)
    rw [← he]
    refine rounds_step ?_
    by_cases hlet : 10 ≤ digitV c.toNat
    · have hFv := hFc hlet hd16
      have hl := hexLetter hlet hd16
      have e95 : ((c.toNat : Int) == 95) = false := by rw [Bool.eq_false_iff]; simp; omega
      have e48 : (48 : Int) ≤ (c.toNat : Int) := by omega
      have e57 : ¬ (c.toNat : Int) ≤ 57 := by omega
      have f1 : (97 : Int) ≤ ((digitV c.toNat + 87 : Nat) : Int) := by omega
      have f2 : ((digitV c.toNat + 87 : Nat) : Int) ≤ 122 := by omega
      have f3 : IntKind.u8.wrap (IntKind.u8.wrap (((digitV c.toNat + 87 : Nat) : Int) - 97) + 10) = (digitV c.toNat : Int) := by rw [IntKind.wrap_u8, IntKind.wrap_u8]; omega
      generalize digitV c.toNat = d at *
      generalize (a * 16 + d) = a2 at *
      generalize (a * 16) = a1 at *
      generalize ((d + 87 : Nat) : Int) = d87 at *
      simp [b125_0, List.replicate, hlt, bytesSV_length, hc, hp, hFv, e95, e48, e57, f1, f2, f3, h10, hcut, hw8, hw64, hw2, hw3, hw4, hw5, q1, q2]
    · have hl : 48 ≤ c.toNat ∧ c.toNat ≤ 57 ∧ digitV c.toNat = c.toNat - 48 := by
        unfold digitV at hlet hd16 ⊢
        (repeat' split at hlet) <;> (repeat' split at hd16) <;> (repeat' split) <;> omega
      have e95 : ((c.toNat : Int) == 95) = false := by rw [Bool.eq_false_iff]; simp; omega
      have e48 : (48 : Int) ≤ (c.toNat : Int) := by omega
      have e57 : (c.toNat : Int) ≤ 57 := by omega
      have hs8 : IntKind.u8.wrap ((c.toNat : Int) - 48) = (digitV c.toNat : Int) := by rw [IntKind.wrap_u8]; omega
      generalize digitV c.toNat = d at *
      generalize (a * 16 + d) = a2 at *
      generalize (a * 16) = a1 at *
      simp [b125_0, List.replicate, hlt, bytesSV_length, hc, hs8, e95, e48, e57, h10, hcut, hw8, hw64, hw2, hw3, hw4, hw5, q1, q2]


def S125v (F : List SV → Option AV) : Prop :=
  (∀ s : List UInt8, s.length < 1000000000000 → s ≠ [] → (∀ c ∈ s, digitV c.toNat < 16) → ∀ (b : Int) (M : Nat), (b = 8 ∧ M = 255) ∨ (b = 16 ∧ M = 65535) ∨ (b = 32 ∧ M = 4294967295) ∨ (b = 64 ∧ M = 18446744073709551615) → hexN 0 s ≤ M → F [.str s, .int .i64 16, .int .i64 b] = some (.sv (.tup [.int .u64 (hexN 0 s : Nat), .nilI]))) ∧
  (∀ n : Nat, n < 18446744073709551616 → F [.str (decS n), .int .i64 10, .int .i64 64] = some (.sv (.tup [.int .u64 (n : Int), .nilI])))

set_option maxRecDepth 100000 in
set_option maxHeartbeats 4000000 in
theorem ev125v (E : Env) (h : E.code 190 = some c125) (h135 : Has E 201 S135) : S125v (autoF E 190) := by
  refine ⟨fun s hs hne hd b M hbM hv => ?_, fun n hn => ?_⟩
  · have hM : M < 18446744073709551616 := by omega
    have hl := loop125m E (evF E (s.length + 1)) M hM h135 s s hs (s.length + 1) s [] 0 (s.length + 1) rfl hd hv (by omega)
    refine autoF_sv (n := s.length + 1) ?_ rfl
    unfold evP
    simp only [h]
    simp only [List.replicate, List.cons_append, List.nil_append, List.length_nil, Int.ofNat_zero, Int.natCast_zero] at hl
    generalize hexN 0 s = v at *
    rcases hbM with ⟨rfl, rfl⟩ | ⟨rfl, rfl⟩ | ⟨rfl, rfl⟩ | ⟨rfl, rfl⟩
    · have hsh : IntKind.u64.wrap (IntKind.u64.wrap (2 ^ min 8 IntKind.u64.bits) - 1) = 255 := by decide
      have hsh0 : IntKind.u64.wrap 8 = 8 := by decide
      rw [show ((255 : Nat) : Int) = 255 from rfl] at hl
      simp [c125, List.replicate, hne, hsh, hsh0, bytesSV_length, hl]
    · have hsh : IntKind.u64.wrap (IntKind.u64.wrap (2 ^ min 16 IntKind.u64.bits) - 1) = 65535 := by decide
      have hsh0 : IntKind.u64.wrap 16 = 16 := by decide
      rw [show ((65535 : Nat) : Int) = 65535 from rfl] at hl
      simp [c125, List.replicate, hne, hsh, hsh0, bytesSV_length, hl]
    · have hsh : IntKind.u64.wrap (IntKind.u64.wrap (2 ^ min 32 IntKind.u64.bits) - 1) = 4294967295 := by decide
      have hsh0 : IntKind.u64.wrap 32 = 32 := by decide
      rw [show ((4294967295 : Nat) : Int) = 4294967295 from rfl] at hl
      simp [c125, List.replicate, hne, hsh, hsh0, bytesSV_length, hl]
    · have hsh : IntKind.u64.wrap (IntKind.u64.wrap (2 ^ min 64 IntKind.u64.bits) - 1) = 18446744073709551615 := by decide
      have hsh0 : IntKind.u64.wrap 64 = 64 := by decide
      rw [show ((18446744073709551615 : Nat) : Int) = 18446744073709551615 from rfl] at hl
      simp [c125, List.replicate, hne, hsh, hsh0, bytesSV_length, hl]
  · have hsh : IntKind.u64.wrap (IntKind.u64.wrap (2 ^ min 64 IntKind.u64.bits) - 1) = 18446744073709551615 := by decide
    have hsh0 : IntKind.u64.wrap 64 = 64 := by decide
    obtain ⟨g1, g2, g3⟩ := decS_dig n
    have hlen := decS_len20 hn
    have hl := loop125b E (evF E ((decS n).length + 1)) false (decS n) (decS n) (by omega) ((decS n).length + 1) (decS n) [] 0 ((decS n).length + 1) rfl g2 (by rw [g1]; exact hn) (by omega)
    rw [g1] at hl
    refine autoF_sv (n := (decS n).length + 1) ?_ rfl
    unfold evP
    simp only [h]
    generalize decS n = s at *
    simp only [List.replicate, List.cons_append, List.nil_append, List.length_nil, Int.ofNat_zero, Int.natCast_zero] at hl
    simp [c125, List.replicate, g3, hsh, hsh0, bytesSV_length, hl]

def S91v (F : List SV → Option AV) : Prop := S125v F

theorem ev91v (E : Env) (h : E.code 120 = some c91) (h125 : Has E 190 S125v) : S91v (autoF E 120) := by
  obtain ⟨F, hp, hF1, hF2⟩ := h125
  refine ⟨fun s hs hne hd b M hbM hv => ?_, fun n hn => ?_⟩
  · have := hF1 s hs hne hd b M hbM hv
    refine autoF_sv (n := 1) ?_ rfl
    unfold evP
    simp only [h]
    generalize hexN 0 s = v at *
    simp [c91, List.replicate, hp, this]
  · have := hF2 n hn
    refine autoF_sv (n := 1) ?_ rfl
    unfold evP
    simp only [h]
    generalize decS n = v at *
    simp [c91, List.replicate, hp, this]

end Go.Ev

set_option linter.unusedSimpArgs false
set_option linter.unusedVariables false
namespace Go.Ev
open Go.Proofs

/-! ### A point cut off -/

def S2263w (F : List SV → Option AV) : Prop := ∀ s : List UInt8, s.length < 1000000000 → endsB 46 s = true → F [.str s, .str [46]] = some (.sv (.bool true))

theorem ev2263w (E : Env) (h : E.code 220 = some c2263) : S2263w (autoF E 220) := by
  intro s hs he
  unfold endsB at he
  simp only [Bool.and_eq_true, decide_eq_true_eq, beq_iff_eq] at he
  obtain ⟨h1, h2⟩ := he
  have w1 : IntKind.i64.wrap ((s.length : Int) - 1) = ((s.length - 1 : Nat) : Int) := by rw [IntKind.wrap_i64]; omega
  have b1 : (1 : Int) ≤ (s.length : Int) := by omega
  have b2 : s.length - 1 ≤ s.length := by omega
  refine autoA_sv (n := 1) ?_ rfl
  unfold evPA
  simp only [h]
  generalize s.length - 1 = q at *
  simp [c2263, b1, w1, b2, h2]

def S2256w (F : List SV → Option AV) : Prop := ∀ s : List UInt8, s.length < 1000000000 → endsB 46 s = true → F [.str s, .str [46]] = some (.sv (.str (s.take (s.length - 1))))

theorem ev2256w (E : Env) (h : E.code 211 = some c2256) (h63 : Has E 220 S2263w) : S2256w (autoF E 211) := by
  obtain ⟨F, hp, hF⟩ := h63
  intro s hs he
  have hF1 := hF s hs he
  unfold endsB at he
  simp only [Bool.and_eq_true, decide_eq_true_eq, beq_iff_eq] at he
  obtain ⟨h1, h2⟩ := he
  have w1 : IntKind.i64.wrap ((s.length : Int) - 1) = ((s.length - 1 : Nat) : Int) := by rw [IntKind.wrap_i64]; omega
  have b2 : s.length - 1 ≤ s.length := by omega
  refine autoA_sv (n := 1) ?_ rfl
  unfold evPA
  simp only [h]
  generalize s.length - 1 = q at *
  simp [c2256, hp, hF1, w1, b2]

def S2243w (F : List SV → Option AV) : Prop := S2256w F

theorem ev2243w (E : Env) (h : E.code 195 = some c2243) (h56 : Has E 211 S2256w) : S2243w (autoF E 195) := by
  obtain ⟨F, hp, hF⟩ := h56
  intro s hs he
  have hF1 := hF s hs he
  refine autoA_sv (n := 1) ?_ rfl
  unfold evPA
  simp only [h]
  generalize s.take (s.length - 1) = q at *
  simp [c2243, hp, hF1]

/-! ### Blanks cut off -/

theorem spC_blank {c : UInt8} (h : blankC c = true) : spC c = true ∧ c.toNat < 128 := by
  unfold blankC at h
  unfold spC
  simp only [Bool.or_eq_true, beq_iff_eq, Bool.and_eq_true, decide_eq_true_eq] at *
  omega

theorem spC_word {c : UInt8} (h : wordC c = true) : spC c = false ∧ c.toNat < 128 := by
  unfold wordC at h
  unfold spC
  simp only [Bool.and_eq_true, decide_eq_true_eq, Bool.or_eq_false_iff, Bool.and_eq_false_iff, decide_eq_false_iff_not, beq_eq_false_iff_ne] at *
  omega

def st3193 (s : List UInt8) (i : Nat) : SA := { nt := 54, tm := [(10, .sv (.int .i64 i)), (9, .sv (.int .i64 s.length)), (8, .sv (.sl (bytesSV s))), (0, .sv (.str s))], lz := none, bx := [], df := [] }

set_option maxHeartbeats 4000000 in
theorem stepB3193 (E : Env) (cf : CallF) (m : Nat) (hT : SpT E) (s : List UInt8) (hs : s.length < 1000000000) (i : Nat) (hi : i < s.length) (c : UInt8) (hc : s[i]? = some c) (hb : spC c = true) (h8 : c.toNat < 128) :
    evCA E cf m b3193_1 (st3193 s i) = some (.normal, st3193 s (i + 1)) := by
  have hw : IntKind.i64.wrap ((i : Int) + 1) = ((i + 1 : Nat) : Int) := by rw [IntKind.wrap_i64]; omega
  have hg : ∀ h : i < (bytesSV s).length, (bytesSV s)[i]'h = .int .u8 (c.toNat : Int) := by
    intro h
    have : (bytesSV s)[i]? = some (.int .u8 (c.toNat : Int)) := by simp [bytesSV, hc]
    rw [List.getElem?_eq_getElem h] at this
    simpa using this
  have hil : i < (bytesSV s).length := by rw [bytesSV_length]; exact hi
  have hsp := hT c h8
  have hv : spV c = 1 := by unfold spV; rw [hb]; rfl
  rw [hv] at hsp
  have e128 : ¬ (128 : Int) ≤ (c.toNat : Int) := by omega
  have e256 : (c.toNat : Int) < 256 := by omega
  simp [st3193, b3193_1, hi, hil, hg, e128, e256, hsp, hw, bytesSV_length]

set_option maxHeartbeats 4000000 in
theorem stepW3193 (E : Env) (cf : CallF) (m : Nat) (hT : SpT E) (hm : 1 < m) (B w : List UInt8) (hs : (B ++ w).length < 1000000000) (hw0 : w ≠ []) (hw : ∀ c ∈ w, wordC c = true) :
    evCA E cf m b3193_1 (st3193 (B ++ w) B.length) = some (.ret, { nt := 54, tm := [(2, .sv (.str w))], lz := none, bx := [], df := [] }) := by
  obtain ⟨c, t, rfl⟩ : ∃ c t, w = c :: t := by
    cases w with
    | nil => exact absurd rfl hw0
    | cons c t => exact ⟨c, t, rfl⟩
  obtain ⟨q, rfl⟩ : ∃ q, m = q + 1 := ⟨m - 1, by omega⟩
  have hi : B.length < (B ++ c :: t).length := by simp
  have hgc : (bytesSV (B ++ c :: t))[B.length]? = some (.int .u8 (c.toNat : Int)) := by simp [bytesSV]
  have hil : B.length < (bytesSV (B ++ c :: t)).length := by rw [bytesSV_length]; exact hi
  have hg : ∀ h : B.length < (bytesSV (B ++ c :: t)).length, (bytesSV (B ++ c :: t))[B.length]'h = .int .u8 (c.toNat : Int) := by
    intro h
    rw [List.getElem?_eq_getElem h] at hgc
    simpa using hgc
  obtain ⟨h1, h8⟩ := spC_word (hw c (by simp))
  have hsp := hT c h8
  have hv : spV c = 0 := by unfold spV; rw [h1]; rfl
  rw [hv] at hsp
  have e128 : ¬ (128 : Int) ≤ (c.toNat : Int) := by omega
  have e256 : (c.toNat : Int) < 256 := by omega
  -- the last sign
  obtain ⟨d, hd, hdm⟩ : ∃ d, (c :: t)[t.length]? = some d ∧ d ∈ c :: t := by
    have hlt : t.length < (c :: t).length := by simp
    exact ⟨(c :: t)[t.length], List.getElem?_eq_getElem hlt, List.getElem_mem _⟩
  obtain ⟨k1, k8⟩ := spC_word (hw d hdm)
  have ksp := hT d k8
  have kv : spV d = 0 := by unfold spV; rw [k1]; rfl
  rw [kv] at ksp
  have k128 : ¬ (128 : Int) ≤ (d.toNat : Int) := by omega
  have k256 : (d.toNat : Int) < 256 := by omega
  have hlt : t.length < (c :: t).length := by simp
  have hdg : ∀ h : t.length < (c :: t).length, (c :: t)[t.length]'h = d := by
    intro h
    rw [List.getElem?_eq_getElem h] at hd
    simpa using hd
  have hdrop : (B ++ c :: t).drop B.length = c :: t := List.drop_left
  have hll : (B ++ c :: t).length = B.length + (t.length + 1) := by simp
  have htk : (c :: t).take (t.length + 1) = c :: t := List.take_of_length_le (by simp)
  have hwl : IntKind.i64.wrap (((t.length + 1 : Nat) : Int) - 1) = (t.length : Int) := by rw [IntKind.wrap_i64]; simp only [List.length_append, List.length_cons] at hs; omega
  have hwl2 : IntKind.i64.wrap ((t.length : Int) + 1) = ((t.length + 1 : Nat) : Int) := by rw [IntKind.wrap_i64]; simp only [List.length_append, List.length_cons] at hs; omega
  have hge : (0 : Int) ≤ (t.length : Int) := by omega
  have hwl3 : IntKind.i64.wrap (t.length : Int) = (t.length : Int) := by rw [IntKind.wrap_i64]; simp only [List.length_append, List.length_cons] at hs; omega
  have hBl : (B.length : Int) ≤ ((B ++ c :: t).length : Int) := by omega
  have hBn : B.length ≤ (B ++ c :: t).length := by omega
  have htl : (B ++ c :: t).take (B ++ c :: t).length = B ++ c :: t := List.take_length
  have hin : roundsA (evCA E cf (q + 1) b3193_0) (q + 1) { nt := 54, tm := [(10, .sv (.int .i64 B.length)), (9, .sv (.int .i64 (B ++ c :: t).length)), (8, .sv (.sl (bytesSV (B ++ c :: t)))), (5, .sv (.int .i64 t.length)), (0, .sv (.str (c :: t)))], lz := none, bx := [], df := [] } = some (.ret, { nt := 54, tm := [(2, .sv (.str (c :: t)))], lz := none, bx := [], df := [] }) := by
    refine roundsA_out ?_ (by simp)
    generalize hS : bytesSV (B ++ c :: t) = SB at *
    generalize hW : c :: t = W at *
    have hWl : W.length = t.length + 1 := by rw [← hW]; rfl
    generalize ht0 : t.length = tl at *
    generalize B.length = bl at *
    have hl1 : (tl : Int) < (tl : Int) + 1 := by omega
    have hl2 : (0 : Int) ≤ (tl : Int) + 1 := by omega
    simp [b3193_0, hge, hlt, hdg, hd, hl1, hl2, k128, k256, ksp, hwl2, htk, hWl]
  have hbl : (bytesSV (B ++ c :: t)).length = (B ++ c :: t).length := bytesSV_length _
  have hcl : (c :: t).length = t.length + 1 := rfl
  unfold st3193
  generalize hS : bytesSV (B ++ c :: t) = SB at *
  generalize hW : c :: t = W at *
  generalize hX : B ++ W = X at *
  generalize ht0 : t.length = tl at *
  generalize hb0 : B.length = bl at *
  generalize hx0 : X.length = xl at *
  have hlI : (bl : Int) < (xl : Int) := by omega
  simp [st3193, b3193_1, hx0, hi, hlI, hil, hg, e128, e256, hsp, hBl, hBn, htl, hdrop, hcl, hwl, hwl3, hin]

def S3193 (F : List SV → Option AV) : Prop := ∀ B w : List UInt8, (B ++ w).length < 1000000000 → (∀ c ∈ B, blankC c = true) → w ≠ [] → (∀ c ∈ w, wordC c = true) → F [.str (B ++ w)] = some (.sv (.str w))

theorem loop3193 (E : Env) (cf : CallF) (m : Nat) (hT : SpT E) (hm : 1 < m) (B w : List UInt8) (hs : (B ++ w).length < 1000000000) (hB : ∀ c ∈ B, blankC c = true) (hw0 : w ≠ []) (hw : ∀ c ∈ w, wordC c = true) :
    ∀ (rest pre : List UInt8) (k : Nat), B = pre ++ rest → rest.length < k → roundsA (evCA E cf m b3193_1) k (st3193 (B ++ w) pre.length) = some (.ret, { nt := 54, tm := [(2, .sv (.str w))], lz := none, bx := [], df := [] }) := by
  intro rest
  induction rest with
  | nil =>
    intro pre k hsp hk
    obtain ⟨k, rfl⟩ : ∃ k', k = k' + 1 := ⟨k - 1, by omega⟩
    rw [List.append_nil] at hsp
    subst hsp
    exact roundsA_out (stepW3193 E cf m hT hm B w hs hw0 hw) (by simp)
  | cons c rest ih =>
    intro pre k hsp hk
    obtain ⟨k, rfl⟩ : ∃ k', k = k' + 1 := ⟨k - 1, by omega⟩
    obtain ⟨h1, h2⟩ := spC_blank (hB c (by rw [hsp]; simp))
    have hst := stepB3193 E cf m hT (B ++ w) hs pre.length (by rw [hsp]; simp) c (by rw [hsp]; simp) h1 h2
    rw [roundsA_step hst]
    have he := ih (pre ++ [c]) k (by rw [hsp]; simp) (by simp at hk; omega)
    rw [List.length_append, List.length_singleton] at he
    exact he

theorem ev3193 (E : Env) (h : E.code 193 = some c3193) (hT : SpT E) : S3193 (autoF E 193) := by
  intro B w hs hB hw0 hw
  have hl := loop3193 E (evF E (B.length + 3)) (B.length + 3) hT (by omega) B w hs hB hw0 hw B [] (B.length + 3) rfl (by omega)
  refine autoA_sv (n := B.length + 3) ?_ rfl
  unfold evPA
  simp only [h]
  simp only [st3193, List.length_nil, Int.ofNat_zero, Int.natCast_zero] at hl
  generalize B ++ w = X at *
  simp [c3193, hl, bytesSV_length]

/-! ### The parts of a line -/

theorem fieldG_head : ∀ (s cur : List UInt8) {w : List UInt8} {fs : List (List UInt8)}, (∀ c ∈ cur, blankC c = false) → fieldG cur s = w :: fs →
    ∃ B v rest, s = B ++ (v ++ rest) ∧ w = cur ++ v ∧ (∀ c ∈ B, blankC c = true) ∧ (cur ≠ [] → B = []) ∧ fieldG [] rest = fs ∧ (∀ c ∈ v, blankC c = false)
  | [], cur, w, fs, _, h => by
    unfold fieldG at h
    split at h <;> simp only [List.cons.injEq, reduceCtorEq] at h
    exact ⟨[], [], [], rfl, by simp [h.1], by simp, by simp, by rw [← h.2]; rfl, by simp⟩
  | c :: s, cur, w, fs, hcur, h => by
    unfold fieldG at h
    by_cases hb : blankC c = true
    · rw [if_pos hb] at h
      by_cases hc : cur = []
      · rw [if_pos hc] at h
        subst hc
        obtain ⟨B, v, rest, h1, h2, h3, _, h5, h6⟩ := fieldG_head s [] (by simp) h
        refine ⟨c :: B, v, rest, by rw [h1]; rfl, h2, fun d hd => ?_, by simp, h5, h6⟩
        rcases List.mem_cons.1 hd with rfl | hd
        · exact hb
        · exact h3 d hd
      · rw [if_neg hc] at h
        simp only [List.cons.injEq] at h
        refine ⟨[], [], c :: s, rfl, by simp [h.1], by simp, by simp, ?_, by simp⟩
        rw [← h.2]
        conv => lhs; unfold fieldG
        rw [if_pos hb, if_pos rfl]
    · rw [if_neg hb] at h
      have hb' : blankC c = false := by simpa using hb
      obtain ⟨B, v, rest, h1, h2, h3, h4, h5, h6⟩ := fieldG_head s (cur ++ [c]) (fun d hd => by
        rcases List.mem_append.1 hd with hd | hd
        · exact hcur d hd
        · obtain rfl := List.mem_singleton.1 hd; exact hb') h
      have hB := h4 (by simp)
      subst hB
      refine ⟨[], c :: v, rest, by rw [h1]; rfl, by rw [h2]; simp, by simp, by simp, h5, fun d hd => ?_⟩
      rcases List.mem_cons.1 hd with rfl | hd
      · exact hb'
      · exact h6 d hd

theorem fieldG_chars : ∀ (s cur : List UInt8), ∀ c ∈ s, blankC c = true ∨ ∃ w ∈ fieldG cur s, c ∈ w
  | [], _ => by simp
  | d :: s, cur => by
    intro c hc
    conv => rhs; unfold fieldG
    by_cases hb : blankC d = true
    · rw [if_pos hb]
      rcases List.mem_cons.1 hc with rfl | hc
      · exact .inl hb
      · rcases fieldG_chars s [] c hc with h | ⟨w, hw, hcw⟩
        · exact .inl h
        · right
          split
          · exact ⟨w, hw, hcw⟩
          · exact ⟨w, List.mem_cons_of_mem _ hw, hcw⟩
    · rw [if_neg hb]
      rcases List.mem_cons.1 hc with rfl | hc
      · right
        cases hf : fieldG (cur ++ [c]) s with
        | nil =>
          exfalso
          have key : ∀ (s cur : List UInt8), cur ≠ [] → fieldG cur s ≠ [] := by
            intro s
            induction s with
            | nil => intro cur h; unfold fieldG; rw [if_neg h]; simp
            | cons x s ih =>
              intro cur h
              unfold fieldG
              split
              · simp [h]
              · exact ih _ (by simp)
          exact key s (cur ++ [c]) (by simp) hf
        | cons w fs =>
          have keyH : ∀ (s cur : List UInt8) (w : List UInt8) (fs : List (List UInt8)), cur ≠ [] → fieldG cur s = w :: fs → ∃ v, w = cur ++ v := by
            intro s
            induction s with
            | nil => intro cur w fs h hf; unfold fieldG at hf; rw [if_neg h] at hf; simp only [List.cons.injEq] at hf; exact ⟨[], by simp [hf.1]⟩
            | cons x s ih =>
              intro cur w fs h hf
              unfold fieldG at hf
              split at hf
              · simp only [h, if_false, List.cons.injEq] at hf
                exact ⟨[], by simp [hf.1]⟩
              · obtain ⟨v, hv⟩ := ih (cur ++ [x]) w fs (by simp) hf
                exact ⟨x :: v, by rw [hv]; simp⟩
          obtain ⟨v, hv⟩ := keyH s (cur ++ [c]) w fs (by simp) hf
          exact ⟨w, by simp, by rw [hv]; simp⟩
      · exact fieldG_chars s (cur ++ [d]) c hc

/-- A line with a label ahead that ends with the only colon. -/
theorem line_parts {line nm : List UInt8} {fs : List (List UInt8)} (h : fieldsL line = (nm ++ [58]) :: fs) (hn : ∀ c ∈ nm, wordC c = true ∧ c.toNat ≠ 58) (hf : ∀ w ∈ fs, ∀ c ∈ w, c.toNat ≠ 58) :
    ∃ B rest, line = (B ++ nm) ++ 58 :: rest ∧ (∀ c ∈ B, blankC c = true) ∧ fieldsL rest = fs ∧ partG 58 [] line = [B ++ nm, rest] := by
  rw [fieldsL_eq] at h
  obtain ⟨B, v, rest, h1, h2, h3, _, h5, h6⟩ := fieldG_head line [] (by simp) h
  rw [List.nil_append] at h2
  subst h2
  have hB : ∀ c ∈ B ++ nm, c.toNat ≠ (58 : UInt8).toNat := by
    intro c hc
    rcases List.mem_append.1 hc with hc | hc
    · have := h3 c hc
      unfold blankC at this
      simp only [Bool.or_eq_true, beq_iff_eq] at this
      show c.toNat ≠ 58
      omega
    · exact (hn c hc).2
  have hR : ∀ c ∈ rest, c.toNat ≠ (58 : UInt8).toNat := by
    intro c hc
    rcases fieldG_chars rest [] c hc with hb | ⟨w, hw, hcw⟩
    · unfold blankC at hb
      simp only [Bool.or_eq_true, beq_iff_eq] at hb
      show c.toNat ≠ 58
      omega
    · rw [h5] at hw
      exact hf w hw c hcw
  have hl : line = (B ++ nm) ++ 58 :: rest := by rw [h1]; simp
  refine ⟨B, rest, hl, h3, by rw [fieldsL_eq]; exact h5, ?_⟩
  rw [hl]
  exact partG_two hB hR

theorem sdecS_col {n : Int} : ∀ c ∈ sdecS n, c.toNat ≠ 58 := by
  intro c hc
  unfold sdecS at hc
  split at hc
  · rcases List.mem_cons.1 hc with rfl | hc
    · decide
    · exact ((decS_word _).2 c hc).2.1
  · exact ((decS_word _).2 c hc).2.1

theorem wlFlds_col : ∀ (ns : List Nat) (i : Nat), ∀ w ∈ wlFlds i ns, ∀ c ∈ w, c.toNat ≠ 58
  | [], _ => by simp [wlFlds]
  | n :: ns, i => by
    intro w hw c hc
    unfold wlFlds at hw
    rcases List.mem_cons.1 hw with rfl | hw
    · unfold wlFld at hc
      split at hc
      · rcases List.mem_append.1 hc with hc | hc
        · exact sdecS_col c hc
        · obtain rfl := List.mem_singleton.1 hc; decide
      · exact sdecS_col c hc
    · exact wlFlds_col ns (i + 1) w hw c hc

theorem hexd_col {c : UInt8} (h : digitV c.toNat < 16) : c.toNat ≠ 58 := by
  unfold digitV at h
  (repeat' split at h) <;> omega

theorem scanGw (E : Env) (h : E.code 117 = some c88) (s t line rest : List UInt8) (h1 : ∀ c ∈ line, c.toNat ≠ 10) (h3 : (s = line ++ 10 :: rest) ∨ (s = line ∧ rest = [] ∧ line ≠ [])) (hl : s.length < 65536) (hr : ∀ c ∈ s, c.toNat ≠ 13) (bs : List Box) (n : Nat) (hn : s.length < n) :
    evF E (n + 1) 117 [.ptr 0 0] (scanBox s t :: bs) = some (.sv (.bool true), scanBox rest line :: bs) := by
  rcases h3 with h3 | ⟨h3, h4, h5⟩
  · subst h3
    simp only [List.length_append, List.length_cons] at hl hn
    exact scan88 E h 0 (scanBox (line ++ 10 :: rest) t :: bs) line rest t rfl (by omega) (by omega) (fun c hc => ⟨h1 c hc, hr c (by simp [hc])⟩) n (by omega)
  · subst h4
    rw [h3]
    rw [h3] at hl hr hn
    exact scan88n E h 0 (scanBox line t :: bs) line t rfl h5 hl (fun c hc => ⟨h1 c hc, hr c hc⟩) n hn

end Go.Ev

set_option linter.unusedSimpArgs false
set_option linter.unusedVariables false
namespace Go.Ev
open Go.Proofs

def S35w (F : List SV → Option AV) : Prop := ∀ (nm : List UInt8) (u : Int), F [.str nm, .int .u64 u] = some (.sv (nodeV nm 3 false 0 u 0 [] []))

theorem ev35w (E : Env) (h : E.code 48 = some c35) : S35w (autoF E 48) := by
  intro nm u
  refine autoF_sv (n := 1) ?_ rfl
  unfold evP
  simp only [h]
  simp [c35, List.replicate, nodeV]

def S3069 (F : List SV → Option AV) : Prop := F [] = some (.sv (.sl (strs wlNames)))

theorem ev3069 (E : Env) (h : E.code 69 = some c3069) : S3069 (autoF E 69) := by
  refine autoA_sl (n := 1) (r := .own 9 (strs wlNames)) ?_ rfl
  unfold evPA
  simp only [h]
  simp [c3069, strs, wlNames]

def stB3027 (xs acc : List SV) (i : Nat) (z : Box) (bx : List Box) (p : Nat) (names ks : List SV) (j : Nat) : SA := { nt := 58, tm := [(32, .sv (.int .i64 j)), (31, .sv (.int .i64 names.length)), (30, .sv (.sl names)), (16, .sv (.int .i64 i)), (15, .sv (.int .i64 xs.length)), (14, .sv (.sl xs)), (7, accA 42 ks), (6, .ptr p 0), (4, accA 42 acc), (2, .ptr 0 0)], lz := none, bx := z :: bx, df := [] }

def stE3027 (xs acc : List SV) (i : Nat) (z : Box) (bx : List Box) (ks : List SV) : SA := { nt := 58, tm := [(16, .sv (.int .i64 i)), (15, .sv (.int .i64 xs.length)), (14, .sv (.sl xs)), (7, accA 42 ks), (4, accA 42 acc), (2, .ptr 0 0)], lz := none, bx := z :: bx, df := [] }

set_option maxHeartbeats 4000000 in
theorem stepB3027 (E : Env) (cf : CallF) (m : Nat) (h66 : E.pure 70 = some F66) (xs acc : List SV) (i : Nat) (z : Box) (bx : List Box) (p : Nat) (names ns ks : List SV) (nmv ssv : SV) (hp : (z :: bx)[p]? = some (.live [.sv nmv, .sv (.sl ns), .sv ssv])) (k1 : SV) (kr : List SV) (hks : ks = k1 :: kr) (hkl : ks.length < 1000)
    (j : Nat) (hj : j < names.length) (hnl : names.length < 1000) (nm : List UInt8) (hc : ∀ h : j < names.length, names[j]'h = .str nm) (x : Nat) (hj1 : j + 1 < ns.length) (hx : ∀ h : j + 1 < ns.length, ns[j + 1]'h = .int .u64 (x : Int)) :
    evCA E cf m b3027_0 (stB3027 xs acc i z bx p names ks j) = some (.normal, stB3027 xs acc i z bx p names (ks ++ [iNode nm (i64 x)]) (j + 1)) := by
  subst hks
  have hw : IntKind.i64.wrap ((j : Int) + 1) = ((j + 1 : Nat) : Int) := by rw [IntKind.wrap_i64]; omega
  have hv : IntKind.i64.wrap (x : Int) = i64 x := rfl
  simp only [List.length_cons] at hkl
  have hl1 : (kr.length + 1 + 1) * 96 ≤ 140737488355328 := by omega
  have hl2 : kr.length + 1 + 1 ≤ 140737488355328 := by omega
  have hj0 : (j : Int) + 1 < (ns.length : Int) := by omega
  have hj2 : ((j + 1 : Nat) : Int) < (ns.length : Int) := by omega
  have hjn : (0 : Int) ≤ ((j + 1 : Nat) : Int) := by omega
  have hg : ns[j + 1]? = some (.int .u64 (x : Int)) := by rw [List.getElem?_eq_getElem hj1, hx hj1]
  generalize i64 x = v at *
  generalize hJ : ((j + 1 : Nat) : Int) = J at *
  have hJt : J.toNat = j + 1 := by omega
  unfold iNode
  simp [stB3027, b3027_0, hj, hc, hp, hw, hJ, hJt, hj2, hjn, hg, hv, h66, F66, nodeV, accA, hl1, hl2]

theorem loopB3027 (E : Env) (cf : CallF) (m : Nat) (h66 : E.pure 70 = some F66) (xs acc : List SV) (i : Nat) (z : Box) (bx : List Box) (p : Nat) (names ns : List SV) (nmv ssv : SV) (hp : (z :: bx)[p]? = some (.live [.sv nmv, .sv (.sl ns), .sv ssv])) (hnl : names.length < 500) :
    ∀ (fs : List (List UInt8)) (xsN : List Nat) (pre preN : List SV) (k1 : SV) (kr : List SV) (j k : Nat), names = pre ++ strs fs → j = pre.length → ns = preN ++ u64s xsN → j + 1 = preN.length → xsN.length = fs.length → kr.length ≤ j + 1 → fs.length < k →
      roundsA (evCA E cf m b3027_0) k (stB3027 xs acc i z bx p names (k1 :: kr) j) = some (.exit 2, stE3027 xs acc i z bx ((k1 :: kr) ++ wlKids fs xsN)) := by
  intro fs
  induction fs with
  | nil =>
    intro xsN pre preN k1 kr j k hsp hj _ _ hxl _ hk
    obtain ⟨k, rfl⟩ : ∃ k', k = k' + 1 := ⟨k - 1, by omega⟩
    have hlt : ¬ (j < names.length) := by rw [hsp, hj]; simp [strs]
    have hz : wlKids [] xsN = [] := by cases xsN <;> rfl
    rw [hz, List.append_nil]
    refine roundsA_out ?_ (by simp)
    simp [b3027_0, stB3027, stE3027, hlt]
  | cons f fs ih =>
    intro xsN pre preN k1 kr j k hsp hj hsn hjn hxl hkr hk
    obtain ⟨k, rfl⟩ : ∃ k', k = k' + 1 := ⟨k - 1, by omega⟩
    match xsN, hxl with
    | x :: xsN, hxl =>
      have hlt : j < names.length := by rw [hsp, hj]; simp [strs]
      have hc : ∀ h : j < names.length, names[j]'h = .str f := by subst hj; subst hsp; simp [strs]
      have hj1 : j + 1 < ns.length := by rw [hsn, hjn]; simp [u64s]
      have hx : ∀ h : j + 1 < ns.length, ns[j + 1]'h = .int .u64 (x : Int) := by
        intro h
        have : ns[j + 1]? = some (.int .u64 (x : Int)) := by rw [hsn, hjn]; simp [u64s]
        rw [List.getElem?_eq_getElem h] at this
        simpa using this
      have hst := stepB3027 E cf m h66 xs acc i z bx p names ns (k1 :: kr) nmv ssv hp k1 kr rfl (by simp; omega) j hlt (by omega) f hc x hj1 hx
      have he := ih xsN (pre ++ [.str f]) (preN ++ [.int .u64 (x : Int)]) k1 (kr ++ [iNode f (i64 x)]) (j + 1) k (by rw [hsp]; simp [strs]) (by simp [hj]) (by rw [hsn]; simp [u64s]) (by simp; omega) (by simpa using hxl) (by simp; omega) (by simp at hk; omega)
      rw [roundsA_step hst]
      rw [show k1 :: kr ++ [iNode f (i64 x)] = k1 :: (kr ++ [iNode f (i64 x)]) from rfl, he]
      simp [wlKids]

def st3027 (xs acc : List SV) (i : Nat) (z : Box) (bx : List Box) : SA := { nt := 58, tm := [(16, .sv (.int .i64 i)), (15, .sv (.int .i64 xs.length)), (14, .sv (.sl xs)), (4, accA 42 acc), (2, .ptr 0 0)], lz := none, bx := z :: bx, df := [] }

set_option maxRecDepth 100000 in
set_option maxHeartbeats 16000000 in
theorem step3027 (E : Env) (cf : CallF) (m : Nat) (hm : 10 < m) (h33 : E.pure 46 = some F33) (h34 : E.pure 47 = some F34) (h35 : Has E 48 S35w) (h66 : E.pure 70 = some F66) (h69 : Has E 69 S3069) (xs acc : List SV) (ha : acc.length < 1000000000) (r : RowD) (n0 n1 n2 n3 n4 n5 n6 n7 n8 n9 : Nat) (hr : WlR r n0 n1 n2 n3 n4 n5 n6 n7 n8 n9) (i : Nat) (hlt : i < xs.length) (hxl : xs.length < 1000000000)
    (hc : ∀ h : i < xs.length, xs[i]'h = .agg [.str r.name, .sl (u64s [n0, n1, n2, n3, n4, n5, n6, n7, n8, n9]), .sl []]) (z : Box) (bx : List Box) :
    evCA E cf m b3027_1 (st3027 xs acc i z bx) = some (.normal, st3027 xs (acc ++ [wlNode r]) (i + 1) z (bx ++ [rowBox r])) := by
  obtain ⟨FU, hpU, hU⟩ := h35
  obtain ⟨FN, hpN, hN⟩ := h69
  have hw : IntKind.i64.wrap ((i : Int) + 1) = ((i + 1 : Nat) : Int) := by rw [IntKind.wrap_i64]; omega
  have hl1 : (acc.length + 1) * 96 ≤ 140737488355328 := by omega
  have hl2 : acc.length + 1 ≤ 140737488355328 := by omega
  obtain ⟨nm, N, S⟩ := r
  obtain ⟨rfl, rfl, _, _, _⟩ := hr
  simp only at hc
  have hrb : rowBox ⟨nm, [n0, n1, n2, n3, n4, n5, n6, n7, n8, n9], []⟩ = .live [.sv (.str nm), .sv (.sl (u64s [n0, n1, n2, n3, n4, n5, n6, n7, n8, n9])), .sv (.sl [])] := rfl
  rw [hrb]
  have hU0 := hU [83, 116, 97, 116, 117, 115] (n0 : Int)
  obtain ⟨K, hK⟩ : ∃ K, K = [nodeV [78, 97, 109, 101] 5 false 0 0 0 nm [], nodeV [83, 116, 97, 116, 117, 115] 3 false 0 (n0 : Int) 0 [] []] := ⟨_, rfl⟩
  have hin := loopB3027 E cf m h66 xs acc i z (bx ++ [.live [.sv (.str nm), .sv (.sl (u64s [n0, n1, n2, n3, n4, n5, n6, n7, n8, n9])), .sv (.sl [])]]) (bx.length + 1) (strs (wlNames.drop 2)) (u64s [n0, n1, n2, n3, n4, n5, n6, n7, n8, n9]) (.str nm) (.sl []) (by simp) (by rw [strs_length]; decide)
    (wlNames.drop 2) [n1, n2, n3, n4, n5, n6, n7, n8, n9] [] [.int .u64 (n0 : Int)] (nodeV [78, 97, 109, 101] 5 false 0 0 0 nm []) [nodeV [83, 116, 97, 116, 117, 115] 3 false 0 (n0 : Int) 0 [] []] 0 m rfl rfl rfl rfl rfl (by simp) (by rw [show (wlNames.drop 2).length = 9 from rfl]; omega)
  have hnode : wlNode ⟨nm, [n0, n1, n2, n3, n4, n5, n6, n7, n8, n9], []⟩ = nodeV [] 8 false 0 0 0 [] ([nodeV [78, 97, 109, 101] 5 false 0 0 0 nm [], nodeV [83, 116, 97, 116, 117, 115] 3 false 0 (n0 : Int) 0 [] []] ++ wlKids (wlNames.drop 2) [n1, n2, n3, n4, n5, n6, n7, n8, n9]) := rfl
  rw [hnode]
  have hdrop : (strs wlNames).drop 2 = strs (wlNames.drop 2) := by simp [strs]
  have hdl : (strs (wlNames.drop 2)).length = 9 := rfl
  have hnl : (strs wlNames).length = 11 := rfl
  have htk : (strs wlNames).take 11 = strs wlNames := List.take_of_length_le (Nat.le_of_eq hnl)
  have hu : (∀ x : SV, x ∈ strs wlNames → x.cells.length = 1) = True := eq_true (fun x hx => by
    obtain ⟨y, _, rfl⟩ := List.mem_map.1 hx
    rfl)
  simp only [SV.cells] at hu
  generalize wlKids (wlNames.drop 2) [n1, n2, n3, n4, n5, n6, n7, n8, n9] = KK at *
  unfold S3069 at hN
  generalize hS1 : strs (wlNames.drop 2) = S1 at *
  generalize strs wlNames = S0 at *
  clear hS1 hnode hrb hU
  simp only [stB3027, stE3027, st3027, accA, hdl, List.cons_append, Int.ofNat_zero, Int.natCast_zero, u64s, List.map_cons, List.map_nil, nodeV] at hin hc ⊢
  rw [show ((9 : Nat) : Int) = 9 from rfl] at hin
  cases acc with
  | nil =>
    simp only [accA] at hin
    simp [b3027_1, hlt, hc, h34, F34, hpU, hU0, hpN, hN, hnl, htk, hu, hdrop, hdl, hin, h33, F33, nodeV, hw, accA]
  | cons y ys =>
    simp only [List.length_cons] at hl1 hl2
    simp only [accA] at hin
    simp [b3027_1, hlt, hc, h34, F34, hpU, hU0, hpN, hN, hnl, htk, hu, hdrop, hdl, hin, h33, F33, nodeV, hw, accA, hl1, hl2]

theorem loop3027 (E : Env) (cf : CallF) (m : Nat) (hm : 10 < m) (h33 : E.pure 46 = some F33) (h34 : E.pure 47 = some F34) (h35 : Has E 48 S35w) (h66 : E.pure 70 = some F66) (h69 : Has E 69 S3069) (xs : List SV) (hxl : xs.length < 100000000) (z : Box) :
    ∀ (rest : List RowD) (pre acc : List SV) (i : Nat) (bx : List Box) (k : Nat), xs = pre ++ rowsSV rest → i = pre.length → acc.length = i → (∀ r ∈ rest, wlOk r = true) → rest.length < k →
      ∃ bx', roundsA (evCA E cf m b3027_1) k (st3027 xs acc i z bx) = some (.exit 0, { nt := 58, tm := [(4, accA 42 (acc ++ rest.map wlNode)), (2, .ptr 0 0)], lz := none, bx := z :: bx', df := [] }) := by
  intro rest
  induction rest with
  | nil =>
    intro pre acc i bx k hsp hi ha _ hk
    obtain ⟨k, rfl⟩ : ∃ k', k = k' + 1 := ⟨k - 1, by omega⟩
    have hlt : ¬ (i < xs.length) := by rw [hsp, hi]; simp [rowsSV]
    refine ⟨bx, roundsA_out ?_ (by simp)⟩
    simp [st3027, b3027_1, hlt]
  | cons r rest ih =>
    intro pre acc i bx k hsp hi ha hr hk
    obtain ⟨k, rfl⟩ : ∃ k', k = k' + 1 := ⟨k - 1, by omega⟩
    have hlt : i < xs.length := by rw [hsp, hi]; simp [rowsSV]
    obtain ⟨n0, n1, n2, n3, n4, n5, n6, n7, n8, n9, hu⟩ := wlOk_spec (hr r (by simp))
    have hN := hu.hN
    have hS := hu.hS
    have hc : ∀ h : i < xs.length, xs[i]'h = .agg [.str r.name, .sl (u64s [n0, n1, n2, n3, n4, n5, n6, n7, n8, n9]), .sl []] := by subst hi; subst hsp; simp [rowsSV, RowD.sv, hN, hS, strs]
    have hst := step3027 E cf m hm h33 h34 h35 h66 h69 xs acc (by omega) r n0 n1 n2 n3 n4 n5 n6 n7 n8 n9 hu i hlt (by omega) hc z bx
    obtain ⟨bx', he⟩ := ih (pre ++ [r.sv]) (acc ++ [wlNode r]) (i + 1) (bx ++ [rowBox r]) k (by rw [hsp]; simp [rowsSV]) (by simp [hi]) (by simp [ha]) (fun q hq => hr q (by simp [hq])) (by simp at hk; omega)
    refine ⟨bx', ?_⟩
    rw [roundsA_step hst, he]
    simp

def S3027 (F : List SV → Option AV) : Prop := STreeG wlAll wlTree F

theorem ev3027 (E : Env) (h : E.code 27 = some c3027) (h66f : Has E 66 S3066) (h33 : E.pure 46 = some F33) (h34 : E.pure 47 = some F34) (h36 : E.pure 49 = some F36) (h35 : Has E 48 S35w) (h66 : E.pure 70 = some F66) (h69 : Has E 69 S3069) : S3027 (autoF E 27) := by
  obtain ⟨F, hp, hF⟩ := h66f
  intro l hl hok
  have hF1 := hF l hl
  rw [hok] at hF1
  have hlen : (rowsSV l).length = l.length := by simp [rowsSV]
  obtain ⟨bx', he⟩ := loop3027 E (evF E (l.length + 11)) (l.length + 11) (by omega) h33 h34 h35 h66 h69 (rowsSV l) (by rw [hlen]; exact hl.1) (.live [.sv (.str []), .sv (.int .i64 0), .sv (.bool false), .sv (.int .i64 0), .sv (.int .u64 0), .sv (.flt .f64 0), .sv (.str []), .sv .nilS]) l [] [] 0 [] (l.length + 11) rfl rfl rfl (List.all_eq_true.1 hok) (by omega)
  refine autoA_sv (n := l.length + 11) ?_ rfl
  unfold evPA
  simp only [h]
  rw [List.nil_append] at he
  unfold wlTree
  simp only [st3027, accA, Int.ofNat_zero, Int.natCast_zero] at he
  generalize rowsSV l = R at *
  generalize l.map wlNode = ks at he ⊢
  cases ks with
  | nil => simp only [accA] at he; simp [c3027, hp, hF1, he, h36, F36, nodeV]
  | cons y ys => simp only [accA] at he; simp [c3027, hp, hF1, he, h36, F36, nodeV]

end Go.Ev

set_option linter.unusedSimpArgs false
set_option linter.unusedVariables false
namespace Go.Ev
open Go.Proofs

def S125d (F : List SV → Option AV) : Prop := ∀ n : Nat, n < 18446744073709551616 → F [.str (decS n), .int .i64 10, .int .i64 64] = some (.sv (.tup [.int .u64 (n : Int), .nilI]))

set_option maxRecDepth 100000 in
set_option maxHeartbeats 4000000 in
theorem ev125d (E : Env) (h : E.code 190 = some c125) : S125d (autoF E 190) := by
  have hsh : IntKind.u64.wrap (IntKind.u64.wrap (2 ^ min 64 IntKind.u64.bits) - 1) = 18446744073709551615 := by decide
  have hsh0 : IntKind.u64.wrap 64 = 64 := by decide
  intro n hn
  obtain ⟨g1, g2, g3⟩ := decS_dig n
  have hlen := decS_len20 hn
  have hl := loop125b E (evF E ((decS n).length + 1)) false (decS n) (decS n) (by omega) ((decS n).length + 1) (decS n) [] 0 ((decS n).length + 1) rfl g2 (by rw [g1]; exact hn) (by omega)
  rw [g1] at hl
  refine autoF_sv (n := (decS n).length + 1) ?_ rfl
  unfold evP
  simp only [h]
  generalize decS n = s at *
  simp only [List.replicate, List.cons_append, List.nil_append, List.length_nil, Int.ofNat_zero, Int.natCast_zero] at hl
  simp [c125, List.replicate, g3, hsh, hsh0, bytesSV_length, hl]

def S154d (F : List SV → Option AV) : Prop := ∀ n : Nat, n < 4611686018427387904 → F [.str (decS n), .int .i64 10, .int .i64 64] = some (.sv (.tup [.int .i64 (n : Int), .nilI]))

theorem ev154d (E : Env) (h : E.code 219 = some c154) (h125 : Has E 190 S125d) : S154d (autoF E 219) := by
  obtain ⟨F, hp, hF⟩ := h125
  intro n hn
  have hF1 := hF n (by omega)
  obtain ⟨_, g2, g3⟩ := decS_dig n
  have hsh : IntKind.u64.wrap (2 ^ min 63 IntKind.u64.bits) = 9223372036854775808 := by decide
  have hw63 : IntKind.i64.wrap 63 = 63 := by decide
  have hw63u : IntKind.u64.wrap 63 = 63 := by decide
  have q1 : ¬ (9223372036854775808 : Int) ≤ (n : Int) := by omega
  have w1 : IntKind.i64.wrap (n : Int) = (n : Int) := by rw [IntKind.wrap_i64]; omega
  refine autoF_sv (n := 1) ?_ rfl
  unfold evP
  simp only [h]
  generalize decS n = s at *
  cases s with
  | nil => exact absurd rfl g3
  | cons c t =>
    have hc := digC_iff.1 (g2 c (by simp))
    have e1 : ((c.toNat : Int) == 43) = false := by rw [Bool.eq_false_iff]; simp; omega
    have e2 : ((c.toNat : Int) == 45) = false := by rw [Bool.eq_false_iff]; simp; omega
    have b3 : (0 : Int) < (t.length : Int) + 1 := by omega
    have b4 : (0 : Int) ≤ (t.length : Int) + 1 := by omega
    simp [c154, List.replicate, hp, hF1, e1, e2, b3, b4, hsh, hw63, hw63u, q1, w1]

def S1158 (F : List SV → Option AV) : Prop := S154d F

def zB (c : UInt8) : Bool := decide (c.toNat = 32) || decide (c.toNat = 9) || decide (c.toNat = 10) || decide (c.toNat = 12) || decide (c.toNat = 13)

def S1167 (F : List SV → Option AV) : Prop := ∀ c : UInt8, F [.int .u8 (c.toNat : Int)] = some (.sv (.bool (zB c)))

/-- A text whose runs of blanks are single blanks; `p`: a blank is before it. -/
def spG : Bool → List UInt8 → List UInt8
  | _, [] => []
  | p, c :: t => if zB c = true then (if p then spG true t else 32 :: spG true t) else c :: spG false t

theorem spG_len : ∀ (s : List UInt8) (p : Bool), (spG p s).length ≤ s.length
  | [], p => by simp [spG]
  | c :: t, p => by
    have h1 := spG_len t true; have h2 := spG_len t false
    simp only [spG]
    split
    · split
      · simp; omega
      · simp; omega
    · simp; omega

def S1156 (F : List SV → Option AV) : Prop := ∀ s : List UInt8, s.length < 1000000000 → F [.str s] = some (.sv (.str (spG false s)))

def st1156 (s out : List UInt8) (i : Nat) : SA := { nt := 36, tm := [(4, .sv (.int .i64 i)), (3, .sv (.str out)), (0, .sv (.str s))], lz := none, bx := [], df := [] }

def S1166g (F : List SV → Option AV) : Prop := ∀ s w : List UInt8, s.length < 1000000000 → w.length < 1000000000 →
  ((∀ i, (s.drop i).take w.length ≠ w) → F [.str s, .str w] = some (.sv (.int .i64 (-1)))) ∧ (w.length ≤ s.length → s.take w.length = w → F [.str s, .str w] = some (.sv (.int .i64 0)))

def st1166 (s w : List UInt8) (i : Nat) : SA := { nt := 25, tm := [(5, .sv (.int .i64 i)), (1, .sv (.str w)), (0, .sv (.str s))], lz := none, bx := [], df := [] }

set_option maxHeartbeats 4000000 in
theorem step1166 (E : Env) (cf : CallF) (m : Nat) (s w : List UInt8) (hs : s.length < 1000000000) (hwl : w.length < 1000000000) (i : Nat) (hi : i + w.length ≤ s.length) :
    evCA E cf m b1166_0 (st1166 s w i) = if (s.drop i).take w.length = w then some (.ret, { nt := 25, tm := [(4, .sv (.int .i64 i))], lz := none, bx := [], df := [] }) else some (.normal, st1166 s w (i + 1)) := by
  have hw : IntKind.i64.wrap ((i : Int) + 1) = ((i + 1 : Nat) : Int) := by rw [IntKind.wrap_i64]; omega
  have hw2 : IntKind.i64.wrap ((i : Int) + (w.length : Int)) = ((i + w.length : Nat) : Int) := by rw [IntKind.wrap_i64]; omega
  have ht : (s.take (i + w.length)).drop i = (s.drop i).take w.length := by
    rw [List.drop_take, show i + w.length - i = w.length from by omega]
  have hle : (i : Int) ≤ (i : Int) + (w.length : Int) := by omega
  generalize hj : ((i + w.length : Nat) : Int) = j at *
  have hj0 : 0 ≤ j := by omega
  have hjt : j.toNat = i + w.length := by omega
  have hjl : j ≤ (s.length : Int) := by omega
  by_cases hc : (s.drop i).take w.length = w
  · rw [if_pos hc]
    rw [hc] at ht
    simp [st1166, b1166_0, hw2, hj0, hjt, hjl, hle, ht]
  · rw [if_neg hc]
    generalize (s.drop i).take w.length = v at *
    have hb : (v == w) = false := by simpa using hc
    simp [st1166, b1166_0, hw2, hj0, hjt, hjl, hle, ht, hc, hb, hw]

theorem out1166 (E : Env) (cf : CallF) (m : Nat) (s w : List UInt8) (hs : s.length < 1000000000) (hwl : w.length < 1000000000) (i : Nat) (hil : i ≤ s.length + 1) (hi : ¬ (i + w.length ≤ s.length)) :
    evCA E cf m b1166_0 (st1166 s w i) = some (.exit 0, { nt := 25, tm := [], lz := none, bx := [], df := [] }) := by
  have hw2 : IntKind.i64.wrap ((i : Int) + (w.length : Int)) = ((i + w.length : Nat) : Int) := by rw [IntKind.wrap_i64]; omega
  have hn : ¬ (((i + w.length : Nat) : Int) ≤ (s.length : Int)) := by omega
  generalize ((i + w.length : Nat) : Int) = j at *
  simp [st1166, b1166_0, hw2, hn]

theorem loop1166g (E : Env) (cf : CallF) (m : Nat) (s w : List UInt8) (hs : s.length < 1000000000) (hwl : w.length < 1000000000) (hno : ∀ i, (s.drop i).take w.length ≠ w) :
    ∀ (d i k : Nat), s.length + 1 - i ≤ d → i ≤ s.length + 1 → d < k → roundsA (evCA E cf m b1166_0) k (st1166 s w i) = some (.exit 0, { nt := 25, tm := [], lz := none, bx := [], df := [] }) := by
  intro d
  induction d with
  | zero =>
    intro i k hd hi hk
    obtain ⟨k, rfl⟩ : ∃ k', k = k' + 1 := ⟨k - 1, by omega⟩
    exact roundsA_out (out1166 E cf m s w hs hwl i hi (by omega)) (by simp)
  | succ d ih =>
    intro i k hd hi hk
    obtain ⟨k, rfl⟩ : ∃ k', k = k' + 1 := ⟨k - 1, by omega⟩
    by_cases h : i + w.length ≤ s.length
    · have hst := step1166 E cf m s w hs hwl i h
      rw [if_neg (hno i)] at hst
      rw [roundsA_step hst]
      exact ih (i + 1) k (by omega) (by omega) (by omega)
    · exact roundsA_out (out1166 E cf m s w hs hwl i hi h) (by simp)

theorem ev1166g (E : Env) (h : E.code 207 = some c1166) : S1166g (autoF E 207) := by
  intro s w hs hwl
  refine ⟨fun hno => ?_, fun hle hc => ?_⟩
  · have hl := loop1166g E (evF E (s.length + 2)) (s.length + 2) s w hs hwl hno (s.length + 1) 0 (s.length + 2) (by omega) (by omega) (by omega)
    refine autoA_sv (n := s.length + 2) ?_ rfl
    unfold evPA
    simp only [h]
    simp only [st1166, Int.ofNat_zero, Int.natCast_zero] at hl
    simp [c1166, hl]
  · have hst := step1166 E (evF E 1) 1 s w hs hwl 0 (by omega)
    rw [List.drop_zero, if_pos hc] at hst
    have hl : roundsA (evCA E (evF E 1) 1 b1166_0) (0 + 1) (st1166 s w 0) = _ := roundsA_out hst (by simp)
    refine autoA_sv (n := 1) ?_ rfl
    unfold evPA
    simp only [h]
    simp only [st1166, Int.ofNat_zero, Int.natCast_zero] at hl
    simp [c1166, hl]

def S1166b (F : List SV → Option AV) : Prop := S1166 F ∧ S1166g F

theorem ev1166b (E : Env) (h : E.code 207 = some c1166) : S1166b (autoF E 207) := ⟨ev1166 E h, ev1166g E h⟩

theorem has_fst {E : Env} {f : Nat} (h : Has E f S1166b) : Has E f S1166 := by
  obtain ⟨F, h1, h2, _⟩ := h
  exact ⟨F, h1, h2⟩

theorem ev1157b (E : Env) (h : E.code 192 = some c1157) (h66 : Has E 207 S1166b) : S1157 (autoF E 192) := ev1157 E h (has_fst h66)

def S1155 (F : List SV → Option AV) : Prop := ∀ s w : List UInt8, s.length < 1000000000 → w.length < 1000000000 →
  ((∀ i, (s.drop i).take w.length ≠ w) → F [.str s, .str w] = some (.sv (.bool false))) ∧ (w.length ≤ s.length → s.take w.length = w → F [.str s, .str w] = some (.sv (.bool true)))

end Go.Ev

set_option linter.unusedSimpArgs false
set_option linter.unusedVariables false
namespace Go.Ev
open Go.Proofs

def st3144 (n : Nat) (s t : List UInt8) (acc : List SV) (js : List Box) : SA := { nt := 178, tm := [(6, .sv (.int .i64 n)), (5, .ptr 0 0), (4, accA 93 acc)], lz := none, bx := scanBox s t :: js, df := [] }

set_option maxHeartbeats 4000000 in
theorem head3144 (E : Env) (cf : CallF) (m : Nat) (hp88 : E.pure 117 = none) (n : Nat) (hn : n < 2) (s t line rest : List UInt8) (acc : List SV) (js : List Box)
    (hsc : cf 117 [.ptr 0 0] (scanBox s t :: js) = some (.sv (.bool true), scanBox rest line :: js)) :
    evCA E cf m b3144_0 (st3144 n s t acc js) = some (.normal, st3144 (n + 1) rest line acc js) := by
  have hw : IntKind.i64.wrap ((n : Int) + 1) = ((n + 1 : Nat) : Int) := by rw [IntKind.wrap_i64]; omega
  have h2 : (n : Int) < 2 := by omega
  cases acc with
  | nil => simp [st3144, b3144_0, hp88, hsc, h2, hw, accA]
  | cons y ys => simp [st3144, b3144_0, hp88, hsc, h2, hw, accA]

set_option maxRecDepth 100000 in
set_option maxHeartbeats 40000000 in
theorem core3144 (E : Env) (cf : CallF) (m : Nat) (hp88 : E.pure 117 = none) (hp90 : E.pure 119 = none) (FS FT FX FP : List SV → Option AV) (h57 : E.pure 192 = some FS) (h93 : E.pure 193 = some FT) (h43x : E.pure 195 = some FX) (h91 : E.pure 120 = some FP) (h127 : E.pure 152 = some F127) (h143 : E.pure 194 = some F143s)
    (n : Nat) (hn : 2 ≤ n) (hnl : n < 1000000) (s t line rest : List UInt8) (acc : List SV) (ha : acc.length < 1000000) (js : List Box)
    (hsc : cf 117 [.ptr 0 0] (scanBox s t :: js) = some (.sv (.bool true), scanBox rest line :: js))
    (htx : cf 119 [.ptr 0 0] (scanBox rest line :: js) = some (.sv (.str line), scanBox rest line :: js))
    (pre suf nm g1 x1 x2 x3 w1 w2 w3 w4 w5 w6 w7 w8 w9 : List UInt8) (n0 v1 v2 v3 v4 v5 v6 v7 v8 v9 : Int)
    (eS : FS [.str line, .str [58]] = some (.sv (.sl [.str pre, .str suf])))
    (eT : FT [.str pre] = some (.sv (.str nm)))
    (eF : F127 [.str suf] = some (.sv (.sl [.str g1, .str x1, .str x2, .str x3, .str w4, .str w5, .str w6, .str w7, .str w8, .str w9])))
    (eP : FP [.str g1, .int .i64 16, .int .i64 16] = some (.sv (.tup [.int .u64 n0, .nilI])))
    (eX1 : FX [.str x1, .str [46]] = some (.sv (.str w1))) (eX2 : FX [.str x2, .str [46]] = some (.sv (.str w2))) (eX3 : FX [.str x3, .str [46]] = some (.sv (.str w3)))
    (e1 : F143s [.str w1] = some (.sv (.tup [.int .i64 v1, .nilI]))) (e2 : F143s [.str w2] = some (.sv (.tup [.int .i64 v2, .nilI]))) (e3 : F143s [.str w3] = some (.sv (.tup [.int .i64 v3, .nilI])))
    (e4 : F143s [.str w4] = some (.sv (.tup [.int .i64 v4, .nilI]))) (e5 : F143s [.str w5] = some (.sv (.tup [.int .i64 v5, .nilI]))) (e6 : F143s [.str w6] = some (.sv (.tup [.int .i64 v6, .nilI])))
    (e7 : F143s [.str w7] = some (.sv (.tup [.int .i64 v7, .nilI]))) (e8 : F143s [.str w8] = some (.sv (.tup [.int .i64 v8, .nilI]))) (e9 : F143s [.str w9] = some (.sv (.tup [.int .i64 v9, .nilI]))) :
    ∃ js', evCA E cf m b3144_0 (st3144 n s t acc js) = some (.normal, st3144 (n + 1) rest line (acc ++ [.ref [.str nm, .int .u64 n0, .int .i64 v1, .int .i64 v2, .int .i64 v3, .int .i64 v4, .int .i64 v5, .int .i64 v6, .int .i64 v7, .int .i64 v8, .int .i64 v9]]) js') := by
  have hw : IntKind.i64.wrap ((n : Int) + 1) = ((n + 1 : Nat) : Int) := by rw [IntKind.wrap_i64]; omega
  have h2 : ¬ (n : Int) < 2 := by omega
  have hl1 : (acc.length + 1) * 8 ≤ 140737488355328 := by omega
  have hl2 : acc.length + 1 ≤ 140737488355328 := by omega
  refine ⟨js ++ [.frz [.str nm, .int .u64 n0, .int .i64 v1, .int .i64 v2, .int .i64 v3, .int .i64 v4, .int .i64 v5, .int .i64 v6, .int .i64 v7, .int .i64 v8, .int .i64 v9]], ?_⟩
  cases acc with
  | nil => simp (maxSteps := 5000000) [st3144, b3144_0, hp88, hp90, hsc, htx, h2, hw, accA, h57, eS, h93, eT, h127, eF, h91, eP, h43x, eX1, eX2, eX3, h143, e1, e2, e3, e4, e5, e6, e7, e8, e9, snoc_setw]
  | cons y ys =>
    simp only [List.length_cons] at hl1 hl2
    simp (maxSteps := 5000000) [st3144, b3144_0, hp88, hp90, hsc, htx, h2, hw, accA, h57, eS, h93, eT, h127, eF, h91, eP, h43x, eX1, eX2, eX3, h143, e1, e2, e3, e4, e5, e6, e7, e8, e9, snoc_setw, hl1, hl2]

structure WlH (E : Env) : Prop where
  h57 : Has E 192 S1157
  h93 : Has E 193 S3193
  h43x : Has E 195 S2243w
  h91 : Has E 120 S91v
  h127 : E.pure 152 = some F127
  h143 : E.pure 194 = some F143s
  h88 : E.code 117 = some c88
  h90 : E.code 119 = some c90
  hp88 : E.pure 117 = none
  hp90 : E.pure 119 = none

theorem wlFld_lt (i : Nat) {n : Nat} (h : 3 ≤ i) : wlFld i n = sdecS (i64 n) := by unfold wlFld; rw [if_neg (by omega)]

theorem line3144 (E : Env) (H : WlH E) (N m n : Nat) (hn : 2 ≤ n) (hnl : n < 1000000) (s t line rest : List UInt8) (r : RowD) (hv : wlLineV (fieldsL line) = some r) (ho : wlOk r = true) (hll : line.length ≤ 40000) (hpl : ∀ c ∈ line, plainC c = true ∧ c.toNat ≠ 10) (acc : List SV) (ha : acc.length < 1000000) (js : List Box)
    (hsc : evF E (N + 1) 117 [.ptr 0 0] (scanBox s t :: js) = some (.sv (.bool true), scanBox rest line :: js)) :
    ∃ js', evCA E (evF E (N + 1)) m b3144_0 (st3144 n s t acc js) = some (.normal, st3144 (n + 1) rest line (acc ++ [.ref (wlCells1 r)]) js') := by
  obtain ⟨⟨FS, h57, sS⟩, ⟨FT, h93, sT⟩, ⟨FX, h43x, sX⟩, ⟨FP, h91, sP, _⟩, h127, h143, h88, h90, hp88, hp90⟩ := H
  obtain ⟨n0, n1, n2, n3, n4, n5, n6, n7, n8, n9, hu⟩ := wlOk_spec ho
  obtain ⟨g0, g1, q, ns, hf, hns, he, hx, h4, hr, hnb⟩ := wlLine_spec hv
  have hN := hu.hN
  rw [hr] at hN
  simp only [List.cons.injEq] at hN
  obtain ⟨rfl, rfl⟩ := hN
  have hnm : r.name = g0.take (g0.length - 1) := by rw [hr]
  have hg0 : g0 = r.name ++ [58] := by rw [hnm]; exact endsB_cut he
  obtain ⟨i1, i2, i3⟩ := ifName_spec hu.hn
  obtain ⟨_, _, _, g4, g5⟩ := hexV_spec hx
  rw [hg0] at hf
  obtain ⟨B, suf, l1, l2, l3, l4⟩ := line_parts hf i3 (fun w hw c hc => by
    rcases List.mem_cons.1 hw with rfl | hw
    · exact hexd_col (g5 c hc)
    · exact wlFlds_col _ 0 w hw c hc)
  have htx := evF90 E h90 N 0 (scanBox rest line :: js) rest line rfl
  have hBl : (B ++ r.name).length + suf.length + 1 = line.length := by rw [l1]; simp; omega
  have eS := sS 58 line (by omega)
  rw [show (58 : UInt8).toNat = 58 from rfl, l4] at eS
  simp only [strs, List.map_cons, List.map_nil] at eS
  have eT := sT B r.name (by omega) l2 i1 (fun c hc => (i3 c hc).1)
  have hsp : ∀ c ∈ suf, plainC c = true ∧ c.toNat ≠ 10 := fun c hc => hpl c (by rw [l1]; simp [hc])
  have eF := F127_eq suf (by omega) (fun c hc => (plain_lt (hsp c hc).1).1)
  rw [words_fields hsp, l3] at eF
  have hg1 : g1.length = 4 := h4
  have eP := sP g1 (by omega) (by intro h; rw [h] at hg1; cases hg1) g5 16 65535 (.inr (.inl ⟨rfl, rfl⟩)) (by rw [← g4]; have := hu.h0; omega)
  rw [← g4] at eP
  have fld : ∀ n, FX [.str (sdecS (i64 n) ++ [46]), .str [46]] = some (.sv (.str (sdecS (i64 n)))) := fun n => by
    obtain ⟨r1, r2⟩ := i64_range n
    have hl := sdecS_len r1 r2
    have := sX (sdecS (i64 n) ++ [46]) (by simp; omega) (endsB_snoc 46 _)
    rw [take_snoc] at this
    exact this
  have ato : ∀ n, F143s [.str (sdecS (i64 n))] = some (.sv (.tup [.int .i64 (i64 n), .nilI])) := fun n => by
    obtain ⟨r1, r2⟩ := i64_range n
    have hl := sdecS_len r1 r2
    exact F143s_eq (atoiV_sdec r1 r2) (by omega)
  have hcl : wlCells1 r = [.str r.name, .int .u64 ((q : Nat) : Int), .int .i64 (i64 n1), .int .i64 (i64 n2), .int .i64 (i64 n3), .int .i64 (i64 n4), .int .i64 (i64 n5), .int .i64 (i64 n6), .int .i64 (i64 n7), .int .i64 (i64 n8), .int .i64 (i64 n9)] := by
    unfold wlCells1
    rw [hu.hN]
    rfl
  rw [hcl]
  exact core3144 E (evF E (N + 1)) m hp88 hp90 FS FT FX FP h57 h93 h43x h91 h127 h143 n hn hnl s t line rest acc ha js hsc htx (B ++ r.name) suf r.name g1 (sdecS (i64 n1) ++ [46]) (sdecS (i64 n2) ++ [46]) (sdecS (i64 n3) ++ [46]) (sdecS (i64 n1)) (sdecS (i64 n2)) (sdecS (i64 n3)) (sdecS (i64 n4)) (sdecS (i64 n5)) (sdecS (i64 n6)) (sdecS (i64 n7)) (sdecS (i64 n8)) (sdecS (i64 n9)) (q : Int) _ _ _ _ _ _ _ _ _ eS eT eF eP (fld n1) (fld n2) (fld n3) (ato n1) (ato n2) (ato n3) (ato n4) (ato n5) (ato n6) (ato n7) (ato n8) (ato n9)

set_option maxHeartbeats 4000000 in
theorem loop3144 (E : Env) (N m : Nat) (H : WlH E) :
    ∀ (rs : List RowD) (s t : List UInt8) (acc : List SV) (js : List Box) (n k : Nat), wlTabV (lineG [] s) = some rs → (∀ c ∈ s, plainC c = true) → (∀ r ∈ rs, wlOk r = true) → s.length ≤ 40000 → s.length < N → acc.length + rs.length < 100000 → 2 ≤ n → n + rs.length < 1000000 → rs.length < k →
      ∃ js', roundsA (evCA E (evF E (N + 1)) m b3144_0) k (st3144 n s t acc js) =
        some (.exit 0, { nt := 178, tm := [(5, .ptr 0 0), (4, accA 93 (acc ++ wlVals rs))], lz := none, bx := scanBox [] [] :: js', df := [] }) := by
  have H' := H
  obtain ⟨_, _, _, _, _, _, h88, h90, hp88, hp90⟩ := H'
  intro rs
  induction rs with
  | nil =>
    intro s t acc js n k hn hpl _ hl hN ha h2 hnl hk
    obtain ⟨k, rfl⟩ : ∃ k', k = k' + 1 := ⟨k - 1, by omega⟩
    rcases wlTab_cons hn with ⟨rfl, _⟩ | ⟨line, rest, r, rs', _, _, _, e, _⟩
    · have hs := scan88e E h88 0 (scanBox [] t :: js) t rfl N
      simp only [List.set_cons_zero] at hs
      refine ⟨js, roundsA_out ?_ (by simp)⟩
      cases acc with
      | nil => simp [b3144_0, st3144, hp88, hs, wlVals, accA]
      | cons y ys => simp [b3144_0, st3144, hp88, hs, wlVals, accA]
    · cases e
  | cons r rs ih =>
    intro s t acc js n k hn hpl hok hl hN ha h2 hnl hk
    obtain ⟨k, rfl⟩ : ∃ k', k = k' + 1 := ⟨k - 1, by omega⟩
    simp only [List.length_cons] at ha hnl hk
    rcases wlTab_cons hn with ⟨_, e⟩ | ⟨line, rest, r', rs', h1, h3, hv, e, hn'⟩
    · cases e
    · simp only [List.cons.injEq] at e
      obtain ⟨rfl, rfl⟩ := e
      have hll : line.length ≤ s.length ∧ rest.length ≤ s.length ∧ (∀ c ∈ line, plainC c = true) ∧ (∀ c ∈ rest, plainC c = true) := by
        rcases h3 with rfl | ⟨rfl, rfl, _⟩
        · refine ⟨by simp, by simp; omega, fun c hc => hpl c (by simp [hc]), fun c hc => hpl c (by simp [hc])⟩
        · exact ⟨by omega, by simp, hpl, by simp⟩
      obtain ⟨l1, l2, l3, l4⟩ := hll
      have hsc := scanGw E h88 s t line rest h1 h3 (by omega) (fun c hc => (plain_lt (hpl c hc)).2) js N hN
      obtain ⟨js1, hst⟩ := line3144 E H N m n h2 (by omega) s t line rest r hv (hok r (by simp)) (by omega) (fun c hc => ⟨l3 c hc, h1 c hc⟩) acc (by omega) js hsc
      obtain ⟨js', he⟩ := ih rest line (acc ++ [.ref (wlCells1 r)]) js1 (n + 1) k hn' l4 (fun q hq => hok q (by simp [hq])) (by omega) (by omega) (by simp; omega) (by omega) (by omega) (by omega)
      refine ⟨js', ?_⟩
      rw [roundsA_step hst, he]
      simp [wlVals]

def S3144 (F : List SV → Option AV) : Prop := ∀ (s : List UInt8) (rs : List RowD), wlRead s = some rs → s.length ≤ 40000 → F [.str s] = some (.sv (.tup [.sl (wlVals rs), .nilI]))

set_option maxRecDepth 100000 in
set_option maxHeartbeats 4000000 in
theorem ev3144 (E : Env) (h : E.code 144 = some c3144) (H : WlH E) (h87 : E.code 116 = some c87) (h128 : E.code 159 = some c128) (hp87 : E.pure 116 = none) (hp128 : E.pure 159 = none) : S3144 (autoF E 144) := by
  have H' := H
  obtain ⟨_, _, _, _, _, _, h88, h90, hp88, hp90⟩ := H'
  intro s rs hr hs
  obtain ⟨rest, g1, g2, g3, g4⟩ := wlRead_spec hr
  have hrl : rest.length ≤ 40000 ∧ rest.length < s.length ∧ (wlHeadL2 ++ 10 :: rest).length < s.length := by rw [g1] at hs ⊢; simp at hs ⊢; omega
  obtain ⟨f1, f2⟩ := wlRows_fit g3 hrl.1
  have hlen := wlTabV_len g3
  obtain ⟨_, k1, _⟩ := linesV_shape rest
  rw [linesL_eq] at g3
  have hpr : ∀ c ∈ rest, plainC c = true := fun c hc => g2 c (by rw [g1]; simp [hc])
  have hpr2 : ∀ c ∈ wlHeadL2 ++ 10 :: rest, plainC c = true := fun c hc => g2 c (by rw [g1]; simp only [List.mem_append, List.mem_cons] at hc ⊢; rcases hc with hc | hc | hc <;> simp [hc])
  have e87 := evF87 E h87 (s.length + 3) [] s
  have n1 : ∀ c ∈ wlHeadL1, c.toNat ≠ 10 := by decide
  have n2 : ∀ c ∈ wlHeadL2, c.toNat ≠ 10 := by decide
  have hsc1 := scanGw E h88 s [] wlHeadL1 (wlHeadL2 ++ 10 :: rest) n1 (.inl g1) (by omega) (fun c hc => (plain_lt (g2 c hc)).2) [] (s.length + 3) (by omega)
  have hsc2 := scanGw E h88 (wlHeadL2 ++ 10 :: rest) wlHeadL1 wlHeadL2 rest n2 (.inl rfl) (by omega) (fun c hc => (plain_lt (hpr2 c hc)).2) [] (s.length + 3) (by omega)
  have hd1 := head3144 E (evF E (s.length + 4)) (s.length + 4) hp88 0 (by omega) s [] wlHeadL1 (wlHeadL2 ++ 10 :: rest) [] [] hsc1
  have hd2 := head3144 E (evF E (s.length + 4)) (s.length + 4) hp88 1 (by omega) (wlHeadL2 ++ 10 :: rest) wlHeadL1 wlHeadL2 rest [] [] hsc2
  obtain ⟨js', hl⟩ := loop3144 E (s.length + 3) (s.length + 4) H rs rest wlHeadL2 [] [] 2 (s.length + 2) g3 hpr g4 hrl.1 (by omega) (by simp; omega) (by omega) (by omega) (by omega)
  have hlp : roundsA (evCA E (evF E (s.length + 4)) (s.length + 4) b3144_0) (s.length + 4) (st3144 0 s [] [] []) = some (.exit 0, { nt := 178, tm := [(5, .ptr 0 0), (4, accA 93 (wlVals rs))], lz := none, bx := scanBox [] [] :: js', df := [] }) := by
    have hk : roundsA (evCA E (evF E (s.length + 4)) (s.length + 4) b3144_0) (s.length + 4) = roundsA (evCA E (evF E (s.length + 4)) (s.length + 4) b3144_0) (s.length + 2 + 1 + 1) := rfl
    rw [hk, roundsA_step hd1, roundsA_step hd2, hl]
    rfl
  have e128 := evF128 E h128 (s.length + 3) 0 (scanBox [] [] :: js') [] [] rfl
  clear g1 g2 g3 g4 hr hpr hpr2 H hd1 hd2 hl hsc1 hsc2
  refine autoA_sv (n := s.length + 4) ?_ rfl
  unfold evPA
  simp only [h]
  generalize wlVals rs = vs at *
  simp only [List.length_nil, List.nil_append] at e87
  simp only [st3144, accA, Int.ofNat_zero, Int.natCast_zero] at hlp
  cases vs with
  | nil =>
    simp only [accA] at hlp
    simp only [scanBox] at *
    simp [c3144, hp87, hp128, e87, hlp, e128]
  | cons y ys =>
    simp only [accA] at hlp
    simp only [scanBox] at *
    simp [c3144, hp87, hp128, e87, hlp, e128]

def S3072 (F : List SV → Option AV) : Prop := ∀ (s : List UInt8) (rs : List RowD), wlRead s = some rs → s.length ≤ 40000 → F [.agg [.str s]] = some (.sv (.tup [.sl (wlVals rs), .nilI]))

theorem ev3072 (E : Env) (h : E.code 72 = some c3072) (h85 : E.pure 114 = some F85) (h99 : E.pure 128 = some F99) (h44 : Has E 144 S3144) : S3072 (autoF E 72) := by
  obtain ⟨F, hp, hF⟩ := h44
  intro s rs hr hs
  have hF1 := hF s rs hr hs
  have e99 : F99 [.str s] = some (.sv (.tup [.sl (bytesSV s), .nilI])) := onlyIf_pos (by omega)
  have hsv := svBytes_map s
  refine autoA_sv (n := 1) ?_ rfl
  unfold evPA
  simp only [h]
  generalize wlVals rs = vs at *
  generalize bytesSV s = B at *
  simp [c3072, h85, F85, h99, e99, hsv, hp, hF1]

/-! ### The trees -/

theorem wlForm {r : RowD} (h : wlOk r = true) : ∃ (nm : List UInt8) (n0 : Nat) (v1 v2 v3 v4 v5 v6 v7 v8 v9 : Int), wlCells1 r = [.str nm, .int .u64 (n0 : Int), .int .i64 v1, .int .i64 v2, .int .i64 v3, .int .i64 v4, .int .i64 v5, .int .i64 v6, .int .i64 v7, .int .i64 v8, .int .i64 v9] ∧
    wlNode r = nodeV [] 8 false 0 0 0 [] [nodeV [78, 97, 109, 101] 5 false 0 0 0 nm [], nodeV [83, 116, 97, 116, 117, 115] 3 false 0 (n0 : Int) 0 [] [], nodeV [81, 117, 97, 108, 105, 116, 121, 76, 105, 110, 107] 2 false v1 0 0 [] [], nodeV [81, 117, 97, 108, 105, 116, 121, 76, 101, 118, 101, 108] 2 false v2 0 0 [] [], nodeV [81, 117, 97, 108, 105, 116, 121, 78, 111, 105, 115, 101] 2 false v3 0 0 [] [], nodeV [68, 105, 115, 99, 97, 114, 100, 101, 100, 78, 119, 105, 100] 2 false v4 0 0 [] [], nodeV [68, 105, 115, 99, 97, 114, 100, 101, 100, 67, 114, 121, 112, 116] 2 false v5 0 0 [] [], nodeV [68, 105, 115, 99, 97, 114, 100, 101, 100, 70, 114, 97, 103] 2 false v6 0 0 [] [], nodeV [68, 105, 115, 99, 97, 114, 100, 101, 100, 82, 101, 116, 114, 121] 2 false v7 0 0 [] [], nodeV [68, 105, 115, 99, 97, 114, 100, 101, 100, 77, 105, 115, 99] 2 false v8 0 0 [] [], nodeV [77, 105, 115, 115, 101, 100, 66, 101, 97, 99, 111, 110] 2 false v9 0 0 [] []] := by
  obtain ⟨n0, n1, n2, n3, n4, n5, n6, n7, n8, n9, hu⟩ := wlOk_spec h
  have hN := hu.hN
  refine ⟨r.name, n0, i64 n1, i64 n2, i64 n3, i64 n4, i64 n5, i64 n6, i64 n7, i64 n8, i64 n9, ?_, ?_⟩
  · unfold wlCells1; rw [hN]; rfl
  · unfold wlNode; rw [hN]; rfl

def S3077 (F : List SV → Option AV) : Prop := ∀ r : RowD, wlOk r = true → F [.str [], .agg (wlCells1 r)] = some (.sv (wlNode r))

set_option maxRecDepth 100000 in
set_option maxHeartbeats 16000000 in
theorem ev3077 (E : Env) (h : E.code 77 = some c3077) : S3077 (autoF E 77) := by
  intro r hok
  obtain ⟨nm, n0, v1, v2, v3, v4, v5, v6, v7, v8, v9, hc, hn⟩ := wlForm hok
  rw [hc, hn]
  clear hc hn hok
  refine autoA_sv (n := 1) ?_ rfl
  unfold evPA
  simp only [h]
  simp (maxSteps := 1000000) [c3077, nodeV]

theorem wlNode_agg (r : RowD) : ∃ k, wlNode r = .agg [.str [], .int .i64 8, .bool false, .int .i64 0, .int .u64 0, .flt .f64 0, .str [], .sl k] := ⟨_, rfl⟩

def S3076 (F : List SV → Option AV) : Prop := ∀ r : RowD, wlOk r = true → F [.str [], .ref (wlCells1 r), .fn 77 [] []] = some (.sv (wlNode r))

theorem ev3076 (E : Env) (h : E.code 76 = some c3076) (h77 : Has E 77 S3077) : S3076 (autoF E 76) := by
  obtain ⟨F, hp, hF⟩ := h77
  intro r hok
  have hFr := hF r hok
  obtain ⟨nm, n0, v1, v2, v3, v4, v5, v6, v7, v8, v9, hc, hn⟩ := wlForm hok
  obtain ⟨k, hk⟩ := wlNode_agg r
  rw [hk] at hFr ⊢
  rw [hc] at hFr ⊢
  clear hc hn hk
  refine autoA_sv (n := 1) ?_ rfl
  unfold evPA
  simp only [h]
  simp [c3076, hp, hFr]

def S3075 (F : List SV → Option AV) : Prop := ∀ r : RowD, wlOk r = true → F [.ref (wlCells1 r)] = some (.sv (wlNode r))

theorem ev3075 (E : Env) (h : E.code 75 = some c3075) (h76 : Has E 76 S3076) : S3075 (autoF E 75) := by
  obtain ⟨F, hp, hF⟩ := h76
  intro r hok
  have hFr := hF r hok
  obtain ⟨k, hk⟩ := wlNode_agg r
  rw [hk] at hFr ⊢
  refine autoA_sv (n := 1) ?_ rfl
  unfold evPA
  simp only [h]
  generalize wlCells1 r = cs at *
  simp [c3075, hp, hFr]

def accKw (xs : List SV) : Cell := match xs with | [] => .sv .nilS | x :: l => .own 38 (x :: l)

def st3074 (xs acc : List SV) (i : Nat) (z : Box) : SA := { nt := 28, tm := [(14, .sv (.int .i64 i)), (13, .sv (.int .i64 xs.length)), (12, .sv (.sl xs)), (7, .ptr 1 0), (6, .ptr 0 0), (2, .sv (.fn 75 [] []))], lz := none, bx := [z, .live [.sv (.str []), .sv (.int .i64 6), .sv (.bool false), .sv (.int .i64 0), .sv (.int .u64 0), .sv (.flt .f64 0), .sv (.str []), accKw acc]], df := [] }

set_option maxHeartbeats 4000000 in
theorem step3074 (E : Env) (cf : CallF) (m : Nat) (G : List SV → Option AV) (hG : E.pure 75 = some G) (xs acc : List SV) (ha : acc.length < 1000000000) (i : Nat) (hlt : i < xs.length) (hxl : xs.length < 100000000) (x : SV) (cs : List SV) (hx : x = .ref cs) (hc : ∀ h : i < xs.length, xs[i]'h = x) (v : SV) (kk : List SV) (hv : v = .agg [.str [], .int .i64 8, .bool false, .int .i64 0, .int .u64 0, .flt .f64 0, .str [], .sl kk]) (hgx : G [x] = some (.sv v)) (z : Box) :
    evCA E cf m b3074_0 (st3074 xs acc i z) = some (.normal, st3074 xs (acc ++ [v]) (i + 1) z) := by
  subst hx; subst hv
  have hw : IntKind.i64.wrap ((i : Int) + 1) = ((i + 1 : Nat) : Int) := by rw [IntKind.wrap_i64]; omega
  have hl1 : (acc.length + 1) * 96 ≤ 140737488355328 := by omega
  have hl2 : acc.length + 1 ≤ 140737488355328 := by omega
  cases acc with
  | nil => simp [st3074, b3074_0, hlt, hc, hG, hgx, hw, accKw]
  | cons y ys =>
    simp only [List.length_cons] at hl1 hl2
    simp [st3074, b3074_0, hlt, hc, hG, hgx, hw, accKw, hl1, hl2]

theorem loop3074 (E : Env) (cf : CallF) (m : Nat) (h75 : Has E 75 S3075) (xs : List SV) (hxl : xs.length < 100000000) (z : Box) :
    ∀ (rest : List RowD) (pre acc : List SV) (i : Nat) (k : Nat), xs = pre ++ wlVals rest → i = pre.length → acc.length = i → (∀ r ∈ rest, wlOk r = true) → rest.length < k →
      roundsA (evCA E cf m b3074_0) k (st3074 xs acc i z) = some (.exit 0, { nt := 28, tm := [(7, .ptr 1 0), (6, .ptr 0 0)], lz := none, bx := [z, .live [.sv (.str []), .sv (.int .i64 6), .sv (.bool false), .sv (.int .i64 0), .sv (.int .u64 0), .sv (.flt .f64 0), .sv (.str []), accKw (acc ++ rest.map wlNode)]], df := [] }) := by
  obtain ⟨G, hG, hg⟩ := h75
  intro rest
  induction rest with
  | nil =>
    intro pre acc i k hsp hi ha _ hk
    obtain ⟨k, rfl⟩ : ∃ k', k = k' + 1 := ⟨k - 1, by omega⟩
    have hlt : ¬ (i < xs.length) := by rw [hsp, hi]; simp [wlVals]
    refine roundsA_out ?_ (by simp)
    simp [st3074, b3074_0, hlt]
  | cons r rest ih =>
    intro pre acc i k hsp hi ha hr hk
    obtain ⟨k, rfl⟩ : ∃ k', k = k' + 1 := ⟨k - 1, by omega⟩
    have hlt : i < xs.length := by rw [hsp, hi]; simp [wlVals]
    obtain ⟨kk, hkk⟩ := wlNode_agg r
    have hc : ∀ h : i < xs.length, xs[i]'h = .ref (wlCells1 r) := by subst hi; subst hsp; simp [wlVals]
    rw [roundsA_step (step3074 E cf m G hG xs acc (by omega) i hlt hxl _ (wlCells1 r) rfl hc _ kk hkk (hg r (hr r (by simp))) z)]
    rw [ih (pre ++ [.ref (wlCells1 r)]) (acc ++ [wlNode r]) (i + 1) k (by rw [hsp]; simp [wlVals]) (by simp [hi]) (by simp [ha]) (fun q hq => hr q (by simp [hq])) (by simp at hk; omega)]
    simp

def S3074 (F : List SV → Option AV) : Prop := ∀ rs : List RowD, rs.length < 100000000 → (∀ r ∈ rs, wlOk r = true) → F [.str [], .sl (wlVals rs), .fn 75 [] []] = some (.sv (wlTree rs))

theorem ev3074 (E : Env) (h : E.code 74 = some c3074) (h75 : Has E 75 S3075) : S3074 (autoF E 74) := by
  intro rs hl hr
  have he := loop3074 E (evF E (rs.length + 1)) (rs.length + 1) h75 (wlVals rs) (by simpa [wlVals] using hl) (.live [.sv (.str []), .sv (.int .i64 0), .sv (.bool false), .sv (.int .i64 0), .sv (.int .u64 0), .sv (.flt .f64 0), .sv (.str []), .sv .nilS]) rs [] [] 0 (rs.length + 1) rfl rfl rfl hr (by omega)
  refine autoA_sv (n := rs.length + 1) ?_ rfl
  unfold evPA
  simp only [h]
  rw [List.nil_append] at he
  simp only [st3074, accKw, Int.ofNat_zero, Int.natCast_zero] at he
  unfold wlTree
  generalize rs.map wlNode = ks at he ⊢
  generalize wlVals rs = xs at he ⊢
  cases ks with
  | nil => simp only [accKw] at he; simp [c3074, he, nodeV]
  | cons y ys => simp only [accKw] at he; simp [c3074, he, nodeV]

def S3073 (F : List SV → Option AV) : Prop := ∀ rs : List RowD, rs.length < 100000000 → (∀ r ∈ rs, wlOk r = true) → F [.sl (wlVals rs)] = some (.sv (wlTree rs))

theorem ev3073 (E : Env) (h : E.code 73 = some c3073) (h74 : Has E 74 S3074) : S3073 (autoF E 73) := by
  obtain ⟨F, hp, hF⟩ := h74
  intro rs hl hr
  have hF1 := hF rs hl hr
  refine autoA_sv (n := 1) ?_ rfl
  unfold evPA
  simp only [h]
  unfold wlTree at *
  unfold nodeV at *
  generalize rs.map wlNode = ks at *
  generalize wlVals rs = vs at *
  simp [c3073, hp, hF1]

def S3071 (F : List SV → Option AV) : Prop := ∀ (s : List UInt8) (rs : List RowD), wlRead s = some rs → wlAll rs = true → rowsFit3 rs → s.length ≤ 40000 → F [.fn 72 [.agg [.str s]] [], .fn 73 [] []] = some (.sv (.tup [wlTree rs, .int .i64 0]))

theorem ev3071 (E : Env) (h : E.code 71 = some c3071) (hq : E.quiet 143 = true) (hS : Has E 72 S3072) (hC : Has E 73 S3073) : S3071 (autoF E 71) := by
  obtain ⟨F, hp, hF⟩ := hS
  obtain ⟨G, hg, hG⟩ := hC
  intro s rs hr ho hf hs
  have hF1 := hF s rs hr hs
  have hG1 := hG rs hf.1 (List.all_eq_true.1 ho)
  clear hr hF hG
  refine autoA_sv (n := 1) ?_ rfl
  unfold evPA
  simp only [h]
  unfold wlTree nodeV at *
  generalize rs.map wlNode = kids at *
  generalize wlVals rs = vs at *
  simp [c3071, hp, hF1, hg, hG1, hq]

def S3028 (F : List SV → Option AV) : Prop := SDoorG wlRd wlAll wlTree F

theorem ev3028 (E : Env) (h : E.code 28 = some c3028) (h38 : E.pure 51 = some F38) (hT : Has E 71 S3071) : S3028 (autoF E 28) := by
  obtain ⟨F, hp, hF⟩ := hT
  intro s rs hr ho hf hs
  have hF1 := hF s rs hr ho hf hs
  refine autoA_sv (n := 1) ?_ rfl
  unfold evPA
  simp only [h]
  unfold wlTree nodeV at *
  generalize rs.map wlNode = kids at *
  simp [c3028, h38, F38, hp, hF1]

/-! ### The laws -/

def S9wl (F : List SV → Option AV) : Prop := S9g 29 27 28 F
def S13wl (F : List SV → Option AV) : Prop := S9g 29 26 28 F
def S1016wl (F : List SV → Option AV) : Prop := S1016g 26 27 28 F

theorem ev9wl (E : Env) (h : E.code 15 = some c9) (hR : Has E 29 S3029) (hT : Has E 27 S3027) (hD : Has E 28 S3028) (h25 : E.pure 38 = some F25) (h26 : E.pure 39 = some F26) (h27 : E.pure 40 = some F27) : S9wl (autoF E 15) := ev9G wlLaw E h _ _ _ hR hT hD h25 h26 h27
theorem ev13wl (E : Env) (h : E.code 19 = some c13) (hR : Has E 29 S3029) (hP : Has E 26 S3026) (hD : Has E 28 S3028) (h25 : E.pure 38 = some F25) (h26 : E.pure 39 = some F26) (h27 : E.pure 40 = some F27) : S13wl (autoF E 19) := ev13G wlLaw E h _ _ _ hR hP hD h25 h26 h27
theorem ev1016wl (E : Env) (h : E.code 25 = some c1016) (hP : Has E 26 S3026) (hT : Has E 27 S3027) (hD : Has E 28 S3028) (h25 : E.pure 38 = some F25) (h26 : E.pure 39 = some F26) (h27 : E.pure 40 = some F27) : S1016wl (autoF E 25) := ev1016G wlLaw E h _ _ _ hP hT hD h25 h26 h27

theorem ev3008 (E : Env) (h : E.code 8 = some c3008) (h9 : Has E 15 S9wl) (s : List UInt8) (n : Nat) : evP E n 8 [.str s] = some (.sv (.bool true)) := by
  obtain ⟨F, hp, hF⟩ := h9
  have hF1 := hF s
  unfold evP
  simp only [h]
  by_cases hs : 2147483647 < s.length
  · have e : (2147483647 : Int) < (s.length : Int) := by omega
    simp [c3008, List.replicate, e]
  · have e : ¬ (2147483647 : Int) < (s.length : Int) := by omega
    simp [c3008, List.replicate, e, hp, hF1]

theorem ev3007 (E : Env) (h : E.code 7 = some c3007) (h13 : Has E 19 S13wl) (s : List UInt8) (n : Nat) : evP E n 7 [.str s] = some (.sv (.bool true)) := by
  obtain ⟨F, hp, hF⟩ := h13
  have hF1 := hF s
  unfold evP
  simp only [h]
  by_cases hs : 2147483647 < s.length
  · have e : (2147483647 : Int) < (s.length : Int) := by omega
    simp [c3007, List.replicate, e]
  · have e : ¬ (2147483647 : Int) < (s.length : Int) := by omega
    simp [c3007, List.replicate, e, hp, hF1]

theorem ev3006 (E : Env) (h : E.code 6 = some c3006) (h15 : E.pure 24 = some F1015) (h16 : Has E 25 S1016wl) (l : List RowD) (hn : ∀ r ∈ l, ∀ n ∈ r.N, n < 18446744073709551616) (n : Nat) : evP E n 6 [.sl (rowsSV l)] = some (.sv (.bool true)) := by
  obtain ⟨G, hp, hG⟩ := h16
  unfold evP
  simp only [h]
  have hF := F1015_eq l
  cases hz : zzRows l with
  | false => rw [hz] at hF; simp [c3006, List.replicate, h15, hF]
  | true =>
    rw [hz] at hF
    have hF2 := hG l hz hn
    simp [c3006, List.replicate, h15, hF, hp, hF2]

end Go.Ev

set_option linter.unusedSimpArgs false
set_option linter.unusedVariables false
namespace Go.Ev
open Go.Proofs
variable {P : Program} {E : Env}

theorem ev3144c (E : Env) (h : E.code 144 = some c3144) (h57 : Has E 192 S1157) (h93 : Has E 193 S3193) (h43x : Has E 195 S2243w) (h91 : Has E 120 S91v) (h127 : E.pure 152 = some F127) (h143 : E.pure 194 = some F143s) (h88 : E.code 117 = some c88) (h90 : E.code 119 = some c90) (hp88 : E.pure 117 = none) (hp90 : E.pure 119 = none) (h87 : E.code 116 = some c87) (h128 : E.code 159 = some c128) (hp87 : E.pure 116 = none) (hp128 : E.pure 159 = none) : S3144 (autoF E 144) :=
  ev3144 E h ⟨h57, h93, h43x, h91, h127, h143, h88, h90, hp88, hp90⟩ h87 h128 hp87 hp128

theorem p97h (B : Base P E) (h : E.code 126 = some c97) : PureFn P E 126 F97h := by
  refine PureFn.of_rec size97 B.m B.T B.Q B.P fun m vs r hF hs => ?_
  unfold F97h at hF
  split at hF
  · obtain ⟨⟨h0, h1, rfl⟩, hr⟩ := onlyIf_some hF
    rename_i c
    obtain ⟨k, rfl⟩ := Int.eq_ofNat_of_zero_le h0
    simp only [Option.some.injEq, Int.toNat_natCast] at hr; subst hr
    simp only [size97, Int.toNat_natCast] at hs
    subst hs
    exact ⟨1, _, ev97h E h 1 k (by omega), .inl rfl⟩
  · cases hF

/-- A law of one text. -/
theorem ptOf (B : Base P E) {f : Nat} (h : ∀ s n, evP E n f [.str s] = some (.sv (.bool true))) : PureFn P E f F8x := by
  refine PureFn.of B.m B.T B.Q B.P fun vs r hF => ?_
  unfold F8x at hF
  split at hF
  · rename_i s
    simp only [Option.some.injEq] at hF; subst hF
    exact ⟨1, _, h s 1, .inl rfl⟩
  · cases hF

/-- A law of rows. -/
theorem pbOf (B : Base P E) {f : Nat} (h : ∀ l : List RowD, (∀ r ∈ l, ∀ n ∈ r.N, n < 18446744073709551616) → ∀ n, evP E n f [.sl (rowsSV l)] = some (.sv (.bool true))) : PureFn P E f F1003 := by
  refine PureFn.of B.m B.T B.Q B.P fun vs r hF => ?_
  unfold F1003 at hF
  split at hF
  · rename_i l
    obtain ⟨⟨h1, h2⟩, hr⟩ := onlyIf_some hF
    simp only [Option.some.injEq] at hr; subst hr
    refine ⟨1, _, ?_, .inl rfl⟩
    have := h (l.map unrow) h2 1
    rw [← h1] at this
    exact this
  · cases hF

end Go.Ev
