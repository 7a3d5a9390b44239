/- Numbers of base 16, and of any base by their writing; texts split: the program's functions. -/
/- Texts split at a sign, addresses: the program's functions. -/
import Derived.Test.YtnpkdihdpgfemaaGreatDoorKA
set_option linter.unusedSimpArgs false
set_option linter.unusedVariables false
namespace Go.Ev
open Go.Proofs

/-! ### Small letters -/

def S135 (F : List SV → Option AV) : Prop := ∀ c : UInt8, 10 ≤ digitV c.toNat → digitV c.toNat < 16 → F [.int .u8 (c.toNat : Int)] = some (.sv (.int .u8 ((digitV c.toNat + 87 : Nat) : Int)))

theorem hexLetter {c : Nat} (h : 10 ≤ digitV c) (h2 : digitV c < 16) : c = 65 ∨ c = 66 ∨ c = 67 ∨ c = 68 ∨ c = 69 ∨ c = 70 ∨ c = 97 ∨ c = 98 ∨ c = 99 ∨ c = 100 ∨ c = 101 ∨ c = 102 := by
  unfold digitV at h h2
  (repeat' split at h) <;> (repeat' split at h2) <;> omega

theorem ev135 (E : Env) (h : E.code 171 = some c135) : S135 (autoF E 171) := by
  intro c h1 h2
  refine autoF_sv (n := 1) ?_ rfl
  unfold evP
  simp only [h]
  generalize c.toNat = k at h1 h2 ⊢
  rcases hexLetter h1 h2 with rfl | rfl | rfl | rfl | rfl | rfl | rfl | rfl | rfl | rfl | rfl | rfl <;> kernel_rfl

/-! ### Numbers -/

set_option maxRecDepth 100000 in
set_option maxHeartbeats 4000000 in
theorem loop125b (E : Env) (cf : CallF) (b8 : Bool) (s0 s : List UInt8) (hs : s.length < 1000000000000) (m : Nat) :
    ∀ (rest pre : List UInt8) (a k : Nat), s = pre ++ rest → (∀ c ∈ rest, digC c = true) → digN a rest < 18446744073709551616 → rest.length < k →
      rounds (evC E cf m b125_0) k { tm := [.sv .undef, .sv (.int .i64 10)] ++ List.replicate 6 (.sv .undef) ++ [.sv (.bool b8), .sv (.str s0), .sv (.int .u64 1844674407370955162), .sv (.int .u64 18446744073709551615), .sv (.bool false), .sv (.int .u64 a)] ++ List.replicate 85 (.sv .undef) ++ [.sv (.sl (bytesSV s)), .sv (.int .i64 s.length), .sv (.int .i64 pre.length)] ++ List.replicate 70 (.sv .undef), lz := none, bx := [], df := [] } =
        some (.exit 3, { tm := List.replicate 9 (.sv .undef) ++ [.sv (.str s0), .sv .undef, .sv .undef, .sv (.bool false), .sv (.int .u64 (digN a rest : Nat))] ++ List.replicate 158 (.sv .undef), lz := none, bx := [], df := [] }) := by
  intro rest
  induction rest with
  | nil =>
    intro pre a k hsp hr ha hk
    obtain ⟨k, rfl⟩ : ∃ k', k = k' + 1 := ⟨k - 1, by omega⟩
    have hlt : ¬ (pre.length < s.length) := by rw [hsp]; simp
    refine rounds_out ?_ (by simp)
    simp [b125_0, List.replicate, hlt, digN_nil]
  | cons c rest ih =>
    intro pre a k hsp hr ha hk
    obtain ⟨k, rfl⟩ : ∃ k', k = k' + 1 := ⟨k - 1, by omega⟩
    have hlt : pre.length < s.length := by rw [hsp]; simp
    have hsl := congrArg List.length hsp
    simp only [List.length_append, List.length_cons] at hsl
    have hc : ∀ h : pre.length < (bytesSV s).length, (bytesSV s)[pre.length]'h = .int .u8 (c.toNat : Int) := by subst hsp; simp [bytesSV]
    have hw2 : IntKind.i64.wrap ((pre.length : Int) + 1) = ((pre ++ [c]).length : Int) := by rw [IntKind.wrap_i64]; simp; omega
    obtain ⟨d1, d2⟩ := digC_iff.1 (hr c (by simp))
    have hs8 : IntKind.u8.wrap ((c.toNat : Int) - 48) = ((dgt c : Nat) : Int) := by rw [IntKind.wrap_u8]; unfold dgt; omega
    have hd9 : dgt c ≤ 9 := by unfold dgt; omega
    have e95 : ((c.toNat : Int) == 95) = false := by rw [Bool.eq_false_iff]; simp; omega
    have e48 : (48 : Int) ≤ (c.toNat : Int) := by omega
    have e57 : (c.toNat : Int) ≤ 57 := by omega
    rw [digN_cons] at ha ⊢
    have hge := digN_ge rest (a * 10 + dgt c)
    generalize dgt c = d at *
    have h10 : ¬ (10 : Int) ≤ (d : Int) := by omega
    have hcut : ¬ (1844674407370955162 : Int) ≤ (a : Int) := by omega
    have hw8 : IntKind.u8.wrap 10 = 10 := by rw [IntKind.wrap_u8]; omega
    have hw64 : IntKind.u64.wrap 10 = 10 := by rw [IntKind.wrap_u64]; omega
    have hw3 : IntKind.u64.wrap (d : Int) = (d : Int) := by rw [IntKind.wrap_u64]; omega
    have hw4 : IntKind.u64.wrap ((a : Int) * 10) = ((a * 10 : Nat) : Int) := by rw [IntKind.wrap_u64]; omega
    have hw5 : IntKind.u64.wrap (((a * 10 : Nat) : Int) + (d : Int)) = ((a * 10 + d : Nat) : Int) := by rw [IntKind.wrap_u64]; omega
    have q1 : ¬ (((a * 10 + d : Nat) : Int) < ((a * 10 : Nat) : Int)) := by omega
    have q2 : ¬ ((18446744073709551615 : Int) < ((a * 10 + d : Nat) : Int)) := by omega
    have he := ih (pre ++ [c]) (a * 10 + d) k (by rw [hsp]; simp) (fun x hx => hr x (by simp [hx])) ha (by simp at hk; omega)
    rw [← he]
    refine rounds_step ?_
    generalize (a * 10 + d) = a2 at *
    generalize (a * 10) = a1 at *
    simp [b125_0, List.replicate, hlt, bytesSV_length, hc, hs8, e95, e48, e57, h10, hcut, hw8, hw64, hw2, hw3, hw4, hw5, q1, q2]

set_option maxRecDepth 100000 in
set_option maxHeartbeats 4000000 in
theorem loop125h (E : Env) (cf : CallF) (h135 : Has E 171 S135) (s0 s : List UInt8) (hs : s.length < 1000000000000) (m : Nat) :
    ∀ (rest pre : List UInt8) (a k : Nat), s = pre ++ rest → (∀ c ∈ rest, digitV c.toNat < 16) → hexN a rest < 18446744073709551616 → rest.length < k →
      rounds (evC E cf m b125_0) k { tm := [.sv .undef, .sv (.int .i64 16)] ++ List.replicate 6 (.sv .undef) ++ [.sv (.bool false), .sv (.str s0), .sv (.int .u64 1152921504606846976), .sv (.int .u64 18446744073709551615), .sv (.bool false), .sv (.int .u64 a)] ++ List.replicate 85 (.sv .undef) ++ [.sv (.sl (bytesSV s)), .sv (.int .i64 s.length), .sv (.int .i64 pre.length)] ++ List.replicate 70 (.sv .undef), lz := none, bx := [], df := [] } =
        some (.exit 3, { tm := List.replicate 9 (.sv .undef) ++ [.sv (.str s0), .sv .undef, .sv .undef, .sv (.bool false), .sv (.int .u64 (hexN a rest : Nat))] ++ List.replicate 158 (.sv .undef), lz := none, bx := [], df := [] }) := by
  obtain ⟨F, hp, hF⟩ := h135
  intro rest
  induction rest with
  | nil =>
    intro pre a k hsp hr ha hk
    obtain ⟨k, rfl⟩ : ∃ k', k = k' + 1 := ⟨k - 1, by omega⟩
    have hlt : ¬ (pre.length < s.length) := by rw [hsp]; simp
    refine rounds_out ?_ (by simp)
    simp [b125_0, List.replicate, hlt, hexN_nil]
  | cons c rest ih =>
    intro pre a k hsp hr ha hk
    obtain ⟨k, rfl⟩ : ∃ k', k = k' + 1 := ⟨k - 1, by omega⟩
    have hlt : pre.length < s.length := by rw [hsp]; simp
    have hsl := congrArg List.length hsp
    simp only [List.length_append, List.length_cons] at hsl
    have hc : ∀ h : pre.length < (bytesSV s).length, (bytesSV s)[pre.length]'h = .int .u8 (c.toNat : Int) := by subst hsp; simp [bytesSV]
    have hw2 : IntKind.i64.wrap ((pre.length : Int) + 1) = ((pre ++ [c]).length : Int) := by rw [IntKind.wrap_i64]; simp; omega
    have hd16 := hr c (by simp)
    have hFc := hF c
    rw [hexN_cons] at ha ⊢
    have hge := hexN_ge rest (a * 16 + digitV c.toNat)
    have h10 : ¬ (16 : Int) ≤ (digitV c.toNat : Int) := by omega
    have hcut : ¬ (1152921504606846976 : Int) ≤ (a : Int) := by omega
    have hw8 : IntKind.u8.wrap 16 = 16 := by rw [IntKind.wrap_u8]; omega
    have hw64 : IntKind.u64.wrap 16 = 16 := by rw [IntKind.wrap_u64]; omega
    have hw3 : IntKind.u64.wrap (digitV c.toNat : Int) = (digitV c.toNat : Int) := by rw [IntKind.wrap_u64]; omega
    have hw4 : IntKind.u64.wrap ((a : Int) * 16) = ((a * 16 : Nat) : Int) := by rw [IntKind.wrap_u64]; omega
    have hw5 : IntKind.u64.wrap (((a * 16 : Nat) : Int) + (digitV c.toNat : Int)) = ((a * 16 + digitV c.toNat : Nat) : Int) := by rw [IntKind.wrap_u64]; omega
    have q1 : ¬ (((a * 16 + digitV c.toNat : Nat) : Int) < ((a * 16 : Nat) : Int)) := by omega
    have q2 : ¬ ((18446744073709551615 : Int) < ((a * 16 + digitV c.toNat : Nat) : Int)) := by omega
    have he := ih (pre ++ [c]) (a * 16 + digitV c.toNat) k (by rw [hsp]; simp) (fun x hx => hr x (by simp [hx])) ha (by simp at hk; omega)
    rw [← he]
    refine rounds_step ?_
    by_cases hlet : 10 ≤ digitV c.toNat
    · have hFv := hFc hlet hd16
      have hl := hexLetter hlet hd16
      have e95 : ((c.toNat : Int) == 95) = false := by rw [Bool.eq_false_iff]; simp; omega
      have e48 : (48 : Int) ≤ (c.toNat : Int) := by omega
      have e57 : ¬ (c.toNat : Int) ≤ 57 := by omega
      have f1 : (97 : Int) ≤ ((digitV c.toNat + 87 : Nat) : Int) := by omega
      have f2 : ((digitV c.toNat + 87 : Nat) : Int) ≤ 122 := by omega
      have f3 : IntKind.u8.wrap (IntKind.u8.wrap (((digitV c.toNat + 87 : Nat) : Int) - 97) + 10) = (digitV c.toNat : Int) := by rw [IntKind.wrap_u8, IntKind.wrap_u8]; omega
      generalize digitV c.toNat = d at *
      generalize (a * 16 + d) = a2 at *
      generalize (a * 16) = a1 at *
      generalize ((d + 87 : Nat) : Int) = d87 at *
      simp [b125_0, List.replicate, hlt, bytesSV_length, hc, hp, hFv, e95, e48, e57, f1, f2, f3, h10, hcut, hw8, hw64, hw2, hw3, hw4, hw5, q1, q2]
    · have hl : 48 ≤ c.toNat ∧ c.toNat ≤ 57 ∧ digitV c.toNat = c.toNat - 48 := by
        unfold digitV at hlet hd16 ⊢
        (repeat' split at hlet) <;> (repeat' split at hd16) <;> (repeat' split) <;> omega
      have e95 : ((c.toNat : Int) == 95) = false := by rw [Bool.eq_false_iff]; simp; omega
      have e48 : (48 : Int) ≤ (c.toNat : Int) := by omega
      have e57 : (c.toNat : Int) ≤ 57 := by omega
      have hs8 : IntKind.u8.wrap ((c.toNat : Int) - 48) = (digitV c.toNat : Int) := by rw [IntKind.wrap_u8]; omega
      generalize digitV c.toNat = d at *
      generalize (a * 16 + d) = a2 at *
      generalize (a * 16) = a1 at *
      simp [b125_0, List.replicate, hlt, bytesSV_length, hc, hs8, e95, e48, e57, h10, hcut, hw8, hw64, hw2, hw3, hw4, hw5, q1, q2]

def S125u (F : List SV → Option AV) : Prop :=
  (∀ s : List UInt8, s.length < 1000000000000 → s ≠ [] → (∀ c ∈ s, digitV c.toNat < 16) → hexN 0 s < 18446744073709551616 → F [.str s, .int .i64 16, .int .i64 64] = some (.sv (.tup [.int .u64 (hexN 0 s : Nat), .nilI]))) ∧
  (∀ n : Nat, n < 18446744073709551616 → F [.str (decS n), .int .i64 0, .int .i64 64] = some (.sv (.tup [.int .u64 (n : Int), .nilI])))

theorem decS_head : ∀ n : Nat, 0 < n → ∃ c cs, decS n = c :: cs ∧ c.toNat ≠ 48 := by
  intro n
  induction n using Nat.strongRecOn with
  | _ n ih =>
    intro hn
    by_cases h : n < 10
    · refine ⟨UInt8.ofNat (48 + n), [], decS_small h, ?_⟩
      rw [dig_toNat h]; omega
    · obtain ⟨c, cs, h1, h2⟩ := ih (n / 10) (by omega) (by omega)
      exact ⟨c, cs ++ [UInt8.ofNat (48 + n % 10)], by rw [decS_step h, h1]; rfl, h2⟩

set_option maxRecDepth 100000 in
set_option maxHeartbeats 4000000 in
theorem ev125u (E : Env) (h : E.code 163 = some c125) (h135 : Has E 171 S135) : S125u (autoF E 163) := by
  have hsh : IntKind.u64.wrap (IntKind.u64.wrap (2 ^ min 64 IntKind.u64.bits) - 1) = 18446744073709551615 := by decide
  have hsh0 : IntKind.u64.wrap 64 = 64 := by decide
  refine ⟨fun s hs hne hd hv => ?_, fun n hn => ?_⟩
  · have hl := loop125h E (evF E (s.length + 1)) h135 s s hs (s.length + 1) s [] 0 (s.length + 1) rfl hd hv (by omega)
    refine autoF_sv (n := s.length + 1) ?_ rfl
    unfold evP
    simp only [h]
    simp only [List.replicate, List.cons_append, List.nil_append, List.length_nil, Int.ofNat_zero, Int.natCast_zero] at hl
    generalize hexN 0 s = v at *
    simp [c125, List.replicate, hne, hsh, hsh0, bytesSV_length, hl]
  · obtain ⟨g1, g2, g3⟩ := decS_dig n
    have hlen := decS_len20 hn
    by_cases hz : n = 0
    · subst hz
      have hl := loop125b E (evF E 1) true [48] [] (by simp) 1 [] [] 0 1 rfl (by simp) (by rw [digN_nil]; omega) (by simp)
      refine autoF_sv (n := 1) ?_ rfl
      unfold evP
      simp only [h]
      rw [decS_small (by omega)]
      kernel_rfl
    · obtain ⟨c, cs, hcs, h48⟩ := decS_head n (by omega)
      have hl := loop125b E (evF E ((decS n).length + 1)) true (decS n) (decS n) (by omega) ((decS n).length + 1) (decS n) [] 0 ((decS n).length + 1) rfl g2 (by rw [g1]; exact hn) (by omega)
      rw [g1] at hl
      refine autoF_sv (n := (decS n).length + 1) ?_ rfl
      unfold evP
      simp only [h]
      simp only [List.replicate, List.cons_append, List.nil_append, List.length_nil, Int.ofNat_zero, Int.natCast_zero] at hl
      have e48 : ((c.toNat : Int) == 48) = false := by rw [Bool.eq_false_iff]; simp; omega
      rw [hcs] at hl ⊢
      simp [c125, List.replicate, hsh, hsh0, bytesSV_length, e48]
      simp at hl
      simp [hl]

def S91 (F : List SV → Option AV) : Prop := S125u F

theorem ev91 (E : Env) (h : E.code 168 = some c91) (h125 : Has E 163 S125u) : S91 (autoF E 168) := by
  obtain ⟨F, hp, hF1, hF2⟩ := h125
  refine ⟨fun s hs hne hd hv => ?_, fun n hn => ?_⟩
  · have := hF1 s hs hne hd hv
    refine autoF_sv (n := 1) ?_ rfl
    unfold evP
    simp only [h]
    generalize hexN 0 s = v at *
    simp [c91, List.replicate, hp, this]
  · have := hF2 n hn
    refine autoF_sv (n := 1) ?_ rfl
    unfold evP
    simp only [h]
    generalize decS n = v at *
    simp [c91, List.replicate, hp, this]

end Go.Ev

set_option linter.unusedSimpArgs false
set_option linter.unusedVariables false
namespace Go.Ev
open Go.Proofs

/-! ### The first place of a sign -/

def S1166 (F : List SV → Option AV) : Prop := ∀ (b : UInt8) (s : List UInt8), s.length < 1000000000000 →
  ((∀ c ∈ s, c.toNat ≠ b.toNat) → F [.str s, .str [b]] = some (.sv (.int .i64 (-1)))) ∧
  ∀ w rest, s = w ++ b :: rest → (∀ c ∈ w, c.toNat ≠ b.toNat) → F [.str s, .str [b]] = some (.sv (.int .i64 (w.length : Int)))

theorem take_one {s : List UInt8} {i : Nat} {c : UInt8} {rest pre : List UInt8} (h : s = pre ++ c :: rest) (hi : i = pre.length) : (s.take (i + 1)).drop i = [c] := by
  subst h; subst hi
  rw [show pre.length + 1 = (pre ++ [c]).length from by simp, show pre ++ c :: rest = (pre ++ [c]) ++ rest from by simp, List.take_left, List.drop_left]

theorem loop1166 (E : Env) (cf : CallF) (b : UInt8) (s : List UInt8) (hs : s.length < 1000000000000) (m : Nat) :
    ∀ (rest pre : List UInt8) (i k : Nat), s = pre ++ rest → i = pre.length → rest.length < k →
      ((∀ c ∈ rest, c.toNat ≠ b.toNat) → rounds (evC E cf m b1166_0) k { tm := [.sv (.str s), .sv (.str [b]), .sv .undef, .sv .undef, .sv .undef, .sv (.int .i64 i)] ++ List.replicate 19 (.sv .undef), lz := none, bx := [], df := [] } = some (.exit 0, { tm := List.replicate 25 (.sv .undef), lz := none, bx := [], df := [] })) ∧
      ∀ w r2, rest = w ++ b :: r2 → (∀ c ∈ w, c.toNat ≠ b.toNat) → rounds (evC E cf m b1166_0) k { tm := [.sv (.str s), .sv (.str [b]), .sv .undef, .sv .undef, .sv .undef, .sv (.int .i64 i)] ++ List.replicate 19 (.sv .undef), lz := none, bx := [], df := [] } = some (.ret, { tm := List.replicate 4 (.sv .undef) ++ [.sv (.int .i64 ((i + w.length : Nat) : Int))] ++ List.replicate 20 (.sv .undef), lz := none, bx := [], df := [] }) := by
  intro rest
  induction rest with
  | nil =>
    intro pre i k hsp hi hk
    obtain ⟨k, rfl⟩ : ∃ k', k = k' + 1 := ⟨k - 1, by omega⟩
    have hl : s.length = i := by rw [hsp, hi]; simp
    have hw : IntKind.i64.wrap ((i : Int) + 1) = ((i + 1 : Nat) : Int) := by rw [IntKind.wrap_i64]; omega
    have hle : ¬ ((i + 1 : Nat) : Int) ≤ (i : Int) := by omega
    refine ⟨fun _ => ?_, fun w r2 h => by simp at h⟩
    refine rounds_out ?_ (by simp)
    generalize hj : ((i + 1 : Nat) : Int) = j at *
    have hnle : ¬ j ≤ (i : Int) := by omega
    simp [b1166_0, List.replicate, hl, hw, hnle]
  | cons c rest ih =>
    intro pre i k hsp hi hk
    obtain ⟨k, rfl⟩ : ∃ k', k = k' + 1 := ⟨k - 1, by omega⟩
    have hl : s.length = i + rest.length + 1 := by rw [hsp, hi]; simp; omega
    have hw : IntKind.i64.wrap ((i : Int) + 1) = ((i + 1 : Nat) : Int) := by rw [IntKind.wrap_i64]; omega
    have hle : ((i + 1 : Nat) : Int) ≤ (s.length : Int) := by omega
    have hle2 : i + 1 ≤ s.length := by omega
    have hii : i ≤ i + 1 := by omega
    have ht := take_one hsp hi
    obtain ⟨ih1, ih2⟩ := ih (pre ++ [c]) (i + 1) k (by rw [hsp]; simp) (by simp [hi]) (by simp at hk; omega)
    have hcb : ∀ x y : UInt8, ([x] == [y]) = decide (x.toNat = y.toNat) := fun x y => by
      rw [Bool.eq_iff_iff]; simp [UInt8.toNat_inj]
    have step : c.toNat ≠ b.toNat → evC E cf m b1166_0 { tm := [.sv (.str s), .sv (.str [b]), .sv .undef, .sv .undef, .sv .undef, .sv (.int .i64 i)] ++ List.replicate 19 (.sv .undef), lz := none, bx := [], df := [] } = some (.normal, { tm := [.sv (.str s), .sv (.str [b]), .sv .undef, .sv .undef, .sv .undef, .sv (.int .i64 ((i + 1 : Nat) : Int))] ++ List.replicate 19 (.sv .undef), lz := none, bx := [], df := [] }) := by
      intro hne
      have hbe := hcb c b
      rw [decide_eq_false hne] at hbe
      generalize hj : ((i + 1 : Nat) : Int) = j at *
      have hj0 : 0 ≤ j := by omega
      have hjt : j.toNat = i + 1 := by omega
      have hij : (i : Int) ≤ j := by omega
      have hii2 : (i : Int) ≤ (i : Int) + 1 := by omega
      have hcne : ¬ c = b := fun e => hne (by rw [e])
      simp [b1166_0, List.replicate, hw, hle, hle2, hii, ht, hbe, hj0, hjt, hij, hii2, hcne]
    refine ⟨fun h => ?_, fun w r2 h hwn => ?_⟩
    · rw [rounds_step (step (h c (by simp)))]
      exact ih1 (fun x hx => h x (by simp [hx]))
    · cases w with
      | nil =>
        simp only [List.nil_append, List.cons.injEq] at h
        obtain ⟨rfl, rfl⟩ := h
        refine rounds_out ?_ (by simp)
        have hbe := hcb c c
        rw [decide_eq_true rfl] at hbe
        simp only [List.length_nil, Nat.add_zero]
        generalize hj : ((i + 1 : Nat) : Int) = j at *
        have hj0 : 0 ≤ j := by omega
        have hjt : j.toNat = i + 1 := by omega
        have hij : (i : Int) ≤ j := by omega
        have hii2 : (i : Int) ≤ (i : Int) + 1 := by omega
        simp [b1166_0, List.replicate, hw, hle, hle2, hii, ht, hbe, hj0, hjt, hij, hii2]
      | cons d w =>
        simp only [List.cons_append, List.cons.injEq] at h
        obtain ⟨rfl, rfl⟩ := h
        rw [rounds_step (step (hwn c (by simp)))]
        have := ih2 w r2 rfl (fun x hx => hwn x (by simp [hx]))
        rw [this, show i + 1 + w.length = i + (c :: w).length from by simp; omega]

theorem ev1166 (E : Env) (h : E.code 166 = some c1166) : S1166 (autoF E 166) := by
  intro b s hs
  obtain ⟨h1, h2⟩ := loop1166 E (evF E (s.length + 1)) b s hs (s.length + 1) s [] 0 (s.length + 1) rfl rfl (by omega)
  refine ⟨fun hn => ?_, fun w rest hsp hw => ?_⟩
  · have hl := h1 hn
    refine autoF_sv (n := s.length + 1) ?_ rfl
    unfold evP
    simp only [h]
    simp only [List.replicate, List.cons_append, List.nil_append, Int.ofNat_zero, Int.natCast_zero] at hl
    simp [c1166, List.replicate, hl]
  · have hl := h2 w rest hsp hw
    refine autoF_sv (n := s.length + 1) ?_ rfl
    unfold evP
    simp only [h]
    simp only [List.replicate, List.cons_append, List.nil_append, Int.ofNat_zero, Int.natCast_zero, Nat.zero_add] at hl
    simp [c1166, List.replicate, hl]

theorem first_or (b : Nat) : ∀ s : List UInt8, (∀ c ∈ s, c.toNat ≠ b) ∨ ∃ w c rest, s = w ++ c :: rest ∧ c.toNat = b ∧ ∀ x ∈ w, x.toNat ≠ b
  | [] => .inl (by simp)
  | c :: s => by
    by_cases h : c.toNat = b
    · exact .inr ⟨[], c, s, rfl, h, by simp⟩
    · rcases first_or b s with h1 | ⟨w, d, rest, h1, h2, h3⟩
      · exact .inl fun x hx => by
          rcases List.mem_cons.1 hx with rfl | hx
          · exact h
          · exact h1 x hx
      · exact .inr ⟨c :: w, d, rest, by rw [h1]; rfl, h2, fun x hx => by
          rcases List.mem_cons.1 hx with rfl | hx
          · exact h
          · exact h3 x hx⟩

/-! ### A text split -/

def S1157 (F : List SV → Option AV) : Prop := ∀ (b : UInt8) (s : List UInt8), s.length < 100000000000 → F [.str s, .str [b]] = some (.sv (.sl (strs (partG b.toNat [] s))))

theorem loop1157 (E : Env) (cf : CallF) (h66 : Has E 166 S1166) (b : UInt8) (L m : Nat) (hL : L < 100000000000) :
    ∀ (k : Nat) (s : List UInt8) (acc : List SV), s.length < k → s.length + acc.length ≤ L →
      rounds (evC E cf m b1157_0) k { tm := [.sv (.str s), .sv (.str [b]), .sv .undef, .sv .undef, .sv .undef, accA 9 acc] ++ List.replicate 52 (.sv .undef), lz := none, bx := [], df := [] } =
        some (.ret, { tm := List.replicate 4 (.sv .undef) ++ [.own 9 (acc ++ strs (partG b.toNat [] s))] ++ List.replicate 53 (.sv .undef), lz := none, bx := [], df := [] }) := by
  obtain ⟨F, hp, hF⟩ := h66
  intro k
  induction k with
  | zero => intro s acc h; omega
  | succ k ih =>
    intro s acc hk hl
    obtain ⟨g1, g2⟩ := hF b s (by omega)
    have hl1 : (acc.length + 1) * 16 ≤ 140737488355328 := by omega
    have hl2 : acc.length + 1 ≤ 140737488355328 := by omega
    rcases first_or b.toNat s with hn | ⟨w, c, rest, hsp, hcb, hw⟩
    · rw [partG_none hn]
      have hFv := g1 hn
      refine rounds_out ?_ (by simp)
      cases acc with
      | nil => simp [b1157_0, List.replicate, hp, hFv, accA, strs]
      | cons y ys =>
        simp only [List.length_cons] at hl1 hl2
        simp [b1157_0, List.replicate, hp, hFv, accA, strs, hl1, hl2]
    · have : c = b := UInt8.toNat_inj.1 hcb
      subst this
      have hFv := g2 w rest hsp hw
      have hsl : s.length = w.length + rest.length + 1 := by rw [hsp]; simp; omega
      rw [hsp, partG_first hw, ← hsp]
      have he := ih rest (acc ++ [.str w]) (by omega) (by simp; omega)
      rw [show acc ++ strs (w :: partG c.toNat [] rest) = acc ++ [SV.str w] ++ strs (partG c.toNat [] rest) from by simp [strs], ← he]
      refine rounds_step ?_
      have hw1 : IntKind.i64.wrap ((w.length : Int) + 1) = ((w.length + 1 : Nat) : Int) := by rw [IntKind.wrap_i64]; omega
      have ht : s.take w.length = w := by rw [hsp, List.take_left]
      have hd : s.drop (w.length + 1) = rest := by
        rw [hsp, show w.length + 1 = (w ++ [c]).length from by simp, show w ++ c :: rest = (w ++ [c]) ++ rest from by simp, List.drop_left]
      have hle : w.length ≤ s.length := by omega
      have hle2 : ((w.length + 1 : Nat) : Int) ≤ (s.length : Int) := by omega
      have hng : ¬ (w.length : Int) < 0 := by omega
      generalize hj : ((w.length + 1 : Nat) : Int) = j at *
      have hj0 : 0 ≤ j := by omega
      have hjt : j.toNat = w.length + 1 := by omega
      cases acc with
      | nil => simp [b1157_0, List.replicate, hp, hFv, accA, strs, hw1, ht, hd, hle, hle2, hj0, hjt, hng]
      | cons y ys =>
        simp only [List.length_cons] at hl1 hl2
        simp [b1157_0, List.replicate, hp, hFv, accA, strs, hw1, ht, hd, hle, hle2, hl1, hl2, hj0, hjt, hng]

theorem ev1157 (E : Env) (h : E.code 157 = some c1157) (h66 : Has E 166 S1166) : S1157 (autoF E 157) := by
  intro b s hs
  have hl := loop1157 E (evF E (s.length + 1)) h66 b s.length (s.length + 1) hs (s.length + 1) s [] (by omega) (by simp)
  refine autoF_sl (n := s.length + 1) (r := .own 9 (strs (partG b.toNat [] s))) ?_ rfl
  unfold evP
  simp only [h]
  simp only [accA, List.replicate, List.cons_append, List.nil_append] at hl
  generalize strs (partG b.toNat [] s) = z at hl
  simp [c1157, List.replicate, hl]

/-! ### Addresses -/

def byV (hi lo : UInt8) : UInt8 := UInt8.ofNat (digitV hi.toNat * 16 + digitV lo.toNat)

theorem byV_toNat {hi lo : UInt8} (h1 : digitV hi.toNat < 16) (h2 : digitV lo.toNat < 16) : (byV hi lo).toNat = digitV hi.toNat * 16 + digitV lo.toNat := by
  unfold byV; simp; omega

def hexB : List UInt8 → List UInt8
  | a :: b :: r => byV a b :: hexB r
  | _ => []

/-- An address's bytes: each word backwards. -/
def addrV : List UInt8 → List UInt8
  | a :: b :: c :: d :: e :: f :: g :: h :: r => byV g h :: byV e f :: byV c d :: byV a b :: addrV r
  | _ => []

def S1177 (F : List SV → Option AV) : Prop := ∀ c : UInt8, digitV c.toNat < 16 → F [.int .u8 (c.toNat : Int)] = some (.sv (.tup [.int .u8 (digitV c.toNat : Int), .bool true]))

def S1174 (F : List SV → Option AV) : Prop := ∀ (k : Nat) (s : List UInt8), s.length = 2 * k → s.length < 1000000 → (∀ c ∈ s, digitV c.toNat < 16) → F [.str s] = some (.sv (.tup [.sl (bytesSV (hexB s)), .nilI]))

theorem or16 : ∀ a b : Fin 16, (a.val * 16 ||| b.val) = a.val * 16 + b.val := by decide

theorem or16' {a b : Nat} (ha : a < 16) (hb : b < 16) : (a * 16 ||| b) = a * 16 + b := or16 ⟨a, ha⟩ ⟨b, hb⟩

def addrF (s : List UInt8) : Prop := (s.length = 8 ∨ s.length = 32) ∧ ∀ c ∈ s, digitV c.toNat < 16

def S1169 (F : List SV → Option AV) : Prop := ∀ s : List UInt8, addrF s → F [.str s] = some (.sv (.tup [.sl (bytesSV (addrV s)), .nilI]))

end Go.Ev
