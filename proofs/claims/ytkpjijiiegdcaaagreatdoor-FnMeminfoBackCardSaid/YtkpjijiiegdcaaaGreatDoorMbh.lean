/- Numbers of base 16, and of any base by their writing; texts split: the program's functions. -/
/- Memory: the door: one line, the loop, the reading (lines printed by a program of this work). -/
import Derived.Test.YtkpjijiiegdcaaaGreatDoorMbc
import Derived.Test.YtkpjijiiegdcaaaGreatDoorMbg
import Derived.Test.YtkpjijiiegdcaaaGreatDoorMas
set_option linter.unusedSimpArgs false
set_option linter.unusedVariables false
namespace Go.Ev
open Go.Proofs

/-! ### Small letters -/

def S135 (F : List SV → Option AV) : Prop := ∀ c : UInt8, 10 ≤ digitV c.toNat → digitV c.toNat < 16 → F [.int .u8 (c.toNat : Int)] = some (.sv (.int .u8 ((digitV c.toNat + 87 : Nat) : Int)))

theorem hexLetter {c : Nat} (h : 10 ≤ digitV c) (h2 : digitV c < 16) : c = 65 ∨ c = 66 ∨ c = 67 ∨ c = 68 ∨ c = 69 ∨ c = 70 ∨ c = 97 ∨ c = 98 ∨ c = 99 ∨ c = 100 ∨ c = 101 ∨ c = 102 := by
  unfold digitV at h h2
  (repeat' split at h) <;> (repeat' split at h2) <;> omega

theorem ev135 (E : Env) (h : E.code 215 = some c135) : S135 (autoF E 215) := by
  intro c h1 h2
  refine autoF_sv (n := 1) ?_ rfl
  unfold evP
  simp only [h]
  generalize c.toNat = k at h1 h2 ⊢
  rcases hexLetter h1 h2 with rfl | rfl | rfl | rfl | rfl | rfl | rfl | rfl | rfl | rfl | rfl | rfl <;> kernel_rfl

/-! ### Numbers -/

set_option maxRecDepth 100000 in
set_option maxHeartbeats 4000000 in
theorem loop125b (E : Env) (cf : CallF) (b8 : Bool) (s0 s : List UInt8) (hs : s.length < 1000000000000) (m : Nat) :
    ∀ (rest pre : List UInt8) (a k : Nat), s = pre ++ rest → (∀ c ∈ rest, digC c = true) → digN a rest < 18446744073709551616 → rest.length < k →
      rounds (evC E cf m b125_0) k { tm := [.sv .undef, .sv (.int .i64 10)] ++ List.replicate 6 (.sv .undef) ++ [.sv (.bool b8), .sv (.str s0), .sv (.int .u64 1844674407370955162), .sv (.int .u64 18446744073709551615), .sv (.bool false), .sv (.int .u64 a)] ++ List.replicate 85 (.sv .undef) ++ [.sv (.sl (bytesSV s)), .sv (.int .i64 s.length), .sv (.int .i64 pre.length)] ++ List.replicate 70 (.sv .undef), lz := none, bx := [], df := [] } =
        some (.exit 3, { tm := List.replicate 9 (.sv .undef) ++ [.sv (.str s0), .sv .undef, .sv .undef, .sv (.bool false), .sv (.int .u64 (digN a rest : Nat))] ++ List.replicate 158 (.sv .undef), lz := none, bx := [], df := [] }) := by
  intro rest
  induction rest with
  | nil =>
    intro pre a k hsp hr ha hk
    obtain ⟨k, rfl⟩ : ∃ k', k = k' + 1 := ⟨k - 1, by omega⟩
    have hlt : ¬ (pre.length < s.length) := by rw [hsp]; simp
    refine rounds_out ?_ (by simp)
    simp [b125_0, List.replicate, hlt, digN_nil]
  | cons c rest ih =>
    intro pre a k hsp hr ha hk
    obtain ⟨k, rfl⟩ : ∃ k', k = k' + 1 := ⟨k - 1, by omega⟩
    have hlt : pre.length < s.length := by rw [hsp]; simp
    have hsl := congrArg List.length hsp
    simp only [List.length_append, List.length_cons] at hsl
    have hc : ∀ h : pre.length < (bytesSV s).length, (bytesSV s)[pre.length]'h = .int .u8 (c.toNat : Int) := by subst hsp; simp [bytesSV]
    have hw2 : IntKind.i64.wrap ((pre.length : Int) + 1) = ((pre ++ [c]).length : Int) := by rw [IntKind.wrap_i64]; simp; omega
    obtain ⟨d1, d2⟩ := digC_iff.1 (hr c (by simp))
    have hs8 : IntKind.u8.wrap ((c.toNat : Int) - 48) = ((dgt c : Nat) : Int) := by rw [IntKind.wrap_u8]; unfold dgt; omega
    have hd9 : dgt c ≤ 9 := by unfold dgt; omega
    have e95 : ((c.toNat : Int) == 95) = false := by rw [Bool.eq_false_iff]; simp; omega
    have e48 : (48 : Int) ≤ (c.toNat : Int) := by omega
    have e57 : (c.toNat : Int) ≤ 57 := by omega
    rw [digN_cons] at ha ⊢
    have hge := digN_ge rest (a * 10 + dgt c)
    generalize dgt c = d at *
    have h10 : ¬ (10 : Int) ≤ (d : Int) := by omega
    have hcut : ¬ (1844674407370955162 : Int) ≤ (a : Int) := by omega
    have hw8 : IntKind.u8.wrap 10 = 10 := by rw [IntKind.wrap_u8]; omega
    have hw64 : IntKind.u64.wrap 10 = 10 := by rw [IntKind.wrap_u64]; omega
    have hw3 : IntKind.u64.wrap (d : Int) = (d : Int) := by rw [IntKind.wrap_u64]; omega
    have hw4 : IntKind.u64.wrap ((a : Int) * 10) = ((a * 10 : Nat) : Int) := by rw [IntKind.wrap_u64]; omega
    have hw5 : IntKind.u64.wrap (((a * 10 : Nat) : Int) + (d : Int)) = ((a * 10 + d : Nat) : Int) := by rw [IntKind.wrap_u64]; omega
    have q1 : ¬ (((a * 10 + d : Nat) : Int) < ((a * 10 : Nat) : Int)) := by omega
    have q2 : ¬ ((18446744073709551615 : Int) < ((a * 10 + d : Nat) : Int)) := by omega
    have he := ih (pre ++ [c]) (a * 10 + d) k (by rw [hsp]; simp) (fun x hx => hr x (by simp [hx])) ha (by simp at hk; omega)
    rw [← he]
    refine rounds_step ?_
    generalize (a * 10 + d) = a2 at *
    generalize (a * 10) = a1 at *
    simp [b125_0, List.replicate, hlt, bytesSV_length, hc, hs8, e95, e48, e57, h10, hcut, hw8, hw64, hw2, hw3, hw4, hw5, q1, q2]

set_option maxRecDepth 100000 in
set_option maxHeartbeats 4000000 in
theorem loop125h (E : Env) (cf : CallF) (h135 : Has E 215 S135) (s0 s : List UInt8) (hs : s.length < 1000000000000) (m : Nat) :
    ∀ (rest pre : List UInt8) (a k : Nat), s = pre ++ rest → (∀ c ∈ rest, digitV c.toNat < 16) → hexN a rest < 18446744073709551616 → rest.length < k →
      rounds (evC E cf m b125_0) k { tm := [.sv .undef, .sv (.int .i64 16)] ++ List.replicate 6 (.sv .undef) ++ [.sv (.bool false), .sv (.str s0), .sv (.int .u64 1152921504606846976), .sv (.int .u64 18446744073709551615), .sv (.bool false), .sv (.int .u64 a)] ++ List.replicate 85 (.sv .undef) ++ [.sv (.sl (bytesSV s)), .sv (.int .i64 s.length), .sv (.int .i64 pre.length)] ++ List.replicate 70 (.sv .undef), lz := none, bx := [], df := [] } =
        some (.exit 3, { tm := List.replicate 9 (.sv .undef) ++ [.sv (.str s0), .sv .undef, .sv .undef, .sv (.bool false), .sv (.int .u64 (hexN a rest : Nat))] ++ List.replicate 158 (.sv .undef), lz := none, bx := [], df := [] }) := by
  obtain ⟨F, hp, hF⟩ := h135
  intro rest
  induction rest with
  | nil =>
    intro pre a k hsp hr ha hk
    obtain ⟨k, rfl⟩ : ∃ k', k = k' + 1 := ⟨k - 1, by omega⟩
    have hlt : ¬ (pre.length < s.length) := by rw [hsp]; simp
    refine rounds_out ?_ (by simp)
    simp [b125_0, List.replicate, hlt, hexN_nil]
  | cons c rest ih =>
    intro pre a k hsp hr ha hk
    obtain ⟨k, rfl⟩ : ∃ k', k = k' + 1 := ⟨k - 1, by omega⟩
    have hlt : pre.length < s.length := by rw [hsp]; simp
    have hsl := congrArg List.length hsp
    simp only [List.length_append, List.length_cons] at hsl
    have hc : ∀ h : pre.length < (bytesSV s).length, (bytesSV s)[pre.length]'h = .int .u8 (c.toNat : Int) := by subst hsp; simp [bytesSV]
    have hw2 : IntKind.i64.wrap ((pre.length : Int) + 1) = ((pre ++ [c]).length : Int) := by rw [IntKind.wrap_i64]; simp; omega
    have hd16 := hr c (by simp)
    have hFc := hF c
    rw [hexN_cons] at ha ⊢
    have hge := hexN_ge rest (a * 16 + digitV c.toNat)
    have h10 : ¬ (16 : Int) ≤ (digitV c.toNat : Int) := by omega
    have hcut : ¬ (1152921504606846976 : Int) ≤ (a : Int) := by omega
    have hw8 : IntKind.u8.wrap 16 = 16 := by rw [IntKind.wrap_u8]; omega
    have hw64 : IntKind.u64.wrap 16 = 16 := by rw [IntKind.wrap_u64]; omega
    have hw3 : IntKind.u64.wrap (digitV c.toNat : Int) = (digitV c.toNat : Int) := by rw [IntKind.wrap_u64]; omega
    have hw4 : IntKind.u64.wrap ((a : Int) * 16) = ((a * 16 : Nat) : Int) := by rw [IntKind.wrap_u64]; omega
    have hw5 : IntKind.u64.wrap (((a * 16 : Nat) : Int) + (digitV c.toNat : Int)) = ((a * 16 + digitV c.toNat : Nat) : Int) := by rw [IntKind.wrap_u64]; omega
    have q1 : ¬ (((a * 16 + digitV c.toNat : Nat) : Int) < ((a * 16 : Nat) : Int)) := by omega
    have q2 : ¬ ((18446744073709551615 : Int) < ((a * 16 + digitV c.toNat : Nat) : Int)) := by omega
    have he := ih (pre ++ [c]) (a * 16 + digitV c.toNat) k (by rw [hsp]; simp) (fun x hx => hr x (by simp [hx])) ha (by simp at hk; omega)
    rw [← he]
    refine rounds_step ?_
    by_cases hlet : 10 ≤ digitV c.toNat
    · have hFv := hFc hlet hd16
      have hl := hexLetter hlet hd16
      have e95 : ((c.toNat : Int) == 95) = false := by rw [Bool.eq_false_iff]; simp; omega
      have e48 : (48 : Int) ≤ (c.toNat : Int) := by omega
      have e57 : ¬ (c.toNat : Int) ≤ 57 := by omega
      have f1 : (97 : Int) ≤ ((digitV c.toNat + 87 : Nat) : Int) := by omega
      have f2 : ((digitV c.toNat + 87 : Nat) : Int) ≤ 122 := by omega
      have f3 : IntKind.u8.wrap (IntKind.u8.wrap (((digitV c.toNat + 87 : Nat) : Int) - 97) + 10) = (digitV c.toNat : Int) := by rw [IntKind.wrap_u8, IntKind.wrap_u8]; omega
      generalize digitV c.toNat = d at *
      generalize (a * 16 + d) = a2 at *
      generalize (a * 16) = a1 at *
      generalize ((d + 87 : Nat) : Int) = d87 at *
      simp [b125_0, List.replicate, hlt, bytesSV_length, hc, hp, hFv, e95, e48, e57, f1, f2, f3, h10, hcut, hw8, hw64, hw2, hw3, hw4, hw5, q1, q2]
    · have hl : 48 ≤ c.toNat ∧ c.toNat ≤ 57 ∧ digitV c.toNat = c.toNat - 48 := by
        unfold digitV at hlet hd16 ⊢
        (repeat' split at hlet) <;> (repeat' split at hd16) <;> (repeat' split) <;> omega
      have e95 : ((c.toNat : Int) == 95) = false := by rw [Bool.eq_false_iff]; simp; omega
      have e48 : (48 : Int) ≤ (c.toNat : Int) := by omega
      have e57 : (c.toNat : Int) ≤ 57 := by omega
      have hs8 : IntKind.u8.wrap ((c.toNat : Int) - 48) = (digitV c.toNat : Int) := by rw [IntKind.wrap_u8]; omega
      generalize digitV c.toNat = d at *
      generalize (a * 16 + d) = a2 at *
      generalize (a * 16) = a1 at *
      simp [b125_0, List.replicate, hlt, bytesSV_length, hc, hs8, e95, e48, e57, h10, hcut, hw8, hw64, hw2, hw3, hw4, hw5, q1, q2]

def S125u (F : List SV → Option AV) : Prop :=
  (∀ s : List UInt8, s.length < 1000000000000 → s ≠ [] → (∀ c ∈ s, digitV c.toNat < 16) → hexN 0 s < 18446744073709551616 → F [.str s, .int .i64 16, .int .i64 64] = some (.sv (.tup [.int .u64 (hexN 0 s : Nat), .nilI]))) ∧
  (∀ n : Nat, n < 18446744073709551616 → F [.str (decS n), .int .i64 0, .int .i64 64] = some (.sv (.tup [.int .u64 (n : Int), .nilI])))

theorem decS_head : ∀ n : Nat, 0 < n → ∃ c cs, decS n = c :: cs ∧ c.toNat ≠ 48 := by
  intro n
  induction n using Nat.strongRecOn with
  | _ n ih =>
    intro hn
    by_cases h : n < 10
    · refine ⟨UInt8.ofNat (48 + n), [], decS_small h, ?_⟩
      rw [dig_toNat h]; omega
    · obtain ⟨c, cs, h1, h2⟩ := ih (n / 10) (by omega) (by omega)
      exact ⟨c, cs ++ [UInt8.ofNat (48 + n % 10)], by rw [decS_step h, h1]; rfl, h2⟩

set_option maxRecDepth 100000 in
set_option maxHeartbeats 4000000 in
theorem ev125u (E : Env) (h : E.code 208 = some c125) (h135 : Has E 215 S135) : S125u (autoF E 208) := by
  have hsh : IntKind.u64.wrap (IntKind.u64.wrap (2 ^ min 64 IntKind.u64.bits) - 1) = 18446744073709551615 := by decide
  have hsh0 : IntKind.u64.wrap 64 = 64 := by decide
  refine ⟨fun s hs hne hd hv => ?_, fun n hn => ?_⟩
  · have hl := loop125h E (evF E (s.length + 1)) h135 s s hs (s.length + 1) s [] 0 (s.length + 1) rfl hd hv (by omega)
    refine autoF_sv (n := s.length + 1) ?_ rfl
    unfold evP
    simp only [h]
    simp only [List.replicate, List.cons_append, List.nil_append, List.length_nil, Int.ofNat_zero, Int.natCast_zero] at hl
    generalize hexN 0 s = v at *
    simp [c125, List.replicate, hne, hsh, hsh0, bytesSV_length, hl]
  · obtain ⟨g1, g2, g3⟩ := decS_dig n
    have hlen := decS_len20 hn
    by_cases hz : n = 0
    · subst hz
      have hl := loop125b E (evF E 1) true [48] [] (by simp) 1 [] [] 0 1 rfl (by simp) (by rw [digN_nil]; omega) (by simp)
      refine autoF_sv (n := 1) ?_ rfl
      unfold evP
      simp only [h]
      rw [decS_small (by omega)]
      kernel_rfl
    · obtain ⟨c, cs, hcs, h48⟩ := decS_head n (by omega)
      have hl := loop125b E (evF E ((decS n).length + 1)) true (decS n) (decS n) (by omega) ((decS n).length + 1) (decS n) [] 0 ((decS n).length + 1) rfl g2 (by rw [g1]; exact hn) (by omega)
      rw [g1] at hl
      refine autoF_sv (n := (decS n).length + 1) ?_ rfl
      unfold evP
      simp only [h]
      simp only [List.replicate, List.cons_append, List.nil_append, List.length_nil, Int.ofNat_zero, Int.natCast_zero] at hl
      have e48 : ((c.toNat : Int) == 48) = false := by rw [Bool.eq_false_iff]; simp; omega
      rw [hcs] at hl ⊢
      simp [c125, List.replicate, hsh, hsh0, bytesSV_length, e48]
      simp at hl
      simp [hl]

def S91 (F : List SV → Option AV) : Prop := S125u F

theorem ev91 (E : Env) (h : E.code 195 = some c91) (h125 : Has E 208 S125u) : S91 (autoF E 195) := by
  obtain ⟨F, hp, hF1, hF2⟩ := h125
  refine ⟨fun s hs hne hd hv => ?_, fun n hn => ?_⟩
  · have := hF1 s hs hne hd hv
    refine autoF_sv (n := 1) ?_ rfl
    unfold evP
    simp only [h]
    generalize hexN 0 s = v at *
    simp [c91, List.replicate, hp, this]
  · have := hF2 n hn
    refine autoF_sv (n := 1) ?_ rfl
    unfold evP
    simp only [h]
    generalize decS n = v at *
    simp [c91, List.replicate, hp, this]

end Go.Ev

set_option linter.unusedSimpArgs false
set_option linter.unusedVariables false
namespace Go.Ev
open Go.Proofs

def d4065_0 : ACode := .seq (.seq (.seq (.region 0 [⟨some 12, .mov (.t 5), none⟩, ⟨some 13, .call (.c (.fn 182 [] [])) [.t 12], none⟩]) (.kill [12])) (.cond (.t 13) (.seq (.kill [13]) .skip) (.seq (.kill [5, 13]) (.exit 0)))) (.block 1 (.seq (.seq (.region 0 [⟨some 14, .mov (.t 5), none⟩, ⟨some 15, .call (.c (.fn 184 [] [])) [.t 14], none⟩, ⟨some 16, .call (.c (.fn 194 [] [])) [.t 15], none⟩, ⟨some 6, .asg (.t 16), none⟩]) (.kill [14, 15, 16])) (.seq (.seq (.seq (.region 0 [⟨some 17, .mov (.t 6), none⟩, ⟨some 18, .lenL (.t 17), none⟩, ⟨some 19, .bin .lss (.t 18) (.c (.int .i64 2)), none⟩, ⟨some 20, .mov (.t 19), none⟩, ⟨some 21, .mov (.t 6), some (3, false)⟩, ⟨some 22, .lenL (.t 21), some (3, false)⟩, ⟨some 23, .bin .gtr (.t 22) (.c (.int .i64 3)), some (3, false)⟩, ⟨some 24, .pick (.t 20) (.c (.bool true)) (.t 23), none⟩]) (.kill [17, 18, 19, 20, 21, 22, 23])) (.cond (.t 24) (.seq (.kill [4, 5, 6, 24]) (.seq (.seq (.region 0 [⟨some 25, .call (.c (.fn 66 [] [])) [.c (.str [58, 32, 77, 97, 108, 102, 111, 114, 109, 101, 100, 32, 108, 105, 110, 101])], none⟩, ⟨some 2, .asg (.c .nilP), none⟩, ⟨some 3, .asg (.t 25), none⟩]) (.kill [25])) .ret)) (.seq (.kill [24]) .skip))) (.seq (.region 0 [⟨some 7, .new [.int .u64 0], none⟩, ⟨some 8, .new [.int .u64 0], none⟩]) (.seq (.seq (.region 0 [⟨some 27, .mov (.t 6), none⟩, ⟨some 28, .iAddrS 1 (.t 27) (.c (.int .i64 1)), none⟩, ⟨some 29, .load none (.t 28), none⟩, ⟨some 30, .call (.c (.fn 195 [] [])) [.t 29, .c (.int .i64 0), .c (.int .i64 64)], none⟩, ⟨some 26, .mov (.t 30), none⟩, ⟨some 31, .ext (.t 26) 0, none⟩, ⟨some 32, .ext (.t 26) 1, none⟩, ⟨none, .store none (.t 7) (.t 31), none⟩, ⟨some 9, .asg (.t 32), none⟩]) (.kill [26, 27, 28, 29, 30, 31, 32])) (.seq (.seq (.seq (.region 0 [⟨some 33, .mov (.t 9), none⟩, ⟨some 34, .isNil .i true (.t 33), none⟩]) (.kill [33])) (.cond (.t 34) (.seq (.kill [4, 5, 6, 7, 8, 34]) (.seq (.seq (.region 0 [⟨some 35, .mov (.t 9), none⟩, ⟨some 2, .asg (.c .nilP), none⟩, ⟨some 3, .asg (.t 35), none⟩]) (.kill [9, 35])) .ret)) (.seq (.kill [9, 34]) .skip))) (.seq (.seq (.seq (.region 0 [⟨some 36, .mov (.t 6), none⟩, ⟨some 37, .lenL (.t 36), none⟩]) (.kill [36])) (.block 2 (.seq (.seq (.region 0 [⟨some 40, .bin .eql (.t 37) (.c (.int .i64 2)), none⟩, ⟨some 39, .asg (.t 40), none⟩]) (.kill [40])) (.cond (.t 39) (.seq (.kill [37, 39]) (.seq (.region 0 [⟨some 41, .load none (.t 7), none⟩, ⟨none, .store none (.t 8) (.t 41), none⟩]) (.kill [41]))) (.seq (.kill [39]) (.seq (.seq (.region 0 [⟨some 43, .bin .eql (.t 37) (.c (.int .i64 3)), none⟩, ⟨some 42, .asg (.t 43), none⟩]) (.kill [37, 43])) (.cond (.t 42) (.seq (.kill [42]) (.seq (.seq (.seq (.region 0 [⟨some 44, .mov (.t 6), none⟩, ⟨some 45, .iAddrS 1 (.t 44) (.c (.int .i64 2)), none⟩, ⟨some 46, .load none (.t 45), none⟩, ⟨some 47, .bin .neq (.t 46) (.c (.str [107, 66])), none⟩]) (.kill [44, 45, 46])) (.cond (.t 47) (.seq (.kill [4, 5, 6, 7, 8, 47]) (.seq (.seq (.region 0 [⟨some 48, .call (.c (.fn 66 [] [])) [.c (.str [58, 32, 85, 110, 115, 117, 112, 112, 111, 114, 116, 101, 100, 32, 117, 110, 105, 116, 32, 105, 110, 32, 111, 112, 116, 105, 111, 110, 97, 108, 32, 51, 114, 100, 32, 102, 105, 101, 108, 100])], none⟩, ⟨some 2, .asg (.c .nilP), none⟩, ⟨some 3, .asg (.t 48), none⟩]) (.kill [48])) .ret)) (.seq (.kill [47]) .skip))) (.seq (.region 0 [⟨some 49, .load none (.t 7), none⟩, ⟨some 50, .bin .mul (.c (.int .u64 1024)) (.t 49), none⟩, ⟨none, .store none (.t 8) (.t 50), none⟩]) (.kill [49, 50])))) (.seq (.kill [4, 5, 6, 7, 8, 42]) (.seq (.seq (.region 0 [⟨some 38, .call (.c (.fn 66 [] [])) [.c (.str [58, 32, 77, 97, 108, 102, 111, 114, 109, 101, 100, 32, 108, 105, 110, 101])], none⟩, ⟨some 2, .asg (.c .nilP), none⟩, ⟨some 3, .asg (.t 38), none⟩]) (.kill [38])) .ret))))))))) (.seq (.seq (.region 0 [⟨some 51, .mov (.t 6), none⟩, ⟨some 52, .iAddrS 1 (.t 51) (.c (.int .i64 0)), none⟩, ⟨some 53, .load none (.t 52), none⟩]) (.kill [6, 51, 52])) (.block 3 (swAll swData))))))))))

set_option maxRecDepth 100000 in
theorem cut4065 : b4065_0 = d4065_0 := by kernel_rfl

def st4065 (C : List Cell) (s t : List UInt8) (K : List Box) (D : List Nat) : SA := enSw C (scanBox s t) K D

set_option maxRecDepth 100000 in
set_option maxHeartbeats 8000000 in
theorem line4065 {F G : List SV → Option AV} (E : Env) (cf : CallF) (m : Nat) (hp88 : E.pure 182 = none) (hp90 : E.pure 184 = none) (hp127 : E.pure 194 = some F) (hp91 : E.pure 195 = some G) (C C2 : List Cell) (hC : C.length = 106) (s t rest line : List UInt8) (K K2 : List Box) (D : List Nat) (lab num : List UInt8) (pg : Bool) (v u : Int) (hu : u = if pg = true then v else IntKind.u64.wrap (1024 * v))
    (hsc : cf 182 [.ptr 1 0] (.live C :: scanBox s t :: K) = some (.sv (.bool true), .live C :: scanBox rest line :: K)) (htx : cf 184 [.ptr 1 0] (.live C :: scanBox rest line :: K) = some (.sv (.str line), .live C :: scanBox rest line :: K))
    (hF : F [.str line] = some (.sv (.sl (.str lab :: .str num :: (if pg = true then [] else [.str [107, 66]]))))) (hG : G [.str num, .int .i64 0, .int .i64 64] = some (.sv (.tup [.int .u64 v, .nilI])))
    (hsw : evCA E cf m (swAll swData) (stSw lab C (scanBox rest line) (K ++ [.live [.sv (.int .u64 v)], .live [.sv (.int .u64 u)]]) K.length (K.length + 1) D) = some (.normal, enSw C2 (scanBox rest line) K2 D)) :
    evCA E cf m d4065_0 (st4065 C s t K D) = some (.normal, st4065 C2 rest line K2 D) := by
  unfold stSw at hsw
  unfold st4065 enSw at *
  generalize hR : swAll swData = R at *
  unfold d4065_0
  rw [hR]
  generalize scanBox rest line = Z2 at *
  generalize scanBox s t = Z1 at *
  cases pg with
  | true =>
    simp only [if_true] at hF hu
    subst hu
    simp [hp88, hp90, hsc, htx, hp127, hF, hp91, hG, hsw]
  | false =>
    simp only [Bool.false_eq_true, if_false] at hF hu
    have hu' := hu.symm
    simp [hp88, hp90, hsc, htx, hp127, hF, hp91, hG, hu', hsw]

theorem out4065 (E : Env) (cf : CallF) (m : Nat) (hp88 : E.pure 182 = none) (C : List Cell) (t : List UInt8) (K : List Box) (D : List Nat)
    (hs : cf 182 [.ptr 1 0] (.live C :: scanBox [] t :: K) = some (.sv (.bool false), .live C :: scanBox [] [] :: K)) :
    evCA E cf m d4065_0 (st4065 C [] t K D) = some (.exit 0, { nt := 270, tm := [(4, .ptr 0 0)], lz := none, bx := .live C :: scanBox [] [] :: K, df := D }) := by
  unfold st4065 enSw d4065_0
  generalize swAll swData = R at *
  generalize scanBox [] t = Z1 at *
  generalize scanBox [] [] = Z2 at *
  simp [hp88, hs]

theorem rowOf_dist : ∀ (done : List RowD) (nm : List UInt8), (done.map RowD.name).all (fun p => !(nm == p)) = true → rowOf done nm = none
  | [], _, _ => rfl
  | q :: done, nm, h => by
    simp only [List.map_cons, List.all_cons, Bool.and_eq_true] at h
    unfold rowOf
    rw [if_neg, rowOf_dist done nm h.2]
    intro e
    rw [e] at h
    simp at h

set_option maxHeartbeats 4000000 in
theorem loop4065 (E : Env) (N m : Nat) (h88 : E.code 182 = some c88) (h90 : E.code 184 = some c90) (h127 : E.pure 194 = some F127) (h91 : Has E 195 S91) (hp88 : E.pure 182 = none) (hp90 : E.pure 184 = none) (D : List Nat) :
    ∀ (rs done : List RowD) (s t : List UInt8) (K : List Box) (k : Nat), (lineG [] s).map fieldsL = rs.map memFlds → (∀ c ∈ s, plainC c = true) → (∀ r ∈ rs, memOk1 r = true) → distP (done.map RowD.name) (rs.map RowD.name) = true → s.length ≤ 40000 → s.length < N → rs.length < k →
      ∃ K' Z, roundsA (evCA E (evF E (N + 1)) m b4065_0) k (st4065 (memC done) s t K D) = some (.exit 0, { nt := 270, tm := [(4, .ptr 0 0)], lz := none, bx := .live (memC (done ++ rs)) :: Z :: K', df := D }) := by
  obtain ⟨G, pG, _, sG⟩ := h91
  intro rs
  induction rs with
  | nil =>
    intro done s t K k hn hpl _ _ hl hN hk
    obtain ⟨k, rfl⟩ : ∃ k', k = k' + 1 := ⟨k - 1, by omega⟩
    rcases line_cases s with rfl | ⟨line, rest, h1, h2, h3⟩
    · rw [List.append_nil]
      have hs := scan88e E h88 1 (.live (memC done) :: scanBox [] t :: K) t rfl N
      exact ⟨K, scanBox [] [], roundsA_out (by rw [cut4065]; exact out4065 E (evF E (N + 1)) m hp88 (memC done) t K D hs) (by simp)⟩
    · rw [h2] at hn
      simp at hn
  | cons r rs ih =>
    intro done s t K k hn hpl hok hd hl hN hk
    obtain ⟨k, rfl⟩ : ∃ k', k = k' + 1 := ⟨k - 1, by omega⟩
    rcases line_cases s with rfl | ⟨line, rest, h1, h2, h3⟩
    · simp [lineG] at hn
    · rw [h2] at hn
      simp only [List.map_cons, List.cons.injEq] at hn
      obtain ⟨hfl, hn⟩ := hn
      obtain ⟨f, n, hf, rfl, hn53⟩ := memOk1_spec (hok r (by simp))
      have hll : line.length ≤ s.length ∧ rest.length ≤ s.length ∧ (∀ c ∈ line, plainC c = true) ∧ (∀ c ∈ rest, plainC c = true) := by
        rcases h3 with rfl | ⟨rfl, rfl, _⟩
        · refine ⟨by simp, by simp; omega, fun c hc => hpl c (by simp [hc]), fun c hc => hpl c (by simp [hc])⟩
        · exact ⟨by omega, by simp, hpl, by simp⟩
      obtain ⟨l1, l2, l3, l4⟩ := hll
      have hr10 : ∀ c ∈ line, c.toNat ≠ 10 ∧ c.toNat ≠ 13 := fun c hc => ⟨h1 c hc, (plain13 (l3 c hc)).2⟩
      have hsc : evF E (N + 1) 182 [.ptr 1 0] (.live (memC done) :: scanBox s t :: K) = some (.sv (.bool true), .live (memC done) :: scanBox rest line :: K) := by
        rcases h3 with rfl | ⟨rfl, rfl, hne⟩
        · exact scan88 E h88 1 (.live (memC done) :: scanBox (line ++ 10 :: rest) t :: K) line rest t rfl (by omega) (by omega) hr10 N (by omega)
        · exact scan88n E h88 1 (.live (memC done) :: scanBox s t :: K) s t rfl hne (by omega) hr10 N (by omega)
      have htx := evF90 E h90 N 1 (.live (memC done) :: scanBox rest line :: K) rest line rfl
      have hF : F127 [.str line] = some (.sv (.sl (.str (f.label ++ [58]) :: .str (decS n) :: (if f.pg = true then [] else [.str [107, 66]])))) := by
        have := F127_eq line (by omega) (fun c hc => (plain13 (l3 c hc)).1)
        rw [words_fields (fun c hc => ⟨l3 c hc, h1 c hc⟩), hfl] at this
        rw [this]
        unfold memFlds kB
        simp only [memLab_of hf, memPg_of f hf, List.headD_cons]
        cases f.pg <;> rfl
      have hG := sG n (by omega)
      obtain ⟨u, hu⟩ : ∃ u : Int, u = if f.pg = true then (n : Int) else IntKind.u64.wrap (1024 * (n : Int)) := ⟨_, rfl⟩
      have hu2 : f.pg = false → u = ((1024 * n : Nat) : Int) := by
        intro hpg
        rw [hu, hpg, if_neg (by simp), IntKind.wrap_u64]
        omega
      simp only [distP, List.map_cons, Bool.and_eq_true] at hd
      have hro := rowOf_dist done f.name hd.1
      obtain ⟨e, K2, he, hnm, hsw⟩ := swRun E (evF E (N + 1)) m f hf n (memC done) (memC_len done) (scanBox rest line) (K ++ [.live [.sv (.int .u64 (n : Int))], .live [.sv (.int .u64 u)]]) K.length (K.length + 1) (by omega) (by simp) u hu2 (by simp) D
      rw [← hnm] at hro
      rw [memC_snoc he done n hro, hnm] at hsw
      have hst := line4065 E (evF E (N + 1)) m hp88 hp90 h127 pG (memC done) _ (memC_len done) s t rest line K K2 D (f.label ++ [58]) (decS n) f.pg (n : Int) u hu hsc htx hF hG hsw
      obtain ⟨K3, Z, he3⟩ := ih (done ++ [⟨f.name, [n], []⟩]) rest line K2 k hn l4 (fun r hr => hok r (by simp [hr])) (by rw [List.map_append]; exact hd.2) (by omega) (by omega) (by simp at hk; omega)
      refine ⟨K3, Z, ?_⟩
      rw [← cut4065] at hst
      rw [roundsA_step hst, he3]
      simp

def vA (rs : List RowD) (x : List UInt8) : SV := match numOf rs x with
  | some n => .ref [.int .u64 (n : Int)]
  | none => .nilP
def vB (rs : List RowD) (x : List UInt8) : SV := match numOf rs x with
  | some n => .ref [.int .u64 ((1024 * n : Nat) : Int)]
  | none => .nilP
def memV (rs : List RowD) : List SV := memN.map (vA rs) ++ memNB.map (vB rs)

theorem memC_memV (rs : List RowD) : memC rs = (memV rs).map Cell.sv := by
  unfold memC memV
  rw [List.map_append, List.map_map, List.map_map]
  congr 1
  · refine List.map_congr_left fun x _ => ?_
    unfold cA
    simp only [Function.comp, vA]
    cases numOf rs x <;> rfl
  · refine List.map_congr_left fun x _ => ?_
    unfold cB
    simp only [Function.comp, vB]
    cases numOf rs x <;> rfl

theorem memV_plain (rs : List RowD) : (memV rs).map (Cell.plain ∘ Cell.sv) = memV rs := by
  unfold memV
  rw [List.map_append, List.map_map, List.map_map]
  congr 1
  · refine List.map_congr_left fun x _ => ?_
    simp only [Function.comp, vA]
    cases numOf rs x <;> rfl
  · refine List.map_congr_left fun x _ => ?_
    simp only [Function.comp, vB]
    cases numOf rs x <;> rfl

theorem memC_nil : memC [] = List.replicate 106 (.sv .nilP) := rfl

def S4065 (F : List SV → Option AV) : Prop := ∀ (s : List UInt8) (rs : List RowD), memRd s rs → memOk rs = true → s.length ≤ 40000 → F [.str s] = some (.sv (.tup [.ref (memV rs), .nilI]))

set_option maxRecDepth 100000 in
set_option maxHeartbeats 8000000 in
theorem ev4065 (E : Env) (h : E.code 65 = some c4065) (h87 : E.code 181 = some c87) (h88 : E.code 182 = some c88) (h90 : E.code 184 = some c90) (h127 : E.pure 194 = some F127) (h91 : Has E 195 S91) (hp87 : E.pure 181 = none) (hp88 : E.pure 182 = none) (hp90 : E.pure 184 = none) : S4065 (autoF E 65) := by
  intro s rs hrd hok hs
  have hl := memRd_lines hok hrd
  rw [linesL_eq] at hl
  have hok' := hok
  unfold memOk at hok'
  rw [Bool.and_eq_true, List.all_eq_true] at hok'
  have hlen : rs.length ≤ s.length + 1 := by
    have := congrArg List.length hl
    rw [List.length_map, List.length_map, ← linesL_eq] at this
    obtain ⟨_, k1, _⟩ := linesV_shape s
    omega
  obtain ⟨N, hN⟩ : ∃ N, N = 50000 := ⟨_, rfl⟩
  have e87 := evF87 E h87 N [.live (List.replicate 106 (.sv .nilP))] s
  obtain ⟨K', Z, he⟩ := loop4065 E N (N + 1) h88 h90 h127 h91 hp88 hp90 [] rs [] s [] [] (N + 1) hl (List.all_eq_true.1 hrd.1) hok'.1 (by simpa using hok'.2) hs (by omega) (by omega)
  rw [memC_nil, List.nil_append, memC_memV] at he
  have hpv := memV_plain rs
  unfold st4065 enSw at he
  simp only [List.length_cons, List.length_nil, List.cons_append, List.nil_append, Nat.zero_add] at e87
  generalize memV rs = V at *
  generalize scanBox s [] = Z0 at *
  simp only [List.replicate] at e87 he
  refine autoA_sv (n := N + 1) ?_ rfl
  unfold evPA
  simp only [h]
  clear hN
  simp [c4065, hp87, e87, he, hpv]

end Go.Ev
